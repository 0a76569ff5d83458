import JvmDerived
import JvmDerived.Pilot.@@N@@Statement
import JvmDerived.Pilot.@@N@@Code
set_option linter.unusedVariables false
set_option linter.unusedSimpArgs false
namespace Jvm.RoadKit
open Sem ClassFile Op Lib Jvm.Stand Jvm.Free Jvm.LawKit
section New
variable {p : Program} {l : Launch} {e : Env} {R : Room} {s : State} {m : MethodId} {args : Array Value} {below : List Frame} {meth : Method} {c : Code} {T : State} {locs : List Loc} {cells slots : Nat}
theorem retI (X : Stand p l e R s m args below meth c T locs cells slots) (hx : p.tables.exec = Jvm.exec) {pc : Nat} {Ls : Array Slot} {z : Int32} {rest : List Value} (hret : meth.sig.returnType = some .int) (hd : decode c.code pc = .ok (.ireturn, 1)) {fs : List Frame}
    (hl : ∀ (f : JFrame) (acts : List Action), f.method = m → f.locked = none → f.entered = [] → (doReturn e (T.setTop f) acts (some (.int z))).1 = T.setFrames fs) : Steps p.tables e below (T.setTop (mkF m pc Ls (.int z :: rest))) (T.setFrames fs) := by
  have hm' : T.vm.method? m = some meth := X.method'
  have hn : narrow .int (.int z) = .int z := rfl
  show Steps p.tables e below (T.setTop { method := m, pc := pc, locals := Ls, stack := _ :: rest, locked := none }) _
  jvm_step X.here [X.here.top, hx, hd, hm', hret, hn]
  first | (intro acts; rw [hl _ acts rfl rfl rfl]) | rw [hl _ _ rfl rfl rfl]
  exact Steps.refl _
end New
end Jvm.RoadKit
namespace Jvm.RoadKit.XD
open Sem ClassFile Op Lib Jvm.Free Jvm.Stand
theorem i2d {tb : Tables} [Ours tb] {e : Env} {below : List Frame} {T target : State} {m : MethodId} {c : Code} {g : JFrame} (h : At T m c below) (hx : tb.exec = Jvm.exec) (hg : g.method = m) {x : Int32} {u : UInt64} {rest : List Value} (hd : decode c.code g.pc = .ok (.i2d, 1)) (hs : g.stack = .int x :: rest) (hu : u = FP.i2d x)
    (hr : Steps tb e below (T.setTop { g with pc := g.pc + 1, stack := .double u :: rest }) target) : Steps tb e below (T.setTop g) target := by
  subst hg hu
  jvm_step h [h.top, hx, hd, hs]
  exact hr
theorem l2d {tb : Tables} [Ours tb] {e : Env} {below : List Frame} {T target : State} {m : MethodId} {c : Code} {g : JFrame} (h : At T m c below) (hx : tb.exec = Jvm.exec) (hg : g.method = m) {x : Int64} {u : UInt64} {rest : List Value} (hd : decode c.code g.pc = .ok (.l2d, 1)) (hs : g.stack = .long x :: rest) (hu : u = FP.l2d x)
    (hr : Steps tb e below (T.setTop { g with pc := g.pc + 1, stack := .double u :: rest }) target) : Steps tb e below (T.setTop g) target := by
  subst hg hu
  jvm_step h [h.top, hx, hd, hs]
  exact hr
theorem dloadN {tb : Tables} [Ours tb] {e : Env} {below : List Frame} {T target : State} {m : MethodId} {c : Code} {g : JFrame} (h : At T m c below) (hx : tb.exec = Jvm.exec) (hg : g.method = m) {k : Fin 4} {v : UInt64} (hd : decode c.code g.pc = .ok (.dload_n k, 1)) (hl : g.locals[k.val]? = some (.val (.double v)))
    (hr : Steps tb e below (T.setTop { g with pc := g.pc + 1, stack := .double v :: g.stack }) target) : Steps tb e below (T.setTop g) target := by
  subst hg
  jvm_step h [h.top, hx, hd, hl]
  exact hr
theorem dload {tb : Tables} [Ours tb] {e : Env} {below : List Frame} {T target : State} {m : MethodId} {c : Code} {g : JFrame} (h : At T m c below) (hx : tb.exec = Jvm.exec) (hg : g.method = m) {k : Nat} {v : UInt64} (hd : decode c.code g.pc = .ok (.dload k, 2)) (hl : g.locals[k]? = some (.val (.double v)))
    (hr : Steps tb e below (T.setTop { g with pc := g.pc + 2, stack := .double v :: g.stack }) target) : Steps tb e below (T.setTop g) target := by
  subst hg
  jvm_step h [h.top, hx, hd, hl]
  exact hr
theorem dstore {tb : Tables} [Ours tb] {e : Env} {below : List Frame} {T target : State} {m : MethodId} {c : Code} {g : JFrame} (h : At T m c below) (hx : tb.exec = Jvm.exec) (hg : g.method = m) {k : Nat} {x : UInt64} {rest : List Value} {l' : Array Slot} (hd : decode c.code g.pc = .ok (.dstore k, 2)) (hs : g.stack = .double x :: rest) (hl : storeLocals g.locals k (.double x) = some l')
    (hr : Steps tb e below (T.setTop { g with pc := g.pc + 2, stack := rest, locals := l' }) target) : Steps tb e below (T.setTop g) target := by
  subst hg
  jvm_step h [h.top, hx, hd, hs, hl]
  exact hr
theorem small (x : Int32) : FP.Core.Small53 x.toInt64 := by
  unfold FP.Core.Small53
  rw [Int32.toInt_toInt64]
  have := x.toInt_lt; have := x.le_toInt
  omega
theorem subs (x y : Int32) : FP.dsub (FP.i2d x) (FP.i2d y) = FP.l2d (x.toInt64 - y.toInt64) := by
  rw [FP.dsub_core, FP.i2d_core, FP.l2d_core, FP.Core.i2d_l2d, FP.Core.i2d_l2d]
  exact FP.Core.dsub_l2d (small x) (small y)
theorem num (x : Int64) : FP.l2d x &&& 0x7fffffffffffffff ≤ 0x7ff0000000000000 := by
  have := FP.Core.l2d_mag x
  rw [FP.l2d_core, UInt64.le_iff_toNat_le, FP.Core.mask_toNat]
  have e : (0x7ff0000000000000 : UInt64).toNat = 2047 * 2 ^ 52 := by decide
  rw [e]; omega
theorem cmps (x : Int64) : FP.dcmp (FP.l2d x) (FP.l2d x) = some .eq := by
  rw [FP.dcmp_core, FP.l2d_core]
  exact FP.Core.dcmp_self ((FP.Core.notNaN_iff _).mp (FP.Core.l2d_notNaN x))
theorem dsub {tb : Tables} [Ours tb] {e : Env} {below : List Frame} {T target : State} {m : MethodId} {c : Code} {g : JFrame} (h : At T m c below) (hx : tb.exec = Jvm.exec) (hg : g.method = m) {x y : Int32} {u w r : UInt64} {rest : List Value} (hd : decode c.code g.pc = .ok (.dsub, 1)) (hs : g.stack = .double w :: .double u :: rest) (hu : u = FP.i2d x) (hw : w = FP.i2d y) (hq : r = FP.l2d (x.toInt64 - y.toInt64))
    (hr : Steps tb e below (T.setTop { g with pc := g.pc + 1, stack := .double r :: rest }) target) : Steps tb e below (T.setTop g) target := by
  subst hg
  have q : FP.dsub (FP.i2d x) (FP.i2d y) &&& 0x7fffffffffffffff ≤ 0x7ff0000000000000 := by rw [subs]; exact num _
  subst hu hw hq
  rw [← subs] at hr
  jvm_step h [h.top, hx, hd, Op.dsub.sem, anyNaN64, hs, q]
  exact hr
theorem dcmplSame {tb : Tables} [Ours tb] {e : Env} {below : List Frame} {T target : State} {m : MethodId} {c : Code} {g : JFrame} (h : At T m c below) (hx : tb.exec = Jvm.exec) (hg : g.method = m) {x : Int64} {u : UInt64} {rest : List Value} (hd : decode c.code g.pc = .ok (.dcmp .l, 1)) (hs : g.stack = .double u :: .double u :: rest) (hu : u = FP.l2d x)
    (hr : Steps tb e below (T.setTop { g with pc := g.pc + 1, stack := .int 0 :: rest }) target) : Steps tb e below (T.setTop g) target := by
  subst hg hu
  jvm_step h [h.top, hx, hd, hs, cmps]
  exact hr
end Jvm.RoadKit.XD

namespace Jvm.Pilot.@@N@@
open Jvm Jvm.ClassFile Sem Op Lib Jvm.Free Jvm.Stand Jvm.LawKit Jvm.RoadKit Bundle Jvm.Pilot.@@N@@.Jvm.D
theorem own_w {a0 : Array Value} {Z : State} (hw : ∀ d ∈ tables_1, d.before a0 Z = true) {d : Jvm.Cond} (i : Nat) (h : tables_1[i]? = some d) : d.before a0 Z = true := hw d (List.mem_of_getElem? h)
abbrev Sp (p : Program) (e : Env) (b : List Frame) (T : State) (g : JFrame) (t : State) : Prop := Steps p.tables e b (T.setTop g) t
theorem own_le {Z : State} {n0 : Nat} {h : Heap} (O : Old Z n0 h) : n0 ≤ h.size := O.1 ▸ O.2.1
theorem own_narb {c : Prop} [Decidable c] : nar .boolean (if c then (1 : Int32) else 0) = if c then (1 : Int32) else 0 := by split <;> rfl
theorem own_narb' {c : Prop} [Decidable c] : nar .boolean (if c then (0 : Int32) else 1) = if c then (0 : Int32) else 1 := by split <;> rfl
theorem own_eqc {t : Term} {k : Int32} {a0 : Array Value} {Z : State} (h : (Jvm.Cond.eq t (.int k)).value a0 Z none Z [] = some true) : t.eval a0 Z none [] Z = some (.int k) := by
  obtain ⟨x, y, e1, e2, k1, -⟩ := cmp_v (Or.inl h)
  obtain rfl : Value.int k = y := Option.some.inj ((Term.int_eval k).symm.trans e2)
  cases x <;> simp [Kin, Value.isRef] at k1
  simp [Jvm.Cond.value, e1, Term.int_eval] at h
  rw [e1, h]

theorem own_18 (x : Int32) : ((x &&& (2147483647 : Int32)) % (18 : Int32)) = (0 : Int32) ∨ ((x &&& (2147483647 : Int32)) % (18 : Int32)) = (1 : Int32) ∨ ((x &&& (2147483647 : Int32)) % (18 : Int32)) = (2 : Int32) ∨ ((x &&& (2147483647 : Int32)) % (18 : Int32)) = (3 : Int32) ∨ ((x &&& (2147483647 : Int32)) % (18 : Int32)) = (4 : Int32) ∨ ((x &&& (2147483647 : Int32)) % (18 : Int32)) = (5 : Int32) ∨ ((x &&& (2147483647 : Int32)) % (18 : Int32)) = (6 : Int32) ∨ ((x &&& (2147483647 : Int32)) % (18 : Int32)) = (7 : Int32) ∨ ((x &&& (2147483647 : Int32)) % (18 : Int32)) = (8 : Int32) ∨ ((x &&& (2147483647 : Int32)) % (18 : Int32)) = (9 : Int32) ∨ ((x &&& (2147483647 : Int32)) % (18 : Int32)) = (10 : Int32) ∨ ((x &&& (2147483647 : Int32)) % (18 : Int32)) = (11 : Int32) ∨ ((x &&& (2147483647 : Int32)) % (18 : Int32)) = (12 : Int32) ∨ ((x &&& (2147483647 : Int32)) % (18 : Int32)) = (13 : Int32) ∨ ((x &&& (2147483647 : Int32)) % (18 : Int32)) = (14 : Int32) ∨ ((x &&& (2147483647 : Int32)) % (18 : Int32)) = (15 : Int32) ∨ ((x &&& (2147483647 : Int32)) % (18 : Int32)) = (16 : Int32) ∨ ((x &&& (2147483647 : Int32)) % (18 : Int32)) = (17 : Int32) := by
  have h1 := (c_and x (2147483647 : Int32) (by decide)).1
  have h2 := (c_irem (x &&& (2147483647 : Int32)) 18 18 rfl).1 h1
  have h3 : 0 ≤ ((x &&& (2147483647 : Int32)) % (18 : Int32)).toInt ∧ ((x &&& (2147483647 : Int32)) % (18 : Int32)).toInt < 18 := by
    rw [h2]; exact ⟨Int.emod_nonneg _ (by omega), Int.emod_lt_of_pos _ (by omega)⟩
  have e0 : (0 : Int32).toInt = 0 := rfl
  have e1 : (1 : Int32).toInt = 1 := rfl
  have e2 : (2 : Int32).toInt = 2 := rfl
  have e3 : (3 : Int32).toInt = 3 := rfl
  have e4 : (4 : Int32).toInt = 4 := rfl
  have e5 : (5 : Int32).toInt = 5 := rfl
  have e6 : (6 : Int32).toInt = 6 := rfl
  have e7 : (7 : Int32).toInt = 7 := rfl
  have e8 : (8 : Int32).toInt = 8 := rfl
  have e9 : (9 : Int32).toInt = 9 := rfl
  have e10 : (10 : Int32).toInt = 10 := rfl
  have e11 : (11 : Int32).toInt = 11 := rfl
  have e12 : (12 : Int32).toInt = 12 := rfl
  have e13 : (13 : Int32).toInt = 13 := rfl
  have e14 : (14 : Int32).toInt = 14 := rfl
  have e15 : (15 : Int32).toInt = 15 := rfl
  have e16 : (16 : Int32).toInt = 16 := rfl
  have e17 : (17 : Int32).toInt = 17 := rfl
  simp only [← Int32.toInt_inj, e0, e1, e2, e3, e4, e5, e6, e7, e8, e9, e10, e11, e12, e13, e14, e15, e16, e17]
  omega
theorem own_nb1 : nar .boolean (1 : Int32) = (1 : Int32) := by decide
theorem own_nb0 : nar .boolean (0 : Int32) = (0 : Int32) := by decide

theorem d_prog_37_10_0 : decode prog_37_method_10_code 0 = .ok (.aload_n 0, 1) := by decide +kernel
theorem d_prog_37_10_1 : decode prog_37_method_10_code 1 = .ok (.getfield 81, 3) := by decide +kernel
theorem d_prog_37_10_4 : decode prog_37_method_10_code 4 = .ok (.ifCond .eq 9, 3) := by decide +kernel
theorem d_prog_37_10_13 : decode prog_37_method_10_code 13 = .ok (.dload_n 1, 1) := by decide +kernel
theorem d_prog_37_10_14 : decode prog_37_method_10_code 14 = .ok (.dload_n 3, 1) := by decide +kernel
theorem d_prog_37_10_15 : decode prog_37_method_10_code 15 = .ok (.dsub, 1) := by decide +kernel
theorem d_prog_37_10_16 : decode prog_37_method_10_code 16 = .ok (.dreturn, 1) := by decide +kernel
theorem pn_mg0 : plainName "com/example/twistgauge/twistgauge/limitset/Parameter" = true := by first | (simp [plainName, overriddenIn]; done) | decide +kernel
theorem ef_mg0 (m : MethodId) (a1 : Addr) (u1 : UInt64) (u2 : UInt64) : entryFrame m #[(.ref a1), (.double u1), (.double u2)] 5 = (mkF m 0 #[.val (.ref a1), .val (.double u1), .second, .val (.double u2), .second] []) := by first | (simp [entryFrame, mkF, argsToLocals, Value.category]; done) | rfl
def Q_mg0 (Z : State) (a1 : Addr) (u1 : UInt64) (u2 : UInt64) (r1 : UInt64) (x1 y1 : Int32) (h0 : Heap) (n0 : Nat) (v : Option Value) (h : Heap) (L : List Loc) : Prop := v = some (.double r1) ∧ Fr n0 L ∧ h = h0
set_option maxRecDepth 65536 in
set_option maxHeartbeats 40000000 in
theorem rm_mg0 (l : Launch) (Z : State) (a0 : Array Value) (hw : ∀ d ∈ tables_1, d.before a0 Z = true) (ws : List Jvm.Cond) (a1 : Addr) (u1 : UInt64) (u2 : UInt64) (r1 : UInt64) (x1 y1 : Int32) (h0 : Heap) (n0 : Nat) (O0 : Old Z n0 h0) (hu1 : u1 = FP.i2d x1) (hu2 : u2 = FP.i2d y1) (hq1 : r1 = FP.l2d ((x1).toInt64 - (y1).toInt64)) (F1 : Fld Z h0 a1 "com/example/twistgauge/twistgauge/limitset/Parameter" "maximum" "Z" (.int (0 : Int32))) :
    MetFree l (⟨"com/example/twistgauge/twistgauge/limitset/Parameter", "margin", "(DD)D"⟩ : MethodName) (head1 (Jvm.Cond.code (⟨"com/example/twistgauge/twistgauge/limitset/Parameter", "margin", "(DD)D"⟩ : MethodName) prog_37_method_10_code 5 (some .double) :: ws) ({ frames := 0, cells := 0, slots := 0, locals := 0 } : Room)) (fun a U => a = #[(.ref a1), (.double u1), (.double u2)] ∧ Z.Warmed39 U.vm ∧ U.heap = h0) (fun _ _ _ _ _ => True) (fun _ U o U' => ∃ v L, o = .returned v ∧ Q_mg0 Z a1 u1 u2 r1 x1 y1 h0 n0 v U'.heap L ∧ FrameEnd U o U' L ({ frames := 0, cells := 0, slots := 0, locals := 0 } : Room).cells ({ frames := 0, cells := 0, slots := 0, locals := 0 } : Room).slots) := by
  refine MetFree.of_bodySF (plainFor_of_name pn_mg0) hisR ?_
  intro p e s m args below meth c s₁ Bd hml0 hP hK
  obtain ⟨rfl, hZ, hh⟩ := hP
  have hx := Bd.exec
  have hby := Bd.bytes
  have hml : c.maxLocals = 5 := hml0
  have hown : s.vm.findClass "com/example/twistgauge/twistgauge/limitset/Parameter" = some m.cls := findClass_of_methodNamed Bd.named
  have hnm := (name_of_methodNamed Bd.named Bd.method).1
  have X0 : Stand p l e ({ frames := 0, cells := 0, slots := 0, locals := 0 } : Room) s m #[(.ref a1), (.double u1), (.double u2)] below meth c s₁ [] 0 0 := Stand.of_body Bd
  have e0 : s₁.heap = h0 := by rw [← hh, Bd.state]; rfl
  have N0 := Fr.nil n0
  have pre0 : ∀ t, Steps p.tables e below (s₁.setTop (mkF m 0 #[.val (.ref a1), .val (.double u1), .second, .val (.double u2), .second] [])) t → Steps p.tables e below (s₁.setTop (entryFrame m #[(.ref a1), (.double u1), (.double u2)] 5)) t := fun t k => castTop (ef_mg0 m a1 u1 u2) k
  generalize s₁.setTop (entryFrame m #[(.ref a1), (.double u1), (.double u2)] 5) = E0 at pre0 ⊢
  have pre_1 : ∀ t, Sp p e below s₁ (mkF m 1 #[.val (.ref a1), .val (.double u1), .second, .val (.double u2), .second] [(.ref a1)]) t → Steps p.tables e below E0 t := by
    intro t k
    refine pre0 t ?_
    show Sp p e below s₁ (mkF m 0 #[.val (.ref a1), .val (.double u1), .second, .val (.double u2), .second] []) _
    refine XS.aloadN X0.here hx rfl (hb hby d_prog_37_10_0) rfl rfl ?_
    exact k
  obtain ⟨T2, X2, e2, st2⟩ := getF X0 hx hZ hown (host := "") (Or.inl (own_w hw 47 rfl)) Via.refl e0 F1 (g := (mkF m 1 #[.val (.ref a1), .val (.double u1), .second, .val (.double u2), .second] [(.ref a1)])) rfl rfl (hb hby d_prog_37_10_1)
  have pre_3 : ∀ t, Sp p e below T2 (mkF m 4 #[.val (.ref a1), .val (.double u1), .second, .val (.double u2), .second] [(.int (0 : Int32))]) t → Steps p.tables e below E0 t := fun t k => pre_1 t (st2 t k)
  have pre_4 : ∀ t, Sp p e below T2 (mkF m 16 #[.val (.ref a1), .val (.double u1), .second, .val (.double u2), .second] [(.double r1)]) t → Steps p.tables e below E0 t := by
    intro t k
    refine pre_3 t ?_
    show Sp p e below T2 (mkF m 4 #[.val (.ref a1), .val (.double u1), .second, .val (.double u2), .second] [(.int (0 : Int32))]) _
    refine XS.ifYes X2.here hx rfl (pc0 := 4) (pc' := 13) rfl (hb hby d_prog_37_10_4) rfl (XT.i0_eq_t (by decide)) (by decide) (by decide) ?_
    refine XD.dloadN X2.here hx rfl (hb hby d_prog_37_10_13) rfl ?_
    refine XD.dloadN X2.here hx rfl (hb hby d_prog_37_10_14) rfl ?_
    show Sp p e below T2 (mkF m 15 #[.val (.ref a1), .val (.double u1), .second, .val (.double u2), .second] [(.double u2), (.double u1)]) _
    refine XD.dsub X2.here hx rfl (hb hby d_prog_37_10_15) rfl hu1 hu2 hq1 ?_
    exact k
  obtain ⟨fs, hr, hrun, hended, hW, hsame⟩ := X2.leave (v := some (.double r1)) (fun h => by rw [Bd.returns] at h; cases h)
  refine ⟨_, _, pre_4 _ ?_, hrun, hended, _, _, rfl, ?_, ⟨_, rfl⟩, hW, hsame.mono (by decide) (by decide)⟩
  · show Sp p e below T2 (mkF m 16 #[.val (.ref a1), .val (.double u1), .second, .val (.double u2), .second] [(.double r1)]) _
    exact retOut X2 hx (t := .double) Bd.returns rfl (Or.inr (Or.inr (Or.inl ⟨rfl, rfl, _, rfl⟩))) (hb hby d_prog_37_10_16) hr
  · show Q_mg0 Z _ _ _ _ _ _ h0 n0 _ T2.heap _
    rw [e2]
    exact ⟨rfl, N0, rfl⟩
theorem d_prog_37_10_7 : decode prog_37_method_10_code 7 = .ok (.dload_n 3, 1) := by decide +kernel
theorem d_prog_37_10_8 : decode prog_37_method_10_code 8 = .ok (.dload_n 1, 1) := by decide +kernel
theorem d_prog_37_10_9 : decode prog_37_method_10_code 9 = .ok (.dsub, 1) := by decide +kernel
theorem d_prog_37_10_10 : decode prog_37_method_10_code 10 = .ok (.goto 6, 3) := by decide +kernel
theorem pn_mg1 : plainName "com/example/twistgauge/twistgauge/limitset/Parameter" = true := by first | (simp [plainName, overriddenIn]; done) | decide +kernel
theorem ef_mg1 (m : MethodId) (a1 : Addr) (u1 : UInt64) (u2 : UInt64) : entryFrame m #[(.ref a1), (.double u1), (.double u2)] 5 = (mkF m 0 #[.val (.ref a1), .val (.double u1), .second, .val (.double u2), .second] []) := by first | (simp [entryFrame, mkF, argsToLocals, Value.category]; done) | rfl
def Q_mg1 (Z : State) (a1 : Addr) (u1 : UInt64) (u2 : UInt64) (r1 : UInt64) (x1 y1 : Int32) (h0 : Heap) (n0 : Nat) (v : Option Value) (h : Heap) (L : List Loc) : Prop := v = some (.double r1) ∧ Fr n0 L ∧ h = h0
set_option maxRecDepth 65536 in
set_option maxHeartbeats 40000000 in
theorem rm_mg1 (l : Launch) (Z : State) (a0 : Array Value) (hw : ∀ d ∈ tables_1, d.before a0 Z = true) (ws : List Jvm.Cond) (a1 : Addr) (u1 : UInt64) (u2 : UInt64) (r1 : UInt64) (x1 y1 : Int32) (h0 : Heap) (n0 : Nat) (O0 : Old Z n0 h0) (hu1 : u1 = FP.i2d x1) (hu2 : u2 = FP.i2d y1) (hq1 : r1 = FP.l2d ((y1).toInt64 - (x1).toInt64)) (F1 : Fld Z h0 a1 "com/example/twistgauge/twistgauge/limitset/Parameter" "maximum" "Z" (.int (1 : Int32))) :
    MetFree l (⟨"com/example/twistgauge/twistgauge/limitset/Parameter", "margin", "(DD)D"⟩ : MethodName) (head1 (Jvm.Cond.code (⟨"com/example/twistgauge/twistgauge/limitset/Parameter", "margin", "(DD)D"⟩ : MethodName) prog_37_method_10_code 5 (some .double) :: ws) ({ frames := 0, cells := 0, slots := 0, locals := 0 } : Room)) (fun a U => a = #[(.ref a1), (.double u1), (.double u2)] ∧ Z.Warmed39 U.vm ∧ U.heap = h0) (fun _ _ _ _ _ => True) (fun _ U o U' => ∃ v L, o = .returned v ∧ Q_mg1 Z a1 u1 u2 r1 x1 y1 h0 n0 v U'.heap L ∧ FrameEnd U o U' L ({ frames := 0, cells := 0, slots := 0, locals := 0 } : Room).cells ({ frames := 0, cells := 0, slots := 0, locals := 0 } : Room).slots) := by
  refine MetFree.of_bodySF (plainFor_of_name pn_mg1) hisR ?_
  intro p e s m args below meth c s₁ Bd hml0 hP hK
  obtain ⟨rfl, hZ, hh⟩ := hP
  have hx := Bd.exec
  have hby := Bd.bytes
  have hml : c.maxLocals = 5 := hml0
  have hown : s.vm.findClass "com/example/twistgauge/twistgauge/limitset/Parameter" = some m.cls := findClass_of_methodNamed Bd.named
  have hnm := (name_of_methodNamed Bd.named Bd.method).1
  have X0 : Stand p l e ({ frames := 0, cells := 0, slots := 0, locals := 0 } : Room) s m #[(.ref a1), (.double u1), (.double u2)] below meth c s₁ [] 0 0 := Stand.of_body Bd
  have e0 : s₁.heap = h0 := by rw [← hh, Bd.state]; rfl
  have N0 := Fr.nil n0
  have pre0 : ∀ t, Steps p.tables e below (s₁.setTop (mkF m 0 #[.val (.ref a1), .val (.double u1), .second, .val (.double u2), .second] [])) t → Steps p.tables e below (s₁.setTop (entryFrame m #[(.ref a1), (.double u1), (.double u2)] 5)) t := fun t k => castTop (ef_mg1 m a1 u1 u2) k
  generalize s₁.setTop (entryFrame m #[(.ref a1), (.double u1), (.double u2)] 5) = E0 at pre0 ⊢
  have pre_1 : ∀ t, Sp p e below s₁ (mkF m 1 #[.val (.ref a1), .val (.double u1), .second, .val (.double u2), .second] [(.ref a1)]) t → Steps p.tables e below E0 t := by
    intro t k
    refine pre0 t ?_
    show Sp p e below s₁ (mkF m 0 #[.val (.ref a1), .val (.double u1), .second, .val (.double u2), .second] []) _
    refine XS.aloadN X0.here hx rfl (hb hby d_prog_37_10_0) rfl rfl ?_
    exact k
  obtain ⟨T2, X2, e2, st2⟩ := getF X0 hx hZ hown (host := "") (Or.inl (own_w hw 47 rfl)) Via.refl e0 F1 (g := (mkF m 1 #[.val (.ref a1), .val (.double u1), .second, .val (.double u2), .second] [(.ref a1)])) rfl rfl (hb hby d_prog_37_10_1)
  have pre_3 : ∀ t, Sp p e below T2 (mkF m 4 #[.val (.ref a1), .val (.double u1), .second, .val (.double u2), .second] [(.int (1 : Int32))]) t → Steps p.tables e below E0 t := fun t k => pre_1 t (st2 t k)
  have pre_4 : ∀ t, Sp p e below T2 (mkF m 16 #[.val (.ref a1), .val (.double u1), .second, .val (.double u2), .second] [(.double r1)]) t → Steps p.tables e below E0 t := by
    intro t k
    refine pre_3 t ?_
    show Sp p e below T2 (mkF m 4 #[.val (.ref a1), .val (.double u1), .second, .val (.double u2), .second] [(.int (1 : Int32))]) _
    refine XS.ifNo X2.here hx rfl (hb hby d_prog_37_10_4) rfl (XT.i0_eq_f (by decide)) ?_
    refine XD.dloadN X2.here hx rfl (hb hby d_prog_37_10_7) rfl ?_
    refine XD.dloadN X2.here hx rfl (hb hby d_prog_37_10_8) rfl ?_
    show Sp p e below T2 (mkF m 9 #[.val (.ref a1), .val (.double u1), .second, .val (.double u2), .second] [(.double u1), (.double u2)]) _
    refine XD.dsub X2.here hx rfl (hb hby d_prog_37_10_9) rfl hu2 hu1 hq1 ?_
    refine XS.goto X2.here hx rfl (pc0 := 10) (pc' := 16) rfl (hb hby d_prog_37_10_10) (by decide) (by decide) ?_
    exact k
  obtain ⟨fs, hr, hrun, hended, hW, hsame⟩ := X2.leave (v := some (.double r1)) (fun h => by rw [Bd.returns] at h; cases h)
  refine ⟨_, _, pre_4 _ ?_, hrun, hended, _, _, rfl, ?_, ⟨_, rfl⟩, hW, hsame.mono (by decide) (by decide)⟩
  · show Sp p e below T2 (mkF m 16 #[.val (.ref a1), .val (.double u1), .second, .val (.double u2), .second] [(.double r1)]) _
    exact retOut X2 hx (t := .double) Bd.returns rfl (Or.inr (Or.inr (Or.inl ⟨rfl, rfl, _, rfl⟩))) (hb hby d_prog_37_10_16) hr
  · show Q_mg1 Z _ _ _ _ _ _ h0 n0 _ T2.heap _
    rw [e2]
    exact ⟨rfl, N0, rfl⟩
theorem pn_law : plainName "com/example/twistgauge/twistgauge/limitset/ParameterMarginPinLaw" = true := by first | (simp [plainName, overriddenIn]; done) | decide +kernel
theorem pd_law_0 : parseMethodDescriptor "(DD)D" = some ⟨[.double, .double], some .double⟩ := by decide +kernel
theorem ef_law (m : MethodId) (p1 : Int32) (p2 : Int32) (p3 : Int32) : entryFrame m #[(.int p1), (.int p2), (.int p3)] maxLocals = (mkF m 0 #[.val (.int p1), .val (.int p2), .val (.int p3), .unset, .unset, .unset, .unset, .unset, .unset, .unset, .unset, .unset, .unset, .unset] []) := by first | (simp [entryFrame, mkF, argsToLocals, Value.category, maxLocals]; done) | rfl
def Q_law (Z : State) (p1 : Int32) (p2 : Int32) (p3 : Int32) (ap_ATTENUATION : Addr) (ap_INSERTION_LOSS : Addr) (ap_NEXT : Addr) (ap_PSNEXT : Addr) (ap_ACR : Addr) (ap_PSACR : Addr) (ap_ELFEXT : Addr) (ap_PSELFEXT : Addr) (ap_RETURN_LOSS : Addr) (ap_PROPAGATION_DELAY : Addr) (ap_DELAY_SKEW : Addr) (ap_RESISTANCE : Addr) (ap_LOOP_RESISTANCE : Addr) (ap_RESISTANCE_UNBALANCE : Addr) (ap_PAIR_RESISTANCE_UNBALANCE : Addr) (ap_OPERATING_CAPACITANCE : Addr) (ap_INSULATION_RESISTANCE : Addr) (ap_CAPACITANCE_UNBALANCE_EARTH : Addr) (h0 : Heap) (n0 : Nat) (v : Option Value) (h : Heap) (L : List Loc) : Prop := v = some (.int 1) ∧ Fr n0 L
set_option maxRecDepth 65536 in
set_option maxHeartbeats 40000000 in
theorem rm_law (l : Launch) (Z : State) (a0 : Array Value) (hw : ∀ d ∈ tables_1, d.before a0 Z = true) (ws : List Jvm.Cond) (p1 : Int32) (p2 : Int32) (p3 : Int32) (ap_ATTENUATION : Addr) (ap_INSERTION_LOSS : Addr) (ap_NEXT : Addr) (ap_PSNEXT : Addr) (ap_ACR : Addr) (ap_PSACR : Addr) (ap_ELFEXT : Addr) (ap_PSELFEXT : Addr) (ap_RETURN_LOSS : Addr) (ap_PROPAGATION_DELAY : Addr) (ap_DELAY_SKEW : Addr) (ap_RESISTANCE : Addr) (ap_LOOP_RESISTANCE : Addr) (ap_RESISTANCE_UNBALANCE : Addr) (ap_PAIR_RESISTANCE_UNBALANCE : Addr) (ap_OPERATING_CAPACITANCE : Addr) (ap_INSULATION_RESISTANCE : Addr) (ap_CAPACITANCE_UNBALANCE_EARTH : Addr) (h0 : Heap) (n0 : Nat) (O0 : Old Z n0 h0) (S_ap_ATTENUATION : Sta Z Z.heap "com/example/twistgauge/twistgauge/limitset/Parameter" "ATTENUATION" "Lcom/example/twistgauge/twistgauge/limitset/Parameter;" (.ref ap_ATTENUATION)) (E_ap_ATTENUATION : Exa Z Z.heap ap_ATTENUATION "com/example/twistgauge/twistgauge/limitset/Parameter") (S_ap_INSERTION_LOSS : Sta Z Z.heap "com/example/twistgauge/twistgauge/limitset/Parameter" "INSERTION_LOSS" "Lcom/example/twistgauge/twistgauge/limitset/Parameter;" (.ref ap_INSERTION_LOSS)) (E_ap_INSERTION_LOSS : Exa Z Z.heap ap_INSERTION_LOSS "com/example/twistgauge/twistgauge/limitset/Parameter") (S_ap_NEXT : Sta Z Z.heap "com/example/twistgauge/twistgauge/limitset/Parameter" "NEXT" "Lcom/example/twistgauge/twistgauge/limitset/Parameter;" (.ref ap_NEXT)) (E_ap_NEXT : Exa Z Z.heap ap_NEXT "com/example/twistgauge/twistgauge/limitset/Parameter") (S_ap_PSNEXT : Sta Z Z.heap "com/example/twistgauge/twistgauge/limitset/Parameter" "PSNEXT" "Lcom/example/twistgauge/twistgauge/limitset/Parameter;" (.ref ap_PSNEXT)) (E_ap_PSNEXT : Exa Z Z.heap ap_PSNEXT "com/example/twistgauge/twistgauge/limitset/Parameter") (S_ap_ACR : Sta Z Z.heap "com/example/twistgauge/twistgauge/limitset/Parameter" "ACR" "Lcom/example/twistgauge/twistgauge/limitset/Parameter;" (.ref ap_ACR)) (E_ap_ACR : Exa Z Z.heap ap_ACR "com/example/twistgauge/twistgauge/limitset/Parameter") (S_ap_PSACR : Sta Z Z.heap "com/example/twistgauge/twistgauge/limitset/Parameter" "PSACR" "Lcom/example/twistgauge/twistgauge/limitset/Parameter;" (.ref ap_PSACR)) (E_ap_PSACR : Exa Z Z.heap ap_PSACR "com/example/twistgauge/twistgauge/limitset/Parameter") (S_ap_ELFEXT : Sta Z Z.heap "com/example/twistgauge/twistgauge/limitset/Parameter" "ELFEXT" "Lcom/example/twistgauge/twistgauge/limitset/Parameter;" (.ref ap_ELFEXT)) (E_ap_ELFEXT : Exa Z Z.heap ap_ELFEXT "com/example/twistgauge/twistgauge/limitset/Parameter") (S_ap_PSELFEXT : Sta Z Z.heap "com/example/twistgauge/twistgauge/limitset/Parameter" "PSELFEXT" "Lcom/example/twistgauge/twistgauge/limitset/Parameter;" (.ref ap_PSELFEXT)) (E_ap_PSELFEXT : Exa Z Z.heap ap_PSELFEXT "com/example/twistgauge/twistgauge/limitset/Parameter") (S_ap_RETURN_LOSS : Sta Z Z.heap "com/example/twistgauge/twistgauge/limitset/Parameter" "RETURN_LOSS" "Lcom/example/twistgauge/twistgauge/limitset/Parameter;" (.ref ap_RETURN_LOSS)) (E_ap_RETURN_LOSS : Exa Z Z.heap ap_RETURN_LOSS "com/example/twistgauge/twistgauge/limitset/Parameter") (S_ap_PROPAGATION_DELAY : Sta Z Z.heap "com/example/twistgauge/twistgauge/limitset/Parameter" "PROPAGATION_DELAY" "Lcom/example/twistgauge/twistgauge/limitset/Parameter;" (.ref ap_PROPAGATION_DELAY)) (E_ap_PROPAGATION_DELAY : Exa Z Z.heap ap_PROPAGATION_DELAY "com/example/twistgauge/twistgauge/limitset/Parameter") (S_ap_DELAY_SKEW : Sta Z Z.heap "com/example/twistgauge/twistgauge/limitset/Parameter" "DELAY_SKEW" "Lcom/example/twistgauge/twistgauge/limitset/Parameter;" (.ref ap_DELAY_SKEW)) (E_ap_DELAY_SKEW : Exa Z Z.heap ap_DELAY_SKEW "com/example/twistgauge/twistgauge/limitset/Parameter") (S_ap_RESISTANCE : Sta Z Z.heap "com/example/twistgauge/twistgauge/limitset/Parameter" "RESISTANCE" "Lcom/example/twistgauge/twistgauge/limitset/Parameter;" (.ref ap_RESISTANCE)) (E_ap_RESISTANCE : Exa Z Z.heap ap_RESISTANCE "com/example/twistgauge/twistgauge/limitset/Parameter") (S_ap_LOOP_RESISTANCE : Sta Z Z.heap "com/example/twistgauge/twistgauge/limitset/Parameter" "LOOP_RESISTANCE" "Lcom/example/twistgauge/twistgauge/limitset/Parameter;" (.ref ap_LOOP_RESISTANCE)) (E_ap_LOOP_RESISTANCE : Exa Z Z.heap ap_LOOP_RESISTANCE "com/example/twistgauge/twistgauge/limitset/Parameter") (S_ap_RESISTANCE_UNBALANCE : Sta Z Z.heap "com/example/twistgauge/twistgauge/limitset/Parameter" "RESISTANCE_UNBALANCE" "Lcom/example/twistgauge/twistgauge/limitset/Parameter;" (.ref ap_RESISTANCE_UNBALANCE)) (E_ap_RESISTANCE_UNBALANCE : Exa Z Z.heap ap_RESISTANCE_UNBALANCE "com/example/twistgauge/twistgauge/limitset/Parameter") (S_ap_PAIR_RESISTANCE_UNBALANCE : Sta Z Z.heap "com/example/twistgauge/twistgauge/limitset/Parameter" "PAIR_RESISTANCE_UNBALANCE" "Lcom/example/twistgauge/twistgauge/limitset/Parameter;" (.ref ap_PAIR_RESISTANCE_UNBALANCE)) (E_ap_PAIR_RESISTANCE_UNBALANCE : Exa Z Z.heap ap_PAIR_RESISTANCE_UNBALANCE "com/example/twistgauge/twistgauge/limitset/Parameter") (S_ap_OPERATING_CAPACITANCE : Sta Z Z.heap "com/example/twistgauge/twistgauge/limitset/Parameter" "OPERATING_CAPACITANCE" "Lcom/example/twistgauge/twistgauge/limitset/Parameter;" (.ref ap_OPERATING_CAPACITANCE)) (E_ap_OPERATING_CAPACITANCE : Exa Z Z.heap ap_OPERATING_CAPACITANCE "com/example/twistgauge/twistgauge/limitset/Parameter") (S_ap_INSULATION_RESISTANCE : Sta Z Z.heap "com/example/twistgauge/twistgauge/limitset/Parameter" "INSULATION_RESISTANCE" "Lcom/example/twistgauge/twistgauge/limitset/Parameter;" (.ref ap_INSULATION_RESISTANCE)) (E_ap_INSULATION_RESISTANCE : Exa Z Z.heap ap_INSULATION_RESISTANCE "com/example/twistgauge/twistgauge/limitset/Parameter") (S_ap_CAPACITANCE_UNBALANCE_EARTH : Sta Z Z.heap "com/example/twistgauge/twistgauge/limitset/Parameter" "CAPACITANCE_UNBALANCE_EARTH" "Lcom/example/twistgauge/twistgauge/limitset/Parameter;" (.ref ap_CAPACITANCE_UNBALANCE_EARTH)) (E_ap_CAPACITANCE_UNBALANCE_EARTH : Exa Z Z.heap ap_CAPACITANCE_UNBALANCE_EARTH "com/example/twistgauge/twistgauge/limitset/Parameter") (F_ap_ATTENUATION_maximum : Fld Z Z.heap ap_ATTENUATION "com/example/twistgauge/twistgauge/limitset/Parameter" "maximum" "Z" (.int (1 : Int32))) (F_ap_INSERTION_LOSS_maximum : Fld Z Z.heap ap_INSERTION_LOSS "com/example/twistgauge/twistgauge/limitset/Parameter" "maximum" "Z" (.int (1 : Int32))) (F_ap_NEXT_maximum : Fld Z Z.heap ap_NEXT "com/example/twistgauge/twistgauge/limitset/Parameter" "maximum" "Z" (.int (0 : Int32))) (F_ap_CAPACITANCE_UNBALANCE_EARTH_maximum : Fld Z Z.heap ap_CAPACITANCE_UNBALANCE_EARTH "com/example/twistgauge/twistgauge/limitset/Parameter" "maximum" "Z" (.int (1 : Int32))) (F_ap_RETURN_LOSS_maximum : Fld Z Z.heap ap_RETURN_LOSS "com/example/twistgauge/twistgauge/limitset/Parameter" "maximum" "Z" (.int (0 : Int32))) (F_ap_ELFEXT_maximum : Fld Z Z.heap ap_ELFEXT "com/example/twistgauge/twistgauge/limitset/Parameter" "maximum" "Z" (.int (0 : Int32))) (F_ap_PSELFEXT_maximum : Fld Z Z.heap ap_PSELFEXT "com/example/twistgauge/twistgauge/limitset/Parameter" "maximum" "Z" (.int (0 : Int32))) (F_ap_PSNEXT_maximum : Fld Z Z.heap ap_PSNEXT "com/example/twistgauge/twistgauge/limitset/Parameter" "maximum" "Z" (.int (0 : Int32))) (F_ap_DELAY_SKEW_maximum : Fld Z Z.heap ap_DELAY_SKEW "com/example/twistgauge/twistgauge/limitset/Parameter" "maximum" "Z" (.int (1 : Int32))) (F_ap_INSULATION_RESISTANCE_maximum : Fld Z Z.heap ap_INSULATION_RESISTANCE "com/example/twistgauge/twistgauge/limitset/Parameter" "maximum" "Z" (.int (0 : Int32))) (F_ap_LOOP_RESISTANCE_maximum : Fld Z Z.heap ap_LOOP_RESISTANCE "com/example/twistgauge/twistgauge/limitset/Parameter" "maximum" "Z" (.int (1 : Int32))) (F_ap_RESISTANCE_maximum : Fld Z Z.heap ap_RESISTANCE "com/example/twistgauge/twistgauge/limitset/Parameter" "maximum" "Z" (.int (1 : Int32))) (F_ap_RESISTANCE_UNBALANCE_maximum : Fld Z Z.heap ap_RESISTANCE_UNBALANCE "com/example/twistgauge/twistgauge/limitset/Parameter" "maximum" "Z" (.int (1 : Int32))) (F_ap_PROPAGATION_DELAY_maximum : Fld Z Z.heap ap_PROPAGATION_DELAY "com/example/twistgauge/twistgauge/limitset/Parameter" "maximum" "Z" (.int (1 : Int32))) (F_ap_OPERATING_CAPACITANCE_maximum : Fld Z Z.heap ap_OPERATING_CAPACITANCE "com/example/twistgauge/twistgauge/limitset/Parameter" "maximum" "Z" (.int (1 : Int32))) (F_ap_PSACR_maximum : Fld Z Z.heap ap_PSACR "com/example/twistgauge/twistgauge/limitset/Parameter" "maximum" "Z" (.int (0 : Int32))) (F_ap_PAIR_RESISTANCE_UNBALANCE_maximum : Fld Z Z.heap ap_PAIR_RESISTANCE_UNBALANCE "com/example/twistgauge/twistgauge/limitset/Parameter" "maximum" "Z" (.int (1 : Int32))) (F_ap_ACR_maximum : Fld Z Z.heap ap_ACR "com/example/twistgauge/twistgauge/limitset/Parameter" "maximum" "Z" (.int (0 : Int32))) :
    MetFree l x (head1 (Jvm.Cond.code x code maxLocals ret :: ws) room_1) (fun a U => a = #[(.int p1), (.int p2), (.int p3)] ∧ Z.Warmed39 U.vm ∧ U.heap = h0) (fun _ _ _ _ _ => True) (fun _ U o U' => ∃ v L, o = .returned v ∧ Q_law Z p1 p2 p3 ap_ATTENUATION ap_INSERTION_LOSS ap_NEXT ap_PSNEXT ap_ACR ap_PSACR ap_ELFEXT ap_PSELFEXT ap_RETURN_LOSS ap_PROPAGATION_DELAY ap_DELAY_SKEW ap_RESISTANCE ap_LOOP_RESISTANCE ap_RESISTANCE_UNBALANCE ap_PAIR_RESISTANCE_UNBALANCE ap_OPERATING_CAPACITANCE ap_INSULATION_RESISTANCE ap_CAPACITANCE_UNBALANCE_EARTH h0 n0 v U'.heap L ∧ FrameEnd U o U' L room_1.cells room_1.slots) := by
  refine MetFree.of_bodySF (plainFor_of_name pn_law) hisR ?_
  intro p e s m args below meth c s₁ Bd hml0 hP hK
  obtain ⟨rfl, hZ, hh⟩ := hP
  have hx := Bd.exec
  have hby := Bd.bytes
  have hml : c.maxLocals = 14 := hml0
  have hown : s.vm.findClass "com/example/twistgauge/twistgauge/limitset/ParameterMarginPinLaw" = some m.cls := findClass_of_methodNamed Bd.named
  have hnm := (name_of_methodNamed Bd.named Bd.method).1
  have X0 : Stand p l e room_1 s m #[(.int p1), (.int p2), (.int p3)] below meth c s₁ [] 0 0 := Stand.of_body Bd
  have e0 : s₁.heap = h0 := by rw [← hh, Bd.state]; rfl
  have N0 := Fr.nil n0
  have pre0 : ∀ t, Steps p.tables e below (s₁.setTop (mkF m 0 #[.val (.int p1), .val (.int p2), .val (.int p3), .unset, .unset, .unset, .unset, .unset, .unset, .unset, .unset, .unset, .unset, .unset] [])) t → Steps p.tables e below (s₁.setTop (entryFrame m #[(.int p1), (.int p2), (.int p3)] maxLocals)) t := fun t k => castTop (ef_law m p1 p2 p3) k
  generalize s₁.setTop (entryFrame m #[(.int p1), (.int p2), (.int p3)] maxLocals) = E0 at pre0 ⊢
  obtain ⟨u2, hu2⟩ : ∃ z : UInt64, z = FP.i2d p2 := ⟨_, rfl⟩
  obtain ⟨u3, hu3⟩ : ∃ z : UInt64, z = FP.i2d p3 := ⟨_, rfl⟩
  obtain ⟨dq1, hdq1⟩ : ∃ z : UInt64, z = FP.l2d ((p3).toInt64 - (p2).toInt64) := ⟨_, rfl⟩
  obtain ⟨dq0, hdq0⟩ : ∃ z : UInt64, z = FP.l2d ((p2).toInt64 - (p3).toInt64) := ⟨_, rfl⟩
  have pre_1 : ∀ t, Sp p e below s₁ (mkF m 2 #[.val (.int p1), .val (.int p2), .val (.int p3), .unset, .unset, .unset, .unset, .unset, .unset, .unset, .unset, .unset, .unset, .unset] [(.int (18 : Int32))]) t → Steps p.tables e below E0 t := by
    intro t k
    refine pre0 t ?_
    show Sp p e below s₁ (mkF m 0 #[.val (.int p1), .val (.int p2), .val (.int p3), .unset, .unset, .unset, .unset, .unset, .unset, .unset, .unset, .unset, .unset, .unset] []) _
    refine XS.bipush X0.here hx rfl (hb hby at_0) ?_
    exact k
  obtain ⟨T2, h2, cA2, X2, e2, E2, A2, Ov2, st2⟩ := newR X0 hx hZ hown (own_w hw 0 rfl) (own_w hw 1 rfl) e0 (g := (mkF m 2 #[.val (.int p1), .val (.int p2), .val (.int p3), .unset, .unset, .unset, .unset, .unset, .unset, .unset, .unset, .unset, .unset, .unset] [(.int (18 : Int32))])) rfl (hb hby at_2) rfl (by decide) (cap := 18) (by decide) (by decide) (by decide) (by decide)
  obtain ⟨b2, g2⟩ : ∃ z, z = h0.size := ⟨_, rfl⟩
  rw [← g2] at A2 st2
  have O2 : Old Z n0 h2 := O0.ext E2
  have V2 : Arv Z h2 b2 cA2 (.object "com/example/twistgauge/twistgauge/limitset/Parameter") (18 : Int32) [.null, .null, .null, .null, .null, .null, .null, .null, .null, .null, .null, .null, .null, .null, .null, .null, .null, .null] .null := (Arv.new A2 (by decide)).pad (pad_rep [] _ 18)
  have pre_3 : ∀ t, Sp p e below T2 (mkF m 5 #[.val (.int p1), .val (.int p2), .val (.int p3), .unset, .unset, .unset, .unset, .unset, .unset, .unset, .unset, .unset, .unset, .unset] [(.ref b2)]) t → Steps p.tables e below E0 t := fun t k => pre_1 t (st2 t k)
  have pre_4 : ∀ t, Sp p e below T2 (mkF m 7 #[.val (.int p1), .val (.int p2), .val (.int p3), .unset, .unset, .unset, .unset, .unset, .unset, .unset, .unset, .unset, .unset, .unset] [(.int (0 : Int32)), (.ref b2), (.ref b2)]) t → Steps p.tables e below E0 t := by
    intro t k
    refine pre_3 t ?_
    show Sp p e below T2 (mkF m 5 #[.val (.int p1), .val (.int p2), .val (.int p3), .unset, .unset, .unset, .unset, .unset, .unset, .unset, .unset, .unset, .unset, .unset] [(.ref b2)]) _
    refine XS.dup X2.here hx rfl (hb hby at_5) rfl rfl ?_
    refine XS.iconst X2.here hx rfl (hb hby at_6) ?_
    exact k
  obtain ⟨T5, X5, e5, st5⟩ := getS X2 hx hZ hown (host := "") (own_w hw 2 rfl) Via.refl e2 (S_ap_ATTENUATION.ext O2.2) (g := (mkF m 7 #[.val (.int p1), .val (.int p2), .val (.int p3), .unset, .unset, .unset, .unset, .unset, .unset, .unset, .unset, .unset, .unset, .unset] [(.int (0 : Int32)), (.ref b2), (.ref b2)])) rfl (hb hby at_7)
  have pre_6 : ∀ t, Sp p e below T5 (mkF m 10 #[.val (.int p1), .val (.int p2), .val (.int p3), .unset, .unset, .unset, .unset, .unset, .unset, .unset, .unset, .unset, .unset, .unset] [(.ref ap_ATTENUATION), (.int (0 : Int32)), (.ref b2), (.ref b2)]) t → Steps p.tables e below E0 t := fun t k => pre_4 t (st5 t k)
  obtain ⟨cl7, Ar7, q7, S7, M7, H7, G7⟩ := id V2
  obtain ⟨T7, h7, X7, e7, W7, st7⟩ := stR X5 hx hZ e5 Ar7 (j := (0 : Int32)) (inb_of S7 (by decide)) rfl (Sto.ofV Ar7 q7 Ov2 (Ins.self (E_ap_ATTENUATION.ext O2.2))) (g := (mkF m 10 #[.val (.int p1), .val (.int p2), .val (.int p3), .unset, .unset, .unset, .unset, .unset, .unset, .unset, .unset, .unset, .unset, .unset] [(.ref ap_ATTENUATION), (.int (0 : Int32)), (.ref b2), (.ref b2)])) rfl rfl (hb hby at_10)
  have N7 := Fr.snoc X7 N0 (Nat.le_trans (own_le O0) (Nat.le_of_eq g2.symm))
  have O7 : Old Z n0 h7 := O2.wr W7 (Nat.le_trans (own_le O0) (Nat.le_of_eq g2.symm))
  have V7 : Arv Z h7 b2 cA2 (.object "com/example/twistgauge/twistgauge/limitset/Parameter") (18 : Int32) [(.ref ap_ATTENUATION), .null, .null, .null, .null, .null, .null, .null, .null, .null, .null, .null, .null, .null, .null, .null, .null, .null] .null := Arv.set Ar7 q7 S7 M7 H7 G7 rfl W7 0 rfl (Nat.le_of_ble_eq_true rfl)
  have pre_8 : ∀ t, Sp p e below T7 (mkF m 11 #[.val (.int p1), .val (.int p2), .val (.int p3), .unset, .unset, .unset, .unset, .unset, .unset, .unset, .unset, .unset, .unset, .unset] [(.ref b2)]) t → Steps p.tables e below E0 t := fun t k => pre_6 t (st7 t k)
  have pre_9 : ∀ t, Sp p e below T7 (mkF m 13 #[.val (.int p1), .val (.int p2), .val (.int p3), .unset, .unset, .unset, .unset, .unset, .unset, .unset, .unset, .unset, .unset, .unset] [(.int (1 : Int32)), (.ref b2), (.ref b2)]) t → Steps p.tables e below E0 t := by
    intro t k
    refine pre_8 t ?_
    show Sp p e below T7 (mkF m 11 #[.val (.int p1), .val (.int p2), .val (.int p3), .unset, .unset, .unset, .unset, .unset, .unset, .unset, .unset, .unset, .unset, .unset] [(.ref b2)]) _
    refine XS.dup X7.here hx rfl (hb hby at_11) rfl rfl ?_
    show Sp p e below T7 (mkF m 12 #[.val (.int p1), .val (.int p2), .val (.int p3), .unset, .unset, .unset, .unset, .unset, .unset, .unset, .unset, .unset, .unset, .unset] [(.ref b2), (.ref b2)]) _
    refine XS.iconst X7.here hx rfl (hb hby at_12) ?_
    exact k
  obtain ⟨T10, X10, e10, st10⟩ := getS X7 hx hZ hown (host := "") (own_w hw 6 rfl) Via.refl e7 (S_ap_INSERTION_LOSS.ext O7.2) (g := (mkF m 13 #[.val (.int p1), .val (.int p2), .val (.int p3), .unset, .unset, .unset, .unset, .unset, .unset, .unset, .unset, .unset, .unset, .unset] [(.int (1 : Int32)), (.ref b2), (.ref b2)])) rfl (hb hby at_13)
  have pre_11 : ∀ t, Sp p e below T10 (mkF m 16 #[.val (.int p1), .val (.int p2), .val (.int p3), .unset, .unset, .unset, .unset, .unset, .unset, .unset, .unset, .unset, .unset, .unset] [(.ref ap_INSERTION_LOSS), (.int (1 : Int32)), (.ref b2), (.ref b2)]) t → Steps p.tables e below E0 t := fun t k => pre_9 t (st10 t k)
  obtain ⟨cl12, Ar12, q12, S12, M12, H12, G12⟩ := id V7
  obtain ⟨T12, h12, X12, e12, W12, st12⟩ := stR X10 hx hZ e10 Ar12 (j := (1 : Int32)) (inb_of S12 (by decide)) rfl (Sto.ofV Ar12 q12 Ov2 (Ins.self (E_ap_INSERTION_LOSS.ext O7.2))) (g := (mkF m 16 #[.val (.int p1), .val (.int p2), .val (.int p3), .unset, .unset, .unset, .unset, .unset, .unset, .unset, .unset, .unset, .unset, .unset] [(.ref ap_INSERTION_LOSS), (.int (1 : Int32)), (.ref b2), (.ref b2)])) rfl rfl (hb hby at_16)
  have N12 := Fr.snoc X12 N7 (Nat.le_trans (own_le O0) (Nat.le_of_eq g2.symm))
  have O12 : Old Z n0 h12 := O7.wr W12 (Nat.le_trans (own_le O0) (Nat.le_of_eq g2.symm))
  have V12 : Arv Z h12 b2 cA2 (.object "com/example/twistgauge/twistgauge/limitset/Parameter") (18 : Int32) [(.ref ap_ATTENUATION), (.ref ap_INSERTION_LOSS), .null, .null, .null, .null, .null, .null, .null, .null, .null, .null, .null, .null, .null, .null, .null, .null] .null := Arv.set Ar12 q12 S12 M12 H12 G12 rfl W12 1 rfl (Nat.le_of_ble_eq_true rfl)
  have pre_13 : ∀ t, Sp p e below T12 (mkF m 17 #[.val (.int p1), .val (.int p2), .val (.int p3), .unset, .unset, .unset, .unset, .unset, .unset, .unset, .unset, .unset, .unset, .unset] [(.ref b2)]) t → Steps p.tables e below E0 t := fun t k => pre_11 t (st12 t k)
  have pre_14 : ∀ t, Sp p e below T12 (mkF m 19 #[.val (.int p1), .val (.int p2), .val (.int p3), .unset, .unset, .unset, .unset, .unset, .unset, .unset, .unset, .unset, .unset, .unset] [(.int (2 : Int32)), (.ref b2), (.ref b2)]) t → Steps p.tables e below E0 t := by
    intro t k
    refine pre_13 t ?_
    show Sp p e below T12 (mkF m 17 #[.val (.int p1), .val (.int p2), .val (.int p3), .unset, .unset, .unset, .unset, .unset, .unset, .unset, .unset, .unset, .unset, .unset] [(.ref b2)]) _
    refine XS.dup X12.here hx rfl (hb hby at_17) rfl rfl ?_
    refine XS.iconst X12.here hx rfl (hb hby at_18) ?_
    exact k
  obtain ⟨T15, X15, e15, st15⟩ := getS X12 hx hZ hown (host := "") (own_w hw 8 rfl) Via.refl e12 (S_ap_NEXT.ext O12.2) (g := (mkF m 19 #[.val (.int p1), .val (.int p2), .val (.int p3), .unset, .unset, .unset, .unset, .unset, .unset, .unset, .unset, .unset, .unset, .unset] [(.int (2 : Int32)), (.ref b2), (.ref b2)])) rfl (hb hby at_19)
  have pre_16 : ∀ t, Sp p e below T15 (mkF m 22 #[.val (.int p1), .val (.int p2), .val (.int p3), .unset, .unset, .unset, .unset, .unset, .unset, .unset, .unset, .unset, .unset, .unset] [(.ref ap_NEXT), (.int (2 : Int32)), (.ref b2), (.ref b2)]) t → Steps p.tables e below E0 t := fun t k => pre_14 t (st15 t k)
  obtain ⟨cl17, Ar17, q17, S17, M17, H17, G17⟩ := id V12
  obtain ⟨T17, h17, X17, e17, W17, st17⟩ := stR X15 hx hZ e15 Ar17 (j := (2 : Int32)) (inb_of S17 (by decide)) rfl (Sto.ofV Ar17 q17 Ov2 (Ins.self (E_ap_NEXT.ext O12.2))) (g := (mkF m 22 #[.val (.int p1), .val (.int p2), .val (.int p3), .unset, .unset, .unset, .unset, .unset, .unset, .unset, .unset, .unset, .unset, .unset] [(.ref ap_NEXT), (.int (2 : Int32)), (.ref b2), (.ref b2)])) rfl rfl (hb hby at_22)
  have N17 := Fr.snoc X17 N12 (Nat.le_trans (own_le O0) (Nat.le_of_eq g2.symm))
  have O17 : Old Z n0 h17 := O12.wr W17 (Nat.le_trans (own_le O0) (Nat.le_of_eq g2.symm))
  have V17 : Arv Z h17 b2 cA2 (.object "com/example/twistgauge/twistgauge/limitset/Parameter") (18 : Int32) [(.ref ap_ATTENUATION), (.ref ap_INSERTION_LOSS), (.ref ap_NEXT), .null, .null, .null, .null, .null, .null, .null, .null, .null, .null, .null, .null, .null, .null, .null] .null := Arv.set Ar17 q17 S17 M17 H17 G17 rfl W17 2 rfl (Nat.le_of_ble_eq_true rfl)
  have pre_18 : ∀ t, Sp p e below T17 (mkF m 23 #[.val (.int p1), .val (.int p2), .val (.int p3), .unset, .unset, .unset, .unset, .unset, .unset, .unset, .unset, .unset, .unset, .unset] [(.ref b2)]) t → Steps p.tables e below E0 t := fun t k => pre_16 t (st17 t k)
  have pre_19 : ∀ t, Sp p e below T17 (mkF m 25 #[.val (.int p1), .val (.int p2), .val (.int p3), .unset, .unset, .unset, .unset, .unset, .unset, .unset, .unset, .unset, .unset, .unset] [(.int (3 : Int32)), (.ref b2), (.ref b2)]) t → Steps p.tables e below E0 t := by
    intro t k
    refine pre_18 t ?_
    show Sp p e below T17 (mkF m 23 #[.val (.int p1), .val (.int p2), .val (.int p3), .unset, .unset, .unset, .unset, .unset, .unset, .unset, .unset, .unset, .unset, .unset] [(.ref b2)]) _
    refine XS.dup X17.here hx rfl (hb hby at_23) rfl rfl ?_
    show Sp p e below T17 (mkF m 24 #[.val (.int p1), .val (.int p2), .val (.int p3), .unset, .unset, .unset, .unset, .unset, .unset, .unset, .unset, .unset, .unset, .unset] [(.ref b2), (.ref b2)]) _
    refine XS.iconst X17.here hx rfl (hb hby at_24) ?_
    exact k
  obtain ⟨T20, X20, e20, st20⟩ := getS X17 hx hZ hown (host := "") (own_w hw 10 rfl) Via.refl e17 (S_ap_PSNEXT.ext O17.2) (g := (mkF m 25 #[.val (.int p1), .val (.int p2), .val (.int p3), .unset, .unset, .unset, .unset, .unset, .unset, .unset, .unset, .unset, .unset, .unset] [(.int (3 : Int32)), (.ref b2), (.ref b2)])) rfl (hb hby at_25)
  have pre_21 : ∀ t, Sp p e below T20 (mkF m 28 #[.val (.int p1), .val (.int p2), .val (.int p3), .unset, .unset, .unset, .unset, .unset, .unset, .unset, .unset, .unset, .unset, .unset] [(.ref ap_PSNEXT), (.int (3 : Int32)), (.ref b2), (.ref b2)]) t → Steps p.tables e below E0 t := fun t k => pre_19 t (st20 t k)
  obtain ⟨cl22, Ar22, q22, S22, M22, H22, G22⟩ := id V17
  obtain ⟨T22, h22, X22, e22, W22, st22⟩ := stR X20 hx hZ e20 Ar22 (j := (3 : Int32)) (inb_of S22 (by decide)) rfl (Sto.ofV Ar22 q22 Ov2 (Ins.self (E_ap_PSNEXT.ext O17.2))) (g := (mkF m 28 #[.val (.int p1), .val (.int p2), .val (.int p3), .unset, .unset, .unset, .unset, .unset, .unset, .unset, .unset, .unset, .unset, .unset] [(.ref ap_PSNEXT), (.int (3 : Int32)), (.ref b2), (.ref b2)])) rfl rfl (hb hby at_28)
  have N22 := Fr.snoc X22 N17 (Nat.le_trans (own_le O0) (Nat.le_of_eq g2.symm))
  have O22 : Old Z n0 h22 := O17.wr W22 (Nat.le_trans (own_le O0) (Nat.le_of_eq g2.symm))
  have V22 : Arv Z h22 b2 cA2 (.object "com/example/twistgauge/twistgauge/limitset/Parameter") (18 : Int32) [(.ref ap_ATTENUATION), (.ref ap_INSERTION_LOSS), (.ref ap_NEXT), (.ref ap_PSNEXT), .null, .null, .null, .null, .null, .null, .null, .null, .null, .null, .null, .null, .null, .null] .null := Arv.set Ar22 q22 S22 M22 H22 G22 rfl W22 3 rfl (Nat.le_of_ble_eq_true rfl)
  have pre_23 : ∀ t, Sp p e below T22 (mkF m 29 #[.val (.int p1), .val (.int p2), .val (.int p3), .unset, .unset, .unset, .unset, .unset, .unset, .unset, .unset, .unset, .unset, .unset] [(.ref b2)]) t → Steps p.tables e below E0 t := fun t k => pre_21 t (st22 t k)
  have pre_24 : ∀ t, Sp p e below T22 (mkF m 31 #[.val (.int p1), .val (.int p2), .val (.int p3), .unset, .unset, .unset, .unset, .unset, .unset, .unset, .unset, .unset, .unset, .unset] [(.int (4 : Int32)), (.ref b2), (.ref b2)]) t → Steps p.tables e below E0 t := by
    intro t k
    refine pre_23 t ?_
    show Sp p e below T22 (mkF m 29 #[.val (.int p1), .val (.int p2), .val (.int p3), .unset, .unset, .unset, .unset, .unset, .unset, .unset, .unset, .unset, .unset, .unset] [(.ref b2)]) _
    refine XS.dup X22.here hx rfl (hb hby at_29) rfl rfl ?_
    refine XS.iconst X22.here hx rfl (hb hby at_30) ?_
    exact k
  obtain ⟨T25, X25, e25, st25⟩ := getS X22 hx hZ hown (host := "") (own_w hw 12 rfl) Via.refl e22 (S_ap_ACR.ext O22.2) (g := (mkF m 31 #[.val (.int p1), .val (.int p2), .val (.int p3), .unset, .unset, .unset, .unset, .unset, .unset, .unset, .unset, .unset, .unset, .unset] [(.int (4 : Int32)), (.ref b2), (.ref b2)])) rfl (hb hby at_31)
  have pre_26 : ∀ t, Sp p e below T25 (mkF m 34 #[.val (.int p1), .val (.int p2), .val (.int p3), .unset, .unset, .unset, .unset, .unset, .unset, .unset, .unset, .unset, .unset, .unset] [(.ref ap_ACR), (.int (4 : Int32)), (.ref b2), (.ref b2)]) t → Steps p.tables e below E0 t := fun t k => pre_24 t (st25 t k)
  obtain ⟨cl27, Ar27, q27, S27, M27, H27, G27⟩ := id V22
  obtain ⟨T27, h27, X27, e27, W27, st27⟩ := stR X25 hx hZ e25 Ar27 (j := (4 : Int32)) (inb_of S27 (by decide)) rfl (Sto.ofV Ar27 q27 Ov2 (Ins.self (E_ap_ACR.ext O22.2))) (g := (mkF m 34 #[.val (.int p1), .val (.int p2), .val (.int p3), .unset, .unset, .unset, .unset, .unset, .unset, .unset, .unset, .unset, .unset, .unset] [(.ref ap_ACR), (.int (4 : Int32)), (.ref b2), (.ref b2)])) rfl rfl (hb hby at_34)
  have N27 := Fr.snoc X27 N22 (Nat.le_trans (own_le O0) (Nat.le_of_eq g2.symm))
  have O27 : Old Z n0 h27 := O22.wr W27 (Nat.le_trans (own_le O0) (Nat.le_of_eq g2.symm))
  have V27 : Arv Z h27 b2 cA2 (.object "com/example/twistgauge/twistgauge/limitset/Parameter") (18 : Int32) [(.ref ap_ATTENUATION), (.ref ap_INSERTION_LOSS), (.ref ap_NEXT), (.ref ap_PSNEXT), (.ref ap_ACR), .null, .null, .null, .null, .null, .null, .null, .null, .null, .null, .null, .null, .null] .null := Arv.set Ar27 q27 S27 M27 H27 G27 rfl W27 4 rfl (Nat.le_of_ble_eq_true rfl)
  have pre_28 : ∀ t, Sp p e below T27 (mkF m 35 #[.val (.int p1), .val (.int p2), .val (.int p3), .unset, .unset, .unset, .unset, .unset, .unset, .unset, .unset, .unset, .unset, .unset] [(.ref b2)]) t → Steps p.tables e below E0 t := fun t k => pre_26 t (st27 t k)
  have pre_29 : ∀ t, Sp p e below T27 (mkF m 37 #[.val (.int p1), .val (.int p2), .val (.int p3), .unset, .unset, .unset, .unset, .unset, .unset, .unset, .unset, .unset, .unset, .unset] [(.int (5 : Int32)), (.ref b2), (.ref b2)]) t → Steps p.tables e below E0 t := by
    intro t k
    refine pre_28 t ?_
    show Sp p e below T27 (mkF m 35 #[.val (.int p1), .val (.int p2), .val (.int p3), .unset, .unset, .unset, .unset, .unset, .unset, .unset, .unset, .unset, .unset, .unset] [(.ref b2)]) _
    refine XS.dup X27.here hx rfl (hb hby at_35) rfl rfl ?_
    show Sp p e below T27 (mkF m 36 #[.val (.int p1), .val (.int p2), .val (.int p3), .unset, .unset, .unset, .unset, .unset, .unset, .unset, .unset, .unset, .unset, .unset] [(.ref b2), (.ref b2)]) _
    refine XS.iconst X27.here hx rfl (hb hby at_36) ?_
    exact k
  obtain ⟨T30, X30, e30, st30⟩ := getS X27 hx hZ hown (host := "") (own_w hw 14 rfl) Via.refl e27 (S_ap_PSACR.ext O27.2) (g := (mkF m 37 #[.val (.int p1), .val (.int p2), .val (.int p3), .unset, .unset, .unset, .unset, .unset, .unset, .unset, .unset, .unset, .unset, .unset] [(.int (5 : Int32)), (.ref b2), (.ref b2)])) rfl (hb hby at_37)
  have pre_31 : ∀ t, Sp p e below T30 (mkF m 40 #[.val (.int p1), .val (.int p2), .val (.int p3), .unset, .unset, .unset, .unset, .unset, .unset, .unset, .unset, .unset, .unset, .unset] [(.ref ap_PSACR), (.int (5 : Int32)), (.ref b2), (.ref b2)]) t → Steps p.tables e below E0 t := fun t k => pre_29 t (st30 t k)
  obtain ⟨cl32, Ar32, q32, S32, M32, H32, G32⟩ := id V27
  obtain ⟨T32, h32, X32, e32, W32, st32⟩ := stR X30 hx hZ e30 Ar32 (j := (5 : Int32)) (inb_of S32 (by decide)) rfl (Sto.ofV Ar32 q32 Ov2 (Ins.self (E_ap_PSACR.ext O27.2))) (g := (mkF m 40 #[.val (.int p1), .val (.int p2), .val (.int p3), .unset, .unset, .unset, .unset, .unset, .unset, .unset, .unset, .unset, .unset, .unset] [(.ref ap_PSACR), (.int (5 : Int32)), (.ref b2), (.ref b2)])) rfl rfl (hb hby at_40)
  have N32 := Fr.snoc X32 N27 (Nat.le_trans (own_le O0) (Nat.le_of_eq g2.symm))
  have O32 : Old Z n0 h32 := O27.wr W32 (Nat.le_trans (own_le O0) (Nat.le_of_eq g2.symm))
  have V32 : Arv Z h32 b2 cA2 (.object "com/example/twistgauge/twistgauge/limitset/Parameter") (18 : Int32) [(.ref ap_ATTENUATION), (.ref ap_INSERTION_LOSS), (.ref ap_NEXT), (.ref ap_PSNEXT), (.ref ap_ACR), (.ref ap_PSACR), .null, .null, .null, .null, .null, .null, .null, .null, .null, .null, .null, .null] .null := Arv.set Ar32 q32 S32 M32 H32 G32 rfl W32 5 rfl (Nat.le_of_ble_eq_true rfl)
  have pre_33 : ∀ t, Sp p e below T32 (mkF m 41 #[.val (.int p1), .val (.int p2), .val (.int p3), .unset, .unset, .unset, .unset, .unset, .unset, .unset, .unset, .unset, .unset, .unset] [(.ref b2)]) t → Steps p.tables e below E0 t := fun t k => pre_31 t (st32 t k)
  have pre_34 : ∀ t, Sp p e below T32 (mkF m 44 #[.val (.int p1), .val (.int p2), .val (.int p3), .unset, .unset, .unset, .unset, .unset, .unset, .unset, .unset, .unset, .unset, .unset] [(.int (6 : Int32)), (.ref b2), (.ref b2)]) t → Steps p.tables e below E0 t := by
    intro t k
    refine pre_33 t ?_
    show Sp p e below T32 (mkF m 41 #[.val (.int p1), .val (.int p2), .val (.int p3), .unset, .unset, .unset, .unset, .unset, .unset, .unset, .unset, .unset, .unset, .unset] [(.ref b2)]) _
    refine XS.dup X32.here hx rfl (hb hby at_41) rfl rfl ?_
    refine XS.bipush X32.here hx rfl (hb hby at_42) ?_
    exact k
  obtain ⟨T35, X35, e35, st35⟩ := getS X32 hx hZ hown (host := "") (own_w hw 16 rfl) Via.refl e32 (S_ap_ELFEXT.ext O32.2) (g := (mkF m 44 #[.val (.int p1), .val (.int p2), .val (.int p3), .unset, .unset, .unset, .unset, .unset, .unset, .unset, .unset, .unset, .unset, .unset] [(.int (6 : Int32)), (.ref b2), (.ref b2)])) rfl (hb hby at_44)
  have pre_36 : ∀ t, Sp p e below T35 (mkF m 47 #[.val (.int p1), .val (.int p2), .val (.int p3), .unset, .unset, .unset, .unset, .unset, .unset, .unset, .unset, .unset, .unset, .unset] [(.ref ap_ELFEXT), (.int (6 : Int32)), (.ref b2), (.ref b2)]) t → Steps p.tables e below E0 t := fun t k => pre_34 t (st35 t k)
  obtain ⟨cl37, Ar37, q37, S37, M37, H37, G37⟩ := id V32
  obtain ⟨T37, h37, X37, e37, W37, st37⟩ := stR X35 hx hZ e35 Ar37 (j := (6 : Int32)) (inb_of S37 (by decide)) rfl (Sto.ofV Ar37 q37 Ov2 (Ins.self (E_ap_ELFEXT.ext O32.2))) (g := (mkF m 47 #[.val (.int p1), .val (.int p2), .val (.int p3), .unset, .unset, .unset, .unset, .unset, .unset, .unset, .unset, .unset, .unset, .unset] [(.ref ap_ELFEXT), (.int (6 : Int32)), (.ref b2), (.ref b2)])) rfl rfl (hb hby at_47)
  have N37 := Fr.snoc X37 N32 (Nat.le_trans (own_le O0) (Nat.le_of_eq g2.symm))
  have O37 : Old Z n0 h37 := O32.wr W37 (Nat.le_trans (own_le O0) (Nat.le_of_eq g2.symm))
  have V37 : Arv Z h37 b2 cA2 (.object "com/example/twistgauge/twistgauge/limitset/Parameter") (18 : Int32) [(.ref ap_ATTENUATION), (.ref ap_INSERTION_LOSS), (.ref ap_NEXT), (.ref ap_PSNEXT), (.ref ap_ACR), (.ref ap_PSACR), (.ref ap_ELFEXT), .null, .null, .null, .null, .null, .null, .null, .null, .null, .null, .null] .null := Arv.set Ar37 q37 S37 M37 H37 G37 rfl W37 6 rfl (Nat.le_of_ble_eq_true rfl)
  have pre_38 : ∀ t, Sp p e below T37 (mkF m 48 #[.val (.int p1), .val (.int p2), .val (.int p3), .unset, .unset, .unset, .unset, .unset, .unset, .unset, .unset, .unset, .unset, .unset] [(.ref b2)]) t → Steps p.tables e below E0 t := fun t k => pre_36 t (st37 t k)
  have pre_39 : ∀ t, Sp p e below T37 (mkF m 51 #[.val (.int p1), .val (.int p2), .val (.int p3), .unset, .unset, .unset, .unset, .unset, .unset, .unset, .unset, .unset, .unset, .unset] [(.int (7 : Int32)), (.ref b2), (.ref b2)]) t → Steps p.tables e below E0 t := by
    intro t k
    refine pre_38 t ?_
    show Sp p e below T37 (mkF m 48 #[.val (.int p1), .val (.int p2), .val (.int p3), .unset, .unset, .unset, .unset, .unset, .unset, .unset, .unset, .unset, .unset, .unset] [(.ref b2)]) _
    refine XS.dup X37.here hx rfl (hb hby at_48) rfl rfl ?_
    show Sp p e below T37 (mkF m 49 #[.val (.int p1), .val (.int p2), .val (.int p3), .unset, .unset, .unset, .unset, .unset, .unset, .unset, .unset, .unset, .unset, .unset] [(.ref b2), (.ref b2)]) _
    refine XS.bipush X37.here hx rfl (hb hby at_49) ?_
    exact k
  obtain ⟨T40, X40, e40, st40⟩ := getS X37 hx hZ hown (host := "") (own_w hw 18 rfl) Via.refl e37 (S_ap_PSELFEXT.ext O37.2) (g := (mkF m 51 #[.val (.int p1), .val (.int p2), .val (.int p3), .unset, .unset, .unset, .unset, .unset, .unset, .unset, .unset, .unset, .unset, .unset] [(.int (7 : Int32)), (.ref b2), (.ref b2)])) rfl (hb hby at_51)
  have pre_41 : ∀ t, Sp p e below T40 (mkF m 54 #[.val (.int p1), .val (.int p2), .val (.int p3), .unset, .unset, .unset, .unset, .unset, .unset, .unset, .unset, .unset, .unset, .unset] [(.ref ap_PSELFEXT), (.int (7 : Int32)), (.ref b2), (.ref b2)]) t → Steps p.tables e below E0 t := fun t k => pre_39 t (st40 t k)
  obtain ⟨cl42, Ar42, q42, S42, M42, H42, G42⟩ := id V37
  obtain ⟨T42, h42, X42, e42, W42, st42⟩ := stR X40 hx hZ e40 Ar42 (j := (7 : Int32)) (inb_of S42 (by decide)) rfl (Sto.ofV Ar42 q42 Ov2 (Ins.self (E_ap_PSELFEXT.ext O37.2))) (g := (mkF m 54 #[.val (.int p1), .val (.int p2), .val (.int p3), .unset, .unset, .unset, .unset, .unset, .unset, .unset, .unset, .unset, .unset, .unset] [(.ref ap_PSELFEXT), (.int (7 : Int32)), (.ref b2), (.ref b2)])) rfl rfl (hb hby at_54)
  have N42 := Fr.snoc X42 N37 (Nat.le_trans (own_le O0) (Nat.le_of_eq g2.symm))
  have O42 : Old Z n0 h42 := O37.wr W42 (Nat.le_trans (own_le O0) (Nat.le_of_eq g2.symm))
  have V42 : Arv Z h42 b2 cA2 (.object "com/example/twistgauge/twistgauge/limitset/Parameter") (18 : Int32) [(.ref ap_ATTENUATION), (.ref ap_INSERTION_LOSS), (.ref ap_NEXT), (.ref ap_PSNEXT), (.ref ap_ACR), (.ref ap_PSACR), (.ref ap_ELFEXT), (.ref ap_PSELFEXT), .null, .null, .null, .null, .null, .null, .null, .null, .null, .null] .null := Arv.set Ar42 q42 S42 M42 H42 G42 rfl W42 7 rfl (Nat.le_of_ble_eq_true rfl)
  have pre_43 : ∀ t, Sp p e below T42 (mkF m 55 #[.val (.int p1), .val (.int p2), .val (.int p3), .unset, .unset, .unset, .unset, .unset, .unset, .unset, .unset, .unset, .unset, .unset] [(.ref b2)]) t → Steps p.tables e below E0 t := fun t k => pre_41 t (st42 t k)
  have pre_44 : ∀ t, Sp p e below T42 (mkF m 58 #[.val (.int p1), .val (.int p2), .val (.int p3), .unset, .unset, .unset, .unset, .unset, .unset, .unset, .unset, .unset, .unset, .unset] [(.int (8 : Int32)), (.ref b2), (.ref b2)]) t → Steps p.tables e below E0 t := by
    intro t k
    refine pre_43 t ?_
    show Sp p e below T42 (mkF m 55 #[.val (.int p1), .val (.int p2), .val (.int p3), .unset, .unset, .unset, .unset, .unset, .unset, .unset, .unset, .unset, .unset, .unset] [(.ref b2)]) _
    refine XS.dup X42.here hx rfl (hb hby at_55) rfl rfl ?_
    refine XS.bipush X42.here hx rfl (hb hby at_56) ?_
    exact k
  obtain ⟨T45, X45, e45, st45⟩ := getS X42 hx hZ hown (host := "") (own_w hw 20 rfl) Via.refl e42 (S_ap_RETURN_LOSS.ext O42.2) (g := (mkF m 58 #[.val (.int p1), .val (.int p2), .val (.int p3), .unset, .unset, .unset, .unset, .unset, .unset, .unset, .unset, .unset, .unset, .unset] [(.int (8 : Int32)), (.ref b2), (.ref b2)])) rfl (hb hby at_58)
  have pre_46 : ∀ t, Sp p e below T45 (mkF m 61 #[.val (.int p1), .val (.int p2), .val (.int p3), .unset, .unset, .unset, .unset, .unset, .unset, .unset, .unset, .unset, .unset, .unset] [(.ref ap_RETURN_LOSS), (.int (8 : Int32)), (.ref b2), (.ref b2)]) t → Steps p.tables e below E0 t := fun t k => pre_44 t (st45 t k)
  obtain ⟨cl47, Ar47, q47, S47, M47, H47, G47⟩ := id V42
  obtain ⟨T47, h47, X47, e47, W47, st47⟩ := stR X45 hx hZ e45 Ar47 (j := (8 : Int32)) (inb_of S47 (by decide)) rfl (Sto.ofV Ar47 q47 Ov2 (Ins.self (E_ap_RETURN_LOSS.ext O42.2))) (g := (mkF m 61 #[.val (.int p1), .val (.int p2), .val (.int p3), .unset, .unset, .unset, .unset, .unset, .unset, .unset, .unset, .unset, .unset, .unset] [(.ref ap_RETURN_LOSS), (.int (8 : Int32)), (.ref b2), (.ref b2)])) rfl rfl (hb hby at_61)
  have N47 := Fr.snoc X47 N42 (Nat.le_trans (own_le O0) (Nat.le_of_eq g2.symm))
  have O47 : Old Z n0 h47 := O42.wr W47 (Nat.le_trans (own_le O0) (Nat.le_of_eq g2.symm))
  have V47 : Arv Z h47 b2 cA2 (.object "com/example/twistgauge/twistgauge/limitset/Parameter") (18 : Int32) [(.ref ap_ATTENUATION), (.ref ap_INSERTION_LOSS), (.ref ap_NEXT), (.ref ap_PSNEXT), (.ref ap_ACR), (.ref ap_PSACR), (.ref ap_ELFEXT), (.ref ap_PSELFEXT), (.ref ap_RETURN_LOSS), .null, .null, .null, .null, .null, .null, .null, .null, .null] .null := Arv.set Ar47 q47 S47 M47 H47 G47 rfl W47 8 rfl (Nat.le_of_ble_eq_true rfl)
  have pre_48 : ∀ t, Sp p e below T47 (mkF m 62 #[.val (.int p1), .val (.int p2), .val (.int p3), .unset, .unset, .unset, .unset, .unset, .unset, .unset, .unset, .unset, .unset, .unset] [(.ref b2)]) t → Steps p.tables e below E0 t := fun t k => pre_46 t (st47 t k)
  have pre_49 : ∀ t, Sp p e below T47 (mkF m 65 #[.val (.int p1), .val (.int p2), .val (.int p3), .unset, .unset, .unset, .unset, .unset, .unset, .unset, .unset, .unset, .unset, .unset] [(.int (9 : Int32)), (.ref b2), (.ref b2)]) t → Steps p.tables e below E0 t := by
    intro t k
    refine pre_48 t ?_
    show Sp p e below T47 (mkF m 62 #[.val (.int p1), .val (.int p2), .val (.int p3), .unset, .unset, .unset, .unset, .unset, .unset, .unset, .unset, .unset, .unset, .unset] [(.ref b2)]) _
    refine XS.dup X47.here hx rfl (hb hby at_62) rfl rfl ?_
    show Sp p e below T47 (mkF m 63 #[.val (.int p1), .val (.int p2), .val (.int p3), .unset, .unset, .unset, .unset, .unset, .unset, .unset, .unset, .unset, .unset, .unset] [(.ref b2), (.ref b2)]) _
    refine XS.bipush X47.here hx rfl (hb hby at_63) ?_
    exact k
  obtain ⟨T50, X50, e50, st50⟩ := getS X47 hx hZ hown (host := "") (own_w hw 22 rfl) Via.refl e47 (S_ap_PROPAGATION_DELAY.ext O47.2) (g := (mkF m 65 #[.val (.int p1), .val (.int p2), .val (.int p3), .unset, .unset, .unset, .unset, .unset, .unset, .unset, .unset, .unset, .unset, .unset] [(.int (9 : Int32)), (.ref b2), (.ref b2)])) rfl (hb hby at_65)
  have pre_51 : ∀ t, Sp p e below T50 (mkF m 68 #[.val (.int p1), .val (.int p2), .val (.int p3), .unset, .unset, .unset, .unset, .unset, .unset, .unset, .unset, .unset, .unset, .unset] [(.ref ap_PROPAGATION_DELAY), (.int (9 : Int32)), (.ref b2), (.ref b2)]) t → Steps p.tables e below E0 t := fun t k => pre_49 t (st50 t k)
  obtain ⟨cl52, Ar52, q52, S52, M52, H52, G52⟩ := id V47
  obtain ⟨T52, h52, X52, e52, W52, st52⟩ := stR X50 hx hZ e50 Ar52 (j := (9 : Int32)) (inb_of S52 (by decide)) rfl (Sto.ofV Ar52 q52 Ov2 (Ins.self (E_ap_PROPAGATION_DELAY.ext O47.2))) (g := (mkF m 68 #[.val (.int p1), .val (.int p2), .val (.int p3), .unset, .unset, .unset, .unset, .unset, .unset, .unset, .unset, .unset, .unset, .unset] [(.ref ap_PROPAGATION_DELAY), (.int (9 : Int32)), (.ref b2), (.ref b2)])) rfl rfl (hb hby at_68)
  have N52 := Fr.snoc X52 N47 (Nat.le_trans (own_le O0) (Nat.le_of_eq g2.symm))
  have O52 : Old Z n0 h52 := O47.wr W52 (Nat.le_trans (own_le O0) (Nat.le_of_eq g2.symm))
  have V52 : Arv Z h52 b2 cA2 (.object "com/example/twistgauge/twistgauge/limitset/Parameter") (18 : Int32) [(.ref ap_ATTENUATION), (.ref ap_INSERTION_LOSS), (.ref ap_NEXT), (.ref ap_PSNEXT), (.ref ap_ACR), (.ref ap_PSACR), (.ref ap_ELFEXT), (.ref ap_PSELFEXT), (.ref ap_RETURN_LOSS), (.ref ap_PROPAGATION_DELAY), .null, .null, .null, .null, .null, .null, .null, .null] .null := Arv.set Ar52 q52 S52 M52 H52 G52 rfl W52 9 rfl (Nat.le_of_ble_eq_true rfl)
  have pre_53 : ∀ t, Sp p e below T52 (mkF m 69 #[.val (.int p1), .val (.int p2), .val (.int p3), .unset, .unset, .unset, .unset, .unset, .unset, .unset, .unset, .unset, .unset, .unset] [(.ref b2)]) t → Steps p.tables e below E0 t := fun t k => pre_51 t (st52 t k)
  have pre_54 : ∀ t, Sp p e below T52 (mkF m 72 #[.val (.int p1), .val (.int p2), .val (.int p3), .unset, .unset, .unset, .unset, .unset, .unset, .unset, .unset, .unset, .unset, .unset] [(.int (10 : Int32)), (.ref b2), (.ref b2)]) t → Steps p.tables e below E0 t := by
    intro t k
    refine pre_53 t ?_
    show Sp p e below T52 (mkF m 69 #[.val (.int p1), .val (.int p2), .val (.int p3), .unset, .unset, .unset, .unset, .unset, .unset, .unset, .unset, .unset, .unset, .unset] [(.ref b2)]) _
    refine XS.dup X52.here hx rfl (hb hby at_69) rfl rfl ?_
    refine XS.bipush X52.here hx rfl (hb hby at_70) ?_
    exact k
  obtain ⟨T55, X55, e55, st55⟩ := getS X52 hx hZ hown (host := "") (own_w hw 24 rfl) Via.refl e52 (S_ap_DELAY_SKEW.ext O52.2) (g := (mkF m 72 #[.val (.int p1), .val (.int p2), .val (.int p3), .unset, .unset, .unset, .unset, .unset, .unset, .unset, .unset, .unset, .unset, .unset] [(.int (10 : Int32)), (.ref b2), (.ref b2)])) rfl (hb hby at_72)
  have pre_56 : ∀ t, Sp p e below T55 (mkF m 75 #[.val (.int p1), .val (.int p2), .val (.int p3), .unset, .unset, .unset, .unset, .unset, .unset, .unset, .unset, .unset, .unset, .unset] [(.ref ap_DELAY_SKEW), (.int (10 : Int32)), (.ref b2), (.ref b2)]) t → Steps p.tables e below E0 t := fun t k => pre_54 t (st55 t k)
  obtain ⟨cl57, Ar57, q57, S57, M57, H57, G57⟩ := id V52
  obtain ⟨T57, h57, X57, e57, W57, st57⟩ := stR X55 hx hZ e55 Ar57 (j := (10 : Int32)) (inb_of S57 (by decide)) rfl (Sto.ofV Ar57 q57 Ov2 (Ins.self (E_ap_DELAY_SKEW.ext O52.2))) (g := (mkF m 75 #[.val (.int p1), .val (.int p2), .val (.int p3), .unset, .unset, .unset, .unset, .unset, .unset, .unset, .unset, .unset, .unset, .unset] [(.ref ap_DELAY_SKEW), (.int (10 : Int32)), (.ref b2), (.ref b2)])) rfl rfl (hb hby at_75)
  have N57 := Fr.snoc X57 N52 (Nat.le_trans (own_le O0) (Nat.le_of_eq g2.symm))
  have O57 : Old Z n0 h57 := O52.wr W57 (Nat.le_trans (own_le O0) (Nat.le_of_eq g2.symm))
  have V57 : Arv Z h57 b2 cA2 (.object "com/example/twistgauge/twistgauge/limitset/Parameter") (18 : Int32) [(.ref ap_ATTENUATION), (.ref ap_INSERTION_LOSS), (.ref ap_NEXT), (.ref ap_PSNEXT), (.ref ap_ACR), (.ref ap_PSACR), (.ref ap_ELFEXT), (.ref ap_PSELFEXT), (.ref ap_RETURN_LOSS), (.ref ap_PROPAGATION_DELAY), (.ref ap_DELAY_SKEW), .null, .null, .null, .null, .null, .null, .null] .null := Arv.set Ar57 q57 S57 M57 H57 G57 rfl W57 10 rfl (Nat.le_of_ble_eq_true rfl)
  have pre_58 : ∀ t, Sp p e below T57 (mkF m 76 #[.val (.int p1), .val (.int p2), .val (.int p3), .unset, .unset, .unset, .unset, .unset, .unset, .unset, .unset, .unset, .unset, .unset] [(.ref b2)]) t → Steps p.tables e below E0 t := fun t k => pre_56 t (st57 t k)
  have pre_59 : ∀ t, Sp p e below T57 (mkF m 79 #[.val (.int p1), .val (.int p2), .val (.int p3), .unset, .unset, .unset, .unset, .unset, .unset, .unset, .unset, .unset, .unset, .unset] [(.int (11 : Int32)), (.ref b2), (.ref b2)]) t → Steps p.tables e below E0 t := by
    intro t k
    refine pre_58 t ?_
    show Sp p e below T57 (mkF m 76 #[.val (.int p1), .val (.int p2), .val (.int p3), .unset, .unset, .unset, .unset, .unset, .unset, .unset, .unset, .unset, .unset, .unset] [(.ref b2)]) _
    refine XS.dup X57.here hx rfl (hb hby at_76) rfl rfl ?_
    show Sp p e below T57 (mkF m 77 #[.val (.int p1), .val (.int p2), .val (.int p3), .unset, .unset, .unset, .unset, .unset, .unset, .unset, .unset, .unset, .unset, .unset] [(.ref b2), (.ref b2)]) _
    refine XS.bipush X57.here hx rfl (hb hby at_77) ?_
    exact k
  obtain ⟨T60, X60, e60, st60⟩ := getS X57 hx hZ hown (host := "") (own_w hw 26 rfl) Via.refl e57 (S_ap_RESISTANCE.ext O57.2) (g := (mkF m 79 #[.val (.int p1), .val (.int p2), .val (.int p3), .unset, .unset, .unset, .unset, .unset, .unset, .unset, .unset, .unset, .unset, .unset] [(.int (11 : Int32)), (.ref b2), (.ref b2)])) rfl (hb hby at_79)
  have pre_61 : ∀ t, Sp p e below T60 (mkF m 82 #[.val (.int p1), .val (.int p2), .val (.int p3), .unset, .unset, .unset, .unset, .unset, .unset, .unset, .unset, .unset, .unset, .unset] [(.ref ap_RESISTANCE), (.int (11 : Int32)), (.ref b2), (.ref b2)]) t → Steps p.tables e below E0 t := fun t k => pre_59 t (st60 t k)
  obtain ⟨cl62, Ar62, q62, S62, M62, H62, G62⟩ := id V57
  obtain ⟨T62, h62, X62, e62, W62, st62⟩ := stR X60 hx hZ e60 Ar62 (j := (11 : Int32)) (inb_of S62 (by decide)) rfl (Sto.ofV Ar62 q62 Ov2 (Ins.self (E_ap_RESISTANCE.ext O57.2))) (g := (mkF m 82 #[.val (.int p1), .val (.int p2), .val (.int p3), .unset, .unset, .unset, .unset, .unset, .unset, .unset, .unset, .unset, .unset, .unset] [(.ref ap_RESISTANCE), (.int (11 : Int32)), (.ref b2), (.ref b2)])) rfl rfl (hb hby at_82)
  have N62 := Fr.snoc X62 N57 (Nat.le_trans (own_le O0) (Nat.le_of_eq g2.symm))
  have O62 : Old Z n0 h62 := O57.wr W62 (Nat.le_trans (own_le O0) (Nat.le_of_eq g2.symm))
  have V62 : Arv Z h62 b2 cA2 (.object "com/example/twistgauge/twistgauge/limitset/Parameter") (18 : Int32) [(.ref ap_ATTENUATION), (.ref ap_INSERTION_LOSS), (.ref ap_NEXT), (.ref ap_PSNEXT), (.ref ap_ACR), (.ref ap_PSACR), (.ref ap_ELFEXT), (.ref ap_PSELFEXT), (.ref ap_RETURN_LOSS), (.ref ap_PROPAGATION_DELAY), (.ref ap_DELAY_SKEW), (.ref ap_RESISTANCE), .null, .null, .null, .null, .null, .null] .null := Arv.set Ar62 q62 S62 M62 H62 G62 rfl W62 11 rfl (Nat.le_of_ble_eq_true rfl)
  have pre_63 : ∀ t, Sp p e below T62 (mkF m 83 #[.val (.int p1), .val (.int p2), .val (.int p3), .unset, .unset, .unset, .unset, .unset, .unset, .unset, .unset, .unset, .unset, .unset] [(.ref b2)]) t → Steps p.tables e below E0 t := fun t k => pre_61 t (st62 t k)
  have pre_64 : ∀ t, Sp p e below T62 (mkF m 86 #[.val (.int p1), .val (.int p2), .val (.int p3), .unset, .unset, .unset, .unset, .unset, .unset, .unset, .unset, .unset, .unset, .unset] [(.int (12 : Int32)), (.ref b2), (.ref b2)]) t → Steps p.tables e below E0 t := by
    intro t k
    refine pre_63 t ?_
    show Sp p e below T62 (mkF m 83 #[.val (.int p1), .val (.int p2), .val (.int p3), .unset, .unset, .unset, .unset, .unset, .unset, .unset, .unset, .unset, .unset, .unset] [(.ref b2)]) _
    refine XS.dup X62.here hx rfl (hb hby at_83) rfl rfl ?_
    refine XS.bipush X62.here hx rfl (hb hby at_84) ?_
    exact k
  obtain ⟨T65, X65, e65, st65⟩ := getS X62 hx hZ hown (host := "") (own_w hw 28 rfl) Via.refl e62 (S_ap_LOOP_RESISTANCE.ext O62.2) (g := (mkF m 86 #[.val (.int p1), .val (.int p2), .val (.int p3), .unset, .unset, .unset, .unset, .unset, .unset, .unset, .unset, .unset, .unset, .unset] [(.int (12 : Int32)), (.ref b2), (.ref b2)])) rfl (hb hby at_86)
  have pre_66 : ∀ t, Sp p e below T65 (mkF m 89 #[.val (.int p1), .val (.int p2), .val (.int p3), .unset, .unset, .unset, .unset, .unset, .unset, .unset, .unset, .unset, .unset, .unset] [(.ref ap_LOOP_RESISTANCE), (.int (12 : Int32)), (.ref b2), (.ref b2)]) t → Steps p.tables e below E0 t := fun t k => pre_64 t (st65 t k)
  obtain ⟨cl67, Ar67, q67, S67, M67, H67, G67⟩ := id V62
  obtain ⟨T67, h67, X67, e67, W67, st67⟩ := stR X65 hx hZ e65 Ar67 (j := (12 : Int32)) (inb_of S67 (by decide)) rfl (Sto.ofV Ar67 q67 Ov2 (Ins.self (E_ap_LOOP_RESISTANCE.ext O62.2))) (g := (mkF m 89 #[.val (.int p1), .val (.int p2), .val (.int p3), .unset, .unset, .unset, .unset, .unset, .unset, .unset, .unset, .unset, .unset, .unset] [(.ref ap_LOOP_RESISTANCE), (.int (12 : Int32)), (.ref b2), (.ref b2)])) rfl rfl (hb hby at_89)
  have N67 := Fr.snoc X67 N62 (Nat.le_trans (own_le O0) (Nat.le_of_eq g2.symm))
  have O67 : Old Z n0 h67 := O62.wr W67 (Nat.le_trans (own_le O0) (Nat.le_of_eq g2.symm))
  have V67 : Arv Z h67 b2 cA2 (.object "com/example/twistgauge/twistgauge/limitset/Parameter") (18 : Int32) [(.ref ap_ATTENUATION), (.ref ap_INSERTION_LOSS), (.ref ap_NEXT), (.ref ap_PSNEXT), (.ref ap_ACR), (.ref ap_PSACR), (.ref ap_ELFEXT), (.ref ap_PSELFEXT), (.ref ap_RETURN_LOSS), (.ref ap_PROPAGATION_DELAY), (.ref ap_DELAY_SKEW), (.ref ap_RESISTANCE), (.ref ap_LOOP_RESISTANCE), .null, .null, .null, .null, .null] .null := Arv.set Ar67 q67 S67 M67 H67 G67 rfl W67 12 rfl (Nat.le_of_ble_eq_true rfl)
  have pre_68 : ∀ t, Sp p e below T67 (mkF m 90 #[.val (.int p1), .val (.int p2), .val (.int p3), .unset, .unset, .unset, .unset, .unset, .unset, .unset, .unset, .unset, .unset, .unset] [(.ref b2)]) t → Steps p.tables e below E0 t := fun t k => pre_66 t (st67 t k)
  have pre_69 : ∀ t, Sp p e below T67 (mkF m 93 #[.val (.int p1), .val (.int p2), .val (.int p3), .unset, .unset, .unset, .unset, .unset, .unset, .unset, .unset, .unset, .unset, .unset] [(.int (13 : Int32)), (.ref b2), (.ref b2)]) t → Steps p.tables e below E0 t := by
    intro t k
    refine pre_68 t ?_
    show Sp p e below T67 (mkF m 90 #[.val (.int p1), .val (.int p2), .val (.int p3), .unset, .unset, .unset, .unset, .unset, .unset, .unset, .unset, .unset, .unset, .unset] [(.ref b2)]) _
    refine XS.dup X67.here hx rfl (hb hby at_90) rfl rfl ?_
    show Sp p e below T67 (mkF m 91 #[.val (.int p1), .val (.int p2), .val (.int p3), .unset, .unset, .unset, .unset, .unset, .unset, .unset, .unset, .unset, .unset, .unset] [(.ref b2), (.ref b2)]) _
    refine XS.bipush X67.here hx rfl (hb hby at_91) ?_
    exact k
  obtain ⟨T70, X70, e70, st70⟩ := getS X67 hx hZ hown (host := "") (own_w hw 30 rfl) Via.refl e67 (S_ap_RESISTANCE_UNBALANCE.ext O67.2) (g := (mkF m 93 #[.val (.int p1), .val (.int p2), .val (.int p3), .unset, .unset, .unset, .unset, .unset, .unset, .unset, .unset, .unset, .unset, .unset] [(.int (13 : Int32)), (.ref b2), (.ref b2)])) rfl (hb hby at_93)
  have pre_71 : ∀ t, Sp p e below T70 (mkF m 96 #[.val (.int p1), .val (.int p2), .val (.int p3), .unset, .unset, .unset, .unset, .unset, .unset, .unset, .unset, .unset, .unset, .unset] [(.ref ap_RESISTANCE_UNBALANCE), (.int (13 : Int32)), (.ref b2), (.ref b2)]) t → Steps p.tables e below E0 t := fun t k => pre_69 t (st70 t k)
  obtain ⟨cl72, Ar72, q72, S72, M72, H72, G72⟩ := id V67
  obtain ⟨T72, h72, X72, e72, W72, st72⟩ := stR X70 hx hZ e70 Ar72 (j := (13 : Int32)) (inb_of S72 (by decide)) rfl (Sto.ofV Ar72 q72 Ov2 (Ins.self (E_ap_RESISTANCE_UNBALANCE.ext O67.2))) (g := (mkF m 96 #[.val (.int p1), .val (.int p2), .val (.int p3), .unset, .unset, .unset, .unset, .unset, .unset, .unset, .unset, .unset, .unset, .unset] [(.ref ap_RESISTANCE_UNBALANCE), (.int (13 : Int32)), (.ref b2), (.ref b2)])) rfl rfl (hb hby at_96)
  have N72 := Fr.snoc X72 N67 (Nat.le_trans (own_le O0) (Nat.le_of_eq g2.symm))
  have O72 : Old Z n0 h72 := O67.wr W72 (Nat.le_trans (own_le O0) (Nat.le_of_eq g2.symm))
  have V72 : Arv Z h72 b2 cA2 (.object "com/example/twistgauge/twistgauge/limitset/Parameter") (18 : Int32) [(.ref ap_ATTENUATION), (.ref ap_INSERTION_LOSS), (.ref ap_NEXT), (.ref ap_PSNEXT), (.ref ap_ACR), (.ref ap_PSACR), (.ref ap_ELFEXT), (.ref ap_PSELFEXT), (.ref ap_RETURN_LOSS), (.ref ap_PROPAGATION_DELAY), (.ref ap_DELAY_SKEW), (.ref ap_RESISTANCE), (.ref ap_LOOP_RESISTANCE), (.ref ap_RESISTANCE_UNBALANCE), .null, .null, .null, .null] .null := Arv.set Ar72 q72 S72 M72 H72 G72 rfl W72 13 rfl (Nat.le_of_ble_eq_true rfl)
  have pre_73 : ∀ t, Sp p e below T72 (mkF m 97 #[.val (.int p1), .val (.int p2), .val (.int p3), .unset, .unset, .unset, .unset, .unset, .unset, .unset, .unset, .unset, .unset, .unset] [(.ref b2)]) t → Steps p.tables e below E0 t := fun t k => pre_71 t (st72 t k)
  have pre_74 : ∀ t, Sp p e below T72 (mkF m 100 #[.val (.int p1), .val (.int p2), .val (.int p3), .unset, .unset, .unset, .unset, .unset, .unset, .unset, .unset, .unset, .unset, .unset] [(.int (14 : Int32)), (.ref b2), (.ref b2)]) t → Steps p.tables e below E0 t := by
    intro t k
    refine pre_73 t ?_
    show Sp p e below T72 (mkF m 97 #[.val (.int p1), .val (.int p2), .val (.int p3), .unset, .unset, .unset, .unset, .unset, .unset, .unset, .unset, .unset, .unset, .unset] [(.ref b2)]) _
    refine XS.dup X72.here hx rfl (hb hby at_97) rfl rfl ?_
    refine XS.bipush X72.here hx rfl (hb hby at_98) ?_
    exact k
  obtain ⟨T75, X75, e75, st75⟩ := getS X72 hx hZ hown (host := "") (own_w hw 32 rfl) Via.refl e72 (S_ap_PAIR_RESISTANCE_UNBALANCE.ext O72.2) (g := (mkF m 100 #[.val (.int p1), .val (.int p2), .val (.int p3), .unset, .unset, .unset, .unset, .unset, .unset, .unset, .unset, .unset, .unset, .unset] [(.int (14 : Int32)), (.ref b2), (.ref b2)])) rfl (hb hby at_100)
  have pre_76 : ∀ t, Sp p e below T75 (mkF m 103 #[.val (.int p1), .val (.int p2), .val (.int p3), .unset, .unset, .unset, .unset, .unset, .unset, .unset, .unset, .unset, .unset, .unset] [(.ref ap_PAIR_RESISTANCE_UNBALANCE), (.int (14 : Int32)), (.ref b2), (.ref b2)]) t → Steps p.tables e below E0 t := fun t k => pre_74 t (st75 t k)
  obtain ⟨cl77, Ar77, q77, S77, M77, H77, G77⟩ := id V72
  obtain ⟨T77, h77, X77, e77, W77, st77⟩ := stR X75 hx hZ e75 Ar77 (j := (14 : Int32)) (inb_of S77 (by decide)) rfl (Sto.ofV Ar77 q77 Ov2 (Ins.self (E_ap_PAIR_RESISTANCE_UNBALANCE.ext O72.2))) (g := (mkF m 103 #[.val (.int p1), .val (.int p2), .val (.int p3), .unset, .unset, .unset, .unset, .unset, .unset, .unset, .unset, .unset, .unset, .unset] [(.ref ap_PAIR_RESISTANCE_UNBALANCE), (.int (14 : Int32)), (.ref b2), (.ref b2)])) rfl rfl (hb hby at_103)
  have N77 := Fr.snoc X77 N72 (Nat.le_trans (own_le O0) (Nat.le_of_eq g2.symm))
  have O77 : Old Z n0 h77 := O72.wr W77 (Nat.le_trans (own_le O0) (Nat.le_of_eq g2.symm))
  have V77 : Arv Z h77 b2 cA2 (.object "com/example/twistgauge/twistgauge/limitset/Parameter") (18 : Int32) [(.ref ap_ATTENUATION), (.ref ap_INSERTION_LOSS), (.ref ap_NEXT), (.ref ap_PSNEXT), (.ref ap_ACR), (.ref ap_PSACR), (.ref ap_ELFEXT), (.ref ap_PSELFEXT), (.ref ap_RETURN_LOSS), (.ref ap_PROPAGATION_DELAY), (.ref ap_DELAY_SKEW), (.ref ap_RESISTANCE), (.ref ap_LOOP_RESISTANCE), (.ref ap_RESISTANCE_UNBALANCE), (.ref ap_PAIR_RESISTANCE_UNBALANCE), .null, .null, .null] .null := Arv.set Ar77 q77 S77 M77 H77 G77 rfl W77 14 rfl (Nat.le_of_ble_eq_true rfl)
  have pre_78 : ∀ t, Sp p e below T77 (mkF m 104 #[.val (.int p1), .val (.int p2), .val (.int p3), .unset, .unset, .unset, .unset, .unset, .unset, .unset, .unset, .unset, .unset, .unset] [(.ref b2)]) t → Steps p.tables e below E0 t := fun t k => pre_76 t (st77 t k)
  have pre_79 : ∀ t, Sp p e below T77 (mkF m 107 #[.val (.int p1), .val (.int p2), .val (.int p3), .unset, .unset, .unset, .unset, .unset, .unset, .unset, .unset, .unset, .unset, .unset] [(.int (15 : Int32)), (.ref b2), (.ref b2)]) t → Steps p.tables e below E0 t := by
    intro t k
    refine pre_78 t ?_
    show Sp p e below T77 (mkF m 104 #[.val (.int p1), .val (.int p2), .val (.int p3), .unset, .unset, .unset, .unset, .unset, .unset, .unset, .unset, .unset, .unset, .unset] [(.ref b2)]) _
    refine XS.dup X77.here hx rfl (hb hby at_104) rfl rfl ?_
    show Sp p e below T77 (mkF m 105 #[.val (.int p1), .val (.int p2), .val (.int p3), .unset, .unset, .unset, .unset, .unset, .unset, .unset, .unset, .unset, .unset, .unset] [(.ref b2), (.ref b2)]) _
    refine XS.bipush X77.here hx rfl (hb hby at_105) ?_
    exact k
  obtain ⟨T80, X80, e80, st80⟩ := getS X77 hx hZ hown (host := "") (own_w hw 34 rfl) Via.refl e77 (S_ap_OPERATING_CAPACITANCE.ext O77.2) (g := (mkF m 107 #[.val (.int p1), .val (.int p2), .val (.int p3), .unset, .unset, .unset, .unset, .unset, .unset, .unset, .unset, .unset, .unset, .unset] [(.int (15 : Int32)), (.ref b2), (.ref b2)])) rfl (hb hby at_107)
  have pre_81 : ∀ t, Sp p e below T80 (mkF m 110 #[.val (.int p1), .val (.int p2), .val (.int p3), .unset, .unset, .unset, .unset, .unset, .unset, .unset, .unset, .unset, .unset, .unset] [(.ref ap_OPERATING_CAPACITANCE), (.int (15 : Int32)), (.ref b2), (.ref b2)]) t → Steps p.tables e below E0 t := fun t k => pre_79 t (st80 t k)
  obtain ⟨cl82, Ar82, q82, S82, M82, H82, G82⟩ := id V77
  obtain ⟨T82, h82, X82, e82, W82, st82⟩ := stR X80 hx hZ e80 Ar82 (j := (15 : Int32)) (inb_of S82 (by decide)) rfl (Sto.ofV Ar82 q82 Ov2 (Ins.self (E_ap_OPERATING_CAPACITANCE.ext O77.2))) (g := (mkF m 110 #[.val (.int p1), .val (.int p2), .val (.int p3), .unset, .unset, .unset, .unset, .unset, .unset, .unset, .unset, .unset, .unset, .unset] [(.ref ap_OPERATING_CAPACITANCE), (.int (15 : Int32)), (.ref b2), (.ref b2)])) rfl rfl (hb hby at_110)
  have N82 := Fr.snoc X82 N77 (Nat.le_trans (own_le O0) (Nat.le_of_eq g2.symm))
  have O82 : Old Z n0 h82 := O77.wr W82 (Nat.le_trans (own_le O0) (Nat.le_of_eq g2.symm))
  have V82 : Arv Z h82 b2 cA2 (.object "com/example/twistgauge/twistgauge/limitset/Parameter") (18 : Int32) [(.ref ap_ATTENUATION), (.ref ap_INSERTION_LOSS), (.ref ap_NEXT), (.ref ap_PSNEXT), (.ref ap_ACR), (.ref ap_PSACR), (.ref ap_ELFEXT), (.ref ap_PSELFEXT), (.ref ap_RETURN_LOSS), (.ref ap_PROPAGATION_DELAY), (.ref ap_DELAY_SKEW), (.ref ap_RESISTANCE), (.ref ap_LOOP_RESISTANCE), (.ref ap_RESISTANCE_UNBALANCE), (.ref ap_PAIR_RESISTANCE_UNBALANCE), (.ref ap_OPERATING_CAPACITANCE), .null, .null] .null := Arv.set Ar82 q82 S82 M82 H82 G82 rfl W82 15 rfl (Nat.le_of_ble_eq_true rfl)
  have pre_83 : ∀ t, Sp p e below T82 (mkF m 111 #[.val (.int p1), .val (.int p2), .val (.int p3), .unset, .unset, .unset, .unset, .unset, .unset, .unset, .unset, .unset, .unset, .unset] [(.ref b2)]) t → Steps p.tables e below E0 t := fun t k => pre_81 t (st82 t k)
  have pre_84 : ∀ t, Sp p e below T82 (mkF m 114 #[.val (.int p1), .val (.int p2), .val (.int p3), .unset, .unset, .unset, .unset, .unset, .unset, .unset, .unset, .unset, .unset, .unset] [(.int (16 : Int32)), (.ref b2), (.ref b2)]) t → Steps p.tables e below E0 t := by
    intro t k
    refine pre_83 t ?_
    show Sp p e below T82 (mkF m 111 #[.val (.int p1), .val (.int p2), .val (.int p3), .unset, .unset, .unset, .unset, .unset, .unset, .unset, .unset, .unset, .unset, .unset] [(.ref b2)]) _
    refine XS.dup X82.here hx rfl (hb hby at_111) rfl rfl ?_
    refine XS.bipush X82.here hx rfl (hb hby at_112) ?_
    exact k
  obtain ⟨T85, X85, e85, st85⟩ := getS X82 hx hZ hown (host := "") (own_w hw 36 rfl) Via.refl e82 (S_ap_INSULATION_RESISTANCE.ext O82.2) (g := (mkF m 114 #[.val (.int p1), .val (.int p2), .val (.int p3), .unset, .unset, .unset, .unset, .unset, .unset, .unset, .unset, .unset, .unset, .unset] [(.int (16 : Int32)), (.ref b2), (.ref b2)])) rfl (hb hby at_114)
  have pre_86 : ∀ t, Sp p e below T85 (mkF m 117 #[.val (.int p1), .val (.int p2), .val (.int p3), .unset, .unset, .unset, .unset, .unset, .unset, .unset, .unset, .unset, .unset, .unset] [(.ref ap_INSULATION_RESISTANCE), (.int (16 : Int32)), (.ref b2), (.ref b2)]) t → Steps p.tables e below E0 t := fun t k => pre_84 t (st85 t k)
  obtain ⟨cl87, Ar87, q87, S87, M87, H87, G87⟩ := id V82
  obtain ⟨T87, h87, X87, e87, W87, st87⟩ := stR X85 hx hZ e85 Ar87 (j := (16 : Int32)) (inb_of S87 (by decide)) rfl (Sto.ofV Ar87 q87 Ov2 (Ins.self (E_ap_INSULATION_RESISTANCE.ext O82.2))) (g := (mkF m 117 #[.val (.int p1), .val (.int p2), .val (.int p3), .unset, .unset, .unset, .unset, .unset, .unset, .unset, .unset, .unset, .unset, .unset] [(.ref ap_INSULATION_RESISTANCE), (.int (16 : Int32)), (.ref b2), (.ref b2)])) rfl rfl (hb hby at_117)
  have N87 := Fr.snoc X87 N82 (Nat.le_trans (own_le O0) (Nat.le_of_eq g2.symm))
  have O87 : Old Z n0 h87 := O82.wr W87 (Nat.le_trans (own_le O0) (Nat.le_of_eq g2.symm))
  have V87 : Arv Z h87 b2 cA2 (.object "com/example/twistgauge/twistgauge/limitset/Parameter") (18 : Int32) [(.ref ap_ATTENUATION), (.ref ap_INSERTION_LOSS), (.ref ap_NEXT), (.ref ap_PSNEXT), (.ref ap_ACR), (.ref ap_PSACR), (.ref ap_ELFEXT), (.ref ap_PSELFEXT), (.ref ap_RETURN_LOSS), (.ref ap_PROPAGATION_DELAY), (.ref ap_DELAY_SKEW), (.ref ap_RESISTANCE), (.ref ap_LOOP_RESISTANCE), (.ref ap_RESISTANCE_UNBALANCE), (.ref ap_PAIR_RESISTANCE_UNBALANCE), (.ref ap_OPERATING_CAPACITANCE), (.ref ap_INSULATION_RESISTANCE), .null] .null := Arv.set Ar87 q87 S87 M87 H87 G87 rfl W87 16 rfl (Nat.le_of_ble_eq_true rfl)
  have pre_88 : ∀ t, Sp p e below T87 (mkF m 118 #[.val (.int p1), .val (.int p2), .val (.int p3), .unset, .unset, .unset, .unset, .unset, .unset, .unset, .unset, .unset, .unset, .unset] [(.ref b2)]) t → Steps p.tables e below E0 t := fun t k => pre_86 t (st87 t k)
  have pre_89 : ∀ t, Sp p e below T87 (mkF m 121 #[.val (.int p1), .val (.int p2), .val (.int p3), .unset, .unset, .unset, .unset, .unset, .unset, .unset, .unset, .unset, .unset, .unset] [(.int (17 : Int32)), (.ref b2), (.ref b2)]) t → Steps p.tables e below E0 t := by
    intro t k
    refine pre_88 t ?_
    show Sp p e below T87 (mkF m 118 #[.val (.int p1), .val (.int p2), .val (.int p3), .unset, .unset, .unset, .unset, .unset, .unset, .unset, .unset, .unset, .unset, .unset] [(.ref b2)]) _
    refine XS.dup X87.here hx rfl (hb hby at_118) rfl rfl ?_
    show Sp p e below T87 (mkF m 119 #[.val (.int p1), .val (.int p2), .val (.int p3), .unset, .unset, .unset, .unset, .unset, .unset, .unset, .unset, .unset, .unset, .unset] [(.ref b2), (.ref b2)]) _
    refine XS.bipush X87.here hx rfl (hb hby at_119) ?_
    exact k
  obtain ⟨T90, X90, e90, st90⟩ := getS X87 hx hZ hown (host := "") (own_w hw 38 rfl) Via.refl e87 (S_ap_CAPACITANCE_UNBALANCE_EARTH.ext O87.2) (g := (mkF m 121 #[.val (.int p1), .val (.int p2), .val (.int p3), .unset, .unset, .unset, .unset, .unset, .unset, .unset, .unset, .unset, .unset, .unset] [(.int (17 : Int32)), (.ref b2), (.ref b2)])) rfl (hb hby at_121)
  have pre_91 : ∀ t, Sp p e below T90 (mkF m 124 #[.val (.int p1), .val (.int p2), .val (.int p3), .unset, .unset, .unset, .unset, .unset, .unset, .unset, .unset, .unset, .unset, .unset] [(.ref ap_CAPACITANCE_UNBALANCE_EARTH), (.int (17 : Int32)), (.ref b2), (.ref b2)]) t → Steps p.tables e below E0 t := fun t k => pre_89 t (st90 t k)
  obtain ⟨cl92, Ar92, q92, S92, M92, H92, G92⟩ := id V87
  obtain ⟨T92, h92, X92, e92, W92, st92⟩ := stR X90 hx hZ e90 Ar92 (j := (17 : Int32)) (inb_of S92 (by decide)) rfl (Sto.ofV Ar92 q92 Ov2 (Ins.self (E_ap_CAPACITANCE_UNBALANCE_EARTH.ext O87.2))) (g := (mkF m 124 #[.val (.int p1), .val (.int p2), .val (.int p3), .unset, .unset, .unset, .unset, .unset, .unset, .unset, .unset, .unset, .unset, .unset] [(.ref ap_CAPACITANCE_UNBALANCE_EARTH), (.int (17 : Int32)), (.ref b2), (.ref b2)])) rfl rfl (hb hby at_124)
  have N92 := Fr.snoc X92 N87 (Nat.le_trans (own_le O0) (Nat.le_of_eq g2.symm))
  have O92 : Old Z n0 h92 := O87.wr W92 (Nat.le_trans (own_le O0) (Nat.le_of_eq g2.symm))
  have V92 : Arv Z h92 b2 cA2 (.object "com/example/twistgauge/twistgauge/limitset/Parameter") (18 : Int32) [(.ref ap_ATTENUATION), (.ref ap_INSERTION_LOSS), (.ref ap_NEXT), (.ref ap_PSNEXT), (.ref ap_ACR), (.ref ap_PSACR), (.ref ap_ELFEXT), (.ref ap_PSELFEXT), (.ref ap_RETURN_LOSS), (.ref ap_PROPAGATION_DELAY), (.ref ap_DELAY_SKEW), (.ref ap_RESISTANCE), (.ref ap_LOOP_RESISTANCE), (.ref ap_RESISTANCE_UNBALANCE), (.ref ap_PAIR_RESISTANCE_UNBALANCE), (.ref ap_OPERATING_CAPACITANCE), (.ref ap_INSULATION_RESISTANCE), (.ref ap_CAPACITANCE_UNBALANCE_EARTH)] .null := Arv.set Ar92 q92 S92 M92 H92 G92 rfl W92 17 rfl (Nat.le_of_ble_eq_true rfl)
  have pre_93 : ∀ t, Sp p e below T92 (mkF m 125 #[.val (.int p1), .val (.int p2), .val (.int p3), .unset, .unset, .unset, .unset, .unset, .unset, .unset, .unset, .unset, .unset, .unset] [(.ref b2)]) t → Steps p.tables e below E0 t := fun t k => pre_91 t (st92 t k)
  have pre_94 : ∀ t, Sp p e below T92 (mkF m 128 #[.val (.int p1), .val (.int p2), .val (.int p3), .val (.ref b2), .unset, .unset, .unset, .unset, .unset, .unset, .unset, .unset, .unset, .unset] [(.int (18 : Int32))]) t → Steps p.tables e below E0 t := by
    intro t k
    refine pre_93 t ?_
    show Sp p e below T92 (mkF m 125 #[.val (.int p1), .val (.int p2), .val (.int p3), .unset, .unset, .unset, .unset, .unset, .unset, .unset, .unset, .unset, .unset, .unset] [(.ref b2)]) _
    refine XS.astoreN X92.here hx rfl (hb hby at_125) rfl rfl (l' := #[.val (.int p1), .val (.int p2), .val (.int p3), .val (.ref b2), .unset, .unset, .unset, .unset, .unset, .unset, .unset, .unset, .unset, .unset]) rfl ?_
    refine XS.bipush X92.here hx rfl (hb hby at_126) ?_
    exact k
  obtain ⟨T95, h95, cA95, X95, e95, E95, A95, st95⟩ := newP X92 hx hZ (own_w hw 40 rfl) e92 (g := (mkF m 128 #[.val (.int p1), .val (.int p2), .val (.int p3), .val (.ref b2), .unset, .unset, .unset, .unset, .unset, .unset, .unset, .unset, .unset, .unset] [(.int (18 : Int32))])) rfl (hb hby at_128) rfl (by decide) (cap := 18) (by decide) (by decide) (by decide) (by decide)
  obtain ⟨b95, g95⟩ : ∃ z, z = h92.size := ⟨_, rfl⟩
  rw [← g95] at A95 st95
  have O95 : Old Z n0 h95 := O92.ext E95
  have V95 : Arv Z h95 b95 cA95 .boolean (18 : Int32) [(.int (0 : Int32)), (.int (0 : Int32)), (.int (0 : Int32)), (.int (0 : Int32)), (.int (0 : Int32)), (.int (0 : Int32)), (.int (0 : Int32)), (.int (0 : Int32)), (.int (0 : Int32)), (.int (0 : Int32)), (.int (0 : Int32)), (.int (0 : Int32)), (.int (0 : Int32)), (.int (0 : Int32)), (.int (0 : Int32)), (.int (0 : Int32)), (.int (0 : Int32)), (.int (0 : Int32))] (.int (0 : Int32)) := (Arv.new A95 (by decide)).pad (pad_rep [] _ 18)
  have pre_96 : ∀ t, Sp p e below T95 (mkF m 130 #[.val (.int p1), .val (.int p2), .val (.int p3), .val (.ref b2), .unset, .unset, .unset, .unset, .unset, .unset, .unset, .unset, .unset, .unset] [(.ref b95)]) t → Steps p.tables e below E0 t := fun t k => pre_94 t (st95 t k)
  have pre_97 : ∀ t, Sp p e below T95 (mkF m 133 #[.val (.int p1), .val (.int p2), .val (.int p3), .val (.ref b2), .unset, .unset, .unset, .unset, .unset, .unset, .unset, .unset, .unset, .unset] [(.int (1 : Int32)), (.int (0 : Int32)), (.ref b95), (.ref b95)]) t → Steps p.tables e below E0 t := by
    intro t k
    refine pre_96 t ?_
    show Sp p e below T95 (mkF m 130 #[.val (.int p1), .val (.int p2), .val (.int p3), .val (.ref b2), .unset, .unset, .unset, .unset, .unset, .unset, .unset, .unset, .unset, .unset] [(.ref b95)]) _
    refine XS.dup X95.here hx rfl (hb hby at_130) rfl rfl ?_
    show Sp p e below T95 (mkF m 131 #[.val (.int p1), .val (.int p2), .val (.int p3), .val (.ref b2), .unset, .unset, .unset, .unset, .unset, .unset, .unset, .unset, .unset, .unset] [(.ref b95), (.ref b95)]) _
    refine XS.iconst X95.here hx rfl (hb hby at_131) ?_
    refine XS.iconst X95.here hx rfl (hb hby at_132) ?_
    exact k
  obtain ⟨cl98, Ar98, q98, S98, M98, H98, G98⟩ := id V95
  obtain ⟨T98, h98, X98, e98, W98, st98⟩ := stZ X95 hx hZ e95 Ar98 (j := (0 : Int32)) (inb_of S98 (by decide)) (g := (mkF m 133 #[.val (.int p1), .val (.int p2), .val (.int p3), .val (.ref b2), .unset, .unset, .unset, .unset, .unset, .unset, .unset, .unset, .unset, .unset] [(.int (1 : Int32)), (.int (0 : Int32)), (.ref b95), (.ref b95)])) rfl rfl (hb hby at_133)
  have N98 := Fr.snoc X98 N92 (Nat.le_trans (own_le O92) (Nat.le_of_eq g95.symm))
  have O98 : Old Z n0 h98 := O95.wr W98 (Nat.le_trans (own_le O92) (Nat.le_of_eq g95.symm))
  rw [own_nb1] at W98
  have V98 : Arv Z h98 b95 cA95 .boolean (18 : Int32) [(.int (1 : Int32)), (.int (0 : Int32)), (.int (0 : Int32)), (.int (0 : Int32)), (.int (0 : Int32)), (.int (0 : Int32)), (.int (0 : Int32)), (.int (0 : Int32)), (.int (0 : Int32)), (.int (0 : Int32)), (.int (0 : Int32)), (.int (0 : Int32)), (.int (0 : Int32)), (.int (0 : Int32)), (.int (0 : Int32)), (.int (0 : Int32)), (.int (0 : Int32)), (.int (0 : Int32))] (.int (0 : Int32)) := Arv.set Ar98 q98 S98 M98 H98 G98 (by rw [← own_nb1]; exact (fits_nar_bool _)) W98 0 rfl (Nat.le_of_ble_eq_true rfl)
  have pre_99 : ∀ t, Sp p e below T98 (mkF m 134 #[.val (.int p1), .val (.int p2), .val (.int p3), .val (.ref b2), .unset, .unset, .unset, .unset, .unset, .unset, .unset, .unset, .unset, .unset] [(.ref b95)]) t → Steps p.tables e below E0 t := fun t k => pre_97 t (st98 t k)
  have pre_100 : ∀ t, Sp p e below T98 (mkF m 137 #[.val (.int p1), .val (.int p2), .val (.int p3), .val (.ref b2), .unset, .unset, .unset, .unset, .unset, .unset, .unset, .unset, .unset, .unset] [(.int (1 : Int32)), (.int (1 : Int32)), (.ref b95), (.ref b95)]) t → Steps p.tables e below E0 t := by
    intro t k
    refine pre_99 t ?_
    show Sp p e below T98 (mkF m 134 #[.val (.int p1), .val (.int p2), .val (.int p3), .val (.ref b2), .unset, .unset, .unset, .unset, .unset, .unset, .unset, .unset, .unset, .unset] [(.ref b95)]) _
    refine XS.dup X98.here hx rfl (hb hby at_134) rfl rfl ?_
    refine XS.iconst X98.here hx rfl (hb hby at_135) ?_
    show Sp p e below T98 (mkF m 136 #[.val (.int p1), .val (.int p2), .val (.int p3), .val (.ref b2), .unset, .unset, .unset, .unset, .unset, .unset, .unset, .unset, .unset, .unset] [(.int (1 : Int32)), (.ref b95), (.ref b95)]) _
    refine XS.iconst X98.here hx rfl (hb hby at_136) ?_
    exact k
  obtain ⟨cl101, Ar101, q101, S101, M101, H101, G101⟩ := id V98
  obtain ⟨T101, h101, X101, e101, W101, st101⟩ := stZ X98 hx hZ e98 Ar101 (j := (1 : Int32)) (inb_of S101 (by decide)) (g := (mkF m 137 #[.val (.int p1), .val (.int p2), .val (.int p3), .val (.ref b2), .unset, .unset, .unset, .unset, .unset, .unset, .unset, .unset, .unset, .unset] [(.int (1 : Int32)), (.int (1 : Int32)), (.ref b95), (.ref b95)])) rfl rfl (hb hby at_137)
  have N101 := Fr.snoc X101 N98 (Nat.le_trans (own_le O92) (Nat.le_of_eq g95.symm))
  have O101 : Old Z n0 h101 := O98.wr W101 (Nat.le_trans (own_le O92) (Nat.le_of_eq g95.symm))
  rw [own_nb1] at W101
  have V101 : Arv Z h101 b95 cA95 .boolean (18 : Int32) [(.int (1 : Int32)), (.int (1 : Int32)), (.int (0 : Int32)), (.int (0 : Int32)), (.int (0 : Int32)), (.int (0 : Int32)), (.int (0 : Int32)), (.int (0 : Int32)), (.int (0 : Int32)), (.int (0 : Int32)), (.int (0 : Int32)), (.int (0 : Int32)), (.int (0 : Int32)), (.int (0 : Int32)), (.int (0 : Int32)), (.int (0 : Int32)), (.int (0 : Int32)), (.int (0 : Int32))] (.int (0 : Int32)) := Arv.set Ar101 q101 S101 M101 H101 G101 (by rw [← own_nb1]; exact (fits_nar_bool _)) W101 1 rfl (Nat.le_of_ble_eq_true rfl)
  have pre_102 : ∀ t, Sp p e below T101 (mkF m 138 #[.val (.int p1), .val (.int p2), .val (.int p3), .val (.ref b2), .unset, .unset, .unset, .unset, .unset, .unset, .unset, .unset, .unset, .unset] [(.ref b95)]) t → Steps p.tables e below E0 t := fun t k => pre_100 t (st101 t k)
  have pre_103 : ∀ t, Sp p e below T101 (mkF m 141 #[.val (.int p1), .val (.int p2), .val (.int p3), .val (.ref b2), .unset, .unset, .unset, .unset, .unset, .unset, .unset, .unset, .unset, .unset] [(.int (0 : Int32)), (.int (2 : Int32)), (.ref b95), (.ref b95)]) t → Steps p.tables e below E0 t := by
    intro t k
    refine pre_102 t ?_
    show Sp p e below T101 (mkF m 138 #[.val (.int p1), .val (.int p2), .val (.int p3), .val (.ref b2), .unset, .unset, .unset, .unset, .unset, .unset, .unset, .unset, .unset, .unset] [(.ref b95)]) _
    refine XS.dup X101.here hx rfl (hb hby at_138) rfl rfl ?_
    refine XS.iconst X101.here hx rfl (hb hby at_139) ?_
    refine XS.iconst X101.here hx rfl (hb hby at_140) ?_
    show Sp p e below T101 (mkF m 141 #[.val (.int p1), .val (.int p2), .val (.int p3), .val (.ref b2), .unset, .unset, .unset, .unset, .unset, .unset, .unset, .unset, .unset, .unset] [(.int (0 : Int32)), (.int (2 : Int32)), (.ref b95), (.ref b95)]) _
    exact k
  obtain ⟨cl104, Ar104, q104, S104, M104, H104, G104⟩ := id V101
  obtain ⟨T104, h104, X104, e104, W104, st104⟩ := stZ X101 hx hZ e101 Ar104 (j := (2 : Int32)) (inb_of S104 (by decide)) (g := (mkF m 141 #[.val (.int p1), .val (.int p2), .val (.int p3), .val (.ref b2), .unset, .unset, .unset, .unset, .unset, .unset, .unset, .unset, .unset, .unset] [(.int (0 : Int32)), (.int (2 : Int32)), (.ref b95), (.ref b95)])) rfl rfl (hb hby at_141)
  have N104 := Fr.snoc X104 N101 (Nat.le_trans (own_le O92) (Nat.le_of_eq g95.symm))
  have O104 : Old Z n0 h104 := O101.wr W104 (Nat.le_trans (own_le O92) (Nat.le_of_eq g95.symm))
  rw [own_nb0] at W104
  have V104 : Arv Z h104 b95 cA95 .boolean (18 : Int32) [(.int (1 : Int32)), (.int (1 : Int32)), (.int (0 : Int32)), (.int (0 : Int32)), (.int (0 : Int32)), (.int (0 : Int32)), (.int (0 : Int32)), (.int (0 : Int32)), (.int (0 : Int32)), (.int (0 : Int32)), (.int (0 : Int32)), (.int (0 : Int32)), (.int (0 : Int32)), (.int (0 : Int32)), (.int (0 : Int32)), (.int (0 : Int32)), (.int (0 : Int32)), (.int (0 : Int32))] (.int (0 : Int32)) := Arv.set Ar104 q104 S104 M104 H104 G104 (by rw [← own_nb0]; exact (fits_nar_bool _)) W104 2 rfl (Nat.le_of_ble_eq_true rfl)
  have pre_105 : ∀ t, Sp p e below T104 (mkF m 142 #[.val (.int p1), .val (.int p2), .val (.int p3), .val (.ref b2), .unset, .unset, .unset, .unset, .unset, .unset, .unset, .unset, .unset, .unset] [(.ref b95)]) t → Steps p.tables e below E0 t := fun t k => pre_103 t (st104 t k)
  have pre_106 : ∀ t, Sp p e below T104 (mkF m 145 #[.val (.int p1), .val (.int p2), .val (.int p3), .val (.ref b2), .unset, .unset, .unset, .unset, .unset, .unset, .unset, .unset, .unset, .unset] [(.int (0 : Int32)), (.int (3 : Int32)), (.ref b95), (.ref b95)]) t → Steps p.tables e below E0 t := by
    intro t k
    refine pre_105 t ?_
    show Sp p e below T104 (mkF m 142 #[.val (.int p1), .val (.int p2), .val (.int p3), .val (.ref b2), .unset, .unset, .unset, .unset, .unset, .unset, .unset, .unset, .unset, .unset] [(.ref b95)]) _
    refine XS.dup X104.here hx rfl (hb hby at_142) rfl rfl ?_
    refine XS.iconst X104.here hx rfl (hb hby at_143) ?_
    refine XS.iconst X104.here hx rfl (hb hby at_144) ?_
    exact k
  obtain ⟨cl107, Ar107, q107, S107, M107, H107, G107⟩ := id V104
  obtain ⟨T107, h107, X107, e107, W107, st107⟩ := stZ X104 hx hZ e104 Ar107 (j := (3 : Int32)) (inb_of S107 (by decide)) (g := (mkF m 145 #[.val (.int p1), .val (.int p2), .val (.int p3), .val (.ref b2), .unset, .unset, .unset, .unset, .unset, .unset, .unset, .unset, .unset, .unset] [(.int (0 : Int32)), (.int (3 : Int32)), (.ref b95), (.ref b95)])) rfl rfl (hb hby at_145)
  have N107 := Fr.snoc X107 N104 (Nat.le_trans (own_le O92) (Nat.le_of_eq g95.symm))
  have O107 : Old Z n0 h107 := O104.wr W107 (Nat.le_trans (own_le O92) (Nat.le_of_eq g95.symm))
  rw [own_nb0] at W107
  have V107 : Arv Z h107 b95 cA95 .boolean (18 : Int32) [(.int (1 : Int32)), (.int (1 : Int32)), (.int (0 : Int32)), (.int (0 : Int32)), (.int (0 : Int32)), (.int (0 : Int32)), (.int (0 : Int32)), (.int (0 : Int32)), (.int (0 : Int32)), (.int (0 : Int32)), (.int (0 : Int32)), (.int (0 : Int32)), (.int (0 : Int32)), (.int (0 : Int32)), (.int (0 : Int32)), (.int (0 : Int32)), (.int (0 : Int32)), (.int (0 : Int32))] (.int (0 : Int32)) := Arv.set Ar107 q107 S107 M107 H107 G107 (by rw [← own_nb0]; exact (fits_nar_bool _)) W107 3 rfl (Nat.le_of_ble_eq_true rfl)
  have pre_108 : ∀ t, Sp p e below T107 (mkF m 146 #[.val (.int p1), .val (.int p2), .val (.int p3), .val (.ref b2), .unset, .unset, .unset, .unset, .unset, .unset, .unset, .unset, .unset, .unset] [(.ref b95)]) t → Steps p.tables e below E0 t := fun t k => pre_106 t (st107 t k)
  have pre_109 : ∀ t, Sp p e below T107 (mkF m 149 #[.val (.int p1), .val (.int p2), .val (.int p3), .val (.ref b2), .unset, .unset, .unset, .unset, .unset, .unset, .unset, .unset, .unset, .unset] [(.int (0 : Int32)), (.int (4 : Int32)), (.ref b95), (.ref b95)]) t → Steps p.tables e below E0 t := by
    intro t k
    refine pre_108 t ?_
    show Sp p e below T107 (mkF m 146 #[.val (.int p1), .val (.int p2), .val (.int p3), .val (.ref b2), .unset, .unset, .unset, .unset, .unset, .unset, .unset, .unset, .unset, .unset] [(.ref b95)]) _
    refine XS.dup X107.here hx rfl (hb hby at_146) rfl rfl ?_
    show Sp p e below T107 (mkF m 147 #[.val (.int p1), .val (.int p2), .val (.int p3), .val (.ref b2), .unset, .unset, .unset, .unset, .unset, .unset, .unset, .unset, .unset, .unset] [(.ref b95), (.ref b95)]) _
    refine XS.iconst X107.here hx rfl (hb hby at_147) ?_
    refine XS.iconst X107.here hx rfl (hb hby at_148) ?_
    exact k
  obtain ⟨cl110, Ar110, q110, S110, M110, H110, G110⟩ := id V107
  obtain ⟨T110, h110, X110, e110, W110, st110⟩ := stZ X107 hx hZ e107 Ar110 (j := (4 : Int32)) (inb_of S110 (by decide)) (g := (mkF m 149 #[.val (.int p1), .val (.int p2), .val (.int p3), .val (.ref b2), .unset, .unset, .unset, .unset, .unset, .unset, .unset, .unset, .unset, .unset] [(.int (0 : Int32)), (.int (4 : Int32)), (.ref b95), (.ref b95)])) rfl rfl (hb hby at_149)
  have N110 := Fr.snoc X110 N107 (Nat.le_trans (own_le O92) (Nat.le_of_eq g95.symm))
  have O110 : Old Z n0 h110 := O107.wr W110 (Nat.le_trans (own_le O92) (Nat.le_of_eq g95.symm))
  rw [own_nb0] at W110
  have V110 : Arv Z h110 b95 cA95 .boolean (18 : Int32) [(.int (1 : Int32)), (.int (1 : Int32)), (.int (0 : Int32)), (.int (0 : Int32)), (.int (0 : Int32)), (.int (0 : Int32)), (.int (0 : Int32)), (.int (0 : Int32)), (.int (0 : Int32)), (.int (0 : Int32)), (.int (0 : Int32)), (.int (0 : Int32)), (.int (0 : Int32)), (.int (0 : Int32)), (.int (0 : Int32)), (.int (0 : Int32)), (.int (0 : Int32)), (.int (0 : Int32))] (.int (0 : Int32)) := Arv.set Ar110 q110 S110 M110 H110 G110 (by rw [← own_nb0]; exact (fits_nar_bool _)) W110 4 rfl (Nat.le_of_ble_eq_true rfl)
  have pre_111 : ∀ t, Sp p e below T110 (mkF m 150 #[.val (.int p1), .val (.int p2), .val (.int p3), .val (.ref b2), .unset, .unset, .unset, .unset, .unset, .unset, .unset, .unset, .unset, .unset] [(.ref b95)]) t → Steps p.tables e below E0 t := fun t k => pre_109 t (st110 t k)
  have pre_112 : ∀ t, Sp p e below T110 (mkF m 153 #[.val (.int p1), .val (.int p2), .val (.int p3), .val (.ref b2), .unset, .unset, .unset, .unset, .unset, .unset, .unset, .unset, .unset, .unset] [(.int (0 : Int32)), (.int (5 : Int32)), (.ref b95), (.ref b95)]) t → Steps p.tables e below E0 t := by
    intro t k
    refine pre_111 t ?_
    show Sp p e below T110 (mkF m 150 #[.val (.int p1), .val (.int p2), .val (.int p3), .val (.ref b2), .unset, .unset, .unset, .unset, .unset, .unset, .unset, .unset, .unset, .unset] [(.ref b95)]) _
    refine XS.dup X110.here hx rfl (hb hby at_150) rfl rfl ?_
    refine XS.iconst X110.here hx rfl (hb hby at_151) ?_
    show Sp p e below T110 (mkF m 152 #[.val (.int p1), .val (.int p2), .val (.int p3), .val (.ref b2), .unset, .unset, .unset, .unset, .unset, .unset, .unset, .unset, .unset, .unset] [(.int (5 : Int32)), (.ref b95), (.ref b95)]) _
    refine XS.iconst X110.here hx rfl (hb hby at_152) ?_
    exact k
  obtain ⟨cl113, Ar113, q113, S113, M113, H113, G113⟩ := id V110
  obtain ⟨T113, h113, X113, e113, W113, st113⟩ := stZ X110 hx hZ e110 Ar113 (j := (5 : Int32)) (inb_of S113 (by decide)) (g := (mkF m 153 #[.val (.int p1), .val (.int p2), .val (.int p3), .val (.ref b2), .unset, .unset, .unset, .unset, .unset, .unset, .unset, .unset, .unset, .unset] [(.int (0 : Int32)), (.int (5 : Int32)), (.ref b95), (.ref b95)])) rfl rfl (hb hby at_153)
  have N113 := Fr.snoc X113 N110 (Nat.le_trans (own_le O92) (Nat.le_of_eq g95.symm))
  have O113 : Old Z n0 h113 := O110.wr W113 (Nat.le_trans (own_le O92) (Nat.le_of_eq g95.symm))
  rw [own_nb0] at W113
  have V113 : Arv Z h113 b95 cA95 .boolean (18 : Int32) [(.int (1 : Int32)), (.int (1 : Int32)), (.int (0 : Int32)), (.int (0 : Int32)), (.int (0 : Int32)), (.int (0 : Int32)), (.int (0 : Int32)), (.int (0 : Int32)), (.int (0 : Int32)), (.int (0 : Int32)), (.int (0 : Int32)), (.int (0 : Int32)), (.int (0 : Int32)), (.int (0 : Int32)), (.int (0 : Int32)), (.int (0 : Int32)), (.int (0 : Int32)), (.int (0 : Int32))] (.int (0 : Int32)) := Arv.set Ar113 q113 S113 M113 H113 G113 (by rw [← own_nb0]; exact (fits_nar_bool _)) W113 5 rfl (Nat.le_of_ble_eq_true rfl)
  have pre_114 : ∀ t, Sp p e below T113 (mkF m 154 #[.val (.int p1), .val (.int p2), .val (.int p3), .val (.ref b2), .unset, .unset, .unset, .unset, .unset, .unset, .unset, .unset, .unset, .unset] [(.ref b95)]) t → Steps p.tables e below E0 t := fun t k => pre_112 t (st113 t k)
  have pre_115 : ∀ t, Sp p e below T113 (mkF m 158 #[.val (.int p1), .val (.int p2), .val (.int p3), .val (.ref b2), .unset, .unset, .unset, .unset, .unset, .unset, .unset, .unset, .unset, .unset] [(.int (0 : Int32)), (.int (6 : Int32)), (.ref b95), (.ref b95)]) t → Steps p.tables e below E0 t := by
    intro t k
    refine pre_114 t ?_
    show Sp p e below T113 (mkF m 154 #[.val (.int p1), .val (.int p2), .val (.int p3), .val (.ref b2), .unset, .unset, .unset, .unset, .unset, .unset, .unset, .unset, .unset, .unset] [(.ref b95)]) _
    refine XS.dup X113.here hx rfl (hb hby at_154) rfl rfl ?_
    refine XS.bipush X113.here hx rfl (hb hby at_155) ?_
    refine XS.iconst X113.here hx rfl (hb hby at_157) ?_
    show Sp p e below T113 (mkF m 158 #[.val (.int p1), .val (.int p2), .val (.int p3), .val (.ref b2), .unset, .unset, .unset, .unset, .unset, .unset, .unset, .unset, .unset, .unset] [(.int (0 : Int32)), (.int (6 : Int32)), (.ref b95), (.ref b95)]) _
    exact k
  obtain ⟨cl116, Ar116, q116, S116, M116, H116, G116⟩ := id V113
  obtain ⟨T116, h116, X116, e116, W116, st116⟩ := stZ X113 hx hZ e113 Ar116 (j := (6 : Int32)) (inb_of S116 (by decide)) (g := (mkF m 158 #[.val (.int p1), .val (.int p2), .val (.int p3), .val (.ref b2), .unset, .unset, .unset, .unset, .unset, .unset, .unset, .unset, .unset, .unset] [(.int (0 : Int32)), (.int (6 : Int32)), (.ref b95), (.ref b95)])) rfl rfl (hb hby at_158)
  have N116 := Fr.snoc X116 N113 (Nat.le_trans (own_le O92) (Nat.le_of_eq g95.symm))
  have O116 : Old Z n0 h116 := O113.wr W116 (Nat.le_trans (own_le O92) (Nat.le_of_eq g95.symm))
  rw [own_nb0] at W116
  have V116 : Arv Z h116 b95 cA95 .boolean (18 : Int32) [(.int (1 : Int32)), (.int (1 : Int32)), (.int (0 : Int32)), (.int (0 : Int32)), (.int (0 : Int32)), (.int (0 : Int32)), (.int (0 : Int32)), (.int (0 : Int32)), (.int (0 : Int32)), (.int (0 : Int32)), (.int (0 : Int32)), (.int (0 : Int32)), (.int (0 : Int32)), (.int (0 : Int32)), (.int (0 : Int32)), (.int (0 : Int32)), (.int (0 : Int32)), (.int (0 : Int32))] (.int (0 : Int32)) := Arv.set Ar116 q116 S116 M116 H116 G116 (by rw [← own_nb0]; exact (fits_nar_bool _)) W116 6 rfl (Nat.le_of_ble_eq_true rfl)
  have pre_117 : ∀ t, Sp p e below T116 (mkF m 159 #[.val (.int p1), .val (.int p2), .val (.int p3), .val (.ref b2), .unset, .unset, .unset, .unset, .unset, .unset, .unset, .unset, .unset, .unset] [(.ref b95)]) t → Steps p.tables e below E0 t := fun t k => pre_115 t (st116 t k)
  have pre_118 : ∀ t, Sp p e below T116 (mkF m 163 #[.val (.int p1), .val (.int p2), .val (.int p3), .val (.ref b2), .unset, .unset, .unset, .unset, .unset, .unset, .unset, .unset, .unset, .unset] [(.int (0 : Int32)), (.int (7 : Int32)), (.ref b95), (.ref b95)]) t → Steps p.tables e below E0 t := by
    intro t k
    refine pre_117 t ?_
    show Sp p e below T116 (mkF m 159 #[.val (.int p1), .val (.int p2), .val (.int p3), .val (.ref b2), .unset, .unset, .unset, .unset, .unset, .unset, .unset, .unset, .unset, .unset] [(.ref b95)]) _
    refine XS.dup X116.here hx rfl (hb hby at_159) rfl rfl ?_
    refine XS.bipush X116.here hx rfl (hb hby at_160) ?_
    refine XS.iconst X116.here hx rfl (hb hby at_162) ?_
    exact k
  obtain ⟨cl119, Ar119, q119, S119, M119, H119, G119⟩ := id V116
  obtain ⟨T119, h119, X119, e119, W119, st119⟩ := stZ X116 hx hZ e116 Ar119 (j := (7 : Int32)) (inb_of S119 (by decide)) (g := (mkF m 163 #[.val (.int p1), .val (.int p2), .val (.int p3), .val (.ref b2), .unset, .unset, .unset, .unset, .unset, .unset, .unset, .unset, .unset, .unset] [(.int (0 : Int32)), (.int (7 : Int32)), (.ref b95), (.ref b95)])) rfl rfl (hb hby at_163)
  have N119 := Fr.snoc X119 N116 (Nat.le_trans (own_le O92) (Nat.le_of_eq g95.symm))
  have O119 : Old Z n0 h119 := O116.wr W119 (Nat.le_trans (own_le O92) (Nat.le_of_eq g95.symm))
  rw [own_nb0] at W119
  have V119 : Arv Z h119 b95 cA95 .boolean (18 : Int32) [(.int (1 : Int32)), (.int (1 : Int32)), (.int (0 : Int32)), (.int (0 : Int32)), (.int (0 : Int32)), (.int (0 : Int32)), (.int (0 : Int32)), (.int (0 : Int32)), (.int (0 : Int32)), (.int (0 : Int32)), (.int (0 : Int32)), (.int (0 : Int32)), (.int (0 : Int32)), (.int (0 : Int32)), (.int (0 : Int32)), (.int (0 : Int32)), (.int (0 : Int32)), (.int (0 : Int32))] (.int (0 : Int32)) := Arv.set Ar119 q119 S119 M119 H119 G119 (by rw [← own_nb0]; exact (fits_nar_bool _)) W119 7 rfl (Nat.le_of_ble_eq_true rfl)
  have pre_120 : ∀ t, Sp p e below T119 (mkF m 164 #[.val (.int p1), .val (.int p2), .val (.int p3), .val (.ref b2), .unset, .unset, .unset, .unset, .unset, .unset, .unset, .unset, .unset, .unset] [(.ref b95)]) t → Steps p.tables e below E0 t := fun t k => pre_118 t (st119 t k)
  have pre_121 : ∀ t, Sp p e below T119 (mkF m 168 #[.val (.int p1), .val (.int p2), .val (.int p3), .val (.ref b2), .unset, .unset, .unset, .unset, .unset, .unset, .unset, .unset, .unset, .unset] [(.int (0 : Int32)), (.int (8 : Int32)), (.ref b95), (.ref b95)]) t → Steps p.tables e below E0 t := by
    intro t k
    refine pre_120 t ?_
    show Sp p e below T119 (mkF m 164 #[.val (.int p1), .val (.int p2), .val (.int p3), .val (.ref b2), .unset, .unset, .unset, .unset, .unset, .unset, .unset, .unset, .unset, .unset] [(.ref b95)]) _
    refine XS.dup X119.here hx rfl (hb hby at_164) rfl rfl ?_
    show Sp p e below T119 (mkF m 165 #[.val (.int p1), .val (.int p2), .val (.int p3), .val (.ref b2), .unset, .unset, .unset, .unset, .unset, .unset, .unset, .unset, .unset, .unset] [(.ref b95), (.ref b95)]) _
    refine XS.bipush X119.here hx rfl (hb hby at_165) ?_
    refine XS.iconst X119.here hx rfl (hb hby at_167) ?_
    exact k
  obtain ⟨cl122, Ar122, q122, S122, M122, H122, G122⟩ := id V119
  obtain ⟨T122, h122, X122, e122, W122, st122⟩ := stZ X119 hx hZ e119 Ar122 (j := (8 : Int32)) (inb_of S122 (by decide)) (g := (mkF m 168 #[.val (.int p1), .val (.int p2), .val (.int p3), .val (.ref b2), .unset, .unset, .unset, .unset, .unset, .unset, .unset, .unset, .unset, .unset] [(.int (0 : Int32)), (.int (8 : Int32)), (.ref b95), (.ref b95)])) rfl rfl (hb hby at_168)
  have N122 := Fr.snoc X122 N119 (Nat.le_trans (own_le O92) (Nat.le_of_eq g95.symm))
  have O122 : Old Z n0 h122 := O119.wr W122 (Nat.le_trans (own_le O92) (Nat.le_of_eq g95.symm))
  rw [own_nb0] at W122
  have V122 : Arv Z h122 b95 cA95 .boolean (18 : Int32) [(.int (1 : Int32)), (.int (1 : Int32)), (.int (0 : Int32)), (.int (0 : Int32)), (.int (0 : Int32)), (.int (0 : Int32)), (.int (0 : Int32)), (.int (0 : Int32)), (.int (0 : Int32)), (.int (0 : Int32)), (.int (0 : Int32)), (.int (0 : Int32)), (.int (0 : Int32)), (.int (0 : Int32)), (.int (0 : Int32)), (.int (0 : Int32)), (.int (0 : Int32)), (.int (0 : Int32))] (.int (0 : Int32)) := Arv.set Ar122 q122 S122 M122 H122 G122 (by rw [← own_nb0]; exact (fits_nar_bool _)) W122 8 rfl (Nat.le_of_ble_eq_true rfl)
  have pre_123 : ∀ t, Sp p e below T122 (mkF m 169 #[.val (.int p1), .val (.int p2), .val (.int p3), .val (.ref b2), .unset, .unset, .unset, .unset, .unset, .unset, .unset, .unset, .unset, .unset] [(.ref b95)]) t → Steps p.tables e below E0 t := fun t k => pre_121 t (st122 t k)
  have pre_124 : ∀ t, Sp p e below T122 (mkF m 173 #[.val (.int p1), .val (.int p2), .val (.int p3), .val (.ref b2), .unset, .unset, .unset, .unset, .unset, .unset, .unset, .unset, .unset, .unset] [(.int (1 : Int32)), (.int (9 : Int32)), (.ref b95), (.ref b95)]) t → Steps p.tables e below E0 t := by
    intro t k
    refine pre_123 t ?_
    show Sp p e below T122 (mkF m 169 #[.val (.int p1), .val (.int p2), .val (.int p3), .val (.ref b2), .unset, .unset, .unset, .unset, .unset, .unset, .unset, .unset, .unset, .unset] [(.ref b95)]) _
    refine XS.dup X122.here hx rfl (hb hby at_169) rfl rfl ?_
    refine XS.bipush X122.here hx rfl (hb hby at_170) ?_
    show Sp p e below T122 (mkF m 172 #[.val (.int p1), .val (.int p2), .val (.int p3), .val (.ref b2), .unset, .unset, .unset, .unset, .unset, .unset, .unset, .unset, .unset, .unset] [(.int (9 : Int32)), (.ref b95), (.ref b95)]) _
    refine XS.iconst X122.here hx rfl (hb hby at_172) ?_
    exact k
  obtain ⟨cl125, Ar125, q125, S125, M125, H125, G125⟩ := id V122
  obtain ⟨T125, h125, X125, e125, W125, st125⟩ := stZ X122 hx hZ e122 Ar125 (j := (9 : Int32)) (inb_of S125 (by decide)) (g := (mkF m 173 #[.val (.int p1), .val (.int p2), .val (.int p3), .val (.ref b2), .unset, .unset, .unset, .unset, .unset, .unset, .unset, .unset, .unset, .unset] [(.int (1 : Int32)), (.int (9 : Int32)), (.ref b95), (.ref b95)])) rfl rfl (hb hby at_173)
  have N125 := Fr.snoc X125 N122 (Nat.le_trans (own_le O92) (Nat.le_of_eq g95.symm))
  have O125 : Old Z n0 h125 := O122.wr W125 (Nat.le_trans (own_le O92) (Nat.le_of_eq g95.symm))
  rw [own_nb1] at W125
  have V125 : Arv Z h125 b95 cA95 .boolean (18 : Int32) [(.int (1 : Int32)), (.int (1 : Int32)), (.int (0 : Int32)), (.int (0 : Int32)), (.int (0 : Int32)), (.int (0 : Int32)), (.int (0 : Int32)), (.int (0 : Int32)), (.int (0 : Int32)), (.int (1 : Int32)), (.int (0 : Int32)), (.int (0 : Int32)), (.int (0 : Int32)), (.int (0 : Int32)), (.int (0 : Int32)), (.int (0 : Int32)), (.int (0 : Int32)), (.int (0 : Int32))] (.int (0 : Int32)) := Arv.set Ar125 q125 S125 M125 H125 G125 (by rw [← own_nb1]; exact (fits_nar_bool _)) W125 9 rfl (Nat.le_of_ble_eq_true rfl)
  have pre_126 : ∀ t, Sp p e below T125 (mkF m 174 #[.val (.int p1), .val (.int p2), .val (.int p3), .val (.ref b2), .unset, .unset, .unset, .unset, .unset, .unset, .unset, .unset, .unset, .unset] [(.ref b95)]) t → Steps p.tables e below E0 t := fun t k => pre_124 t (st125 t k)
  have pre_127 : ∀ t, Sp p e below T125 (mkF m 178 #[.val (.int p1), .val (.int p2), .val (.int p3), .val (.ref b2), .unset, .unset, .unset, .unset, .unset, .unset, .unset, .unset, .unset, .unset] [(.int (1 : Int32)), (.int (10 : Int32)), (.ref b95), (.ref b95)]) t → Steps p.tables e below E0 t := by
    intro t k
    refine pre_126 t ?_
    show Sp p e below T125 (mkF m 174 #[.val (.int p1), .val (.int p2), .val (.int p3), .val (.ref b2), .unset, .unset, .unset, .unset, .unset, .unset, .unset, .unset, .unset, .unset] [(.ref b95)]) _
    refine XS.dup X125.here hx rfl (hb hby at_174) rfl rfl ?_
    refine XS.bipush X125.here hx rfl (hb hby at_175) ?_
    refine XS.iconst X125.here hx rfl (hb hby at_177) ?_
    show Sp p e below T125 (mkF m 178 #[.val (.int p1), .val (.int p2), .val (.int p3), .val (.ref b2), .unset, .unset, .unset, .unset, .unset, .unset, .unset, .unset, .unset, .unset] [(.int (1 : Int32)), (.int (10 : Int32)), (.ref b95), (.ref b95)]) _
    exact k
  obtain ⟨cl128, Ar128, q128, S128, M128, H128, G128⟩ := id V125
  obtain ⟨T128, h128, X128, e128, W128, st128⟩ := stZ X125 hx hZ e125 Ar128 (j := (10 : Int32)) (inb_of S128 (by decide)) (g := (mkF m 178 #[.val (.int p1), .val (.int p2), .val (.int p3), .val (.ref b2), .unset, .unset, .unset, .unset, .unset, .unset, .unset, .unset, .unset, .unset] [(.int (1 : Int32)), (.int (10 : Int32)), (.ref b95), (.ref b95)])) rfl rfl (hb hby at_178)
  have N128 := Fr.snoc X128 N125 (Nat.le_trans (own_le O92) (Nat.le_of_eq g95.symm))
  have O128 : Old Z n0 h128 := O125.wr W128 (Nat.le_trans (own_le O92) (Nat.le_of_eq g95.symm))
  rw [own_nb1] at W128
  have V128 : Arv Z h128 b95 cA95 .boolean (18 : Int32) [(.int (1 : Int32)), (.int (1 : Int32)), (.int (0 : Int32)), (.int (0 : Int32)), (.int (0 : Int32)), (.int (0 : Int32)), (.int (0 : Int32)), (.int (0 : Int32)), (.int (0 : Int32)), (.int (1 : Int32)), (.int (1 : Int32)), (.int (0 : Int32)), (.int (0 : Int32)), (.int (0 : Int32)), (.int (0 : Int32)), (.int (0 : Int32)), (.int (0 : Int32)), (.int (0 : Int32))] (.int (0 : Int32)) := Arv.set Ar128 q128 S128 M128 H128 G128 (by rw [← own_nb1]; exact (fits_nar_bool _)) W128 10 rfl (Nat.le_of_ble_eq_true rfl)
  have pre_129 : ∀ t, Sp p e below T128 (mkF m 179 #[.val (.int p1), .val (.int p2), .val (.int p3), .val (.ref b2), .unset, .unset, .unset, .unset, .unset, .unset, .unset, .unset, .unset, .unset] [(.ref b95)]) t → Steps p.tables e below E0 t := fun t k => pre_127 t (st128 t k)
  have pre_130 : ∀ t, Sp p e below T128 (mkF m 183 #[.val (.int p1), .val (.int p2), .val (.int p3), .val (.ref b2), .unset, .unset, .unset, .unset, .unset, .unset, .unset, .unset, .unset, .unset] [(.int (1 : Int32)), (.int (11 : Int32)), (.ref b95), (.ref b95)]) t → Steps p.tables e below E0 t := by
    intro t k
    refine pre_129 t ?_
    show Sp p e below T128 (mkF m 179 #[.val (.int p1), .val (.int p2), .val (.int p3), .val (.ref b2), .unset, .unset, .unset, .unset, .unset, .unset, .unset, .unset, .unset, .unset] [(.ref b95)]) _
    refine XS.dup X128.here hx rfl (hb hby at_179) rfl rfl ?_
    refine XS.bipush X128.here hx rfl (hb hby at_180) ?_
    refine XS.iconst X128.here hx rfl (hb hby at_182) ?_
    exact k
  obtain ⟨cl131, Ar131, q131, S131, M131, H131, G131⟩ := id V128
  obtain ⟨T131, h131, X131, e131, W131, st131⟩ := stZ X128 hx hZ e128 Ar131 (j := (11 : Int32)) (inb_of S131 (by decide)) (g := (mkF m 183 #[.val (.int p1), .val (.int p2), .val (.int p3), .val (.ref b2), .unset, .unset, .unset, .unset, .unset, .unset, .unset, .unset, .unset, .unset] [(.int (1 : Int32)), (.int (11 : Int32)), (.ref b95), (.ref b95)])) rfl rfl (hb hby at_183)
  have N131 := Fr.snoc X131 N128 (Nat.le_trans (own_le O92) (Nat.le_of_eq g95.symm))
  have O131 : Old Z n0 h131 := O128.wr W131 (Nat.le_trans (own_le O92) (Nat.le_of_eq g95.symm))
  rw [own_nb1] at W131
  have V131 : Arv Z h131 b95 cA95 .boolean (18 : Int32) [(.int (1 : Int32)), (.int (1 : Int32)), (.int (0 : Int32)), (.int (0 : Int32)), (.int (0 : Int32)), (.int (0 : Int32)), (.int (0 : Int32)), (.int (0 : Int32)), (.int (0 : Int32)), (.int (1 : Int32)), (.int (1 : Int32)), (.int (1 : Int32)), (.int (0 : Int32)), (.int (0 : Int32)), (.int (0 : Int32)), (.int (0 : Int32)), (.int (0 : Int32)), (.int (0 : Int32))] (.int (0 : Int32)) := Arv.set Ar131 q131 S131 M131 H131 G131 (by rw [← own_nb1]; exact (fits_nar_bool _)) W131 11 rfl (Nat.le_of_ble_eq_true rfl)
  have pre_132 : ∀ t, Sp p e below T131 (mkF m 184 #[.val (.int p1), .val (.int p2), .val (.int p3), .val (.ref b2), .unset, .unset, .unset, .unset, .unset, .unset, .unset, .unset, .unset, .unset] [(.ref b95)]) t → Steps p.tables e below E0 t := fun t k => pre_130 t (st131 t k)
  have pre_133 : ∀ t, Sp p e below T131 (mkF m 188 #[.val (.int p1), .val (.int p2), .val (.int p3), .val (.ref b2), .unset, .unset, .unset, .unset, .unset, .unset, .unset, .unset, .unset, .unset] [(.int (1 : Int32)), (.int (12 : Int32)), (.ref b95), (.ref b95)]) t → Steps p.tables e below E0 t := by
    intro t k
    refine pre_132 t ?_
    show Sp p e below T131 (mkF m 184 #[.val (.int p1), .val (.int p2), .val (.int p3), .val (.ref b2), .unset, .unset, .unset, .unset, .unset, .unset, .unset, .unset, .unset, .unset] [(.ref b95)]) _
    refine XS.dup X131.here hx rfl (hb hby at_184) rfl rfl ?_
    show Sp p e below T131 (mkF m 185 #[.val (.int p1), .val (.int p2), .val (.int p3), .val (.ref b2), .unset, .unset, .unset, .unset, .unset, .unset, .unset, .unset, .unset, .unset] [(.ref b95), (.ref b95)]) _
    refine XS.bipush X131.here hx rfl (hb hby at_185) ?_
    refine XS.iconst X131.here hx rfl (hb hby at_187) ?_
    exact k
  obtain ⟨cl134, Ar134, q134, S134, M134, H134, G134⟩ := id V131
  obtain ⟨T134, h134, X134, e134, W134, st134⟩ := stZ X131 hx hZ e131 Ar134 (j := (12 : Int32)) (inb_of S134 (by decide)) (g := (mkF m 188 #[.val (.int p1), .val (.int p2), .val (.int p3), .val (.ref b2), .unset, .unset, .unset, .unset, .unset, .unset, .unset, .unset, .unset, .unset] [(.int (1 : Int32)), (.int (12 : Int32)), (.ref b95), (.ref b95)])) rfl rfl (hb hby at_188)
  have N134 := Fr.snoc X134 N131 (Nat.le_trans (own_le O92) (Nat.le_of_eq g95.symm))
  have O134 : Old Z n0 h134 := O131.wr W134 (Nat.le_trans (own_le O92) (Nat.le_of_eq g95.symm))
  rw [own_nb1] at W134
  have V134 : Arv Z h134 b95 cA95 .boolean (18 : Int32) [(.int (1 : Int32)), (.int (1 : Int32)), (.int (0 : Int32)), (.int (0 : Int32)), (.int (0 : Int32)), (.int (0 : Int32)), (.int (0 : Int32)), (.int (0 : Int32)), (.int (0 : Int32)), (.int (1 : Int32)), (.int (1 : Int32)), (.int (1 : Int32)), (.int (1 : Int32)), (.int (0 : Int32)), (.int (0 : Int32)), (.int (0 : Int32)), (.int (0 : Int32)), (.int (0 : Int32))] (.int (0 : Int32)) := Arv.set Ar134 q134 S134 M134 H134 G134 (by rw [← own_nb1]; exact (fits_nar_bool _)) W134 12 rfl (Nat.le_of_ble_eq_true rfl)
  have pre_135 : ∀ t, Sp p e below T134 (mkF m 189 #[.val (.int p1), .val (.int p2), .val (.int p3), .val (.ref b2), .unset, .unset, .unset, .unset, .unset, .unset, .unset, .unset, .unset, .unset] [(.ref b95)]) t → Steps p.tables e below E0 t := fun t k => pre_133 t (st134 t k)
  have pre_136 : ∀ t, Sp p e below T134 (mkF m 193 #[.val (.int p1), .val (.int p2), .val (.int p3), .val (.ref b2), .unset, .unset, .unset, .unset, .unset, .unset, .unset, .unset, .unset, .unset] [(.int (1 : Int32)), (.int (13 : Int32)), (.ref b95), (.ref b95)]) t → Steps p.tables e below E0 t := by
    intro t k
    refine pre_135 t ?_
    show Sp p e below T134 (mkF m 189 #[.val (.int p1), .val (.int p2), .val (.int p3), .val (.ref b2), .unset, .unset, .unset, .unset, .unset, .unset, .unset, .unset, .unset, .unset] [(.ref b95)]) _
    refine XS.dup X134.here hx rfl (hb hby at_189) rfl rfl ?_
    refine XS.bipush X134.here hx rfl (hb hby at_190) ?_
    show Sp p e below T134 (mkF m 192 #[.val (.int p1), .val (.int p2), .val (.int p3), .val (.ref b2), .unset, .unset, .unset, .unset, .unset, .unset, .unset, .unset, .unset, .unset] [(.int (13 : Int32)), (.ref b95), (.ref b95)]) _
    refine XS.iconst X134.here hx rfl (hb hby at_192) ?_
    exact k
  obtain ⟨cl137, Ar137, q137, S137, M137, H137, G137⟩ := id V134
  obtain ⟨T137, h137, X137, e137, W137, st137⟩ := stZ X134 hx hZ e134 Ar137 (j := (13 : Int32)) (inb_of S137 (by decide)) (g := (mkF m 193 #[.val (.int p1), .val (.int p2), .val (.int p3), .val (.ref b2), .unset, .unset, .unset, .unset, .unset, .unset, .unset, .unset, .unset, .unset] [(.int (1 : Int32)), (.int (13 : Int32)), (.ref b95), (.ref b95)])) rfl rfl (hb hby at_193)
  have N137 := Fr.snoc X137 N134 (Nat.le_trans (own_le O92) (Nat.le_of_eq g95.symm))
  have O137 : Old Z n0 h137 := O134.wr W137 (Nat.le_trans (own_le O92) (Nat.le_of_eq g95.symm))
  rw [own_nb1] at W137
  have V137 : Arv Z h137 b95 cA95 .boolean (18 : Int32) [(.int (1 : Int32)), (.int (1 : Int32)), (.int (0 : Int32)), (.int (0 : Int32)), (.int (0 : Int32)), (.int (0 : Int32)), (.int (0 : Int32)), (.int (0 : Int32)), (.int (0 : Int32)), (.int (1 : Int32)), (.int (1 : Int32)), (.int (1 : Int32)), (.int (1 : Int32)), (.int (1 : Int32)), (.int (0 : Int32)), (.int (0 : Int32)), (.int (0 : Int32)), (.int (0 : Int32))] (.int (0 : Int32)) := Arv.set Ar137 q137 S137 M137 H137 G137 (by rw [← own_nb1]; exact (fits_nar_bool _)) W137 13 rfl (Nat.le_of_ble_eq_true rfl)
  have pre_138 : ∀ t, Sp p e below T137 (mkF m 194 #[.val (.int p1), .val (.int p2), .val (.int p3), .val (.ref b2), .unset, .unset, .unset, .unset, .unset, .unset, .unset, .unset, .unset, .unset] [(.ref b95)]) t → Steps p.tables e below E0 t := fun t k => pre_136 t (st137 t k)
  have pre_139 : ∀ t, Sp p e below T137 (mkF m 198 #[.val (.int p1), .val (.int p2), .val (.int p3), .val (.ref b2), .unset, .unset, .unset, .unset, .unset, .unset, .unset, .unset, .unset, .unset] [(.int (1 : Int32)), (.int (14 : Int32)), (.ref b95), (.ref b95)]) t → Steps p.tables e below E0 t := by
    intro t k
    refine pre_138 t ?_
    show Sp p e below T137 (mkF m 194 #[.val (.int p1), .val (.int p2), .val (.int p3), .val (.ref b2), .unset, .unset, .unset, .unset, .unset, .unset, .unset, .unset, .unset, .unset] [(.ref b95)]) _
    refine XS.dup X137.here hx rfl (hb hby at_194) rfl rfl ?_
    refine XS.bipush X137.here hx rfl (hb hby at_195) ?_
    refine XS.iconst X137.here hx rfl (hb hby at_197) ?_
    show Sp p e below T137 (mkF m 198 #[.val (.int p1), .val (.int p2), .val (.int p3), .val (.ref b2), .unset, .unset, .unset, .unset, .unset, .unset, .unset, .unset, .unset, .unset] [(.int (1 : Int32)), (.int (14 : Int32)), (.ref b95), (.ref b95)]) _
    exact k
  obtain ⟨cl140, Ar140, q140, S140, M140, H140, G140⟩ := id V137
  obtain ⟨T140, h140, X140, e140, W140, st140⟩ := stZ X137 hx hZ e137 Ar140 (j := (14 : Int32)) (inb_of S140 (by decide)) (g := (mkF m 198 #[.val (.int p1), .val (.int p2), .val (.int p3), .val (.ref b2), .unset, .unset, .unset, .unset, .unset, .unset, .unset, .unset, .unset, .unset] [(.int (1 : Int32)), (.int (14 : Int32)), (.ref b95), (.ref b95)])) rfl rfl (hb hby at_198)
  have N140 := Fr.snoc X140 N137 (Nat.le_trans (own_le O92) (Nat.le_of_eq g95.symm))
  have O140 : Old Z n0 h140 := O137.wr W140 (Nat.le_trans (own_le O92) (Nat.le_of_eq g95.symm))
  rw [own_nb1] at W140
  have V140 : Arv Z h140 b95 cA95 .boolean (18 : Int32) [(.int (1 : Int32)), (.int (1 : Int32)), (.int (0 : Int32)), (.int (0 : Int32)), (.int (0 : Int32)), (.int (0 : Int32)), (.int (0 : Int32)), (.int (0 : Int32)), (.int (0 : Int32)), (.int (1 : Int32)), (.int (1 : Int32)), (.int (1 : Int32)), (.int (1 : Int32)), (.int (1 : Int32)), (.int (1 : Int32)), (.int (0 : Int32)), (.int (0 : Int32)), (.int (0 : Int32))] (.int (0 : Int32)) := Arv.set Ar140 q140 S140 M140 H140 G140 (by rw [← own_nb1]; exact (fits_nar_bool _)) W140 14 rfl (Nat.le_of_ble_eq_true rfl)
  have pre_141 : ∀ t, Sp p e below T140 (mkF m 199 #[.val (.int p1), .val (.int p2), .val (.int p3), .val (.ref b2), .unset, .unset, .unset, .unset, .unset, .unset, .unset, .unset, .unset, .unset] [(.ref b95)]) t → Steps p.tables e below E0 t := fun t k => pre_139 t (st140 t k)
  have pre_142 : ∀ t, Sp p e below T140 (mkF m 203 #[.val (.int p1), .val (.int p2), .val (.int p3), .val (.ref b2), .unset, .unset, .unset, .unset, .unset, .unset, .unset, .unset, .unset, .unset] [(.int (1 : Int32)), (.int (15 : Int32)), (.ref b95), (.ref b95)]) t → Steps p.tables e below E0 t := by
    intro t k
    refine pre_141 t ?_
    show Sp p e below T140 (mkF m 199 #[.val (.int p1), .val (.int p2), .val (.int p3), .val (.ref b2), .unset, .unset, .unset, .unset, .unset, .unset, .unset, .unset, .unset, .unset] [(.ref b95)]) _
    refine XS.dup X140.here hx rfl (hb hby at_199) rfl rfl ?_
    refine XS.bipush X140.here hx rfl (hb hby at_200) ?_
    refine XS.iconst X140.here hx rfl (hb hby at_202) ?_
    exact k
  obtain ⟨cl143, Ar143, q143, S143, M143, H143, G143⟩ := id V140
  obtain ⟨T143, h143, X143, e143, W143, st143⟩ := stZ X140 hx hZ e140 Ar143 (j := (15 : Int32)) (inb_of S143 (by decide)) (g := (mkF m 203 #[.val (.int p1), .val (.int p2), .val (.int p3), .val (.ref b2), .unset, .unset, .unset, .unset, .unset, .unset, .unset, .unset, .unset, .unset] [(.int (1 : Int32)), (.int (15 : Int32)), (.ref b95), (.ref b95)])) rfl rfl (hb hby at_203)
  have N143 := Fr.snoc X143 N140 (Nat.le_trans (own_le O92) (Nat.le_of_eq g95.symm))
  have O143 : Old Z n0 h143 := O140.wr W143 (Nat.le_trans (own_le O92) (Nat.le_of_eq g95.symm))
  rw [own_nb1] at W143
  have V143 : Arv Z h143 b95 cA95 .boolean (18 : Int32) [(.int (1 : Int32)), (.int (1 : Int32)), (.int (0 : Int32)), (.int (0 : Int32)), (.int (0 : Int32)), (.int (0 : Int32)), (.int (0 : Int32)), (.int (0 : Int32)), (.int (0 : Int32)), (.int (1 : Int32)), (.int (1 : Int32)), (.int (1 : Int32)), (.int (1 : Int32)), (.int (1 : Int32)), (.int (1 : Int32)), (.int (1 : Int32)), (.int (0 : Int32)), (.int (0 : Int32))] (.int (0 : Int32)) := Arv.set Ar143 q143 S143 M143 H143 G143 (by rw [← own_nb1]; exact (fits_nar_bool _)) W143 15 rfl (Nat.le_of_ble_eq_true rfl)
  have pre_144 : ∀ t, Sp p e below T143 (mkF m 204 #[.val (.int p1), .val (.int p2), .val (.int p3), .val (.ref b2), .unset, .unset, .unset, .unset, .unset, .unset, .unset, .unset, .unset, .unset] [(.ref b95)]) t → Steps p.tables e below E0 t := fun t k => pre_142 t (st143 t k)
  have pre_145 : ∀ t, Sp p e below T143 (mkF m 208 #[.val (.int p1), .val (.int p2), .val (.int p3), .val (.ref b2), .unset, .unset, .unset, .unset, .unset, .unset, .unset, .unset, .unset, .unset] [(.int (0 : Int32)), (.int (16 : Int32)), (.ref b95), (.ref b95)]) t → Steps p.tables e below E0 t := by
    intro t k
    refine pre_144 t ?_
    show Sp p e below T143 (mkF m 204 #[.val (.int p1), .val (.int p2), .val (.int p3), .val (.ref b2), .unset, .unset, .unset, .unset, .unset, .unset, .unset, .unset, .unset, .unset] [(.ref b95)]) _
    refine XS.dup X143.here hx rfl (hb hby at_204) rfl rfl ?_
    show Sp p e below T143 (mkF m 205 #[.val (.int p1), .val (.int p2), .val (.int p3), .val (.ref b2), .unset, .unset, .unset, .unset, .unset, .unset, .unset, .unset, .unset, .unset] [(.ref b95), (.ref b95)]) _
    refine XS.bipush X143.here hx rfl (hb hby at_205) ?_
    refine XS.iconst X143.here hx rfl (hb hby at_207) ?_
    exact k
  obtain ⟨cl146, Ar146, q146, S146, M146, H146, G146⟩ := id V143
  obtain ⟨T146, h146, X146, e146, W146, st146⟩ := stZ X143 hx hZ e143 Ar146 (j := (16 : Int32)) (inb_of S146 (by decide)) (g := (mkF m 208 #[.val (.int p1), .val (.int p2), .val (.int p3), .val (.ref b2), .unset, .unset, .unset, .unset, .unset, .unset, .unset, .unset, .unset, .unset] [(.int (0 : Int32)), (.int (16 : Int32)), (.ref b95), (.ref b95)])) rfl rfl (hb hby at_208)
  have N146 := Fr.snoc X146 N143 (Nat.le_trans (own_le O92) (Nat.le_of_eq g95.symm))
  have O146 : Old Z n0 h146 := O143.wr W146 (Nat.le_trans (own_le O92) (Nat.le_of_eq g95.symm))
  rw [own_nb0] at W146
  have V146 : Arv Z h146 b95 cA95 .boolean (18 : Int32) [(.int (1 : Int32)), (.int (1 : Int32)), (.int (0 : Int32)), (.int (0 : Int32)), (.int (0 : Int32)), (.int (0 : Int32)), (.int (0 : Int32)), (.int (0 : Int32)), (.int (0 : Int32)), (.int (1 : Int32)), (.int (1 : Int32)), (.int (1 : Int32)), (.int (1 : Int32)), (.int (1 : Int32)), (.int (1 : Int32)), (.int (1 : Int32)), (.int (0 : Int32)), (.int (0 : Int32))] (.int (0 : Int32)) := Arv.set Ar146 q146 S146 M146 H146 G146 (by rw [← own_nb0]; exact (fits_nar_bool _)) W146 16 rfl (Nat.le_of_ble_eq_true rfl)
  have pre_147 : ∀ t, Sp p e below T146 (mkF m 209 #[.val (.int p1), .val (.int p2), .val (.int p3), .val (.ref b2), .unset, .unset, .unset, .unset, .unset, .unset, .unset, .unset, .unset, .unset] [(.ref b95)]) t → Steps p.tables e below E0 t := fun t k => pre_145 t (st146 t k)
  have pre_148 : ∀ t, Sp p e below T146 (mkF m 213 #[.val (.int p1), .val (.int p2), .val (.int p3), .val (.ref b2), .unset, .unset, .unset, .unset, .unset, .unset, .unset, .unset, .unset, .unset] [(.int (1 : Int32)), (.int (17 : Int32)), (.ref b95), (.ref b95)]) t → Steps p.tables e below E0 t := by
    intro t k
    refine pre_147 t ?_
    show Sp p e below T146 (mkF m 209 #[.val (.int p1), .val (.int p2), .val (.int p3), .val (.ref b2), .unset, .unset, .unset, .unset, .unset, .unset, .unset, .unset, .unset, .unset] [(.ref b95)]) _
    refine XS.dup X146.here hx rfl (hb hby at_209) rfl rfl ?_
    refine XS.bipush X146.here hx rfl (hb hby at_210) ?_
    show Sp p e below T146 (mkF m 212 #[.val (.int p1), .val (.int p2), .val (.int p3), .val (.ref b2), .unset, .unset, .unset, .unset, .unset, .unset, .unset, .unset, .unset, .unset] [(.int (17 : Int32)), (.ref b95), (.ref b95)]) _
    refine XS.iconst X146.here hx rfl (hb hby at_212) ?_
    exact k
  obtain ⟨cl149, Ar149, q149, S149, M149, H149, G149⟩ := id V146
  obtain ⟨T149, h149, X149, e149, W149, st149⟩ := stZ X146 hx hZ e146 Ar149 (j := (17 : Int32)) (inb_of S149 (by decide)) (g := (mkF m 213 #[.val (.int p1), .val (.int p2), .val (.int p3), .val (.ref b2), .unset, .unset, .unset, .unset, .unset, .unset, .unset, .unset, .unset, .unset] [(.int (1 : Int32)), (.int (17 : Int32)), (.ref b95), (.ref b95)])) rfl rfl (hb hby at_213)
  have N149 := Fr.snoc X149 N146 (Nat.le_trans (own_le O92) (Nat.le_of_eq g95.symm))
  have O149 : Old Z n0 h149 := O146.wr W149 (Nat.le_trans (own_le O92) (Nat.le_of_eq g95.symm))
  rw [own_nb1] at W149
  have V149 : Arv Z h149 b95 cA95 .boolean (18 : Int32) [(.int (1 : Int32)), (.int (1 : Int32)), (.int (0 : Int32)), (.int (0 : Int32)), (.int (0 : Int32)), (.int (0 : Int32)), (.int (0 : Int32)), (.int (0 : Int32)), (.int (0 : Int32)), (.int (1 : Int32)), (.int (1 : Int32)), (.int (1 : Int32)), (.int (1 : Int32)), (.int (1 : Int32)), (.int (1 : Int32)), (.int (1 : Int32)), (.int (0 : Int32)), (.int (1 : Int32))] (.int (0 : Int32)) := Arv.set Ar149 q149 S149 M149 H149 G149 (by rw [← own_nb1]; exact (fits_nar_bool _)) W149 17 rfl (Nat.le_of_ble_eq_true rfl)
  have pre_150 : ∀ t, Sp p e below T149 (mkF m 214 #[.val (.int p1), .val (.int p2), .val (.int p3), .val (.ref b2), .unset, .unset, .unset, .unset, .unset, .unset, .unset, .unset, .unset, .unset] [(.ref b95)]) t → Steps p.tables e below E0 t := fun t k => pre_148 t (st149 t k)
  have pre_151 : ∀ t, Sp p e below T149 (mkF m 225 #[.val (.int p1), .val (.int p2), .val (.int p3), .val (.ref b2), .val (.ref b95), .val (.int ((p1 &&& (2147483647 : Int32)) % (18 : Int32))), .unset, .unset, .unset, .unset, .unset, .unset, .unset, .unset] []) t → Steps p.tables e below E0 t := by
    intro t k
    refine pre_150 t ?_
    show Sp p e below T149 (mkF m 214 #[.val (.int p1), .val (.int p2), .val (.int p3), .val (.ref b2), .unset, .unset, .unset, .unset, .unset, .unset, .unset, .unset, .unset, .unset] [(.ref b95)]) _
    refine XS.astore X149.here hx rfl (hb hby at_214) rfl rfl (l' := #[.val (.int p1), .val (.int p2), .val (.int p3), .val (.ref b2), .val (.ref b95), .unset, .unset, .unset, .unset, .unset, .unset, .unset, .unset, .unset]) rfl ?_
    refine XS.iloadN X149.here hx rfl (hb hby at_216) rfl ?_
    refine X149.ldcInt hx hown (mvT hZ (own_w hw 41 rfl)) (g := (mkF m 217 #[.val (.int p1), .val (.int p2), .val (.int p3), .val (.ref b2), .val (.ref b95), .unset, .unset, .unset, .unset, .unset, .unset, .unset, .unset, .unset] [(.int p1)])) rfl (hb hby at_217) _ ?_
    show Sp p e below T149 (mkF m 219 #[.val (.int p1), .val (.int p2), .val (.int p3), .val (.ref b2), .val (.ref b95), .unset, .unset, .unset, .unset, .unset, .unset, .unset, .unset, .unset] [(.int (2147483647 : Int32)), (.int p1)]) _
    refine XS.iand X149.here hx rfl (hb hby at_219) rfl ?_
    refine XS.bipush X149.here hx rfl (hb hby at_220) ?_
    refine iremM X149 hx rfl (hb hby at_222) rfl (by decide) ?_
    refine XS.istore X149.here hx rfl (hb hby at_223) rfl (l' := #[.val (.int p1), .val (.int p2), .val (.int p3), .val (.ref b2), .val (.ref b95), .val (.int ((p1 &&& (2147483647 : Int32)) % (18 : Int32))), .unset, .unset, .unset, .unset, .unset, .unset, .unset, .unset]) rfl ?_
    show Sp p e below T149 (mkF m 225 #[.val (.int p1), .val (.int p2), .val (.int p3), .val (.ref b2), .val (.ref b95), .val (.int ((p1 &&& (2147483647 : Int32)) % (18 : Int32))), .unset, .unset, .unset, .unset, .unset, .unset, .unset, .unset] []) _
    exact k
  have VA : Arv Z h149 b2 cA2 (.object "com/example/twistgauge/twistgauge/limitset/Parameter") (18 : Int32) [(.ref ap_ATTENUATION), (.ref ap_INSERTION_LOSS), (.ref ap_NEXT), (.ref ap_PSNEXT), (.ref ap_ACR), (.ref ap_PSACR), (.ref ap_ELFEXT), (.ref ap_PSELFEXT), (.ref ap_RETURN_LOSS), (.ref ap_PROPAGATION_DELAY), (.ref ap_DELAY_SKEW), (.ref ap_RESISTANCE), (.ref ap_LOOP_RESISTANCE), (.ref ap_RESISTANCE_UNBALANCE), (.ref ap_PAIR_RESISTANCE_UNBALANCE), (.ref ap_OPERATING_CAPACITANCE), (.ref ap_INSULATION_RESISTANCE), (.ref ap_CAPACITANCE_UNBALANCE_EARTH)] .null := (((((((((((((((((((V92.ext E95).other W98 (Nat.ne_of_lt (Nat.lt_of_lt_of_le V92.lt (Nat.le_of_eq g95.symm)))).other W101 (Nat.ne_of_lt (Nat.lt_of_lt_of_le V92.lt (Nat.le_of_eq g95.symm)))).other W104 (Nat.ne_of_lt (Nat.lt_of_lt_of_le V92.lt (Nat.le_of_eq g95.symm)))).other W107 (Nat.ne_of_lt (Nat.lt_of_lt_of_le V92.lt (Nat.le_of_eq g95.symm)))).other W110 (Nat.ne_of_lt (Nat.lt_of_lt_of_le V92.lt (Nat.le_of_eq g95.symm)))).other W113 (Nat.ne_of_lt (Nat.lt_of_lt_of_le V92.lt (Nat.le_of_eq g95.symm)))).other W116 (Nat.ne_of_lt (Nat.lt_of_lt_of_le V92.lt (Nat.le_of_eq g95.symm)))).other W119 (Nat.ne_of_lt (Nat.lt_of_lt_of_le V92.lt (Nat.le_of_eq g95.symm)))).other W122 (Nat.ne_of_lt (Nat.lt_of_lt_of_le V92.lt (Nat.le_of_eq g95.symm)))).other W125 (Nat.ne_of_lt (Nat.lt_of_lt_of_le V92.lt (Nat.le_of_eq g95.symm)))).other W128 (Nat.ne_of_lt (Nat.lt_of_lt_of_le V92.lt (Nat.le_of_eq g95.symm)))).other W131 (Nat.ne_of_lt (Nat.lt_of_lt_of_le V92.lt (Nat.le_of_eq g95.symm)))).other W134 (Nat.ne_of_lt (Nat.lt_of_lt_of_le V92.lt (Nat.le_of_eq g95.symm)))).other W137 (Nat.ne_of_lt (Nat.lt_of_lt_of_le V92.lt (Nat.le_of_eq g95.symm)))).other W140 (Nat.ne_of_lt (Nat.lt_of_lt_of_le V92.lt (Nat.le_of_eq g95.symm)))).other W143 (Nat.ne_of_lt (Nat.lt_of_lt_of_le V92.lt (Nat.le_of_eq g95.symm)))).other W146 (Nat.ne_of_lt (Nat.lt_of_lt_of_le V92.lt (Nat.le_of_eq g95.symm)))).other W149 (Nat.ne_of_lt (Nat.lt_of_lt_of_le V92.lt (Nat.le_of_eq g95.symm))))
  have VB : Arv Z h149 b95 cA95 .boolean (18 : Int32) [(.int (1 : Int32)), (.int (1 : Int32)), (.int (0 : Int32)), (.int (0 : Int32)), (.int (0 : Int32)), (.int (0 : Int32)), (.int (0 : Int32)), (.int (0 : Int32)), (.int (0 : Int32)), (.int (1 : Int32)), (.int (1 : Int32)), (.int (1 : Int32)), (.int (1 : Int32)), (.int (1 : Int32)), (.int (1 : Int32)), (.int (1 : Int32)), (.int (0 : Int32)), (.int (1 : Int32))] (.int (0 : Int32)) := V149
  obtain ⟨LL, XL, NL⟩ : ∃ LL, Stand p l e room_1 s m #[(.int p1), (.int p2), (.int p3)] below meth c T149 LL 2 36 ∧ Fr n0 LL := ⟨_, X149, N149⟩
  rcases own_18 p1 with hs | hs | hs | hs | hs | hs | hs | hs | hs | hs | hs | hs | hs | hs | hs | hs | hs | hs
  · skip
    rw [hs] at pre_151
    have pre_153 : ∀ t, Sp p e below T149 (mkF m 241 #[.val (.int p1), .val (.int p2), .val (.int p3), .val (.ref b2), .val (.ref b95), .val (.int (0 : Int32)), .val (.double u2), .second, .val (.double u3), .second, .unset, .unset, .unset, .unset] [(.double u3), (.double u2), (.ref ap_ATTENUATION)]) t → Steps p.tables e below E0 t := by
      intro t k
      refine pre_151 t ?_
      show Sp p e below T149 (mkF m 225 #[.val (.int p1), .val (.int p2), .val (.int p3), .val (.ref b2), .val (.ref b95), .val (.int (0 : Int32)), .unset, .unset, .unset, .unset, .unset, .unset, .unset, .unset] []) _
      refine XS.iloadN XL.here hx rfl (hb hby at_225) rfl ?_
      refine XD.i2d XL.here hx rfl (hb hby at_226) rfl hu2 ?_
      refine XD.dstore XL.here hx rfl (hb hby at_227) rfl (l' := #[.val (.int p1), .val (.int p2), .val (.int p3), .val (.ref b2), .val (.ref b95), .val (.int (0 : Int32)), .val (.double u2), .second, .unset, .unset, .unset, .unset, .unset, .unset]) rfl ?_
      refine XS.iloadN XL.here hx rfl (hb hby at_229) rfl ?_
      show Sp p e below T149 (mkF m 230 #[.val (.int p1), .val (.int p2), .val (.int p3), .val (.ref b2), .val (.ref b95), .val (.int (0 : Int32)), .val (.double u2), .second, .unset, .unset, .unset, .unset, .unset, .unset] [(.int p3)]) _
      refine XD.i2d XL.here hx rfl (hb hby at_230) rfl hu3 ?_
      refine XD.dstore XL.here hx rfl (hb hby at_231) rfl (l' := #[.val (.int p1), .val (.int p2), .val (.int p3), .val (.ref b2), .val (.ref b95), .val (.int (0 : Int32)), .val (.double u2), .second, .val (.double u3), .second, .unset, .unset, .unset, .unset]) rfl ?_
      refine XS.aloadN XL.here hx rfl (hb hby at_233) rfl rfl ?_
      refine XS.iload XL.here hx rfl (hb hby at_234) rfl ?_
      show Sp p e below T149 (mkF m 236 #[.val (.int p1), .val (.int p2), .val (.int p3), .val (.ref b2), .val (.ref b95), .val (.int (0 : Int32)), .val (.double u2), .second, .val (.double u3), .second, .unset, .unset, .unset, .unset] [(.int (0 : Int32)), (.ref b2)]) _
      obtain ⟨cl152, Ar152, -, S152, -, H152, -⟩ := id VA
      have hin152 : ¬ ((0 : Int32) < 0 ∨ cl152.slots.size ≤ ((0 : Int32)).toNatClampNeg) := inb_of S152 (by decide)
      refine XL.aaload hx (j := (0 : Int32)) (v := (.ref ap_ATTENUATION)) (by rw [e149]; exact Ar152.1) (State.isArrayOf_alike hZ.alike Ar152.2.1) rfl Ar152.2.2 hin152 (H152.at hin152 rfl) (g := (mkF m 236 #[.val (.int p1), .val (.int p2), .val (.int p3), .val (.ref b2), .val (.ref b95), .val (.int (0 : Int32)), .val (.double u2), .second, .val (.double u3), .second, .unset, .unset, .unset, .unset] [(.int (0 : Int32)), (.ref b2)])) rfl rfl (hb hby at_236) _ ?_
      refine XD.dload XL.here hx rfl (hb hby at_237) rfl ?_
      refine XD.dload XL.here hx rfl (hb hby at_239) rfl ?_
      exact k
    obtain ⟨cq154, kq154, qa154, qb154, qc154⟩ := isOf hZ e149 (E_ap_ATTENUATION.ext O149.2)
    obtain ⟨_, _, ⟨T154, L154, k154, n154⟩, -, X154, ⟨Lc154, hQ154, l154, y154, z154⟩, st154⟩ := XL.virtualBack hx (y := (⟨"com/example/twistgauge/twistgauge/limitset/Parameter", "margin", "(DD)D"⟩ : MethodName)) (z := (⟨"com/example/twistgauge/twistgauge/limitset/Parameter", "margin", "(DD)D"⟩ : MethodName)) hown (mvT hZ (own_w hw 42 rfl)) (mvT hZ (own_w hw 43 rfl)) (notFace_of_selects (args := #[]) (mvT hZ (own_w hw 45 rfl))) (mvT hZ (own_w hw 45 rfl)) (mvT hZ (own_w hw 44 rfl)) (by decide) (backOf (W := 0) (rm_mg1 l Z a0 hw [] ap_ATTENUATION u2 u3 dq1 p2 p3 h149 n0 O149 hu2 hu3 hdq1 (F_ap_ATTENUATION_maximum.ext O149.2)) hZ (own_w hw 46 rfl) (own_w hw 3 rfl) (by decide) (by decide)) qa154 qc154 (g := (mkF m 241 #[.val (.int p1), .val (.int p2), .val (.int p3), .val (.ref b2), .val (.ref b95), .val (.int (0 : Int32)), .val (.double u2), .second, .val (.double u3), .second, .unset, .unset, .unset, .unset] [(.double u3), (.double u2), (.ref ap_ATTENUATION)])) rfl (by rw [hml]; rfl) (Steps.refl _) (argsL := [(.double u2), (.double u3)]) (rest := []) (lenOf pd_law_0 rfl) rfl (by show 2 * 0 + _ ≤ _; exact Nat.le_of_eq rfl) (hb hby at_241) (fun _ _ => ⟨rfl, e149, (by decide : 2 + 0 ≤ _), (by decide : 36 + 0 ≤ _)⟩)
    dsimp only [Pt.U, Pt.locs, Pt.cells, Pt.slots] at X154 l154 y154 z154 st154 hQ154
    subst l154 y154 z154
    obtain ⟨rfl, N154q, e154⟩ := hQ154
    have N154 := Fr.app NL N154q
    have pre_155 : ∀ t, Sp p e below T154 (mkF m 244 #[.val (.int p1), .val (.int p2), .val (.int p3), .val (.ref b2), .val (.ref b95), .val (.int (0 : Int32)), .val (.double u2), .second, .val (.double u3), .second, .unset, .unset, .unset, .unset] [(.double dq1)]) t → Steps p.tables e below E0 t := fun t k => pre_153 t (st154.trans k)
    have pre_157 : ∀ t, Sp p e below T154 (mkF m 283 #[.val (.int p1), .val (.int p2), .val (.int p3), .val (.ref b2), .val (.ref b95), .val (.int (0 : Int32)), .val (.double u2), .second, .val (.double u3), .second, .val (.double dq1), .second, .val (.long ((p3).toInt64 - (p2).toInt64)), .second] [(.int (1 : Int32))]) t → Steps p.tables e below E0 t := by
      intro t k
      refine pre_155 t ?_
      show Sp p e below T154 (mkF m 244 #[.val (.int p1), .val (.int p2), .val (.int p3), .val (.ref b2), .val (.ref b95), .val (.int (0 : Int32)), .val (.double u2), .second, .val (.double u3), .second, .unset, .unset, .unset, .unset] [(.double dq1)]) _
      refine XD.dstore X154.here hx rfl (hb hby at_244) rfl (l' := #[.val (.int p1), .val (.int p2), .val (.int p3), .val (.ref b2), .val (.ref b95), .val (.int (0 : Int32)), .val (.double u2), .second, .val (.double u3), .second, .val (.double dq1), .second, .unset, .unset]) rfl ?_
      show Sp p e below T154 (mkF m 246 #[.val (.int p1), .val (.int p2), .val (.int p3), .val (.ref b2), .val (.ref b95), .val (.int (0 : Int32)), .val (.double u2), .second, .val (.double u3), .second, .val (.double dq1), .second, .unset, .unset] []) _
      refine XS.aload X154.here hx rfl (hb hby at_246) rfl rfl ?_
      refine XS.iload X154.here hx rfl (hb hby at_248) rfl ?_
      obtain ⟨cl156, Ar156, -, S156, -, H156, -⟩ := id VB
      have hin156 : ¬ ((0 : Int32) < 0 ∨ cl156.slots.size ≤ ((0 : Int32)).toNatClampNeg) := inb_of S156 (by decide)
      refine X154.baloadBooleans hx (j := (0 : Int32)) (v := (.int (1 : Int32))) (by rw [e154]; exact Ar156.1) (State.isArrayOf_alike hZ.alike Ar156.2.1) Ar156.2.2 hin156 (H156.at hin156 rfl) (g := (mkF m 250 #[.val (.int p1), .val (.int p2), .val (.int p3), .val (.ref b2), .val (.ref b95), .val (.int (0 : Int32)), .val (.double u2), .second, .val (.double u3), .second, .val (.double dq1), .second, .unset, .unset] [(.int (0 : Int32)), (.ref b95)])) rfl rfl (hb hby at_250) _ ?_
      refine XS.ifNo X154.here hx rfl (hb hby at_251) rfl (XT.i0_eq_f (by decide)) ?_
      show Sp p e below T154 (mkF m 254 #[.val (.int p1), .val (.int p2), .val (.int p3), .val (.ref b2), .val (.ref b95), .val (.int (0 : Int32)), .val (.double u2), .second, .val (.double u3), .second, .val (.double dq1), .second, .unset, .unset] []) _
      refine XS.iloadN X154.here hx rfl (hb hby at_254) rfl ?_
      refine XT.i2l X154.here hx rfl (hb hby at_255) rfl ?_
      refine XS.iloadN X154.here hx rfl (hb hby at_256) rfl ?_
      refine XT.i2l X154.here hx rfl (hb hby at_257) rfl ?_
      show Sp p e below T154 (mkF m 258 #[.val (.int p1), .val (.int p2), .val (.int p3), .val (.ref b2), .val (.ref b95), .val (.int (0 : Int32)), .val (.double u2), .second, .val (.double u3), .second, .val (.double dq1), .second, .unset, .unset] [(.long (p2).toInt64), (.long (p3).toInt64)]) _
      refine XT.lsub X154.here hx rfl (hb hby at_258) rfl ?_
      refine XS.goto X154.here hx rfl (pc0 := 259) (pc' := 267) rfl (hb hby at_259) (by decide) (by decide) ?_
      refine XT.lstore X154.here hx rfl (hb hby at_267) rfl (l' := #[.val (.int p1), .val (.int p2), .val (.int p3), .val (.ref b2), .val (.ref b95), .val (.int (0 : Int32)), .val (.double u2), .second, .val (.double u3), .second, .val (.double dq1), .second, .val (.long ((p3).toInt64 - (p2).toInt64)), .second]) rfl ?_
      refine XD.dload X154.here hx rfl (hb hby at_269) rfl ?_
      show Sp p e below T154 (mkF m 271 #[.val (.int p1), .val (.int p2), .val (.int p3), .val (.ref b2), .val (.ref b95), .val (.int (0 : Int32)), .val (.double u2), .second, .val (.double u3), .second, .val (.double dq1), .second, .val (.long ((p3).toInt64 - (p2).toInt64)), .second] [(.double dq1)]) _
      refine XT.lload X154.here hx rfl (hb hby at_271) rfl ?_
      refine XD.l2d X154.here hx rfl (hb hby at_273) rfl hdq1 ?_
      refine XD.dcmplSame X154.here hx rfl (hb hby at_274) rfl hdq1 ?_
      refine XS.ifNo X154.here hx rfl (hb hby at_275) rfl (XT.i0_ne_f (by decide)) ?_
      show Sp p e below T154 (mkF m 278 #[.val (.int p1), .val (.int p2), .val (.int p3), .val (.ref b2), .val (.ref b95), .val (.int (0 : Int32)), .val (.double u2), .second, .val (.double u3), .second, .val (.double dq1), .second, .val (.long ((p3).toInt64 - (p2).toInt64)), .second] []) _
      refine XS.iconst X154.here hx rfl (hb hby at_278) ?_
      refine XS.goto X154.here hx rfl (pc0 := 279) (pc' := 283) rfl (hb hby at_279) (by decide) (by decide) ?_
      exact k
    obtain ⟨fs, hr, hrun, hended, hW, hsame⟩ := X154.leave (v := some (.int (1 : Int32))) (fun h => by rw [Bd.returns] at h; cases h)
    refine ⟨_, _, pre_157 _ ?_, hrun, hended, _, _, rfl, ?_, ⟨_, rfl⟩, hW, hsame.mono (by decide) (by decide)⟩
    · show Sp p e below T154 (mkF m 283 #[.val (.int p1), .val (.int p2), .val (.int p3), .val (.ref b2), .val (.ref b95), .val (.int (0 : Int32)), .val (.double u2), .second, .val (.double u3), .second, .val (.double dq1), .second, .val (.long ((p3).toInt64 - (p2).toInt64)), .second] [(.int (1 : Int32))]) _
      exact retN X154 hx (t := .boolean) Bd.returns (by simp) (hb hby at_283) hr
    · show Q_law Z _ _ _ _ _ _ _ _ _ _ _ _ _ _ _ _ _ _ _ _ _ h0 n0 _ T154.heap _
      rw [e154]
      exact ⟨rfl, N154⟩
  · skip
    rw [hs] at pre_151
    have pre_159 : ∀ t, Sp p e below T149 (mkF m 241 #[.val (.int p1), .val (.int p2), .val (.int p3), .val (.ref b2), .val (.ref b95), .val (.int (1 : Int32)), .val (.double u2), .second, .val (.double u3), .second, .unset, .unset, .unset, .unset] [(.double u3), (.double u2), (.ref ap_INSERTION_LOSS)]) t → Steps p.tables e below E0 t := by
      intro t k
      refine pre_151 t ?_
      show Sp p e below T149 (mkF m 225 #[.val (.int p1), .val (.int p2), .val (.int p3), .val (.ref b2), .val (.ref b95), .val (.int (1 : Int32)), .unset, .unset, .unset, .unset, .unset, .unset, .unset, .unset] []) _
      refine XS.iloadN XL.here hx rfl (hb hby at_225) rfl ?_
      refine XD.i2d XL.here hx rfl (hb hby at_226) rfl hu2 ?_
      refine XD.dstore XL.here hx rfl (hb hby at_227) rfl (l' := #[.val (.int p1), .val (.int p2), .val (.int p3), .val (.ref b2), .val (.ref b95), .val (.int (1 : Int32)), .val (.double u2), .second, .unset, .unset, .unset, .unset, .unset, .unset]) rfl ?_
      refine XS.iloadN XL.here hx rfl (hb hby at_229) rfl ?_
      show Sp p e below T149 (mkF m 230 #[.val (.int p1), .val (.int p2), .val (.int p3), .val (.ref b2), .val (.ref b95), .val (.int (1 : Int32)), .val (.double u2), .second, .unset, .unset, .unset, .unset, .unset, .unset] [(.int p3)]) _
      refine XD.i2d XL.here hx rfl (hb hby at_230) rfl hu3 ?_
      refine XD.dstore XL.here hx rfl (hb hby at_231) rfl (l' := #[.val (.int p1), .val (.int p2), .val (.int p3), .val (.ref b2), .val (.ref b95), .val (.int (1 : Int32)), .val (.double u2), .second, .val (.double u3), .second, .unset, .unset, .unset, .unset]) rfl ?_
      refine XS.aloadN XL.here hx rfl (hb hby at_233) rfl rfl ?_
      refine XS.iload XL.here hx rfl (hb hby at_234) rfl ?_
      show Sp p e below T149 (mkF m 236 #[.val (.int p1), .val (.int p2), .val (.int p3), .val (.ref b2), .val (.ref b95), .val (.int (1 : Int32)), .val (.double u2), .second, .val (.double u3), .second, .unset, .unset, .unset, .unset] [(.int (1 : Int32)), (.ref b2)]) _
      obtain ⟨cl158, Ar158, -, S158, -, H158, -⟩ := id VA
      have hin158 : ¬ ((1 : Int32) < 0 ∨ cl158.slots.size ≤ ((1 : Int32)).toNatClampNeg) := inb_of S158 (by decide)
      refine XL.aaload hx (j := (1 : Int32)) (v := (.ref ap_INSERTION_LOSS)) (by rw [e149]; exact Ar158.1) (State.isArrayOf_alike hZ.alike Ar158.2.1) rfl Ar158.2.2 hin158 (H158.at hin158 rfl) (g := (mkF m 236 #[.val (.int p1), .val (.int p2), .val (.int p3), .val (.ref b2), .val (.ref b95), .val (.int (1 : Int32)), .val (.double u2), .second, .val (.double u3), .second, .unset, .unset, .unset, .unset] [(.int (1 : Int32)), (.ref b2)])) rfl rfl (hb hby at_236) _ ?_
      refine XD.dload XL.here hx rfl (hb hby at_237) rfl ?_
      refine XD.dload XL.here hx rfl (hb hby at_239) rfl ?_
      exact k
    obtain ⟨cq160, kq160, qa160, qb160, qc160⟩ := isOf hZ e149 (E_ap_INSERTION_LOSS.ext O149.2)
    obtain ⟨_, _, ⟨T160, L160, k160, n160⟩, -, X160, ⟨Lc160, hQ160, l160, y160, z160⟩, st160⟩ := XL.virtualBack hx (y := (⟨"com/example/twistgauge/twistgauge/limitset/Parameter", "margin", "(DD)D"⟩ : MethodName)) (z := (⟨"com/example/twistgauge/twistgauge/limitset/Parameter", "margin", "(DD)D"⟩ : MethodName)) hown (mvT hZ (own_w hw 42 rfl)) (mvT hZ (own_w hw 43 rfl)) (notFace_of_selects (args := #[]) (mvT hZ (own_w hw 45 rfl))) (mvT hZ (own_w hw 45 rfl)) (mvT hZ (own_w hw 44 rfl)) (by decide) (backOf (W := 0) (rm_mg1 l Z a0 hw [] ap_INSERTION_LOSS u2 u3 dq1 p2 p3 h149 n0 O149 hu2 hu3 hdq1 (F_ap_INSERTION_LOSS_maximum.ext O149.2)) hZ (own_w hw 46 rfl) (own_w hw 3 rfl) (by decide) (by decide)) qa160 qc160 (g := (mkF m 241 #[.val (.int p1), .val (.int p2), .val (.int p3), .val (.ref b2), .val (.ref b95), .val (.int (1 : Int32)), .val (.double u2), .second, .val (.double u3), .second, .unset, .unset, .unset, .unset] [(.double u3), (.double u2), (.ref ap_INSERTION_LOSS)])) rfl (by rw [hml]; rfl) (Steps.refl _) (argsL := [(.double u2), (.double u3)]) (rest := []) (lenOf pd_law_0 rfl) rfl (by show 2 * 0 + _ ≤ _; exact Nat.le_of_eq rfl) (hb hby at_241) (fun _ _ => ⟨rfl, e149, (by decide : 2 + 0 ≤ _), (by decide : 36 + 0 ≤ _)⟩)
    dsimp only [Pt.U, Pt.locs, Pt.cells, Pt.slots] at X160 l160 y160 z160 st160 hQ160
    subst l160 y160 z160
    obtain ⟨rfl, N160q, e160⟩ := hQ160
    have N160 := Fr.app NL N160q
    have pre_161 : ∀ t, Sp p e below T160 (mkF m 244 #[.val (.int p1), .val (.int p2), .val (.int p3), .val (.ref b2), .val (.ref b95), .val (.int (1 : Int32)), .val (.double u2), .second, .val (.double u3), .second, .unset, .unset, .unset, .unset] [(.double dq1)]) t → Steps p.tables e below E0 t := fun t k => pre_159 t (st160.trans k)
    have pre_163 : ∀ t, Sp p e below T160 (mkF m 283 #[.val (.int p1), .val (.int p2), .val (.int p3), .val (.ref b2), .val (.ref b95), .val (.int (1 : Int32)), .val (.double u2), .second, .val (.double u3), .second, .val (.double dq1), .second, .val (.long ((p3).toInt64 - (p2).toInt64)), .second] [(.int (1 : Int32))]) t → Steps p.tables e below E0 t := by
      intro t k
      refine pre_161 t ?_
      show Sp p e below T160 (mkF m 244 #[.val (.int p1), .val (.int p2), .val (.int p3), .val (.ref b2), .val (.ref b95), .val (.int (1 : Int32)), .val (.double u2), .second, .val (.double u3), .second, .unset, .unset, .unset, .unset] [(.double dq1)]) _
      refine XD.dstore X160.here hx rfl (hb hby at_244) rfl (l' := #[.val (.int p1), .val (.int p2), .val (.int p3), .val (.ref b2), .val (.ref b95), .val (.int (1 : Int32)), .val (.double u2), .second, .val (.double u3), .second, .val (.double dq1), .second, .unset, .unset]) rfl ?_
      show Sp p e below T160 (mkF m 246 #[.val (.int p1), .val (.int p2), .val (.int p3), .val (.ref b2), .val (.ref b95), .val (.int (1 : Int32)), .val (.double u2), .second, .val (.double u3), .second, .val (.double dq1), .second, .unset, .unset] []) _
      refine XS.aload X160.here hx rfl (hb hby at_246) rfl rfl ?_
      refine XS.iload X160.here hx rfl (hb hby at_248) rfl ?_
      obtain ⟨cl162, Ar162, -, S162, -, H162, -⟩ := id VB
      have hin162 : ¬ ((1 : Int32) < 0 ∨ cl162.slots.size ≤ ((1 : Int32)).toNatClampNeg) := inb_of S162 (by decide)
      refine X160.baloadBooleans hx (j := (1 : Int32)) (v := (.int (1 : Int32))) (by rw [e160]; exact Ar162.1) (State.isArrayOf_alike hZ.alike Ar162.2.1) Ar162.2.2 hin162 (H162.at hin162 rfl) (g := (mkF m 250 #[.val (.int p1), .val (.int p2), .val (.int p3), .val (.ref b2), .val (.ref b95), .val (.int (1 : Int32)), .val (.double u2), .second, .val (.double u3), .second, .val (.double dq1), .second, .unset, .unset] [(.int (1 : Int32)), (.ref b95)])) rfl rfl (hb hby at_250) _ ?_
      refine XS.ifNo X160.here hx rfl (hb hby at_251) rfl (XT.i0_eq_f (by decide)) ?_
      show Sp p e below T160 (mkF m 254 #[.val (.int p1), .val (.int p2), .val (.int p3), .val (.ref b2), .val (.ref b95), .val (.int (1 : Int32)), .val (.double u2), .second, .val (.double u3), .second, .val (.double dq1), .second, .unset, .unset] []) _
      refine XS.iloadN X160.here hx rfl (hb hby at_254) rfl ?_
      refine XT.i2l X160.here hx rfl (hb hby at_255) rfl ?_
      refine XS.iloadN X160.here hx rfl (hb hby at_256) rfl ?_
      refine XT.i2l X160.here hx rfl (hb hby at_257) rfl ?_
      show Sp p e below T160 (mkF m 258 #[.val (.int p1), .val (.int p2), .val (.int p3), .val (.ref b2), .val (.ref b95), .val (.int (1 : Int32)), .val (.double u2), .second, .val (.double u3), .second, .val (.double dq1), .second, .unset, .unset] [(.long (p2).toInt64), (.long (p3).toInt64)]) _
      refine XT.lsub X160.here hx rfl (hb hby at_258) rfl ?_
      refine XS.goto X160.here hx rfl (pc0 := 259) (pc' := 267) rfl (hb hby at_259) (by decide) (by decide) ?_
      refine XT.lstore X160.here hx rfl (hb hby at_267) rfl (l' := #[.val (.int p1), .val (.int p2), .val (.int p3), .val (.ref b2), .val (.ref b95), .val (.int (1 : Int32)), .val (.double u2), .second, .val (.double u3), .second, .val (.double dq1), .second, .val (.long ((p3).toInt64 - (p2).toInt64)), .second]) rfl ?_
      refine XD.dload X160.here hx rfl (hb hby at_269) rfl ?_
      show Sp p e below T160 (mkF m 271 #[.val (.int p1), .val (.int p2), .val (.int p3), .val (.ref b2), .val (.ref b95), .val (.int (1 : Int32)), .val (.double u2), .second, .val (.double u3), .second, .val (.double dq1), .second, .val (.long ((p3).toInt64 - (p2).toInt64)), .second] [(.double dq1)]) _
      refine XT.lload X160.here hx rfl (hb hby at_271) rfl ?_
      refine XD.l2d X160.here hx rfl (hb hby at_273) rfl hdq1 ?_
      refine XD.dcmplSame X160.here hx rfl (hb hby at_274) rfl hdq1 ?_
      refine XS.ifNo X160.here hx rfl (hb hby at_275) rfl (XT.i0_ne_f (by decide)) ?_
      show Sp p e below T160 (mkF m 278 #[.val (.int p1), .val (.int p2), .val (.int p3), .val (.ref b2), .val (.ref b95), .val (.int (1 : Int32)), .val (.double u2), .second, .val (.double u3), .second, .val (.double dq1), .second, .val (.long ((p3).toInt64 - (p2).toInt64)), .second] []) _
      refine XS.iconst X160.here hx rfl (hb hby at_278) ?_
      refine XS.goto X160.here hx rfl (pc0 := 279) (pc' := 283) rfl (hb hby at_279) (by decide) (by decide) ?_
      exact k
    obtain ⟨fs, hr, hrun, hended, hW, hsame⟩ := X160.leave (v := some (.int (1 : Int32))) (fun h => by rw [Bd.returns] at h; cases h)
    refine ⟨_, _, pre_163 _ ?_, hrun, hended, _, _, rfl, ?_, ⟨_, rfl⟩, hW, hsame.mono (by decide) (by decide)⟩
    · show Sp p e below T160 (mkF m 283 #[.val (.int p1), .val (.int p2), .val (.int p3), .val (.ref b2), .val (.ref b95), .val (.int (1 : Int32)), .val (.double u2), .second, .val (.double u3), .second, .val (.double dq1), .second, .val (.long ((p3).toInt64 - (p2).toInt64)), .second] [(.int (1 : Int32))]) _
      exact retN X160 hx (t := .boolean) Bd.returns (by simp) (hb hby at_283) hr
    · show Q_law Z _ _ _ _ _ _ _ _ _ _ _ _ _ _ _ _ _ _ _ _ _ h0 n0 _ T160.heap _
      rw [e160]
      exact ⟨rfl, N160⟩
  · skip
    rw [hs] at pre_151
    have pre_165 : ∀ t, Sp p e below T149 (mkF m 241 #[.val (.int p1), .val (.int p2), .val (.int p3), .val (.ref b2), .val (.ref b95), .val (.int (2 : Int32)), .val (.double u2), .second, .val (.double u3), .second, .unset, .unset, .unset, .unset] [(.double u3), (.double u2), (.ref ap_NEXT)]) t → Steps p.tables e below E0 t := by
      intro t k
      refine pre_151 t ?_
      show Sp p e below T149 (mkF m 225 #[.val (.int p1), .val (.int p2), .val (.int p3), .val (.ref b2), .val (.ref b95), .val (.int (2 : Int32)), .unset, .unset, .unset, .unset, .unset, .unset, .unset, .unset] []) _
      refine XS.iloadN XL.here hx rfl (hb hby at_225) rfl ?_
      refine XD.i2d XL.here hx rfl (hb hby at_226) rfl hu2 ?_
      refine XD.dstore XL.here hx rfl (hb hby at_227) rfl (l' := #[.val (.int p1), .val (.int p2), .val (.int p3), .val (.ref b2), .val (.ref b95), .val (.int (2 : Int32)), .val (.double u2), .second, .unset, .unset, .unset, .unset, .unset, .unset]) rfl ?_
      refine XS.iloadN XL.here hx rfl (hb hby at_229) rfl ?_
      show Sp p e below T149 (mkF m 230 #[.val (.int p1), .val (.int p2), .val (.int p3), .val (.ref b2), .val (.ref b95), .val (.int (2 : Int32)), .val (.double u2), .second, .unset, .unset, .unset, .unset, .unset, .unset] [(.int p3)]) _
      refine XD.i2d XL.here hx rfl (hb hby at_230) rfl hu3 ?_
      refine XD.dstore XL.here hx rfl (hb hby at_231) rfl (l' := #[.val (.int p1), .val (.int p2), .val (.int p3), .val (.ref b2), .val (.ref b95), .val (.int (2 : Int32)), .val (.double u2), .second, .val (.double u3), .second, .unset, .unset, .unset, .unset]) rfl ?_
      refine XS.aloadN XL.here hx rfl (hb hby at_233) rfl rfl ?_
      refine XS.iload XL.here hx rfl (hb hby at_234) rfl ?_
      show Sp p e below T149 (mkF m 236 #[.val (.int p1), .val (.int p2), .val (.int p3), .val (.ref b2), .val (.ref b95), .val (.int (2 : Int32)), .val (.double u2), .second, .val (.double u3), .second, .unset, .unset, .unset, .unset] [(.int (2 : Int32)), (.ref b2)]) _
      obtain ⟨cl164, Ar164, -, S164, -, H164, -⟩ := id VA
      have hin164 : ¬ ((2 : Int32) < 0 ∨ cl164.slots.size ≤ ((2 : Int32)).toNatClampNeg) := inb_of S164 (by decide)
      refine XL.aaload hx (j := (2 : Int32)) (v := (.ref ap_NEXT)) (by rw [e149]; exact Ar164.1) (State.isArrayOf_alike hZ.alike Ar164.2.1) rfl Ar164.2.2 hin164 (H164.at hin164 rfl) (g := (mkF m 236 #[.val (.int p1), .val (.int p2), .val (.int p3), .val (.ref b2), .val (.ref b95), .val (.int (2 : Int32)), .val (.double u2), .second, .val (.double u3), .second, .unset, .unset, .unset, .unset] [(.int (2 : Int32)), (.ref b2)])) rfl rfl (hb hby at_236) _ ?_
      refine XD.dload XL.here hx rfl (hb hby at_237) rfl ?_
      refine XD.dload XL.here hx rfl (hb hby at_239) rfl ?_
      exact k
    obtain ⟨cq166, kq166, qa166, qb166, qc166⟩ := isOf hZ e149 (E_ap_NEXT.ext O149.2)
    obtain ⟨_, _, ⟨T166, L166, k166, n166⟩, -, X166, ⟨Lc166, hQ166, l166, y166, z166⟩, st166⟩ := XL.virtualBack hx (y := (⟨"com/example/twistgauge/twistgauge/limitset/Parameter", "margin", "(DD)D"⟩ : MethodName)) (z := (⟨"com/example/twistgauge/twistgauge/limitset/Parameter", "margin", "(DD)D"⟩ : MethodName)) hown (mvT hZ (own_w hw 42 rfl)) (mvT hZ (own_w hw 43 rfl)) (notFace_of_selects (args := #[]) (mvT hZ (own_w hw 45 rfl))) (mvT hZ (own_w hw 45 rfl)) (mvT hZ (own_w hw 44 rfl)) (by decide) (backOf (W := 0) (rm_mg0 l Z a0 hw [] ap_NEXT u2 u3 dq0 p2 p3 h149 n0 O149 hu2 hu3 hdq0 (F_ap_NEXT_maximum.ext O149.2)) hZ (own_w hw 46 rfl) (own_w hw 3 rfl) (by decide) (by decide)) qa166 qc166 (g := (mkF m 241 #[.val (.int p1), .val (.int p2), .val (.int p3), .val (.ref b2), .val (.ref b95), .val (.int (2 : Int32)), .val (.double u2), .second, .val (.double u3), .second, .unset, .unset, .unset, .unset] [(.double u3), (.double u2), (.ref ap_NEXT)])) rfl (by rw [hml]; rfl) (Steps.refl _) (argsL := [(.double u2), (.double u3)]) (rest := []) (lenOf pd_law_0 rfl) rfl (by show 2 * 0 + _ ≤ _; exact Nat.le_of_eq rfl) (hb hby at_241) (fun _ _ => ⟨rfl, e149, (by decide : 2 + 0 ≤ _), (by decide : 36 + 0 ≤ _)⟩)
    dsimp only [Pt.U, Pt.locs, Pt.cells, Pt.slots] at X166 l166 y166 z166 st166 hQ166
    subst l166 y166 z166
    obtain ⟨rfl, N166q, e166⟩ := hQ166
    have N166 := Fr.app NL N166q
    have pre_167 : ∀ t, Sp p e below T166 (mkF m 244 #[.val (.int p1), .val (.int p2), .val (.int p3), .val (.ref b2), .val (.ref b95), .val (.int (2 : Int32)), .val (.double u2), .second, .val (.double u3), .second, .unset, .unset, .unset, .unset] [(.double dq0)]) t → Steps p.tables e below E0 t := fun t k => pre_165 t (st166.trans k)
    have pre_169 : ∀ t, Sp p e below T166 (mkF m 283 #[.val (.int p1), .val (.int p2), .val (.int p3), .val (.ref b2), .val (.ref b95), .val (.int (2 : Int32)), .val (.double u2), .second, .val (.double u3), .second, .val (.double dq0), .second, .val (.long ((p2).toInt64 - (p3).toInt64)), .second] [(.int (1 : Int32))]) t → Steps p.tables e below E0 t := by
      intro t k
      refine pre_167 t ?_
      show Sp p e below T166 (mkF m 244 #[.val (.int p1), .val (.int p2), .val (.int p3), .val (.ref b2), .val (.ref b95), .val (.int (2 : Int32)), .val (.double u2), .second, .val (.double u3), .second, .unset, .unset, .unset, .unset] [(.double dq0)]) _
      refine XD.dstore X166.here hx rfl (hb hby at_244) rfl (l' := #[.val (.int p1), .val (.int p2), .val (.int p3), .val (.ref b2), .val (.ref b95), .val (.int (2 : Int32)), .val (.double u2), .second, .val (.double u3), .second, .val (.double dq0), .second, .unset, .unset]) rfl ?_
      show Sp p e below T166 (mkF m 246 #[.val (.int p1), .val (.int p2), .val (.int p3), .val (.ref b2), .val (.ref b95), .val (.int (2 : Int32)), .val (.double u2), .second, .val (.double u3), .second, .val (.double dq0), .second, .unset, .unset] []) _
      refine XS.aload X166.here hx rfl (hb hby at_246) rfl rfl ?_
      refine XS.iload X166.here hx rfl (hb hby at_248) rfl ?_
      obtain ⟨cl168, Ar168, -, S168, -, H168, -⟩ := id VB
      have hin168 : ¬ ((2 : Int32) < 0 ∨ cl168.slots.size ≤ ((2 : Int32)).toNatClampNeg) := inb_of S168 (by decide)
      refine X166.baloadBooleans hx (j := (2 : Int32)) (v := (.int (0 : Int32))) (by rw [e166]; exact Ar168.1) (State.isArrayOf_alike hZ.alike Ar168.2.1) Ar168.2.2 hin168 (H168.at hin168 rfl) (g := (mkF m 250 #[.val (.int p1), .val (.int p2), .val (.int p3), .val (.ref b2), .val (.ref b95), .val (.int (2 : Int32)), .val (.double u2), .second, .val (.double u3), .second, .val (.double dq0), .second, .unset, .unset] [(.int (2 : Int32)), (.ref b95)])) rfl rfl (hb hby at_250) _ ?_
      refine XS.ifYes X166.here hx rfl (pc0 := 251) (pc' := 262) rfl (hb hby at_251) rfl (XT.i0_eq_t (by decide)) (by decide) (by decide) ?_
      show Sp p e below T166 (mkF m 262 #[.val (.int p1), .val (.int p2), .val (.int p3), .val (.ref b2), .val (.ref b95), .val (.int (2 : Int32)), .val (.double u2), .second, .val (.double u3), .second, .val (.double dq0), .second, .unset, .unset] []) _
      refine XS.iloadN X166.here hx rfl (hb hby at_262) rfl ?_
      refine XT.i2l X166.here hx rfl (hb hby at_263) rfl ?_
      refine XS.iloadN X166.here hx rfl (hb hby at_264) rfl ?_
      refine XT.i2l X166.here hx rfl (hb hby at_265) rfl ?_
      show Sp p e below T166 (mkF m 266 #[.val (.int p1), .val (.int p2), .val (.int p3), .val (.ref b2), .val (.ref b95), .val (.int (2 : Int32)), .val (.double u2), .second, .val (.double u3), .second, .val (.double dq0), .second, .unset, .unset] [(.long (p3).toInt64), (.long (p2).toInt64)]) _
      refine XT.lsub X166.here hx rfl (hb hby at_266) rfl ?_
      refine XT.lstore X166.here hx rfl (hb hby at_267) rfl (l' := #[.val (.int p1), .val (.int p2), .val (.int p3), .val (.ref b2), .val (.ref b95), .val (.int (2 : Int32)), .val (.double u2), .second, .val (.double u3), .second, .val (.double dq0), .second, .val (.long ((p2).toInt64 - (p3).toInt64)), .second]) rfl ?_
      refine XD.dload X166.here hx rfl (hb hby at_269) rfl ?_
      refine XT.lload X166.here hx rfl (hb hby at_271) rfl ?_
      show Sp p e below T166 (mkF m 273 #[.val (.int p1), .val (.int p2), .val (.int p3), .val (.ref b2), .val (.ref b95), .val (.int (2 : Int32)), .val (.double u2), .second, .val (.double u3), .second, .val (.double dq0), .second, .val (.long ((p2).toInt64 - (p3).toInt64)), .second] [(.long ((p2).toInt64 - (p3).toInt64)), (.double dq0)]) _
      refine XD.l2d X166.here hx rfl (hb hby at_273) rfl hdq0 ?_
      refine XD.dcmplSame X166.here hx rfl (hb hby at_274) rfl hdq0 ?_
      refine XS.ifNo X166.here hx rfl (hb hby at_275) rfl (XT.i0_ne_f (by decide)) ?_
      refine XS.iconst X166.here hx rfl (hb hby at_278) ?_
      show Sp p e below T166 (mkF m 279 #[.val (.int p1), .val (.int p2), .val (.int p3), .val (.ref b2), .val (.ref b95), .val (.int (2 : Int32)), .val (.double u2), .second, .val (.double u3), .second, .val (.double dq0), .second, .val (.long ((p2).toInt64 - (p3).toInt64)), .second] [(.int (1 : Int32))]) _
      refine XS.goto X166.here hx rfl (pc0 := 279) (pc' := 283) rfl (hb hby at_279) (by decide) (by decide) ?_
      exact k
    obtain ⟨fs, hr, hrun, hended, hW, hsame⟩ := X166.leave (v := some (.int (1 : Int32))) (fun h => by rw [Bd.returns] at h; cases h)
    refine ⟨_, _, pre_169 _ ?_, hrun, hended, _, _, rfl, ?_, ⟨_, rfl⟩, hW, hsame.mono (by decide) (by decide)⟩
    · show Sp p e below T166 (mkF m 283 #[.val (.int p1), .val (.int p2), .val (.int p3), .val (.ref b2), .val (.ref b95), .val (.int (2 : Int32)), .val (.double u2), .second, .val (.double u3), .second, .val (.double dq0), .second, .val (.long ((p2).toInt64 - (p3).toInt64)), .second] [(.int (1 : Int32))]) _
      exact retN X166 hx (t := .boolean) Bd.returns (by simp) (hb hby at_283) hr
    · show Q_law Z _ _ _ _ _ _ _ _ _ _ _ _ _ _ _ _ _ _ _ _ _ h0 n0 _ T166.heap _
      rw [e166]
      exact ⟨rfl, N166⟩
  · skip
    rw [hs] at pre_151
    have pre_171 : ∀ t, Sp p e below T149 (mkF m 241 #[.val (.int p1), .val (.int p2), .val (.int p3), .val (.ref b2), .val (.ref b95), .val (.int (3 : Int32)), .val (.double u2), .second, .val (.double u3), .second, .unset, .unset, .unset, .unset] [(.double u3), (.double u2), (.ref ap_PSNEXT)]) t → Steps p.tables e below E0 t := by
      intro t k
      refine pre_151 t ?_
      show Sp p e below T149 (mkF m 225 #[.val (.int p1), .val (.int p2), .val (.int p3), .val (.ref b2), .val (.ref b95), .val (.int (3 : Int32)), .unset, .unset, .unset, .unset, .unset, .unset, .unset, .unset] []) _
      refine XS.iloadN XL.here hx rfl (hb hby at_225) rfl ?_
      refine XD.i2d XL.here hx rfl (hb hby at_226) rfl hu2 ?_
      refine XD.dstore XL.here hx rfl (hb hby at_227) rfl (l' := #[.val (.int p1), .val (.int p2), .val (.int p3), .val (.ref b2), .val (.ref b95), .val (.int (3 : Int32)), .val (.double u2), .second, .unset, .unset, .unset, .unset, .unset, .unset]) rfl ?_
      refine XS.iloadN XL.here hx rfl (hb hby at_229) rfl ?_
      show Sp p e below T149 (mkF m 230 #[.val (.int p1), .val (.int p2), .val (.int p3), .val (.ref b2), .val (.ref b95), .val (.int (3 : Int32)), .val (.double u2), .second, .unset, .unset, .unset, .unset, .unset, .unset] [(.int p3)]) _
      refine XD.i2d XL.here hx rfl (hb hby at_230) rfl hu3 ?_
      refine XD.dstore XL.here hx rfl (hb hby at_231) rfl (l' := #[.val (.int p1), .val (.int p2), .val (.int p3), .val (.ref b2), .val (.ref b95), .val (.int (3 : Int32)), .val (.double u2), .second, .val (.double u3), .second, .unset, .unset, .unset, .unset]) rfl ?_
      refine XS.aloadN XL.here hx rfl (hb hby at_233) rfl rfl ?_
      refine XS.iload XL.here hx rfl (hb hby at_234) rfl ?_
      show Sp p e below T149 (mkF m 236 #[.val (.int p1), .val (.int p2), .val (.int p3), .val (.ref b2), .val (.ref b95), .val (.int (3 : Int32)), .val (.double u2), .second, .val (.double u3), .second, .unset, .unset, .unset, .unset] [(.int (3 : Int32)), (.ref b2)]) _
      obtain ⟨cl170, Ar170, -, S170, -, H170, -⟩ := id VA
      have hin170 : ¬ ((3 : Int32) < 0 ∨ cl170.slots.size ≤ ((3 : Int32)).toNatClampNeg) := inb_of S170 (by decide)
      refine XL.aaload hx (j := (3 : Int32)) (v := (.ref ap_PSNEXT)) (by rw [e149]; exact Ar170.1) (State.isArrayOf_alike hZ.alike Ar170.2.1) rfl Ar170.2.2 hin170 (H170.at hin170 rfl) (g := (mkF m 236 #[.val (.int p1), .val (.int p2), .val (.int p3), .val (.ref b2), .val (.ref b95), .val (.int (3 : Int32)), .val (.double u2), .second, .val (.double u3), .second, .unset, .unset, .unset, .unset] [(.int (3 : Int32)), (.ref b2)])) rfl rfl (hb hby at_236) _ ?_
      refine XD.dload XL.here hx rfl (hb hby at_237) rfl ?_
      refine XD.dload XL.here hx rfl (hb hby at_239) rfl ?_
      exact k
    obtain ⟨cq172, kq172, qa172, qb172, qc172⟩ := isOf hZ e149 (E_ap_PSNEXT.ext O149.2)
    obtain ⟨_, _, ⟨T172, L172, k172, n172⟩, -, X172, ⟨Lc172, hQ172, l172, y172, z172⟩, st172⟩ := XL.virtualBack hx (y := (⟨"com/example/twistgauge/twistgauge/limitset/Parameter", "margin", "(DD)D"⟩ : MethodName)) (z := (⟨"com/example/twistgauge/twistgauge/limitset/Parameter", "margin", "(DD)D"⟩ : MethodName)) hown (mvT hZ (own_w hw 42 rfl)) (mvT hZ (own_w hw 43 rfl)) (notFace_of_selects (args := #[]) (mvT hZ (own_w hw 45 rfl))) (mvT hZ (own_w hw 45 rfl)) (mvT hZ (own_w hw 44 rfl)) (by decide) (backOf (W := 0) (rm_mg0 l Z a0 hw [] ap_PSNEXT u2 u3 dq0 p2 p3 h149 n0 O149 hu2 hu3 hdq0 (F_ap_PSNEXT_maximum.ext O149.2)) hZ (own_w hw 46 rfl) (own_w hw 3 rfl) (by decide) (by decide)) qa172 qc172 (g := (mkF m 241 #[.val (.int p1), .val (.int p2), .val (.int p3), .val (.ref b2), .val (.ref b95), .val (.int (3 : Int32)), .val (.double u2), .second, .val (.double u3), .second, .unset, .unset, .unset, .unset] [(.double u3), (.double u2), (.ref ap_PSNEXT)])) rfl (by rw [hml]; rfl) (Steps.refl _) (argsL := [(.double u2), (.double u3)]) (rest := []) (lenOf pd_law_0 rfl) rfl (by show 2 * 0 + _ ≤ _; exact Nat.le_of_eq rfl) (hb hby at_241) (fun _ _ => ⟨rfl, e149, (by decide : 2 + 0 ≤ _), (by decide : 36 + 0 ≤ _)⟩)
    dsimp only [Pt.U, Pt.locs, Pt.cells, Pt.slots] at X172 l172 y172 z172 st172 hQ172
    subst l172 y172 z172
    obtain ⟨rfl, N172q, e172⟩ := hQ172
    have N172 := Fr.app NL N172q
    have pre_173 : ∀ t, Sp p e below T172 (mkF m 244 #[.val (.int p1), .val (.int p2), .val (.int p3), .val (.ref b2), .val (.ref b95), .val (.int (3 : Int32)), .val (.double u2), .second, .val (.double u3), .second, .unset, .unset, .unset, .unset] [(.double dq0)]) t → Steps p.tables e below E0 t := fun t k => pre_171 t (st172.trans k)
    have pre_175 : ∀ t, Sp p e below T172 (mkF m 283 #[.val (.int p1), .val (.int p2), .val (.int p3), .val (.ref b2), .val (.ref b95), .val (.int (3 : Int32)), .val (.double u2), .second, .val (.double u3), .second, .val (.double dq0), .second, .val (.long ((p2).toInt64 - (p3).toInt64)), .second] [(.int (1 : Int32))]) t → Steps p.tables e below E0 t := by
      intro t k
      refine pre_173 t ?_
      show Sp p e below T172 (mkF m 244 #[.val (.int p1), .val (.int p2), .val (.int p3), .val (.ref b2), .val (.ref b95), .val (.int (3 : Int32)), .val (.double u2), .second, .val (.double u3), .second, .unset, .unset, .unset, .unset] [(.double dq0)]) _
      refine XD.dstore X172.here hx rfl (hb hby at_244) rfl (l' := #[.val (.int p1), .val (.int p2), .val (.int p3), .val (.ref b2), .val (.ref b95), .val (.int (3 : Int32)), .val (.double u2), .second, .val (.double u3), .second, .val (.double dq0), .second, .unset, .unset]) rfl ?_
      show Sp p e below T172 (mkF m 246 #[.val (.int p1), .val (.int p2), .val (.int p3), .val (.ref b2), .val (.ref b95), .val (.int (3 : Int32)), .val (.double u2), .second, .val (.double u3), .second, .val (.double dq0), .second, .unset, .unset] []) _
      refine XS.aload X172.here hx rfl (hb hby at_246) rfl rfl ?_
      refine XS.iload X172.here hx rfl (hb hby at_248) rfl ?_
      obtain ⟨cl174, Ar174, -, S174, -, H174, -⟩ := id VB
      have hin174 : ¬ ((3 : Int32) < 0 ∨ cl174.slots.size ≤ ((3 : Int32)).toNatClampNeg) := inb_of S174 (by decide)
      refine X172.baloadBooleans hx (j := (3 : Int32)) (v := (.int (0 : Int32))) (by rw [e172]; exact Ar174.1) (State.isArrayOf_alike hZ.alike Ar174.2.1) Ar174.2.2 hin174 (H174.at hin174 rfl) (g := (mkF m 250 #[.val (.int p1), .val (.int p2), .val (.int p3), .val (.ref b2), .val (.ref b95), .val (.int (3 : Int32)), .val (.double u2), .second, .val (.double u3), .second, .val (.double dq0), .second, .unset, .unset] [(.int (3 : Int32)), (.ref b95)])) rfl rfl (hb hby at_250) _ ?_
      refine XS.ifYes X172.here hx rfl (pc0 := 251) (pc' := 262) rfl (hb hby at_251) rfl (XT.i0_eq_t (by decide)) (by decide) (by decide) ?_
      show Sp p e below T172 (mkF m 262 #[.val (.int p1), .val (.int p2), .val (.int p3), .val (.ref b2), .val (.ref b95), .val (.int (3 : Int32)), .val (.double u2), .second, .val (.double u3), .second, .val (.double dq0), .second, .unset, .unset] []) _
      refine XS.iloadN X172.here hx rfl (hb hby at_262) rfl ?_
      refine XT.i2l X172.here hx rfl (hb hby at_263) rfl ?_
      refine XS.iloadN X172.here hx rfl (hb hby at_264) rfl ?_
      refine XT.i2l X172.here hx rfl (hb hby at_265) rfl ?_
      show Sp p e below T172 (mkF m 266 #[.val (.int p1), .val (.int p2), .val (.int p3), .val (.ref b2), .val (.ref b95), .val (.int (3 : Int32)), .val (.double u2), .second, .val (.double u3), .second, .val (.double dq0), .second, .unset, .unset] [(.long (p3).toInt64), (.long (p2).toInt64)]) _
      refine XT.lsub X172.here hx rfl (hb hby at_266) rfl ?_
      refine XT.lstore X172.here hx rfl (hb hby at_267) rfl (l' := #[.val (.int p1), .val (.int p2), .val (.int p3), .val (.ref b2), .val (.ref b95), .val (.int (3 : Int32)), .val (.double u2), .second, .val (.double u3), .second, .val (.double dq0), .second, .val (.long ((p2).toInt64 - (p3).toInt64)), .second]) rfl ?_
      refine XD.dload X172.here hx rfl (hb hby at_269) rfl ?_
      refine XT.lload X172.here hx rfl (hb hby at_271) rfl ?_
      show Sp p e below T172 (mkF m 273 #[.val (.int p1), .val (.int p2), .val (.int p3), .val (.ref b2), .val (.ref b95), .val (.int (3 : Int32)), .val (.double u2), .second, .val (.double u3), .second, .val (.double dq0), .second, .val (.long ((p2).toInt64 - (p3).toInt64)), .second] [(.long ((p2).toInt64 - (p3).toInt64)), (.double dq0)]) _
      refine XD.l2d X172.here hx rfl (hb hby at_273) rfl hdq0 ?_
      refine XD.dcmplSame X172.here hx rfl (hb hby at_274) rfl hdq0 ?_
      refine XS.ifNo X172.here hx rfl (hb hby at_275) rfl (XT.i0_ne_f (by decide)) ?_
      refine XS.iconst X172.here hx rfl (hb hby at_278) ?_
      show Sp p e below T172 (mkF m 279 #[.val (.int p1), .val (.int p2), .val (.int p3), .val (.ref b2), .val (.ref b95), .val (.int (3 : Int32)), .val (.double u2), .second, .val (.double u3), .second, .val (.double dq0), .second, .val (.long ((p2).toInt64 - (p3).toInt64)), .second] [(.int (1 : Int32))]) _
      refine XS.goto X172.here hx rfl (pc0 := 279) (pc' := 283) rfl (hb hby at_279) (by decide) (by decide) ?_
      exact k
    obtain ⟨fs, hr, hrun, hended, hW, hsame⟩ := X172.leave (v := some (.int (1 : Int32))) (fun h => by rw [Bd.returns] at h; cases h)
    refine ⟨_, _, pre_175 _ ?_, hrun, hended, _, _, rfl, ?_, ⟨_, rfl⟩, hW, hsame.mono (by decide) (by decide)⟩
    · show Sp p e below T172 (mkF m 283 #[.val (.int p1), .val (.int p2), .val (.int p3), .val (.ref b2), .val (.ref b95), .val (.int (3 : Int32)), .val (.double u2), .second, .val (.double u3), .second, .val (.double dq0), .second, .val (.long ((p2).toInt64 - (p3).toInt64)), .second] [(.int (1 : Int32))]) _
      exact retN X172 hx (t := .boolean) Bd.returns (by simp) (hb hby at_283) hr
    · show Q_law Z _ _ _ _ _ _ _ _ _ _ _ _ _ _ _ _ _ _ _ _ _ h0 n0 _ T172.heap _
      rw [e172]
      exact ⟨rfl, N172⟩
  · skip
    rw [hs] at pre_151
    have pre_177 : ∀ t, Sp p e below T149 (mkF m 241 #[.val (.int p1), .val (.int p2), .val (.int p3), .val (.ref b2), .val (.ref b95), .val (.int (4 : Int32)), .val (.double u2), .second, .val (.double u3), .second, .unset, .unset, .unset, .unset] [(.double u3), (.double u2), (.ref ap_ACR)]) t → Steps p.tables e below E0 t := by
      intro t k
      refine pre_151 t ?_
      show Sp p e below T149 (mkF m 225 #[.val (.int p1), .val (.int p2), .val (.int p3), .val (.ref b2), .val (.ref b95), .val (.int (4 : Int32)), .unset, .unset, .unset, .unset, .unset, .unset, .unset, .unset] []) _
      refine XS.iloadN XL.here hx rfl (hb hby at_225) rfl ?_
      refine XD.i2d XL.here hx rfl (hb hby at_226) rfl hu2 ?_
      refine XD.dstore XL.here hx rfl (hb hby at_227) rfl (l' := #[.val (.int p1), .val (.int p2), .val (.int p3), .val (.ref b2), .val (.ref b95), .val (.int (4 : Int32)), .val (.double u2), .second, .unset, .unset, .unset, .unset, .unset, .unset]) rfl ?_
      refine XS.iloadN XL.here hx rfl (hb hby at_229) rfl ?_
      show Sp p e below T149 (mkF m 230 #[.val (.int p1), .val (.int p2), .val (.int p3), .val (.ref b2), .val (.ref b95), .val (.int (4 : Int32)), .val (.double u2), .second, .unset, .unset, .unset, .unset, .unset, .unset] [(.int p3)]) _
      refine XD.i2d XL.here hx rfl (hb hby at_230) rfl hu3 ?_
      refine XD.dstore XL.here hx rfl (hb hby at_231) rfl (l' := #[.val (.int p1), .val (.int p2), .val (.int p3), .val (.ref b2), .val (.ref b95), .val (.int (4 : Int32)), .val (.double u2), .second, .val (.double u3), .second, .unset, .unset, .unset, .unset]) rfl ?_
      refine XS.aloadN XL.here hx rfl (hb hby at_233) rfl rfl ?_
      refine XS.iload XL.here hx rfl (hb hby at_234) rfl ?_
      show Sp p e below T149 (mkF m 236 #[.val (.int p1), .val (.int p2), .val (.int p3), .val (.ref b2), .val (.ref b95), .val (.int (4 : Int32)), .val (.double u2), .second, .val (.double u3), .second, .unset, .unset, .unset, .unset] [(.int (4 : Int32)), (.ref b2)]) _
      obtain ⟨cl176, Ar176, -, S176, -, H176, -⟩ := id VA
      have hin176 : ¬ ((4 : Int32) < 0 ∨ cl176.slots.size ≤ ((4 : Int32)).toNatClampNeg) := inb_of S176 (by decide)
      refine XL.aaload hx (j := (4 : Int32)) (v := (.ref ap_ACR)) (by rw [e149]; exact Ar176.1) (State.isArrayOf_alike hZ.alike Ar176.2.1) rfl Ar176.2.2 hin176 (H176.at hin176 rfl) (g := (mkF m 236 #[.val (.int p1), .val (.int p2), .val (.int p3), .val (.ref b2), .val (.ref b95), .val (.int (4 : Int32)), .val (.double u2), .second, .val (.double u3), .second, .unset, .unset, .unset, .unset] [(.int (4 : Int32)), (.ref b2)])) rfl rfl (hb hby at_236) _ ?_
      refine XD.dload XL.here hx rfl (hb hby at_237) rfl ?_
      refine XD.dload XL.here hx rfl (hb hby at_239) rfl ?_
      exact k
    obtain ⟨cq178, kq178, qa178, qb178, qc178⟩ := isOf hZ e149 (E_ap_ACR.ext O149.2)
    obtain ⟨_, _, ⟨T178, L178, k178, n178⟩, -, X178, ⟨Lc178, hQ178, l178, y178, z178⟩, st178⟩ := XL.virtualBack hx (y := (⟨"com/example/twistgauge/twistgauge/limitset/Parameter", "margin", "(DD)D"⟩ : MethodName)) (z := (⟨"com/example/twistgauge/twistgauge/limitset/Parameter", "margin", "(DD)D"⟩ : MethodName)) hown (mvT hZ (own_w hw 42 rfl)) (mvT hZ (own_w hw 43 rfl)) (notFace_of_selects (args := #[]) (mvT hZ (own_w hw 45 rfl))) (mvT hZ (own_w hw 45 rfl)) (mvT hZ (own_w hw 44 rfl)) (by decide) (backOf (W := 0) (rm_mg0 l Z a0 hw [] ap_ACR u2 u3 dq0 p2 p3 h149 n0 O149 hu2 hu3 hdq0 (F_ap_ACR_maximum.ext O149.2)) hZ (own_w hw 46 rfl) (own_w hw 3 rfl) (by decide) (by decide)) qa178 qc178 (g := (mkF m 241 #[.val (.int p1), .val (.int p2), .val (.int p3), .val (.ref b2), .val (.ref b95), .val (.int (4 : Int32)), .val (.double u2), .second, .val (.double u3), .second, .unset, .unset, .unset, .unset] [(.double u3), (.double u2), (.ref ap_ACR)])) rfl (by rw [hml]; rfl) (Steps.refl _) (argsL := [(.double u2), (.double u3)]) (rest := []) (lenOf pd_law_0 rfl) rfl (by show 2 * 0 + _ ≤ _; exact Nat.le_of_eq rfl) (hb hby at_241) (fun _ _ => ⟨rfl, e149, (by decide : 2 + 0 ≤ _), (by decide : 36 + 0 ≤ _)⟩)
    dsimp only [Pt.U, Pt.locs, Pt.cells, Pt.slots] at X178 l178 y178 z178 st178 hQ178
    subst l178 y178 z178
    obtain ⟨rfl, N178q, e178⟩ := hQ178
    have N178 := Fr.app NL N178q
    have pre_179 : ∀ t, Sp p e below T178 (mkF m 244 #[.val (.int p1), .val (.int p2), .val (.int p3), .val (.ref b2), .val (.ref b95), .val (.int (4 : Int32)), .val (.double u2), .second, .val (.double u3), .second, .unset, .unset, .unset, .unset] [(.double dq0)]) t → Steps p.tables e below E0 t := fun t k => pre_177 t (st178.trans k)
    have pre_181 : ∀ t, Sp p e below T178 (mkF m 283 #[.val (.int p1), .val (.int p2), .val (.int p3), .val (.ref b2), .val (.ref b95), .val (.int (4 : Int32)), .val (.double u2), .second, .val (.double u3), .second, .val (.double dq0), .second, .val (.long ((p2).toInt64 - (p3).toInt64)), .second] [(.int (1 : Int32))]) t → Steps p.tables e below E0 t := by
      intro t k
      refine pre_179 t ?_
      show Sp p e below T178 (mkF m 244 #[.val (.int p1), .val (.int p2), .val (.int p3), .val (.ref b2), .val (.ref b95), .val (.int (4 : Int32)), .val (.double u2), .second, .val (.double u3), .second, .unset, .unset, .unset, .unset] [(.double dq0)]) _
      refine XD.dstore X178.here hx rfl (hb hby at_244) rfl (l' := #[.val (.int p1), .val (.int p2), .val (.int p3), .val (.ref b2), .val (.ref b95), .val (.int (4 : Int32)), .val (.double u2), .second, .val (.double u3), .second, .val (.double dq0), .second, .unset, .unset]) rfl ?_
      show Sp p e below T178 (mkF m 246 #[.val (.int p1), .val (.int p2), .val (.int p3), .val (.ref b2), .val (.ref b95), .val (.int (4 : Int32)), .val (.double u2), .second, .val (.double u3), .second, .val (.double dq0), .second, .unset, .unset] []) _
      refine XS.aload X178.here hx rfl (hb hby at_246) rfl rfl ?_
      refine XS.iload X178.here hx rfl (hb hby at_248) rfl ?_
      obtain ⟨cl180, Ar180, -, S180, -, H180, -⟩ := id VB
      have hin180 : ¬ ((4 : Int32) < 0 ∨ cl180.slots.size ≤ ((4 : Int32)).toNatClampNeg) := inb_of S180 (by decide)
      refine X178.baloadBooleans hx (j := (4 : Int32)) (v := (.int (0 : Int32))) (by rw [e178]; exact Ar180.1) (State.isArrayOf_alike hZ.alike Ar180.2.1) Ar180.2.2 hin180 (H180.at hin180 rfl) (g := (mkF m 250 #[.val (.int p1), .val (.int p2), .val (.int p3), .val (.ref b2), .val (.ref b95), .val (.int (4 : Int32)), .val (.double u2), .second, .val (.double u3), .second, .val (.double dq0), .second, .unset, .unset] [(.int (4 : Int32)), (.ref b95)])) rfl rfl (hb hby at_250) _ ?_
      refine XS.ifYes X178.here hx rfl (pc0 := 251) (pc' := 262) rfl (hb hby at_251) rfl (XT.i0_eq_t (by decide)) (by decide) (by decide) ?_
      show Sp p e below T178 (mkF m 262 #[.val (.int p1), .val (.int p2), .val (.int p3), .val (.ref b2), .val (.ref b95), .val (.int (4 : Int32)), .val (.double u2), .second, .val (.double u3), .second, .val (.double dq0), .second, .unset, .unset] []) _
      refine XS.iloadN X178.here hx rfl (hb hby at_262) rfl ?_
      refine XT.i2l X178.here hx rfl (hb hby at_263) rfl ?_
      refine XS.iloadN X178.here hx rfl (hb hby at_264) rfl ?_
      refine XT.i2l X178.here hx rfl (hb hby at_265) rfl ?_
      show Sp p e below T178 (mkF m 266 #[.val (.int p1), .val (.int p2), .val (.int p3), .val (.ref b2), .val (.ref b95), .val (.int (4 : Int32)), .val (.double u2), .second, .val (.double u3), .second, .val (.double dq0), .second, .unset, .unset] [(.long (p3).toInt64), (.long (p2).toInt64)]) _
      refine XT.lsub X178.here hx rfl (hb hby at_266) rfl ?_
      refine XT.lstore X178.here hx rfl (hb hby at_267) rfl (l' := #[.val (.int p1), .val (.int p2), .val (.int p3), .val (.ref b2), .val (.ref b95), .val (.int (4 : Int32)), .val (.double u2), .second, .val (.double u3), .second, .val (.double dq0), .second, .val (.long ((p2).toInt64 - (p3).toInt64)), .second]) rfl ?_
      refine XD.dload X178.here hx rfl (hb hby at_269) rfl ?_
      refine XT.lload X178.here hx rfl (hb hby at_271) rfl ?_
      show Sp p e below T178 (mkF m 273 #[.val (.int p1), .val (.int p2), .val (.int p3), .val (.ref b2), .val (.ref b95), .val (.int (4 : Int32)), .val (.double u2), .second, .val (.double u3), .second, .val (.double dq0), .second, .val (.long ((p2).toInt64 - (p3).toInt64)), .second] [(.long ((p2).toInt64 - (p3).toInt64)), (.double dq0)]) _
      refine XD.l2d X178.here hx rfl (hb hby at_273) rfl hdq0 ?_
      refine XD.dcmplSame X178.here hx rfl (hb hby at_274) rfl hdq0 ?_
      refine XS.ifNo X178.here hx rfl (hb hby at_275) rfl (XT.i0_ne_f (by decide)) ?_
      refine XS.iconst X178.here hx rfl (hb hby at_278) ?_
      show Sp p e below T178 (mkF m 279 #[.val (.int p1), .val (.int p2), .val (.int p3), .val (.ref b2), .val (.ref b95), .val (.int (4 : Int32)), .val (.double u2), .second, .val (.double u3), .second, .val (.double dq0), .second, .val (.long ((p2).toInt64 - (p3).toInt64)), .second] [(.int (1 : Int32))]) _
      refine XS.goto X178.here hx rfl (pc0 := 279) (pc' := 283) rfl (hb hby at_279) (by decide) (by decide) ?_
      exact k
    obtain ⟨fs, hr, hrun, hended, hW, hsame⟩ := X178.leave (v := some (.int (1 : Int32))) (fun h => by rw [Bd.returns] at h; cases h)
    refine ⟨_, _, pre_181 _ ?_, hrun, hended, _, _, rfl, ?_, ⟨_, rfl⟩, hW, hsame.mono (by decide) (by decide)⟩
    · show Sp p e below T178 (mkF m 283 #[.val (.int p1), .val (.int p2), .val (.int p3), .val (.ref b2), .val (.ref b95), .val (.int (4 : Int32)), .val (.double u2), .second, .val (.double u3), .second, .val (.double dq0), .second, .val (.long ((p2).toInt64 - (p3).toInt64)), .second] [(.int (1 : Int32))]) _
      exact retN X178 hx (t := .boolean) Bd.returns (by simp) (hb hby at_283) hr
    · show Q_law Z _ _ _ _ _ _ _ _ _ _ _ _ _ _ _ _ _ _ _ _ _ h0 n0 _ T178.heap _
      rw [e178]
      exact ⟨rfl, N178⟩
  · skip
    rw [hs] at pre_151
    have pre_183 : ∀ t, Sp p e below T149 (mkF m 241 #[.val (.int p1), .val (.int p2), .val (.int p3), .val (.ref b2), .val (.ref b95), .val (.int (5 : Int32)), .val (.double u2), .second, .val (.double u3), .second, .unset, .unset, .unset, .unset] [(.double u3), (.double u2), (.ref ap_PSACR)]) t → Steps p.tables e below E0 t := by
      intro t k
      refine pre_151 t ?_
      show Sp p e below T149 (mkF m 225 #[.val (.int p1), .val (.int p2), .val (.int p3), .val (.ref b2), .val (.ref b95), .val (.int (5 : Int32)), .unset, .unset, .unset, .unset, .unset, .unset, .unset, .unset] []) _
      refine XS.iloadN XL.here hx rfl (hb hby at_225) rfl ?_
      refine XD.i2d XL.here hx rfl (hb hby at_226) rfl hu2 ?_
      refine XD.dstore XL.here hx rfl (hb hby at_227) rfl (l' := #[.val (.int p1), .val (.int p2), .val (.int p3), .val (.ref b2), .val (.ref b95), .val (.int (5 : Int32)), .val (.double u2), .second, .unset, .unset, .unset, .unset, .unset, .unset]) rfl ?_
      refine XS.iloadN XL.here hx rfl (hb hby at_229) rfl ?_
      show Sp p e below T149 (mkF m 230 #[.val (.int p1), .val (.int p2), .val (.int p3), .val (.ref b2), .val (.ref b95), .val (.int (5 : Int32)), .val (.double u2), .second, .unset, .unset, .unset, .unset, .unset, .unset] [(.int p3)]) _
      refine XD.i2d XL.here hx rfl (hb hby at_230) rfl hu3 ?_
      refine XD.dstore XL.here hx rfl (hb hby at_231) rfl (l' := #[.val (.int p1), .val (.int p2), .val (.int p3), .val (.ref b2), .val (.ref b95), .val (.int (5 : Int32)), .val (.double u2), .second, .val (.double u3), .second, .unset, .unset, .unset, .unset]) rfl ?_
      refine XS.aloadN XL.here hx rfl (hb hby at_233) rfl rfl ?_
      refine XS.iload XL.here hx rfl (hb hby at_234) rfl ?_
      show Sp p e below T149 (mkF m 236 #[.val (.int p1), .val (.int p2), .val (.int p3), .val (.ref b2), .val (.ref b95), .val (.int (5 : Int32)), .val (.double u2), .second, .val (.double u3), .second, .unset, .unset, .unset, .unset] [(.int (5 : Int32)), (.ref b2)]) _
      obtain ⟨cl182, Ar182, -, S182, -, H182, -⟩ := id VA
      have hin182 : ¬ ((5 : Int32) < 0 ∨ cl182.slots.size ≤ ((5 : Int32)).toNatClampNeg) := inb_of S182 (by decide)
      refine XL.aaload hx (j := (5 : Int32)) (v := (.ref ap_PSACR)) (by rw [e149]; exact Ar182.1) (State.isArrayOf_alike hZ.alike Ar182.2.1) rfl Ar182.2.2 hin182 (H182.at hin182 rfl) (g := (mkF m 236 #[.val (.int p1), .val (.int p2), .val (.int p3), .val (.ref b2), .val (.ref b95), .val (.int (5 : Int32)), .val (.double u2), .second, .val (.double u3), .second, .unset, .unset, .unset, .unset] [(.int (5 : Int32)), (.ref b2)])) rfl rfl (hb hby at_236) _ ?_
      refine XD.dload XL.here hx rfl (hb hby at_237) rfl ?_
      refine XD.dload XL.here hx rfl (hb hby at_239) rfl ?_
      exact k
    obtain ⟨cq184, kq184, qa184, qb184, qc184⟩ := isOf hZ e149 (E_ap_PSACR.ext O149.2)
    obtain ⟨_, _, ⟨T184, L184, k184, n184⟩, -, X184, ⟨Lc184, hQ184, l184, y184, z184⟩, st184⟩ := XL.virtualBack hx (y := (⟨"com/example/twistgauge/twistgauge/limitset/Parameter", "margin", "(DD)D"⟩ : MethodName)) (z := (⟨"com/example/twistgauge/twistgauge/limitset/Parameter", "margin", "(DD)D"⟩ : MethodName)) hown (mvT hZ (own_w hw 42 rfl)) (mvT hZ (own_w hw 43 rfl)) (notFace_of_selects (args := #[]) (mvT hZ (own_w hw 45 rfl))) (mvT hZ (own_w hw 45 rfl)) (mvT hZ (own_w hw 44 rfl)) (by decide) (backOf (W := 0) (rm_mg0 l Z a0 hw [] ap_PSACR u2 u3 dq0 p2 p3 h149 n0 O149 hu2 hu3 hdq0 (F_ap_PSACR_maximum.ext O149.2)) hZ (own_w hw 46 rfl) (own_w hw 3 rfl) (by decide) (by decide)) qa184 qc184 (g := (mkF m 241 #[.val (.int p1), .val (.int p2), .val (.int p3), .val (.ref b2), .val (.ref b95), .val (.int (5 : Int32)), .val (.double u2), .second, .val (.double u3), .second, .unset, .unset, .unset, .unset] [(.double u3), (.double u2), (.ref ap_PSACR)])) rfl (by rw [hml]; rfl) (Steps.refl _) (argsL := [(.double u2), (.double u3)]) (rest := []) (lenOf pd_law_0 rfl) rfl (by show 2 * 0 + _ ≤ _; exact Nat.le_of_eq rfl) (hb hby at_241) (fun _ _ => ⟨rfl, e149, (by decide : 2 + 0 ≤ _), (by decide : 36 + 0 ≤ _)⟩)
    dsimp only [Pt.U, Pt.locs, Pt.cells, Pt.slots] at X184 l184 y184 z184 st184 hQ184
    subst l184 y184 z184
    obtain ⟨rfl, N184q, e184⟩ := hQ184
    have N184 := Fr.app NL N184q
    have pre_185 : ∀ t, Sp p e below T184 (mkF m 244 #[.val (.int p1), .val (.int p2), .val (.int p3), .val (.ref b2), .val (.ref b95), .val (.int (5 : Int32)), .val (.double u2), .second, .val (.double u3), .second, .unset, .unset, .unset, .unset] [(.double dq0)]) t → Steps p.tables e below E0 t := fun t k => pre_183 t (st184.trans k)
    have pre_187 : ∀ t, Sp p e below T184 (mkF m 283 #[.val (.int p1), .val (.int p2), .val (.int p3), .val (.ref b2), .val (.ref b95), .val (.int (5 : Int32)), .val (.double u2), .second, .val (.double u3), .second, .val (.double dq0), .second, .val (.long ((p2).toInt64 - (p3).toInt64)), .second] [(.int (1 : Int32))]) t → Steps p.tables e below E0 t := by
      intro t k
      refine pre_185 t ?_
      show Sp p e below T184 (mkF m 244 #[.val (.int p1), .val (.int p2), .val (.int p3), .val (.ref b2), .val (.ref b95), .val (.int (5 : Int32)), .val (.double u2), .second, .val (.double u3), .second, .unset, .unset, .unset, .unset] [(.double dq0)]) _
      refine XD.dstore X184.here hx rfl (hb hby at_244) rfl (l' := #[.val (.int p1), .val (.int p2), .val (.int p3), .val (.ref b2), .val (.ref b95), .val (.int (5 : Int32)), .val (.double u2), .second, .val (.double u3), .second, .val (.double dq0), .second, .unset, .unset]) rfl ?_
      show Sp p e below T184 (mkF m 246 #[.val (.int p1), .val (.int p2), .val (.int p3), .val (.ref b2), .val (.ref b95), .val (.int (5 : Int32)), .val (.double u2), .second, .val (.double u3), .second, .val (.double dq0), .second, .unset, .unset] []) _
      refine XS.aload X184.here hx rfl (hb hby at_246) rfl rfl ?_
      refine XS.iload X184.here hx rfl (hb hby at_248) rfl ?_
      obtain ⟨cl186, Ar186, -, S186, -, H186, -⟩ := id VB
      have hin186 : ¬ ((5 : Int32) < 0 ∨ cl186.slots.size ≤ ((5 : Int32)).toNatClampNeg) := inb_of S186 (by decide)
      refine X184.baloadBooleans hx (j := (5 : Int32)) (v := (.int (0 : Int32))) (by rw [e184]; exact Ar186.1) (State.isArrayOf_alike hZ.alike Ar186.2.1) Ar186.2.2 hin186 (H186.at hin186 rfl) (g := (mkF m 250 #[.val (.int p1), .val (.int p2), .val (.int p3), .val (.ref b2), .val (.ref b95), .val (.int (5 : Int32)), .val (.double u2), .second, .val (.double u3), .second, .val (.double dq0), .second, .unset, .unset] [(.int (5 : Int32)), (.ref b95)])) rfl rfl (hb hby at_250) _ ?_
      refine XS.ifYes X184.here hx rfl (pc0 := 251) (pc' := 262) rfl (hb hby at_251) rfl (XT.i0_eq_t (by decide)) (by decide) (by decide) ?_
      show Sp p e below T184 (mkF m 262 #[.val (.int p1), .val (.int p2), .val (.int p3), .val (.ref b2), .val (.ref b95), .val (.int (5 : Int32)), .val (.double u2), .second, .val (.double u3), .second, .val (.double dq0), .second, .unset, .unset] []) _
      refine XS.iloadN X184.here hx rfl (hb hby at_262) rfl ?_
      refine XT.i2l X184.here hx rfl (hb hby at_263) rfl ?_
      refine XS.iloadN X184.here hx rfl (hb hby at_264) rfl ?_
      refine XT.i2l X184.here hx rfl (hb hby at_265) rfl ?_
      show Sp p e below T184 (mkF m 266 #[.val (.int p1), .val (.int p2), .val (.int p3), .val (.ref b2), .val (.ref b95), .val (.int (5 : Int32)), .val (.double u2), .second, .val (.double u3), .second, .val (.double dq0), .second, .unset, .unset] [(.long (p3).toInt64), (.long (p2).toInt64)]) _
      refine XT.lsub X184.here hx rfl (hb hby at_266) rfl ?_
      refine XT.lstore X184.here hx rfl (hb hby at_267) rfl (l' := #[.val (.int p1), .val (.int p2), .val (.int p3), .val (.ref b2), .val (.ref b95), .val (.int (5 : Int32)), .val (.double u2), .second, .val (.double u3), .second, .val (.double dq0), .second, .val (.long ((p2).toInt64 - (p3).toInt64)), .second]) rfl ?_
      refine XD.dload X184.here hx rfl (hb hby at_269) rfl ?_
      refine XT.lload X184.here hx rfl (hb hby at_271) rfl ?_
      show Sp p e below T184 (mkF m 273 #[.val (.int p1), .val (.int p2), .val (.int p3), .val (.ref b2), .val (.ref b95), .val (.int (5 : Int32)), .val (.double u2), .second, .val (.double u3), .second, .val (.double dq0), .second, .val (.long ((p2).toInt64 - (p3).toInt64)), .second] [(.long ((p2).toInt64 - (p3).toInt64)), (.double dq0)]) _
      refine XD.l2d X184.here hx rfl (hb hby at_273) rfl hdq0 ?_
      refine XD.dcmplSame X184.here hx rfl (hb hby at_274) rfl hdq0 ?_
      refine XS.ifNo X184.here hx rfl (hb hby at_275) rfl (XT.i0_ne_f (by decide)) ?_
      refine XS.iconst X184.here hx rfl (hb hby at_278) ?_
      show Sp p e below T184 (mkF m 279 #[.val (.int p1), .val (.int p2), .val (.int p3), .val (.ref b2), .val (.ref b95), .val (.int (5 : Int32)), .val (.double u2), .second, .val (.double u3), .second, .val (.double dq0), .second, .val (.long ((p2).toInt64 - (p3).toInt64)), .second] [(.int (1 : Int32))]) _
      refine XS.goto X184.here hx rfl (pc0 := 279) (pc' := 283) rfl (hb hby at_279) (by decide) (by decide) ?_
      exact k
    obtain ⟨fs, hr, hrun, hended, hW, hsame⟩ := X184.leave (v := some (.int (1 : Int32))) (fun h => by rw [Bd.returns] at h; cases h)
    refine ⟨_, _, pre_187 _ ?_, hrun, hended, _, _, rfl, ?_, ⟨_, rfl⟩, hW, hsame.mono (by decide) (by decide)⟩
    · show Sp p e below T184 (mkF m 283 #[.val (.int p1), .val (.int p2), .val (.int p3), .val (.ref b2), .val (.ref b95), .val (.int (5 : Int32)), .val (.double u2), .second, .val (.double u3), .second, .val (.double dq0), .second, .val (.long ((p2).toInt64 - (p3).toInt64)), .second] [(.int (1 : Int32))]) _
      exact retN X184 hx (t := .boolean) Bd.returns (by simp) (hb hby at_283) hr
    · show Q_law Z _ _ _ _ _ _ _ _ _ _ _ _ _ _ _ _ _ _ _ _ _ h0 n0 _ T184.heap _
      rw [e184]
      exact ⟨rfl, N184⟩
  · skip
    rw [hs] at pre_151
    have pre_189 : ∀ t, Sp p e below T149 (mkF m 241 #[.val (.int p1), .val (.int p2), .val (.int p3), .val (.ref b2), .val (.ref b95), .val (.int (6 : Int32)), .val (.double u2), .second, .val (.double u3), .second, .unset, .unset, .unset, .unset] [(.double u3), (.double u2), (.ref ap_ELFEXT)]) t → Steps p.tables e below E0 t := by
      intro t k
      refine pre_151 t ?_
      show Sp p e below T149 (mkF m 225 #[.val (.int p1), .val (.int p2), .val (.int p3), .val (.ref b2), .val (.ref b95), .val (.int (6 : Int32)), .unset, .unset, .unset, .unset, .unset, .unset, .unset, .unset] []) _
      refine XS.iloadN XL.here hx rfl (hb hby at_225) rfl ?_
      refine XD.i2d XL.here hx rfl (hb hby at_226) rfl hu2 ?_
      refine XD.dstore XL.here hx rfl (hb hby at_227) rfl (l' := #[.val (.int p1), .val (.int p2), .val (.int p3), .val (.ref b2), .val (.ref b95), .val (.int (6 : Int32)), .val (.double u2), .second, .unset, .unset, .unset, .unset, .unset, .unset]) rfl ?_
      refine XS.iloadN XL.here hx rfl (hb hby at_229) rfl ?_
      show Sp p e below T149 (mkF m 230 #[.val (.int p1), .val (.int p2), .val (.int p3), .val (.ref b2), .val (.ref b95), .val (.int (6 : Int32)), .val (.double u2), .second, .unset, .unset, .unset, .unset, .unset, .unset] [(.int p3)]) _
      refine XD.i2d XL.here hx rfl (hb hby at_230) rfl hu3 ?_
      refine XD.dstore XL.here hx rfl (hb hby at_231) rfl (l' := #[.val (.int p1), .val (.int p2), .val (.int p3), .val (.ref b2), .val (.ref b95), .val (.int (6 : Int32)), .val (.double u2), .second, .val (.double u3), .second, .unset, .unset, .unset, .unset]) rfl ?_
      refine XS.aloadN XL.here hx rfl (hb hby at_233) rfl rfl ?_
      refine XS.iload XL.here hx rfl (hb hby at_234) rfl ?_
      show Sp p e below T149 (mkF m 236 #[.val (.int p1), .val (.int p2), .val (.int p3), .val (.ref b2), .val (.ref b95), .val (.int (6 : Int32)), .val (.double u2), .second, .val (.double u3), .second, .unset, .unset, .unset, .unset] [(.int (6 : Int32)), (.ref b2)]) _
      obtain ⟨cl188, Ar188, -, S188, -, H188, -⟩ := id VA
      have hin188 : ¬ ((6 : Int32) < 0 ∨ cl188.slots.size ≤ ((6 : Int32)).toNatClampNeg) := inb_of S188 (by decide)
      refine XL.aaload hx (j := (6 : Int32)) (v := (.ref ap_ELFEXT)) (by rw [e149]; exact Ar188.1) (State.isArrayOf_alike hZ.alike Ar188.2.1) rfl Ar188.2.2 hin188 (H188.at hin188 rfl) (g := (mkF m 236 #[.val (.int p1), .val (.int p2), .val (.int p3), .val (.ref b2), .val (.ref b95), .val (.int (6 : Int32)), .val (.double u2), .second, .val (.double u3), .second, .unset, .unset, .unset, .unset] [(.int (6 : Int32)), (.ref b2)])) rfl rfl (hb hby at_236) _ ?_
      refine XD.dload XL.here hx rfl (hb hby at_237) rfl ?_
      refine XD.dload XL.here hx rfl (hb hby at_239) rfl ?_
      exact k
    obtain ⟨cq190, kq190, qa190, qb190, qc190⟩ := isOf hZ e149 (E_ap_ELFEXT.ext O149.2)
    obtain ⟨_, _, ⟨T190, L190, k190, n190⟩, -, X190, ⟨Lc190, hQ190, l190, y190, z190⟩, st190⟩ := XL.virtualBack hx (y := (⟨"com/example/twistgauge/twistgauge/limitset/Parameter", "margin", "(DD)D"⟩ : MethodName)) (z := (⟨"com/example/twistgauge/twistgauge/limitset/Parameter", "margin", "(DD)D"⟩ : MethodName)) hown (mvT hZ (own_w hw 42 rfl)) (mvT hZ (own_w hw 43 rfl)) (notFace_of_selects (args := #[]) (mvT hZ (own_w hw 45 rfl))) (mvT hZ (own_w hw 45 rfl)) (mvT hZ (own_w hw 44 rfl)) (by decide) (backOf (W := 0) (rm_mg0 l Z a0 hw [] ap_ELFEXT u2 u3 dq0 p2 p3 h149 n0 O149 hu2 hu3 hdq0 (F_ap_ELFEXT_maximum.ext O149.2)) hZ (own_w hw 46 rfl) (own_w hw 3 rfl) (by decide) (by decide)) qa190 qc190 (g := (mkF m 241 #[.val (.int p1), .val (.int p2), .val (.int p3), .val (.ref b2), .val (.ref b95), .val (.int (6 : Int32)), .val (.double u2), .second, .val (.double u3), .second, .unset, .unset, .unset, .unset] [(.double u3), (.double u2), (.ref ap_ELFEXT)])) rfl (by rw [hml]; rfl) (Steps.refl _) (argsL := [(.double u2), (.double u3)]) (rest := []) (lenOf pd_law_0 rfl) rfl (by show 2 * 0 + _ ≤ _; exact Nat.le_of_eq rfl) (hb hby at_241) (fun _ _ => ⟨rfl, e149, (by decide : 2 + 0 ≤ _), (by decide : 36 + 0 ≤ _)⟩)
    dsimp only [Pt.U, Pt.locs, Pt.cells, Pt.slots] at X190 l190 y190 z190 st190 hQ190
    subst l190 y190 z190
    obtain ⟨rfl, N190q, e190⟩ := hQ190
    have N190 := Fr.app NL N190q
    have pre_191 : ∀ t, Sp p e below T190 (mkF m 244 #[.val (.int p1), .val (.int p2), .val (.int p3), .val (.ref b2), .val (.ref b95), .val (.int (6 : Int32)), .val (.double u2), .second, .val (.double u3), .second, .unset, .unset, .unset, .unset] [(.double dq0)]) t → Steps p.tables e below E0 t := fun t k => pre_189 t (st190.trans k)
    have pre_193 : ∀ t, Sp p e below T190 (mkF m 283 #[.val (.int p1), .val (.int p2), .val (.int p3), .val (.ref b2), .val (.ref b95), .val (.int (6 : Int32)), .val (.double u2), .second, .val (.double u3), .second, .val (.double dq0), .second, .val (.long ((p2).toInt64 - (p3).toInt64)), .second] [(.int (1 : Int32))]) t → Steps p.tables e below E0 t := by
      intro t k
      refine pre_191 t ?_
      show Sp p e below T190 (mkF m 244 #[.val (.int p1), .val (.int p2), .val (.int p3), .val (.ref b2), .val (.ref b95), .val (.int (6 : Int32)), .val (.double u2), .second, .val (.double u3), .second, .unset, .unset, .unset, .unset] [(.double dq0)]) _
      refine XD.dstore X190.here hx rfl (hb hby at_244) rfl (l' := #[.val (.int p1), .val (.int p2), .val (.int p3), .val (.ref b2), .val (.ref b95), .val (.int (6 : Int32)), .val (.double u2), .second, .val (.double u3), .second, .val (.double dq0), .second, .unset, .unset]) rfl ?_
      show Sp p e below T190 (mkF m 246 #[.val (.int p1), .val (.int p2), .val (.int p3), .val (.ref b2), .val (.ref b95), .val (.int (6 : Int32)), .val (.double u2), .second, .val (.double u3), .second, .val (.double dq0), .second, .unset, .unset] []) _
      refine XS.aload X190.here hx rfl (hb hby at_246) rfl rfl ?_
      refine XS.iload X190.here hx rfl (hb hby at_248) rfl ?_
      obtain ⟨cl192, Ar192, -, S192, -, H192, -⟩ := id VB
      have hin192 : ¬ ((6 : Int32) < 0 ∨ cl192.slots.size ≤ ((6 : Int32)).toNatClampNeg) := inb_of S192 (by decide)
      refine X190.baloadBooleans hx (j := (6 : Int32)) (v := (.int (0 : Int32))) (by rw [e190]; exact Ar192.1) (State.isArrayOf_alike hZ.alike Ar192.2.1) Ar192.2.2 hin192 (H192.at hin192 rfl) (g := (mkF m 250 #[.val (.int p1), .val (.int p2), .val (.int p3), .val (.ref b2), .val (.ref b95), .val (.int (6 : Int32)), .val (.double u2), .second, .val (.double u3), .second, .val (.double dq0), .second, .unset, .unset] [(.int (6 : Int32)), (.ref b95)])) rfl rfl (hb hby at_250) _ ?_
      refine XS.ifYes X190.here hx rfl (pc0 := 251) (pc' := 262) rfl (hb hby at_251) rfl (XT.i0_eq_t (by decide)) (by decide) (by decide) ?_
      show Sp p e below T190 (mkF m 262 #[.val (.int p1), .val (.int p2), .val (.int p3), .val (.ref b2), .val (.ref b95), .val (.int (6 : Int32)), .val (.double u2), .second, .val (.double u3), .second, .val (.double dq0), .second, .unset, .unset] []) _
      refine XS.iloadN X190.here hx rfl (hb hby at_262) rfl ?_
      refine XT.i2l X190.here hx rfl (hb hby at_263) rfl ?_
      refine XS.iloadN X190.here hx rfl (hb hby at_264) rfl ?_
      refine XT.i2l X190.here hx rfl (hb hby at_265) rfl ?_
      show Sp p e below T190 (mkF m 266 #[.val (.int p1), .val (.int p2), .val (.int p3), .val (.ref b2), .val (.ref b95), .val (.int (6 : Int32)), .val (.double u2), .second, .val (.double u3), .second, .val (.double dq0), .second, .unset, .unset] [(.long (p3).toInt64), (.long (p2).toInt64)]) _
      refine XT.lsub X190.here hx rfl (hb hby at_266) rfl ?_
      refine XT.lstore X190.here hx rfl (hb hby at_267) rfl (l' := #[.val (.int p1), .val (.int p2), .val (.int p3), .val (.ref b2), .val (.ref b95), .val (.int (6 : Int32)), .val (.double u2), .second, .val (.double u3), .second, .val (.double dq0), .second, .val (.long ((p2).toInt64 - (p3).toInt64)), .second]) rfl ?_
      refine XD.dload X190.here hx rfl (hb hby at_269) rfl ?_
      refine XT.lload X190.here hx rfl (hb hby at_271) rfl ?_
      show Sp p e below T190 (mkF m 273 #[.val (.int p1), .val (.int p2), .val (.int p3), .val (.ref b2), .val (.ref b95), .val (.int (6 : Int32)), .val (.double u2), .second, .val (.double u3), .second, .val (.double dq0), .second, .val (.long ((p2).toInt64 - (p3).toInt64)), .second] [(.long ((p2).toInt64 - (p3).toInt64)), (.double dq0)]) _
      refine XD.l2d X190.here hx rfl (hb hby at_273) rfl hdq0 ?_
      refine XD.dcmplSame X190.here hx rfl (hb hby at_274) rfl hdq0 ?_
      refine XS.ifNo X190.here hx rfl (hb hby at_275) rfl (XT.i0_ne_f (by decide)) ?_
      refine XS.iconst X190.here hx rfl (hb hby at_278) ?_
      show Sp p e below T190 (mkF m 279 #[.val (.int p1), .val (.int p2), .val (.int p3), .val (.ref b2), .val (.ref b95), .val (.int (6 : Int32)), .val (.double u2), .second, .val (.double u3), .second, .val (.double dq0), .second, .val (.long ((p2).toInt64 - (p3).toInt64)), .second] [(.int (1 : Int32))]) _
      refine XS.goto X190.here hx rfl (pc0 := 279) (pc' := 283) rfl (hb hby at_279) (by decide) (by decide) ?_
      exact k
    obtain ⟨fs, hr, hrun, hended, hW, hsame⟩ := X190.leave (v := some (.int (1 : Int32))) (fun h => by rw [Bd.returns] at h; cases h)
    refine ⟨_, _, pre_193 _ ?_, hrun, hended, _, _, rfl, ?_, ⟨_, rfl⟩, hW, hsame.mono (by decide) (by decide)⟩
    · show Sp p e below T190 (mkF m 283 #[.val (.int p1), .val (.int p2), .val (.int p3), .val (.ref b2), .val (.ref b95), .val (.int (6 : Int32)), .val (.double u2), .second, .val (.double u3), .second, .val (.double dq0), .second, .val (.long ((p2).toInt64 - (p3).toInt64)), .second] [(.int (1 : Int32))]) _
      exact retN X190 hx (t := .boolean) Bd.returns (by simp) (hb hby at_283) hr
    · show Q_law Z _ _ _ _ _ _ _ _ _ _ _ _ _ _ _ _ _ _ _ _ _ h0 n0 _ T190.heap _
      rw [e190]
      exact ⟨rfl, N190⟩
  · skip
    rw [hs] at pre_151
    have pre_195 : ∀ t, Sp p e below T149 (mkF m 241 #[.val (.int p1), .val (.int p2), .val (.int p3), .val (.ref b2), .val (.ref b95), .val (.int (7 : Int32)), .val (.double u2), .second, .val (.double u3), .second, .unset, .unset, .unset, .unset] [(.double u3), (.double u2), (.ref ap_PSELFEXT)]) t → Steps p.tables e below E0 t := by
      intro t k
      refine pre_151 t ?_
      show Sp p e below T149 (mkF m 225 #[.val (.int p1), .val (.int p2), .val (.int p3), .val (.ref b2), .val (.ref b95), .val (.int (7 : Int32)), .unset, .unset, .unset, .unset, .unset, .unset, .unset, .unset] []) _
      refine XS.iloadN XL.here hx rfl (hb hby at_225) rfl ?_
      refine XD.i2d XL.here hx rfl (hb hby at_226) rfl hu2 ?_
      refine XD.dstore XL.here hx rfl (hb hby at_227) rfl (l' := #[.val (.int p1), .val (.int p2), .val (.int p3), .val (.ref b2), .val (.ref b95), .val (.int (7 : Int32)), .val (.double u2), .second, .unset, .unset, .unset, .unset, .unset, .unset]) rfl ?_
      refine XS.iloadN XL.here hx rfl (hb hby at_229) rfl ?_
      show Sp p e below T149 (mkF m 230 #[.val (.int p1), .val (.int p2), .val (.int p3), .val (.ref b2), .val (.ref b95), .val (.int (7 : Int32)), .val (.double u2), .second, .unset, .unset, .unset, .unset, .unset, .unset] [(.int p3)]) _
      refine XD.i2d XL.here hx rfl (hb hby at_230) rfl hu3 ?_
      refine XD.dstore XL.here hx rfl (hb hby at_231) rfl (l' := #[.val (.int p1), .val (.int p2), .val (.int p3), .val (.ref b2), .val (.ref b95), .val (.int (7 : Int32)), .val (.double u2), .second, .val (.double u3), .second, .unset, .unset, .unset, .unset]) rfl ?_
      refine XS.aloadN XL.here hx rfl (hb hby at_233) rfl rfl ?_
      refine XS.iload XL.here hx rfl (hb hby at_234) rfl ?_
      show Sp p e below T149 (mkF m 236 #[.val (.int p1), .val (.int p2), .val (.int p3), .val (.ref b2), .val (.ref b95), .val (.int (7 : Int32)), .val (.double u2), .second, .val (.double u3), .second, .unset, .unset, .unset, .unset] [(.int (7 : Int32)), (.ref b2)]) _
      obtain ⟨cl194, Ar194, -, S194, -, H194, -⟩ := id VA
      have hin194 : ¬ ((7 : Int32) < 0 ∨ cl194.slots.size ≤ ((7 : Int32)).toNatClampNeg) := inb_of S194 (by decide)
      refine XL.aaload hx (j := (7 : Int32)) (v := (.ref ap_PSELFEXT)) (by rw [e149]; exact Ar194.1) (State.isArrayOf_alike hZ.alike Ar194.2.1) rfl Ar194.2.2 hin194 (H194.at hin194 rfl) (g := (mkF m 236 #[.val (.int p1), .val (.int p2), .val (.int p3), .val (.ref b2), .val (.ref b95), .val (.int (7 : Int32)), .val (.double u2), .second, .val (.double u3), .second, .unset, .unset, .unset, .unset] [(.int (7 : Int32)), (.ref b2)])) rfl rfl (hb hby at_236) _ ?_
      refine XD.dload XL.here hx rfl (hb hby at_237) rfl ?_
      refine XD.dload XL.here hx rfl (hb hby at_239) rfl ?_
      exact k
    obtain ⟨cq196, kq196, qa196, qb196, qc196⟩ := isOf hZ e149 (E_ap_PSELFEXT.ext O149.2)
    obtain ⟨_, _, ⟨T196, L196, k196, n196⟩, -, X196, ⟨Lc196, hQ196, l196, y196, z196⟩, st196⟩ := XL.virtualBack hx (y := (⟨"com/example/twistgauge/twistgauge/limitset/Parameter", "margin", "(DD)D"⟩ : MethodName)) (z := (⟨"com/example/twistgauge/twistgauge/limitset/Parameter", "margin", "(DD)D"⟩ : MethodName)) hown (mvT hZ (own_w hw 42 rfl)) (mvT hZ (own_w hw 43 rfl)) (notFace_of_selects (args := #[]) (mvT hZ (own_w hw 45 rfl))) (mvT hZ (own_w hw 45 rfl)) (mvT hZ (own_w hw 44 rfl)) (by decide) (backOf (W := 0) (rm_mg0 l Z a0 hw [] ap_PSELFEXT u2 u3 dq0 p2 p3 h149 n0 O149 hu2 hu3 hdq0 (F_ap_PSELFEXT_maximum.ext O149.2)) hZ (own_w hw 46 rfl) (own_w hw 3 rfl) (by decide) (by decide)) qa196 qc196 (g := (mkF m 241 #[.val (.int p1), .val (.int p2), .val (.int p3), .val (.ref b2), .val (.ref b95), .val (.int (7 : Int32)), .val (.double u2), .second, .val (.double u3), .second, .unset, .unset, .unset, .unset] [(.double u3), (.double u2), (.ref ap_PSELFEXT)])) rfl (by rw [hml]; rfl) (Steps.refl _) (argsL := [(.double u2), (.double u3)]) (rest := []) (lenOf pd_law_0 rfl) rfl (by show 2 * 0 + _ ≤ _; exact Nat.le_of_eq rfl) (hb hby at_241) (fun _ _ => ⟨rfl, e149, (by decide : 2 + 0 ≤ _), (by decide : 36 + 0 ≤ _)⟩)
    dsimp only [Pt.U, Pt.locs, Pt.cells, Pt.slots] at X196 l196 y196 z196 st196 hQ196
    subst l196 y196 z196
    obtain ⟨rfl, N196q, e196⟩ := hQ196
    have N196 := Fr.app NL N196q
    have pre_197 : ∀ t, Sp p e below T196 (mkF m 244 #[.val (.int p1), .val (.int p2), .val (.int p3), .val (.ref b2), .val (.ref b95), .val (.int (7 : Int32)), .val (.double u2), .second, .val (.double u3), .second, .unset, .unset, .unset, .unset] [(.double dq0)]) t → Steps p.tables e below E0 t := fun t k => pre_195 t (st196.trans k)
    have pre_199 : ∀ t, Sp p e below T196 (mkF m 283 #[.val (.int p1), .val (.int p2), .val (.int p3), .val (.ref b2), .val (.ref b95), .val (.int (7 : Int32)), .val (.double u2), .second, .val (.double u3), .second, .val (.double dq0), .second, .val (.long ((p2).toInt64 - (p3).toInt64)), .second] [(.int (1 : Int32))]) t → Steps p.tables e below E0 t := by
      intro t k
      refine pre_197 t ?_
      show Sp p e below T196 (mkF m 244 #[.val (.int p1), .val (.int p2), .val (.int p3), .val (.ref b2), .val (.ref b95), .val (.int (7 : Int32)), .val (.double u2), .second, .val (.double u3), .second, .unset, .unset, .unset, .unset] [(.double dq0)]) _
      refine XD.dstore X196.here hx rfl (hb hby at_244) rfl (l' := #[.val (.int p1), .val (.int p2), .val (.int p3), .val (.ref b2), .val (.ref b95), .val (.int (7 : Int32)), .val (.double u2), .second, .val (.double u3), .second, .val (.double dq0), .second, .unset, .unset]) rfl ?_
      show Sp p e below T196 (mkF m 246 #[.val (.int p1), .val (.int p2), .val (.int p3), .val (.ref b2), .val (.ref b95), .val (.int (7 : Int32)), .val (.double u2), .second, .val (.double u3), .second, .val (.double dq0), .second, .unset, .unset] []) _
      refine XS.aload X196.here hx rfl (hb hby at_246) rfl rfl ?_
      refine XS.iload X196.here hx rfl (hb hby at_248) rfl ?_
      obtain ⟨cl198, Ar198, -, S198, -, H198, -⟩ := id VB
      have hin198 : ¬ ((7 : Int32) < 0 ∨ cl198.slots.size ≤ ((7 : Int32)).toNatClampNeg) := inb_of S198 (by decide)
      refine X196.baloadBooleans hx (j := (7 : Int32)) (v := (.int (0 : Int32))) (by rw [e196]; exact Ar198.1) (State.isArrayOf_alike hZ.alike Ar198.2.1) Ar198.2.2 hin198 (H198.at hin198 rfl) (g := (mkF m 250 #[.val (.int p1), .val (.int p2), .val (.int p3), .val (.ref b2), .val (.ref b95), .val (.int (7 : Int32)), .val (.double u2), .second, .val (.double u3), .second, .val (.double dq0), .second, .unset, .unset] [(.int (7 : Int32)), (.ref b95)])) rfl rfl (hb hby at_250) _ ?_
      refine XS.ifYes X196.here hx rfl (pc0 := 251) (pc' := 262) rfl (hb hby at_251) rfl (XT.i0_eq_t (by decide)) (by decide) (by decide) ?_
      show Sp p e below T196 (mkF m 262 #[.val (.int p1), .val (.int p2), .val (.int p3), .val (.ref b2), .val (.ref b95), .val (.int (7 : Int32)), .val (.double u2), .second, .val (.double u3), .second, .val (.double dq0), .second, .unset, .unset] []) _
      refine XS.iloadN X196.here hx rfl (hb hby at_262) rfl ?_
      refine XT.i2l X196.here hx rfl (hb hby at_263) rfl ?_
      refine XS.iloadN X196.here hx rfl (hb hby at_264) rfl ?_
      refine XT.i2l X196.here hx rfl (hb hby at_265) rfl ?_
      show Sp p e below T196 (mkF m 266 #[.val (.int p1), .val (.int p2), .val (.int p3), .val (.ref b2), .val (.ref b95), .val (.int (7 : Int32)), .val (.double u2), .second, .val (.double u3), .second, .val (.double dq0), .second, .unset, .unset] [(.long (p3).toInt64), (.long (p2).toInt64)]) _
      refine XT.lsub X196.here hx rfl (hb hby at_266) rfl ?_
      refine XT.lstore X196.here hx rfl (hb hby at_267) rfl (l' := #[.val (.int p1), .val (.int p2), .val (.int p3), .val (.ref b2), .val (.ref b95), .val (.int (7 : Int32)), .val (.double u2), .second, .val (.double u3), .second, .val (.double dq0), .second, .val (.long ((p2).toInt64 - (p3).toInt64)), .second]) rfl ?_
      refine XD.dload X196.here hx rfl (hb hby at_269) rfl ?_
      refine XT.lload X196.here hx rfl (hb hby at_271) rfl ?_
      show Sp p e below T196 (mkF m 273 #[.val (.int p1), .val (.int p2), .val (.int p3), .val (.ref b2), .val (.ref b95), .val (.int (7 : Int32)), .val (.double u2), .second, .val (.double u3), .second, .val (.double dq0), .second, .val (.long ((p2).toInt64 - (p3).toInt64)), .second] [(.long ((p2).toInt64 - (p3).toInt64)), (.double dq0)]) _
      refine XD.l2d X196.here hx rfl (hb hby at_273) rfl hdq0 ?_
      refine XD.dcmplSame X196.here hx rfl (hb hby at_274) rfl hdq0 ?_
      refine XS.ifNo X196.here hx rfl (hb hby at_275) rfl (XT.i0_ne_f (by decide)) ?_
      refine XS.iconst X196.here hx rfl (hb hby at_278) ?_
      show Sp p e below T196 (mkF m 279 #[.val (.int p1), .val (.int p2), .val (.int p3), .val (.ref b2), .val (.ref b95), .val (.int (7 : Int32)), .val (.double u2), .second, .val (.double u3), .second, .val (.double dq0), .second, .val (.long ((p2).toInt64 - (p3).toInt64)), .second] [(.int (1 : Int32))]) _
      refine XS.goto X196.here hx rfl (pc0 := 279) (pc' := 283) rfl (hb hby at_279) (by decide) (by decide) ?_
      exact k
    obtain ⟨fs, hr, hrun, hended, hW, hsame⟩ := X196.leave (v := some (.int (1 : Int32))) (fun h => by rw [Bd.returns] at h; cases h)
    refine ⟨_, _, pre_199 _ ?_, hrun, hended, _, _, rfl, ?_, ⟨_, rfl⟩, hW, hsame.mono (by decide) (by decide)⟩
    · show Sp p e below T196 (mkF m 283 #[.val (.int p1), .val (.int p2), .val (.int p3), .val (.ref b2), .val (.ref b95), .val (.int (7 : Int32)), .val (.double u2), .second, .val (.double u3), .second, .val (.double dq0), .second, .val (.long ((p2).toInt64 - (p3).toInt64)), .second] [(.int (1 : Int32))]) _
      exact retN X196 hx (t := .boolean) Bd.returns (by simp) (hb hby at_283) hr
    · show Q_law Z _ _ _ _ _ _ _ _ _ _ _ _ _ _ _ _ _ _ _ _ _ h0 n0 _ T196.heap _
      rw [e196]
      exact ⟨rfl, N196⟩
  · skip
    rw [hs] at pre_151
    have pre_201 : ∀ t, Sp p e below T149 (mkF m 241 #[.val (.int p1), .val (.int p2), .val (.int p3), .val (.ref b2), .val (.ref b95), .val (.int (8 : Int32)), .val (.double u2), .second, .val (.double u3), .second, .unset, .unset, .unset, .unset] [(.double u3), (.double u2), (.ref ap_RETURN_LOSS)]) t → Steps p.tables e below E0 t := by
      intro t k
      refine pre_151 t ?_
      show Sp p e below T149 (mkF m 225 #[.val (.int p1), .val (.int p2), .val (.int p3), .val (.ref b2), .val (.ref b95), .val (.int (8 : Int32)), .unset, .unset, .unset, .unset, .unset, .unset, .unset, .unset] []) _
      refine XS.iloadN XL.here hx rfl (hb hby at_225) rfl ?_
      refine XD.i2d XL.here hx rfl (hb hby at_226) rfl hu2 ?_
      refine XD.dstore XL.here hx rfl (hb hby at_227) rfl (l' := #[.val (.int p1), .val (.int p2), .val (.int p3), .val (.ref b2), .val (.ref b95), .val (.int (8 : Int32)), .val (.double u2), .second, .unset, .unset, .unset, .unset, .unset, .unset]) rfl ?_
      refine XS.iloadN XL.here hx rfl (hb hby at_229) rfl ?_
      show Sp p e below T149 (mkF m 230 #[.val (.int p1), .val (.int p2), .val (.int p3), .val (.ref b2), .val (.ref b95), .val (.int (8 : Int32)), .val (.double u2), .second, .unset, .unset, .unset, .unset, .unset, .unset] [(.int p3)]) _
      refine XD.i2d XL.here hx rfl (hb hby at_230) rfl hu3 ?_
      refine XD.dstore XL.here hx rfl (hb hby at_231) rfl (l' := #[.val (.int p1), .val (.int p2), .val (.int p3), .val (.ref b2), .val (.ref b95), .val (.int (8 : Int32)), .val (.double u2), .second, .val (.double u3), .second, .unset, .unset, .unset, .unset]) rfl ?_
      refine XS.aloadN XL.here hx rfl (hb hby at_233) rfl rfl ?_
      refine XS.iload XL.here hx rfl (hb hby at_234) rfl ?_
      show Sp p e below T149 (mkF m 236 #[.val (.int p1), .val (.int p2), .val (.int p3), .val (.ref b2), .val (.ref b95), .val (.int (8 : Int32)), .val (.double u2), .second, .val (.double u3), .second, .unset, .unset, .unset, .unset] [(.int (8 : Int32)), (.ref b2)]) _
      obtain ⟨cl200, Ar200, -, S200, -, H200, -⟩ := id VA
      have hin200 : ¬ ((8 : Int32) < 0 ∨ cl200.slots.size ≤ ((8 : Int32)).toNatClampNeg) := inb_of S200 (by decide)
      refine XL.aaload hx (j := (8 : Int32)) (v := (.ref ap_RETURN_LOSS)) (by rw [e149]; exact Ar200.1) (State.isArrayOf_alike hZ.alike Ar200.2.1) rfl Ar200.2.2 hin200 (H200.at hin200 rfl) (g := (mkF m 236 #[.val (.int p1), .val (.int p2), .val (.int p3), .val (.ref b2), .val (.ref b95), .val (.int (8 : Int32)), .val (.double u2), .second, .val (.double u3), .second, .unset, .unset, .unset, .unset] [(.int (8 : Int32)), (.ref b2)])) rfl rfl (hb hby at_236) _ ?_
      refine XD.dload XL.here hx rfl (hb hby at_237) rfl ?_
      refine XD.dload XL.here hx rfl (hb hby at_239) rfl ?_
      exact k
    obtain ⟨cq202, kq202, qa202, qb202, qc202⟩ := isOf hZ e149 (E_ap_RETURN_LOSS.ext O149.2)
    obtain ⟨_, _, ⟨T202, L202, k202, n202⟩, -, X202, ⟨Lc202, hQ202, l202, y202, z202⟩, st202⟩ := XL.virtualBack hx (y := (⟨"com/example/twistgauge/twistgauge/limitset/Parameter", "margin", "(DD)D"⟩ : MethodName)) (z := (⟨"com/example/twistgauge/twistgauge/limitset/Parameter", "margin", "(DD)D"⟩ : MethodName)) hown (mvT hZ (own_w hw 42 rfl)) (mvT hZ (own_w hw 43 rfl)) (notFace_of_selects (args := #[]) (mvT hZ (own_w hw 45 rfl))) (mvT hZ (own_w hw 45 rfl)) (mvT hZ (own_w hw 44 rfl)) (by decide) (backOf (W := 0) (rm_mg0 l Z a0 hw [] ap_RETURN_LOSS u2 u3 dq0 p2 p3 h149 n0 O149 hu2 hu3 hdq0 (F_ap_RETURN_LOSS_maximum.ext O149.2)) hZ (own_w hw 46 rfl) (own_w hw 3 rfl) (by decide) (by decide)) qa202 qc202 (g := (mkF m 241 #[.val (.int p1), .val (.int p2), .val (.int p3), .val (.ref b2), .val (.ref b95), .val (.int (8 : Int32)), .val (.double u2), .second, .val (.double u3), .second, .unset, .unset, .unset, .unset] [(.double u3), (.double u2), (.ref ap_RETURN_LOSS)])) rfl (by rw [hml]; rfl) (Steps.refl _) (argsL := [(.double u2), (.double u3)]) (rest := []) (lenOf pd_law_0 rfl) rfl (by show 2 * 0 + _ ≤ _; exact Nat.le_of_eq rfl) (hb hby at_241) (fun _ _ => ⟨rfl, e149, (by decide : 2 + 0 ≤ _), (by decide : 36 + 0 ≤ _)⟩)
    dsimp only [Pt.U, Pt.locs, Pt.cells, Pt.slots] at X202 l202 y202 z202 st202 hQ202
    subst l202 y202 z202
    obtain ⟨rfl, N202q, e202⟩ := hQ202
    have N202 := Fr.app NL N202q
    have pre_203 : ∀ t, Sp p e below T202 (mkF m 244 #[.val (.int p1), .val (.int p2), .val (.int p3), .val (.ref b2), .val (.ref b95), .val (.int (8 : Int32)), .val (.double u2), .second, .val (.double u3), .second, .unset, .unset, .unset, .unset] [(.double dq0)]) t → Steps p.tables e below E0 t := fun t k => pre_201 t (st202.trans k)
    have pre_205 : ∀ t, Sp p e below T202 (mkF m 283 #[.val (.int p1), .val (.int p2), .val (.int p3), .val (.ref b2), .val (.ref b95), .val (.int (8 : Int32)), .val (.double u2), .second, .val (.double u3), .second, .val (.double dq0), .second, .val (.long ((p2).toInt64 - (p3).toInt64)), .second] [(.int (1 : Int32))]) t → Steps p.tables e below E0 t := by
      intro t k
      refine pre_203 t ?_
      show Sp p e below T202 (mkF m 244 #[.val (.int p1), .val (.int p2), .val (.int p3), .val (.ref b2), .val (.ref b95), .val (.int (8 : Int32)), .val (.double u2), .second, .val (.double u3), .second, .unset, .unset, .unset, .unset] [(.double dq0)]) _
      refine XD.dstore X202.here hx rfl (hb hby at_244) rfl (l' := #[.val (.int p1), .val (.int p2), .val (.int p3), .val (.ref b2), .val (.ref b95), .val (.int (8 : Int32)), .val (.double u2), .second, .val (.double u3), .second, .val (.double dq0), .second, .unset, .unset]) rfl ?_
      show Sp p e below T202 (mkF m 246 #[.val (.int p1), .val (.int p2), .val (.int p3), .val (.ref b2), .val (.ref b95), .val (.int (8 : Int32)), .val (.double u2), .second, .val (.double u3), .second, .val (.double dq0), .second, .unset, .unset] []) _
      refine XS.aload X202.here hx rfl (hb hby at_246) rfl rfl ?_
      refine XS.iload X202.here hx rfl (hb hby at_248) rfl ?_
      obtain ⟨cl204, Ar204, -, S204, -, H204, -⟩ := id VB
      have hin204 : ¬ ((8 : Int32) < 0 ∨ cl204.slots.size ≤ ((8 : Int32)).toNatClampNeg) := inb_of S204 (by decide)
      refine X202.baloadBooleans hx (j := (8 : Int32)) (v := (.int (0 : Int32))) (by rw [e202]; exact Ar204.1) (State.isArrayOf_alike hZ.alike Ar204.2.1) Ar204.2.2 hin204 (H204.at hin204 rfl) (g := (mkF m 250 #[.val (.int p1), .val (.int p2), .val (.int p3), .val (.ref b2), .val (.ref b95), .val (.int (8 : Int32)), .val (.double u2), .second, .val (.double u3), .second, .val (.double dq0), .second, .unset, .unset] [(.int (8 : Int32)), (.ref b95)])) rfl rfl (hb hby at_250) _ ?_
      refine XS.ifYes X202.here hx rfl (pc0 := 251) (pc' := 262) rfl (hb hby at_251) rfl (XT.i0_eq_t (by decide)) (by decide) (by decide) ?_
      show Sp p e below T202 (mkF m 262 #[.val (.int p1), .val (.int p2), .val (.int p3), .val (.ref b2), .val (.ref b95), .val (.int (8 : Int32)), .val (.double u2), .second, .val (.double u3), .second, .val (.double dq0), .second, .unset, .unset] []) _
      refine XS.iloadN X202.here hx rfl (hb hby at_262) rfl ?_
      refine XT.i2l X202.here hx rfl (hb hby at_263) rfl ?_
      refine XS.iloadN X202.here hx rfl (hb hby at_264) rfl ?_
      refine XT.i2l X202.here hx rfl (hb hby at_265) rfl ?_
      show Sp p e below T202 (mkF m 266 #[.val (.int p1), .val (.int p2), .val (.int p3), .val (.ref b2), .val (.ref b95), .val (.int (8 : Int32)), .val (.double u2), .second, .val (.double u3), .second, .val (.double dq0), .second, .unset, .unset] [(.long (p3).toInt64), (.long (p2).toInt64)]) _
      refine XT.lsub X202.here hx rfl (hb hby at_266) rfl ?_
      refine XT.lstore X202.here hx rfl (hb hby at_267) rfl (l' := #[.val (.int p1), .val (.int p2), .val (.int p3), .val (.ref b2), .val (.ref b95), .val (.int (8 : Int32)), .val (.double u2), .second, .val (.double u3), .second, .val (.double dq0), .second, .val (.long ((p2).toInt64 - (p3).toInt64)), .second]) rfl ?_
      refine XD.dload X202.here hx rfl (hb hby at_269) rfl ?_
      refine XT.lload X202.here hx rfl (hb hby at_271) rfl ?_
      show Sp p e below T202 (mkF m 273 #[.val (.int p1), .val (.int p2), .val (.int p3), .val (.ref b2), .val (.ref b95), .val (.int (8 : Int32)), .val (.double u2), .second, .val (.double u3), .second, .val (.double dq0), .second, .val (.long ((p2).toInt64 - (p3).toInt64)), .second] [(.long ((p2).toInt64 - (p3).toInt64)), (.double dq0)]) _
      refine XD.l2d X202.here hx rfl (hb hby at_273) rfl hdq0 ?_
      refine XD.dcmplSame X202.here hx rfl (hb hby at_274) rfl hdq0 ?_
      refine XS.ifNo X202.here hx rfl (hb hby at_275) rfl (XT.i0_ne_f (by decide)) ?_
      refine XS.iconst X202.here hx rfl (hb hby at_278) ?_
      show Sp p e below T202 (mkF m 279 #[.val (.int p1), .val (.int p2), .val (.int p3), .val (.ref b2), .val (.ref b95), .val (.int (8 : Int32)), .val (.double u2), .second, .val (.double u3), .second, .val (.double dq0), .second, .val (.long ((p2).toInt64 - (p3).toInt64)), .second] [(.int (1 : Int32))]) _
      refine XS.goto X202.here hx rfl (pc0 := 279) (pc' := 283) rfl (hb hby at_279) (by decide) (by decide) ?_
      exact k
    obtain ⟨fs, hr, hrun, hended, hW, hsame⟩ := X202.leave (v := some (.int (1 : Int32))) (fun h => by rw [Bd.returns] at h; cases h)
    refine ⟨_, _, pre_205 _ ?_, hrun, hended, _, _, rfl, ?_, ⟨_, rfl⟩, hW, hsame.mono (by decide) (by decide)⟩
    · show Sp p e below T202 (mkF m 283 #[.val (.int p1), .val (.int p2), .val (.int p3), .val (.ref b2), .val (.ref b95), .val (.int (8 : Int32)), .val (.double u2), .second, .val (.double u3), .second, .val (.double dq0), .second, .val (.long ((p2).toInt64 - (p3).toInt64)), .second] [(.int (1 : Int32))]) _
      exact retN X202 hx (t := .boolean) Bd.returns (by simp) (hb hby at_283) hr
    · show Q_law Z _ _ _ _ _ _ _ _ _ _ _ _ _ _ _ _ _ _ _ _ _ h0 n0 _ T202.heap _
      rw [e202]
      exact ⟨rfl, N202⟩
  · skip
    rw [hs] at pre_151
    have pre_207 : ∀ t, Sp p e below T149 (mkF m 241 #[.val (.int p1), .val (.int p2), .val (.int p3), .val (.ref b2), .val (.ref b95), .val (.int (9 : Int32)), .val (.double u2), .second, .val (.double u3), .second, .unset, .unset, .unset, .unset] [(.double u3), (.double u2), (.ref ap_PROPAGATION_DELAY)]) t → Steps p.tables e below E0 t := by
      intro t k
      refine pre_151 t ?_
      show Sp p e below T149 (mkF m 225 #[.val (.int p1), .val (.int p2), .val (.int p3), .val (.ref b2), .val (.ref b95), .val (.int (9 : Int32)), .unset, .unset, .unset, .unset, .unset, .unset, .unset, .unset] []) _
      refine XS.iloadN XL.here hx rfl (hb hby at_225) rfl ?_
      refine XD.i2d XL.here hx rfl (hb hby at_226) rfl hu2 ?_
      refine XD.dstore XL.here hx rfl (hb hby at_227) rfl (l' := #[.val (.int p1), .val (.int p2), .val (.int p3), .val (.ref b2), .val (.ref b95), .val (.int (9 : Int32)), .val (.double u2), .second, .unset, .unset, .unset, .unset, .unset, .unset]) rfl ?_
      refine XS.iloadN XL.here hx rfl (hb hby at_229) rfl ?_
      show Sp p e below T149 (mkF m 230 #[.val (.int p1), .val (.int p2), .val (.int p3), .val (.ref b2), .val (.ref b95), .val (.int (9 : Int32)), .val (.double u2), .second, .unset, .unset, .unset, .unset, .unset, .unset] [(.int p3)]) _
      refine XD.i2d XL.here hx rfl (hb hby at_230) rfl hu3 ?_
      refine XD.dstore XL.here hx rfl (hb hby at_231) rfl (l' := #[.val (.int p1), .val (.int p2), .val (.int p3), .val (.ref b2), .val (.ref b95), .val (.int (9 : Int32)), .val (.double u2), .second, .val (.double u3), .second, .unset, .unset, .unset, .unset]) rfl ?_
      refine XS.aloadN XL.here hx rfl (hb hby at_233) rfl rfl ?_
      refine XS.iload XL.here hx rfl (hb hby at_234) rfl ?_
      show Sp p e below T149 (mkF m 236 #[.val (.int p1), .val (.int p2), .val (.int p3), .val (.ref b2), .val (.ref b95), .val (.int (9 : Int32)), .val (.double u2), .second, .val (.double u3), .second, .unset, .unset, .unset, .unset] [(.int (9 : Int32)), (.ref b2)]) _
      obtain ⟨cl206, Ar206, -, S206, -, H206, -⟩ := id VA
      have hin206 : ¬ ((9 : Int32) < 0 ∨ cl206.slots.size ≤ ((9 : Int32)).toNatClampNeg) := inb_of S206 (by decide)
      refine XL.aaload hx (j := (9 : Int32)) (v := (.ref ap_PROPAGATION_DELAY)) (by rw [e149]; exact Ar206.1) (State.isArrayOf_alike hZ.alike Ar206.2.1) rfl Ar206.2.2 hin206 (H206.at hin206 rfl) (g := (mkF m 236 #[.val (.int p1), .val (.int p2), .val (.int p3), .val (.ref b2), .val (.ref b95), .val (.int (9 : Int32)), .val (.double u2), .second, .val (.double u3), .second, .unset, .unset, .unset, .unset] [(.int (9 : Int32)), (.ref b2)])) rfl rfl (hb hby at_236) _ ?_
      refine XD.dload XL.here hx rfl (hb hby at_237) rfl ?_
      refine XD.dload XL.here hx rfl (hb hby at_239) rfl ?_
      exact k
    obtain ⟨cq208, kq208, qa208, qb208, qc208⟩ := isOf hZ e149 (E_ap_PROPAGATION_DELAY.ext O149.2)
    obtain ⟨_, _, ⟨T208, L208, k208, n208⟩, -, X208, ⟨Lc208, hQ208, l208, y208, z208⟩, st208⟩ := XL.virtualBack hx (y := (⟨"com/example/twistgauge/twistgauge/limitset/Parameter", "margin", "(DD)D"⟩ : MethodName)) (z := (⟨"com/example/twistgauge/twistgauge/limitset/Parameter", "margin", "(DD)D"⟩ : MethodName)) hown (mvT hZ (own_w hw 42 rfl)) (mvT hZ (own_w hw 43 rfl)) (notFace_of_selects (args := #[]) (mvT hZ (own_w hw 45 rfl))) (mvT hZ (own_w hw 45 rfl)) (mvT hZ (own_w hw 44 rfl)) (by decide) (backOf (W := 0) (rm_mg1 l Z a0 hw [] ap_PROPAGATION_DELAY u2 u3 dq1 p2 p3 h149 n0 O149 hu2 hu3 hdq1 (F_ap_PROPAGATION_DELAY_maximum.ext O149.2)) hZ (own_w hw 46 rfl) (own_w hw 3 rfl) (by decide) (by decide)) qa208 qc208 (g := (mkF m 241 #[.val (.int p1), .val (.int p2), .val (.int p3), .val (.ref b2), .val (.ref b95), .val (.int (9 : Int32)), .val (.double u2), .second, .val (.double u3), .second, .unset, .unset, .unset, .unset] [(.double u3), (.double u2), (.ref ap_PROPAGATION_DELAY)])) rfl (by rw [hml]; rfl) (Steps.refl _) (argsL := [(.double u2), (.double u3)]) (rest := []) (lenOf pd_law_0 rfl) rfl (by show 2 * 0 + _ ≤ _; exact Nat.le_of_eq rfl) (hb hby at_241) (fun _ _ => ⟨rfl, e149, (by decide : 2 + 0 ≤ _), (by decide : 36 + 0 ≤ _)⟩)
    dsimp only [Pt.U, Pt.locs, Pt.cells, Pt.slots] at X208 l208 y208 z208 st208 hQ208
    subst l208 y208 z208
    obtain ⟨rfl, N208q, e208⟩ := hQ208
    have N208 := Fr.app NL N208q
    have pre_209 : ∀ t, Sp p e below T208 (mkF m 244 #[.val (.int p1), .val (.int p2), .val (.int p3), .val (.ref b2), .val (.ref b95), .val (.int (9 : Int32)), .val (.double u2), .second, .val (.double u3), .second, .unset, .unset, .unset, .unset] [(.double dq1)]) t → Steps p.tables e below E0 t := fun t k => pre_207 t (st208.trans k)
    have pre_211 : ∀ t, Sp p e below T208 (mkF m 283 #[.val (.int p1), .val (.int p2), .val (.int p3), .val (.ref b2), .val (.ref b95), .val (.int (9 : Int32)), .val (.double u2), .second, .val (.double u3), .second, .val (.double dq1), .second, .val (.long ((p3).toInt64 - (p2).toInt64)), .second] [(.int (1 : Int32))]) t → Steps p.tables e below E0 t := by
      intro t k
      refine pre_209 t ?_
      show Sp p e below T208 (mkF m 244 #[.val (.int p1), .val (.int p2), .val (.int p3), .val (.ref b2), .val (.ref b95), .val (.int (9 : Int32)), .val (.double u2), .second, .val (.double u3), .second, .unset, .unset, .unset, .unset] [(.double dq1)]) _
      refine XD.dstore X208.here hx rfl (hb hby at_244) rfl (l' := #[.val (.int p1), .val (.int p2), .val (.int p3), .val (.ref b2), .val (.ref b95), .val (.int (9 : Int32)), .val (.double u2), .second, .val (.double u3), .second, .val (.double dq1), .second, .unset, .unset]) rfl ?_
      show Sp p e below T208 (mkF m 246 #[.val (.int p1), .val (.int p2), .val (.int p3), .val (.ref b2), .val (.ref b95), .val (.int (9 : Int32)), .val (.double u2), .second, .val (.double u3), .second, .val (.double dq1), .second, .unset, .unset] []) _
      refine XS.aload X208.here hx rfl (hb hby at_246) rfl rfl ?_
      refine XS.iload X208.here hx rfl (hb hby at_248) rfl ?_
      obtain ⟨cl210, Ar210, -, S210, -, H210, -⟩ := id VB
      have hin210 : ¬ ((9 : Int32) < 0 ∨ cl210.slots.size ≤ ((9 : Int32)).toNatClampNeg) := inb_of S210 (by decide)
      refine X208.baloadBooleans hx (j := (9 : Int32)) (v := (.int (1 : Int32))) (by rw [e208]; exact Ar210.1) (State.isArrayOf_alike hZ.alike Ar210.2.1) Ar210.2.2 hin210 (H210.at hin210 rfl) (g := (mkF m 250 #[.val (.int p1), .val (.int p2), .val (.int p3), .val (.ref b2), .val (.ref b95), .val (.int (9 : Int32)), .val (.double u2), .second, .val (.double u3), .second, .val (.double dq1), .second, .unset, .unset] [(.int (9 : Int32)), (.ref b95)])) rfl rfl (hb hby at_250) _ ?_
      refine XS.ifNo X208.here hx rfl (hb hby at_251) rfl (XT.i0_eq_f (by decide)) ?_
      show Sp p e below T208 (mkF m 254 #[.val (.int p1), .val (.int p2), .val (.int p3), .val (.ref b2), .val (.ref b95), .val (.int (9 : Int32)), .val (.double u2), .second, .val (.double u3), .second, .val (.double dq1), .second, .unset, .unset] []) _
      refine XS.iloadN X208.here hx rfl (hb hby at_254) rfl ?_
      refine XT.i2l X208.here hx rfl (hb hby at_255) rfl ?_
      refine XS.iloadN X208.here hx rfl (hb hby at_256) rfl ?_
      refine XT.i2l X208.here hx rfl (hb hby at_257) rfl ?_
      show Sp p e below T208 (mkF m 258 #[.val (.int p1), .val (.int p2), .val (.int p3), .val (.ref b2), .val (.ref b95), .val (.int (9 : Int32)), .val (.double u2), .second, .val (.double u3), .second, .val (.double dq1), .second, .unset, .unset] [(.long (p2).toInt64), (.long (p3).toInt64)]) _
      refine XT.lsub X208.here hx rfl (hb hby at_258) rfl ?_
      refine XS.goto X208.here hx rfl (pc0 := 259) (pc' := 267) rfl (hb hby at_259) (by decide) (by decide) ?_
      refine XT.lstore X208.here hx rfl (hb hby at_267) rfl (l' := #[.val (.int p1), .val (.int p2), .val (.int p3), .val (.ref b2), .val (.ref b95), .val (.int (9 : Int32)), .val (.double u2), .second, .val (.double u3), .second, .val (.double dq1), .second, .val (.long ((p3).toInt64 - (p2).toInt64)), .second]) rfl ?_
      refine XD.dload X208.here hx rfl (hb hby at_269) rfl ?_
      show Sp p e below T208 (mkF m 271 #[.val (.int p1), .val (.int p2), .val (.int p3), .val (.ref b2), .val (.ref b95), .val (.int (9 : Int32)), .val (.double u2), .second, .val (.double u3), .second, .val (.double dq1), .second, .val (.long ((p3).toInt64 - (p2).toInt64)), .second] [(.double dq1)]) _
      refine XT.lload X208.here hx rfl (hb hby at_271) rfl ?_
      refine XD.l2d X208.here hx rfl (hb hby at_273) rfl hdq1 ?_
      refine XD.dcmplSame X208.here hx rfl (hb hby at_274) rfl hdq1 ?_
      refine XS.ifNo X208.here hx rfl (hb hby at_275) rfl (XT.i0_ne_f (by decide)) ?_
      show Sp p e below T208 (mkF m 278 #[.val (.int p1), .val (.int p2), .val (.int p3), .val (.ref b2), .val (.ref b95), .val (.int (9 : Int32)), .val (.double u2), .second, .val (.double u3), .second, .val (.double dq1), .second, .val (.long ((p3).toInt64 - (p2).toInt64)), .second] []) _
      refine XS.iconst X208.here hx rfl (hb hby at_278) ?_
      refine XS.goto X208.here hx rfl (pc0 := 279) (pc' := 283) rfl (hb hby at_279) (by decide) (by decide) ?_
      exact k
    obtain ⟨fs, hr, hrun, hended, hW, hsame⟩ := X208.leave (v := some (.int (1 : Int32))) (fun h => by rw [Bd.returns] at h; cases h)
    refine ⟨_, _, pre_211 _ ?_, hrun, hended, _, _, rfl, ?_, ⟨_, rfl⟩, hW, hsame.mono (by decide) (by decide)⟩
    · show Sp p e below T208 (mkF m 283 #[.val (.int p1), .val (.int p2), .val (.int p3), .val (.ref b2), .val (.ref b95), .val (.int (9 : Int32)), .val (.double u2), .second, .val (.double u3), .second, .val (.double dq1), .second, .val (.long ((p3).toInt64 - (p2).toInt64)), .second] [(.int (1 : Int32))]) _
      exact retN X208 hx (t := .boolean) Bd.returns (by simp) (hb hby at_283) hr
    · show Q_law Z _ _ _ _ _ _ _ _ _ _ _ _ _ _ _ _ _ _ _ _ _ h0 n0 _ T208.heap _
      rw [e208]
      exact ⟨rfl, N208⟩
  · skip
    rw [hs] at pre_151
    have pre_213 : ∀ t, Sp p e below T149 (mkF m 241 #[.val (.int p1), .val (.int p2), .val (.int p3), .val (.ref b2), .val (.ref b95), .val (.int (10 : Int32)), .val (.double u2), .second, .val (.double u3), .second, .unset, .unset, .unset, .unset] [(.double u3), (.double u2), (.ref ap_DELAY_SKEW)]) t → Steps p.tables e below E0 t := by
      intro t k
      refine pre_151 t ?_
      show Sp p e below T149 (mkF m 225 #[.val (.int p1), .val (.int p2), .val (.int p3), .val (.ref b2), .val (.ref b95), .val (.int (10 : Int32)), .unset, .unset, .unset, .unset, .unset, .unset, .unset, .unset] []) _
      refine XS.iloadN XL.here hx rfl (hb hby at_225) rfl ?_
      refine XD.i2d XL.here hx rfl (hb hby at_226) rfl hu2 ?_
      refine XD.dstore XL.here hx rfl (hb hby at_227) rfl (l' := #[.val (.int p1), .val (.int p2), .val (.int p3), .val (.ref b2), .val (.ref b95), .val (.int (10 : Int32)), .val (.double u2), .second, .unset, .unset, .unset, .unset, .unset, .unset]) rfl ?_
      refine XS.iloadN XL.here hx rfl (hb hby at_229) rfl ?_
      show Sp p e below T149 (mkF m 230 #[.val (.int p1), .val (.int p2), .val (.int p3), .val (.ref b2), .val (.ref b95), .val (.int (10 : Int32)), .val (.double u2), .second, .unset, .unset, .unset, .unset, .unset, .unset] [(.int p3)]) _
      refine XD.i2d XL.here hx rfl (hb hby at_230) rfl hu3 ?_
      refine XD.dstore XL.here hx rfl (hb hby at_231) rfl (l' := #[.val (.int p1), .val (.int p2), .val (.int p3), .val (.ref b2), .val (.ref b95), .val (.int (10 : Int32)), .val (.double u2), .second, .val (.double u3), .second, .unset, .unset, .unset, .unset]) rfl ?_
      refine XS.aloadN XL.here hx rfl (hb hby at_233) rfl rfl ?_
      refine XS.iload XL.here hx rfl (hb hby at_234) rfl ?_
      show Sp p e below T149 (mkF m 236 #[.val (.int p1), .val (.int p2), .val (.int p3), .val (.ref b2), .val (.ref b95), .val (.int (10 : Int32)), .val (.double u2), .second, .val (.double u3), .second, .unset, .unset, .unset, .unset] [(.int (10 : Int32)), (.ref b2)]) _
      obtain ⟨cl212, Ar212, -, S212, -, H212, -⟩ := id VA
      have hin212 : ¬ ((10 : Int32) < 0 ∨ cl212.slots.size ≤ ((10 : Int32)).toNatClampNeg) := inb_of S212 (by decide)
      refine XL.aaload hx (j := (10 : Int32)) (v := (.ref ap_DELAY_SKEW)) (by rw [e149]; exact Ar212.1) (State.isArrayOf_alike hZ.alike Ar212.2.1) rfl Ar212.2.2 hin212 (H212.at hin212 rfl) (g := (mkF m 236 #[.val (.int p1), .val (.int p2), .val (.int p3), .val (.ref b2), .val (.ref b95), .val (.int (10 : Int32)), .val (.double u2), .second, .val (.double u3), .second, .unset, .unset, .unset, .unset] [(.int (10 : Int32)), (.ref b2)])) rfl rfl (hb hby at_236) _ ?_
      refine XD.dload XL.here hx rfl (hb hby at_237) rfl ?_
      refine XD.dload XL.here hx rfl (hb hby at_239) rfl ?_
      exact k
    obtain ⟨cq214, kq214, qa214, qb214, qc214⟩ := isOf hZ e149 (E_ap_DELAY_SKEW.ext O149.2)
    obtain ⟨_, _, ⟨T214, L214, k214, n214⟩, -, X214, ⟨Lc214, hQ214, l214, y214, z214⟩, st214⟩ := XL.virtualBack hx (y := (⟨"com/example/twistgauge/twistgauge/limitset/Parameter", "margin", "(DD)D"⟩ : MethodName)) (z := (⟨"com/example/twistgauge/twistgauge/limitset/Parameter", "margin", "(DD)D"⟩ : MethodName)) hown (mvT hZ (own_w hw 42 rfl)) (mvT hZ (own_w hw 43 rfl)) (notFace_of_selects (args := #[]) (mvT hZ (own_w hw 45 rfl))) (mvT hZ (own_w hw 45 rfl)) (mvT hZ (own_w hw 44 rfl)) (by decide) (backOf (W := 0) (rm_mg1 l Z a0 hw [] ap_DELAY_SKEW u2 u3 dq1 p2 p3 h149 n0 O149 hu2 hu3 hdq1 (F_ap_DELAY_SKEW_maximum.ext O149.2)) hZ (own_w hw 46 rfl) (own_w hw 3 rfl) (by decide) (by decide)) qa214 qc214 (g := (mkF m 241 #[.val (.int p1), .val (.int p2), .val (.int p3), .val (.ref b2), .val (.ref b95), .val (.int (10 : Int32)), .val (.double u2), .second, .val (.double u3), .second, .unset, .unset, .unset, .unset] [(.double u3), (.double u2), (.ref ap_DELAY_SKEW)])) rfl (by rw [hml]; rfl) (Steps.refl _) (argsL := [(.double u2), (.double u3)]) (rest := []) (lenOf pd_law_0 rfl) rfl (by show 2 * 0 + _ ≤ _; exact Nat.le_of_eq rfl) (hb hby at_241) (fun _ _ => ⟨rfl, e149, (by decide : 2 + 0 ≤ _), (by decide : 36 + 0 ≤ _)⟩)
    dsimp only [Pt.U, Pt.locs, Pt.cells, Pt.slots] at X214 l214 y214 z214 st214 hQ214
    subst l214 y214 z214
    obtain ⟨rfl, N214q, e214⟩ := hQ214
    have N214 := Fr.app NL N214q
    have pre_215 : ∀ t, Sp p e below T214 (mkF m 244 #[.val (.int p1), .val (.int p2), .val (.int p3), .val (.ref b2), .val (.ref b95), .val (.int (10 : Int32)), .val (.double u2), .second, .val (.double u3), .second, .unset, .unset, .unset, .unset] [(.double dq1)]) t → Steps p.tables e below E0 t := fun t k => pre_213 t (st214.trans k)
    have pre_217 : ∀ t, Sp p e below T214 (mkF m 283 #[.val (.int p1), .val (.int p2), .val (.int p3), .val (.ref b2), .val (.ref b95), .val (.int (10 : Int32)), .val (.double u2), .second, .val (.double u3), .second, .val (.double dq1), .second, .val (.long ((p3).toInt64 - (p2).toInt64)), .second] [(.int (1 : Int32))]) t → Steps p.tables e below E0 t := by
      intro t k
      refine pre_215 t ?_
      show Sp p e below T214 (mkF m 244 #[.val (.int p1), .val (.int p2), .val (.int p3), .val (.ref b2), .val (.ref b95), .val (.int (10 : Int32)), .val (.double u2), .second, .val (.double u3), .second, .unset, .unset, .unset, .unset] [(.double dq1)]) _
      refine XD.dstore X214.here hx rfl (hb hby at_244) rfl (l' := #[.val (.int p1), .val (.int p2), .val (.int p3), .val (.ref b2), .val (.ref b95), .val (.int (10 : Int32)), .val (.double u2), .second, .val (.double u3), .second, .val (.double dq1), .second, .unset, .unset]) rfl ?_
      show Sp p e below T214 (mkF m 246 #[.val (.int p1), .val (.int p2), .val (.int p3), .val (.ref b2), .val (.ref b95), .val (.int (10 : Int32)), .val (.double u2), .second, .val (.double u3), .second, .val (.double dq1), .second, .unset, .unset] []) _
      refine XS.aload X214.here hx rfl (hb hby at_246) rfl rfl ?_
      refine XS.iload X214.here hx rfl (hb hby at_248) rfl ?_
      obtain ⟨cl216, Ar216, -, S216, -, H216, -⟩ := id VB
      have hin216 : ¬ ((10 : Int32) < 0 ∨ cl216.slots.size ≤ ((10 : Int32)).toNatClampNeg) := inb_of S216 (by decide)
      refine X214.baloadBooleans hx (j := (10 : Int32)) (v := (.int (1 : Int32))) (by rw [e214]; exact Ar216.1) (State.isArrayOf_alike hZ.alike Ar216.2.1) Ar216.2.2 hin216 (H216.at hin216 rfl) (g := (mkF m 250 #[.val (.int p1), .val (.int p2), .val (.int p3), .val (.ref b2), .val (.ref b95), .val (.int (10 : Int32)), .val (.double u2), .second, .val (.double u3), .second, .val (.double dq1), .second, .unset, .unset] [(.int (10 : Int32)), (.ref b95)])) rfl rfl (hb hby at_250) _ ?_
      refine XS.ifNo X214.here hx rfl (hb hby at_251) rfl (XT.i0_eq_f (by decide)) ?_
      show Sp p e below T214 (mkF m 254 #[.val (.int p1), .val (.int p2), .val (.int p3), .val (.ref b2), .val (.ref b95), .val (.int (10 : Int32)), .val (.double u2), .second, .val (.double u3), .second, .val (.double dq1), .second, .unset, .unset] []) _
      refine XS.iloadN X214.here hx rfl (hb hby at_254) rfl ?_
      refine XT.i2l X214.here hx rfl (hb hby at_255) rfl ?_
      refine XS.iloadN X214.here hx rfl (hb hby at_256) rfl ?_
      refine XT.i2l X214.here hx rfl (hb hby at_257) rfl ?_
      show Sp p e below T214 (mkF m 258 #[.val (.int p1), .val (.int p2), .val (.int p3), .val (.ref b2), .val (.ref b95), .val (.int (10 : Int32)), .val (.double u2), .second, .val (.double u3), .second, .val (.double dq1), .second, .unset, .unset] [(.long (p2).toInt64), (.long (p3).toInt64)]) _
      refine XT.lsub X214.here hx rfl (hb hby at_258) rfl ?_
      refine XS.goto X214.here hx rfl (pc0 := 259) (pc' := 267) rfl (hb hby at_259) (by decide) (by decide) ?_
      refine XT.lstore X214.here hx rfl (hb hby at_267) rfl (l' := #[.val (.int p1), .val (.int p2), .val (.int p3), .val (.ref b2), .val (.ref b95), .val (.int (10 : Int32)), .val (.double u2), .second, .val (.double u3), .second, .val (.double dq1), .second, .val (.long ((p3).toInt64 - (p2).toInt64)), .second]) rfl ?_
      refine XD.dload X214.here hx rfl (hb hby at_269) rfl ?_
      show Sp p e below T214 (mkF m 271 #[.val (.int p1), .val (.int p2), .val (.int p3), .val (.ref b2), .val (.ref b95), .val (.int (10 : Int32)), .val (.double u2), .second, .val (.double u3), .second, .val (.double dq1), .second, .val (.long ((p3).toInt64 - (p2).toInt64)), .second] [(.double dq1)]) _
      refine XT.lload X214.here hx rfl (hb hby at_271) rfl ?_
      refine XD.l2d X214.here hx rfl (hb hby at_273) rfl hdq1 ?_
      refine XD.dcmplSame X214.here hx rfl (hb hby at_274) rfl hdq1 ?_
      refine XS.ifNo X214.here hx rfl (hb hby at_275) rfl (XT.i0_ne_f (by decide)) ?_
      show Sp p e below T214 (mkF m 278 #[.val (.int p1), .val (.int p2), .val (.int p3), .val (.ref b2), .val (.ref b95), .val (.int (10 : Int32)), .val (.double u2), .second, .val (.double u3), .second, .val (.double dq1), .second, .val (.long ((p3).toInt64 - (p2).toInt64)), .second] []) _
      refine XS.iconst X214.here hx rfl (hb hby at_278) ?_
      refine XS.goto X214.here hx rfl (pc0 := 279) (pc' := 283) rfl (hb hby at_279) (by decide) (by decide) ?_
      exact k
    obtain ⟨fs, hr, hrun, hended, hW, hsame⟩ := X214.leave (v := some (.int (1 : Int32))) (fun h => by rw [Bd.returns] at h; cases h)
    refine ⟨_, _, pre_217 _ ?_, hrun, hended, _, _, rfl, ?_, ⟨_, rfl⟩, hW, hsame.mono (by decide) (by decide)⟩
    · show Sp p e below T214 (mkF m 283 #[.val (.int p1), .val (.int p2), .val (.int p3), .val (.ref b2), .val (.ref b95), .val (.int (10 : Int32)), .val (.double u2), .second, .val (.double u3), .second, .val (.double dq1), .second, .val (.long ((p3).toInt64 - (p2).toInt64)), .second] [(.int (1 : Int32))]) _
      exact retN X214 hx (t := .boolean) Bd.returns (by simp) (hb hby at_283) hr
    · show Q_law Z _ _ _ _ _ _ _ _ _ _ _ _ _ _ _ _ _ _ _ _ _ h0 n0 _ T214.heap _
      rw [e214]
      exact ⟨rfl, N214⟩
  · skip
    rw [hs] at pre_151
    have pre_219 : ∀ t, Sp p e below T149 (mkF m 241 #[.val (.int p1), .val (.int p2), .val (.int p3), .val (.ref b2), .val (.ref b95), .val (.int (11 : Int32)), .val (.double u2), .second, .val (.double u3), .second, .unset, .unset, .unset, .unset] [(.double u3), (.double u2), (.ref ap_RESISTANCE)]) t → Steps p.tables e below E0 t := by
      intro t k
      refine pre_151 t ?_
      show Sp p e below T149 (mkF m 225 #[.val (.int p1), .val (.int p2), .val (.int p3), .val (.ref b2), .val (.ref b95), .val (.int (11 : Int32)), .unset, .unset, .unset, .unset, .unset, .unset, .unset, .unset] []) _
      refine XS.iloadN XL.here hx rfl (hb hby at_225) rfl ?_
      refine XD.i2d XL.here hx rfl (hb hby at_226) rfl hu2 ?_
      refine XD.dstore XL.here hx rfl (hb hby at_227) rfl (l' := #[.val (.int p1), .val (.int p2), .val (.int p3), .val (.ref b2), .val (.ref b95), .val (.int (11 : Int32)), .val (.double u2), .second, .unset, .unset, .unset, .unset, .unset, .unset]) rfl ?_
      refine XS.iloadN XL.here hx rfl (hb hby at_229) rfl ?_
      show Sp p e below T149 (mkF m 230 #[.val (.int p1), .val (.int p2), .val (.int p3), .val (.ref b2), .val (.ref b95), .val (.int (11 : Int32)), .val (.double u2), .second, .unset, .unset, .unset, .unset, .unset, .unset] [(.int p3)]) _
      refine XD.i2d XL.here hx rfl (hb hby at_230) rfl hu3 ?_
      refine XD.dstore XL.here hx rfl (hb hby at_231) rfl (l' := #[.val (.int p1), .val (.int p2), .val (.int p3), .val (.ref b2), .val (.ref b95), .val (.int (11 : Int32)), .val (.double u2), .second, .val (.double u3), .second, .unset, .unset, .unset, .unset]) rfl ?_
      refine XS.aloadN XL.here hx rfl (hb hby at_233) rfl rfl ?_
      refine XS.iload XL.here hx rfl (hb hby at_234) rfl ?_
      show Sp p e below T149 (mkF m 236 #[.val (.int p1), .val (.int p2), .val (.int p3), .val (.ref b2), .val (.ref b95), .val (.int (11 : Int32)), .val (.double u2), .second, .val (.double u3), .second, .unset, .unset, .unset, .unset] [(.int (11 : Int32)), (.ref b2)]) _
      obtain ⟨cl218, Ar218, -, S218, -, H218, -⟩ := id VA
      have hin218 : ¬ ((11 : Int32) < 0 ∨ cl218.slots.size ≤ ((11 : Int32)).toNatClampNeg) := inb_of S218 (by decide)
      refine XL.aaload hx (j := (11 : Int32)) (v := (.ref ap_RESISTANCE)) (by rw [e149]; exact Ar218.1) (State.isArrayOf_alike hZ.alike Ar218.2.1) rfl Ar218.2.2 hin218 (H218.at hin218 rfl) (g := (mkF m 236 #[.val (.int p1), .val (.int p2), .val (.int p3), .val (.ref b2), .val (.ref b95), .val (.int (11 : Int32)), .val (.double u2), .second, .val (.double u3), .second, .unset, .unset, .unset, .unset] [(.int (11 : Int32)), (.ref b2)])) rfl rfl (hb hby at_236) _ ?_
      refine XD.dload XL.here hx rfl (hb hby at_237) rfl ?_
      refine XD.dload XL.here hx rfl (hb hby at_239) rfl ?_
      exact k
    obtain ⟨cq220, kq220, qa220, qb220, qc220⟩ := isOf hZ e149 (E_ap_RESISTANCE.ext O149.2)
    obtain ⟨_, _, ⟨T220, L220, k220, n220⟩, -, X220, ⟨Lc220, hQ220, l220, y220, z220⟩, st220⟩ := XL.virtualBack hx (y := (⟨"com/example/twistgauge/twistgauge/limitset/Parameter", "margin", "(DD)D"⟩ : MethodName)) (z := (⟨"com/example/twistgauge/twistgauge/limitset/Parameter", "margin", "(DD)D"⟩ : MethodName)) hown (mvT hZ (own_w hw 42 rfl)) (mvT hZ (own_w hw 43 rfl)) (notFace_of_selects (args := #[]) (mvT hZ (own_w hw 45 rfl))) (mvT hZ (own_w hw 45 rfl)) (mvT hZ (own_w hw 44 rfl)) (by decide) (backOf (W := 0) (rm_mg1 l Z a0 hw [] ap_RESISTANCE u2 u3 dq1 p2 p3 h149 n0 O149 hu2 hu3 hdq1 (F_ap_RESISTANCE_maximum.ext O149.2)) hZ (own_w hw 46 rfl) (own_w hw 3 rfl) (by decide) (by decide)) qa220 qc220 (g := (mkF m 241 #[.val (.int p1), .val (.int p2), .val (.int p3), .val (.ref b2), .val (.ref b95), .val (.int (11 : Int32)), .val (.double u2), .second, .val (.double u3), .second, .unset, .unset, .unset, .unset] [(.double u3), (.double u2), (.ref ap_RESISTANCE)])) rfl (by rw [hml]; rfl) (Steps.refl _) (argsL := [(.double u2), (.double u3)]) (rest := []) (lenOf pd_law_0 rfl) rfl (by show 2 * 0 + _ ≤ _; exact Nat.le_of_eq rfl) (hb hby at_241) (fun _ _ => ⟨rfl, e149, (by decide : 2 + 0 ≤ _), (by decide : 36 + 0 ≤ _)⟩)
    dsimp only [Pt.U, Pt.locs, Pt.cells, Pt.slots] at X220 l220 y220 z220 st220 hQ220
    subst l220 y220 z220
    obtain ⟨rfl, N220q, e220⟩ := hQ220
    have N220 := Fr.app NL N220q
    have pre_221 : ∀ t, Sp p e below T220 (mkF m 244 #[.val (.int p1), .val (.int p2), .val (.int p3), .val (.ref b2), .val (.ref b95), .val (.int (11 : Int32)), .val (.double u2), .second, .val (.double u3), .second, .unset, .unset, .unset, .unset] [(.double dq1)]) t → Steps p.tables e below E0 t := fun t k => pre_219 t (st220.trans k)
    have pre_223 : ∀ t, Sp p e below T220 (mkF m 283 #[.val (.int p1), .val (.int p2), .val (.int p3), .val (.ref b2), .val (.ref b95), .val (.int (11 : Int32)), .val (.double u2), .second, .val (.double u3), .second, .val (.double dq1), .second, .val (.long ((p3).toInt64 - (p2).toInt64)), .second] [(.int (1 : Int32))]) t → Steps p.tables e below E0 t := by
      intro t k
      refine pre_221 t ?_
      show Sp p e below T220 (mkF m 244 #[.val (.int p1), .val (.int p2), .val (.int p3), .val (.ref b2), .val (.ref b95), .val (.int (11 : Int32)), .val (.double u2), .second, .val (.double u3), .second, .unset, .unset, .unset, .unset] [(.double dq1)]) _
      refine XD.dstore X220.here hx rfl (hb hby at_244) rfl (l' := #[.val (.int p1), .val (.int p2), .val (.int p3), .val (.ref b2), .val (.ref b95), .val (.int (11 : Int32)), .val (.double u2), .second, .val (.double u3), .second, .val (.double dq1), .second, .unset, .unset]) rfl ?_
      show Sp p e below T220 (mkF m 246 #[.val (.int p1), .val (.int p2), .val (.int p3), .val (.ref b2), .val (.ref b95), .val (.int (11 : Int32)), .val (.double u2), .second, .val (.double u3), .second, .val (.double dq1), .second, .unset, .unset] []) _
      refine XS.aload X220.here hx rfl (hb hby at_246) rfl rfl ?_
      refine XS.iload X220.here hx rfl (hb hby at_248) rfl ?_
      obtain ⟨cl222, Ar222, -, S222, -, H222, -⟩ := id VB
      have hin222 : ¬ ((11 : Int32) < 0 ∨ cl222.slots.size ≤ ((11 : Int32)).toNatClampNeg) := inb_of S222 (by decide)
      refine X220.baloadBooleans hx (j := (11 : Int32)) (v := (.int (1 : Int32))) (by rw [e220]; exact Ar222.1) (State.isArrayOf_alike hZ.alike Ar222.2.1) Ar222.2.2 hin222 (H222.at hin222 rfl) (g := (mkF m 250 #[.val (.int p1), .val (.int p2), .val (.int p3), .val (.ref b2), .val (.ref b95), .val (.int (11 : Int32)), .val (.double u2), .second, .val (.double u3), .second, .val (.double dq1), .second, .unset, .unset] [(.int (11 : Int32)), (.ref b95)])) rfl rfl (hb hby at_250) _ ?_
      refine XS.ifNo X220.here hx rfl (hb hby at_251) rfl (XT.i0_eq_f (by decide)) ?_
      show Sp p e below T220 (mkF m 254 #[.val (.int p1), .val (.int p2), .val (.int p3), .val (.ref b2), .val (.ref b95), .val (.int (11 : Int32)), .val (.double u2), .second, .val (.double u3), .second, .val (.double dq1), .second, .unset, .unset] []) _
      refine XS.iloadN X220.here hx rfl (hb hby at_254) rfl ?_
      refine XT.i2l X220.here hx rfl (hb hby at_255) rfl ?_
      refine XS.iloadN X220.here hx rfl (hb hby at_256) rfl ?_
      refine XT.i2l X220.here hx rfl (hb hby at_257) rfl ?_
      show Sp p e below T220 (mkF m 258 #[.val (.int p1), .val (.int p2), .val (.int p3), .val (.ref b2), .val (.ref b95), .val (.int (11 : Int32)), .val (.double u2), .second, .val (.double u3), .second, .val (.double dq1), .second, .unset, .unset] [(.long (p2).toInt64), (.long (p3).toInt64)]) _
      refine XT.lsub X220.here hx rfl (hb hby at_258) rfl ?_
      refine XS.goto X220.here hx rfl (pc0 := 259) (pc' := 267) rfl (hb hby at_259) (by decide) (by decide) ?_
      refine XT.lstore X220.here hx rfl (hb hby at_267) rfl (l' := #[.val (.int p1), .val (.int p2), .val (.int p3), .val (.ref b2), .val (.ref b95), .val (.int (11 : Int32)), .val (.double u2), .second, .val (.double u3), .second, .val (.double dq1), .second, .val (.long ((p3).toInt64 - (p2).toInt64)), .second]) rfl ?_
      refine XD.dload X220.here hx rfl (hb hby at_269) rfl ?_
      show Sp p e below T220 (mkF m 271 #[.val (.int p1), .val (.int p2), .val (.int p3), .val (.ref b2), .val (.ref b95), .val (.int (11 : Int32)), .val (.double u2), .second, .val (.double u3), .second, .val (.double dq1), .second, .val (.long ((p3).toInt64 - (p2).toInt64)), .second] [(.double dq1)]) _
      refine XT.lload X220.here hx rfl (hb hby at_271) rfl ?_
      refine XD.l2d X220.here hx rfl (hb hby at_273) rfl hdq1 ?_
      refine XD.dcmplSame X220.here hx rfl (hb hby at_274) rfl hdq1 ?_
      refine XS.ifNo X220.here hx rfl (hb hby at_275) rfl (XT.i0_ne_f (by decide)) ?_
      show Sp p e below T220 (mkF m 278 #[.val (.int p1), .val (.int p2), .val (.int p3), .val (.ref b2), .val (.ref b95), .val (.int (11 : Int32)), .val (.double u2), .second, .val (.double u3), .second, .val (.double dq1), .second, .val (.long ((p3).toInt64 - (p2).toInt64)), .second] []) _
      refine XS.iconst X220.here hx rfl (hb hby at_278) ?_
      refine XS.goto X220.here hx rfl (pc0 := 279) (pc' := 283) rfl (hb hby at_279) (by decide) (by decide) ?_
      exact k
    obtain ⟨fs, hr, hrun, hended, hW, hsame⟩ := X220.leave (v := some (.int (1 : Int32))) (fun h => by rw [Bd.returns] at h; cases h)
    refine ⟨_, _, pre_223 _ ?_, hrun, hended, _, _, rfl, ?_, ⟨_, rfl⟩, hW, hsame.mono (by decide) (by decide)⟩
    · show Sp p e below T220 (mkF m 283 #[.val (.int p1), .val (.int p2), .val (.int p3), .val (.ref b2), .val (.ref b95), .val (.int (11 : Int32)), .val (.double u2), .second, .val (.double u3), .second, .val (.double dq1), .second, .val (.long ((p3).toInt64 - (p2).toInt64)), .second] [(.int (1 : Int32))]) _
      exact retN X220 hx (t := .boolean) Bd.returns (by simp) (hb hby at_283) hr
    · show Q_law Z _ _ _ _ _ _ _ _ _ _ _ _ _ _ _ _ _ _ _ _ _ h0 n0 _ T220.heap _
      rw [e220]
      exact ⟨rfl, N220⟩
  · skip
    rw [hs] at pre_151
    have pre_225 : ∀ t, Sp p e below T149 (mkF m 241 #[.val (.int p1), .val (.int p2), .val (.int p3), .val (.ref b2), .val (.ref b95), .val (.int (12 : Int32)), .val (.double u2), .second, .val (.double u3), .second, .unset, .unset, .unset, .unset] [(.double u3), (.double u2), (.ref ap_LOOP_RESISTANCE)]) t → Steps p.tables e below E0 t := by
      intro t k
      refine pre_151 t ?_
      show Sp p e below T149 (mkF m 225 #[.val (.int p1), .val (.int p2), .val (.int p3), .val (.ref b2), .val (.ref b95), .val (.int (12 : Int32)), .unset, .unset, .unset, .unset, .unset, .unset, .unset, .unset] []) _
      refine XS.iloadN XL.here hx rfl (hb hby at_225) rfl ?_
      refine XD.i2d XL.here hx rfl (hb hby at_226) rfl hu2 ?_
      refine XD.dstore XL.here hx rfl (hb hby at_227) rfl (l' := #[.val (.int p1), .val (.int p2), .val (.int p3), .val (.ref b2), .val (.ref b95), .val (.int (12 : Int32)), .val (.double u2), .second, .unset, .unset, .unset, .unset, .unset, .unset]) rfl ?_
      refine XS.iloadN XL.here hx rfl (hb hby at_229) rfl ?_
      show Sp p e below T149 (mkF m 230 #[.val (.int p1), .val (.int p2), .val (.int p3), .val (.ref b2), .val (.ref b95), .val (.int (12 : Int32)), .val (.double u2), .second, .unset, .unset, .unset, .unset, .unset, .unset] [(.int p3)]) _
      refine XD.i2d XL.here hx rfl (hb hby at_230) rfl hu3 ?_
      refine XD.dstore XL.here hx rfl (hb hby at_231) rfl (l' := #[.val (.int p1), .val (.int p2), .val (.int p3), .val (.ref b2), .val (.ref b95), .val (.int (12 : Int32)), .val (.double u2), .second, .val (.double u3), .second, .unset, .unset, .unset, .unset]) rfl ?_
      refine XS.aloadN XL.here hx rfl (hb hby at_233) rfl rfl ?_
      refine XS.iload XL.here hx rfl (hb hby at_234) rfl ?_
      show Sp p e below T149 (mkF m 236 #[.val (.int p1), .val (.int p2), .val (.int p3), .val (.ref b2), .val (.ref b95), .val (.int (12 : Int32)), .val (.double u2), .second, .val (.double u3), .second, .unset, .unset, .unset, .unset] [(.int (12 : Int32)), (.ref b2)]) _
      obtain ⟨cl224, Ar224, -, S224, -, H224, -⟩ := id VA
      have hin224 : ¬ ((12 : Int32) < 0 ∨ cl224.slots.size ≤ ((12 : Int32)).toNatClampNeg) := inb_of S224 (by decide)
      refine XL.aaload hx (j := (12 : Int32)) (v := (.ref ap_LOOP_RESISTANCE)) (by rw [e149]; exact Ar224.1) (State.isArrayOf_alike hZ.alike Ar224.2.1) rfl Ar224.2.2 hin224 (H224.at hin224 rfl) (g := (mkF m 236 #[.val (.int p1), .val (.int p2), .val (.int p3), .val (.ref b2), .val (.ref b95), .val (.int (12 : Int32)), .val (.double u2), .second, .val (.double u3), .second, .unset, .unset, .unset, .unset] [(.int (12 : Int32)), (.ref b2)])) rfl rfl (hb hby at_236) _ ?_
      refine XD.dload XL.here hx rfl (hb hby at_237) rfl ?_
      refine XD.dload XL.here hx rfl (hb hby at_239) rfl ?_
      exact k
    obtain ⟨cq226, kq226, qa226, qb226, qc226⟩ := isOf hZ e149 (E_ap_LOOP_RESISTANCE.ext O149.2)
    obtain ⟨_, _, ⟨T226, L226, k226, n226⟩, -, X226, ⟨Lc226, hQ226, l226, y226, z226⟩, st226⟩ := XL.virtualBack hx (y := (⟨"com/example/twistgauge/twistgauge/limitset/Parameter", "margin", "(DD)D"⟩ : MethodName)) (z := (⟨"com/example/twistgauge/twistgauge/limitset/Parameter", "margin", "(DD)D"⟩ : MethodName)) hown (mvT hZ (own_w hw 42 rfl)) (mvT hZ (own_w hw 43 rfl)) (notFace_of_selects (args := #[]) (mvT hZ (own_w hw 45 rfl))) (mvT hZ (own_w hw 45 rfl)) (mvT hZ (own_w hw 44 rfl)) (by decide) (backOf (W := 0) (rm_mg1 l Z a0 hw [] ap_LOOP_RESISTANCE u2 u3 dq1 p2 p3 h149 n0 O149 hu2 hu3 hdq1 (F_ap_LOOP_RESISTANCE_maximum.ext O149.2)) hZ (own_w hw 46 rfl) (own_w hw 3 rfl) (by decide) (by decide)) qa226 qc226 (g := (mkF m 241 #[.val (.int p1), .val (.int p2), .val (.int p3), .val (.ref b2), .val (.ref b95), .val (.int (12 : Int32)), .val (.double u2), .second, .val (.double u3), .second, .unset, .unset, .unset, .unset] [(.double u3), (.double u2), (.ref ap_LOOP_RESISTANCE)])) rfl (by rw [hml]; rfl) (Steps.refl _) (argsL := [(.double u2), (.double u3)]) (rest := []) (lenOf pd_law_0 rfl) rfl (by show 2 * 0 + _ ≤ _; exact Nat.le_of_eq rfl) (hb hby at_241) (fun _ _ => ⟨rfl, e149, (by decide : 2 + 0 ≤ _), (by decide : 36 + 0 ≤ _)⟩)
    dsimp only [Pt.U, Pt.locs, Pt.cells, Pt.slots] at X226 l226 y226 z226 st226 hQ226
    subst l226 y226 z226
    obtain ⟨rfl, N226q, e226⟩ := hQ226
    have N226 := Fr.app NL N226q
    have pre_227 : ∀ t, Sp p e below T226 (mkF m 244 #[.val (.int p1), .val (.int p2), .val (.int p3), .val (.ref b2), .val (.ref b95), .val (.int (12 : Int32)), .val (.double u2), .second, .val (.double u3), .second, .unset, .unset, .unset, .unset] [(.double dq1)]) t → Steps p.tables e below E0 t := fun t k => pre_225 t (st226.trans k)
    have pre_229 : ∀ t, Sp p e below T226 (mkF m 283 #[.val (.int p1), .val (.int p2), .val (.int p3), .val (.ref b2), .val (.ref b95), .val (.int (12 : Int32)), .val (.double u2), .second, .val (.double u3), .second, .val (.double dq1), .second, .val (.long ((p3).toInt64 - (p2).toInt64)), .second] [(.int (1 : Int32))]) t → Steps p.tables e below E0 t := by
      intro t k
      refine pre_227 t ?_
      show Sp p e below T226 (mkF m 244 #[.val (.int p1), .val (.int p2), .val (.int p3), .val (.ref b2), .val (.ref b95), .val (.int (12 : Int32)), .val (.double u2), .second, .val (.double u3), .second, .unset, .unset, .unset, .unset] [(.double dq1)]) _
      refine XD.dstore X226.here hx rfl (hb hby at_244) rfl (l' := #[.val (.int p1), .val (.int p2), .val (.int p3), .val (.ref b2), .val (.ref b95), .val (.int (12 : Int32)), .val (.double u2), .second, .val (.double u3), .second, .val (.double dq1), .second, .unset, .unset]) rfl ?_
      show Sp p e below T226 (mkF m 246 #[.val (.int p1), .val (.int p2), .val (.int p3), .val (.ref b2), .val (.ref b95), .val (.int (12 : Int32)), .val (.double u2), .second, .val (.double u3), .second, .val (.double dq1), .second, .unset, .unset] []) _
      refine XS.aload X226.here hx rfl (hb hby at_246) rfl rfl ?_
      refine XS.iload X226.here hx rfl (hb hby at_248) rfl ?_
      obtain ⟨cl228, Ar228, -, S228, -, H228, -⟩ := id VB
      have hin228 : ¬ ((12 : Int32) < 0 ∨ cl228.slots.size ≤ ((12 : Int32)).toNatClampNeg) := inb_of S228 (by decide)
      refine X226.baloadBooleans hx (j := (12 : Int32)) (v := (.int (1 : Int32))) (by rw [e226]; exact Ar228.1) (State.isArrayOf_alike hZ.alike Ar228.2.1) Ar228.2.2 hin228 (H228.at hin228 rfl) (g := (mkF m 250 #[.val (.int p1), .val (.int p2), .val (.int p3), .val (.ref b2), .val (.ref b95), .val (.int (12 : Int32)), .val (.double u2), .second, .val (.double u3), .second, .val (.double dq1), .second, .unset, .unset] [(.int (12 : Int32)), (.ref b95)])) rfl rfl (hb hby at_250) _ ?_
      refine XS.ifNo X226.here hx rfl (hb hby at_251) rfl (XT.i0_eq_f (by decide)) ?_
      show Sp p e below T226 (mkF m 254 #[.val (.int p1), .val (.int p2), .val (.int p3), .val (.ref b2), .val (.ref b95), .val (.int (12 : Int32)), .val (.double u2), .second, .val (.double u3), .second, .val (.double dq1), .second, .unset, .unset] []) _
      refine XS.iloadN X226.here hx rfl (hb hby at_254) rfl ?_
      refine XT.i2l X226.here hx rfl (hb hby at_255) rfl ?_
      refine XS.iloadN X226.here hx rfl (hb hby at_256) rfl ?_
      refine XT.i2l X226.here hx rfl (hb hby at_257) rfl ?_
      show Sp p e below T226 (mkF m 258 #[.val (.int p1), .val (.int p2), .val (.int p3), .val (.ref b2), .val (.ref b95), .val (.int (12 : Int32)), .val (.double u2), .second, .val (.double u3), .second, .val (.double dq1), .second, .unset, .unset] [(.long (p2).toInt64), (.long (p3).toInt64)]) _
      refine XT.lsub X226.here hx rfl (hb hby at_258) rfl ?_
      refine XS.goto X226.here hx rfl (pc0 := 259) (pc' := 267) rfl (hb hby at_259) (by decide) (by decide) ?_
      refine XT.lstore X226.here hx rfl (hb hby at_267) rfl (l' := #[.val (.int p1), .val (.int p2), .val (.int p3), .val (.ref b2), .val (.ref b95), .val (.int (12 : Int32)), .val (.double u2), .second, .val (.double u3), .second, .val (.double dq1), .second, .val (.long ((p3).toInt64 - (p2).toInt64)), .second]) rfl ?_
      refine XD.dload X226.here hx rfl (hb hby at_269) rfl ?_
      show Sp p e below T226 (mkF m 271 #[.val (.int p1), .val (.int p2), .val (.int p3), .val (.ref b2), .val (.ref b95), .val (.int (12 : Int32)), .val (.double u2), .second, .val (.double u3), .second, .val (.double dq1), .second, .val (.long ((p3).toInt64 - (p2).toInt64)), .second] [(.double dq1)]) _
      refine XT.lload X226.here hx rfl (hb hby at_271) rfl ?_
      refine XD.l2d X226.here hx rfl (hb hby at_273) rfl hdq1 ?_
      refine XD.dcmplSame X226.here hx rfl (hb hby at_274) rfl hdq1 ?_
      refine XS.ifNo X226.here hx rfl (hb hby at_275) rfl (XT.i0_ne_f (by decide)) ?_
      show Sp p e below T226 (mkF m 278 #[.val (.int p1), .val (.int p2), .val (.int p3), .val (.ref b2), .val (.ref b95), .val (.int (12 : Int32)), .val (.double u2), .second, .val (.double u3), .second, .val (.double dq1), .second, .val (.long ((p3).toInt64 - (p2).toInt64)), .second] []) _
      refine XS.iconst X226.here hx rfl (hb hby at_278) ?_
      refine XS.goto X226.here hx rfl (pc0 := 279) (pc' := 283) rfl (hb hby at_279) (by decide) (by decide) ?_
      exact k
    obtain ⟨fs, hr, hrun, hended, hW, hsame⟩ := X226.leave (v := some (.int (1 : Int32))) (fun h => by rw [Bd.returns] at h; cases h)
    refine ⟨_, _, pre_229 _ ?_, hrun, hended, _, _, rfl, ?_, ⟨_, rfl⟩, hW, hsame.mono (by decide) (by decide)⟩
    · show Sp p e below T226 (mkF m 283 #[.val (.int p1), .val (.int p2), .val (.int p3), .val (.ref b2), .val (.ref b95), .val (.int (12 : Int32)), .val (.double u2), .second, .val (.double u3), .second, .val (.double dq1), .second, .val (.long ((p3).toInt64 - (p2).toInt64)), .second] [(.int (1 : Int32))]) _
      exact retN X226 hx (t := .boolean) Bd.returns (by simp) (hb hby at_283) hr
    · show Q_law Z _ _ _ _ _ _ _ _ _ _ _ _ _ _ _ _ _ _ _ _ _ h0 n0 _ T226.heap _
      rw [e226]
      exact ⟨rfl, N226⟩
  · skip
    rw [hs] at pre_151
    have pre_231 : ∀ t, Sp p e below T149 (mkF m 241 #[.val (.int p1), .val (.int p2), .val (.int p3), .val (.ref b2), .val (.ref b95), .val (.int (13 : Int32)), .val (.double u2), .second, .val (.double u3), .second, .unset, .unset, .unset, .unset] [(.double u3), (.double u2), (.ref ap_RESISTANCE_UNBALANCE)]) t → Steps p.tables e below E0 t := by
      intro t k
      refine pre_151 t ?_
      show Sp p e below T149 (mkF m 225 #[.val (.int p1), .val (.int p2), .val (.int p3), .val (.ref b2), .val (.ref b95), .val (.int (13 : Int32)), .unset, .unset, .unset, .unset, .unset, .unset, .unset, .unset] []) _
      refine XS.iloadN XL.here hx rfl (hb hby at_225) rfl ?_
      refine XD.i2d XL.here hx rfl (hb hby at_226) rfl hu2 ?_
      refine XD.dstore XL.here hx rfl (hb hby at_227) rfl (l' := #[.val (.int p1), .val (.int p2), .val (.int p3), .val (.ref b2), .val (.ref b95), .val (.int (13 : Int32)), .val (.double u2), .second, .unset, .unset, .unset, .unset, .unset, .unset]) rfl ?_
      refine XS.iloadN XL.here hx rfl (hb hby at_229) rfl ?_
      show Sp p e below T149 (mkF m 230 #[.val (.int p1), .val (.int p2), .val (.int p3), .val (.ref b2), .val (.ref b95), .val (.int (13 : Int32)), .val (.double u2), .second, .unset, .unset, .unset, .unset, .unset, .unset] [(.int p3)]) _
      refine XD.i2d XL.here hx rfl (hb hby at_230) rfl hu3 ?_
      refine XD.dstore XL.here hx rfl (hb hby at_231) rfl (l' := #[.val (.int p1), .val (.int p2), .val (.int p3), .val (.ref b2), .val (.ref b95), .val (.int (13 : Int32)), .val (.double u2), .second, .val (.double u3), .second, .unset, .unset, .unset, .unset]) rfl ?_
      refine XS.aloadN XL.here hx rfl (hb hby at_233) rfl rfl ?_
      refine XS.iload XL.here hx rfl (hb hby at_234) rfl ?_
      show Sp p e below T149 (mkF m 236 #[.val (.int p1), .val (.int p2), .val (.int p3), .val (.ref b2), .val (.ref b95), .val (.int (13 : Int32)), .val (.double u2), .second, .val (.double u3), .second, .unset, .unset, .unset, .unset] [(.int (13 : Int32)), (.ref b2)]) _
      obtain ⟨cl230, Ar230, -, S230, -, H230, -⟩ := id VA
      have hin230 : ¬ ((13 : Int32) < 0 ∨ cl230.slots.size ≤ ((13 : Int32)).toNatClampNeg) := inb_of S230 (by decide)
      refine XL.aaload hx (j := (13 : Int32)) (v := (.ref ap_RESISTANCE_UNBALANCE)) (by rw [e149]; exact Ar230.1) (State.isArrayOf_alike hZ.alike Ar230.2.1) rfl Ar230.2.2 hin230 (H230.at hin230 rfl) (g := (mkF m 236 #[.val (.int p1), .val (.int p2), .val (.int p3), .val (.ref b2), .val (.ref b95), .val (.int (13 : Int32)), .val (.double u2), .second, .val (.double u3), .second, .unset, .unset, .unset, .unset] [(.int (13 : Int32)), (.ref b2)])) rfl rfl (hb hby at_236) _ ?_
      refine XD.dload XL.here hx rfl (hb hby at_237) rfl ?_
      refine XD.dload XL.here hx rfl (hb hby at_239) rfl ?_
      exact k
    obtain ⟨cq232, kq232, qa232, qb232, qc232⟩ := isOf hZ e149 (E_ap_RESISTANCE_UNBALANCE.ext O149.2)
    obtain ⟨_, _, ⟨T232, L232, k232, n232⟩, -, X232, ⟨Lc232, hQ232, l232, y232, z232⟩, st232⟩ := XL.virtualBack hx (y := (⟨"com/example/twistgauge/twistgauge/limitset/Parameter", "margin", "(DD)D"⟩ : MethodName)) (z := (⟨"com/example/twistgauge/twistgauge/limitset/Parameter", "margin", "(DD)D"⟩ : MethodName)) hown (mvT hZ (own_w hw 42 rfl)) (mvT hZ (own_w hw 43 rfl)) (notFace_of_selects (args := #[]) (mvT hZ (own_w hw 45 rfl))) (mvT hZ (own_w hw 45 rfl)) (mvT hZ (own_w hw 44 rfl)) (by decide) (backOf (W := 0) (rm_mg1 l Z a0 hw [] ap_RESISTANCE_UNBALANCE u2 u3 dq1 p2 p3 h149 n0 O149 hu2 hu3 hdq1 (F_ap_RESISTANCE_UNBALANCE_maximum.ext O149.2)) hZ (own_w hw 46 rfl) (own_w hw 3 rfl) (by decide) (by decide)) qa232 qc232 (g := (mkF m 241 #[.val (.int p1), .val (.int p2), .val (.int p3), .val (.ref b2), .val (.ref b95), .val (.int (13 : Int32)), .val (.double u2), .second, .val (.double u3), .second, .unset, .unset, .unset, .unset] [(.double u3), (.double u2), (.ref ap_RESISTANCE_UNBALANCE)])) rfl (by rw [hml]; rfl) (Steps.refl _) (argsL := [(.double u2), (.double u3)]) (rest := []) (lenOf pd_law_0 rfl) rfl (by show 2 * 0 + _ ≤ _; exact Nat.le_of_eq rfl) (hb hby at_241) (fun _ _ => ⟨rfl, e149, (by decide : 2 + 0 ≤ _), (by decide : 36 + 0 ≤ _)⟩)
    dsimp only [Pt.U, Pt.locs, Pt.cells, Pt.slots] at X232 l232 y232 z232 st232 hQ232
    subst l232 y232 z232
    obtain ⟨rfl, N232q, e232⟩ := hQ232
    have N232 := Fr.app NL N232q
    have pre_233 : ∀ t, Sp p e below T232 (mkF m 244 #[.val (.int p1), .val (.int p2), .val (.int p3), .val (.ref b2), .val (.ref b95), .val (.int (13 : Int32)), .val (.double u2), .second, .val (.double u3), .second, .unset, .unset, .unset, .unset] [(.double dq1)]) t → Steps p.tables e below E0 t := fun t k => pre_231 t (st232.trans k)
    have pre_235 : ∀ t, Sp p e below T232 (mkF m 283 #[.val (.int p1), .val (.int p2), .val (.int p3), .val (.ref b2), .val (.ref b95), .val (.int (13 : Int32)), .val (.double u2), .second, .val (.double u3), .second, .val (.double dq1), .second, .val (.long ((p3).toInt64 - (p2).toInt64)), .second] [(.int (1 : Int32))]) t → Steps p.tables e below E0 t := by
      intro t k
      refine pre_233 t ?_
      show Sp p e below T232 (mkF m 244 #[.val (.int p1), .val (.int p2), .val (.int p3), .val (.ref b2), .val (.ref b95), .val (.int (13 : Int32)), .val (.double u2), .second, .val (.double u3), .second, .unset, .unset, .unset, .unset] [(.double dq1)]) _
      refine XD.dstore X232.here hx rfl (hb hby at_244) rfl (l' := #[.val (.int p1), .val (.int p2), .val (.int p3), .val (.ref b2), .val (.ref b95), .val (.int (13 : Int32)), .val (.double u2), .second, .val (.double u3), .second, .val (.double dq1), .second, .unset, .unset]) rfl ?_
      show Sp p e below T232 (mkF m 246 #[.val (.int p1), .val (.int p2), .val (.int p3), .val (.ref b2), .val (.ref b95), .val (.int (13 : Int32)), .val (.double u2), .second, .val (.double u3), .second, .val (.double dq1), .second, .unset, .unset] []) _
      refine XS.aload X232.here hx rfl (hb hby at_246) rfl rfl ?_
      refine XS.iload X232.here hx rfl (hb hby at_248) rfl ?_
      obtain ⟨cl234, Ar234, -, S234, -, H234, -⟩ := id VB
      have hin234 : ¬ ((13 : Int32) < 0 ∨ cl234.slots.size ≤ ((13 : Int32)).toNatClampNeg) := inb_of S234 (by decide)
      refine X232.baloadBooleans hx (j := (13 : Int32)) (v := (.int (1 : Int32))) (by rw [e232]; exact Ar234.1) (State.isArrayOf_alike hZ.alike Ar234.2.1) Ar234.2.2 hin234 (H234.at hin234 rfl) (g := (mkF m 250 #[.val (.int p1), .val (.int p2), .val (.int p3), .val (.ref b2), .val (.ref b95), .val (.int (13 : Int32)), .val (.double u2), .second, .val (.double u3), .second, .val (.double dq1), .second, .unset, .unset] [(.int (13 : Int32)), (.ref b95)])) rfl rfl (hb hby at_250) _ ?_
      refine XS.ifNo X232.here hx rfl (hb hby at_251) rfl (XT.i0_eq_f (by decide)) ?_
      show Sp p e below T232 (mkF m 254 #[.val (.int p1), .val (.int p2), .val (.int p3), .val (.ref b2), .val (.ref b95), .val (.int (13 : Int32)), .val (.double u2), .second, .val (.double u3), .second, .val (.double dq1), .second, .unset, .unset] []) _
      refine XS.iloadN X232.here hx rfl (hb hby at_254) rfl ?_
      refine XT.i2l X232.here hx rfl (hb hby at_255) rfl ?_
      refine XS.iloadN X232.here hx rfl (hb hby at_256) rfl ?_
      refine XT.i2l X232.here hx rfl (hb hby at_257) rfl ?_
      show Sp p e below T232 (mkF m 258 #[.val (.int p1), .val (.int p2), .val (.int p3), .val (.ref b2), .val (.ref b95), .val (.int (13 : Int32)), .val (.double u2), .second, .val (.double u3), .second, .val (.double dq1), .second, .unset, .unset] [(.long (p2).toInt64), (.long (p3).toInt64)]) _
      refine XT.lsub X232.here hx rfl (hb hby at_258) rfl ?_
      refine XS.goto X232.here hx rfl (pc0 := 259) (pc' := 267) rfl (hb hby at_259) (by decide) (by decide) ?_
      refine XT.lstore X232.here hx rfl (hb hby at_267) rfl (l' := #[.val (.int p1), .val (.int p2), .val (.int p3), .val (.ref b2), .val (.ref b95), .val (.int (13 : Int32)), .val (.double u2), .second, .val (.double u3), .second, .val (.double dq1), .second, .val (.long ((p3).toInt64 - (p2).toInt64)), .second]) rfl ?_
      refine XD.dload X232.here hx rfl (hb hby at_269) rfl ?_
      show Sp p e below T232 (mkF m 271 #[.val (.int p1), .val (.int p2), .val (.int p3), .val (.ref b2), .val (.ref b95), .val (.int (13 : Int32)), .val (.double u2), .second, .val (.double u3), .second, .val (.double dq1), .second, .val (.long ((p3).toInt64 - (p2).toInt64)), .second] [(.double dq1)]) _
      refine XT.lload X232.here hx rfl (hb hby at_271) rfl ?_
      refine XD.l2d X232.here hx rfl (hb hby at_273) rfl hdq1 ?_
      refine XD.dcmplSame X232.here hx rfl (hb hby at_274) rfl hdq1 ?_
      refine XS.ifNo X232.here hx rfl (hb hby at_275) rfl (XT.i0_ne_f (by decide)) ?_
      show Sp p e below T232 (mkF m 278 #[.val (.int p1), .val (.int p2), .val (.int p3), .val (.ref b2), .val (.ref b95), .val (.int (13 : Int32)), .val (.double u2), .second, .val (.double u3), .second, .val (.double dq1), .second, .val (.long ((p3).toInt64 - (p2).toInt64)), .second] []) _
      refine XS.iconst X232.here hx rfl (hb hby at_278) ?_
      refine XS.goto X232.here hx rfl (pc0 := 279) (pc' := 283) rfl (hb hby at_279) (by decide) (by decide) ?_
      exact k
    obtain ⟨fs, hr, hrun, hended, hW, hsame⟩ := X232.leave (v := some (.int (1 : Int32))) (fun h => by rw [Bd.returns] at h; cases h)
    refine ⟨_, _, pre_235 _ ?_, hrun, hended, _, _, rfl, ?_, ⟨_, rfl⟩, hW, hsame.mono (by decide) (by decide)⟩
    · show Sp p e below T232 (mkF m 283 #[.val (.int p1), .val (.int p2), .val (.int p3), .val (.ref b2), .val (.ref b95), .val (.int (13 : Int32)), .val (.double u2), .second, .val (.double u3), .second, .val (.double dq1), .second, .val (.long ((p3).toInt64 - (p2).toInt64)), .second] [(.int (1 : Int32))]) _
      exact retN X232 hx (t := .boolean) Bd.returns (by simp) (hb hby at_283) hr
    · show Q_law Z _ _ _ _ _ _ _ _ _ _ _ _ _ _ _ _ _ _ _ _ _ h0 n0 _ T232.heap _
      rw [e232]
      exact ⟨rfl, N232⟩
  · skip
    rw [hs] at pre_151
    have pre_237 : ∀ t, Sp p e below T149 (mkF m 241 #[.val (.int p1), .val (.int p2), .val (.int p3), .val (.ref b2), .val (.ref b95), .val (.int (14 : Int32)), .val (.double u2), .second, .val (.double u3), .second, .unset, .unset, .unset, .unset] [(.double u3), (.double u2), (.ref ap_PAIR_RESISTANCE_UNBALANCE)]) t → Steps p.tables e below E0 t := by
      intro t k
      refine pre_151 t ?_
      show Sp p e below T149 (mkF m 225 #[.val (.int p1), .val (.int p2), .val (.int p3), .val (.ref b2), .val (.ref b95), .val (.int (14 : Int32)), .unset, .unset, .unset, .unset, .unset, .unset, .unset, .unset] []) _
      refine XS.iloadN XL.here hx rfl (hb hby at_225) rfl ?_
      refine XD.i2d XL.here hx rfl (hb hby at_226) rfl hu2 ?_
      refine XD.dstore XL.here hx rfl (hb hby at_227) rfl (l' := #[.val (.int p1), .val (.int p2), .val (.int p3), .val (.ref b2), .val (.ref b95), .val (.int (14 : Int32)), .val (.double u2), .second, .unset, .unset, .unset, .unset, .unset, .unset]) rfl ?_
      refine XS.iloadN XL.here hx rfl (hb hby at_229) rfl ?_
      show Sp p e below T149 (mkF m 230 #[.val (.int p1), .val (.int p2), .val (.int p3), .val (.ref b2), .val (.ref b95), .val (.int (14 : Int32)), .val (.double u2), .second, .unset, .unset, .unset, .unset, .unset, .unset] [(.int p3)]) _
      refine XD.i2d XL.here hx rfl (hb hby at_230) rfl hu3 ?_
      refine XD.dstore XL.here hx rfl (hb hby at_231) rfl (l' := #[.val (.int p1), .val (.int p2), .val (.int p3), .val (.ref b2), .val (.ref b95), .val (.int (14 : Int32)), .val (.double u2), .second, .val (.double u3), .second, .unset, .unset, .unset, .unset]) rfl ?_
      refine XS.aloadN XL.here hx rfl (hb hby at_233) rfl rfl ?_
      refine XS.iload XL.here hx rfl (hb hby at_234) rfl ?_
      show Sp p e below T149 (mkF m 236 #[.val (.int p1), .val (.int p2), .val (.int p3), .val (.ref b2), .val (.ref b95), .val (.int (14 : Int32)), .val (.double u2), .second, .val (.double u3), .second, .unset, .unset, .unset, .unset] [(.int (14 : Int32)), (.ref b2)]) _
      obtain ⟨cl236, Ar236, -, S236, -, H236, -⟩ := id VA
      have hin236 : ¬ ((14 : Int32) < 0 ∨ cl236.slots.size ≤ ((14 : Int32)).toNatClampNeg) := inb_of S236 (by decide)
      refine XL.aaload hx (j := (14 : Int32)) (v := (.ref ap_PAIR_RESISTANCE_UNBALANCE)) (by rw [e149]; exact Ar236.1) (State.isArrayOf_alike hZ.alike Ar236.2.1) rfl Ar236.2.2 hin236 (H236.at hin236 rfl) (g := (mkF m 236 #[.val (.int p1), .val (.int p2), .val (.int p3), .val (.ref b2), .val (.ref b95), .val (.int (14 : Int32)), .val (.double u2), .second, .val (.double u3), .second, .unset, .unset, .unset, .unset] [(.int (14 : Int32)), (.ref b2)])) rfl rfl (hb hby at_236) _ ?_
      refine XD.dload XL.here hx rfl (hb hby at_237) rfl ?_
      refine XD.dload XL.here hx rfl (hb hby at_239) rfl ?_
      exact k
    obtain ⟨cq238, kq238, qa238, qb238, qc238⟩ := isOf hZ e149 (E_ap_PAIR_RESISTANCE_UNBALANCE.ext O149.2)
    obtain ⟨_, _, ⟨T238, L238, k238, n238⟩, -, X238, ⟨Lc238, hQ238, l238, y238, z238⟩, st238⟩ := XL.virtualBack hx (y := (⟨"com/example/twistgauge/twistgauge/limitset/Parameter", "margin", "(DD)D"⟩ : MethodName)) (z := (⟨"com/example/twistgauge/twistgauge/limitset/Parameter", "margin", "(DD)D"⟩ : MethodName)) hown (mvT hZ (own_w hw 42 rfl)) (mvT hZ (own_w hw 43 rfl)) (notFace_of_selects (args := #[]) (mvT hZ (own_w hw 45 rfl))) (mvT hZ (own_w hw 45 rfl)) (mvT hZ (own_w hw 44 rfl)) (by decide) (backOf (W := 0) (rm_mg1 l Z a0 hw [] ap_PAIR_RESISTANCE_UNBALANCE u2 u3 dq1 p2 p3 h149 n0 O149 hu2 hu3 hdq1 (F_ap_PAIR_RESISTANCE_UNBALANCE_maximum.ext O149.2)) hZ (own_w hw 46 rfl) (own_w hw 3 rfl) (by decide) (by decide)) qa238 qc238 (g := (mkF m 241 #[.val (.int p1), .val (.int p2), .val (.int p3), .val (.ref b2), .val (.ref b95), .val (.int (14 : Int32)), .val (.double u2), .second, .val (.double u3), .second, .unset, .unset, .unset, .unset] [(.double u3), (.double u2), (.ref ap_PAIR_RESISTANCE_UNBALANCE)])) rfl (by rw [hml]; rfl) (Steps.refl _) (argsL := [(.double u2), (.double u3)]) (rest := []) (lenOf pd_law_0 rfl) rfl (by show 2 * 0 + _ ≤ _; exact Nat.le_of_eq rfl) (hb hby at_241) (fun _ _ => ⟨rfl, e149, (by decide : 2 + 0 ≤ _), (by decide : 36 + 0 ≤ _)⟩)
    dsimp only [Pt.U, Pt.locs, Pt.cells, Pt.slots] at X238 l238 y238 z238 st238 hQ238
    subst l238 y238 z238
    obtain ⟨rfl, N238q, e238⟩ := hQ238
    have N238 := Fr.app NL N238q
    have pre_239 : ∀ t, Sp p e below T238 (mkF m 244 #[.val (.int p1), .val (.int p2), .val (.int p3), .val (.ref b2), .val (.ref b95), .val (.int (14 : Int32)), .val (.double u2), .second, .val (.double u3), .second, .unset, .unset, .unset, .unset] [(.double dq1)]) t → Steps p.tables e below E0 t := fun t k => pre_237 t (st238.trans k)
    have pre_241 : ∀ t, Sp p e below T238 (mkF m 283 #[.val (.int p1), .val (.int p2), .val (.int p3), .val (.ref b2), .val (.ref b95), .val (.int (14 : Int32)), .val (.double u2), .second, .val (.double u3), .second, .val (.double dq1), .second, .val (.long ((p3).toInt64 - (p2).toInt64)), .second] [(.int (1 : Int32))]) t → Steps p.tables e below E0 t := by
      intro t k
      refine pre_239 t ?_
      show Sp p e below T238 (mkF m 244 #[.val (.int p1), .val (.int p2), .val (.int p3), .val (.ref b2), .val (.ref b95), .val (.int (14 : Int32)), .val (.double u2), .second, .val (.double u3), .second, .unset, .unset, .unset, .unset] [(.double dq1)]) _
      refine XD.dstore X238.here hx rfl (hb hby at_244) rfl (l' := #[.val (.int p1), .val (.int p2), .val (.int p3), .val (.ref b2), .val (.ref b95), .val (.int (14 : Int32)), .val (.double u2), .second, .val (.double u3), .second, .val (.double dq1), .second, .unset, .unset]) rfl ?_
      show Sp p e below T238 (mkF m 246 #[.val (.int p1), .val (.int p2), .val (.int p3), .val (.ref b2), .val (.ref b95), .val (.int (14 : Int32)), .val (.double u2), .second, .val (.double u3), .second, .val (.double dq1), .second, .unset, .unset] []) _
      refine XS.aload X238.here hx rfl (hb hby at_246) rfl rfl ?_
      refine XS.iload X238.here hx rfl (hb hby at_248) rfl ?_
      obtain ⟨cl240, Ar240, -, S240, -, H240, -⟩ := id VB
      have hin240 : ¬ ((14 : Int32) < 0 ∨ cl240.slots.size ≤ ((14 : Int32)).toNatClampNeg) := inb_of S240 (by decide)
      refine X238.baloadBooleans hx (j := (14 : Int32)) (v := (.int (1 : Int32))) (by rw [e238]; exact Ar240.1) (State.isArrayOf_alike hZ.alike Ar240.2.1) Ar240.2.2 hin240 (H240.at hin240 rfl) (g := (mkF m 250 #[.val (.int p1), .val (.int p2), .val (.int p3), .val (.ref b2), .val (.ref b95), .val (.int (14 : Int32)), .val (.double u2), .second, .val (.double u3), .second, .val (.double dq1), .second, .unset, .unset] [(.int (14 : Int32)), (.ref b95)])) rfl rfl (hb hby at_250) _ ?_
      refine XS.ifNo X238.here hx rfl (hb hby at_251) rfl (XT.i0_eq_f (by decide)) ?_
      show Sp p e below T238 (mkF m 254 #[.val (.int p1), .val (.int p2), .val (.int p3), .val (.ref b2), .val (.ref b95), .val (.int (14 : Int32)), .val (.double u2), .second, .val (.double u3), .second, .val (.double dq1), .second, .unset, .unset] []) _
      refine XS.iloadN X238.here hx rfl (hb hby at_254) rfl ?_
      refine XT.i2l X238.here hx rfl (hb hby at_255) rfl ?_
      refine XS.iloadN X238.here hx rfl (hb hby at_256) rfl ?_
      refine XT.i2l X238.here hx rfl (hb hby at_257) rfl ?_
      show Sp p e below T238 (mkF m 258 #[.val (.int p1), .val (.int p2), .val (.int p3), .val (.ref b2), .val (.ref b95), .val (.int (14 : Int32)), .val (.double u2), .second, .val (.double u3), .second, .val (.double dq1), .second, .unset, .unset] [(.long (p2).toInt64), (.long (p3).toInt64)]) _
      refine XT.lsub X238.here hx rfl (hb hby at_258) rfl ?_
      refine XS.goto X238.here hx rfl (pc0 := 259) (pc' := 267) rfl (hb hby at_259) (by decide) (by decide) ?_
      refine XT.lstore X238.here hx rfl (hb hby at_267) rfl (l' := #[.val (.int p1), .val (.int p2), .val (.int p3), .val (.ref b2), .val (.ref b95), .val (.int (14 : Int32)), .val (.double u2), .second, .val (.double u3), .second, .val (.double dq1), .second, .val (.long ((p3).toInt64 - (p2).toInt64)), .second]) rfl ?_
      refine XD.dload X238.here hx rfl (hb hby at_269) rfl ?_
      show Sp p e below T238 (mkF m 271 #[.val (.int p1), .val (.int p2), .val (.int p3), .val (.ref b2), .val (.ref b95), .val (.int (14 : Int32)), .val (.double u2), .second, .val (.double u3), .second, .val (.double dq1), .second, .val (.long ((p3).toInt64 - (p2).toInt64)), .second] [(.double dq1)]) _
      refine XT.lload X238.here hx rfl (hb hby at_271) rfl ?_
      refine XD.l2d X238.here hx rfl (hb hby at_273) rfl hdq1 ?_
      refine XD.dcmplSame X238.here hx rfl (hb hby at_274) rfl hdq1 ?_
      refine XS.ifNo X238.here hx rfl (hb hby at_275) rfl (XT.i0_ne_f (by decide)) ?_
      show Sp p e below T238 (mkF m 278 #[.val (.int p1), .val (.int p2), .val (.int p3), .val (.ref b2), .val (.ref b95), .val (.int (14 : Int32)), .val (.double u2), .second, .val (.double u3), .second, .val (.double dq1), .second, .val (.long ((p3).toInt64 - (p2).toInt64)), .second] []) _
      refine XS.iconst X238.here hx rfl (hb hby at_278) ?_
      refine XS.goto X238.here hx rfl (pc0 := 279) (pc' := 283) rfl (hb hby at_279) (by decide) (by decide) ?_
      exact k
    obtain ⟨fs, hr, hrun, hended, hW, hsame⟩ := X238.leave (v := some (.int (1 : Int32))) (fun h => by rw [Bd.returns] at h; cases h)
    refine ⟨_, _, pre_241 _ ?_, hrun, hended, _, _, rfl, ?_, ⟨_, rfl⟩, hW, hsame.mono (by decide) (by decide)⟩
    · show Sp p e below T238 (mkF m 283 #[.val (.int p1), .val (.int p2), .val (.int p3), .val (.ref b2), .val (.ref b95), .val (.int (14 : Int32)), .val (.double u2), .second, .val (.double u3), .second, .val (.double dq1), .second, .val (.long ((p3).toInt64 - (p2).toInt64)), .second] [(.int (1 : Int32))]) _
      exact retN X238 hx (t := .boolean) Bd.returns (by simp) (hb hby at_283) hr
    · show Q_law Z _ _ _ _ _ _ _ _ _ _ _ _ _ _ _ _ _ _ _ _ _ h0 n0 _ T238.heap _
      rw [e238]
      exact ⟨rfl, N238⟩
  · skip
    rw [hs] at pre_151
    have pre_243 : ∀ t, Sp p e below T149 (mkF m 241 #[.val (.int p1), .val (.int p2), .val (.int p3), .val (.ref b2), .val (.ref b95), .val (.int (15 : Int32)), .val (.double u2), .second, .val (.double u3), .second, .unset, .unset, .unset, .unset] [(.double u3), (.double u2), (.ref ap_OPERATING_CAPACITANCE)]) t → Steps p.tables e below E0 t := by
      intro t k
      refine pre_151 t ?_
      show Sp p e below T149 (mkF m 225 #[.val (.int p1), .val (.int p2), .val (.int p3), .val (.ref b2), .val (.ref b95), .val (.int (15 : Int32)), .unset, .unset, .unset, .unset, .unset, .unset, .unset, .unset] []) _
      refine XS.iloadN XL.here hx rfl (hb hby at_225) rfl ?_
      refine XD.i2d XL.here hx rfl (hb hby at_226) rfl hu2 ?_
      refine XD.dstore XL.here hx rfl (hb hby at_227) rfl (l' := #[.val (.int p1), .val (.int p2), .val (.int p3), .val (.ref b2), .val (.ref b95), .val (.int (15 : Int32)), .val (.double u2), .second, .unset, .unset, .unset, .unset, .unset, .unset]) rfl ?_
      refine XS.iloadN XL.here hx rfl (hb hby at_229) rfl ?_
      show Sp p e below T149 (mkF m 230 #[.val (.int p1), .val (.int p2), .val (.int p3), .val (.ref b2), .val (.ref b95), .val (.int (15 : Int32)), .val (.double u2), .second, .unset, .unset, .unset, .unset, .unset, .unset] [(.int p3)]) _
      refine XD.i2d XL.here hx rfl (hb hby at_230) rfl hu3 ?_
      refine XD.dstore XL.here hx rfl (hb hby at_231) rfl (l' := #[.val (.int p1), .val (.int p2), .val (.int p3), .val (.ref b2), .val (.ref b95), .val (.int (15 : Int32)), .val (.double u2), .second, .val (.double u3), .second, .unset, .unset, .unset, .unset]) rfl ?_
      refine XS.aloadN XL.here hx rfl (hb hby at_233) rfl rfl ?_
      refine XS.iload XL.here hx rfl (hb hby at_234) rfl ?_
      show Sp p e below T149 (mkF m 236 #[.val (.int p1), .val (.int p2), .val (.int p3), .val (.ref b2), .val (.ref b95), .val (.int (15 : Int32)), .val (.double u2), .second, .val (.double u3), .second, .unset, .unset, .unset, .unset] [(.int (15 : Int32)), (.ref b2)]) _
      obtain ⟨cl242, Ar242, -, S242, -, H242, -⟩ := id VA
      have hin242 : ¬ ((15 : Int32) < 0 ∨ cl242.slots.size ≤ ((15 : Int32)).toNatClampNeg) := inb_of S242 (by decide)
      refine XL.aaload hx (j := (15 : Int32)) (v := (.ref ap_OPERATING_CAPACITANCE)) (by rw [e149]; exact Ar242.1) (State.isArrayOf_alike hZ.alike Ar242.2.1) rfl Ar242.2.2 hin242 (H242.at hin242 rfl) (g := (mkF m 236 #[.val (.int p1), .val (.int p2), .val (.int p3), .val (.ref b2), .val (.ref b95), .val (.int (15 : Int32)), .val (.double u2), .second, .val (.double u3), .second, .unset, .unset, .unset, .unset] [(.int (15 : Int32)), (.ref b2)])) rfl rfl (hb hby at_236) _ ?_
      refine XD.dload XL.here hx rfl (hb hby at_237) rfl ?_
      refine XD.dload XL.here hx rfl (hb hby at_239) rfl ?_
      exact k
    obtain ⟨cq244, kq244, qa244, qb244, qc244⟩ := isOf hZ e149 (E_ap_OPERATING_CAPACITANCE.ext O149.2)
    obtain ⟨_, _, ⟨T244, L244, k244, n244⟩, -, X244, ⟨Lc244, hQ244, l244, y244, z244⟩, st244⟩ := XL.virtualBack hx (y := (⟨"com/example/twistgauge/twistgauge/limitset/Parameter", "margin", "(DD)D"⟩ : MethodName)) (z := (⟨"com/example/twistgauge/twistgauge/limitset/Parameter", "margin", "(DD)D"⟩ : MethodName)) hown (mvT hZ (own_w hw 42 rfl)) (mvT hZ (own_w hw 43 rfl)) (notFace_of_selects (args := #[]) (mvT hZ (own_w hw 45 rfl))) (mvT hZ (own_w hw 45 rfl)) (mvT hZ (own_w hw 44 rfl)) (by decide) (backOf (W := 0) (rm_mg1 l Z a0 hw [] ap_OPERATING_CAPACITANCE u2 u3 dq1 p2 p3 h149 n0 O149 hu2 hu3 hdq1 (F_ap_OPERATING_CAPACITANCE_maximum.ext O149.2)) hZ (own_w hw 46 rfl) (own_w hw 3 rfl) (by decide) (by decide)) qa244 qc244 (g := (mkF m 241 #[.val (.int p1), .val (.int p2), .val (.int p3), .val (.ref b2), .val (.ref b95), .val (.int (15 : Int32)), .val (.double u2), .second, .val (.double u3), .second, .unset, .unset, .unset, .unset] [(.double u3), (.double u2), (.ref ap_OPERATING_CAPACITANCE)])) rfl (by rw [hml]; rfl) (Steps.refl _) (argsL := [(.double u2), (.double u3)]) (rest := []) (lenOf pd_law_0 rfl) rfl (by show 2 * 0 + _ ≤ _; exact Nat.le_of_eq rfl) (hb hby at_241) (fun _ _ => ⟨rfl, e149, (by decide : 2 + 0 ≤ _), (by decide : 36 + 0 ≤ _)⟩)
    dsimp only [Pt.U, Pt.locs, Pt.cells, Pt.slots] at X244 l244 y244 z244 st244 hQ244
    subst l244 y244 z244
    obtain ⟨rfl, N244q, e244⟩ := hQ244
    have N244 := Fr.app NL N244q
    have pre_245 : ∀ t, Sp p e below T244 (mkF m 244 #[.val (.int p1), .val (.int p2), .val (.int p3), .val (.ref b2), .val (.ref b95), .val (.int (15 : Int32)), .val (.double u2), .second, .val (.double u3), .second, .unset, .unset, .unset, .unset] [(.double dq1)]) t → Steps p.tables e below E0 t := fun t k => pre_243 t (st244.trans k)
    have pre_247 : ∀ t, Sp p e below T244 (mkF m 283 #[.val (.int p1), .val (.int p2), .val (.int p3), .val (.ref b2), .val (.ref b95), .val (.int (15 : Int32)), .val (.double u2), .second, .val (.double u3), .second, .val (.double dq1), .second, .val (.long ((p3).toInt64 - (p2).toInt64)), .second] [(.int (1 : Int32))]) t → Steps p.tables e below E0 t := by
      intro t k
      refine pre_245 t ?_
      show Sp p e below T244 (mkF m 244 #[.val (.int p1), .val (.int p2), .val (.int p3), .val (.ref b2), .val (.ref b95), .val (.int (15 : Int32)), .val (.double u2), .second, .val (.double u3), .second, .unset, .unset, .unset, .unset] [(.double dq1)]) _
      refine XD.dstore X244.here hx rfl (hb hby at_244) rfl (l' := #[.val (.int p1), .val (.int p2), .val (.int p3), .val (.ref b2), .val (.ref b95), .val (.int (15 : Int32)), .val (.double u2), .second, .val (.double u3), .second, .val (.double dq1), .second, .unset, .unset]) rfl ?_
      show Sp p e below T244 (mkF m 246 #[.val (.int p1), .val (.int p2), .val (.int p3), .val (.ref b2), .val (.ref b95), .val (.int (15 : Int32)), .val (.double u2), .second, .val (.double u3), .second, .val (.double dq1), .second, .unset, .unset] []) _
      refine XS.aload X244.here hx rfl (hb hby at_246) rfl rfl ?_
      refine XS.iload X244.here hx rfl (hb hby at_248) rfl ?_
      obtain ⟨cl246, Ar246, -, S246, -, H246, -⟩ := id VB
      have hin246 : ¬ ((15 : Int32) < 0 ∨ cl246.slots.size ≤ ((15 : Int32)).toNatClampNeg) := inb_of S246 (by decide)
      refine X244.baloadBooleans hx (j := (15 : Int32)) (v := (.int (1 : Int32))) (by rw [e244]; exact Ar246.1) (State.isArrayOf_alike hZ.alike Ar246.2.1) Ar246.2.2 hin246 (H246.at hin246 rfl) (g := (mkF m 250 #[.val (.int p1), .val (.int p2), .val (.int p3), .val (.ref b2), .val (.ref b95), .val (.int (15 : Int32)), .val (.double u2), .second, .val (.double u3), .second, .val (.double dq1), .second, .unset, .unset] [(.int (15 : Int32)), (.ref b95)])) rfl rfl (hb hby at_250) _ ?_
      refine XS.ifNo X244.here hx rfl (hb hby at_251) rfl (XT.i0_eq_f (by decide)) ?_
      show Sp p e below T244 (mkF m 254 #[.val (.int p1), .val (.int p2), .val (.int p3), .val (.ref b2), .val (.ref b95), .val (.int (15 : Int32)), .val (.double u2), .second, .val (.double u3), .second, .val (.double dq1), .second, .unset, .unset] []) _
      refine XS.iloadN X244.here hx rfl (hb hby at_254) rfl ?_
      refine XT.i2l X244.here hx rfl (hb hby at_255) rfl ?_
      refine XS.iloadN X244.here hx rfl (hb hby at_256) rfl ?_
      refine XT.i2l X244.here hx rfl (hb hby at_257) rfl ?_
      show Sp p e below T244 (mkF m 258 #[.val (.int p1), .val (.int p2), .val (.int p3), .val (.ref b2), .val (.ref b95), .val (.int (15 : Int32)), .val (.double u2), .second, .val (.double u3), .second, .val (.double dq1), .second, .unset, .unset] [(.long (p2).toInt64), (.long (p3).toInt64)]) _
      refine XT.lsub X244.here hx rfl (hb hby at_258) rfl ?_
      refine XS.goto X244.here hx rfl (pc0 := 259) (pc' := 267) rfl (hb hby at_259) (by decide) (by decide) ?_
      refine XT.lstore X244.here hx rfl (hb hby at_267) rfl (l' := #[.val (.int p1), .val (.int p2), .val (.int p3), .val (.ref b2), .val (.ref b95), .val (.int (15 : Int32)), .val (.double u2), .second, .val (.double u3), .second, .val (.double dq1), .second, .val (.long ((p3).toInt64 - (p2).toInt64)), .second]) rfl ?_
      refine XD.dload X244.here hx rfl (hb hby at_269) rfl ?_
      show Sp p e below T244 (mkF m 271 #[.val (.int p1), .val (.int p2), .val (.int p3), .val (.ref b2), .val (.ref b95), .val (.int (15 : Int32)), .val (.double u2), .second, .val (.double u3), .second, .val (.double dq1), .second, .val (.long ((p3).toInt64 - (p2).toInt64)), .second] [(.double dq1)]) _
      refine XT.lload X244.here hx rfl (hb hby at_271) rfl ?_
      refine XD.l2d X244.here hx rfl (hb hby at_273) rfl hdq1 ?_
      refine XD.dcmplSame X244.here hx rfl (hb hby at_274) rfl hdq1 ?_
      refine XS.ifNo X244.here hx rfl (hb hby at_275) rfl (XT.i0_ne_f (by decide)) ?_
      show Sp p e below T244 (mkF m 278 #[.val (.int p1), .val (.int p2), .val (.int p3), .val (.ref b2), .val (.ref b95), .val (.int (15 : Int32)), .val (.double u2), .second, .val (.double u3), .second, .val (.double dq1), .second, .val (.long ((p3).toInt64 - (p2).toInt64)), .second] []) _
      refine XS.iconst X244.here hx rfl (hb hby at_278) ?_
      refine XS.goto X244.here hx rfl (pc0 := 279) (pc' := 283) rfl (hb hby at_279) (by decide) (by decide) ?_
      exact k
    obtain ⟨fs, hr, hrun, hended, hW, hsame⟩ := X244.leave (v := some (.int (1 : Int32))) (fun h => by rw [Bd.returns] at h; cases h)
    refine ⟨_, _, pre_247 _ ?_, hrun, hended, _, _, rfl, ?_, ⟨_, rfl⟩, hW, hsame.mono (by decide) (by decide)⟩
    · show Sp p e below T244 (mkF m 283 #[.val (.int p1), .val (.int p2), .val (.int p3), .val (.ref b2), .val (.ref b95), .val (.int (15 : Int32)), .val (.double u2), .second, .val (.double u3), .second, .val (.double dq1), .second, .val (.long ((p3).toInt64 - (p2).toInt64)), .second] [(.int (1 : Int32))]) _
      exact retN X244 hx (t := .boolean) Bd.returns (by simp) (hb hby at_283) hr
    · show Q_law Z _ _ _ _ _ _ _ _ _ _ _ _ _ _ _ _ _ _ _ _ _ h0 n0 _ T244.heap _
      rw [e244]
      exact ⟨rfl, N244⟩
  · skip
    rw [hs] at pre_151
    have pre_249 : ∀ t, Sp p e below T149 (mkF m 241 #[.val (.int p1), .val (.int p2), .val (.int p3), .val (.ref b2), .val (.ref b95), .val (.int (16 : Int32)), .val (.double u2), .second, .val (.double u3), .second, .unset, .unset, .unset, .unset] [(.double u3), (.double u2), (.ref ap_INSULATION_RESISTANCE)]) t → Steps p.tables e below E0 t := by
      intro t k
      refine pre_151 t ?_
      show Sp p e below T149 (mkF m 225 #[.val (.int p1), .val (.int p2), .val (.int p3), .val (.ref b2), .val (.ref b95), .val (.int (16 : Int32)), .unset, .unset, .unset, .unset, .unset, .unset, .unset, .unset] []) _
      refine XS.iloadN XL.here hx rfl (hb hby at_225) rfl ?_
      refine XD.i2d XL.here hx rfl (hb hby at_226) rfl hu2 ?_
      refine XD.dstore XL.here hx rfl (hb hby at_227) rfl (l' := #[.val (.int p1), .val (.int p2), .val (.int p3), .val (.ref b2), .val (.ref b95), .val (.int (16 : Int32)), .val (.double u2), .second, .unset, .unset, .unset, .unset, .unset, .unset]) rfl ?_
      refine XS.iloadN XL.here hx rfl (hb hby at_229) rfl ?_
      show Sp p e below T149 (mkF m 230 #[.val (.int p1), .val (.int p2), .val (.int p3), .val (.ref b2), .val (.ref b95), .val (.int (16 : Int32)), .val (.double u2), .second, .unset, .unset, .unset, .unset, .unset, .unset] [(.int p3)]) _
      refine XD.i2d XL.here hx rfl (hb hby at_230) rfl hu3 ?_
      refine XD.dstore XL.here hx rfl (hb hby at_231) rfl (l' := #[.val (.int p1), .val (.int p2), .val (.int p3), .val (.ref b2), .val (.ref b95), .val (.int (16 : Int32)), .val (.double u2), .second, .val (.double u3), .second, .unset, .unset, .unset, .unset]) rfl ?_
      refine XS.aloadN XL.here hx rfl (hb hby at_233) rfl rfl ?_
      refine XS.iload XL.here hx rfl (hb hby at_234) rfl ?_
      show Sp p e below T149 (mkF m 236 #[.val (.int p1), .val (.int p2), .val (.int p3), .val (.ref b2), .val (.ref b95), .val (.int (16 : Int32)), .val (.double u2), .second, .val (.double u3), .second, .unset, .unset, .unset, .unset] [(.int (16 : Int32)), (.ref b2)]) _
      obtain ⟨cl248, Ar248, -, S248, -, H248, -⟩ := id VA
      have hin248 : ¬ ((16 : Int32) < 0 ∨ cl248.slots.size ≤ ((16 : Int32)).toNatClampNeg) := inb_of S248 (by decide)
      refine XL.aaload hx (j := (16 : Int32)) (v := (.ref ap_INSULATION_RESISTANCE)) (by rw [e149]; exact Ar248.1) (State.isArrayOf_alike hZ.alike Ar248.2.1) rfl Ar248.2.2 hin248 (H248.at hin248 rfl) (g := (mkF m 236 #[.val (.int p1), .val (.int p2), .val (.int p3), .val (.ref b2), .val (.ref b95), .val (.int (16 : Int32)), .val (.double u2), .second, .val (.double u3), .second, .unset, .unset, .unset, .unset] [(.int (16 : Int32)), (.ref b2)])) rfl rfl (hb hby at_236) _ ?_
      refine XD.dload XL.here hx rfl (hb hby at_237) rfl ?_
      refine XD.dload XL.here hx rfl (hb hby at_239) rfl ?_
      exact k
    obtain ⟨cq250, kq250, qa250, qb250, qc250⟩ := isOf hZ e149 (E_ap_INSULATION_RESISTANCE.ext O149.2)
    obtain ⟨_, _, ⟨T250, L250, k250, n250⟩, -, X250, ⟨Lc250, hQ250, l250, y250, z250⟩, st250⟩ := XL.virtualBack hx (y := (⟨"com/example/twistgauge/twistgauge/limitset/Parameter", "margin", "(DD)D"⟩ : MethodName)) (z := (⟨"com/example/twistgauge/twistgauge/limitset/Parameter", "margin", "(DD)D"⟩ : MethodName)) hown (mvT hZ (own_w hw 42 rfl)) (mvT hZ (own_w hw 43 rfl)) (notFace_of_selects (args := #[]) (mvT hZ (own_w hw 45 rfl))) (mvT hZ (own_w hw 45 rfl)) (mvT hZ (own_w hw 44 rfl)) (by decide) (backOf (W := 0) (rm_mg0 l Z a0 hw [] ap_INSULATION_RESISTANCE u2 u3 dq0 p2 p3 h149 n0 O149 hu2 hu3 hdq0 (F_ap_INSULATION_RESISTANCE_maximum.ext O149.2)) hZ (own_w hw 46 rfl) (own_w hw 3 rfl) (by decide) (by decide)) qa250 qc250 (g := (mkF m 241 #[.val (.int p1), .val (.int p2), .val (.int p3), .val (.ref b2), .val (.ref b95), .val (.int (16 : Int32)), .val (.double u2), .second, .val (.double u3), .second, .unset, .unset, .unset, .unset] [(.double u3), (.double u2), (.ref ap_INSULATION_RESISTANCE)])) rfl (by rw [hml]; rfl) (Steps.refl _) (argsL := [(.double u2), (.double u3)]) (rest := []) (lenOf pd_law_0 rfl) rfl (by show 2 * 0 + _ ≤ _; exact Nat.le_of_eq rfl) (hb hby at_241) (fun _ _ => ⟨rfl, e149, (by decide : 2 + 0 ≤ _), (by decide : 36 + 0 ≤ _)⟩)
    dsimp only [Pt.U, Pt.locs, Pt.cells, Pt.slots] at X250 l250 y250 z250 st250 hQ250
    subst l250 y250 z250
    obtain ⟨rfl, N250q, e250⟩ := hQ250
    have N250 := Fr.app NL N250q
    have pre_251 : ∀ t, Sp p e below T250 (mkF m 244 #[.val (.int p1), .val (.int p2), .val (.int p3), .val (.ref b2), .val (.ref b95), .val (.int (16 : Int32)), .val (.double u2), .second, .val (.double u3), .second, .unset, .unset, .unset, .unset] [(.double dq0)]) t → Steps p.tables e below E0 t := fun t k => pre_249 t (st250.trans k)
    have pre_253 : ∀ t, Sp p e below T250 (mkF m 283 #[.val (.int p1), .val (.int p2), .val (.int p3), .val (.ref b2), .val (.ref b95), .val (.int (16 : Int32)), .val (.double u2), .second, .val (.double u3), .second, .val (.double dq0), .second, .val (.long ((p2).toInt64 - (p3).toInt64)), .second] [(.int (1 : Int32))]) t → Steps p.tables e below E0 t := by
      intro t k
      refine pre_251 t ?_
      show Sp p e below T250 (mkF m 244 #[.val (.int p1), .val (.int p2), .val (.int p3), .val (.ref b2), .val (.ref b95), .val (.int (16 : Int32)), .val (.double u2), .second, .val (.double u3), .second, .unset, .unset, .unset, .unset] [(.double dq0)]) _
      refine XD.dstore X250.here hx rfl (hb hby at_244) rfl (l' := #[.val (.int p1), .val (.int p2), .val (.int p3), .val (.ref b2), .val (.ref b95), .val (.int (16 : Int32)), .val (.double u2), .second, .val (.double u3), .second, .val (.double dq0), .second, .unset, .unset]) rfl ?_
      show Sp p e below T250 (mkF m 246 #[.val (.int p1), .val (.int p2), .val (.int p3), .val (.ref b2), .val (.ref b95), .val (.int (16 : Int32)), .val (.double u2), .second, .val (.double u3), .second, .val (.double dq0), .second, .unset, .unset] []) _
      refine XS.aload X250.here hx rfl (hb hby at_246) rfl rfl ?_
      refine XS.iload X250.here hx rfl (hb hby at_248) rfl ?_
      obtain ⟨cl252, Ar252, -, S252, -, H252, -⟩ := id VB
      have hin252 : ¬ ((16 : Int32) < 0 ∨ cl252.slots.size ≤ ((16 : Int32)).toNatClampNeg) := inb_of S252 (by decide)
      refine X250.baloadBooleans hx (j := (16 : Int32)) (v := (.int (0 : Int32))) (by rw [e250]; exact Ar252.1) (State.isArrayOf_alike hZ.alike Ar252.2.1) Ar252.2.2 hin252 (H252.at hin252 rfl) (g := (mkF m 250 #[.val (.int p1), .val (.int p2), .val (.int p3), .val (.ref b2), .val (.ref b95), .val (.int (16 : Int32)), .val (.double u2), .second, .val (.double u3), .second, .val (.double dq0), .second, .unset, .unset] [(.int (16 : Int32)), (.ref b95)])) rfl rfl (hb hby at_250) _ ?_
      refine XS.ifYes X250.here hx rfl (pc0 := 251) (pc' := 262) rfl (hb hby at_251) rfl (XT.i0_eq_t (by decide)) (by decide) (by decide) ?_
      show Sp p e below T250 (mkF m 262 #[.val (.int p1), .val (.int p2), .val (.int p3), .val (.ref b2), .val (.ref b95), .val (.int (16 : Int32)), .val (.double u2), .second, .val (.double u3), .second, .val (.double dq0), .second, .unset, .unset] []) _
      refine XS.iloadN X250.here hx rfl (hb hby at_262) rfl ?_
      refine XT.i2l X250.here hx rfl (hb hby at_263) rfl ?_
      refine XS.iloadN X250.here hx rfl (hb hby at_264) rfl ?_
      refine XT.i2l X250.here hx rfl (hb hby at_265) rfl ?_
      show Sp p e below T250 (mkF m 266 #[.val (.int p1), .val (.int p2), .val (.int p3), .val (.ref b2), .val (.ref b95), .val (.int (16 : Int32)), .val (.double u2), .second, .val (.double u3), .second, .val (.double dq0), .second, .unset, .unset] [(.long (p3).toInt64), (.long (p2).toInt64)]) _
      refine XT.lsub X250.here hx rfl (hb hby at_266) rfl ?_
      refine XT.lstore X250.here hx rfl (hb hby at_267) rfl (l' := #[.val (.int p1), .val (.int p2), .val (.int p3), .val (.ref b2), .val (.ref b95), .val (.int (16 : Int32)), .val (.double u2), .second, .val (.double u3), .second, .val (.double dq0), .second, .val (.long ((p2).toInt64 - (p3).toInt64)), .second]) rfl ?_
      refine XD.dload X250.here hx rfl (hb hby at_269) rfl ?_
      refine XT.lload X250.here hx rfl (hb hby at_271) rfl ?_
      show Sp p e below T250 (mkF m 273 #[.val (.int p1), .val (.int p2), .val (.int p3), .val (.ref b2), .val (.ref b95), .val (.int (16 : Int32)), .val (.double u2), .second, .val (.double u3), .second, .val (.double dq0), .second, .val (.long ((p2).toInt64 - (p3).toInt64)), .second] [(.long ((p2).toInt64 - (p3).toInt64)), (.double dq0)]) _
      refine XD.l2d X250.here hx rfl (hb hby at_273) rfl hdq0 ?_
      refine XD.dcmplSame X250.here hx rfl (hb hby at_274) rfl hdq0 ?_
      refine XS.ifNo X250.here hx rfl (hb hby at_275) rfl (XT.i0_ne_f (by decide)) ?_
      refine XS.iconst X250.here hx rfl (hb hby at_278) ?_
      show Sp p e below T250 (mkF m 279 #[.val (.int p1), .val (.int p2), .val (.int p3), .val (.ref b2), .val (.ref b95), .val (.int (16 : Int32)), .val (.double u2), .second, .val (.double u3), .second, .val (.double dq0), .second, .val (.long ((p2).toInt64 - (p3).toInt64)), .second] [(.int (1 : Int32))]) _
      refine XS.goto X250.here hx rfl (pc0 := 279) (pc' := 283) rfl (hb hby at_279) (by decide) (by decide) ?_
      exact k
    obtain ⟨fs, hr, hrun, hended, hW, hsame⟩ := X250.leave (v := some (.int (1 : Int32))) (fun h => by rw [Bd.returns] at h; cases h)
    refine ⟨_, _, pre_253 _ ?_, hrun, hended, _, _, rfl, ?_, ⟨_, rfl⟩, hW, hsame.mono (by decide) (by decide)⟩
    · show Sp p e below T250 (mkF m 283 #[.val (.int p1), .val (.int p2), .val (.int p3), .val (.ref b2), .val (.ref b95), .val (.int (16 : Int32)), .val (.double u2), .second, .val (.double u3), .second, .val (.double dq0), .second, .val (.long ((p2).toInt64 - (p3).toInt64)), .second] [(.int (1 : Int32))]) _
      exact retN X250 hx (t := .boolean) Bd.returns (by simp) (hb hby at_283) hr
    · show Q_law Z _ _ _ _ _ _ _ _ _ _ _ _ _ _ _ _ _ _ _ _ _ h0 n0 _ T250.heap _
      rw [e250]
      exact ⟨rfl, N250⟩
  · skip
    rw [hs] at pre_151
    have pre_255 : ∀ t, Sp p e below T149 (mkF m 241 #[.val (.int p1), .val (.int p2), .val (.int p3), .val (.ref b2), .val (.ref b95), .val (.int (17 : Int32)), .val (.double u2), .second, .val (.double u3), .second, .unset, .unset, .unset, .unset] [(.double u3), (.double u2), (.ref ap_CAPACITANCE_UNBALANCE_EARTH)]) t → Steps p.tables e below E0 t := by
      intro t k
      refine pre_151 t ?_
      show Sp p e below T149 (mkF m 225 #[.val (.int p1), .val (.int p2), .val (.int p3), .val (.ref b2), .val (.ref b95), .val (.int (17 : Int32)), .unset, .unset, .unset, .unset, .unset, .unset, .unset, .unset] []) _
      refine XS.iloadN XL.here hx rfl (hb hby at_225) rfl ?_
      refine XD.i2d XL.here hx rfl (hb hby at_226) rfl hu2 ?_
      refine XD.dstore XL.here hx rfl (hb hby at_227) rfl (l' := #[.val (.int p1), .val (.int p2), .val (.int p3), .val (.ref b2), .val (.ref b95), .val (.int (17 : Int32)), .val (.double u2), .second, .unset, .unset, .unset, .unset, .unset, .unset]) rfl ?_
      refine XS.iloadN XL.here hx rfl (hb hby at_229) rfl ?_
      show Sp p e below T149 (mkF m 230 #[.val (.int p1), .val (.int p2), .val (.int p3), .val (.ref b2), .val (.ref b95), .val (.int (17 : Int32)), .val (.double u2), .second, .unset, .unset, .unset, .unset, .unset, .unset] [(.int p3)]) _
      refine XD.i2d XL.here hx rfl (hb hby at_230) rfl hu3 ?_
      refine XD.dstore XL.here hx rfl (hb hby at_231) rfl (l' := #[.val (.int p1), .val (.int p2), .val (.int p3), .val (.ref b2), .val (.ref b95), .val (.int (17 : Int32)), .val (.double u2), .second, .val (.double u3), .second, .unset, .unset, .unset, .unset]) rfl ?_
      refine XS.aloadN XL.here hx rfl (hb hby at_233) rfl rfl ?_
      refine XS.iload XL.here hx rfl (hb hby at_234) rfl ?_
      show Sp p e below T149 (mkF m 236 #[.val (.int p1), .val (.int p2), .val (.int p3), .val (.ref b2), .val (.ref b95), .val (.int (17 : Int32)), .val (.double u2), .second, .val (.double u3), .second, .unset, .unset, .unset, .unset] [(.int (17 : Int32)), (.ref b2)]) _
      obtain ⟨cl254, Ar254, -, S254, -, H254, -⟩ := id VA
      have hin254 : ¬ ((17 : Int32) < 0 ∨ cl254.slots.size ≤ ((17 : Int32)).toNatClampNeg) := inb_of S254 (by decide)
      refine XL.aaload hx (j := (17 : Int32)) (v := (.ref ap_CAPACITANCE_UNBALANCE_EARTH)) (by rw [e149]; exact Ar254.1) (State.isArrayOf_alike hZ.alike Ar254.2.1) rfl Ar254.2.2 hin254 (H254.at hin254 rfl) (g := (mkF m 236 #[.val (.int p1), .val (.int p2), .val (.int p3), .val (.ref b2), .val (.ref b95), .val (.int (17 : Int32)), .val (.double u2), .second, .val (.double u3), .second, .unset, .unset, .unset, .unset] [(.int (17 : Int32)), (.ref b2)])) rfl rfl (hb hby at_236) _ ?_
      refine XD.dload XL.here hx rfl (hb hby at_237) rfl ?_
      refine XD.dload XL.here hx rfl (hb hby at_239) rfl ?_
      exact k
    obtain ⟨cq256, kq256, qa256, qb256, qc256⟩ := isOf hZ e149 (E_ap_CAPACITANCE_UNBALANCE_EARTH.ext O149.2)
    obtain ⟨_, _, ⟨T256, L256, k256, n256⟩, -, X256, ⟨Lc256, hQ256, l256, y256, z256⟩, st256⟩ := XL.virtualBack hx (y := (⟨"com/example/twistgauge/twistgauge/limitset/Parameter", "margin", "(DD)D"⟩ : MethodName)) (z := (⟨"com/example/twistgauge/twistgauge/limitset/Parameter", "margin", "(DD)D"⟩ : MethodName)) hown (mvT hZ (own_w hw 42 rfl)) (mvT hZ (own_w hw 43 rfl)) (notFace_of_selects (args := #[]) (mvT hZ (own_w hw 45 rfl))) (mvT hZ (own_w hw 45 rfl)) (mvT hZ (own_w hw 44 rfl)) (by decide) (backOf (W := 0) (rm_mg1 l Z a0 hw [] ap_CAPACITANCE_UNBALANCE_EARTH u2 u3 dq1 p2 p3 h149 n0 O149 hu2 hu3 hdq1 (F_ap_CAPACITANCE_UNBALANCE_EARTH_maximum.ext O149.2)) hZ (own_w hw 46 rfl) (own_w hw 3 rfl) (by decide) (by decide)) qa256 qc256 (g := (mkF m 241 #[.val (.int p1), .val (.int p2), .val (.int p3), .val (.ref b2), .val (.ref b95), .val (.int (17 : Int32)), .val (.double u2), .second, .val (.double u3), .second, .unset, .unset, .unset, .unset] [(.double u3), (.double u2), (.ref ap_CAPACITANCE_UNBALANCE_EARTH)])) rfl (by rw [hml]; rfl) (Steps.refl _) (argsL := [(.double u2), (.double u3)]) (rest := []) (lenOf pd_law_0 rfl) rfl (by show 2 * 0 + _ ≤ _; exact Nat.le_of_eq rfl) (hb hby at_241) (fun _ _ => ⟨rfl, e149, (by decide : 2 + 0 ≤ _), (by decide : 36 + 0 ≤ _)⟩)
    dsimp only [Pt.U, Pt.locs, Pt.cells, Pt.slots] at X256 l256 y256 z256 st256 hQ256
    subst l256 y256 z256
    obtain ⟨rfl, N256q, e256⟩ := hQ256
    have N256 := Fr.app NL N256q
    have pre_257 : ∀ t, Sp p e below T256 (mkF m 244 #[.val (.int p1), .val (.int p2), .val (.int p3), .val (.ref b2), .val (.ref b95), .val (.int (17 : Int32)), .val (.double u2), .second, .val (.double u3), .second, .unset, .unset, .unset, .unset] [(.double dq1)]) t → Steps p.tables e below E0 t := fun t k => pre_255 t (st256.trans k)
    have pre_259 : ∀ t, Sp p e below T256 (mkF m 283 #[.val (.int p1), .val (.int p2), .val (.int p3), .val (.ref b2), .val (.ref b95), .val (.int (17 : Int32)), .val (.double u2), .second, .val (.double u3), .second, .val (.double dq1), .second, .val (.long ((p3).toInt64 - (p2).toInt64)), .second] [(.int (1 : Int32))]) t → Steps p.tables e below E0 t := by
      intro t k
      refine pre_257 t ?_
      show Sp p e below T256 (mkF m 244 #[.val (.int p1), .val (.int p2), .val (.int p3), .val (.ref b2), .val (.ref b95), .val (.int (17 : Int32)), .val (.double u2), .second, .val (.double u3), .second, .unset, .unset, .unset, .unset] [(.double dq1)]) _
      refine XD.dstore X256.here hx rfl (hb hby at_244) rfl (l' := #[.val (.int p1), .val (.int p2), .val (.int p3), .val (.ref b2), .val (.ref b95), .val (.int (17 : Int32)), .val (.double u2), .second, .val (.double u3), .second, .val (.double dq1), .second, .unset, .unset]) rfl ?_
      show Sp p e below T256 (mkF m 246 #[.val (.int p1), .val (.int p2), .val (.int p3), .val (.ref b2), .val (.ref b95), .val (.int (17 : Int32)), .val (.double u2), .second, .val (.double u3), .second, .val (.double dq1), .second, .unset, .unset] []) _
      refine XS.aload X256.here hx rfl (hb hby at_246) rfl rfl ?_
      refine XS.iload X256.here hx rfl (hb hby at_248) rfl ?_
      obtain ⟨cl258, Ar258, -, S258, -, H258, -⟩ := id VB
      have hin258 : ¬ ((17 : Int32) < 0 ∨ cl258.slots.size ≤ ((17 : Int32)).toNatClampNeg) := inb_of S258 (by decide)
      refine X256.baloadBooleans hx (j := (17 : Int32)) (v := (.int (1 : Int32))) (by rw [e256]; exact Ar258.1) (State.isArrayOf_alike hZ.alike Ar258.2.1) Ar258.2.2 hin258 (H258.at hin258 rfl) (g := (mkF m 250 #[.val (.int p1), .val (.int p2), .val (.int p3), .val (.ref b2), .val (.ref b95), .val (.int (17 : Int32)), .val (.double u2), .second, .val (.double u3), .second, .val (.double dq1), .second, .unset, .unset] [(.int (17 : Int32)), (.ref b95)])) rfl rfl (hb hby at_250) _ ?_
      refine XS.ifNo X256.here hx rfl (hb hby at_251) rfl (XT.i0_eq_f (by decide)) ?_
      show Sp p e below T256 (mkF m 254 #[.val (.int p1), .val (.int p2), .val (.int p3), .val (.ref b2), .val (.ref b95), .val (.int (17 : Int32)), .val (.double u2), .second, .val (.double u3), .second, .val (.double dq1), .second, .unset, .unset] []) _
      refine XS.iloadN X256.here hx rfl (hb hby at_254) rfl ?_
      refine XT.i2l X256.here hx rfl (hb hby at_255) rfl ?_
      refine XS.iloadN X256.here hx rfl (hb hby at_256) rfl ?_
      refine XT.i2l X256.here hx rfl (hb hby at_257) rfl ?_
      show Sp p e below T256 (mkF m 258 #[.val (.int p1), .val (.int p2), .val (.int p3), .val (.ref b2), .val (.ref b95), .val (.int (17 : Int32)), .val (.double u2), .second, .val (.double u3), .second, .val (.double dq1), .second, .unset, .unset] [(.long (p2).toInt64), (.long (p3).toInt64)]) _
      refine XT.lsub X256.here hx rfl (hb hby at_258) rfl ?_
      refine XS.goto X256.here hx rfl (pc0 := 259) (pc' := 267) rfl (hb hby at_259) (by decide) (by decide) ?_
      refine XT.lstore X256.here hx rfl (hb hby at_267) rfl (l' := #[.val (.int p1), .val (.int p2), .val (.int p3), .val (.ref b2), .val (.ref b95), .val (.int (17 : Int32)), .val (.double u2), .second, .val (.double u3), .second, .val (.double dq1), .second, .val (.long ((p3).toInt64 - (p2).toInt64)), .second]) rfl ?_
      refine XD.dload X256.here hx rfl (hb hby at_269) rfl ?_
      show Sp p e below T256 (mkF m 271 #[.val (.int p1), .val (.int p2), .val (.int p3), .val (.ref b2), .val (.ref b95), .val (.int (17 : Int32)), .val (.double u2), .second, .val (.double u3), .second, .val (.double dq1), .second, .val (.long ((p3).toInt64 - (p2).toInt64)), .second] [(.double dq1)]) _
      refine XT.lload X256.here hx rfl (hb hby at_271) rfl ?_
      refine XD.l2d X256.here hx rfl (hb hby at_273) rfl hdq1 ?_
      refine XD.dcmplSame X256.here hx rfl (hb hby at_274) rfl hdq1 ?_
      refine XS.ifNo X256.here hx rfl (hb hby at_275) rfl (XT.i0_ne_f (by decide)) ?_
      show Sp p e below T256 (mkF m 278 #[.val (.int p1), .val (.int p2), .val (.int p3), .val (.ref b2), .val (.ref b95), .val (.int (17 : Int32)), .val (.double u2), .second, .val (.double u3), .second, .val (.double dq1), .second, .val (.long ((p3).toInt64 - (p2).toInt64)), .second] []) _
      refine XS.iconst X256.here hx rfl (hb hby at_278) ?_
      refine XS.goto X256.here hx rfl (pc0 := 279) (pc' := 283) rfl (hb hby at_279) (by decide) (by decide) ?_
      exact k
    obtain ⟨fs, hr, hrun, hended, hW, hsame⟩ := X256.leave (v := some (.int (1 : Int32))) (fun h => by rw [Bd.returns] at h; cases h)
    refine ⟨_, _, pre_259 _ ?_, hrun, hended, _, _, rfl, ?_, ⟨_, rfl⟩, hW, hsame.mono (by decide) (by decide)⟩
    · show Sp p e below T256 (mkF m 283 #[.val (.int p1), .val (.int p2), .val (.int p3), .val (.ref b2), .val (.ref b95), .val (.int (17 : Int32)), .val (.double u2), .second, .val (.double u3), .second, .val (.double dq1), .second, .val (.long ((p3).toInt64 - (p2).toInt64)), .second] [(.int (1 : Int32))]) _
      exact retN X256 hx (t := .boolean) Bd.returns (by simp) (hb hby at_283) hr
    · show Q_law Z _ _ _ _ _ _ _ _ _ _ _ _ _ _ _ _ _ _ _ _ _ h0 n0 _ T256.heap _
      rw [e256]
      exact ⟨rfl, N256⟩
set_option maxRecDepth 65536 in
set_option maxHeartbeats 40000000 in
theorem comes_1 {Post : Tables → Env → Array Value → State → Outcome → State → Prop} (hpost : ∀ tb e args s v u, (limb_1_1.after args s (.returned v) u = true ∧ limb_1_2.after args s (.returned v) u = true ∧ True) → FrameEnd s (.returned v) u (Jvm.fieldLocs frame_1_writes args s ++ Jvm.arrayLocs frame_1_arrays args s ++ Jvm.staticLocs frame_1_statics s) 16 192 → Post tb e args s (.returned v) u) :
    ArmFor flags0 classFile x code maxLocals ret World_1 tables_1 room_1 Calls_1 rest_1 Pre_1 Post := by
  intro l hfl _ _ p e ha hc hk s m args below hf hA hF happ hP
  obtain ⟨hcalls, hrest, hpre⟩ := hP
  obtain ⟨-, -, -, hnamed, -, -, -, hat⟩ := (Spec.applies_iff hf).mp happ
  obtain ⟨hg, hn⟩ := and_e (Cond.before_iff.mp (show (Jvm.Cond.and given_1 narrow_1).before args s = true from hpre))
  obtain ⟨hg0, hgs⟩ := and_e hg
  obtain ⟨w0, w1, w2, rfl⟩ : ∃ w0 w1 w2 : Value, args = #[w0, w1, w2] := by
    have hs : args.size = 3 := by simpa [Cond.value, given_1] using hg0
    obtain ⟨L⟩ := args
    match L, hs with
    | [w0, w1, w2], _ => exact ⟨w0, w1, w2, rfl⟩
  have hw := fun d (hd : d ∈ tables_1) => atoms_spec (ws := Jvm.Cond.code x code maxLocals ret :: tables_1) hat d (List.mem_cons_of_mem _ hd)
  have hfit : Fit s := fun {y c} hc i hi => by
    obtain ⟨ha, rfl⟩ := Array.getElem?_eq_some_iff.mp hc
    have q := List.all_eq_true.mp ((Array.all_eq_true_iff_forall_mem.mp hF) _ (Array.getElem_mem ha)) i (List.mem_range.mpr hi)
    simpa [Array.getElem?_eq_getElem hi] using q
  obtain ⟨ha0, hgs0⟩ := and_e hgs
  obtain ⟨i0, ei0⟩ := is_v ha0
  obtain rfl : w0 = (.int i0) := Option.some.inj ei0
  obtain ⟨ha1, hgs1⟩ := and_e hgs0
  obtain ⟨i1, ei1⟩ := is_v ha1
  obtain rfl : w1 = (.int i1) := Option.some.inj ei1
  obtain ⟨i2, ei2⟩ := is_v hgs1
  obtain rfl : w2 = (.int i2) := Option.some.inj ei2
  obtain ⟨hn0, hr0⟩ := and_e hn
  obtain ⟨hn1, hr1⟩ := and_e hr0
  obtain ⟨hn2, hr2⟩ := and_e hr1
  obtain ⟨hn3, hr3⟩ := and_e hr2
  obtain ⟨hn4, hr4⟩ := and_e hr3
  obtain ⟨hn5, hr5⟩ := and_e hr4
  obtain ⟨hn6, hr6⟩ := and_e hr5
  obtain ⟨hn7, hr7⟩ := and_e hr6
  obtain ⟨hn8, hr8⟩ := and_e hr7
  obtain ⟨hn9, hr9⟩ := and_e hr8
  obtain ⟨hn10, hr10⟩ := and_e hr9
  obtain ⟨hn11, hr11⟩ := and_e hr10
  obtain ⟨hn12, hr12⟩ := and_e hr11
  obtain ⟨hn13, hr13⟩ := and_e hr12
  obtain ⟨hn14, hr14⟩ := and_e hr13
  obtain ⟨hn15, hr15⟩ := and_e hr14
  obtain ⟨hn16, hr16⟩ := and_e hr15
  obtain ⟨hn17, hr17⟩ := and_e hr16
  obtain ⟨hn18, hr18⟩ := and_e hr17
  obtain ⟨hn19, hr19⟩ := and_e hr18
  obtain ⟨hn20, hr20⟩ := and_e hr19
  obtain ⟨hn21, hr21⟩ := and_e hr20
  obtain ⟨hn22, hr22⟩ := and_e hr21
  obtain ⟨hn23, hr23⟩ := and_e hr22
  obtain ⟨hn24, hr24⟩ := and_e hr23
  obtain ⟨hn25, hr25⟩ := and_e hr24
  obtain ⟨hn26, hr26⟩ := and_e hr25
  obtain ⟨hn27, hr27⟩ := and_e hr26
  obtain ⟨hn28, hr28⟩ := and_e hr27
  obtain ⟨hn29, hr29⟩ := and_e hr28
  obtain ⟨hn30, hr30⟩ := and_e hr29
  obtain ⟨hn31, hr31⟩ := and_e hr30
  obtain ⟨hn32, hr32⟩ := and_e hr31
  obtain ⟨hn33, hr33⟩ := and_e hr32
  obtain ⟨hn34, hr34⟩ := and_e hr33
  have hn35 := hr34
  obtain ⟨ap_ATTENUATION, evap_ATTENUATION⟩ := exa_v hn0
  have S_ap_ATTENUATION := Sta.start evap_ATTENUATION (Or.inr ⟨(own_w hw 3 rfl), (own_w hw 4 rfl)⟩)
  have E_ap_ATTENUATION := Exa.start evap_ATTENUATION hn0
  obtain ⟨ap_INSERTION_LOSS, evap_INSERTION_LOSS⟩ := exa_v hn1
  have S_ap_INSERTION_LOSS := Sta.start evap_INSERTION_LOSS (Or.inr ⟨(own_w hw 3 rfl), (own_w hw 7 rfl)⟩)
  have E_ap_INSERTION_LOSS := Exa.start evap_INSERTION_LOSS hn1
  obtain ⟨ap_NEXT, evap_NEXT⟩ := exa_v hn2
  have S_ap_NEXT := Sta.start evap_NEXT (Or.inr ⟨(own_w hw 3 rfl), (own_w hw 9 rfl)⟩)
  have E_ap_NEXT := Exa.start evap_NEXT hn2
  obtain ⟨ap_PSNEXT, evap_PSNEXT⟩ := exa_v hn3
  have S_ap_PSNEXT := Sta.start evap_PSNEXT (Or.inr ⟨(own_w hw 3 rfl), (own_w hw 11 rfl)⟩)
  have E_ap_PSNEXT := Exa.start evap_PSNEXT hn3
  obtain ⟨ap_ACR, evap_ACR⟩ := exa_v hn4
  have S_ap_ACR := Sta.start evap_ACR (Or.inr ⟨(own_w hw 3 rfl), (own_w hw 13 rfl)⟩)
  have E_ap_ACR := Exa.start evap_ACR hn4
  obtain ⟨ap_PSACR, evap_PSACR⟩ := exa_v hn5
  have S_ap_PSACR := Sta.start evap_PSACR (Or.inr ⟨(own_w hw 3 rfl), (own_w hw 15 rfl)⟩)
  have E_ap_PSACR := Exa.start evap_PSACR hn5
  obtain ⟨ap_ELFEXT, evap_ELFEXT⟩ := exa_v hn6
  have S_ap_ELFEXT := Sta.start evap_ELFEXT (Or.inr ⟨(own_w hw 3 rfl), (own_w hw 17 rfl)⟩)
  have E_ap_ELFEXT := Exa.start evap_ELFEXT hn6
  obtain ⟨ap_PSELFEXT, evap_PSELFEXT⟩ := exa_v hn7
  have S_ap_PSELFEXT := Sta.start evap_PSELFEXT (Or.inr ⟨(own_w hw 3 rfl), (own_w hw 19 rfl)⟩)
  have E_ap_PSELFEXT := Exa.start evap_PSELFEXT hn7
  obtain ⟨ap_RETURN_LOSS, evap_RETURN_LOSS⟩ := exa_v hn8
  have S_ap_RETURN_LOSS := Sta.start evap_RETURN_LOSS (Or.inr ⟨(own_w hw 3 rfl), (own_w hw 21 rfl)⟩)
  have E_ap_RETURN_LOSS := Exa.start evap_RETURN_LOSS hn8
  obtain ⟨ap_PROPAGATION_DELAY, evap_PROPAGATION_DELAY⟩ := exa_v hn9
  have S_ap_PROPAGATION_DELAY := Sta.start evap_PROPAGATION_DELAY (Or.inr ⟨(own_w hw 3 rfl), (own_w hw 23 rfl)⟩)
  have E_ap_PROPAGATION_DELAY := Exa.start evap_PROPAGATION_DELAY hn9
  obtain ⟨ap_DELAY_SKEW, evap_DELAY_SKEW⟩ := exa_v hn10
  have S_ap_DELAY_SKEW := Sta.start evap_DELAY_SKEW (Or.inr ⟨(own_w hw 3 rfl), (own_w hw 25 rfl)⟩)
  have E_ap_DELAY_SKEW := Exa.start evap_DELAY_SKEW hn10
  obtain ⟨ap_RESISTANCE, evap_RESISTANCE⟩ := exa_v hn11
  have S_ap_RESISTANCE := Sta.start evap_RESISTANCE (Or.inr ⟨(own_w hw 3 rfl), (own_w hw 27 rfl)⟩)
  have E_ap_RESISTANCE := Exa.start evap_RESISTANCE hn11
  obtain ⟨ap_LOOP_RESISTANCE, evap_LOOP_RESISTANCE⟩ := exa_v hn12
  have S_ap_LOOP_RESISTANCE := Sta.start evap_LOOP_RESISTANCE (Or.inr ⟨(own_w hw 3 rfl), (own_w hw 29 rfl)⟩)
  have E_ap_LOOP_RESISTANCE := Exa.start evap_LOOP_RESISTANCE hn12
  obtain ⟨ap_RESISTANCE_UNBALANCE, evap_RESISTANCE_UNBALANCE⟩ := exa_v hn13
  have S_ap_RESISTANCE_UNBALANCE := Sta.start evap_RESISTANCE_UNBALANCE (Or.inr ⟨(own_w hw 3 rfl), (own_w hw 31 rfl)⟩)
  have E_ap_RESISTANCE_UNBALANCE := Exa.start evap_RESISTANCE_UNBALANCE hn13
  obtain ⟨ap_PAIR_RESISTANCE_UNBALANCE, evap_PAIR_RESISTANCE_UNBALANCE⟩ := exa_v hn14
  have S_ap_PAIR_RESISTANCE_UNBALANCE := Sta.start evap_PAIR_RESISTANCE_UNBALANCE (Or.inr ⟨(own_w hw 3 rfl), (own_w hw 33 rfl)⟩)
  have E_ap_PAIR_RESISTANCE_UNBALANCE := Exa.start evap_PAIR_RESISTANCE_UNBALANCE hn14
  obtain ⟨ap_OPERATING_CAPACITANCE, evap_OPERATING_CAPACITANCE⟩ := exa_v hn15
  have S_ap_OPERATING_CAPACITANCE := Sta.start evap_OPERATING_CAPACITANCE (Or.inr ⟨(own_w hw 3 rfl), (own_w hw 35 rfl)⟩)
  have E_ap_OPERATING_CAPACITANCE := Exa.start evap_OPERATING_CAPACITANCE hn15
  obtain ⟨ap_INSULATION_RESISTANCE, evap_INSULATION_RESISTANCE⟩ := exa_v hn16
  have S_ap_INSULATION_RESISTANCE := Sta.start evap_INSULATION_RESISTANCE (Or.inr ⟨(own_w hw 3 rfl), (own_w hw 37 rfl)⟩)
  have E_ap_INSULATION_RESISTANCE := Exa.start evap_INSULATION_RESISTANCE hn16
  obtain ⟨ap_CAPACITANCE_UNBALANCE_EARTH, evap_CAPACITANCE_UNBALANCE_EARTH⟩ := exa_v hn17
  have S_ap_CAPACITANCE_UNBALANCE_EARTH := Sta.start evap_CAPACITANCE_UNBALANCE_EARTH (Or.inr ⟨(own_w hw 3 rfl), (own_w hw 39 rfl)⟩)
  have E_ap_CAPACITANCE_UNBALANCE_EARTH := Exa.start evap_CAPACITANCE_UNBALANCE_EARTH hn17
  have F_ap_ATTENUATION_maximum := Fld.start ((fld_at evap_ATTENUATION).symm.trans (own_eqc hn18))
  have F_ap_INSERTION_LOSS_maximum := Fld.start ((fld_at evap_INSERTION_LOSS).symm.trans (own_eqc hn19))
  have F_ap_NEXT_maximum := Fld.start ((fld_at evap_NEXT).symm.trans (own_eqc hn20))
  have F_ap_CAPACITANCE_UNBALANCE_EARTH_maximum := Fld.start ((fld_at evap_CAPACITANCE_UNBALANCE_EARTH).symm.trans (own_eqc hn21))
  have F_ap_RETURN_LOSS_maximum := Fld.start ((fld_at evap_RETURN_LOSS).symm.trans (own_eqc hn22))
  have F_ap_ELFEXT_maximum := Fld.start ((fld_at evap_ELFEXT).symm.trans (own_eqc hn23))
  have F_ap_PSELFEXT_maximum := Fld.start ((fld_at evap_PSELFEXT).symm.trans (own_eqc hn24))
  have F_ap_PSNEXT_maximum := Fld.start ((fld_at evap_PSNEXT).symm.trans (own_eqc hn25))
  have F_ap_DELAY_SKEW_maximum := Fld.start ((fld_at evap_DELAY_SKEW).symm.trans (own_eqc hn26))
  have F_ap_INSULATION_RESISTANCE_maximum := Fld.start ((fld_at evap_INSULATION_RESISTANCE).symm.trans (own_eqc hn27))
  have F_ap_LOOP_RESISTANCE_maximum := Fld.start ((fld_at evap_LOOP_RESISTANCE).symm.trans (own_eqc hn28))
  have F_ap_RESISTANCE_maximum := Fld.start ((fld_at evap_RESISTANCE).symm.trans (own_eqc hn29))
  have F_ap_RESISTANCE_UNBALANCE_maximum := Fld.start ((fld_at evap_RESISTANCE_UNBALANCE).symm.trans (own_eqc hn30))
  have F_ap_PROPAGATION_DELAY_maximum := Fld.start ((fld_at evap_PROPAGATION_DELAY).symm.trans (own_eqc hn31))
  have F_ap_OPERATING_CAPACITANCE_maximum := Fld.start ((fld_at evap_OPERATING_CAPACITANCE).symm.trans (own_eqc hn32))
  have F_ap_PSACR_maximum := Fld.start ((fld_at evap_PSACR).symm.trans (own_eqc hn33))
  have F_ap_PAIR_RESISTANCE_UNBALANCE_maximum := Fld.start ((fld_at evap_PAIR_RESISTANCE_UNBALANCE).symm.trans (own_eqc hn34))
  have F_ap_ACR_maximum := Fld.start ((fld_at evap_ACR).symm.trans (own_eqc hn35))
  obtain ⟨n, o, h1, h2, h3, _, L, rfl, ⟨rfl, N⟩, hq⟩ := rm_law l s _ hw tables_1 i0 i1 i2 ap_ATTENUATION ap_INSERTION_LOSS ap_NEXT ap_PSNEXT ap_ACR ap_PSACR ap_ELFEXT ap_PSELFEXT ap_RETURN_LOSS ap_PROPAGATION_DELAY ap_DELAY_SKEW ap_RESISTANCE ap_LOOP_RESISTANCE ap_RESISTANCE_UNBALANCE ap_PAIR_RESISTANCE_UNBALANCE ap_OPERATING_CAPACITANCE ap_INSULATION_RESISTANCE ap_CAPACITANCE_UNBALANCE_EARTH s.heap s.heap.size (Old.start s) S_ap_ATTENUATION E_ap_ATTENUATION S_ap_INSERTION_LOSS E_ap_INSERTION_LOSS S_ap_NEXT E_ap_NEXT S_ap_PSNEXT E_ap_PSNEXT S_ap_ACR E_ap_ACR S_ap_PSACR E_ap_PSACR S_ap_ELFEXT E_ap_ELFEXT S_ap_PSELFEXT E_ap_PSELFEXT S_ap_RETURN_LOSS E_ap_RETURN_LOSS S_ap_PROPAGATION_DELAY E_ap_PROPAGATION_DELAY S_ap_DELAY_SKEW E_ap_DELAY_SKEW S_ap_RESISTANCE E_ap_RESISTANCE S_ap_LOOP_RESISTANCE E_ap_LOOP_RESISTANCE S_ap_RESISTANCE_UNBALANCE E_ap_RESISTANCE_UNBALANCE S_ap_PAIR_RESISTANCE_UNBALANCE E_ap_PAIR_RESISTANCE_UNBALANCE S_ap_OPERATING_CAPACITANCE E_ap_OPERATING_CAPACITANCE S_ap_INSULATION_RESISTANCE E_ap_INSULATION_RESISTANCE S_ap_CAPACITANCE_UNBALANCE_EARTH E_ap_CAPACITANCE_UNBALANCE_EARTH F_ap_ATTENUATION_maximum F_ap_INSERTION_LOSS_maximum F_ap_NEXT_maximum F_ap_CAPACITANCE_UNBALANCE_EARTH_maximum F_ap_RETURN_LOSS_maximum F_ap_ELFEXT_maximum F_ap_PSELFEXT_maximum F_ap_PSNEXT_maximum F_ap_DELAY_SKEW_maximum F_ap_INSULATION_RESISTANCE_maximum F_ap_LOOP_RESISTANCE_maximum F_ap_RESISTANCE_maximum F_ap_RESISTANCE_UNBALANCE_maximum F_ap_PROPAGATION_DELAY_maximum F_ap_OPERATING_CAPACITANCE_maximum F_ap_PSACR_maximum F_ap_PAIR_RESISTANCE_UNBALANCE_maximum F_ap_ACR_maximum p e ha hc hk s m _ below hf ((Spec.applies_iff_loose hf).mp happ).1 ⟨rfl, State.Warmed39.refl s, rfl⟩ trivial
  refine ⟨n, _, h1, h2, h3, hpost _ _ _ _ _ _ ⟨Cond.after_iff.mpr rfl, Cond.after_iff.mpr (eq_i res_at (Term.int_eval (1)) rfl), trivial⟩ ⟨hq.1, hq.2.1, (hq.2.2.sift fun y hy => Or.inr (N y hy)).mono (by decide) (by decide)⟩⟩
theorem main_1_1 : Claimed_1_1 := comes_1 fun _ _ _ _ _ _ h hF => ⟨h.1, hF⟩
theorem main_1_2 : Claimed_1_2 := comes_1 fun _ _ _ _ _ _ h hF => ⟨h.2.1, hF⟩
end Jvm.Pilot.@@N@@
namespace Jvm.Pilot.@@N@@
open Jvm Jvm.ClassFile Sem Op Lib Jvm.Free Jvm.Stand Jvm.Pilot.@@N@@.Jvm.D
/-! MADE BY PROGRAM (witnessworld.py) out of the Statement's table words and the real class files: 15 classes; the members and pool entries that the words name. The judged class is class 1, her method 1. -/
namespace start1
open Jvm.ClassFile
def u (s : String) : CpInfo := .utf8 (stringToUtf16 s)
/-- a pool by its gaps: so many unusable entries, then the entry; so many at the end -/
def gap : Nat → List CpInfo → List CpInfo
  | 0, r => r
  | n + 1, r => .unusable :: gap n r
def poolList (es : List (Nat × CpInfo)) (last : Nat) : List CpInfo := es.foldr (fun e r => gap e.1 (e.2 :: r)) (gap last [])
def pool (es : List (Nat × CpInfo)) (last : Nat) : Array CpInfo := ⟨poolList es last⟩
def fileOf (pool : Array CpInfo) (this : Nat) (attrs : Array Attribute := #[]) (ms : Array MethodInfo := #[]) (fl : Nat := 33) (sup : Nat := 0) (ifs : Array Nat := #[]) (fds : Array FieldInfo := #[]) : ClassFile where
  minorVersion := 0
  majorVersion := 65
  constantPool := pool
  accessFlags := fl
  thisClass := this
  superClass := sup
  interfaces := ifs
  fields := fds
  methods := ms
  attributes := attrs
def plain (name : String) (sup : Option ClassId) : Class where
  name := name
  kind := .ordinary
  loader := none
  accessFlags := 33
  super := sup
  interfaces := #[]
  cf := none
  fields := #[]
  methods := #[]
  instanceTypes := #[]
  staticTypes := #[]
  resolved := #[]
  callSites := []
  init := .initialized
  statics := none
  mirror := none

def pool0 : Array CpInfo := pool [(5, u "<init>"), (0, u "()V"), (1, .class_ 10), (1, u "java/lang/Object")] 113

def k0m0 : Method := { name := "<init>", desc := "()V", sig := { parameters := [], returnType := none }, accessFlags := 1, code := none }
/-- java/lang/Object -/
def k0 : Class := { plain "java/lang/Object" none with
  accessFlags := 33
  interfaces := #[]
  cf := some (fileOf pool0 8 #[] #[{ accessFlags := 1, nameIndex := 5, descriptorIndex := 6, attributes := #[] }] 33 0 #[] #[])
  fields := #[]
  methods := #[k0m0]
  instanceTypes := #[]
  staticTypes := #[]
  resolved := Array.replicate 124 none
  statics := none }

def pool1 : Array CpInfo := pool [(2, .class_ 4), (1, u "java/lang/Object"), (0, u "<init>"), (0, u "()V"), (0, .class_ 8), (0, u "com/example/twistgauge/twistgauge/limitset/Parameter"), (0, .fieldref 7 10), (0, .nameAndType 11 12), (0, u "ATTENUATION"), (0, u "Lcom/example/twistgauge/twistgauge/limitset/Parameter;"), (0, .fieldref 7 14), (0, .nameAndType 15 12), (0, u "INSERTION_LOSS"), (0, .fieldref 7 17), (0, .nameAndType 18 12), (0, u "NEXT"), (0, .fieldref 7 20), (0, .nameAndType 21 12), (0, u "PSNEXT"), (0, .fieldref 7 23), (0, .nameAndType 24 12), (0, u "ACR"), (0, .fieldref 7 26), (0, .nameAndType 27 12), (0, u "PSACR"), (0, .fieldref 7 29), (0, .nameAndType 30 12), (0, u "ELFEXT"), (0, .fieldref 7 32), (0, .nameAndType 33 12), (0, u "PSELFEXT"), (0, .fieldref 7 35), (0, .nameAndType 36 12), (0, u "RETURN_LOSS"), (0, .fieldref 7 38), (0, .nameAndType 39 12), (0, u "PROPAGATION_DELAY"), (0, .fieldref 7 41), (0, .nameAndType 42 12), (0, u "DELAY_SKEW"), (0, .fieldref 7 44), (0, .nameAndType 45 12), (0, u "RESISTANCE"), (0, .fieldref 7 47), (0, .nameAndType 48 12), (0, u "LOOP_RESISTANCE"), (0, .fieldref 7 50), (0, .nameAndType 51 12), (0, u "RESISTANCE_UNBALANCE"), (0, .fieldref 7 53), (0, .nameAndType 54 12), (0, u "PAIR_RESISTANCE_UNBALANCE"), (0, .fieldref 7 56), (0, .nameAndType 57 12), (0, u "OPERATING_CAPACITANCE"), (0, .fieldref 7 59), (0, .nameAndType 60 12), (0, u "INSULATION_RESISTANCE"), (0, .fieldref 7 62), (0, .nameAndType 63 12), (0, u "CAPACITANCE_UNBALANCE_EARTH"), (0, .integer 2147483647), (0, .methodref 7 66), (0, .nameAndType 67 68), (0, u "margin"), (0, u "(DD)D"), (0, .class_ 70), (0, u "com/example/twistgauge/twistgauge/limitset/ParameterMarginPinLaw"), (2, u "law"), (0, u "(III)Z")] 7

def k1m0 : Method := { name := "<init>", desc := "()V", sig := { parameters := [], returnType := none }, accessFlags := 1, code := none }
def k1c1 : Code := { maxStack := 5, maxLocals := 14, code := code, exceptionTable := #[], attributes := #[] }
def k1m1 : Method := { name := "law", desc := "(III)Z", sig := { parameters := [.int, .int, .int], returnType := some .boolean }, accessFlags := 9, code := some k1c1 }
/-- com/example/twistgauge/twistgauge/limitset/ParameterMarginPinLaw -/
def k1 : Class := { plain "com/example/twistgauge/twistgauge/limitset/ParameterMarginPinLaw" (some 0) with
  accessFlags := 49
  interfaces := #[]
  cf := some (fileOf pool1 69 #[] #[{ accessFlags := 1, nameIndex := 5, descriptorIndex := 6, attributes := #[] }, { accessFlags := 9, nameIndex := 73, descriptorIndex := 74, attributes := #[] }] 49 2 #[] #[])
  fields := #[]
  methods := #[k1m0, k1m1]
  instanceTypes := #[]
  staticTypes := #[]
  resolved := Array.replicate 82 none
  statics := none }

def pool2 : Array CpInfo := pool [(1, .class_ 2), (0, u "java/lang/constant/Constable"), (0, .class_ 4), (0, u "java/lang/Object")] 6

/-- java/lang/constant/Constable -/
def k2 : Class := { plain "java/lang/constant/Constable" (some 0) with
  accessFlags := 1537
  interfaces := #[]
  cf := some (fileOf pool2 1 #[] #[] 1537 3 #[] #[])
  fields := #[]
  methods := #[]
  instanceTypes := #[]
  staticTypes := #[]
  resolved := Array.replicate 11 none
  statics := none }

def pool3 : Array CpInfo := pool [(1, .class_ 2), (0, u "java/lang/Comparable"), (0, .class_ 4), (0, u "java/lang/Object")] 7

/-- java/lang/Comparable -/
def k3 : Class := { plain "java/lang/Comparable" (some 0) with
  accessFlags := 1537
  interfaces := #[]
  cf := some (fileOf pool3 1 #[] #[] 1537 3 #[] #[])
  fields := #[]
  methods := #[]
  instanceTypes := #[]
  staticTypes := #[]
  resolved := Array.replicate 12 none
  statics := none }

def pool4 : Array CpInfo := pool [(1, .class_ 2), (0, u "java/io/Serializable"), (0, .class_ 4), (0, u "java/lang/Object")] 2

/-- java/io/Serializable -/
def k4 : Class := { plain "java/io/Serializable" (some 0) with
  accessFlags := 1537
  interfaces := #[]
  cf := some (fileOf pool4 1 #[] #[] 1537 3 #[] #[])
  fields := #[]
  methods := #[]
  instanceTypes := #[]
  staticTypes := #[]
  resolved := Array.replicate 7 none
  statics := none }

def pool5 : Array CpInfo := pool [(2, .class_ 4), (1, u "java/lang/Enum"), (0, u "name"), (0, u "Ljava/lang/String;"), (2, u "ordinal"), (0, u "I"), (1, .class_ 14), (1, u "java/lang/Object"), (4, u "hash"), (86, .class_ 108), (1, u "java/lang/Enum$EnumDesc"), (2, .class_ 112), (0, u "java/lang/constant/Constable"), (0, .class_ 114), (0, u "java/lang/Comparable"), (0, .class_ 116), (0, u "java/io/Serializable")] 87

/-- java/lang/Enum -/
def k5 : Class := { plain "java/lang/Enum" (some 0) with
  accessFlags := 1057
  interfaces := #[2, 3, 4]
  cf := some (fileOf pool5 2 #[.nestMembers #[106]] #[] 1057 12 #[111, 113, 115] #[{ accessFlags := 18, nameIndex := 5, descriptorIndex := 6, attributes := #[] }, { accessFlags := 18, nameIndex := 9, descriptorIndex := 10, attributes := #[] }, { accessFlags := 2, nameIndex := 19, descriptorIndex := 10, attributes := #[] }])
  fields := #[{ name := "name", type := (.object "java/lang/String"), accessFlags := 18, slot := 0, constantValue := 0 }, { name := "ordinal", type := .int, accessFlags := 18, slot := 1, constantValue := 0 }, { name := "hash", type := .int, accessFlags := 2, slot := 2, constantValue := 0 }]
  methods := #[]
  instanceTypes := #[(.object "java/lang/String"), .int, .int]
  staticTypes := #[]
  resolved := Array.replicate 204 none
  statics := none }

def pool6 : Array CpInfo := pool [(1, .class_ 2), (0, u "com/example/twistgauge/twistgauge/limitset/Parameter"), (2, u "ATTENUATION"), (0, u "Lcom/example/twistgauge/twistgauge/limitset/Parameter;"), (2, u "INSERTION_LOSS"), (2, u "NEXT"), (2, u "PSNEXT"), (2, u "ACR"), (2, u "PSACR"), (2, u "ELFEXT"), (2, u "PSELFEXT"), (2, u "RETURN_LOSS"), (2, u "PROPAGATION_DELAY"), (2, u "DELAY_SKEW"), (2, u "RESISTANCE"), (2, u "LOOP_RESISTANCE"), (2, u "RESISTANCE_UNBALANCE"), (2, u "PAIR_RESISTANCE_UNBALANCE"), (2, u "OPERATING_CAPACITANCE"), (2, u "INSULATION_RESISTANCE"), (2, u "CAPACITANCE_UNBALANCE_EARTH"), (2, u "$VALUES"), (0, u "[Lcom/example/twistgauge/twistgauge/limitset/Parameter;"), (6, .class_ 70), (1, u "java/lang/Enum"), (8, u "identifier"), (0, u "Ljava/lang/String;"), (0, .fieldref 1 82), (0, .nameAndType 83 84), (0, u "maximum"), (0, u "Z"), (2, u "directCurrent"), (2, u "unit"), (0, u "Lcom/example/twistgauge/twistgauge/limitset/Parameter$Unit;"), (5, .class_ 99), (1, u "com/example/twistgauge/twistgauge/limitset/Parameter$Unit"), (100, u "margin"), (0, u "(DD)D")] 23

def k6c0 : Code := { maxStack := 4, maxLocals := 5, code := prog_37_method_10_code, exceptionTable := #[], attributes := #[] }
def k6m0 : Method := { name := "margin", desc := "(DD)D", sig := { parameters := [.double, .double], returnType := some .double }, accessFlags := 1, code := some k6c0 }
/-- com/example/twistgauge/twistgauge/limitset/Parameter -/
def k6 : Class := { plain "com/example/twistgauge/twistgauge/limitset/Parameter" (some 5) with
  accessFlags := 16433
  interfaces := #[]
  cf := some (fileOf pool6 1 #[.nestMembers #[97]] #[{ accessFlags := 1, nameIndex := 200, descriptorIndex := 201, attributes := #[] }] 16433 68 #[] #[{ accessFlags := 16409, nameIndex := 5, descriptorIndex := 6, attributes := #[] }, { accessFlags := 16409, nameIndex := 9, descriptorIndex := 6, attributes := #[] }, { accessFlags := 16409, nameIndex := 12, descriptorIndex := 6, attributes := #[] }, { accessFlags := 16409, nameIndex := 15, descriptorIndex := 6, attributes := #[] }, { accessFlags := 16409, nameIndex := 18, descriptorIndex := 6, attributes := #[] }, { accessFlags := 16409, nameIndex := 21, descriptorIndex := 6, attributes := #[] }, { accessFlags := 16409, nameIndex := 24, descriptorIndex := 6, attributes := #[] }, { accessFlags := 16409, nameIndex := 27, descriptorIndex := 6, attributes := #[] }, { accessFlags := 16409, nameIndex := 30, descriptorIndex := 6, attributes := #[] }, { accessFlags := 16409, nameIndex := 33, descriptorIndex := 6, attributes := #[] }, { accessFlags := 16409, nameIndex := 36, descriptorIndex := 6, attributes := #[] }, { accessFlags := 16409, nameIndex := 39, descriptorIndex := 6, attributes := #[] }, { accessFlags := 16409, nameIndex := 42, descriptorIndex := 6, attributes := #[] }, { accessFlags := 16409, nameIndex := 45, descriptorIndex := 6, attributes := #[] }, { accessFlags := 16409, nameIndex := 48, descriptorIndex := 6, attributes := #[] }, { accessFlags := 16409, nameIndex := 51, descriptorIndex := 6, attributes := #[] }, { accessFlags := 16409, nameIndex := 54, descriptorIndex := 6, attributes := #[] }, { accessFlags := 16409, nameIndex := 57, descriptorIndex := 6, attributes := #[] }, { accessFlags := 18, nameIndex := 79, descriptorIndex := 80, attributes := #[] }, { accessFlags := 18, nameIndex := 83, descriptorIndex := 84, attributes := #[] }, { accessFlags := 18, nameIndex := 87, descriptorIndex := 84, attributes := #[] }, { accessFlags := 18, nameIndex := 90, descriptorIndex := 91, attributes := #[] }, { accessFlags := 4122, nameIndex := 60, descriptorIndex := 61, attributes := #[] }])
  fields := #[{ name := "ATTENUATION", type := (.object "com/example/twistgauge/twistgauge/limitset/Parameter"), accessFlags := 16409, slot := 0, constantValue := 0 }, { name := "INSERTION_LOSS", type := (.object "com/example/twistgauge/twistgauge/limitset/Parameter"), accessFlags := 16409, slot := 1, constantValue := 0 }, { name := "NEXT", type := (.object "com/example/twistgauge/twistgauge/limitset/Parameter"), accessFlags := 16409, slot := 2, constantValue := 0 }, { name := "PSNEXT", type := (.object "com/example/twistgauge/twistgauge/limitset/Parameter"), accessFlags := 16409, slot := 3, constantValue := 0 }, { name := "ACR", type := (.object "com/example/twistgauge/twistgauge/limitset/Parameter"), accessFlags := 16409, slot := 4, constantValue := 0 }, { name := "PSACR", type := (.object "com/example/twistgauge/twistgauge/limitset/Parameter"), accessFlags := 16409, slot := 5, constantValue := 0 }, { name := "ELFEXT", type := (.object "com/example/twistgauge/twistgauge/limitset/Parameter"), accessFlags := 16409, slot := 6, constantValue := 0 }, { name := "PSELFEXT", type := (.object "com/example/twistgauge/twistgauge/limitset/Parameter"), accessFlags := 16409, slot := 7, constantValue := 0 }, { name := "RETURN_LOSS", type := (.object "com/example/twistgauge/twistgauge/limitset/Parameter"), accessFlags := 16409, slot := 8, constantValue := 0 }, { name := "PROPAGATION_DELAY", type := (.object "com/example/twistgauge/twistgauge/limitset/Parameter"), accessFlags := 16409, slot := 9, constantValue := 0 }, { name := "DELAY_SKEW", type := (.object "com/example/twistgauge/twistgauge/limitset/Parameter"), accessFlags := 16409, slot := 10, constantValue := 0 }, { name := "RESISTANCE", type := (.object "com/example/twistgauge/twistgauge/limitset/Parameter"), accessFlags := 16409, slot := 11, constantValue := 0 }, { name := "LOOP_RESISTANCE", type := (.object "com/example/twistgauge/twistgauge/limitset/Parameter"), accessFlags := 16409, slot := 12, constantValue := 0 }, { name := "RESISTANCE_UNBALANCE", type := (.object "com/example/twistgauge/twistgauge/limitset/Parameter"), accessFlags := 16409, slot := 13, constantValue := 0 }, { name := "PAIR_RESISTANCE_UNBALANCE", type := (.object "com/example/twistgauge/twistgauge/limitset/Parameter"), accessFlags := 16409, slot := 14, constantValue := 0 }, { name := "OPERATING_CAPACITANCE", type := (.object "com/example/twistgauge/twistgauge/limitset/Parameter"), accessFlags := 16409, slot := 15, constantValue := 0 }, { name := "INSULATION_RESISTANCE", type := (.object "com/example/twistgauge/twistgauge/limitset/Parameter"), accessFlags := 16409, slot := 16, constantValue := 0 }, { name := "CAPACITANCE_UNBALANCE_EARTH", type := (.object "com/example/twistgauge/twistgauge/limitset/Parameter"), accessFlags := 16409, slot := 17, constantValue := 0 }, { name := "identifier", type := (.object "java/lang/String"), accessFlags := 18, slot := 3, constantValue := 0 }, { name := "maximum", type := .boolean, accessFlags := 18, slot := 4, constantValue := 0 }, { name := "directCurrent", type := .boolean, accessFlags := 18, slot := 5, constantValue := 0 }, { name := "unit", type := (.object "com/example/twistgauge/twistgauge/limitset/Parameter$Unit"), accessFlags := 18, slot := 6, constantValue := 0 }, { name := "$VALUES", type := (.array (.object "com/example/twistgauge/twistgauge/limitset/Parameter")), accessFlags := 4122, slot := 18, constantValue := 0 }]
  methods := #[k6m0]
  instanceTypes := #[(.object "java/lang/String"), .int, .int, (.object "java/lang/String"), .boolean, .boolean, (.object "com/example/twistgauge/twistgauge/limitset/Parameter$Unit")]
  staticTypes := #[(.object "com/example/twistgauge/twistgauge/limitset/Parameter"), (.object "com/example/twistgauge/twistgauge/limitset/Parameter"), (.object "com/example/twistgauge/twistgauge/limitset/Parameter"), (.object "com/example/twistgauge/twistgauge/limitset/Parameter"), (.object "com/example/twistgauge/twistgauge/limitset/Parameter"), (.object "com/example/twistgauge/twistgauge/limitset/Parameter"), (.object "com/example/twistgauge/twistgauge/limitset/Parameter"), (.object "com/example/twistgauge/twistgauge/limitset/Parameter"), (.object "com/example/twistgauge/twistgauge/limitset/Parameter"), (.object "com/example/twistgauge/twistgauge/limitset/Parameter"), (.object "com/example/twistgauge/twistgauge/limitset/Parameter"), (.object "com/example/twistgauge/twistgauge/limitset/Parameter"), (.object "com/example/twistgauge/twistgauge/limitset/Parameter"), (.object "com/example/twistgauge/twistgauge/limitset/Parameter"), (.object "com/example/twistgauge/twistgauge/limitset/Parameter"), (.object "com/example/twistgauge/twistgauge/limitset/Parameter"), (.object "com/example/twistgauge/twistgauge/limitset/Parameter"), (.object "com/example/twistgauge/twistgauge/limitset/Parameter"), (.array (.object "com/example/twistgauge/twistgauge/limitset/Parameter"))]
  resolved := Array.replicate 225 none
  statics := some 0 }

def pool7 : Array CpInfo := pool [(1, u "java/lang/Cloneable"), (0, .class_ 1), (0, u "java/lang/Object"), (0, .class_ 3)] 3

/-- java/lang/Cloneable -/
def k7 : Class := { plain "java/lang/Cloneable" (some 0) with
  accessFlags := 1537
  interfaces := #[]
  cf := some (fileOf pool7 2 #[] #[] 1537 4 #[] #[])
  fields := #[]
  methods := #[]
  instanceTypes := #[]
  staticTypes := #[]
  resolved := Array.replicate 8 none
  statics := none }

/-- the primitive boolean -/
def k8 : Class := { plain "boolean" none with kind := .primitive 'Z', accessFlags := 0x411 }
/-- [Z -/
def k9 : Class := { plain "[Z" (some 0) with kind := .array 8 .boolean, interfaces := #[7, 4], accessFlags := 1041 }

/-- the primitive byte -/
def k10 : Class := { plain "byte" none with kind := .primitive 'B', accessFlags := 0x411 }
/-- [B -/
def k11 : Class := { plain "[B" (some 0) with kind := .array 10 .byte, interfaces := #[7, 4], accessFlags := 1041 }

/-- the primitive int -/
def k12 : Class := { plain "int" none with kind := .primitive 'I', accessFlags := 0x411 }
/-- [I -/
def k13 : Class := { plain "[I" (some 0) with kind := .array 12 .int, interfaces := #[7, 4], accessFlags := 1041 }

/-- [Lcom/example/twistgauge/twistgauge/limitset/Parameter; -/
def k14 : Class := { plain "[Lcom/example/twistgauge/twistgauge/limitset/Parameter;" (some 0) with kind := .array 6 (.object "com/example/twistgauge/twistgauge/limitset/Parameter"), interfaces := #[7, 4], accessFlags := 1041 }

def heap : Heap := #[{ cls := 6, slots := #[.ref 1, .ref 2, .ref 3, .ref 4, .ref 5, .ref 6, .ref 7, .ref 8, .ref 9, .ref 10, .ref 11, .ref 12, .ref 13, .ref 14, .ref 15, .ref 16, .ref 17, .ref 18, .null], vm := .statics 6 },
  { cls := 6, slots := #[.null, .int 0, .int 0, .null, .int 1, .int 1, .null], vm := .none },
  { cls := 6, slots := #[.null, .int 1, .int 0, .null, .int 1, .int 1, .null], vm := .none },
  { cls := 6, slots := #[.null, .int 2, .int 0, .null, .int 0, .int 0, .null], vm := .none },
  { cls := 6, slots := #[.null, .int 3, .int 0, .null, .int 0, .int 0, .null], vm := .none },
  { cls := 6, slots := #[.null, .int 4, .int 0, .null, .int 0, .int 0, .null], vm := .none },
  { cls := 6, slots := #[.null, .int 5, .int 0, .null, .int 0, .int 0, .null], vm := .none },
  { cls := 6, slots := #[.null, .int 6, .int 0, .null, .int 0, .int 0, .null], vm := .none },
  { cls := 6, slots := #[.null, .int 7, .int 0, .null, .int 0, .int 0, .null], vm := .none },
  { cls := 6, slots := #[.null, .int 8, .int 0, .null, .int 0, .int 0, .null], vm := .none },
  { cls := 6, slots := #[.null, .int 9, .int 0, .null, .int 1, .int 1, .null], vm := .none },
  { cls := 6, slots := #[.null, .int 10, .int 0, .null, .int 1, .int 1, .null], vm := .none },
  { cls := 6, slots := #[.null, .int 11, .int 0, .null, .int 1, .int 1, .null], vm := .none },
  { cls := 6, slots := #[.null, .int 12, .int 0, .null, .int 1, .int 1, .null], vm := .none },
  { cls := 6, slots := #[.null, .int 13, .int 0, .null, .int 1, .int 1, .null], vm := .none },
  { cls := 6, slots := #[.null, .int 14, .int 0, .null, .int 1, .int 1, .null], vm := .none },
  { cls := 6, slots := #[.null, .int 15, .int 0, .null, .int 1, .int 1, .null], vm := .none },
  { cls := 6, slots := #[.null, .int 16, .int 0, .null, .int 0, .int 0, .null], vm := .none },
  { cls := 6, slots := #[.null, .int 17, .int 0, .null, .int 1, .int 1, .null], vm := .none }]
def classes : Array Class := #[k0, k1, k2, k3, k4, k5, k6, k7, k8, k9, k10, k11, k12, k13, k14]
def interned : List (Array UInt16 × Addr) := []
def slotsUsed : Nat := 145
def theMethod : MethodId := ⟨1, 1⟩
def args0 : Array Value := #[.int 5, .int 6, .int 2]
def aboutOver (below : List Frame) : State where
  vm := { classes := classes, interned := interned.toArray }
  heap := heap
  slotsUsed := slotsUsed
  threads := #[{ frames := .invoking theMethod args0 :: below }]
def below0 : List Frame := [.native { method := ⟨0, 0⟩, args := #[] }]
def about1 : State := aboutOver below0
def p0 : Program := .bare "" "" ""
def e0 : Env := launch0.env 0 0 0
theorem w_frames : about1.frames = Frame.invoking theMethod args0 :: below0 := rfl
set_option maxRecDepth 65536 in
theorem w_args : argsFit about1.vm theMethod args0 = true := by decide +kernel
set_option maxRecDepth 65536 in
theorem w_heap : heapFits about1 = true := by decide +kernel
set_option maxRecDepth 65536 in
theorem w_runnable : about1.curStatus? = some .runnable := by decide +kernel
set_option maxRecDepth 65536 in
theorem w_alone : about1.alone = true := by decide +kernel
set_option maxRecDepth 65536 in
theorem w_named : about1.methodNamed? x = some theMethod := by decide +kernel
set_option maxRecDepth 65536 in
theorem w_hears : about1.hears theMethod below0 = true := by decide +kernel
set_option maxRecDepth 65536 in
theorem w_ripe : about1.ripe theMethod args0 below0 = true := by decide +kernel
theorem w_running : about1.status = .running := rfl
set_option maxRecDepth 65536 in
theorem w_room : about1.hasRoom e0.platform room_1 = true :=
  launch0.hasRoom_least _ room_1 (by decide +kernel) (by decide +kernel) (by decide +kernel) (by decide +kernel) (by decide +kernel) (by decide +kernel)
theorem allAtoms_all (ts : List Jvm.Cond) (a : Array Jvm.Value) (st : Jvm.State) : (allAtoms ts).before a st = ts.all (fun c => c.before a st) := by
  induction ts with
  | nil => rfl
  | cons c t ih =>
    show (Jvm.Cond.and c (allAtoms t)).before a st = _
    rw [Jvm.Cond.before_and, ih, List.all_cons]
def words1 : List Jvm.Cond := Jvm.Cond.code x code maxLocals ret :: tables_1
/-- a 'code' word, met by the world's own term for the bytes: nothing is compared byte by byte -/
theorem code_word {y : MethodName} {bytes : ByteArray} {mx : Nat} {rt : Option FieldType} {a : Array Value} {s : State} {m : MethodId} {meth : Method} {c : Code} (h1 : s.methodNamed? y = some m) (h2 : s.vm.method? m = some meth) (h3 : meth.code = some c) (h4 : c.code = bytes)
    (h5 : (c.maxLocals == mx && c.exceptionTable.isEmpty && decide (c.maxStack ≤ mostOperands) && decide (meth.sig.returnType = rt) && !meth.locks && decide (parseMethodDescriptor y.desc = some meth.sig)) = true) : (Jvm.Cond.code y bytes mx rt).before a s = true := by
  simp only [Bool.and_eq_true, beq_iff_eq, Bool.not_eq_true', decide_eq_true_eq] at h5
  obtain ⟨⟨⟨⟨⟨g1, g2⟩, g3⟩, g4⟩, g5⟩, g6⟩ := h5
  simp [Cond.before, Cond.holds, Cond.value, h1, h2, h3, h4, g1, g2, g3, g4, g5, g6]
def isCode : Jvm.Cond → Bool
  | .code _ _ _ _ => true
  | _ => false
theorem all_split {L : List Jvm.Cond} {P : Jvm.Cond → Bool} (h1 : L.all (fun c => isCode c || P c) = true) (h2 : ∀ c ∈ L.filter isCode, P c = true) : L.all P = true := by
  refine List.all_eq_true.mpr fun c hc => ?_
  have h := List.all_eq_true.mp h1 c hc
  rcases Bool.eq_false_or_eq_true (isCode c) with hi | hi
  · exact h2 c (List.mem_filter.mpr ⟨hc, hi⟩)
  · simpa [hi] using h
set_option maxRecDepth 65536 in
theorem w_c0 : (Jvm.Cond.code x code maxLocals ret).before args0 about1 = true := code_word (m := ⟨1, 1⟩) (meth := k1m1) (c := k1c1) (by decide +kernel) rfl rfl rfl (by decide +kernel)
set_option maxRecDepth 65536 in
theorem w_c1 : (Jvm.Cond.code ({ cls := "com/example/twistgauge/twistgauge/limitset/Parameter", name := "margin", desc := "(DD)D" } : Jvm.MethodName) prog_37_method_10_code (5 : Nat) (Option.some Jvm.ClassFile.FieldType.double)).before args0 about1 = true := code_word (m := ⟨6, 0⟩) (meth := k6m0) (c := k6c0) (by decide +kernel) rfl rfl rfl (by decide +kernel)
def codes1 : List Jvm.Cond := [Jvm.Cond.code x code maxLocals ret, Jvm.Cond.code ({ cls := "com/example/twistgauge/twistgauge/limitset/Parameter", name := "margin", desc := "(DD)D" } : Jvm.MethodName) prog_37_method_10_code (5 : Nat) (Option.some Jvm.ClassFile.FieldType.double)]
set_option maxRecDepth 65536 in
theorem codes_eq : words1.filter isCode = codes1 := rfl
theorem w_codes : ∀ c ∈ words1.filter isCode, c.before args0 about1 = true := by
  rw [codes_eq]
  intro c hc
  simp only [codes1, List.mem_cons, List.not_mem_nil, or_false] at hc
  rcases hc with rfl | rfl
  · exact w_c0
  · exact w_c1
set_option maxRecDepth 65536 in
theorem w_t1 : (words1.take 24).all (fun c => isCode c || c.before args0 about1) = true := by decide +kernel
set_option maxRecDepth 65536 in
theorem w_t2 : ((words1.drop 24).take 24).all (fun c => isCode c || c.before args0 about1) = true := by decide +kernel
set_option maxRecDepth 65536 in
theorem w_t3 : ((words1.drop 24).drop 24).all (fun c => isCode c || c.before args0 about1) = true := by decide +kernel
theorem w_tables : (allAtoms (Jvm.Cond.code x code maxLocals ret :: tables_1)).before args0 about1 = true := by
  rw [allAtoms_all]
  show words1.all (fun c => c.before args0 about1) = true
  refine all_split ?_ w_codes
  rw [← List.take_append_drop 24 words1, List.all_append, w_t1, ← List.take_append_drop 24 (words1.drop 24), List.all_append, w_t2, w_t3]
  rfl
set_option maxRecDepth 65536 in
theorem w_case : (Jvm.Cond.and given_1 narrow_1).before args0 about1 = true := by decide +kernel
theorem w_applies : (headSpec (Jvm.Cond.code x code maxLocals ret :: tables_1) room_1).applies x e0.platform about1 = true :=
  (Spec.applies_iff w_frames).mpr ⟨w_running, w_runnable, w_alone, w_named, w_hears, w_ripe, w_room, w_tables⟩
theorem atStart : AtStart classFile x code maxLocals ret World_1 tables_1 room_1 Calls_1 rest_1 Pre_1 launch0 p0 e0 about1 theMethod args0 below0 :=
  ⟨lists_1, trivial, launch0.admits_env _ _ _, launch0.least_env, fairChoices_fair.cas, fairChoices_fair.clock, w_frames, w_args, w_heap, w_applies, trivial, trivial, w_case⟩
end start1
theorem witness_1 : WitnessClaimed_1 := ⟨start1.p0, start1.e0, start1.about1, start1.theMethod, start1.args0, start1.below0, start1.atStart⟩
end Jvm.Pilot.@@N@@
