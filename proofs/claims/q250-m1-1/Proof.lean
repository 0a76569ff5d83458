import JvmDerived
import JvmDerived.Pilot.@@N@@Statement
import JvmDerived.Pilot.@@N@@Code
set_option linter.unusedVariables false
set_option linter.unusedSimpArgs false
namespace Jvm.RoadKit
open Sem ClassFile Op Lib Jvm.Stand Jvm.Free Jvm.LawKit
section New
variable {p : Program} {l : Launch} {e : Env} {R : Room} {s : State} {m : MethodId} {args : Array Value} {below : List Frame} {meth : Method} {c : Code} {T : State} {locs : List Loc} {cells slots : Nat}
theorem retI (X : Stand p l e R s m args below meth c T locs cells slots) (hx : p.tables.exec = Jvm.exec) {pc : Nat} {Ls : Array Slot} {z : Int32} {rest : List Value} (hret : meth.sig.returnType = some .int) (hd : decode c.code pc = .ok (.ireturn, 1)) {fs : List Frame}
    (hl : ∀ (f : JFrame) (acts : List Action), f.method = m → f.locked = none → f.entered = [] → (doReturn e (T.setTop f) acts (some (.int z))).1 = T.setFrames fs) : Steps p.tables e below (T.setTop (mkF m pc Ls (.int z :: rest))) (T.setFrames fs) := by
  have hm' : T.vm.method? m = some meth := X.method'
  have hn : narrow .int (.int z) = .int z := rfl
  show Steps p.tables e below (T.setTop { method := m, pc := pc, locals := Ls, stack := _ :: rest, locked := none }) _
  jvm_step X.here [X.here.top, hx, hd, hm', hret, hn]
  first | (intro acts; rw [hl _ acts rfl rfl rfl]) | rw [hl _ _ rfl rfl rfl]
  exact Steps.refl _
end New
end Jvm.RoadKit

namespace Jvm.Pilot.@@N@@
open Jvm Jvm.ClassFile Sem Op Lib Jvm.Free Jvm.Stand Jvm.LawKit Jvm.RoadKit Bundle Jvm.Pilot.@@N@@.Jvm.D
abbrev cSK : String := "com/example/twistgauge/twistgauge/measurement/SeriesKey"
abbrev cQC : String := "com/example/twistgauge/twistgauge/measurement/Quantity"
abbrev cOC : String := "com/example/twistgauge/twistgauge/measurement/Quantity$Others"
abbrev cEC : String := "com/example/twistgauge/twistgauge/measurement/End"
abbrev cCC : String := "com/example/twistgauge/twistgauge/measurement/Conductor"
abbrev cS1 : String := "com/example/twistgauge/twistgauge/measurement/SeriesKey$1"
abbrev cLW : String := "com/example/twistgauge/twistgauge/measurement/SeriesKeyEqualsPinLaw"
abbrev lSK : String := "Lcom/example/twistgauge/twistgauge/measurement/SeriesKey;"
abbrev lQC : String := "Lcom/example/twistgauge/twistgauge/measurement/Quantity;"
abbrev lOC : String := "Lcom/example/twistgauge/twistgauge/measurement/Quantity$Others;"
abbrev lEC : String := "Lcom/example/twistgauge/twistgauge/measurement/End;"
abbrev lCC : String := "Lcom/example/twistgauge/twistgauge/measurement/Conductor;"
abbrev aCC : String := "[Lcom/example/twistgauge/twistgauge/measurement/Conductor;"
abbrev dSI : String := "(Lcom/example/twistgauge/twistgauge/measurement/Quantity;Lcom/example/twistgauge/twistgauge/measurement/End;II)V"
abbrev dMK : String := "([I)Lcom/example/twistgauge/twistgauge/measurement/SeriesKey;"
abbrev dQM : String := "(I)Lcom/example/twistgauge/twistgauge/measurement/Quantity;"
abbrev dEM : String := "(I)Lcom/example/twistgauge/twistgauge/measurement/End;"
abbrev dOT : String := "()Lcom/example/twistgauge/twistgauge/measurement/Quantity$Others;"
abbrev nSM : String := "$SwitchMap$com$example$twistgauge$twistgauge$measurement$Quantity$Others"
abbrev cEN : String := "java/lang/Enum"
abbrev cOP : String := "java/util/Optional"
abbrev lOB : String := "Ljava/lang/Object;"
abbrev cIN : String := "java/lang/Integer"
abbrev cIC : String := "java/lang/Integer$IntegerCache"
theorem own_w {a0 : Array Value} {Z : State} (hw : ∀ d ∈ tables_1, d.before a0 Z = true) {d : Jvm.Cond} (i : Nat) (h : tables_1[i]? = some d) : d.before a0 Z = true := hw d (List.mem_of_getElem? h)
abbrev Sp (p : Program) (e : Env) (b : List Frame) (T : State) (g : JFrame) (t : State) : Prop := Steps p.tables e b (T.setTop g) t
theorem own_le {Z : State} {n0 : Nat} {h : Heap} (O : Old Z n0 h) : n0 ≤ h.size := O.1 ▸ O.2.1
theorem own_narb {c : Prop} [Decidable c] : nar .boolean (if c then (1 : Int32) else 0) = if c then (1 : Int32) else 0 := by split <;> rfl
theorem own_narb' {c : Prop} [Decidable c] : nar .boolean (if c then (0 : Int32) else 1) = if c then (0 : Int32) else 1 := by split <;> rfl
theorem own_eqc {t : Term} {k : Int32} {a0 : Array Value} {Z : State} (h : (Jvm.Cond.eq t (.int k)).value a0 Z none Z [] = some true) : t.eval a0 Z none [] Z = some (.int k) := by
  obtain ⟨x, y, e1, e2, k1, -⟩ := cmp_v (Or.inl h)
  obtain rfl : Value.int k = y := Option.some.inj ((Term.int_eval k).symm.trans e2)
  cases x <;> simp [Kin, Value.isRef] at k1
  simp [Jvm.Cond.value, e1, Term.int_eval] at h
  rw [e1, h]

theorem own_mx1 {a b : Int32} (h : a < b) : ¬ b < a ∧ ¬ b < b ∧ (b = a ∨ b = b) := by
  exact ⟨by simp only [Int32.lt_iff_toInt_lt] at *; omega, by simp only [Int32.lt_iff_toInt_lt] at *; omega, Or.inr rfl⟩
theorem own_mx0 {a b : Int32} (h : ¬ a < b) : ¬ a < a ∧ ¬ a < b ∧ (a = a ∨ a = b) := by
  exact ⟨by simp only [Int32.lt_iff_toInt_lt] at *; omega, by simp only [Int32.lt_iff_toInt_lt] at *; omega, Or.inl rfl⟩
theorem own_mn1 {a b : Int32} (h : b < a) : ¬ a < b ∧ ¬ b < b ∧ (b = a ∨ b = b) := by
  exact ⟨by simp only [Int32.lt_iff_toInt_lt] at *; omega, by simp only [Int32.lt_iff_toInt_lt] at *; omega, Or.inr rfl⟩
theorem own_mn0 {a b : Int32} (h : ¬ b < a) : ¬ a < a ∧ ¬ b < a ∧ (a = a ∨ a = b) := by
  exact ⟨by simp only [Int32.lt_iff_toInt_lt] at *; omega, by simp only [Int32.lt_iff_toInt_lt] at *; omega, Or.inl rfl⟩
theorem own_eight (x : Int32) : (x &&& (7 : Int32)) = (0 : Int32) ∨ (x &&& (7 : Int32)) = (1 : Int32) ∨ (x &&& (7 : Int32)) = (2 : Int32) ∨ (x &&& (7 : Int32)) = (3 : Int32) ∨ (x &&& (7 : Int32)) = (4 : Int32) ∨ (x &&& (7 : Int32)) = (5 : Int32) ∨ (x &&& (7 : Int32)) = (6 : Int32) ∨ (x &&& (7 : Int32)) = (7 : Int32) := by
  have h := c_and x (7 : Int32) (by decide)
  have e0 : (0 : Int32).toInt = 0 := rfl
  have e1 : (1 : Int32).toInt = 1 := rfl
  have e2 : (2 : Int32).toInt = 2 := rfl
  have e3 : (3 : Int32).toInt = 3 := rfl
  have e4 : (4 : Int32).toInt = 4 := rfl
  have e5 : (5 : Int32).toInt = 5 := rfl
  have e6 : (6 : Int32).toInt = 6 := rfl
  have e7 : (7 : Int32).toInt = 7 := rfl
  simp only [← Int32.toInt_inj, e0, e1, e2, e3, e4, e5, e6, e7] at *
  omega
theorem own_and1 (x : Int32) : (x &&& (1 : Int32)) = (0 : Int32) ∨ (x &&& (1 : Int32)) = (1 : Int32) := and_one x
theorem own_e12 (x : Int32) : ((1 : Int32) + (x &&& (1 : Int32))) = (1 : Int32) ∨ ((1 : Int32) + (x &&& (1 : Int32))) = (2 : Int32) := by
  rcases and_one x with h | h <;> rw [h] <;> decide
theorem own_o12 (x : Int32) : ((x &&& (1 : Int32)) + (1 : Int32)) = (1 : Int32) ∨ ((x &&& (1 : Int32)) + (1 : Int32)) = (2 : Int32) := by
  rcases and_one x with h | h <;> rw [h] <;> decide
/-- what the constructor takes -/
def own_ok (a b c d : Int32) : Prop :=
  (a = (0 : Int32) ∧ b = (0 : Int32) ∧ ¬ c < (1 : Int32) ∧ d = (0 : Int32)) ∨
  (a = (1 : Int32) ∧ (b = (1 : Int32) ∨ b = (2 : Int32)) ∧ (¬ c < (1 : Int32) ∧ c < d)) ∨
  (a = (2 : Int32) ∧ (b = (1 : Int32) ∨ b = (2 : Int32)) ∧ (¬ c < (1 : Int32) ∧ ¬ d < (1 : Int32) ∧ ¬ d = c)) ∨
  (a = (3 : Int32) ∧ (b = (1 : Int32) ∨ b = (2 : Int32)) ∧ ¬ c < (1 : Int32) ∧ d = (0 : Int32)) ∨
  (a = (4 : Int32) ∧ b = (0 : Int32) ∧ ¬ c < (1 : Int32) ∧ (d = (1 : Int32) ∨ d = (2 : Int32))) ∨
  (a = (5 : Int32) ∧ b = (0 : Int32) ∧ c = (0 : Int32) ∧ d = (0 : Int32)) ∨
  (a = (6 : Int32) ∧ (b = (1 : Int32) ∨ b = (2 : Int32)) ∧ ¬ c < (1 : Int32) ∧ d = (0 : Int32)) ∨
  (a = (7 : Int32) ∧ (b = (1 : Int32) ∨ b = (2 : Int32)) ∧ (¬ c < (1 : Int32) ∧ ¬ d < (1 : Int32) ∧ ¬ d = c))
theorem own_ok0 {b c d : Int32} (h1 : b = 0) (h2 : ¬ c < (1 : Int32)) (h3 : d = 0) : own_ok (0 : Int32) b c d := Or.inl ⟨rfl, h1, h2, h3⟩
theorem own_ok1 {b c d : Int32} (h1 : b = (1 : Int32) ∨ b = (2 : Int32)) (h2 : ¬ c < (1 : Int32) ∧ c < d) : own_ok (1 : Int32) b c d := Or.inr (Or.inl ⟨rfl, h1, h2⟩)
theorem own_ok2 {b c d : Int32} (h1 : b = (1 : Int32) ∨ b = (2 : Int32)) (h2 : ¬ c < (1 : Int32)) (h3 : ¬ d < (1 : Int32) ∧ ¬ d = c) : own_ok (2 : Int32) b c d := Or.inr (Or.inr (Or.inl ⟨rfl, h1, h2, h3⟩))
theorem own_ok3 {b c d : Int32} (h1 : b = (1 : Int32) ∨ b = (2 : Int32)) (h2 : ¬ c < (1 : Int32)) (h3 : d = 0) : own_ok (3 : Int32) b c d := Or.inr (Or.inr (Or.inr (Or.inl ⟨rfl, h1, h2, h3⟩)))
theorem own_ok4 {b c d : Int32} (h1 : b = 0) (h2 : ¬ c < (1 : Int32)) (h3 : d = (1 : Int32) ∨ d = (2 : Int32)) : own_ok (4 : Int32) b c d := Or.inr (Or.inr (Or.inr (Or.inr (Or.inl ⟨rfl, h1, h2, h3⟩))))
theorem own_ok5 {b c d : Int32} (h1 : b = 0) (h2 : c = 0) (h3 : d = 0) : own_ok (5 : Int32) b c d := Or.inr (Or.inr (Or.inr (Or.inr (Or.inr (Or.inl ⟨rfl, h1, h2, h3⟩)))))
theorem own_ok6 {b c d : Int32} (h1 : b = (1 : Int32) ∨ b = (2 : Int32)) (h2 : ¬ c < (1 : Int32)) (h3 : d = 0) : own_ok (6 : Int32) b c d := Or.inr (Or.inr (Or.inr (Or.inr (Or.inr (Or.inr (Or.inl ⟨rfl, h1, h2, h3⟩))))))
theorem own_ok7 {b c d : Int32} (h1 : b = (1 : Int32) ∨ b = (2 : Int32)) (h2 : ¬ c < (1 : Int32)) (h3 : ¬ d < (1 : Int32) ∧ ¬ d = c) : own_ok (7 : Int32) b c d := Or.inr (Or.inr (Or.inr (Or.inr (Or.inr (Or.inr (Or.inr ⟨rfl, h1, h2, h3⟩))))))
theorem own_pos {z y : Int32} (h : ¬ z < (1 : Int32) ∧ ¬ z < y ∧ (z = (1 : Int32) ∨ z = y)) : ¬ z < (1 : Int32) := h.1
theorem own_k1 {z1 z2 z3 y o : Int32} (h1 : ¬ z1 < (1 : Int32) ∧ ¬ z1 < y ∧ (z1 = (1 : Int32) ∨ z1 = y)) (h2 : ¬ z1 < z2 ∧ ¬ (2147483646 : Int32) < z2 ∧ (z2 = z1 ∨ z2 = (2147483646 : Int32))) (h3 : ¬ z3 < o ∧ ¬ z3 < (z2 + (1 : Int32)) ∧ (z3 = o ∨ z3 = (z2 + (1 : Int32)))) : ¬ z2 < (1 : Int32) ∧ z2 < z3 := by
  have a1 := h1.1
  have a2 := h2.2.1
  have a3 := h2.2.2
  have a4 := h3.2.1
  have e1 : (1 : Int32).toInt = 1 := rfl
  have e2 : (2147483646 : Int32).toInt = 2147483646 := rfl
  have c := c_iadd z2 1
  have r1 := rng32 (z2 + 1)
  have r2 := rng32 z2
  simp only [Int32.lt_iff_toInt_lt, ← Int32.toInt_inj, e1, e2] at *
  omega
theorem own_k2a {z1 : Int32} (h : z1 = (1 : Int32)) : ¬ (2 : Int32) < (1 : Int32) ∧ ¬ (2 : Int32) = z1 := by subst h; decide
theorem own_k2b {z1 y : Int32} (h1 : ¬ z1 < (1 : Int32) ∧ ¬ z1 < y ∧ (z1 = (1 : Int32) ∨ z1 = y)) (h : ¬ z1 = (1 : Int32)) : ¬ (z1 - (1 : Int32)) < (1 : Int32) ∧ ¬ (z1 - (1 : Int32)) = z1 := by
  have a1 := h1.1
  have e1 : (1 : Int32).toInt = 1 := rfl
  have c := c_isub z1 1
  have r1 := rng32 (z1 - 1)
  have r2 := rng32 z1
  simp only [Int32.lt_iff_toInt_lt, ← Int32.toInt_inj, e1] at *
  omega
theorem own_neO {Z : State} {h : Heap} {a b : Addr} {C n d : String} {x y : Int32} (F : Fld Z h a C n d (.int x)) (G : Fld Z h b C n d (.int y)) (q : x ≠ y) : ¬ a = b := F.ne G (fun e => q (Value.int.inj e))
theorem own_val {Z : State} {h : Heap} {a : Addr} {C n d : String} {x y : Int32} (F : Fld Z h a C n d (.int x)) (G : Fld Z h a C n d (.int y)) : x = y := Decidable.byContradiction fun q => own_neO F G q rfl
theorem own_len {t : Term} {a : Addr} {cl : Cell} {k : Int32} {a0 : Array Value} {Z : State} (ev : t.eval a0 Z none [] Z = some (.ref a)) (ha : Z.arrayAt? a = some cl) (h : (Term.length t).eval a0 Z none [] Z = some (.int k)) : cl.slots.size < 2 ^ 31 ∧ cl.slots.size.toInt32 = k := by
  simp [Term.eval, ev, ha] at h
  exact h
theorem own_eqr {t u : Term} {a : Addr} {a0 : Array Value} {Z : State} (h : (Jvm.Cond.eq t u).value a0 Z none Z [] = some true) (ev : u.eval a0 Z none [] Z = some (.ref a)) : t.eval a0 Z none [] Z = some (.ref a) := by
  obtain ⟨x, y, e1, e2, k1, k2⟩ := cmp_v (Or.inl h)
  obtain rfl : Value.ref a = y := Option.some.inj (ev.symm.trans e2)
  have hx : x.isRef = true := by cases x <;> simp [Kin, Value.isRef] at k1 ⊢
  have q := gotT (eq_R e1 e2 hx rfl) h
  rw [e1, q]
theorem own_all {t : Term} {aK : Addr} {cl : Cell} {a0 : Array Value} {Z : State} {B : Jvm.Cond} (ev : t.eval a0 Z none [] Z = some (.ref aK)) (ha : Z.arrayAt? aK = some cl) (h : (Jvm.Cond.all t B).value a0 Z none Z [] = some true) : ∀ i, i < cl.slots.size → B.value a0 Z none Z [i] = some true := by
  simp only [Cond.value, ev, ha] at h
  have key : ∀ (L : List Nat) (acc : Option Bool), List.foldl (fun acc i => match acc with | some true => Cond.value a0 Z none Z [i] B | x => x) acc L = some true → acc = some true ∧ ∀ i ∈ L, Cond.value a0 Z none Z [i] B = some true := by
    intro L
    induction L with
    | nil => intro acc h; exact ⟨h, fun _ q => nomatch q⟩
    | cons x r ih =>
      intro acc h
      obtain ⟨h1, h2⟩ := ih _ h
      have e : acc = some true := by
        cases acc with
        | none => cases h1
        | some b => cases b with
          | true => rfl
          | false => cases h1
      subst e
      refine ⟨rfl, fun i hi => ?_⟩
      rcases List.mem_cons.mp hi with rfl | hi
      · exact h1
      · exact h2 i hi
  intro i hi
  exact (key _ _ h).2 i (List.mem_range.mpr hi)
theorem own_cache {t : Term} {aK : Addr} {cl : Cell} {ty : FieldType} {a0 : Array Value} {Z : State} (ev : t.eval a0 Z none [] Z = some (.ref aK)) (ev' : ∀ i : Nat, t.eval a0 Z none [i] Z = some (.ref aK)) (Ar : Arr Z Z.heap aK cl ty) (q1 : cl.slots.size < 2 ^ 31) (q2 : cl.slots.size.toInt32 = (256 : Int32))
    (h : (Jvm.Cond.all t (Jvm.Cond.and (Jvm.Cond.exactly (Jvm.Term.elem t (Jvm.Term.index 0)) cIN) (Jvm.Cond.eq (Jvm.Term.field (Jvm.Term.elem t (Jvm.Term.index 0)) cIN "value" "I") (Jvm.Term.sub (Jvm.Term.index 0) (Jvm.Term.int 128))))).value a0 Z none Z [] = some true) :
    ∀ x : Int32, ¬ x < (-128 : Int32) → ¬ (127 : Int32) < x → ∃ y, ¬ ((x + (128 : Int32)) < 0 ∨ cl.slots.size ≤ (x + (128 : Int32)).toNatClampNeg) ∧ cl.slots[(x + (128 : Int32)).toNatClampNeg]? = some (.ref y) ∧ Exa Z Z.heap y cIN := by
  intro x h1 h2
  have A := own_all ev (Ar.fin (Vm.Alike.refl _)) h
  have e1 : (-128 : Int32).toInt = -128 := rfl
  have e2 : (127 : Int32).toInt = 127 := rfl
  have e3 : (128 : Int32).toInt = 128 := rfl
  have e4 : (0 : Int32).toInt = 0 := rfl
  have e5 : (256 : Int32).toInt = 256 := rfl
  have c := c_iadd x 128
  have r := rng32 (x + 128)
  have hs : cl.slots.size = 256 := by
    have := congrArg Int32.toInt q2
    rw [len_toInt q1, e5] at this
    omega
  have hj : ¬ (x + (128 : Int32)) < 0 := by
    simp only [Int32.lt_iff_toInt_lt, e1, e2, e3, e4] at *
    omega
  have hb : (x + (128 : Int32)).toInt < 256 := by
    simp only [Int32.lt_iff_toInt_lt, e1, e2, e3, e4] at *
    omega
  have hn := nat_of hj
  have hi : (x + (128 : Int32)).toNatClampNeg < cl.slots.size := by omega
  have hv := A _ hi
  obtain ⟨v1, v2⟩ := and_e hv
  obtain ⟨y, ey⟩ := exa_v v1
  have w := elem_in ey (ev' _) (idx_at hj) Ar.1
  exact ⟨y, w.1, w.2, exa_at ey v1⟩

def own_Qf (Z : State) (q i o : Addr) (nm : String) (ate ord : Int32) : Prop := Sta Z Z.heap cQC nm lQC (.ref q) ∧ Exa Z Z.heap q cQC ∧ Fld Z Z.heap q cQC "identifier" "Ljava/lang/String;" (.ref i) ∧ Fld Z Z.heap q cQC "others" lOC (.ref o) ∧ Fld Z Z.heap q cQC "atAnEnd" "Z" (.int ate) ∧ Fld Z Z.heap q cEN "ordinal" "I" (.int ord)
def own_Of (Z : State) (o : Addr) (ord : Int32) : Prop := Exa Z Z.heap o cOC ∧ Fld Z Z.heap o cEN "ordinal" "I" (.int ord)
def own_Ef (Z : State) (e : Addr) (nm : String) (ord : Int32) : Prop := Sta Z Z.heap cEC nm lEC (.ref e) ∧ Exa Z Z.heap e cEC ∧ Fld Z Z.heap e cEN "ordinal" "I" (.int ord)
theorem d_jdk_29_65_0 : decode jdk_29_method_65_code 0 = .ok (.iload_n 0, 1) := by decide +kernel
theorem d_jdk_29_65_1 : decode jdk_29_method_65_code 1 = .ok (.iload_n 1, 1) := by decide +kernel
theorem d_jdk_29_65_2 : decode jdk_29_method_65_code 2 = .ok (.if_icmp .lt 7, 3) := by decide +kernel
theorem d_jdk_29_65_5 : decode jdk_29_method_65_code 5 = .ok (.iload_n 0, 1) := by decide +kernel
theorem d_jdk_29_65_6 : decode jdk_29_method_65_code 6 = .ok (.goto 4, 3) := by decide +kernel
theorem d_jdk_29_65_9 : decode jdk_29_method_65_code 9 = .ok (.iload_n 1, 1) := by decide +kernel
theorem d_jdk_29_65_10 : decode jdk_29_method_65_code 10 = .ok (.ireturn, 1) := by decide +kernel
theorem pn_max : plainFor (⟨"java/lang/Math", "max", "(II)I"⟩ : MethodName) = true := by decide +kernel
theorem ef_max (m : MethodId) (p1 : Int32) (p2 : Int32) : entryFrame m #[(.int p1), (.int p2)] 2 = (mkF m 0 #[.val (.int p1), .val (.int p2)] []) := by first | (simp [entryFrame, mkF, argsToLocals, Value.category]; done) | rfl
def Q_max (Z : State) (p1 : Int32) (p2 : Int32)  (h0 : Heap) (n0 : Nat) (v : Option Value) (h : Heap) (L : List Loc) : Prop := ∃ z, v = some (.int z) ∧ Fr n0 L ∧ h = h0 ∧ ¬ z < p1 ∧ ¬ z < p2 ∧ (z = p1 ∨ z = p2)
set_option maxRecDepth 65536 in
set_option maxHeartbeats 40000000 in
theorem rm_max (l : Launch) (Z : State) (a0 : Array Value) (hw : ∀ d ∈ tables_1, d.before a0 Z = true) (ws : List Jvm.Cond) (p1 : Int32) (p2 : Int32)  (h0 : Heap) (n0 : Nat) (O0 : Old Z n0 h0)  :
    MetFree l (⟨"java/lang/Math", "max", "(II)I"⟩ : MethodName) (head1 (Jvm.Cond.code (⟨"java/lang/Math", "max", "(II)I"⟩ : MethodName) jdk_29_method_65_code 2 (some .int) :: ws) ({ frames := 0, cells := 0, slots := 0, locals := 0 } : Room)) (fun a U => a = #[(.int p1), (.int p2)] ∧ Z.Warmed39 U.vm ∧ U.heap = h0) (fun _ _ _ _ _ => True) (fun _ U o U' => ∃ v L, o = .returned v ∧ Q_max Z p1 p2  h0 n0 v U'.heap L ∧ FrameEnd U o U' L ({ frames := 0, cells := 0, slots := 0, locals := 0 } : Room).cells ({ frames := 0, cells := 0, slots := 0, locals := 0 } : Room).slots) := by
  refine MetFree.of_bodySF pn_max hisR ?_
  intro p e s m args below meth c s₁ Bd hml0 hP hK
  obtain ⟨rfl, hZ, hh⟩ := hP
  have hx := Bd.exec
  have hby := Bd.bytes
  have hml : c.maxLocals = 2 := hml0
  have hown : s.vm.findClass "java/lang/Math" = some m.cls := findClass_of_methodNamed Bd.named
  have hnm := (name_of_methodNamed Bd.named Bd.method).1
  have X0 : Stand p l e ({ frames := 0, cells := 0, slots := 0, locals := 0 } : Room) s m #[(.int p1), (.int p2)] below meth c s₁ [] 0 0 := Stand.of_body Bd
  have e0 : s₁.heap = h0 := by rw [← hh, Bd.state]; rfl
  have N0 := Fr.nil n0
  have pre0 : ∀ t, Steps p.tables e below (s₁.setTop (mkF m 0 #[.val (.int p1), .val (.int p2)] [])) t → Steps p.tables e below (s₁.setTop (entryFrame m #[(.int p1), (.int p2)] 2)) t := fun t k => castTop (ef_max m p1 p2) k
  generalize s₁.setTop (entryFrame m #[(.int p1), (.int p2)] 2) = E0 at pre0 ⊢
  have pre_1 : ∀ t, Sp p e below s₁ (mkF m 2 #[.val (.int p1), .val (.int p2)] [(.int p2), (.int p1)]) t → Steps p.tables e below E0 t := by
    intro t k
    refine pre0 t ?_
    show Sp p e below s₁ (mkF m 0 #[.val (.int p1), .val (.int p2)] []) _
    refine XS.iloadN X0.here hx rfl (hb hby d_jdk_29_65_0) rfl ?_
    refine XS.iloadN X0.here hx rfl (hb hby d_jdk_29_65_1) rfl ?_
    exact k
  by_cases hc2 : p1 < p2
  · skip
    have pre_3 : ∀ t, Sp p e below s₁ (mkF m 10 #[.val (.int p1), .val (.int p2)] [(.int p2)]) t → Steps p.tables e below E0 t := by
      intro t k
      refine pre_1 t ?_
      show Sp p e below s₁ (mkF m 2 #[.val (.int p1), .val (.int p2)] [(.int p2), (.int p1)]) _
      refine XS.icmpYes X0.here hx rfl (pc0 := 2) (pc' := 9) rfl (hb hby d_jdk_29_65_2) rfl (XT.ii_lt_t hc2) (by decide) (by decide) ?_
      refine XS.iloadN X0.here hx rfl (hb hby d_jdk_29_65_9) rfl ?_
      exact k
    obtain ⟨fs, hr, hrun, hended, hW, hsame⟩ := X0.leave (v := some (.int p2)) (fun h => by rw [Bd.returns] at h; cases h)
    refine ⟨_, _, pre_3 _ ?_, hrun, hended, _, _, rfl, ?_, ⟨_, rfl⟩, hW, hsame.mono (by decide) (by decide)⟩
    · show Sp p e below s₁ (mkF m 10 #[.val (.int p1), .val (.int p2)] [(.int p2)]) _
      exact retI X0 hx Bd.returns (hb hby d_jdk_29_65_10) hr
    · show Q_max Z _ _ h0 n0 _ s₁.heap _
      rw [e0]
      exact ⟨p2, rfl, N0, rfl, own_mx1 hc2⟩
  · skip
    have pre_4 : ∀ t, Sp p e below s₁ (mkF m 10 #[.val (.int p1), .val (.int p2)] [(.int p1)]) t → Steps p.tables e below E0 t := by
      intro t k
      refine pre_1 t ?_
      show Sp p e below s₁ (mkF m 2 #[.val (.int p1), .val (.int p2)] [(.int p2), (.int p1)]) _
      refine XS.icmpNo X0.here hx rfl (hb hby d_jdk_29_65_2) rfl (XT.ii_lt_f hc2) ?_
      refine XS.iloadN X0.here hx rfl (hb hby d_jdk_29_65_5) rfl ?_
      refine XS.goto X0.here hx rfl (pc0 := 6) (pc' := 10) rfl (hb hby d_jdk_29_65_6) (by decide) (by decide) ?_
      exact k
    obtain ⟨fs, hr, hrun, hended, hW, hsame⟩ := X0.leave (v := some (.int p1)) (fun h => by rw [Bd.returns] at h; cases h)
    refine ⟨_, _, pre_4 _ ?_, hrun, hended, _, _, rfl, ?_, ⟨_, rfl⟩, hW, hsame.mono (by decide) (by decide)⟩
    · show Sp p e below s₁ (mkF m 10 #[.val (.int p1), .val (.int p2)] [(.int p1)]) _
      exact retI X0 hx Bd.returns (hb hby d_jdk_29_65_10) hr
    · show Q_max Z _ _ h0 n0 _ s₁.heap _
      rw [e0]
      exact ⟨p1, rfl, N0, rfl, own_mx0 hc2⟩
theorem d_jdk_29_69_0 : decode jdk_29_method_69_code 0 = .ok (.iload_n 0, 1) := by decide +kernel
theorem d_jdk_29_69_1 : decode jdk_29_method_69_code 1 = .ok (.iload_n 1, 1) := by decide +kernel
theorem d_jdk_29_69_2 : decode jdk_29_method_69_code 2 = .ok (.if_icmp .gt 7, 3) := by decide +kernel
theorem d_jdk_29_69_5 : decode jdk_29_method_69_code 5 = .ok (.iload_n 0, 1) := by decide +kernel
theorem d_jdk_29_69_6 : decode jdk_29_method_69_code 6 = .ok (.goto 4, 3) := by decide +kernel
theorem d_jdk_29_69_9 : decode jdk_29_method_69_code 9 = .ok (.iload_n 1, 1) := by decide +kernel
theorem d_jdk_29_69_10 : decode jdk_29_method_69_code 10 = .ok (.ireturn, 1) := by decide +kernel
theorem pn_min : plainFor (⟨"java/lang/Math", "min", "(II)I"⟩ : MethodName) = true := by decide +kernel
theorem ef_min (m : MethodId) (p1 : Int32) (p2 : Int32) : entryFrame m #[(.int p1), (.int p2)] 2 = (mkF m 0 #[.val (.int p1), .val (.int p2)] []) := by first | (simp [entryFrame, mkF, argsToLocals, Value.category]; done) | rfl
def Q_min (Z : State) (p1 : Int32) (p2 : Int32)  (h0 : Heap) (n0 : Nat) (v : Option Value) (h : Heap) (L : List Loc) : Prop := ∃ z, v = some (.int z) ∧ Fr n0 L ∧ h = h0 ∧ ¬ p1 < z ∧ ¬ p2 < z ∧ (z = p1 ∨ z = p2)
set_option maxRecDepth 65536 in
set_option maxHeartbeats 40000000 in
theorem rm_min (l : Launch) (Z : State) (a0 : Array Value) (hw : ∀ d ∈ tables_1, d.before a0 Z = true) (ws : List Jvm.Cond) (p1 : Int32) (p2 : Int32)  (h0 : Heap) (n0 : Nat) (O0 : Old Z n0 h0)  :
    MetFree l (⟨"java/lang/Math", "min", "(II)I"⟩ : MethodName) (head1 (Jvm.Cond.code (⟨"java/lang/Math", "min", "(II)I"⟩ : MethodName) jdk_29_method_69_code 2 (some .int) :: ws) ({ frames := 0, cells := 0, slots := 0, locals := 0 } : Room)) (fun a U => a = #[(.int p1), (.int p2)] ∧ Z.Warmed39 U.vm ∧ U.heap = h0) (fun _ _ _ _ _ => True) (fun _ U o U' => ∃ v L, o = .returned v ∧ Q_min Z p1 p2  h0 n0 v U'.heap L ∧ FrameEnd U o U' L ({ frames := 0, cells := 0, slots := 0, locals := 0 } : Room).cells ({ frames := 0, cells := 0, slots := 0, locals := 0 } : Room).slots) := by
  refine MetFree.of_bodySF pn_min hisR ?_
  intro p e s m args below meth c s₁ Bd hml0 hP hK
  obtain ⟨rfl, hZ, hh⟩ := hP
  have hx := Bd.exec
  have hby := Bd.bytes
  have hml : c.maxLocals = 2 := hml0
  have hown : s.vm.findClass "java/lang/Math" = some m.cls := findClass_of_methodNamed Bd.named
  have hnm := (name_of_methodNamed Bd.named Bd.method).1
  have X0 : Stand p l e ({ frames := 0, cells := 0, slots := 0, locals := 0 } : Room) s m #[(.int p1), (.int p2)] below meth c s₁ [] 0 0 := Stand.of_body Bd
  have e0 : s₁.heap = h0 := by rw [← hh, Bd.state]; rfl
  have N0 := Fr.nil n0
  have pre0 : ∀ t, Steps p.tables e below (s₁.setTop (mkF m 0 #[.val (.int p1), .val (.int p2)] [])) t → Steps p.tables e below (s₁.setTop (entryFrame m #[(.int p1), (.int p2)] 2)) t := fun t k => castTop (ef_min m p1 p2) k
  generalize s₁.setTop (entryFrame m #[(.int p1), (.int p2)] 2) = E0 at pre0 ⊢
  have pre_1 : ∀ t, Sp p e below s₁ (mkF m 2 #[.val (.int p1), .val (.int p2)] [(.int p2), (.int p1)]) t → Steps p.tables e below E0 t := by
    intro t k
    refine pre0 t ?_
    show Sp p e below s₁ (mkF m 0 #[.val (.int p1), .val (.int p2)] []) _
    refine XS.iloadN X0.here hx rfl (hb hby d_jdk_29_69_0) rfl ?_
    refine XS.iloadN X0.here hx rfl (hb hby d_jdk_29_69_1) rfl ?_
    exact k
  by_cases hc2 : p2 < p1
  · skip
    have pre_3 : ∀ t, Sp p e below s₁ (mkF m 10 #[.val (.int p1), .val (.int p2)] [(.int p2)]) t → Steps p.tables e below E0 t := by
      intro t k
      refine pre_1 t ?_
      show Sp p e below s₁ (mkF m 2 #[.val (.int p1), .val (.int p2)] [(.int p2), (.int p1)]) _
      refine XS.icmpYes X0.here hx rfl (pc0 := 2) (pc' := 9) rfl (hb hby d_jdk_29_69_2) rfl (XT.ii_gt_t hc2) (by decide) (by decide) ?_
      refine XS.iloadN X0.here hx rfl (hb hby d_jdk_29_69_9) rfl ?_
      exact k
    obtain ⟨fs, hr, hrun, hended, hW, hsame⟩ := X0.leave (v := some (.int p2)) (fun h => by rw [Bd.returns] at h; cases h)
    refine ⟨_, _, pre_3 _ ?_, hrun, hended, _, _, rfl, ?_, ⟨_, rfl⟩, hW, hsame.mono (by decide) (by decide)⟩
    · show Sp p e below s₁ (mkF m 10 #[.val (.int p1), .val (.int p2)] [(.int p2)]) _
      exact retI X0 hx Bd.returns (hb hby d_jdk_29_69_10) hr
    · show Q_min Z _ _ h0 n0 _ s₁.heap _
      rw [e0]
      exact ⟨p2, rfl, N0, rfl, own_mn1 hc2⟩
  · skip
    have pre_4 : ∀ t, Sp p e below s₁ (mkF m 10 #[.val (.int p1), .val (.int p2)] [(.int p1)]) t → Steps p.tables e below E0 t := by
      intro t k
      refine pre_1 t ?_
      show Sp p e below s₁ (mkF m 2 #[.val (.int p1), .val (.int p2)] [(.int p2), (.int p1)]) _
      refine XS.icmpNo X0.here hx rfl (hb hby d_jdk_29_69_2) rfl (XT.ii_gt_f hc2) ?_
      refine XS.iloadN X0.here hx rfl (hb hby d_jdk_29_69_5) rfl ?_
      refine XS.goto X0.here hx rfl (pc0 := 6) (pc' := 10) rfl (hb hby d_jdk_29_69_6) (by decide) (by decide) ?_
      exact k
    obtain ⟨fs, hr, hrun, hended, hW, hsame⟩ := X0.leave (v := some (.int p1)) (fun h => by rw [Bd.returns] at h; cases h)
    refine ⟨_, _, pre_4 _ ?_, hrun, hended, _, _, rfl, ?_, ⟨_, rfl⟩, hW, hsame.mono (by decide) (by decide)⟩
    · show Sp p e below s₁ (mkF m 10 #[.val (.int p1), .val (.int p2)] [(.int p1)]) _
      exact retI X0 hx Bd.returns (hb hby d_jdk_29_69_10) hr
    · show Q_min Z _ _ h0 n0 _ s₁.heap _
      rw [e0]
      exact ⟨p1, rfl, N0, rfl, own_mn0 hc2⟩
theorem d_method_3_0 : decode method_3_code 0 = .ok (.iload_n 0, 1) := by decide +kernel
theorem d_method_3_1 : decode method_3_code 1 = .ok (.bipush 7, 2) := by decide +kernel
theorem d_method_3_3 : decode method_3_code 3 = .ok (.iand, 1) := by decide +kernel
theorem d_method_3_4 : decode method_3_code 4 = .ok (.istore 4, 2) := by decide +kernel
theorem d_method_3_6 : decode method_3_code 6 = .ok (.iload 4, 2) := by decide +kernel
theorem d_method_3_8 : decode method_3_code 8 = .ok (.iconst 1, 1) := by decide +kernel
theorem d_method_3_9 : decode method_3_code 9 = .ok (.if_icmp .eq 29, 3) := by decide +kernel
theorem d_method_3_12 : decode method_3_code 12 = .ok (.iload 4, 2) := by decide +kernel
theorem d_method_3_14 : decode method_3_code 14 = .ok (.iconst 2, 1) := by decide +kernel
theorem d_method_3_15 : decode method_3_code 15 = .ok (.if_icmp .eq 23, 3) := by decide +kernel
theorem d_method_3_18 : decode method_3_code 18 = .ok (.iload 4, 2) := by decide +kernel
theorem d_method_3_20 : decode method_3_code 20 = .ok (.iconst 3, 1) := by decide +kernel
theorem d_method_3_21 : decode method_3_code 21 = .ok (.if_icmp .eq 17, 3) := by decide +kernel
theorem d_method_3_24 : decode method_3_code 24 = .ok (.iload 4, 2) := by decide +kernel
theorem d_method_3_26 : decode method_3_code 26 = .ok (.bipush 6, 2) := by decide +kernel
theorem d_method_3_28 : decode method_3_code 28 = .ok (.if_icmp .eq 10, 3) := by decide +kernel
theorem d_method_3_31 : decode method_3_code 31 = .ok (.iload 4, 2) := by decide +kernel
theorem d_method_3_33 : decode method_3_code 33 = .ok (.bipush 7, 2) := by decide +kernel
theorem d_method_3_35 : decode method_3_code 35 = .ok (.if_icmp .ne 7, 3) := by decide +kernel
theorem d_method_3_38 : decode method_3_code 38 = .ok (.iconst 1, 1) := by decide +kernel
theorem d_method_3_39 : decode method_3_code 39 = .ok (.goto 4, 3) := by decide +kernel
theorem d_method_3_42 : decode method_3_code 42 = .ok (.iconst 0, 1) := by decide +kernel
theorem d_method_3_43 : decode method_3_code 43 = .ok (.istore 5, 2) := by decide +kernel
theorem d_method_3_45 : decode method_3_code 45 = .ok (.iload 5, 2) := by decide +kernel
theorem d_method_3_47 : decode method_3_code 47 = .ok (.ifCond .eq 11, 3) := by decide +kernel
theorem d_method_3_50 : decode method_3_code 50 = .ok (.iconst 1, 1) := by decide +kernel
theorem d_method_3_51 : decode method_3_code 51 = .ok (.iload_n 1, 1) := by decide +kernel
theorem d_method_3_52 : decode method_3_code 52 = .ok (.iconst 1, 1) := by decide +kernel
theorem d_method_3_53 : decode method_3_code 53 = .ok (.iand, 1) := by decide +kernel
theorem d_method_3_54 : decode method_3_code 54 = .ok (.iadd, 1) := by decide +kernel
theorem d_method_3_55 : decode method_3_code 55 = .ok (.goto 4, 3) := by decide +kernel
theorem d_method_3_58 : decode method_3_code 58 = .ok (.iconst 0, 1) := by decide +kernel
theorem d_method_3_59 : decode method_3_code 59 = .ok (.istore 6, 2) := by decide +kernel
theorem d_method_3_61 : decode method_3_code 61 = .ok (.iconst 1, 1) := by decide +kernel
theorem d_method_3_62 : decode method_3_code 62 = .ok (.iload_n 2, 1) := by decide +kernel
theorem d_method_3_63 : decode method_3_code 63 = .ok (.ldc 29, 2) := by decide +kernel
theorem d_method_3_65 : decode method_3_code 65 = .ok (.iand, 1) := by decide +kernel
theorem d_method_3_66 : decode method_3_code 66 = .ok (.invokestatic 30, 3) := by decide +kernel
theorem d_method_3_69 : decode method_3_code 69 = .ok (.istore 7, 2) := by decide +kernel
theorem d_method_3_71 : decode method_3_code 71 = .ok (.iconst 0, 1) := by decide +kernel
theorem d_method_3_72 : decode method_3_code 72 = .ok (.istore 8, 2) := by decide +kernel
theorem d_method_3_74 : decode method_3_code 74 = .ok (.iload 4, 2) := by decide +kernel
theorem d_method_3_76 : decode method_3_code 76 = .ok (.iconst 1, 1) := by decide +kernel
theorem d_method_3_77 : decode method_3_code 77 = .ok (.if_icmp .ne 28, 3) := by decide +kernel
theorem d_method_3_80 : decode method_3_code 80 = .ok (.iload 7, 2) := by decide +kernel
theorem d_method_3_82 : decode method_3_code 82 = .ok (.ldc 36, 2) := by decide +kernel
theorem d_method_3_84 : decode method_3_code 84 = .ok (.invokestatic 37, 3) := by decide +kernel
theorem d_method_3_87 : decode method_3_code 87 = .ok (.istore 7, 2) := by decide +kernel
theorem d_method_3_89 : decode method_3_code 89 = .ok (.iload_n 3, 1) := by decide +kernel
theorem d_method_3_90 : decode method_3_code 90 = .ok (.ldc 29, 2) := by decide +kernel
theorem d_method_3_92 : decode method_3_code 92 = .ok (.iand, 1) := by decide +kernel
theorem d_method_3_93 : decode method_3_code 93 = .ok (.iload 7, 2) := by decide +kernel
theorem d_method_3_95 : decode method_3_code 95 = .ok (.iconst 1, 1) := by decide +kernel
theorem d_method_3_96 : decode method_3_code 96 = .ok (.iadd, 1) := by decide +kernel
theorem d_method_3_97 : decode method_3_code 97 = .ok (.invokestatic 30, 3) := by decide +kernel
theorem d_method_3_100 : decode method_3_code 100 = .ok (.istore 8, 2) := by decide +kernel
theorem d_method_3_102 : decode method_3_code 102 = .ok (.goto 77, 3) := by decide +kernel
theorem d_method_3_105 : decode method_3_code 105 = .ok (.iload 4, 2) := by decide +kernel
theorem d_method_3_107 : decode method_3_code 107 = .ok (.iconst 2, 1) := by decide +kernel
theorem d_method_3_108 : decode method_3_code 108 = .ok (.if_icmp .eq 10, 3) := by decide +kernel
theorem d_method_3_111 : decode method_3_code 111 = .ok (.iload 4, 2) := by decide +kernel
theorem d_method_3_113 : decode method_3_code 113 = .ok (.bipush 7, 2) := by decide +kernel
theorem d_method_3_115 : decode method_3_code 115 = .ok (.if_icmp .ne 39, 3) := by decide +kernel
theorem d_method_3_118 : decode method_3_code 118 = .ok (.iconst 1, 1) := by decide +kernel
theorem d_method_3_119 : decode method_3_code 119 = .ok (.iload_n 3, 1) := by decide +kernel
theorem d_method_3_120 : decode method_3_code 120 = .ok (.ldc 29, 2) := by decide +kernel
theorem d_method_3_122 : decode method_3_code 122 = .ok (.iand, 1) := by decide +kernel
theorem d_method_3_123 : decode method_3_code 123 = .ok (.invokestatic 30, 3) := by decide +kernel
theorem d_method_3_126 : decode method_3_code 126 = .ok (.istore 8, 2) := by decide +kernel
theorem d_method_3_128 : decode method_3_code 128 = .ok (.iload 8, 2) := by decide +kernel
theorem d_method_3_130 : decode method_3_code 130 = .ok (.iload 7, 2) := by decide +kernel
theorem d_method_3_132 : decode method_3_code 132 = .ok (.if_icmp .ne 47, 3) := by decide +kernel
theorem d_method_3_135 : decode method_3_code 135 = .ok (.iload 7, 2) := by decide +kernel
theorem d_method_3_137 : decode method_3_code 137 = .ok (.iconst 1, 1) := by decide +kernel
theorem d_method_3_138 : decode method_3_code 138 = .ok (.if_icmp .ne 7, 3) := by decide +kernel
theorem d_method_3_141 : decode method_3_code 141 = .ok (.iconst 2, 1) := by decide +kernel
theorem d_method_3_142 : decode method_3_code 142 = .ok (.goto 7, 3) := by decide +kernel
theorem d_method_3_145 : decode method_3_code 145 = .ok (.iload 7, 2) := by decide +kernel
theorem d_method_3_147 : decode method_3_code 147 = .ok (.iconst 1, 1) := by decide +kernel
theorem d_method_3_148 : decode method_3_code 148 = .ok (.isub, 1) := by decide +kernel
theorem d_method_3_149 : decode method_3_code 149 = .ok (.istore 8, 2) := by decide +kernel
theorem d_method_3_151 : decode method_3_code 151 = .ok (.goto 28, 3) := by decide +kernel
theorem d_method_3_154 : decode method_3_code 154 = .ok (.iload 4, 2) := by decide +kernel
theorem d_method_3_156 : decode method_3_code 156 = .ok (.iconst 4, 1) := by decide +kernel
theorem d_method_3_157 : decode method_3_code 157 = .ok (.if_icmp .ne 13, 3) := by decide +kernel
theorem d_method_3_160 : decode method_3_code 160 = .ok (.iload_n 3, 1) := by decide +kernel
theorem d_method_3_161 : decode method_3_code 161 = .ok (.iconst 1, 1) := by decide +kernel
theorem d_method_3_162 : decode method_3_code 162 = .ok (.iand, 1) := by decide +kernel
theorem d_method_3_163 : decode method_3_code 163 = .ok (.iconst 1, 1) := by decide +kernel
theorem d_method_3_164 : decode method_3_code 164 = .ok (.iadd, 1) := by decide +kernel
theorem d_method_3_165 : decode method_3_code 165 = .ok (.istore 8, 2) := by decide +kernel
theorem d_method_3_167 : decode method_3_code 167 = .ok (.goto 12, 3) := by decide +kernel
theorem d_method_3_170 : decode method_3_code 170 = .ok (.iload 4, 2) := by decide +kernel
theorem d_method_3_172 : decode method_3_code 172 = .ok (.iconst 5, 1) := by decide +kernel
theorem d_method_3_173 : decode method_3_code 173 = .ok (.if_icmp .ne 6, 3) := by decide +kernel
theorem d_method_3_176 : decode method_3_code 176 = .ok (.iconst 0, 1) := by decide +kernel
theorem d_method_3_177 : decode method_3_code 177 = .ok (.istore 7, 2) := by decide +kernel
theorem d_method_3_179 : decode method_3_code 179 = .ok (.iconst 4, 1) := by decide +kernel
theorem d_method_3_180 : decode method_3_code 180 = .ok (.newarray .int, 2) := by decide +kernel
theorem d_method_3_182 : decode method_3_code 182 = .ok (.dup, 1) := by decide +kernel
theorem d_method_3_183 : decode method_3_code 183 = .ok (.iconst 0, 1) := by decide +kernel
theorem d_method_3_184 : decode method_3_code 184 = .ok (.iload 4, 2) := by decide +kernel
theorem d_method_3_186 : decode method_3_code 186 = .ok (.iastore, 1) := by decide +kernel
theorem d_method_3_187 : decode method_3_code 187 = .ok (.dup, 1) := by decide +kernel
theorem d_method_3_188 : decode method_3_code 188 = .ok (.iconst 1, 1) := by decide +kernel
theorem d_method_3_189 : decode method_3_code 189 = .ok (.iload 6, 2) := by decide +kernel
theorem d_method_3_191 : decode method_3_code 191 = .ok (.iastore, 1) := by decide +kernel
theorem d_method_3_192 : decode method_3_code 192 = .ok (.dup, 1) := by decide +kernel
theorem d_method_3_193 : decode method_3_code 193 = .ok (.iconst 2, 1) := by decide +kernel
theorem d_method_3_194 : decode method_3_code 194 = .ok (.iload 7, 2) := by decide +kernel
theorem d_method_3_196 : decode method_3_code 196 = .ok (.iastore, 1) := by decide +kernel
theorem d_method_3_197 : decode method_3_code 197 = .ok (.dup, 1) := by decide +kernel
theorem d_method_3_198 : decode method_3_code 198 = .ok (.iconst 3, 1) := by decide +kernel
theorem d_method_3_199 : decode method_3_code 199 = .ok (.iload 8, 2) := by decide +kernel
theorem d_method_3_201 : decode method_3_code 201 = .ok (.iastore, 1) := by decide +kernel
theorem d_method_3_202 : decode method_3_code 202 = .ok (.areturn, 1) := by decide +kernel
theorem pn_fields : plainName cLW = true := by first | (simp [plainName, overriddenIn]; done) | decide +kernel
theorem pd_fields_0 : parseMethodDescriptor "(II)I" = some ⟨[.int, .int], some .int⟩ := by decide +kernel
theorem ef_fields (m : MethodId) (p1 : Int32) (p2 : Int32) (p3 : Int32) (p4 : Int32) : entryFrame m #[(.int p1), (.int p2), (.int p3), (.int p4)] 9 = (mkF m 0 #[.val (.int p1), .val (.int p2), .val (.int p3), .val (.int p4), .unset, .unset, .unset, .unset, .unset] []) := by first | (simp [entryFrame, mkF, argsToLocals, Value.category]; done) | rfl
def Q_fields (Z : State) (p1 : Int32) (p2 : Int32) (p3 : Int32) (p4 : Int32)  (h0 : Heap) (n0 : Nat) (v : Option Value) (h : Heap) (L : List Loc) : Prop := ∃ b cA f0 f1 f2 f3, v = some (.ref b) ∧ Fr n0 L ∧ Keep h0 h [] ∧ h0.size ≤ b ∧ Arv Z h b cA .int (4 : Int32) [(.int f0), (.int f1), (.int f2), (.int f3)] (.int (0 : Int32)) ∧ own_ok f0 f1 f2 f3
set_option maxRecDepth 65536 in
set_option maxHeartbeats 40000000 in
theorem rm_fields (l : Launch) (Z : State) (a0 : Array Value) (hw : ∀ d ∈ tables_1, d.before a0 Z = true) (ws : List Jvm.Cond) (p1 : Int32) (p2 : Int32) (p3 : Int32) (p4 : Int32)  (h0 : Heap) (n0 : Nat) (O0 : Old Z n0 h0)  :
    MetFree l (⟨cLW, "fields", "(IIII)[I"⟩ : MethodName) (head1 (Jvm.Cond.code (⟨cLW, "fields", "(IIII)[I"⟩ : MethodName) method_3_code 9 (some (.array .int)) :: ws) ({ frames := 1, cells := 1, slots := 4, locals := 13 } : Room)) (fun a U => a = #[(.int p1), (.int p2), (.int p3), (.int p4)] ∧ Z.Warmed39 U.vm ∧ U.heap = h0) (fun _ _ _ _ _ => True) (fun _ U o U' => ∃ v L, o = .returned v ∧ Q_fields Z p1 p2 p3 p4  h0 n0 v U'.heap L ∧ FrameEnd U o U' L ({ frames := 1, cells := 1, slots := 4, locals := 13 } : Room).cells ({ frames := 1, cells := 1, slots := 4, locals := 13 } : Room).slots) := by
  refine MetFree.of_bodySF (plainFor_of_name pn_fields) hisR ?_
  intro p e s m args below meth c s₁ Bd hml0 hP hK
  obtain ⟨rfl, hZ, hh⟩ := hP
  have hx := Bd.exec
  have hby := Bd.bytes
  have hml : c.maxLocals = 9 := hml0
  have hown : s.vm.findClass cLW = some m.cls := findClass_of_methodNamed Bd.named
  have hnm := (name_of_methodNamed Bd.named Bd.method).1
  have X0 : Stand p l e ({ frames := 1, cells := 1, slots := 4, locals := 13 } : Room) s m #[(.int p1), (.int p2), (.int p3), (.int p4)] below meth c s₁ [] 0 0 := Stand.of_body Bd
  have e0 : s₁.heap = h0 := by rw [← hh, Bd.state]; rfl
  have N0 := Fr.nil n0
  have pre0 : ∀ t, Steps p.tables e below (s₁.setTop (mkF m 0 #[.val (.int p1), .val (.int p2), .val (.int p3), .val (.int p4), .unset, .unset, .unset, .unset, .unset] [])) t → Steps p.tables e below (s₁.setTop (entryFrame m #[(.int p1), (.int p2), (.int p3), (.int p4)] 9)) t := fun t k => castTop (ef_fields m p1 p2 p3 p4) k
  generalize s₁.setTop (entryFrame m #[(.int p1), (.int p2), (.int p3), (.int p4)] 9) = E0 at pre0 ⊢
  have tail_179 : ∀ (Tt : State) (lt : List Loc) (Xt : Stand p l e ({ frames := 1, cells := 1, slots := 4, locals := 13 } : Room) s m #[(.int p1), (.int p2), (.int p3), (.int p4)] below meth c Tt lt 0 0) (Nt : Fr n0 lt) (et : Tt.heap = h0) (f0 fx f1 f2 f3 : Int32) (pt : ∀ t, Sp p e below Tt (mkF m 179 #[.val (.int p1), .val (.int p2), .val (.int p3), .val (.int p4), .val (.int f0), .val (.int fx), .val (.int f1), .val (.int f2), .val (.int f3)] []) t → Steps p.tables e below E0 t) (okt : own_ok f0 f1 f2 f3), ∃ s₂ o, Steps p.tables e below E0 s₂ ∧ s₂.status = .running ∧ Ended s₂ below o ∧ ∃ v L, o = .returned v ∧ Q_fields Z p1 p2 p3 p4  h0 n0 v s₂.heap L ∧ FrameEnd s o s₂ L ({ frames := 1, cells := 1, slots := 4, locals := 13 } : Room).cells ({ frames := 1, cells := 1, slots := 4, locals := 13 } : Room).slots := by
    intro Tt lt Xt Nt et f0 fx f1 f2 f3 pt okt
    have pre_1 : ∀ t, Sp p e below Tt (mkF m 180 #[.val (.int p1), .val (.int p2), .val (.int p3), .val (.int p4), .val (.int f0), .val (.int fx), .val (.int f1), .val (.int f2), .val (.int f3)] [(.int (4 : Int32))]) t → Steps p.tables e below E0 t := by
      intro t k
      refine pt t ?_
      show Sp p e below Tt (mkF m 179 #[.val (.int p1), .val (.int p2), .val (.int p3), .val (.int p4), .val (.int f0), .val (.int fx), .val (.int f1), .val (.int f2), .val (.int f3)] []) _
      refine XS.iconst Xt.here hx rfl (hb hby d_method_3_179) ?_
      exact k
    obtain ⟨T2, h2, cA2, X2, e2, E2, A2, st2⟩ := newP Xt hx hZ (own_w hw 9 rfl) et (g := (mkF m 180 #[.val (.int p1), .val (.int p2), .val (.int p3), .val (.int p4), .val (.int f0), .val (.int fx), .val (.int f1), .val (.int f2), .val (.int f3)] [(.int (4 : Int32))])) rfl (hb hby d_method_3_180) rfl (by decide) (cap := 4) (by decide) (by decide) (by decide) (by decide)
    obtain ⟨b2, g2⟩ : ∃ z, z = h0.size := ⟨_, rfl⟩
    rw [← g2] at A2 st2
    have O2 : Old Z n0 h2 := O0.ext E2
    have V2 : Arv Z h2 b2 cA2 .int (4 : Int32) [(.int (0 : Int32)), (.int (0 : Int32)), (.int (0 : Int32)), (.int (0 : Int32))] (.int (0 : Int32)) := (Arv.new A2 (by decide)).pad (pad_rep [] _ 4)
    have pre_3 : ∀ t, Sp p e below T2 (mkF m 182 #[.val (.int p1), .val (.int p2), .val (.int p3), .val (.int p4), .val (.int f0), .val (.int fx), .val (.int f1), .val (.int f2), .val (.int f3)] [(.ref b2)]) t → Steps p.tables e below E0 t := fun t k => pre_1 t (st2 t k)
    have pre_4 : ∀ t, Sp p e below T2 (mkF m 186 #[.val (.int p1), .val (.int p2), .val (.int p3), .val (.int p4), .val (.int f0), .val (.int fx), .val (.int f1), .val (.int f2), .val (.int f3)] [(.int f0), (.int (0 : Int32)), (.ref b2), (.ref b2)]) t → Steps p.tables e below E0 t := by
      intro t k
      refine pre_3 t ?_
      show Sp p e below T2 (mkF m 182 #[.val (.int p1), .val (.int p2), .val (.int p3), .val (.int p4), .val (.int f0), .val (.int fx), .val (.int f1), .val (.int f2), .val (.int f3)] [(.ref b2)]) _
      refine XS.dup X2.here hx rfl (hb hby d_method_3_182) rfl rfl ?_
      refine XS.iconst X2.here hx rfl (hb hby d_method_3_183) ?_
      refine XS.iload X2.here hx rfl (hb hby d_method_3_184) rfl ?_
      exact k
    obtain ⟨cl5, Ar5, q5, S5, M5, H5, G5⟩ := id V2
    obtain ⟨T5, h5, X5, e5, W5, st5⟩ := stI X2 hx hZ e2 Ar5 (j := (0 : Int32)) (inb_of S5 (by decide)) (g := (mkF m 186 #[.val (.int p1), .val (.int p2), .val (.int p3), .val (.int p4), .val (.int f0), .val (.int fx), .val (.int f1), .val (.int f2), .val (.int f3)] [(.int f0), (.int (0 : Int32)), (.ref b2), (.ref b2)])) rfl rfl (hb hby d_method_3_186)
    have N5 := Fr.snoc X5 Nt (Nat.le_trans (own_le O0) (Nat.le_of_eq g2.symm))
    have O5 : Old Z n0 h5 := O2.wr W5 (Nat.le_trans (own_le O0) (Nat.le_of_eq g2.symm))
    have V5 : Arv Z h5 b2 cA2 .int (4 : Int32) [(.int f0), (.int (0 : Int32)), (.int (0 : Int32)), (.int (0 : Int32))] (.int (0 : Int32)) := Arv.set Ar5 q5 S5 M5 H5 G5 rfl W5 0 rfl (Nat.le_of_ble_eq_true rfl)
    have pre_6 : ∀ t, Sp p e below T5 (mkF m 187 #[.val (.int p1), .val (.int p2), .val (.int p3), .val (.int p4), .val (.int f0), .val (.int fx), .val (.int f1), .val (.int f2), .val (.int f3)] [(.ref b2)]) t → Steps p.tables e below E0 t := fun t k => pre_4 t (st5 t k)
    have pre_7 : ∀ t, Sp p e below T5 (mkF m 191 #[.val (.int p1), .val (.int p2), .val (.int p3), .val (.int p4), .val (.int f0), .val (.int fx), .val (.int f1), .val (.int f2), .val (.int f3)] [(.int f1), (.int (1 : Int32)), (.ref b2), (.ref b2)]) t → Steps p.tables e below E0 t := by
      intro t k
      refine pre_6 t ?_
      show Sp p e below T5 (mkF m 187 #[.val (.int p1), .val (.int p2), .val (.int p3), .val (.int p4), .val (.int f0), .val (.int fx), .val (.int f1), .val (.int f2), .val (.int f3)] [(.ref b2)]) _
      refine XS.dup X5.here hx rfl (hb hby d_method_3_187) rfl rfl ?_
      refine XS.iconst X5.here hx rfl (hb hby d_method_3_188) ?_
      refine XS.iload X5.here hx rfl (hb hby d_method_3_189) rfl ?_
      exact k
    obtain ⟨cl8, Ar8, q8, S8, M8, H8, G8⟩ := id V5
    obtain ⟨T8, h8, X8, e8, W8, st8⟩ := stI X5 hx hZ e5 Ar8 (j := (1 : Int32)) (inb_of S8 (by decide)) (g := (mkF m 191 #[.val (.int p1), .val (.int p2), .val (.int p3), .val (.int p4), .val (.int f0), .val (.int fx), .val (.int f1), .val (.int f2), .val (.int f3)] [(.int f1), (.int (1 : Int32)), (.ref b2), (.ref b2)])) rfl rfl (hb hby d_method_3_191)
    have N8 := Fr.snoc X8 N5 (Nat.le_trans (own_le O0) (Nat.le_of_eq g2.symm))
    have O8 : Old Z n0 h8 := O5.wr W8 (Nat.le_trans (own_le O0) (Nat.le_of_eq g2.symm))
    have V8 : Arv Z h8 b2 cA2 .int (4 : Int32) [(.int f0), (.int f1), (.int (0 : Int32)), (.int (0 : Int32))] (.int (0 : Int32)) := Arv.set Ar8 q8 S8 M8 H8 G8 rfl W8 1 rfl (Nat.le_of_ble_eq_true rfl)
    have pre_9 : ∀ t, Sp p e below T8 (mkF m 192 #[.val (.int p1), .val (.int p2), .val (.int p3), .val (.int p4), .val (.int f0), .val (.int fx), .val (.int f1), .val (.int f2), .val (.int f3)] [(.ref b2)]) t → Steps p.tables e below E0 t := fun t k => pre_7 t (st8 t k)
    have pre_10 : ∀ t, Sp p e below T8 (mkF m 196 #[.val (.int p1), .val (.int p2), .val (.int p3), .val (.int p4), .val (.int f0), .val (.int fx), .val (.int f1), .val (.int f2), .val (.int f3)] [(.int f2), (.int (2 : Int32)), (.ref b2), (.ref b2)]) t → Steps p.tables e below E0 t := by
      intro t k
      refine pre_9 t ?_
      show Sp p e below T8 (mkF m 192 #[.val (.int p1), .val (.int p2), .val (.int p3), .val (.int p4), .val (.int f0), .val (.int fx), .val (.int f1), .val (.int f2), .val (.int f3)] [(.ref b2)]) _
      refine XS.dup X8.here hx rfl (hb hby d_method_3_192) rfl rfl ?_
      show Sp p e below T8 (mkF m 193 #[.val (.int p1), .val (.int p2), .val (.int p3), .val (.int p4), .val (.int f0), .val (.int fx), .val (.int f1), .val (.int f2), .val (.int f3)] [(.ref b2), (.ref b2)]) _
      refine XS.iconst X8.here hx rfl (hb hby d_method_3_193) ?_
      refine XS.iload X8.here hx rfl (hb hby d_method_3_194) rfl ?_
      exact k
    obtain ⟨cl11, Ar11, q11, S11, M11, H11, G11⟩ := id V8
    obtain ⟨T11, h11, X11, e11, W11, st11⟩ := stI X8 hx hZ e8 Ar11 (j := (2 : Int32)) (inb_of S11 (by decide)) (g := (mkF m 196 #[.val (.int p1), .val (.int p2), .val (.int p3), .val (.int p4), .val (.int f0), .val (.int fx), .val (.int f1), .val (.int f2), .val (.int f3)] [(.int f2), (.int (2 : Int32)), (.ref b2), (.ref b2)])) rfl rfl (hb hby d_method_3_196)
    have N11 := Fr.snoc X11 N8 (Nat.le_trans (own_le O0) (Nat.le_of_eq g2.symm))
    have O11 : Old Z n0 h11 := O8.wr W11 (Nat.le_trans (own_le O0) (Nat.le_of_eq g2.symm))
    have V11 : Arv Z h11 b2 cA2 .int (4 : Int32) [(.int f0), (.int f1), (.int f2), (.int (0 : Int32))] (.int (0 : Int32)) := Arv.set Ar11 q11 S11 M11 H11 G11 rfl W11 2 rfl (Nat.le_of_ble_eq_true rfl)
    have pre_12 : ∀ t, Sp p e below T11 (mkF m 197 #[.val (.int p1), .val (.int p2), .val (.int p3), .val (.int p4), .val (.int f0), .val (.int fx), .val (.int f1), .val (.int f2), .val (.int f3)] [(.ref b2)]) t → Steps p.tables e below E0 t := fun t k => pre_10 t (st11 t k)
    have pre_13 : ∀ t, Sp p e below T11 (mkF m 201 #[.val (.int p1), .val (.int p2), .val (.int p3), .val (.int p4), .val (.int f0), .val (.int fx), .val (.int f1), .val (.int f2), .val (.int f3)] [(.int f3), (.int (3 : Int32)), (.ref b2), (.ref b2)]) t → Steps p.tables e below E0 t := by
      intro t k
      refine pre_12 t ?_
      show Sp p e below T11 (mkF m 197 #[.val (.int p1), .val (.int p2), .val (.int p3), .val (.int p4), .val (.int f0), .val (.int fx), .val (.int f1), .val (.int f2), .val (.int f3)] [(.ref b2)]) _
      refine XS.dup X11.here hx rfl (hb hby d_method_3_197) rfl rfl ?_
      refine XS.iconst X11.here hx rfl (hb hby d_method_3_198) ?_
      refine XS.iload X11.here hx rfl (hb hby d_method_3_199) rfl ?_
      exact k
    obtain ⟨cl14, Ar14, q14, S14, M14, H14, G14⟩ := id V11
    obtain ⟨T14, h14, X14, e14, W14, st14⟩ := stI X11 hx hZ e11 Ar14 (j := (3 : Int32)) (inb_of S14 (by decide)) (g := (mkF m 201 #[.val (.int p1), .val (.int p2), .val (.int p3), .val (.int p4), .val (.int f0), .val (.int fx), .val (.int f1), .val (.int f2), .val (.int f3)] [(.int f3), (.int (3 : Int32)), (.ref b2), (.ref b2)])) rfl rfl (hb hby d_method_3_201)
    have N14 := Fr.snoc X14 N11 (Nat.le_trans (own_le O0) (Nat.le_of_eq g2.symm))
    have O14 : Old Z n0 h14 := O11.wr W14 (Nat.le_trans (own_le O0) (Nat.le_of_eq g2.symm))
    have V14 : Arv Z h14 b2 cA2 .int (4 : Int32) [(.int f0), (.int f1), (.int f2), (.int f3)] (.int (0 : Int32)) := Arv.set Ar14 q14 S14 M14 H14 G14 rfl W14 3 rfl (Nat.le_of_ble_eq_true rfl)
    have pre_15 : ∀ t, Sp p e below T14 (mkF m 202 #[.val (.int p1), .val (.int p2), .val (.int p3), .val (.int p4), .val (.int f0), .val (.int fx), .val (.int f1), .val (.int f2), .val (.int f3)] [(.ref b2)]) t → Steps p.tables e below E0 t := fun t k => pre_13 t (st14 t k)
    obtain ⟨fs, hr, hrun, hended, hW, hsame⟩ := X14.leave (v := some (.ref b2)) (fun h => by rw [Bd.returns] at h; cases h)
    refine ⟨_, _, pre_15 _ ?_, hrun, hended, _, _, rfl, ?_, ⟨_, rfl⟩, hW, hsame.mono (by decide) (by decide)⟩
    · show Sp p e below T14 (mkF m 202 #[.val (.int p1), .val (.int p2), .val (.int p3), .val (.int p4), .val (.int f0), .val (.int fx), .val (.int f1), .val (.int f2), .val (.int f3)] [(.ref b2)]) _
      exact retOut X14 hx (t := (.array .int)) Bd.returns rfl (Or.inr (Or.inr (Or.inr (Or.inr ⟨rfl, rfl, rfl⟩)))) (hb hby d_method_3_202) hr
    · show Q_fields Z _ _ _ _ h0 n0 _ T14.heap _
      rw [e14]
      exact ⟨b2, cA2, f0, f1, f2, f3, rfl, N14, ((((((Keep.refl h0 []).ext E2).wr W5 (Or.inr (Nat.le_trans (Keep.refl h0 []).1 (Nat.le_of_eq g2.symm)))).wr W8 (Or.inr (Nat.le_trans (Keep.refl h0 []).1 (Nat.le_of_eq g2.symm)))).wr W11 (Or.inr (Nat.le_trans (Keep.refl h0 []).1 (Nat.le_of_eq g2.symm)))).wr W14 (Or.inr (Nat.le_trans (Keep.refl h0 []).1 (Nat.le_of_eq g2.symm)))), (Nat.le_trans (Keep.refl h0 []).1 (Nat.le_of_eq g2.symm)), V14, okt⟩
  have pre_16 : ∀ t, Sp p e below s₁ (mkF m 6 #[.val (.int p1), .val (.int p2), .val (.int p3), .val (.int p4), .val (.int (p1 &&& (7 : Int32))), .unset, .unset, .unset, .unset] []) t → Steps p.tables e below E0 t := by
    intro t k
    refine pre0 t ?_
    show Sp p e below s₁ (mkF m 0 #[.val (.int p1), .val (.int p2), .val (.int p3), .val (.int p4), .unset, .unset, .unset, .unset, .unset] []) _
    refine XS.iloadN X0.here hx rfl (hb hby d_method_3_0) rfl ?_
    refine XS.bipush X0.here hx rfl (hb hby d_method_3_1) ?_
    refine XS.iand X0.here hx rfl (hb hby d_method_3_3) rfl ?_
    refine XS.istore X0.here hx rfl (hb hby d_method_3_4) rfl (l' := #[.val (.int p1), .val (.int p2), .val (.int p3), .val (.int p4), .val (.int (p1 &&& (7 : Int32))), .unset, .unset, .unset, .unset]) rfl ?_
    exact k
  rcases own_eight p1 with hs | hs | hs | hs | hs | hs | hs | hs
  · skip
    rw [hs] at pre_16
    have pre_17 : ∀ t, Sp p e below s₁ (mkF m 66 #[.val (.int p1), .val (.int p2), .val (.int p3), .val (.int p4), .val (.int (0 : Int32)), .val (.int (0 : Int32)), .val (.int (0 : Int32)), .unset, .unset] [(.int (p3 &&& (2147483647 : Int32))), (.int (1 : Int32))]) t → Steps p.tables e below E0 t := by
      intro t k
      refine pre_16 t ?_
      show Sp p e below s₁ (mkF m 6 #[.val (.int p1), .val (.int p2), .val (.int p3), .val (.int p4), .val (.int (0 : Int32)), .unset, .unset, .unset, .unset] []) _
      refine XS.iload X0.here hx rfl (hb hby d_method_3_6) rfl ?_
      refine XS.iconst X0.here hx rfl (hb hby d_method_3_8) ?_
      refine XS.icmpNo X0.here hx rfl (hb hby d_method_3_9) rfl (XT.ii_eq_f (by decide)) ?_
      refine XS.iload X0.here hx rfl (hb hby d_method_3_12) rfl ?_
      show Sp p e below s₁ (mkF m 14 #[.val (.int p1), .val (.int p2), .val (.int p3), .val (.int p4), .val (.int (0 : Int32)), .unset, .unset, .unset, .unset] [(.int (0 : Int32))]) _
      refine XS.iconst X0.here hx rfl (hb hby d_method_3_14) ?_
      refine XS.icmpNo X0.here hx rfl (hb hby d_method_3_15) rfl (XT.ii_eq_f (by decide)) ?_
      refine XS.iload X0.here hx rfl (hb hby d_method_3_18) rfl ?_
      refine XS.iconst X0.here hx rfl (hb hby d_method_3_20) ?_
      refine XS.icmpNo X0.here hx rfl (hb hby d_method_3_21) rfl (XT.ii_eq_f (by decide)) ?_
      refine XS.iload X0.here hx rfl (hb hby d_method_3_24) rfl ?_
      refine XS.bipush X0.here hx rfl (hb hby d_method_3_26) ?_
      refine XS.icmpNo X0.here hx rfl (hb hby d_method_3_28) rfl (XT.ii_eq_f (by decide)) ?_
      show Sp p e below s₁ (mkF m 31 #[.val (.int p1), .val (.int p2), .val (.int p3), .val (.int p4), .val (.int (0 : Int32)), .unset, .unset, .unset, .unset] []) _
      refine XS.iload X0.here hx rfl (hb hby d_method_3_31) rfl ?_
      refine XS.bipush X0.here hx rfl (hb hby d_method_3_33) ?_
      refine XS.icmpYes X0.here hx rfl (pc0 := 35) (pc' := 42) rfl (hb hby d_method_3_35) rfl (XT.ii_ne_t (by decide)) (by decide) (by decide) ?_
      refine XS.iconst X0.here hx rfl (hb hby d_method_3_42) ?_
      refine XS.istore X0.here hx rfl (hb hby d_method_3_43) rfl (l' := #[.val (.int p1), .val (.int p2), .val (.int p3), .val (.int p4), .val (.int (0 : Int32)), .val (.int (0 : Int32)), .unset, .unset, .unset]) rfl ?_
      refine XS.iload X0.here hx rfl (hb hby d_method_3_45) rfl ?_
      refine XS.ifYes X0.here hx rfl (pc0 := 47) (pc' := 58) rfl (hb hby d_method_3_47) rfl (XT.i0_eq_t (by decide)) (by decide) (by decide) ?_
      refine XS.iconst X0.here hx rfl (hb hby d_method_3_58) ?_
      show Sp p e below s₁ (mkF m 59 #[.val (.int p1), .val (.int p2), .val (.int p3), .val (.int p4), .val (.int (0 : Int32)), .val (.int (0 : Int32)), .unset, .unset, .unset] [(.int (0 : Int32))]) _
      refine XS.istore X0.here hx rfl (hb hby d_method_3_59) rfl (l' := #[.val (.int p1), .val (.int p2), .val (.int p3), .val (.int p4), .val (.int (0 : Int32)), .val (.int (0 : Int32)), .val (.int (0 : Int32)), .unset, .unset]) rfl ?_
      refine XS.iconst X0.here hx rfl (hb hby d_method_3_61) ?_
      refine XS.iloadN X0.here hx rfl (hb hby d_method_3_62) rfl ?_
      refine X0.ldcInt hx hown (mvT hZ (own_w hw 4 rfl)) (g := (mkF m 63 #[.val (.int p1), .val (.int p2), .val (.int p3), .val (.int p4), .val (.int (0 : Int32)), .val (.int (0 : Int32)), .val (.int (0 : Int32)), .unset, .unset] [(.int p3), (.int (1 : Int32))])) rfl (hb hby d_method_3_63) _ ?_
      refine XS.iand X0.here hx rfl (hb hby d_method_3_65) rfl ?_
      exact k
    obtain ⟨_, _, ⟨T18, L18, k18, n18⟩, -, X18, ⟨Lc18, hQ18, l18, y18, z18⟩, st18⟩ := Jvm.LawKit.callS X0 hx (y := (⟨"java/lang/Math", "max", "(II)I"⟩ : MethodName)) hown (mvT hZ (own_w hw 5 rfl)) (mvT hZ (own_w hw 6 rfl)) (mvT hZ (own_w hw 7 rfl)) (mvT hZ (own_w hw 8 rfl)) (by decide) (backOf (W := 0) (rm_max l Z a0 hw [] (1 : Int32) (p3 &&& (2147483647 : Int32)) h0 n0 O0) hZ (own_w hw 8 rfl) (own_w hw 7 rfl) (by decide) (by decide)) (g := (mkF m 66 #[.val (.int p1), .val (.int p2), .val (.int p3), .val (.int p4), .val (.int (0 : Int32)), .val (.int (0 : Int32)), .val (.int (0 : Int32)), .unset, .unset] [(.int (p3 &&& (2147483647 : Int32))), (.int (1 : Int32))])) rfl (by rw [hml]; rfl) (argsL := [(.int (1 : Int32)), (.int (p3 &&& (2147483647 : Int32)))]) (rest := []) (lenOf pd_fields_0 rfl) rfl (by show 2 * 0 + _ ≤ _; exact Nat.le_of_eq rfl) (hb hby d_method_3_66) (fun _ _ => ⟨rfl, e0, (by decide : 0 + 0 ≤ _), (by decide : 0 + 0 ≤ _)⟩)
    dsimp only [Pt.U, Pt.locs, Pt.cells, Pt.slots] at X18 l18 y18 z18 st18 hQ18
    subst l18 y18 z18
    obtain ⟨z18, rfl, N18q, e18, hz18⟩ := hQ18
    have N18 := Fr.app N0 N18q
    have pre_19 : ∀ t, Sp p e below T18 (mkF m 69 #[.val (.int p1), .val (.int p2), .val (.int p3), .val (.int p4), .val (.int (0 : Int32)), .val (.int (0 : Int32)), .val (.int (0 : Int32)), .unset, .unset] [(.int z18)]) t → Steps p.tables e below E0 t := fun t k => pre_17 t (st18 t k)
    have pre_20 : ∀ t, Sp p e below T18 (mkF m 179 #[.val (.int p1), .val (.int p2), .val (.int p3), .val (.int p4), .val (.int (0 : Int32)), .val (.int (0 : Int32)), .val (.int (0 : Int32)), .val (.int z18), .val (.int (0 : Int32))] []) t → Steps p.tables e below E0 t := by
      intro t k
      refine pre_19 t ?_
      show Sp p e below T18 (mkF m 69 #[.val (.int p1), .val (.int p2), .val (.int p3), .val (.int p4), .val (.int (0 : Int32)), .val (.int (0 : Int32)), .val (.int (0 : Int32)), .unset, .unset] [(.int z18)]) _
      refine XS.istore X18.here hx rfl (hb hby d_method_3_69) rfl (l' := #[.val (.int p1), .val (.int p2), .val (.int p3), .val (.int p4), .val (.int (0 : Int32)), .val (.int (0 : Int32)), .val (.int (0 : Int32)), .val (.int z18), .unset]) rfl ?_
      refine XS.iconst X18.here hx rfl (hb hby d_method_3_71) ?_
      refine XS.istore X18.here hx rfl (hb hby d_method_3_72) rfl (l' := #[.val (.int p1), .val (.int p2), .val (.int p3), .val (.int p4), .val (.int (0 : Int32)), .val (.int (0 : Int32)), .val (.int (0 : Int32)), .val (.int z18), .val (.int (0 : Int32))]) rfl ?_
      show Sp p e below T18 (mkF m 74 #[.val (.int p1), .val (.int p2), .val (.int p3), .val (.int p4), .val (.int (0 : Int32)), .val (.int (0 : Int32)), .val (.int (0 : Int32)), .val (.int z18), .val (.int (0 : Int32))] []) _
      refine XS.iload X18.here hx rfl (hb hby d_method_3_74) rfl ?_
      refine XS.iconst X18.here hx rfl (hb hby d_method_3_76) ?_
      refine XS.icmpYes X18.here hx rfl (pc0 := 77) (pc' := 105) rfl (hb hby d_method_3_77) rfl (XT.ii_ne_t (by decide)) (by decide) (by decide) ?_
      refine XS.iload X18.here hx rfl (hb hby d_method_3_105) rfl ?_
      refine XS.iconst X18.here hx rfl (hb hby d_method_3_107) ?_
      refine XS.icmpNo X18.here hx rfl (hb hby d_method_3_108) rfl (XT.ii_eq_f (by decide)) ?_
      refine XS.iload X18.here hx rfl (hb hby d_method_3_111) rfl ?_
      refine XS.bipush X18.here hx rfl (hb hby d_method_3_113) ?_
      show Sp p e below T18 (mkF m 115 #[.val (.int p1), .val (.int p2), .val (.int p3), .val (.int p4), .val (.int (0 : Int32)), .val (.int (0 : Int32)), .val (.int (0 : Int32)), .val (.int z18), .val (.int (0 : Int32))] [(.int (7 : Int32)), (.int (0 : Int32))]) _
      refine XS.icmpYes X18.here hx rfl (pc0 := 115) (pc' := 154) rfl (hb hby d_method_3_115) rfl (XT.ii_ne_t (by decide)) (by decide) (by decide) ?_
      refine XS.iload X18.here hx rfl (hb hby d_method_3_154) rfl ?_
      refine XS.iconst X18.here hx rfl (hb hby d_method_3_156) ?_
      refine XS.icmpYes X18.here hx rfl (pc0 := 157) (pc' := 170) rfl (hb hby d_method_3_157) rfl (XT.ii_ne_t (by decide)) (by decide) (by decide) ?_
      refine XS.iload X18.here hx rfl (hb hby d_method_3_170) rfl ?_
      refine XS.iconst X18.here hx rfl (hb hby d_method_3_172) ?_
      refine XS.icmpYes X18.here hx rfl (pc0 := 173) (pc' := 179) rfl (hb hby d_method_3_173) rfl (XT.ii_ne_t (by decide)) (by decide) (by decide) ?_
      exact k
    exact tail_179 T18 _ X18 N18 e18 (0 : Int32) (0 : Int32) (0 : Int32) z18 (0 : Int32) pre_20 (own_ok0 rfl (own_pos hz18) rfl)
  · skip
    rw [hs] at pre_16
    have pre_21 : ∀ t, Sp p e below s₁ (mkF m 66 #[.val (.int p1), .val (.int p2), .val (.int p3), .val (.int p4), .val (.int (1 : Int32)), .val (.int (1 : Int32)), .val (.int ((1 : Int32) + (p2 &&& (1 : Int32)))), .unset, .unset] [(.int (p3 &&& (2147483647 : Int32))), (.int (1 : Int32))]) t → Steps p.tables e below E0 t := by
      intro t k
      refine pre_16 t ?_
      show Sp p e below s₁ (mkF m 6 #[.val (.int p1), .val (.int p2), .val (.int p3), .val (.int p4), .val (.int (1 : Int32)), .unset, .unset, .unset, .unset] []) _
      refine XS.iload X0.here hx rfl (hb hby d_method_3_6) rfl ?_
      refine XS.iconst X0.here hx rfl (hb hby d_method_3_8) ?_
      refine XS.icmpYes X0.here hx rfl (pc0 := 9) (pc' := 38) rfl (hb hby d_method_3_9) rfl (XT.ii_eq_t (by decide)) (by decide) (by decide) ?_
      refine XS.iconst X0.here hx rfl (hb hby d_method_3_38) ?_
      show Sp p e below s₁ (mkF m 39 #[.val (.int p1), .val (.int p2), .val (.int p3), .val (.int p4), .val (.int (1 : Int32)), .unset, .unset, .unset, .unset] [(.int (1 : Int32))]) _
      refine XS.goto X0.here hx rfl (pc0 := 39) (pc' := 43) rfl (hb hby d_method_3_39) (by decide) (by decide) ?_
      refine XS.istore X0.here hx rfl (hb hby d_method_3_43) rfl (l' := #[.val (.int p1), .val (.int p2), .val (.int p3), .val (.int p4), .val (.int (1 : Int32)), .val (.int (1 : Int32)), .unset, .unset, .unset]) rfl ?_
      refine XS.iload X0.here hx rfl (hb hby d_method_3_45) rfl ?_
      refine XS.ifNo X0.here hx rfl (hb hby d_method_3_47) rfl (XT.i0_eq_f (by decide)) ?_
      refine XS.iconst X0.here hx rfl (hb hby d_method_3_50) ?_
      refine XS.iloadN X0.here hx rfl (hb hby d_method_3_51) rfl ?_
      refine XS.iconst X0.here hx rfl (hb hby d_method_3_52) ?_
      refine XS.iand X0.here hx rfl (hb hby d_method_3_53) rfl ?_
      show Sp p e below s₁ (mkF m 54 #[.val (.int p1), .val (.int p2), .val (.int p3), .val (.int p4), .val (.int (1 : Int32)), .val (.int (1 : Int32)), .unset, .unset, .unset] [(.int (p2 &&& (1 : Int32))), (.int (1 : Int32))]) _
      refine XS.iadd X0.here hx rfl (hb hby d_method_3_54) rfl ?_
      refine XS.goto X0.here hx rfl (pc0 := 55) (pc' := 59) rfl (hb hby d_method_3_55) (by decide) (by decide) ?_
      refine XS.istore X0.here hx rfl (hb hby d_method_3_59) rfl (l' := #[.val (.int p1), .val (.int p2), .val (.int p3), .val (.int p4), .val (.int (1 : Int32)), .val (.int (1 : Int32)), .val (.int ((1 : Int32) + (p2 &&& (1 : Int32)))), .unset, .unset]) rfl ?_
      refine XS.iconst X0.here hx rfl (hb hby d_method_3_61) ?_
      refine XS.iloadN X0.here hx rfl (hb hby d_method_3_62) rfl ?_
      refine X0.ldcInt hx hown (mvT hZ (own_w hw 4 rfl)) (g := (mkF m 63 #[.val (.int p1), .val (.int p2), .val (.int p3), .val (.int p4), .val (.int (1 : Int32)), .val (.int (1 : Int32)), .val (.int ((1 : Int32) + (p2 &&& (1 : Int32)))), .unset, .unset] [(.int p3), (.int (1 : Int32))])) rfl (hb hby d_method_3_63) _ ?_
      refine XS.iand X0.here hx rfl (hb hby d_method_3_65) rfl ?_
      exact k
    obtain ⟨_, _, ⟨T22, L22, k22, n22⟩, -, X22, ⟨Lc22, hQ22, l22, y22, z22⟩, st22⟩ := Jvm.LawKit.callS X0 hx (y := (⟨"java/lang/Math", "max", "(II)I"⟩ : MethodName)) hown (mvT hZ (own_w hw 5 rfl)) (mvT hZ (own_w hw 6 rfl)) (mvT hZ (own_w hw 7 rfl)) (mvT hZ (own_w hw 8 rfl)) (by decide) (backOf (W := 0) (rm_max l Z a0 hw [] (1 : Int32) (p3 &&& (2147483647 : Int32)) h0 n0 O0) hZ (own_w hw 8 rfl) (own_w hw 7 rfl) (by decide) (by decide)) (g := (mkF m 66 #[.val (.int p1), .val (.int p2), .val (.int p3), .val (.int p4), .val (.int (1 : Int32)), .val (.int (1 : Int32)), .val (.int ((1 : Int32) + (p2 &&& (1 : Int32)))), .unset, .unset] [(.int (p3 &&& (2147483647 : Int32))), (.int (1 : Int32))])) rfl (by rw [hml]; rfl) (argsL := [(.int (1 : Int32)), (.int (p3 &&& (2147483647 : Int32)))]) (rest := []) (lenOf pd_fields_0 rfl) rfl (by show 2 * 0 + _ ≤ _; exact Nat.le_of_eq rfl) (hb hby d_method_3_66) (fun _ _ => ⟨rfl, e0, (by decide : 0 + 0 ≤ _), (by decide : 0 + 0 ≤ _)⟩)
    dsimp only [Pt.U, Pt.locs, Pt.cells, Pt.slots] at X22 l22 y22 z22 st22 hQ22
    subst l22 y22 z22
    obtain ⟨z22, rfl, N22q, e22, hz22⟩ := hQ22
    have N22 := Fr.app N0 N22q
    have pre_23 : ∀ t, Sp p e below T22 (mkF m 69 #[.val (.int p1), .val (.int p2), .val (.int p3), .val (.int p4), .val (.int (1 : Int32)), .val (.int (1 : Int32)), .val (.int ((1 : Int32) + (p2 &&& (1 : Int32)))), .unset, .unset] [(.int z22)]) t → Steps p.tables e below E0 t := fun t k => pre_21 t (st22 t k)
    have pre_24 : ∀ t, Sp p e below T22 (mkF m 84 #[.val (.int p1), .val (.int p2), .val (.int p3), .val (.int p4), .val (.int (1 : Int32)), .val (.int (1 : Int32)), .val (.int ((1 : Int32) + (p2 &&& (1 : Int32)))), .val (.int z22), .val (.int (0 : Int32))] [(.int (2147483646 : Int32)), (.int z22)]) t → Steps p.tables e below E0 t := by
      intro t k
      refine pre_23 t ?_
      show Sp p e below T22 (mkF m 69 #[.val (.int p1), .val (.int p2), .val (.int p3), .val (.int p4), .val (.int (1 : Int32)), .val (.int (1 : Int32)), .val (.int ((1 : Int32) + (p2 &&& (1 : Int32)))), .unset, .unset] [(.int z22)]) _
      refine XS.istore X22.here hx rfl (hb hby d_method_3_69) rfl (l' := #[.val (.int p1), .val (.int p2), .val (.int p3), .val (.int p4), .val (.int (1 : Int32)), .val (.int (1 : Int32)), .val (.int ((1 : Int32) + (p2 &&& (1 : Int32)))), .val (.int z22), .unset]) rfl ?_
      show Sp p e below T22 (mkF m 71 #[.val (.int p1), .val (.int p2), .val (.int p3), .val (.int p4), .val (.int (1 : Int32)), .val (.int (1 : Int32)), .val (.int ((1 : Int32) + (p2 &&& (1 : Int32)))), .val (.int z22), .unset] []) _
      refine XS.iconst X22.here hx rfl (hb hby d_method_3_71) ?_
      refine XS.istore X22.here hx rfl (hb hby d_method_3_72) rfl (l' := #[.val (.int p1), .val (.int p2), .val (.int p3), .val (.int p4), .val (.int (1 : Int32)), .val (.int (1 : Int32)), .val (.int ((1 : Int32) + (p2 &&& (1 : Int32)))), .val (.int z22), .val (.int (0 : Int32))]) rfl ?_
      refine XS.iload X22.here hx rfl (hb hby d_method_3_74) rfl ?_
      refine XS.iconst X22.here hx rfl (hb hby d_method_3_76) ?_
      refine XS.icmpNo X22.here hx rfl (hb hby d_method_3_77) rfl (XT.ii_ne_f (by decide)) ?_
      refine XS.iload X22.here hx rfl (hb hby d_method_3_80) rfl ?_
      refine X22.ldcInt hx hown (mvT hZ (own_w hw 188 rfl)) (g := (mkF m 82 #[.val (.int p1), .val (.int p2), .val (.int p3), .val (.int p4), .val (.int (1 : Int32)), .val (.int (1 : Int32)), .val (.int ((1 : Int32) + (p2 &&& (1 : Int32)))), .val (.int z22), .val (.int (0 : Int32))] [(.int z22)])) rfl (hb hby d_method_3_82) _ ?_
      exact k
    obtain ⟨_, _, ⟨T25, L25, k25, n25⟩, -, X25, ⟨Lc25, hQ25, l25, y25, z25⟩, st25⟩ := Jvm.LawKit.callS X22 hx (y := (⟨"java/lang/Math", "min", "(II)I"⟩ : MethodName)) hown (mvT hZ (own_w hw 189 rfl)) (mvT hZ (own_w hw 190 rfl)) (mvT hZ (own_w hw 7 rfl)) (mvT hZ (own_w hw 191 rfl)) (by decide) (backOf (W := 0) (rm_min l Z a0 hw [] z22 (2147483646 : Int32) h0 n0 O0) hZ (own_w hw 191 rfl) (own_w hw 7 rfl) (by decide) (by decide)) (g := (mkF m 84 #[.val (.int p1), .val (.int p2), .val (.int p3), .val (.int p4), .val (.int (1 : Int32)), .val (.int (1 : Int32)), .val (.int ((1 : Int32) + (p2 &&& (1 : Int32)))), .val (.int z22), .val (.int (0 : Int32))] [(.int (2147483646 : Int32)), (.int z22)])) rfl (by rw [hml]; rfl) (argsL := [(.int z22), (.int (2147483646 : Int32))]) (rest := []) (lenOf pd_fields_0 rfl) rfl (by show 2 * 0 + _ ≤ _; exact Nat.le_of_eq rfl) (hb hby d_method_3_84) (fun _ _ => ⟨rfl, e22, (by decide : 0 + 0 ≤ _), (by decide : 0 + 0 ≤ _)⟩)
    dsimp only [Pt.U, Pt.locs, Pt.cells, Pt.slots] at X25 l25 y25 z25 st25 hQ25
    subst l25 y25 z25
    obtain ⟨z25, rfl, N25q, e25, hz25⟩ := hQ25
    have N25 := Fr.app N22 N25q
    have pre_26 : ∀ t, Sp p e below T25 (mkF m 87 #[.val (.int p1), .val (.int p2), .val (.int p3), .val (.int p4), .val (.int (1 : Int32)), .val (.int (1 : Int32)), .val (.int ((1 : Int32) + (p2 &&& (1 : Int32)))), .val (.int z22), .val (.int (0 : Int32))] [(.int z25)]) t → Steps p.tables e below E0 t := fun t k => pre_24 t (st25 t k)
    have pre_27 : ∀ t, Sp p e below T25 (mkF m 97 #[.val (.int p1), .val (.int p2), .val (.int p3), .val (.int p4), .val (.int (1 : Int32)), .val (.int (1 : Int32)), .val (.int ((1 : Int32) + (p2 &&& (1 : Int32)))), .val (.int z25), .val (.int (0 : Int32))] [(.int (z25 + (1 : Int32))), (.int (p4 &&& (2147483647 : Int32)))]) t → Steps p.tables e below E0 t := by
      intro t k
      refine pre_26 t ?_
      show Sp p e below T25 (mkF m 87 #[.val (.int p1), .val (.int p2), .val (.int p3), .val (.int p4), .val (.int (1 : Int32)), .val (.int (1 : Int32)), .val (.int ((1 : Int32) + (p2 &&& (1 : Int32)))), .val (.int z22), .val (.int (0 : Int32))] [(.int z25)]) _
      refine XS.istore X25.here hx rfl (hb hby d_method_3_87) rfl (l' := #[.val (.int p1), .val (.int p2), .val (.int p3), .val (.int p4), .val (.int (1 : Int32)), .val (.int (1 : Int32)), .val (.int ((1 : Int32) + (p2 &&& (1 : Int32)))), .val (.int z25), .val (.int (0 : Int32))]) rfl ?_
      show Sp p e below T25 (mkF m 89 #[.val (.int p1), .val (.int p2), .val (.int p3), .val (.int p4), .val (.int (1 : Int32)), .val (.int (1 : Int32)), .val (.int ((1 : Int32) + (p2 &&& (1 : Int32)))), .val (.int z25), .val (.int (0 : Int32))] []) _
      refine XS.iloadN X25.here hx rfl (hb hby d_method_3_89) rfl ?_
      refine X25.ldcInt hx hown (mvT hZ (own_w hw 4 rfl)) (g := (mkF m 90 #[.val (.int p1), .val (.int p2), .val (.int p3), .val (.int p4), .val (.int (1 : Int32)), .val (.int (1 : Int32)), .val (.int ((1 : Int32) + (p2 &&& (1 : Int32)))), .val (.int z25), .val (.int (0 : Int32))] [(.int p4)])) rfl (hb hby d_method_3_90) _ ?_
      refine XS.iand X25.here hx rfl (hb hby d_method_3_92) rfl ?_
      refine XS.iload X25.here hx rfl (hb hby d_method_3_93) rfl ?_
      refine XS.iconst X25.here hx rfl (hb hby d_method_3_95) ?_
      refine XS.iadd X25.here hx rfl (hb hby d_method_3_96) rfl ?_
      exact k
    obtain ⟨_, _, ⟨T28, L28, k28, n28⟩, -, X28, ⟨Lc28, hQ28, l28, y28, z28⟩, st28⟩ := Jvm.LawKit.callS X25 hx (y := (⟨"java/lang/Math", "max", "(II)I"⟩ : MethodName)) hown (mvT hZ (own_w hw 5 rfl)) (mvT hZ (own_w hw 6 rfl)) (mvT hZ (own_w hw 7 rfl)) (mvT hZ (own_w hw 8 rfl)) (by decide) (backOf (W := 0) (rm_max l Z a0 hw [] (p4 &&& (2147483647 : Int32)) (z25 + (1 : Int32)) h0 n0 O0) hZ (own_w hw 8 rfl) (own_w hw 7 rfl) (by decide) (by decide)) (g := (mkF m 97 #[.val (.int p1), .val (.int p2), .val (.int p3), .val (.int p4), .val (.int (1 : Int32)), .val (.int (1 : Int32)), .val (.int ((1 : Int32) + (p2 &&& (1 : Int32)))), .val (.int z25), .val (.int (0 : Int32))] [(.int (z25 + (1 : Int32))), (.int (p4 &&& (2147483647 : Int32)))])) rfl (by rw [hml]; rfl) (argsL := [(.int (p4 &&& (2147483647 : Int32))), (.int (z25 + (1 : Int32)))]) (rest := []) (lenOf pd_fields_0 rfl) rfl (by show 2 * 0 + _ ≤ _; exact Nat.le_of_eq rfl) (hb hby d_method_3_97) (fun _ _ => ⟨rfl, e25, (by decide : 0 + 0 ≤ _), (by decide : 0 + 0 ≤ _)⟩)
    dsimp only [Pt.U, Pt.locs, Pt.cells, Pt.slots] at X28 l28 y28 z28 st28 hQ28
    subst l28 y28 z28
    obtain ⟨z28, rfl, N28q, e28, hz28⟩ := hQ28
    have N28 := Fr.app N25 N28q
    have pre_29 : ∀ t, Sp p e below T28 (mkF m 100 #[.val (.int p1), .val (.int p2), .val (.int p3), .val (.int p4), .val (.int (1 : Int32)), .val (.int (1 : Int32)), .val (.int ((1 : Int32) + (p2 &&& (1 : Int32)))), .val (.int z25), .val (.int (0 : Int32))] [(.int z28)]) t → Steps p.tables e below E0 t := fun t k => pre_27 t (st28 t k)
    have pre_30 : ∀ t, Sp p e below T28 (mkF m 179 #[.val (.int p1), .val (.int p2), .val (.int p3), .val (.int p4), .val (.int (1 : Int32)), .val (.int (1 : Int32)), .val (.int ((1 : Int32) + (p2 &&& (1 : Int32)))), .val (.int z25), .val (.int z28)] []) t → Steps p.tables e below E0 t := by
      intro t k
      refine pre_29 t ?_
      show Sp p e below T28 (mkF m 100 #[.val (.int p1), .val (.int p2), .val (.int p3), .val (.int p4), .val (.int (1 : Int32)), .val (.int (1 : Int32)), .val (.int ((1 : Int32) + (p2 &&& (1 : Int32)))), .val (.int z25), .val (.int (0 : Int32))] [(.int z28)]) _
      refine XS.istore X28.here hx rfl (hb hby d_method_3_100) rfl (l' := #[.val (.int p1), .val (.int p2), .val (.int p3), .val (.int p4), .val (.int (1 : Int32)), .val (.int (1 : Int32)), .val (.int ((1 : Int32) + (p2 &&& (1 : Int32)))), .val (.int z25), .val (.int z28)]) rfl ?_
      refine XS.goto X28.here hx rfl (pc0 := 102) (pc' := 179) rfl (hb hby d_method_3_102) (by decide) (by decide) ?_
      show Sp p e below T28 (mkF m 179 #[.val (.int p1), .val (.int p2), .val (.int p3), .val (.int p4), .val (.int (1 : Int32)), .val (.int (1 : Int32)), .val (.int ((1 : Int32) + (p2 &&& (1 : Int32)))), .val (.int z25), .val (.int z28)] []) _
      exact k
    exact tail_179 T28 _ X28 N28 e28 (1 : Int32) (1 : Int32) ((1 : Int32) + (p2 &&& (1 : Int32))) z25 z28 pre_30 (own_ok1 (own_e12 p2) (own_k1 hz22 hz25 hz28))
  · skip
    rw [hs] at pre_16
    have pre_31 : ∀ t, Sp p e below s₁ (mkF m 66 #[.val (.int p1), .val (.int p2), .val (.int p3), .val (.int p4), .val (.int (2 : Int32)), .val (.int (1 : Int32)), .val (.int ((1 : Int32) + (p2 &&& (1 : Int32)))), .unset, .unset] [(.int (p3 &&& (2147483647 : Int32))), (.int (1 : Int32))]) t → Steps p.tables e below E0 t := by
      intro t k
      refine pre_16 t ?_
      show Sp p e below s₁ (mkF m 6 #[.val (.int p1), .val (.int p2), .val (.int p3), .val (.int p4), .val (.int (2 : Int32)), .unset, .unset, .unset, .unset] []) _
      refine XS.iload X0.here hx rfl (hb hby d_method_3_6) rfl ?_
      refine XS.iconst X0.here hx rfl (hb hby d_method_3_8) ?_
      refine XS.icmpNo X0.here hx rfl (hb hby d_method_3_9) rfl (XT.ii_eq_f (by decide)) ?_
      refine XS.iload X0.here hx rfl (hb hby d_method_3_12) rfl ?_
      show Sp p e below s₁ (mkF m 14 #[.val (.int p1), .val (.int p2), .val (.int p3), .val (.int p4), .val (.int (2 : Int32)), .unset, .unset, .unset, .unset] [(.int (2 : Int32))]) _
      refine XS.iconst X0.here hx rfl (hb hby d_method_3_14) ?_
      refine XS.icmpYes X0.here hx rfl (pc0 := 15) (pc' := 38) rfl (hb hby d_method_3_15) rfl (XT.ii_eq_t (by decide)) (by decide) (by decide) ?_
      refine XS.iconst X0.here hx rfl (hb hby d_method_3_38) ?_
      refine XS.goto X0.here hx rfl (pc0 := 39) (pc' := 43) rfl (hb hby d_method_3_39) (by decide) (by decide) ?_
      refine XS.istore X0.here hx rfl (hb hby d_method_3_43) rfl (l' := #[.val (.int p1), .val (.int p2), .val (.int p3), .val (.int p4), .val (.int (2 : Int32)), .val (.int (1 : Int32)), .unset, .unset, .unset]) rfl ?_
      refine XS.iload X0.here hx rfl (hb hby d_method_3_45) rfl ?_
      refine XS.ifNo X0.here hx rfl (hb hby d_method_3_47) rfl (XT.i0_eq_f (by decide)) ?_
      refine XS.iconst X0.here hx rfl (hb hby d_method_3_50) ?_
      show Sp p e below s₁ (mkF m 51 #[.val (.int p1), .val (.int p2), .val (.int p3), .val (.int p4), .val (.int (2 : Int32)), .val (.int (1 : Int32)), .unset, .unset, .unset] [(.int (1 : Int32))]) _
      refine XS.iloadN X0.here hx rfl (hb hby d_method_3_51) rfl ?_
      refine XS.iconst X0.here hx rfl (hb hby d_method_3_52) ?_
      refine XS.iand X0.here hx rfl (hb hby d_method_3_53) rfl ?_
      refine XS.iadd X0.here hx rfl (hb hby d_method_3_54) rfl ?_
      refine XS.goto X0.here hx rfl (pc0 := 55) (pc' := 59) rfl (hb hby d_method_3_55) (by decide) (by decide) ?_
      refine XS.istore X0.here hx rfl (hb hby d_method_3_59) rfl (l' := #[.val (.int p1), .val (.int p2), .val (.int p3), .val (.int p4), .val (.int (2 : Int32)), .val (.int (1 : Int32)), .val (.int ((1 : Int32) + (p2 &&& (1 : Int32)))), .unset, .unset]) rfl ?_
      refine XS.iconst X0.here hx rfl (hb hby d_method_3_61) ?_
      refine XS.iloadN X0.here hx rfl (hb hby d_method_3_62) rfl ?_
      show Sp p e below s₁ (mkF m 63 #[.val (.int p1), .val (.int p2), .val (.int p3), .val (.int p4), .val (.int (2 : Int32)), .val (.int (1 : Int32)), .val (.int ((1 : Int32) + (p2 &&& (1 : Int32)))), .unset, .unset] [(.int p3), (.int (1 : Int32))]) _
      refine X0.ldcInt hx hown (mvT hZ (own_w hw 4 rfl)) (g := (mkF m 63 #[.val (.int p1), .val (.int p2), .val (.int p3), .val (.int p4), .val (.int (2 : Int32)), .val (.int (1 : Int32)), .val (.int ((1 : Int32) + (p2 &&& (1 : Int32)))), .unset, .unset] [(.int p3), (.int (1 : Int32))])) rfl (hb hby d_method_3_63) _ ?_
      refine XS.iand X0.here hx rfl (hb hby d_method_3_65) rfl ?_
      exact k
    obtain ⟨_, _, ⟨T32, L32, k32, n32⟩, -, X32, ⟨Lc32, hQ32, l32, y32, z32⟩, st32⟩ := Jvm.LawKit.callS X0 hx (y := (⟨"java/lang/Math", "max", "(II)I"⟩ : MethodName)) hown (mvT hZ (own_w hw 5 rfl)) (mvT hZ (own_w hw 6 rfl)) (mvT hZ (own_w hw 7 rfl)) (mvT hZ (own_w hw 8 rfl)) (by decide) (backOf (W := 0) (rm_max l Z a0 hw [] (1 : Int32) (p3 &&& (2147483647 : Int32)) h0 n0 O0) hZ (own_w hw 8 rfl) (own_w hw 7 rfl) (by decide) (by decide)) (g := (mkF m 66 #[.val (.int p1), .val (.int p2), .val (.int p3), .val (.int p4), .val (.int (2 : Int32)), .val (.int (1 : Int32)), .val (.int ((1 : Int32) + (p2 &&& (1 : Int32)))), .unset, .unset] [(.int (p3 &&& (2147483647 : Int32))), (.int (1 : Int32))])) rfl (by rw [hml]; rfl) (argsL := [(.int (1 : Int32)), (.int (p3 &&& (2147483647 : Int32)))]) (rest := []) (lenOf pd_fields_0 rfl) rfl (by show 2 * 0 + _ ≤ _; exact Nat.le_of_eq rfl) (hb hby d_method_3_66) (fun _ _ => ⟨rfl, e0, (by decide : 0 + 0 ≤ _), (by decide : 0 + 0 ≤ _)⟩)
    dsimp only [Pt.U, Pt.locs, Pt.cells, Pt.slots] at X32 l32 y32 z32 st32 hQ32
    subst l32 y32 z32
    obtain ⟨z32, rfl, N32q, e32, hz32⟩ := hQ32
    have N32 := Fr.app N0 N32q
    have pre_33 : ∀ t, Sp p e below T32 (mkF m 69 #[.val (.int p1), .val (.int p2), .val (.int p3), .val (.int p4), .val (.int (2 : Int32)), .val (.int (1 : Int32)), .val (.int ((1 : Int32) + (p2 &&& (1 : Int32)))), .unset, .unset] [(.int z32)]) t → Steps p.tables e below E0 t := fun t k => pre_31 t (st32 t k)
    have pre_34 : ∀ t, Sp p e below T32 (mkF m 123 #[.val (.int p1), .val (.int p2), .val (.int p3), .val (.int p4), .val (.int (2 : Int32)), .val (.int (1 : Int32)), .val (.int ((1 : Int32) + (p2 &&& (1 : Int32)))), .val (.int z32), .val (.int (0 : Int32))] [(.int (p4 &&& (2147483647 : Int32))), (.int (1 : Int32))]) t → Steps p.tables e below E0 t := by
      intro t k
      refine pre_33 t ?_
      show Sp p e below T32 (mkF m 69 #[.val (.int p1), .val (.int p2), .val (.int p3), .val (.int p4), .val (.int (2 : Int32)), .val (.int (1 : Int32)), .val (.int ((1 : Int32) + (p2 &&& (1 : Int32)))), .unset, .unset] [(.int z32)]) _
      refine XS.istore X32.here hx rfl (hb hby d_method_3_69) rfl (l' := #[.val (.int p1), .val (.int p2), .val (.int p3), .val (.int p4), .val (.int (2 : Int32)), .val (.int (1 : Int32)), .val (.int ((1 : Int32) + (p2 &&& (1 : Int32)))), .val (.int z32), .unset]) rfl ?_
      refine XS.iconst X32.here hx rfl (hb hby d_method_3_71) ?_
      refine XS.istore X32.here hx rfl (hb hby d_method_3_72) rfl (l' := #[.val (.int p1), .val (.int p2), .val (.int p3), .val (.int p4), .val (.int (2 : Int32)), .val (.int (1 : Int32)), .val (.int ((1 : Int32) + (p2 &&& (1 : Int32)))), .val (.int z32), .val (.int (0 : Int32))]) rfl ?_
      refine XS.iload X32.here hx rfl (hb hby d_method_3_74) rfl ?_
      refine XS.iconst X32.here hx rfl (hb hby d_method_3_76) ?_
      refine XS.icmpYes X32.here hx rfl (pc0 := 77) (pc' := 105) rfl (hb hby d_method_3_77) rfl (XT.ii_ne_t (by decide)) (by decide) (by decide) ?_
      show Sp p e below T32 (mkF m 105 #[.val (.int p1), .val (.int p2), .val (.int p3), .val (.int p4), .val (.int (2 : Int32)), .val (.int (1 : Int32)), .val (.int ((1 : Int32) + (p2 &&& (1 : Int32)))), .val (.int z32), .val (.int (0 : Int32))] []) _
      refine XS.iload X32.here hx rfl (hb hby d_method_3_105) rfl ?_
      refine XS.iconst X32.here hx rfl (hb hby d_method_3_107) ?_
      refine XS.icmpYes X32.here hx rfl (pc0 := 108) (pc' := 118) rfl (hb hby d_method_3_108) rfl (XT.ii_eq_t (by decide)) (by decide) (by decide) ?_
      refine XS.iconst X32.here hx rfl (hb hby d_method_3_118) ?_
      refine XS.iloadN X32.here hx rfl (hb hby d_method_3_119) rfl ?_
      refine X32.ldcInt hx hown (mvT hZ (own_w hw 4 rfl)) (g := (mkF m 120 #[.val (.int p1), .val (.int p2), .val (.int p3), .val (.int p4), .val (.int (2 : Int32)), .val (.int (1 : Int32)), .val (.int ((1 : Int32) + (p2 &&& (1 : Int32)))), .val (.int z32), .val (.int (0 : Int32))] [(.int p4), (.int (1 : Int32))])) rfl (hb hby d_method_3_120) _ ?_
      refine XS.iand X32.here hx rfl (hb hby d_method_3_122) rfl ?_
      exact k
    obtain ⟨_, _, ⟨T35, L35, k35, n35⟩, -, X35, ⟨Lc35, hQ35, l35, y35, z35⟩, st35⟩ := Jvm.LawKit.callS X32 hx (y := (⟨"java/lang/Math", "max", "(II)I"⟩ : MethodName)) hown (mvT hZ (own_w hw 5 rfl)) (mvT hZ (own_w hw 6 rfl)) (mvT hZ (own_w hw 7 rfl)) (mvT hZ (own_w hw 8 rfl)) (by decide) (backOf (W := 0) (rm_max l Z a0 hw [] (1 : Int32) (p4 &&& (2147483647 : Int32)) h0 n0 O0) hZ (own_w hw 8 rfl) (own_w hw 7 rfl) (by decide) (by decide)) (g := (mkF m 123 #[.val (.int p1), .val (.int p2), .val (.int p3), .val (.int p4), .val (.int (2 : Int32)), .val (.int (1 : Int32)), .val (.int ((1 : Int32) + (p2 &&& (1 : Int32)))), .val (.int z32), .val (.int (0 : Int32))] [(.int (p4 &&& (2147483647 : Int32))), (.int (1 : Int32))])) rfl (by rw [hml]; rfl) (argsL := [(.int (1 : Int32)), (.int (p4 &&& (2147483647 : Int32)))]) (rest := []) (lenOf pd_fields_0 rfl) rfl (by show 2 * 0 + _ ≤ _; exact Nat.le_of_eq rfl) (hb hby d_method_3_123) (fun _ _ => ⟨rfl, e32, (by decide : 0 + 0 ≤ _), (by decide : 0 + 0 ≤ _)⟩)
    dsimp only [Pt.U, Pt.locs, Pt.cells, Pt.slots] at X35 l35 y35 z35 st35 hQ35
    subst l35 y35 z35
    obtain ⟨z35, rfl, N35q, e35, hz35⟩ := hQ35
    have N35 := Fr.app N32 N35q
    have pre_36 : ∀ t, Sp p e below T35 (mkF m 126 #[.val (.int p1), .val (.int p2), .val (.int p3), .val (.int p4), .val (.int (2 : Int32)), .val (.int (1 : Int32)), .val (.int ((1 : Int32) + (p2 &&& (1 : Int32)))), .val (.int z32), .val (.int (0 : Int32))] [(.int z35)]) t → Steps p.tables e below E0 t := fun t k => pre_34 t (st35 t k)
    have pre_37 : ∀ t, Sp p e below T35 (mkF m 132 #[.val (.int p1), .val (.int p2), .val (.int p3), .val (.int p4), .val (.int (2 : Int32)), .val (.int (1 : Int32)), .val (.int ((1 : Int32) + (p2 &&& (1 : Int32)))), .val (.int z32), .val (.int z35)] [(.int z32), (.int z35)]) t → Steps p.tables e below E0 t := by
      intro t k
      refine pre_36 t ?_
      show Sp p e below T35 (mkF m 126 #[.val (.int p1), .val (.int p2), .val (.int p3), .val (.int p4), .val (.int (2 : Int32)), .val (.int (1 : Int32)), .val (.int ((1 : Int32) + (p2 &&& (1 : Int32)))), .val (.int z32), .val (.int (0 : Int32))] [(.int z35)]) _
      refine XS.istore X35.here hx rfl (hb hby d_method_3_126) rfl (l' := #[.val (.int p1), .val (.int p2), .val (.int p3), .val (.int p4), .val (.int (2 : Int32)), .val (.int (1 : Int32)), .val (.int ((1 : Int32) + (p2 &&& (1 : Int32)))), .val (.int z32), .val (.int z35)]) rfl ?_
      show Sp p e below T35 (mkF m 128 #[.val (.int p1), .val (.int p2), .val (.int p3), .val (.int p4), .val (.int (2 : Int32)), .val (.int (1 : Int32)), .val (.int ((1 : Int32) + (p2 &&& (1 : Int32)))), .val (.int z32), .val (.int z35)] []) _
      refine XS.iload X35.here hx rfl (hb hby d_method_3_128) rfl ?_
      refine XS.iload X35.here hx rfl (hb hby d_method_3_130) rfl ?_
      exact k
    by_cases hc38 : z35 = z32
    · skip
      have pre_39 : ∀ t, Sp p e below T35 (mkF m 138 #[.val (.int p1), .val (.int p2), .val (.int p3), .val (.int p4), .val (.int (2 : Int32)), .val (.int (1 : Int32)), .val (.int ((1 : Int32) + (p2 &&& (1 : Int32)))), .val (.int z32), .val (.int z35)] [(.int (1 : Int32)), (.int z32)]) t → Steps p.tables e below E0 t := by
        intro t k
        refine pre_37 t ?_
        show Sp p e below T35 (mkF m 132 #[.val (.int p1), .val (.int p2), .val (.int p3), .val (.int p4), .val (.int (2 : Int32)), .val (.int (1 : Int32)), .val (.int ((1 : Int32) + (p2 &&& (1 : Int32)))), .val (.int z32), .val (.int z35)] [(.int z32), (.int z35)]) _
        refine XS.icmpNo X35.here hx rfl (hb hby d_method_3_132) rfl (XT.ii_ne_f hc38) ?_
        refine XS.iload X35.here hx rfl (hb hby d_method_3_135) rfl ?_
        refine XS.iconst X35.here hx rfl (hb hby d_method_3_137) ?_
        exact k
      by_cases hc40 : z32 = (1 : Int32)
      · skip
        have pre_41 : ∀ t, Sp p e below T35 (mkF m 179 #[.val (.int p1), .val (.int p2), .val (.int p3), .val (.int p4), .val (.int (2 : Int32)), .val (.int (1 : Int32)), .val (.int ((1 : Int32) + (p2 &&& (1 : Int32)))), .val (.int z32), .val (.int (2 : Int32))] []) t → Steps p.tables e below E0 t := by
          intro t k
          refine pre_39 t ?_
          show Sp p e below T35 (mkF m 138 #[.val (.int p1), .val (.int p2), .val (.int p3), .val (.int p4), .val (.int (2 : Int32)), .val (.int (1 : Int32)), .val (.int ((1 : Int32) + (p2 &&& (1 : Int32)))), .val (.int z32), .val (.int z35)] [(.int (1 : Int32)), (.int z32)]) _
          refine XS.icmpNo X35.here hx rfl (hb hby d_method_3_138) rfl (XT.ii_ne_f hc40) ?_
          refine XS.iconst X35.here hx rfl (hb hby d_method_3_141) ?_
          refine XS.goto X35.here hx rfl (pc0 := 142) (pc' := 149) rfl (hb hby d_method_3_142) (by decide) (by decide) ?_
          show Sp p e below T35 (mkF m 149 #[.val (.int p1), .val (.int p2), .val (.int p3), .val (.int p4), .val (.int (2 : Int32)), .val (.int (1 : Int32)), .val (.int ((1 : Int32) + (p2 &&& (1 : Int32)))), .val (.int z32), .val (.int z35)] [(.int (2 : Int32))]) _
          refine XS.istore X35.here hx rfl (hb hby d_method_3_149) rfl (l' := #[.val (.int p1), .val (.int p2), .val (.int p3), .val (.int p4), .val (.int (2 : Int32)), .val (.int (1 : Int32)), .val (.int ((1 : Int32) + (p2 &&& (1 : Int32)))), .val (.int z32), .val (.int (2 : Int32))]) rfl ?_
          refine XS.goto X35.here hx rfl (pc0 := 151) (pc' := 179) rfl (hb hby d_method_3_151) (by decide) (by decide) ?_
          exact k
        exact tail_179 T35 _ X35 N35 e35 (2 : Int32) (1 : Int32) ((1 : Int32) + (p2 &&& (1 : Int32))) z32 (2 : Int32) pre_41 (own_ok2 (own_e12 p2) (own_pos hz32) (own_k2a hc40))
      · skip
        have pre_42 : ∀ t, Sp p e below T35 (mkF m 179 #[.val (.int p1), .val (.int p2), .val (.int p3), .val (.int p4), .val (.int (2 : Int32)), .val (.int (1 : Int32)), .val (.int ((1 : Int32) + (p2 &&& (1 : Int32)))), .val (.int z32), .val (.int (z32 - (1 : Int32)))] []) t → Steps p.tables e below E0 t := by
          intro t k
          refine pre_39 t ?_
          show Sp p e below T35 (mkF m 138 #[.val (.int p1), .val (.int p2), .val (.int p3), .val (.int p4), .val (.int (2 : Int32)), .val (.int (1 : Int32)), .val (.int ((1 : Int32) + (p2 &&& (1 : Int32)))), .val (.int z32), .val (.int z35)] [(.int (1 : Int32)), (.int z32)]) _
          refine XS.icmpYes X35.here hx rfl (pc0 := 138) (pc' := 145) rfl (hb hby d_method_3_138) rfl (XT.ii_ne_t hc40) (by decide) (by decide) ?_
          refine XS.iload X35.here hx rfl (hb hby d_method_3_145) rfl ?_
          refine XS.iconst X35.here hx rfl (hb hby d_method_3_147) ?_
          show Sp p e below T35 (mkF m 148 #[.val (.int p1), .val (.int p2), .val (.int p3), .val (.int p4), .val (.int (2 : Int32)), .val (.int (1 : Int32)), .val (.int ((1 : Int32) + (p2 &&& (1 : Int32)))), .val (.int z32), .val (.int z35)] [(.int (1 : Int32)), (.int z32)]) _
          refine XS.isub X35.here hx rfl (hb hby d_method_3_148) rfl ?_
          refine XS.istore X35.here hx rfl (hb hby d_method_3_149) rfl (l' := #[.val (.int p1), .val (.int p2), .val (.int p3), .val (.int p4), .val (.int (2 : Int32)), .val (.int (1 : Int32)), .val (.int ((1 : Int32) + (p2 &&& (1 : Int32)))), .val (.int z32), .val (.int (z32 - (1 : Int32)))]) rfl ?_
          refine XS.goto X35.here hx rfl (pc0 := 151) (pc' := 179) rfl (hb hby d_method_3_151) (by decide) (by decide) ?_
          exact k
        exact tail_179 T35 _ X35 N35 e35 (2 : Int32) (1 : Int32) ((1 : Int32) + (p2 &&& (1 : Int32))) z32 (z32 - (1 : Int32)) pre_42 (own_ok2 (own_e12 p2) (own_pos hz32) (own_k2b hz32 hc40))
    · skip
      have pre_43 : ∀ t, Sp p e below T35 (mkF m 179 #[.val (.int p1), .val (.int p2), .val (.int p3), .val (.int p4), .val (.int (2 : Int32)), .val (.int (1 : Int32)), .val (.int ((1 : Int32) + (p2 &&& (1 : Int32)))), .val (.int z32), .val (.int z35)] []) t → Steps p.tables e below E0 t := by
        intro t k
        refine pre_37 t ?_
        show Sp p e below T35 (mkF m 132 #[.val (.int p1), .val (.int p2), .val (.int p3), .val (.int p4), .val (.int (2 : Int32)), .val (.int (1 : Int32)), .val (.int ((1 : Int32) + (p2 &&& (1 : Int32)))), .val (.int z32), .val (.int z35)] [(.int z32), (.int z35)]) _
        refine XS.icmpYes X35.here hx rfl (pc0 := 132) (pc' := 179) rfl (hb hby d_method_3_132) rfl (XT.ii_ne_t hc38) (by decide) (by decide) ?_
        exact k
      exact tail_179 T35 _ X35 N35 e35 (2 : Int32) (1 : Int32) ((1 : Int32) + (p2 &&& (1 : Int32))) z32 z35 pre_43 (own_ok2 (own_e12 p2) (own_pos hz32) ⟨own_pos hz35, hc38⟩)
  · skip
    rw [hs] at pre_16
    have pre_44 : ∀ t, Sp p e below s₁ (mkF m 66 #[.val (.int p1), .val (.int p2), .val (.int p3), .val (.int p4), .val (.int (3 : Int32)), .val (.int (1 : Int32)), .val (.int ((1 : Int32) + (p2 &&& (1 : Int32)))), .unset, .unset] [(.int (p3 &&& (2147483647 : Int32))), (.int (1 : Int32))]) t → Steps p.tables e below E0 t := by
      intro t k
      refine pre_16 t ?_
      show Sp p e below s₁ (mkF m 6 #[.val (.int p1), .val (.int p2), .val (.int p3), .val (.int p4), .val (.int (3 : Int32)), .unset, .unset, .unset, .unset] []) _
      refine XS.iload X0.here hx rfl (hb hby d_method_3_6) rfl ?_
      refine XS.iconst X0.here hx rfl (hb hby d_method_3_8) ?_
      refine XS.icmpNo X0.here hx rfl (hb hby d_method_3_9) rfl (XT.ii_eq_f (by decide)) ?_
      refine XS.iload X0.here hx rfl (hb hby d_method_3_12) rfl ?_
      show Sp p e below s₁ (mkF m 14 #[.val (.int p1), .val (.int p2), .val (.int p3), .val (.int p4), .val (.int (3 : Int32)), .unset, .unset, .unset, .unset] [(.int (3 : Int32))]) _
      refine XS.iconst X0.here hx rfl (hb hby d_method_3_14) ?_
      refine XS.icmpNo X0.here hx rfl (hb hby d_method_3_15) rfl (XT.ii_eq_f (by decide)) ?_
      refine XS.iload X0.here hx rfl (hb hby d_method_3_18) rfl ?_
      refine XS.iconst X0.here hx rfl (hb hby d_method_3_20) ?_
      refine XS.icmpYes X0.here hx rfl (pc0 := 21) (pc' := 38) rfl (hb hby d_method_3_21) rfl (XT.ii_eq_t (by decide)) (by decide) (by decide) ?_
      refine XS.iconst X0.here hx rfl (hb hby d_method_3_38) ?_
      refine XS.goto X0.here hx rfl (pc0 := 39) (pc' := 43) rfl (hb hby d_method_3_39) (by decide) (by decide) ?_
      refine XS.istore X0.here hx rfl (hb hby d_method_3_43) rfl (l' := #[.val (.int p1), .val (.int p2), .val (.int p3), .val (.int p4), .val (.int (3 : Int32)), .val (.int (1 : Int32)), .unset, .unset, .unset]) rfl ?_
      show Sp p e below s₁ (mkF m 45 #[.val (.int p1), .val (.int p2), .val (.int p3), .val (.int p4), .val (.int (3 : Int32)), .val (.int (1 : Int32)), .unset, .unset, .unset] []) _
      refine XS.iload X0.here hx rfl (hb hby d_method_3_45) rfl ?_
      refine XS.ifNo X0.here hx rfl (hb hby d_method_3_47) rfl (XT.i0_eq_f (by decide)) ?_
      refine XS.iconst X0.here hx rfl (hb hby d_method_3_50) ?_
      refine XS.iloadN X0.here hx rfl (hb hby d_method_3_51) rfl ?_
      refine XS.iconst X0.here hx rfl (hb hby d_method_3_52) ?_
      refine XS.iand X0.here hx rfl (hb hby d_method_3_53) rfl ?_
      refine XS.iadd X0.here hx rfl (hb hby d_method_3_54) rfl ?_
      refine XS.goto X0.here hx rfl (pc0 := 55) (pc' := 59) rfl (hb hby d_method_3_55) (by decide) (by decide) ?_
      show Sp p e below s₁ (mkF m 59 #[.val (.int p1), .val (.int p2), .val (.int p3), .val (.int p4), .val (.int (3 : Int32)), .val (.int (1 : Int32)), .unset, .unset, .unset] [(.int ((1 : Int32) + (p2 &&& (1 : Int32))))]) _
      refine XS.istore X0.here hx rfl (hb hby d_method_3_59) rfl (l' := #[.val (.int p1), .val (.int p2), .val (.int p3), .val (.int p4), .val (.int (3 : Int32)), .val (.int (1 : Int32)), .val (.int ((1 : Int32) + (p2 &&& (1 : Int32)))), .unset, .unset]) rfl ?_
      refine XS.iconst X0.here hx rfl (hb hby d_method_3_61) ?_
      refine XS.iloadN X0.here hx rfl (hb hby d_method_3_62) rfl ?_
      refine X0.ldcInt hx hown (mvT hZ (own_w hw 4 rfl)) (g := (mkF m 63 #[.val (.int p1), .val (.int p2), .val (.int p3), .val (.int p4), .val (.int (3 : Int32)), .val (.int (1 : Int32)), .val (.int ((1 : Int32) + (p2 &&& (1 : Int32)))), .unset, .unset] [(.int p3), (.int (1 : Int32))])) rfl (hb hby d_method_3_63) _ ?_
      refine XS.iand X0.here hx rfl (hb hby d_method_3_65) rfl ?_
      exact k
    obtain ⟨_, _, ⟨T45, L45, k45, n45⟩, -, X45, ⟨Lc45, hQ45, l45, y45, z45⟩, st45⟩ := Jvm.LawKit.callS X0 hx (y := (⟨"java/lang/Math", "max", "(II)I"⟩ : MethodName)) hown (mvT hZ (own_w hw 5 rfl)) (mvT hZ (own_w hw 6 rfl)) (mvT hZ (own_w hw 7 rfl)) (mvT hZ (own_w hw 8 rfl)) (by decide) (backOf (W := 0) (rm_max l Z a0 hw [] (1 : Int32) (p3 &&& (2147483647 : Int32)) h0 n0 O0) hZ (own_w hw 8 rfl) (own_w hw 7 rfl) (by decide) (by decide)) (g := (mkF m 66 #[.val (.int p1), .val (.int p2), .val (.int p3), .val (.int p4), .val (.int (3 : Int32)), .val (.int (1 : Int32)), .val (.int ((1 : Int32) + (p2 &&& (1 : Int32)))), .unset, .unset] [(.int (p3 &&& (2147483647 : Int32))), (.int (1 : Int32))])) rfl (by rw [hml]; rfl) (argsL := [(.int (1 : Int32)), (.int (p3 &&& (2147483647 : Int32)))]) (rest := []) (lenOf pd_fields_0 rfl) rfl (by show 2 * 0 + _ ≤ _; exact Nat.le_of_eq rfl) (hb hby d_method_3_66) (fun _ _ => ⟨rfl, e0, (by decide : 0 + 0 ≤ _), (by decide : 0 + 0 ≤ _)⟩)
    dsimp only [Pt.U, Pt.locs, Pt.cells, Pt.slots] at X45 l45 y45 z45 st45 hQ45
    subst l45 y45 z45
    obtain ⟨z45, rfl, N45q, e45, hz45⟩ := hQ45
    have N45 := Fr.app N0 N45q
    have pre_46 : ∀ t, Sp p e below T45 (mkF m 69 #[.val (.int p1), .val (.int p2), .val (.int p3), .val (.int p4), .val (.int (3 : Int32)), .val (.int (1 : Int32)), .val (.int ((1 : Int32) + (p2 &&& (1 : Int32)))), .unset, .unset] [(.int z45)]) t → Steps p.tables e below E0 t := fun t k => pre_44 t (st45 t k)
    have pre_47 : ∀ t, Sp p e below T45 (mkF m 179 #[.val (.int p1), .val (.int p2), .val (.int p3), .val (.int p4), .val (.int (3 : Int32)), .val (.int (1 : Int32)), .val (.int ((1 : Int32) + (p2 &&& (1 : Int32)))), .val (.int z45), .val (.int (0 : Int32))] []) t → Steps p.tables e below E0 t := by
      intro t k
      refine pre_46 t ?_
      show Sp p e below T45 (mkF m 69 #[.val (.int p1), .val (.int p2), .val (.int p3), .val (.int p4), .val (.int (3 : Int32)), .val (.int (1 : Int32)), .val (.int ((1 : Int32) + (p2 &&& (1 : Int32)))), .unset, .unset] [(.int z45)]) _
      refine XS.istore X45.here hx rfl (hb hby d_method_3_69) rfl (l' := #[.val (.int p1), .val (.int p2), .val (.int p3), .val (.int p4), .val (.int (3 : Int32)), .val (.int (1 : Int32)), .val (.int ((1 : Int32) + (p2 &&& (1 : Int32)))), .val (.int z45), .unset]) rfl ?_
      refine XS.iconst X45.here hx rfl (hb hby d_method_3_71) ?_
      refine XS.istore X45.here hx rfl (hb hby d_method_3_72) rfl (l' := #[.val (.int p1), .val (.int p2), .val (.int p3), .val (.int p4), .val (.int (3 : Int32)), .val (.int (1 : Int32)), .val (.int ((1 : Int32) + (p2 &&& (1 : Int32)))), .val (.int z45), .val (.int (0 : Int32))]) rfl ?_
      show Sp p e below T45 (mkF m 74 #[.val (.int p1), .val (.int p2), .val (.int p3), .val (.int p4), .val (.int (3 : Int32)), .val (.int (1 : Int32)), .val (.int ((1 : Int32) + (p2 &&& (1 : Int32)))), .val (.int z45), .val (.int (0 : Int32))] []) _
      refine XS.iload X45.here hx rfl (hb hby d_method_3_74) rfl ?_
      refine XS.iconst X45.here hx rfl (hb hby d_method_3_76) ?_
      refine XS.icmpYes X45.here hx rfl (pc0 := 77) (pc' := 105) rfl (hb hby d_method_3_77) rfl (XT.ii_ne_t (by decide)) (by decide) (by decide) ?_
      refine XS.iload X45.here hx rfl (hb hby d_method_3_105) rfl ?_
      refine XS.iconst X45.here hx rfl (hb hby d_method_3_107) ?_
      refine XS.icmpNo X45.here hx rfl (hb hby d_method_3_108) rfl (XT.ii_eq_f (by decide)) ?_
      refine XS.iload X45.here hx rfl (hb hby d_method_3_111) rfl ?_
      refine XS.bipush X45.here hx rfl (hb hby d_method_3_113) ?_
      show Sp p e below T45 (mkF m 115 #[.val (.int p1), .val (.int p2), .val (.int p3), .val (.int p4), .val (.int (3 : Int32)), .val (.int (1 : Int32)), .val (.int ((1 : Int32) + (p2 &&& (1 : Int32)))), .val (.int z45), .val (.int (0 : Int32))] [(.int (7 : Int32)), (.int (3 : Int32))]) _
      refine XS.icmpYes X45.here hx rfl (pc0 := 115) (pc' := 154) rfl (hb hby d_method_3_115) rfl (XT.ii_ne_t (by decide)) (by decide) (by decide) ?_
      refine XS.iload X45.here hx rfl (hb hby d_method_3_154) rfl ?_
      refine XS.iconst X45.here hx rfl (hb hby d_method_3_156) ?_
      refine XS.icmpYes X45.here hx rfl (pc0 := 157) (pc' := 170) rfl (hb hby d_method_3_157) rfl (XT.ii_ne_t (by decide)) (by decide) (by decide) ?_
      refine XS.iload X45.here hx rfl (hb hby d_method_3_170) rfl ?_
      refine XS.iconst X45.here hx rfl (hb hby d_method_3_172) ?_
      refine XS.icmpYes X45.here hx rfl (pc0 := 173) (pc' := 179) rfl (hb hby d_method_3_173) rfl (XT.ii_ne_t (by decide)) (by decide) (by decide) ?_
      exact k
    exact tail_179 T45 _ X45 N45 e45 (3 : Int32) (1 : Int32) ((1 : Int32) + (p2 &&& (1 : Int32))) z45 (0 : Int32) pre_47 (own_ok3 (own_e12 p2) (own_pos hz45) rfl)
  · skip
    rw [hs] at pre_16
    have pre_48 : ∀ t, Sp p e below s₁ (mkF m 66 #[.val (.int p1), .val (.int p2), .val (.int p3), .val (.int p4), .val (.int (4 : Int32)), .val (.int (0 : Int32)), .val (.int (0 : Int32)), .unset, .unset] [(.int (p3 &&& (2147483647 : Int32))), (.int (1 : Int32))]) t → Steps p.tables e below E0 t := by
      intro t k
      refine pre_16 t ?_
      show Sp p e below s₁ (mkF m 6 #[.val (.int p1), .val (.int p2), .val (.int p3), .val (.int p4), .val (.int (4 : Int32)), .unset, .unset, .unset, .unset] []) _
      refine XS.iload X0.here hx rfl (hb hby d_method_3_6) rfl ?_
      refine XS.iconst X0.here hx rfl (hb hby d_method_3_8) ?_
      refine XS.icmpNo X0.here hx rfl (hb hby d_method_3_9) rfl (XT.ii_eq_f (by decide)) ?_
      refine XS.iload X0.here hx rfl (hb hby d_method_3_12) rfl ?_
      show Sp p e below s₁ (mkF m 14 #[.val (.int p1), .val (.int p2), .val (.int p3), .val (.int p4), .val (.int (4 : Int32)), .unset, .unset, .unset, .unset] [(.int (4 : Int32))]) _
      refine XS.iconst X0.here hx rfl (hb hby d_method_3_14) ?_
      refine XS.icmpNo X0.here hx rfl (hb hby d_method_3_15) rfl (XT.ii_eq_f (by decide)) ?_
      refine XS.iload X0.here hx rfl (hb hby d_method_3_18) rfl ?_
      refine XS.iconst X0.here hx rfl (hb hby d_method_3_20) ?_
      refine XS.icmpNo X0.here hx rfl (hb hby d_method_3_21) rfl (XT.ii_eq_f (by decide)) ?_
      refine XS.iload X0.here hx rfl (hb hby d_method_3_24) rfl ?_
      refine XS.bipush X0.here hx rfl (hb hby d_method_3_26) ?_
      refine XS.icmpNo X0.here hx rfl (hb hby d_method_3_28) rfl (XT.ii_eq_f (by decide)) ?_
      show Sp p e below s₁ (mkF m 31 #[.val (.int p1), .val (.int p2), .val (.int p3), .val (.int p4), .val (.int (4 : Int32)), .unset, .unset, .unset, .unset] []) _
      refine XS.iload X0.here hx rfl (hb hby d_method_3_31) rfl ?_
      refine XS.bipush X0.here hx rfl (hb hby d_method_3_33) ?_
      refine XS.icmpYes X0.here hx rfl (pc0 := 35) (pc' := 42) rfl (hb hby d_method_3_35) rfl (XT.ii_ne_t (by decide)) (by decide) (by decide) ?_
      refine XS.iconst X0.here hx rfl (hb hby d_method_3_42) ?_
      refine XS.istore X0.here hx rfl (hb hby d_method_3_43) rfl (l' := #[.val (.int p1), .val (.int p2), .val (.int p3), .val (.int p4), .val (.int (4 : Int32)), .val (.int (0 : Int32)), .unset, .unset, .unset]) rfl ?_
      refine XS.iload X0.here hx rfl (hb hby d_method_3_45) rfl ?_
      refine XS.ifYes X0.here hx rfl (pc0 := 47) (pc' := 58) rfl (hb hby d_method_3_47) rfl (XT.i0_eq_t (by decide)) (by decide) (by decide) ?_
      refine XS.iconst X0.here hx rfl (hb hby d_method_3_58) ?_
      show Sp p e below s₁ (mkF m 59 #[.val (.int p1), .val (.int p2), .val (.int p3), .val (.int p4), .val (.int (4 : Int32)), .val (.int (0 : Int32)), .unset, .unset, .unset] [(.int (0 : Int32))]) _
      refine XS.istore X0.here hx rfl (hb hby d_method_3_59) rfl (l' := #[.val (.int p1), .val (.int p2), .val (.int p3), .val (.int p4), .val (.int (4 : Int32)), .val (.int (0 : Int32)), .val (.int (0 : Int32)), .unset, .unset]) rfl ?_
      refine XS.iconst X0.here hx rfl (hb hby d_method_3_61) ?_
      refine XS.iloadN X0.here hx rfl (hb hby d_method_3_62) rfl ?_
      refine X0.ldcInt hx hown (mvT hZ (own_w hw 4 rfl)) (g := (mkF m 63 #[.val (.int p1), .val (.int p2), .val (.int p3), .val (.int p4), .val (.int (4 : Int32)), .val (.int (0 : Int32)), .val (.int (0 : Int32)), .unset, .unset] [(.int p3), (.int (1 : Int32))])) rfl (hb hby d_method_3_63) _ ?_
      refine XS.iand X0.here hx rfl (hb hby d_method_3_65) rfl ?_
      exact k
    obtain ⟨_, _, ⟨T49, L49, k49, n49⟩, -, X49, ⟨Lc49, hQ49, l49, y49, z49⟩, st49⟩ := Jvm.LawKit.callS X0 hx (y := (⟨"java/lang/Math", "max", "(II)I"⟩ : MethodName)) hown (mvT hZ (own_w hw 5 rfl)) (mvT hZ (own_w hw 6 rfl)) (mvT hZ (own_w hw 7 rfl)) (mvT hZ (own_w hw 8 rfl)) (by decide) (backOf (W := 0) (rm_max l Z a0 hw [] (1 : Int32) (p3 &&& (2147483647 : Int32)) h0 n0 O0) hZ (own_w hw 8 rfl) (own_w hw 7 rfl) (by decide) (by decide)) (g := (mkF m 66 #[.val (.int p1), .val (.int p2), .val (.int p3), .val (.int p4), .val (.int (4 : Int32)), .val (.int (0 : Int32)), .val (.int (0 : Int32)), .unset, .unset] [(.int (p3 &&& (2147483647 : Int32))), (.int (1 : Int32))])) rfl (by rw [hml]; rfl) (argsL := [(.int (1 : Int32)), (.int (p3 &&& (2147483647 : Int32)))]) (rest := []) (lenOf pd_fields_0 rfl) rfl (by show 2 * 0 + _ ≤ _; exact Nat.le_of_eq rfl) (hb hby d_method_3_66) (fun _ _ => ⟨rfl, e0, (by decide : 0 + 0 ≤ _), (by decide : 0 + 0 ≤ _)⟩)
    dsimp only [Pt.U, Pt.locs, Pt.cells, Pt.slots] at X49 l49 y49 z49 st49 hQ49
    subst l49 y49 z49
    obtain ⟨z49, rfl, N49q, e49, hz49⟩ := hQ49
    have N49 := Fr.app N0 N49q
    have pre_50 : ∀ t, Sp p e below T49 (mkF m 69 #[.val (.int p1), .val (.int p2), .val (.int p3), .val (.int p4), .val (.int (4 : Int32)), .val (.int (0 : Int32)), .val (.int (0 : Int32)), .unset, .unset] [(.int z49)]) t → Steps p.tables e below E0 t := fun t k => pre_48 t (st49 t k)
    have pre_51 : ∀ t, Sp p e below T49 (mkF m 179 #[.val (.int p1), .val (.int p2), .val (.int p3), .val (.int p4), .val (.int (4 : Int32)), .val (.int (0 : Int32)), .val (.int (0 : Int32)), .val (.int z49), .val (.int ((p4 &&& (1 : Int32)) + (1 : Int32)))] []) t → Steps p.tables e below E0 t := by
      intro t k
      refine pre_50 t ?_
      show Sp p e below T49 (mkF m 69 #[.val (.int p1), .val (.int p2), .val (.int p3), .val (.int p4), .val (.int (4 : Int32)), .val (.int (0 : Int32)), .val (.int (0 : Int32)), .unset, .unset] [(.int z49)]) _
      refine XS.istore X49.here hx rfl (hb hby d_method_3_69) rfl (l' := #[.val (.int p1), .val (.int p2), .val (.int p3), .val (.int p4), .val (.int (4 : Int32)), .val (.int (0 : Int32)), .val (.int (0 : Int32)), .val (.int z49), .unset]) rfl ?_
      refine XS.iconst X49.here hx rfl (hb hby d_method_3_71) ?_
      refine XS.istore X49.here hx rfl (hb hby d_method_3_72) rfl (l' := #[.val (.int p1), .val (.int p2), .val (.int p3), .val (.int p4), .val (.int (4 : Int32)), .val (.int (0 : Int32)), .val (.int (0 : Int32)), .val (.int z49), .val (.int (0 : Int32))]) rfl ?_
      show Sp p e below T49 (mkF m 74 #[.val (.int p1), .val (.int p2), .val (.int p3), .val (.int p4), .val (.int (4 : Int32)), .val (.int (0 : Int32)), .val (.int (0 : Int32)), .val (.int z49), .val (.int (0 : Int32))] []) _
      refine XS.iload X49.here hx rfl (hb hby d_method_3_74) rfl ?_
      refine XS.iconst X49.here hx rfl (hb hby d_method_3_76) ?_
      refine XS.icmpYes X49.here hx rfl (pc0 := 77) (pc' := 105) rfl (hb hby d_method_3_77) rfl (XT.ii_ne_t (by decide)) (by decide) (by decide) ?_
      refine XS.iload X49.here hx rfl (hb hby d_method_3_105) rfl ?_
      refine XS.iconst X49.here hx rfl (hb hby d_method_3_107) ?_
      refine XS.icmpNo X49.here hx rfl (hb hby d_method_3_108) rfl (XT.ii_eq_f (by decide)) ?_
      refine XS.iload X49.here hx rfl (hb hby d_method_3_111) rfl ?_
      refine XS.bipush X49.here hx rfl (hb hby d_method_3_113) ?_
      show Sp p e below T49 (mkF m 115 #[.val (.int p1), .val (.int p2), .val (.int p3), .val (.int p4), .val (.int (4 : Int32)), .val (.int (0 : Int32)), .val (.int (0 : Int32)), .val (.int z49), .val (.int (0 : Int32))] [(.int (7 : Int32)), (.int (4 : Int32))]) _
      refine XS.icmpYes X49.here hx rfl (pc0 := 115) (pc' := 154) rfl (hb hby d_method_3_115) rfl (XT.ii_ne_t (by decide)) (by decide) (by decide) ?_
      refine XS.iload X49.here hx rfl (hb hby d_method_3_154) rfl ?_
      refine XS.iconst X49.here hx rfl (hb hby d_method_3_156) ?_
      refine XS.icmpNo X49.here hx rfl (hb hby d_method_3_157) rfl (XT.ii_ne_f (by decide)) ?_
      refine XS.iloadN X49.here hx rfl (hb hby d_method_3_160) rfl ?_
      refine XS.iconst X49.here hx rfl (hb hby d_method_3_161) ?_
      refine XS.iand X49.here hx rfl (hb hby d_method_3_162) rfl ?_
      refine XS.iconst X49.here hx rfl (hb hby d_method_3_163) ?_
      show Sp p e below T49 (mkF m 164 #[.val (.int p1), .val (.int p2), .val (.int p3), .val (.int p4), .val (.int (4 : Int32)), .val (.int (0 : Int32)), .val (.int (0 : Int32)), .val (.int z49), .val (.int (0 : Int32))] [(.int (1 : Int32)), (.int (p4 &&& (1 : Int32)))]) _
      refine XS.iadd X49.here hx rfl (hb hby d_method_3_164) rfl ?_
      refine XS.istore X49.here hx rfl (hb hby d_method_3_165) rfl (l' := #[.val (.int p1), .val (.int p2), .val (.int p3), .val (.int p4), .val (.int (4 : Int32)), .val (.int (0 : Int32)), .val (.int (0 : Int32)), .val (.int z49), .val (.int ((p4 &&& (1 : Int32)) + (1 : Int32)))]) rfl ?_
      refine XS.goto X49.here hx rfl (pc0 := 167) (pc' := 179) rfl (hb hby d_method_3_167) (by decide) (by decide) ?_
      exact k
    exact tail_179 T49 _ X49 N49 e49 (4 : Int32) (0 : Int32) (0 : Int32) z49 ((p4 &&& (1 : Int32)) + (1 : Int32)) pre_51 (own_ok4 rfl (own_pos hz49) (own_o12 p4))
  · skip
    rw [hs] at pre_16
    have pre_52 : ∀ t, Sp p e below s₁ (mkF m 66 #[.val (.int p1), .val (.int p2), .val (.int p3), .val (.int p4), .val (.int (5 : Int32)), .val (.int (0 : Int32)), .val (.int (0 : Int32)), .unset, .unset] [(.int (p3 &&& (2147483647 : Int32))), (.int (1 : Int32))]) t → Steps p.tables e below E0 t := by
      intro t k
      refine pre_16 t ?_
      show Sp p e below s₁ (mkF m 6 #[.val (.int p1), .val (.int p2), .val (.int p3), .val (.int p4), .val (.int (5 : Int32)), .unset, .unset, .unset, .unset] []) _
      refine XS.iload X0.here hx rfl (hb hby d_method_3_6) rfl ?_
      refine XS.iconst X0.here hx rfl (hb hby d_method_3_8) ?_
      refine XS.icmpNo X0.here hx rfl (hb hby d_method_3_9) rfl (XT.ii_eq_f (by decide)) ?_
      refine XS.iload X0.here hx rfl (hb hby d_method_3_12) rfl ?_
      show Sp p e below s₁ (mkF m 14 #[.val (.int p1), .val (.int p2), .val (.int p3), .val (.int p4), .val (.int (5 : Int32)), .unset, .unset, .unset, .unset] [(.int (5 : Int32))]) _
      refine XS.iconst X0.here hx rfl (hb hby d_method_3_14) ?_
      refine XS.icmpNo X0.here hx rfl (hb hby d_method_3_15) rfl (XT.ii_eq_f (by decide)) ?_
      refine XS.iload X0.here hx rfl (hb hby d_method_3_18) rfl ?_
      refine XS.iconst X0.here hx rfl (hb hby d_method_3_20) ?_
      refine XS.icmpNo X0.here hx rfl (hb hby d_method_3_21) rfl (XT.ii_eq_f (by decide)) ?_
      refine XS.iload X0.here hx rfl (hb hby d_method_3_24) rfl ?_
      refine XS.bipush X0.here hx rfl (hb hby d_method_3_26) ?_
      refine XS.icmpNo X0.here hx rfl (hb hby d_method_3_28) rfl (XT.ii_eq_f (by decide)) ?_
      show Sp p e below s₁ (mkF m 31 #[.val (.int p1), .val (.int p2), .val (.int p3), .val (.int p4), .val (.int (5 : Int32)), .unset, .unset, .unset, .unset] []) _
      refine XS.iload X0.here hx rfl (hb hby d_method_3_31) rfl ?_
      refine XS.bipush X0.here hx rfl (hb hby d_method_3_33) ?_
      refine XS.icmpYes X0.here hx rfl (pc0 := 35) (pc' := 42) rfl (hb hby d_method_3_35) rfl (XT.ii_ne_t (by decide)) (by decide) (by decide) ?_
      refine XS.iconst X0.here hx rfl (hb hby d_method_3_42) ?_
      refine XS.istore X0.here hx rfl (hb hby d_method_3_43) rfl (l' := #[.val (.int p1), .val (.int p2), .val (.int p3), .val (.int p4), .val (.int (5 : Int32)), .val (.int (0 : Int32)), .unset, .unset, .unset]) rfl ?_
      refine XS.iload X0.here hx rfl (hb hby d_method_3_45) rfl ?_
      refine XS.ifYes X0.here hx rfl (pc0 := 47) (pc' := 58) rfl (hb hby d_method_3_47) rfl (XT.i0_eq_t (by decide)) (by decide) (by decide) ?_
      refine XS.iconst X0.here hx rfl (hb hby d_method_3_58) ?_
      show Sp p e below s₁ (mkF m 59 #[.val (.int p1), .val (.int p2), .val (.int p3), .val (.int p4), .val (.int (5 : Int32)), .val (.int (0 : Int32)), .unset, .unset, .unset] [(.int (0 : Int32))]) _
      refine XS.istore X0.here hx rfl (hb hby d_method_3_59) rfl (l' := #[.val (.int p1), .val (.int p2), .val (.int p3), .val (.int p4), .val (.int (5 : Int32)), .val (.int (0 : Int32)), .val (.int (0 : Int32)), .unset, .unset]) rfl ?_
      refine XS.iconst X0.here hx rfl (hb hby d_method_3_61) ?_
      refine XS.iloadN X0.here hx rfl (hb hby d_method_3_62) rfl ?_
      refine X0.ldcInt hx hown (mvT hZ (own_w hw 4 rfl)) (g := (mkF m 63 #[.val (.int p1), .val (.int p2), .val (.int p3), .val (.int p4), .val (.int (5 : Int32)), .val (.int (0 : Int32)), .val (.int (0 : Int32)), .unset, .unset] [(.int p3), (.int (1 : Int32))])) rfl (hb hby d_method_3_63) _ ?_
      refine XS.iand X0.here hx rfl (hb hby d_method_3_65) rfl ?_
      exact k
    obtain ⟨_, _, ⟨T53, L53, k53, n53⟩, -, X53, ⟨Lc53, hQ53, l53, y53, z53⟩, st53⟩ := Jvm.LawKit.callS X0 hx (y := (⟨"java/lang/Math", "max", "(II)I"⟩ : MethodName)) hown (mvT hZ (own_w hw 5 rfl)) (mvT hZ (own_w hw 6 rfl)) (mvT hZ (own_w hw 7 rfl)) (mvT hZ (own_w hw 8 rfl)) (by decide) (backOf (W := 0) (rm_max l Z a0 hw [] (1 : Int32) (p3 &&& (2147483647 : Int32)) h0 n0 O0) hZ (own_w hw 8 rfl) (own_w hw 7 rfl) (by decide) (by decide)) (g := (mkF m 66 #[.val (.int p1), .val (.int p2), .val (.int p3), .val (.int p4), .val (.int (5 : Int32)), .val (.int (0 : Int32)), .val (.int (0 : Int32)), .unset, .unset] [(.int (p3 &&& (2147483647 : Int32))), (.int (1 : Int32))])) rfl (by rw [hml]; rfl) (argsL := [(.int (1 : Int32)), (.int (p3 &&& (2147483647 : Int32)))]) (rest := []) (lenOf pd_fields_0 rfl) rfl (by show 2 * 0 + _ ≤ _; exact Nat.le_of_eq rfl) (hb hby d_method_3_66) (fun _ _ => ⟨rfl, e0, (by decide : 0 + 0 ≤ _), (by decide : 0 + 0 ≤ _)⟩)
    dsimp only [Pt.U, Pt.locs, Pt.cells, Pt.slots] at X53 l53 y53 z53 st53 hQ53
    subst l53 y53 z53
    obtain ⟨z53, rfl, N53q, e53, hz53⟩ := hQ53
    have N53 := Fr.app N0 N53q
    have pre_54 : ∀ t, Sp p e below T53 (mkF m 69 #[.val (.int p1), .val (.int p2), .val (.int p3), .val (.int p4), .val (.int (5 : Int32)), .val (.int (0 : Int32)), .val (.int (0 : Int32)), .unset, .unset] [(.int z53)]) t → Steps p.tables e below E0 t := fun t k => pre_52 t (st53 t k)
    have pre_55 : ∀ t, Sp p e below T53 (mkF m 179 #[.val (.int p1), .val (.int p2), .val (.int p3), .val (.int p4), .val (.int (5 : Int32)), .val (.int (0 : Int32)), .val (.int (0 : Int32)), .val (.int (0 : Int32)), .val (.int (0 : Int32))] []) t → Steps p.tables e below E0 t := by
      intro t k
      refine pre_54 t ?_
      show Sp p e below T53 (mkF m 69 #[.val (.int p1), .val (.int p2), .val (.int p3), .val (.int p4), .val (.int (5 : Int32)), .val (.int (0 : Int32)), .val (.int (0 : Int32)), .unset, .unset] [(.int z53)]) _
      refine XS.istore X53.here hx rfl (hb hby d_method_3_69) rfl (l' := #[.val (.int p1), .val (.int p2), .val (.int p3), .val (.int p4), .val (.int (5 : Int32)), .val (.int (0 : Int32)), .val (.int (0 : Int32)), .val (.int z53), .unset]) rfl ?_
      refine XS.iconst X53.here hx rfl (hb hby d_method_3_71) ?_
      refine XS.istore X53.here hx rfl (hb hby d_method_3_72) rfl (l' := #[.val (.int p1), .val (.int p2), .val (.int p3), .val (.int p4), .val (.int (5 : Int32)), .val (.int (0 : Int32)), .val (.int (0 : Int32)), .val (.int z53), .val (.int (0 : Int32))]) rfl ?_
      show Sp p e below T53 (mkF m 74 #[.val (.int p1), .val (.int p2), .val (.int p3), .val (.int p4), .val (.int (5 : Int32)), .val (.int (0 : Int32)), .val (.int (0 : Int32)), .val (.int z53), .val (.int (0 : Int32))] []) _
      refine XS.iload X53.here hx rfl (hb hby d_method_3_74) rfl ?_
      refine XS.iconst X53.here hx rfl (hb hby d_method_3_76) ?_
      refine XS.icmpYes X53.here hx rfl (pc0 := 77) (pc' := 105) rfl (hb hby d_method_3_77) rfl (XT.ii_ne_t (by decide)) (by decide) (by decide) ?_
      refine XS.iload X53.here hx rfl (hb hby d_method_3_105) rfl ?_
      refine XS.iconst X53.here hx rfl (hb hby d_method_3_107) ?_
      refine XS.icmpNo X53.here hx rfl (hb hby d_method_3_108) rfl (XT.ii_eq_f (by decide)) ?_
      refine XS.iload X53.here hx rfl (hb hby d_method_3_111) rfl ?_
      refine XS.bipush X53.here hx rfl (hb hby d_method_3_113) ?_
      show Sp p e below T53 (mkF m 115 #[.val (.int p1), .val (.int p2), .val (.int p3), .val (.int p4), .val (.int (5 : Int32)), .val (.int (0 : Int32)), .val (.int (0 : Int32)), .val (.int z53), .val (.int (0 : Int32))] [(.int (7 : Int32)), (.int (5 : Int32))]) _
      refine XS.icmpYes X53.here hx rfl (pc0 := 115) (pc' := 154) rfl (hb hby d_method_3_115) rfl (XT.ii_ne_t (by decide)) (by decide) (by decide) ?_
      refine XS.iload X53.here hx rfl (hb hby d_method_3_154) rfl ?_
      refine XS.iconst X53.here hx rfl (hb hby d_method_3_156) ?_
      refine XS.icmpYes X53.here hx rfl (pc0 := 157) (pc' := 170) rfl (hb hby d_method_3_157) rfl (XT.ii_ne_t (by decide)) (by decide) (by decide) ?_
      refine XS.iload X53.here hx rfl (hb hby d_method_3_170) rfl ?_
      refine XS.iconst X53.here hx rfl (hb hby d_method_3_172) ?_
      refine XS.icmpNo X53.here hx rfl (hb hby d_method_3_173) rfl (XT.ii_ne_f (by decide)) ?_
      refine XS.iconst X53.here hx rfl (hb hby d_method_3_176) ?_
      show Sp p e below T53 (mkF m 177 #[.val (.int p1), .val (.int p2), .val (.int p3), .val (.int p4), .val (.int (5 : Int32)), .val (.int (0 : Int32)), .val (.int (0 : Int32)), .val (.int z53), .val (.int (0 : Int32))] [(.int (0 : Int32))]) _
      refine XS.istore X53.here hx rfl (hb hby d_method_3_177) rfl (l' := #[.val (.int p1), .val (.int p2), .val (.int p3), .val (.int p4), .val (.int (5 : Int32)), .val (.int (0 : Int32)), .val (.int (0 : Int32)), .val (.int (0 : Int32)), .val (.int (0 : Int32))]) rfl ?_
      exact k
    exact tail_179 T53 _ X53 N53 e53 (5 : Int32) (0 : Int32) (0 : Int32) (0 : Int32) (0 : Int32) pre_55 (own_ok5 rfl rfl rfl)
  · skip
    rw [hs] at pre_16
    have pre_56 : ∀ t, Sp p e below s₁ (mkF m 66 #[.val (.int p1), .val (.int p2), .val (.int p3), .val (.int p4), .val (.int (6 : Int32)), .val (.int (1 : Int32)), .val (.int ((1 : Int32) + (p2 &&& (1 : Int32)))), .unset, .unset] [(.int (p3 &&& (2147483647 : Int32))), (.int (1 : Int32))]) t → Steps p.tables e below E0 t := by
      intro t k
      refine pre_16 t ?_
      show Sp p e below s₁ (mkF m 6 #[.val (.int p1), .val (.int p2), .val (.int p3), .val (.int p4), .val (.int (6 : Int32)), .unset, .unset, .unset, .unset] []) _
      refine XS.iload X0.here hx rfl (hb hby d_method_3_6) rfl ?_
      refine XS.iconst X0.here hx rfl (hb hby d_method_3_8) ?_
      refine XS.icmpNo X0.here hx rfl (hb hby d_method_3_9) rfl (XT.ii_eq_f (by decide)) ?_
      refine XS.iload X0.here hx rfl (hb hby d_method_3_12) rfl ?_
      show Sp p e below s₁ (mkF m 14 #[.val (.int p1), .val (.int p2), .val (.int p3), .val (.int p4), .val (.int (6 : Int32)), .unset, .unset, .unset, .unset] [(.int (6 : Int32))]) _
      refine XS.iconst X0.here hx rfl (hb hby d_method_3_14) ?_
      refine XS.icmpNo X0.here hx rfl (hb hby d_method_3_15) rfl (XT.ii_eq_f (by decide)) ?_
      refine XS.iload X0.here hx rfl (hb hby d_method_3_18) rfl ?_
      refine XS.iconst X0.here hx rfl (hb hby d_method_3_20) ?_
      refine XS.icmpNo X0.here hx rfl (hb hby d_method_3_21) rfl (XT.ii_eq_f (by decide)) ?_
      refine XS.iload X0.here hx rfl (hb hby d_method_3_24) rfl ?_
      refine XS.bipush X0.here hx rfl (hb hby d_method_3_26) ?_
      refine XS.icmpYes X0.here hx rfl (pc0 := 28) (pc' := 38) rfl (hb hby d_method_3_28) rfl (XT.ii_eq_t (by decide)) (by decide) (by decide) ?_
      show Sp p e below s₁ (mkF m 38 #[.val (.int p1), .val (.int p2), .val (.int p3), .val (.int p4), .val (.int (6 : Int32)), .unset, .unset, .unset, .unset] []) _
      refine XS.iconst X0.here hx rfl (hb hby d_method_3_38) ?_
      refine XS.goto X0.here hx rfl (pc0 := 39) (pc' := 43) rfl (hb hby d_method_3_39) (by decide) (by decide) ?_
      refine XS.istore X0.here hx rfl (hb hby d_method_3_43) rfl (l' := #[.val (.int p1), .val (.int p2), .val (.int p3), .val (.int p4), .val (.int (6 : Int32)), .val (.int (1 : Int32)), .unset, .unset, .unset]) rfl ?_
      refine XS.iload X0.here hx rfl (hb hby d_method_3_45) rfl ?_
      refine XS.ifNo X0.here hx rfl (hb hby d_method_3_47) rfl (XT.i0_eq_f (by decide)) ?_
      refine XS.iconst X0.here hx rfl (hb hby d_method_3_50) ?_
      refine XS.iloadN X0.here hx rfl (hb hby d_method_3_51) rfl ?_
      refine XS.iconst X0.here hx rfl (hb hby d_method_3_52) ?_
      show Sp p e below s₁ (mkF m 53 #[.val (.int p1), .val (.int p2), .val (.int p3), .val (.int p4), .val (.int (6 : Int32)), .val (.int (1 : Int32)), .unset, .unset, .unset] [(.int (1 : Int32)), (.int p2), (.int (1 : Int32))]) _
      refine XS.iand X0.here hx rfl (hb hby d_method_3_53) rfl ?_
      refine XS.iadd X0.here hx rfl (hb hby d_method_3_54) rfl ?_
      refine XS.goto X0.here hx rfl (pc0 := 55) (pc' := 59) rfl (hb hby d_method_3_55) (by decide) (by decide) ?_
      refine XS.istore X0.here hx rfl (hb hby d_method_3_59) rfl (l' := #[.val (.int p1), .val (.int p2), .val (.int p3), .val (.int p4), .val (.int (6 : Int32)), .val (.int (1 : Int32)), .val (.int ((1 : Int32) + (p2 &&& (1 : Int32)))), .unset, .unset]) rfl ?_
      refine XS.iconst X0.here hx rfl (hb hby d_method_3_61) ?_
      refine XS.iloadN X0.here hx rfl (hb hby d_method_3_62) rfl ?_
      refine X0.ldcInt hx hown (mvT hZ (own_w hw 4 rfl)) (g := (mkF m 63 #[.val (.int p1), .val (.int p2), .val (.int p3), .val (.int p4), .val (.int (6 : Int32)), .val (.int (1 : Int32)), .val (.int ((1 : Int32) + (p2 &&& (1 : Int32)))), .unset, .unset] [(.int p3), (.int (1 : Int32))])) rfl (hb hby d_method_3_63) _ ?_
      refine XS.iand X0.here hx rfl (hb hby d_method_3_65) rfl ?_
      show Sp p e below s₁ (mkF m 66 #[.val (.int p1), .val (.int p2), .val (.int p3), .val (.int p4), .val (.int (6 : Int32)), .val (.int (1 : Int32)), .val (.int ((1 : Int32) + (p2 &&& (1 : Int32)))), .unset, .unset] [(.int (p3 &&& (2147483647 : Int32))), (.int (1 : Int32))]) _
      exact k
    obtain ⟨_, _, ⟨T57, L57, k57, n57⟩, -, X57, ⟨Lc57, hQ57, l57, y57, z57⟩, st57⟩ := Jvm.LawKit.callS X0 hx (y := (⟨"java/lang/Math", "max", "(II)I"⟩ : MethodName)) hown (mvT hZ (own_w hw 5 rfl)) (mvT hZ (own_w hw 6 rfl)) (mvT hZ (own_w hw 7 rfl)) (mvT hZ (own_w hw 8 rfl)) (by decide) (backOf (W := 0) (rm_max l Z a0 hw [] (1 : Int32) (p3 &&& (2147483647 : Int32)) h0 n0 O0) hZ (own_w hw 8 rfl) (own_w hw 7 rfl) (by decide) (by decide)) (g := (mkF m 66 #[.val (.int p1), .val (.int p2), .val (.int p3), .val (.int p4), .val (.int (6 : Int32)), .val (.int (1 : Int32)), .val (.int ((1 : Int32) + (p2 &&& (1 : Int32)))), .unset, .unset] [(.int (p3 &&& (2147483647 : Int32))), (.int (1 : Int32))])) rfl (by rw [hml]; rfl) (argsL := [(.int (1 : Int32)), (.int (p3 &&& (2147483647 : Int32)))]) (rest := []) (lenOf pd_fields_0 rfl) rfl (by show 2 * 0 + _ ≤ _; exact Nat.le_of_eq rfl) (hb hby d_method_3_66) (fun _ _ => ⟨rfl, e0, (by decide : 0 + 0 ≤ _), (by decide : 0 + 0 ≤ _)⟩)
    dsimp only [Pt.U, Pt.locs, Pt.cells, Pt.slots] at X57 l57 y57 z57 st57 hQ57
    subst l57 y57 z57
    obtain ⟨z57, rfl, N57q, e57, hz57⟩ := hQ57
    have N57 := Fr.app N0 N57q
    have pre_58 : ∀ t, Sp p e below T57 (mkF m 69 #[.val (.int p1), .val (.int p2), .val (.int p3), .val (.int p4), .val (.int (6 : Int32)), .val (.int (1 : Int32)), .val (.int ((1 : Int32) + (p2 &&& (1 : Int32)))), .unset, .unset] [(.int z57)]) t → Steps p.tables e below E0 t := fun t k => pre_56 t (st57 t k)
    have pre_59 : ∀ t, Sp p e below T57 (mkF m 179 #[.val (.int p1), .val (.int p2), .val (.int p3), .val (.int p4), .val (.int (6 : Int32)), .val (.int (1 : Int32)), .val (.int ((1 : Int32) + (p2 &&& (1 : Int32)))), .val (.int z57), .val (.int (0 : Int32))] []) t → Steps p.tables e below E0 t := by
      intro t k
      refine pre_58 t ?_
      show Sp p e below T57 (mkF m 69 #[.val (.int p1), .val (.int p2), .val (.int p3), .val (.int p4), .val (.int (6 : Int32)), .val (.int (1 : Int32)), .val (.int ((1 : Int32) + (p2 &&& (1 : Int32)))), .unset, .unset] [(.int z57)]) _
      refine XS.istore X57.here hx rfl (hb hby d_method_3_69) rfl (l' := #[.val (.int p1), .val (.int p2), .val (.int p3), .val (.int p4), .val (.int (6 : Int32)), .val (.int (1 : Int32)), .val (.int ((1 : Int32) + (p2 &&& (1 : Int32)))), .val (.int z57), .unset]) rfl ?_
      refine XS.iconst X57.here hx rfl (hb hby d_method_3_71) ?_
      refine XS.istore X57.here hx rfl (hb hby d_method_3_72) rfl (l' := #[.val (.int p1), .val (.int p2), .val (.int p3), .val (.int p4), .val (.int (6 : Int32)), .val (.int (1 : Int32)), .val (.int ((1 : Int32) + (p2 &&& (1 : Int32)))), .val (.int z57), .val (.int (0 : Int32))]) rfl ?_
      refine XS.iload X57.here hx rfl (hb hby d_method_3_74) rfl ?_
      refine XS.iconst X57.here hx rfl (hb hby d_method_3_76) ?_
      refine XS.icmpYes X57.here hx rfl (pc0 := 77) (pc' := 105) rfl (hb hby d_method_3_77) rfl (XT.ii_ne_t (by decide)) (by decide) (by decide) ?_
      refine XS.iload X57.here hx rfl (hb hby d_method_3_105) rfl ?_
      refine XS.iconst X57.here hx rfl (hb hby d_method_3_107) ?_
      show Sp p e below T57 (mkF m 108 #[.val (.int p1), .val (.int p2), .val (.int p3), .val (.int p4), .val (.int (6 : Int32)), .val (.int (1 : Int32)), .val (.int ((1 : Int32) + (p2 &&& (1 : Int32)))), .val (.int z57), .val (.int (0 : Int32))] [(.int (2 : Int32)), (.int (6 : Int32))]) _
      refine XS.icmpNo X57.here hx rfl (hb hby d_method_3_108) rfl (XT.ii_eq_f (by decide)) ?_
      refine XS.iload X57.here hx rfl (hb hby d_method_3_111) rfl ?_
      refine XS.bipush X57.here hx rfl (hb hby d_method_3_113) ?_
      refine XS.icmpYes X57.here hx rfl (pc0 := 115) (pc' := 154) rfl (hb hby d_method_3_115) rfl (XT.ii_ne_t (by decide)) (by decide) (by decide) ?_
      refine XS.iload X57.here hx rfl (hb hby d_method_3_154) rfl ?_
      refine XS.iconst X57.here hx rfl (hb hby d_method_3_156) ?_
      refine XS.icmpYes X57.here hx rfl (pc0 := 157) (pc' := 170) rfl (hb hby d_method_3_157) rfl (XT.ii_ne_t (by decide)) (by decide) (by decide) ?_
      refine XS.iload X57.here hx rfl (hb hby d_method_3_170) rfl ?_
      show Sp p e below T57 (mkF m 172 #[.val (.int p1), .val (.int p2), .val (.int p3), .val (.int p4), .val (.int (6 : Int32)), .val (.int (1 : Int32)), .val (.int ((1 : Int32) + (p2 &&& (1 : Int32)))), .val (.int z57), .val (.int (0 : Int32))] [(.int (6 : Int32))]) _
      refine XS.iconst X57.here hx rfl (hb hby d_method_3_172) ?_
      refine XS.icmpYes X57.here hx rfl (pc0 := 173) (pc' := 179) rfl (hb hby d_method_3_173) rfl (XT.ii_ne_t (by decide)) (by decide) (by decide) ?_
      exact k
    exact tail_179 T57 _ X57 N57 e57 (6 : Int32) (1 : Int32) ((1 : Int32) + (p2 &&& (1 : Int32))) z57 (0 : Int32) pre_59 (own_ok6 (own_e12 p2) (own_pos hz57) rfl)
  · skip
    rw [hs] at pre_16
    have pre_60 : ∀ t, Sp p e below s₁ (mkF m 66 #[.val (.int p1), .val (.int p2), .val (.int p3), .val (.int p4), .val (.int (7 : Int32)), .val (.int (1 : Int32)), .val (.int ((1 : Int32) + (p2 &&& (1 : Int32)))), .unset, .unset] [(.int (p3 &&& (2147483647 : Int32))), (.int (1 : Int32))]) t → Steps p.tables e below E0 t := by
      intro t k
      refine pre_16 t ?_
      show Sp p e below s₁ (mkF m 6 #[.val (.int p1), .val (.int p2), .val (.int p3), .val (.int p4), .val (.int (7 : Int32)), .unset, .unset, .unset, .unset] []) _
      refine XS.iload X0.here hx rfl (hb hby d_method_3_6) rfl ?_
      refine XS.iconst X0.here hx rfl (hb hby d_method_3_8) ?_
      refine XS.icmpNo X0.here hx rfl (hb hby d_method_3_9) rfl (XT.ii_eq_f (by decide)) ?_
      refine XS.iload X0.here hx rfl (hb hby d_method_3_12) rfl ?_
      show Sp p e below s₁ (mkF m 14 #[.val (.int p1), .val (.int p2), .val (.int p3), .val (.int p4), .val (.int (7 : Int32)), .unset, .unset, .unset, .unset] [(.int (7 : Int32))]) _
      refine XS.iconst X0.here hx rfl (hb hby d_method_3_14) ?_
      refine XS.icmpNo X0.here hx rfl (hb hby d_method_3_15) rfl (XT.ii_eq_f (by decide)) ?_
      refine XS.iload X0.here hx rfl (hb hby d_method_3_18) rfl ?_
      refine XS.iconst X0.here hx rfl (hb hby d_method_3_20) ?_
      refine XS.icmpNo X0.here hx rfl (hb hby d_method_3_21) rfl (XT.ii_eq_f (by decide)) ?_
      refine XS.iload X0.here hx rfl (hb hby d_method_3_24) rfl ?_
      refine XS.bipush X0.here hx rfl (hb hby d_method_3_26) ?_
      refine XS.icmpNo X0.here hx rfl (hb hby d_method_3_28) rfl (XT.ii_eq_f (by decide)) ?_
      show Sp p e below s₁ (mkF m 31 #[.val (.int p1), .val (.int p2), .val (.int p3), .val (.int p4), .val (.int (7 : Int32)), .unset, .unset, .unset, .unset] []) _
      refine XS.iload X0.here hx rfl (hb hby d_method_3_31) rfl ?_
      refine XS.bipush X0.here hx rfl (hb hby d_method_3_33) ?_
      refine XS.icmpNo X0.here hx rfl (hb hby d_method_3_35) rfl (XT.ii_ne_f (by decide)) ?_
      refine XS.iconst X0.here hx rfl (hb hby d_method_3_38) ?_
      refine XS.goto X0.here hx rfl (pc0 := 39) (pc' := 43) rfl (hb hby d_method_3_39) (by decide) (by decide) ?_
      refine XS.istore X0.here hx rfl (hb hby d_method_3_43) rfl (l' := #[.val (.int p1), .val (.int p2), .val (.int p3), .val (.int p4), .val (.int (7 : Int32)), .val (.int (1 : Int32)), .unset, .unset, .unset]) rfl ?_
      refine XS.iload X0.here hx rfl (hb hby d_method_3_45) rfl ?_
      refine XS.ifNo X0.here hx rfl (hb hby d_method_3_47) rfl (XT.i0_eq_f (by decide)) ?_
      show Sp p e below s₁ (mkF m 50 #[.val (.int p1), .val (.int p2), .val (.int p3), .val (.int p4), .val (.int (7 : Int32)), .val (.int (1 : Int32)), .unset, .unset, .unset] []) _
      refine XS.iconst X0.here hx rfl (hb hby d_method_3_50) ?_
      refine XS.iloadN X0.here hx rfl (hb hby d_method_3_51) rfl ?_
      refine XS.iconst X0.here hx rfl (hb hby d_method_3_52) ?_
      refine XS.iand X0.here hx rfl (hb hby d_method_3_53) rfl ?_
      refine XS.iadd X0.here hx rfl (hb hby d_method_3_54) rfl ?_
      refine XS.goto X0.here hx rfl (pc0 := 55) (pc' := 59) rfl (hb hby d_method_3_55) (by decide) (by decide) ?_
      refine XS.istore X0.here hx rfl (hb hby d_method_3_59) rfl (l' := #[.val (.int p1), .val (.int p2), .val (.int p3), .val (.int p4), .val (.int (7 : Int32)), .val (.int (1 : Int32)), .val (.int ((1 : Int32) + (p2 &&& (1 : Int32)))), .unset, .unset]) rfl ?_
      refine XS.iconst X0.here hx rfl (hb hby d_method_3_61) ?_
      show Sp p e below s₁ (mkF m 62 #[.val (.int p1), .val (.int p2), .val (.int p3), .val (.int p4), .val (.int (7 : Int32)), .val (.int (1 : Int32)), .val (.int ((1 : Int32) + (p2 &&& (1 : Int32)))), .unset, .unset] [(.int (1 : Int32))]) _
      refine XS.iloadN X0.here hx rfl (hb hby d_method_3_62) rfl ?_
      refine X0.ldcInt hx hown (mvT hZ (own_w hw 4 rfl)) (g := (mkF m 63 #[.val (.int p1), .val (.int p2), .val (.int p3), .val (.int p4), .val (.int (7 : Int32)), .val (.int (1 : Int32)), .val (.int ((1 : Int32) + (p2 &&& (1 : Int32)))), .unset, .unset] [(.int p3), (.int (1 : Int32))])) rfl (hb hby d_method_3_63) _ ?_
      refine XS.iand X0.here hx rfl (hb hby d_method_3_65) rfl ?_
      exact k
    obtain ⟨_, _, ⟨T61, L61, k61, n61⟩, -, X61, ⟨Lc61, hQ61, l61, y61, z61⟩, st61⟩ := Jvm.LawKit.callS X0 hx (y := (⟨"java/lang/Math", "max", "(II)I"⟩ : MethodName)) hown (mvT hZ (own_w hw 5 rfl)) (mvT hZ (own_w hw 6 rfl)) (mvT hZ (own_w hw 7 rfl)) (mvT hZ (own_w hw 8 rfl)) (by decide) (backOf (W := 0) (rm_max l Z a0 hw [] (1 : Int32) (p3 &&& (2147483647 : Int32)) h0 n0 O0) hZ (own_w hw 8 rfl) (own_w hw 7 rfl) (by decide) (by decide)) (g := (mkF m 66 #[.val (.int p1), .val (.int p2), .val (.int p3), .val (.int p4), .val (.int (7 : Int32)), .val (.int (1 : Int32)), .val (.int ((1 : Int32) + (p2 &&& (1 : Int32)))), .unset, .unset] [(.int (p3 &&& (2147483647 : Int32))), (.int (1 : Int32))])) rfl (by rw [hml]; rfl) (argsL := [(.int (1 : Int32)), (.int (p3 &&& (2147483647 : Int32)))]) (rest := []) (lenOf pd_fields_0 rfl) rfl (by show 2 * 0 + _ ≤ _; exact Nat.le_of_eq rfl) (hb hby d_method_3_66) (fun _ _ => ⟨rfl, e0, (by decide : 0 + 0 ≤ _), (by decide : 0 + 0 ≤ _)⟩)
    dsimp only [Pt.U, Pt.locs, Pt.cells, Pt.slots] at X61 l61 y61 z61 st61 hQ61
    subst l61 y61 z61
    obtain ⟨z61, rfl, N61q, e61, hz61⟩ := hQ61
    have N61 := Fr.app N0 N61q
    have pre_62 : ∀ t, Sp p e below T61 (mkF m 69 #[.val (.int p1), .val (.int p2), .val (.int p3), .val (.int p4), .val (.int (7 : Int32)), .val (.int (1 : Int32)), .val (.int ((1 : Int32) + (p2 &&& (1 : Int32)))), .unset, .unset] [(.int z61)]) t → Steps p.tables e below E0 t := fun t k => pre_60 t (st61 t k)
    have pre_63 : ∀ t, Sp p e below T61 (mkF m 123 #[.val (.int p1), .val (.int p2), .val (.int p3), .val (.int p4), .val (.int (7 : Int32)), .val (.int (1 : Int32)), .val (.int ((1 : Int32) + (p2 &&& (1 : Int32)))), .val (.int z61), .val (.int (0 : Int32))] [(.int (p4 &&& (2147483647 : Int32))), (.int (1 : Int32))]) t → Steps p.tables e below E0 t := by
      intro t k
      refine pre_62 t ?_
      show Sp p e below T61 (mkF m 69 #[.val (.int p1), .val (.int p2), .val (.int p3), .val (.int p4), .val (.int (7 : Int32)), .val (.int (1 : Int32)), .val (.int ((1 : Int32) + (p2 &&& (1 : Int32)))), .unset, .unset] [(.int z61)]) _
      refine XS.istore X61.here hx rfl (hb hby d_method_3_69) rfl (l' := #[.val (.int p1), .val (.int p2), .val (.int p3), .val (.int p4), .val (.int (7 : Int32)), .val (.int (1 : Int32)), .val (.int ((1 : Int32) + (p2 &&& (1 : Int32)))), .val (.int z61), .unset]) rfl ?_
      refine XS.iconst X61.here hx rfl (hb hby d_method_3_71) ?_
      refine XS.istore X61.here hx rfl (hb hby d_method_3_72) rfl (l' := #[.val (.int p1), .val (.int p2), .val (.int p3), .val (.int p4), .val (.int (7 : Int32)), .val (.int (1 : Int32)), .val (.int ((1 : Int32) + (p2 &&& (1 : Int32)))), .val (.int z61), .val (.int (0 : Int32))]) rfl ?_
      refine XS.iload X61.here hx rfl (hb hby d_method_3_74) rfl ?_
      refine XS.iconst X61.here hx rfl (hb hby d_method_3_76) ?_
      show Sp p e below T61 (mkF m 77 #[.val (.int p1), .val (.int p2), .val (.int p3), .val (.int p4), .val (.int (7 : Int32)), .val (.int (1 : Int32)), .val (.int ((1 : Int32) + (p2 &&& (1 : Int32)))), .val (.int z61), .val (.int (0 : Int32))] [(.int (1 : Int32)), (.int (7 : Int32))]) _
      refine XS.icmpYes X61.here hx rfl (pc0 := 77) (pc' := 105) rfl (hb hby d_method_3_77) rfl (XT.ii_ne_t (by decide)) (by decide) (by decide) ?_
      refine XS.iload X61.here hx rfl (hb hby d_method_3_105) rfl ?_
      refine XS.iconst X61.here hx rfl (hb hby d_method_3_107) ?_
      refine XS.icmpNo X61.here hx rfl (hb hby d_method_3_108) rfl (XT.ii_eq_f (by decide)) ?_
      refine XS.iload X61.here hx rfl (hb hby d_method_3_111) rfl ?_
      refine XS.bipush X61.here hx rfl (hb hby d_method_3_113) ?_
      refine XS.icmpNo X61.here hx rfl (hb hby d_method_3_115) rfl (XT.ii_ne_f (by decide)) ?_
      refine XS.iconst X61.here hx rfl (hb hby d_method_3_118) ?_
      show Sp p e below T61 (mkF m 119 #[.val (.int p1), .val (.int p2), .val (.int p3), .val (.int p4), .val (.int (7 : Int32)), .val (.int (1 : Int32)), .val (.int ((1 : Int32) + (p2 &&& (1 : Int32)))), .val (.int z61), .val (.int (0 : Int32))] [(.int (1 : Int32))]) _
      refine XS.iloadN X61.here hx rfl (hb hby d_method_3_119) rfl ?_
      refine X61.ldcInt hx hown (mvT hZ (own_w hw 4 rfl)) (g := (mkF m 120 #[.val (.int p1), .val (.int p2), .val (.int p3), .val (.int p4), .val (.int (7 : Int32)), .val (.int (1 : Int32)), .val (.int ((1 : Int32) + (p2 &&& (1 : Int32)))), .val (.int z61), .val (.int (0 : Int32))] [(.int p4), (.int (1 : Int32))])) rfl (hb hby d_method_3_120) _ ?_
      refine XS.iand X61.here hx rfl (hb hby d_method_3_122) rfl ?_
      exact k
    obtain ⟨_, _, ⟨T64, L64, k64, n64⟩, -, X64, ⟨Lc64, hQ64, l64, y64, z64⟩, st64⟩ := Jvm.LawKit.callS X61 hx (y := (⟨"java/lang/Math", "max", "(II)I"⟩ : MethodName)) hown (mvT hZ (own_w hw 5 rfl)) (mvT hZ (own_w hw 6 rfl)) (mvT hZ (own_w hw 7 rfl)) (mvT hZ (own_w hw 8 rfl)) (by decide) (backOf (W := 0) (rm_max l Z a0 hw [] (1 : Int32) (p4 &&& (2147483647 : Int32)) h0 n0 O0) hZ (own_w hw 8 rfl) (own_w hw 7 rfl) (by decide) (by decide)) (g := (mkF m 123 #[.val (.int p1), .val (.int p2), .val (.int p3), .val (.int p4), .val (.int (7 : Int32)), .val (.int (1 : Int32)), .val (.int ((1 : Int32) + (p2 &&& (1 : Int32)))), .val (.int z61), .val (.int (0 : Int32))] [(.int (p4 &&& (2147483647 : Int32))), (.int (1 : Int32))])) rfl (by rw [hml]; rfl) (argsL := [(.int (1 : Int32)), (.int (p4 &&& (2147483647 : Int32)))]) (rest := []) (lenOf pd_fields_0 rfl) rfl (by show 2 * 0 + _ ≤ _; exact Nat.le_of_eq rfl) (hb hby d_method_3_123) (fun _ _ => ⟨rfl, e61, (by decide : 0 + 0 ≤ _), (by decide : 0 + 0 ≤ _)⟩)
    dsimp only [Pt.U, Pt.locs, Pt.cells, Pt.slots] at X64 l64 y64 z64 st64 hQ64
    subst l64 y64 z64
    obtain ⟨z64, rfl, N64q, e64, hz64⟩ := hQ64
    have N64 := Fr.app N61 N64q
    have pre_65 : ∀ t, Sp p e below T64 (mkF m 126 #[.val (.int p1), .val (.int p2), .val (.int p3), .val (.int p4), .val (.int (7 : Int32)), .val (.int (1 : Int32)), .val (.int ((1 : Int32) + (p2 &&& (1 : Int32)))), .val (.int z61), .val (.int (0 : Int32))] [(.int z64)]) t → Steps p.tables e below E0 t := fun t k => pre_63 t (st64 t k)
    have pre_66 : ∀ t, Sp p e below T64 (mkF m 132 #[.val (.int p1), .val (.int p2), .val (.int p3), .val (.int p4), .val (.int (7 : Int32)), .val (.int (1 : Int32)), .val (.int ((1 : Int32) + (p2 &&& (1 : Int32)))), .val (.int z61), .val (.int z64)] [(.int z61), (.int z64)]) t → Steps p.tables e below E0 t := by
      intro t k
      refine pre_65 t ?_
      show Sp p e below T64 (mkF m 126 #[.val (.int p1), .val (.int p2), .val (.int p3), .val (.int p4), .val (.int (7 : Int32)), .val (.int (1 : Int32)), .val (.int ((1 : Int32) + (p2 &&& (1 : Int32)))), .val (.int z61), .val (.int (0 : Int32))] [(.int z64)]) _
      refine XS.istore X64.here hx rfl (hb hby d_method_3_126) rfl (l' := #[.val (.int p1), .val (.int p2), .val (.int p3), .val (.int p4), .val (.int (7 : Int32)), .val (.int (1 : Int32)), .val (.int ((1 : Int32) + (p2 &&& (1 : Int32)))), .val (.int z61), .val (.int z64)]) rfl ?_
      refine XS.iload X64.here hx rfl (hb hby d_method_3_128) rfl ?_
      refine XS.iload X64.here hx rfl (hb hby d_method_3_130) rfl ?_
      exact k
    by_cases hc67 : z64 = z61
    · skip
      have pre_68 : ∀ t, Sp p e below T64 (mkF m 138 #[.val (.int p1), .val (.int p2), .val (.int p3), .val (.int p4), .val (.int (7 : Int32)), .val (.int (1 : Int32)), .val (.int ((1 : Int32) + (p2 &&& (1 : Int32)))), .val (.int z61), .val (.int z64)] [(.int (1 : Int32)), (.int z61)]) t → Steps p.tables e below E0 t := by
        intro t k
        refine pre_66 t ?_
        show Sp p e below T64 (mkF m 132 #[.val (.int p1), .val (.int p2), .val (.int p3), .val (.int p4), .val (.int (7 : Int32)), .val (.int (1 : Int32)), .val (.int ((1 : Int32) + (p2 &&& (1 : Int32)))), .val (.int z61), .val (.int z64)] [(.int z61), (.int z64)]) _
        refine XS.icmpNo X64.here hx rfl (hb hby d_method_3_132) rfl (XT.ii_ne_f hc67) ?_
        refine XS.iload X64.here hx rfl (hb hby d_method_3_135) rfl ?_
        show Sp p e below T64 (mkF m 137 #[.val (.int p1), .val (.int p2), .val (.int p3), .val (.int p4), .val (.int (7 : Int32)), .val (.int (1 : Int32)), .val (.int ((1 : Int32) + (p2 &&& (1 : Int32)))), .val (.int z61), .val (.int z64)] [(.int z61)]) _
        refine XS.iconst X64.here hx rfl (hb hby d_method_3_137) ?_
        exact k
      by_cases hc69 : z61 = (1 : Int32)
      · skip
        have pre_70 : ∀ t, Sp p e below T64 (mkF m 179 #[.val (.int p1), .val (.int p2), .val (.int p3), .val (.int p4), .val (.int (7 : Int32)), .val (.int (1 : Int32)), .val (.int ((1 : Int32) + (p2 &&& (1 : Int32)))), .val (.int z61), .val (.int (2 : Int32))] []) t → Steps p.tables e below E0 t := by
          intro t k
          refine pre_68 t ?_
          show Sp p e below T64 (mkF m 138 #[.val (.int p1), .val (.int p2), .val (.int p3), .val (.int p4), .val (.int (7 : Int32)), .val (.int (1 : Int32)), .val (.int ((1 : Int32) + (p2 &&& (1 : Int32)))), .val (.int z61), .val (.int z64)] [(.int (1 : Int32)), (.int z61)]) _
          refine XS.icmpNo X64.here hx rfl (hb hby d_method_3_138) rfl (XT.ii_ne_f hc69) ?_
          refine XS.iconst X64.here hx rfl (hb hby d_method_3_141) ?_
          refine XS.goto X64.here hx rfl (pc0 := 142) (pc' := 149) rfl (hb hby d_method_3_142) (by decide) (by decide) ?_
          refine XS.istore X64.here hx rfl (hb hby d_method_3_149) rfl (l' := #[.val (.int p1), .val (.int p2), .val (.int p3), .val (.int p4), .val (.int (7 : Int32)), .val (.int (1 : Int32)), .val (.int ((1 : Int32) + (p2 &&& (1 : Int32)))), .val (.int z61), .val (.int (2 : Int32))]) rfl ?_
          refine XS.goto X64.here hx rfl (pc0 := 151) (pc' := 179) rfl (hb hby d_method_3_151) (by decide) (by decide) ?_
          exact k
        exact tail_179 T64 _ X64 N64 e64 (7 : Int32) (1 : Int32) ((1 : Int32) + (p2 &&& (1 : Int32))) z61 (2 : Int32) pre_70 (own_ok7 (own_e12 p2) (own_pos hz61) (own_k2a hc69))
      · skip
        have pre_71 : ∀ t, Sp p e below T64 (mkF m 179 #[.val (.int p1), .val (.int p2), .val (.int p3), .val (.int p4), .val (.int (7 : Int32)), .val (.int (1 : Int32)), .val (.int ((1 : Int32) + (p2 &&& (1 : Int32)))), .val (.int z61), .val (.int (z61 - (1 : Int32)))] []) t → Steps p.tables e below E0 t := by
          intro t k
          refine pre_68 t ?_
          show Sp p e below T64 (mkF m 138 #[.val (.int p1), .val (.int p2), .val (.int p3), .val (.int p4), .val (.int (7 : Int32)), .val (.int (1 : Int32)), .val (.int ((1 : Int32) + (p2 &&& (1 : Int32)))), .val (.int z61), .val (.int z64)] [(.int (1 : Int32)), (.int z61)]) _
          refine XS.icmpYes X64.here hx rfl (pc0 := 138) (pc' := 145) rfl (hb hby d_method_3_138) rfl (XT.ii_ne_t hc69) (by decide) (by decide) ?_
          refine XS.iload X64.here hx rfl (hb hby d_method_3_145) rfl ?_
          refine XS.iconst X64.here hx rfl (hb hby d_method_3_147) ?_
          refine XS.isub X64.here hx rfl (hb hby d_method_3_148) rfl ?_
          refine XS.istore X64.here hx rfl (hb hby d_method_3_149) rfl (l' := #[.val (.int p1), .val (.int p2), .val (.int p3), .val (.int p4), .val (.int (7 : Int32)), .val (.int (1 : Int32)), .val (.int ((1 : Int32) + (p2 &&& (1 : Int32)))), .val (.int z61), .val (.int (z61 - (1 : Int32)))]) rfl ?_
          refine XS.goto X64.here hx rfl (pc0 := 151) (pc' := 179) rfl (hb hby d_method_3_151) (by decide) (by decide) ?_
          exact k
        exact tail_179 T64 _ X64 N64 e64 (7 : Int32) (1 : Int32) ((1 : Int32) + (p2 &&& (1 : Int32))) z61 (z61 - (1 : Int32)) pre_71 (own_ok7 (own_e12 p2) (own_pos hz61) (own_k2b hz61 hc69))
    · skip
      have pre_72 : ∀ t, Sp p e below T64 (mkF m 179 #[.val (.int p1), .val (.int p2), .val (.int p3), .val (.int p4), .val (.int (7 : Int32)), .val (.int (1 : Int32)), .val (.int ((1 : Int32) + (p2 &&& (1 : Int32)))), .val (.int z61), .val (.int z64)] []) t → Steps p.tables e below E0 t := by
        intro t k
        refine pre_66 t ?_
        show Sp p e below T64 (mkF m 132 #[.val (.int p1), .val (.int p2), .val (.int p3), .val (.int p4), .val (.int (7 : Int32)), .val (.int (1 : Int32)), .val (.int ((1 : Int32) + (p2 &&& (1 : Int32)))), .val (.int z61), .val (.int z64)] [(.int z61), (.int z64)]) _
        refine XS.icmpYes X64.here hx rfl (pc0 := 132) (pc' := 179) rfl (hb hby d_method_3_132) rfl (XT.ii_ne_t hc67) (by decide) (by decide) ?_
        exact k
      exact tail_179 T64 _ X64 N64 e64 (7 : Int32) (1 : Int32) ((1 : Int32) + (p2 &&& (1 : Int32))) z61 z64 pre_72 (own_ok7 (own_e12 p2) (own_pos hz61) ⟨own_pos hz64, hc67⟩)
def Q_qu (Z : State) (q : Addr) (h0 : Heap) (n0 : Nat) (v : Option Value) (h : Heap) (L : List Loc) : Prop := v = some (.ref q) ∧ Fr n0 L ∧ h = h0
theorem d_method_4_0 : decode method_4_code 0 = .ok (.iload_n 0, 1) := by decide +kernel
theorem d_method_4_1 : decode method_4_code 1 = .ok (.ifCond .ne 7, 3) := by decide +kernel
theorem d_method_4_4 : decode method_4_code 4 = .ok (.getstatic 40, 3) := by decide +kernel
theorem d_method_4_7 : decode method_4_code 7 = .ok (.areturn, 1) := by decide +kernel
theorem pn_qu0 : plainName cLW = true := by first | (simp [plainName, overriddenIn]; done) | decide +kernel
theorem ef_qu0 (m : MethodId)  : entryFrame m #[(.int (0 : Int32))] 1 = (mkF m 0 #[.val (.int (0 : Int32))] []) := by first | (simp [entryFrame, mkF, argsToLocals, Value.category]; done) | rfl
set_option maxRecDepth 65536 in
set_option maxHeartbeats 40000000 in
theorem rm_qu0 (l : Launch) (Z : State) (a0 : Array Value) (hw : ∀ d ∈ tables_1, d.before a0 Z = true) (ws : List Jvm.Cond)  (q : Addr) (h0 : Heap) (n0 : Nat) (O0 : Old Z n0 h0) (HQ : Sta Z Z.heap cQC "INSERTION_LOSS" lQC (.ref q)) :
    MetFree l (⟨cLW, "quantity", dQM⟩ : MethodName) (head1 (Jvm.Cond.code (⟨cLW, "quantity", dQM⟩ : MethodName) method_4_code 1 (some (.object cQC)) :: ws) ({ frames := 0, cells := 0, slots := 0, locals := 0 } : Room)) (fun a U => a = #[(.int (0 : Int32))] ∧ Z.Warmed39 U.vm ∧ U.heap = h0) (fun _ _ _ _ _ => True) (fun _ U o U' => ∃ v L, o = .returned v ∧ Q_qu Z q h0 n0 v U'.heap L ∧ FrameEnd U o U' L ({ frames := 0, cells := 0, slots := 0, locals := 0 } : Room).cells ({ frames := 0, cells := 0, slots := 0, locals := 0 } : Room).slots) := by
  refine MetFree.of_bodySF (plainFor_of_name pn_qu0) hisR ?_
  intro p e s m args below meth c s₁ Bd hml0 hP hK
  obtain ⟨rfl, hZ, hh⟩ := hP
  have hx := Bd.exec
  have hby := Bd.bytes
  have hml : c.maxLocals = 1 := hml0
  have hown : s.vm.findClass cLW = some m.cls := findClass_of_methodNamed Bd.named
  have hnm := (name_of_methodNamed Bd.named Bd.method).1
  have X0 : Stand p l e ({ frames := 0, cells := 0, slots := 0, locals := 0 } : Room) s m #[(.int (0 : Int32))] below meth c s₁ [] 0 0 := Stand.of_body Bd
  have e0 : s₁.heap = h0 := by rw [← hh, Bd.state]; rfl
  have N0 := Fr.nil n0
  have pre0 : ∀ t, Steps p.tables e below (s₁.setTop (mkF m 0 #[.val (.int (0 : Int32))] [])) t → Steps p.tables e below (s₁.setTop (entryFrame m #[(.int (0 : Int32))] 1)) t := fun t k => castTop (ef_qu0 m ) k
  generalize s₁.setTop (entryFrame m #[(.int (0 : Int32))] 1) = E0 at pre0 ⊢
  have pre_1 : ∀ t, Sp p e below s₁ (mkF m 4 #[.val (.int (0 : Int32))] []) t → Steps p.tables e below E0 t := by
    intro t k
    refine pre0 t ?_
    show Sp p e below s₁ (mkF m 0 #[.val (.int (0 : Int32))] []) _
    refine XS.iloadN X0.here hx rfl (hb hby d_method_4_0) rfl ?_
    refine XS.ifNo X0.here hx rfl (hb hby d_method_4_1) rfl (XT.i0_ne_f (by decide)) ?_
    exact k
  obtain ⟨T2, X2, e2, st2⟩ := getS X0 hx hZ hown (host := "") (own_w hw 19 rfl) Via.refl e0 (HQ.ext O0.2) (g := (mkF m 4 #[.val (.int (0 : Int32))] [])) rfl (hb hby d_method_4_4)
  have pre_3 : ∀ t, Sp p e below T2 (mkF m 7 #[.val (.int (0 : Int32))] [(.ref q)]) t → Steps p.tables e below E0 t := fun t k => pre_1 t (st2 t k)
  obtain ⟨fs, hr, hrun, hended, hW, hsame⟩ := X2.leave (v := some (.ref q)) (fun h => by rw [Bd.returns] at h; cases h)
  refine ⟨_, _, pre_3 _ ?_, hrun, hended, _, _, rfl, ?_, ⟨_, rfl⟩, hW, hsame.mono (by decide) (by decide)⟩
  · show Sp p e below T2 (mkF m 7 #[.val (.int (0 : Int32))] [(.ref q)]) _
    exact retOut X2 hx (t := (.object cQC)) Bd.returns rfl (Or.inr (Or.inr (Or.inr (Or.inr ⟨rfl, rfl, rfl⟩)))) (hb hby d_method_4_7) hr
  · show Q_qu Z _ h0 n0 _ T2.heap _
    rw [e2]
    exact ⟨rfl, N0, rfl⟩
theorem d_method_4_8 : decode method_4_code 8 = .ok (.iload_n 0, 1) := by decide +kernel
theorem d_method_4_9 : decode method_4_code 9 = .ok (.iconst 1, 1) := by decide +kernel
theorem d_method_4_10 : decode method_4_code 10 = .ok (.if_icmp .ne 7, 3) := by decide +kernel
theorem d_method_4_13 : decode method_4_code 13 = .ok (.getstatic 46, 3) := by decide +kernel
theorem d_method_4_16 : decode method_4_code 16 = .ok (.areturn, 1) := by decide +kernel
theorem pn_qu1 : plainName cLW = true := by first | (simp [plainName, overriddenIn]; done) | decide +kernel
theorem ef_qu1 (m : MethodId)  : entryFrame m #[(.int (1 : Int32))] 1 = (mkF m 0 #[.val (.int (1 : Int32))] []) := by first | (simp [entryFrame, mkF, argsToLocals, Value.category]; done) | rfl
set_option maxRecDepth 65536 in
set_option maxHeartbeats 40000000 in
theorem rm_qu1 (l : Launch) (Z : State) (a0 : Array Value) (hw : ∀ d ∈ tables_1, d.before a0 Z = true) (ws : List Jvm.Cond)  (q : Addr) (h0 : Heap) (n0 : Nat) (O0 : Old Z n0 h0) (HQ : Sta Z Z.heap cQC "NEXT" lQC (.ref q)) :
    MetFree l (⟨cLW, "quantity", dQM⟩ : MethodName) (head1 (Jvm.Cond.code (⟨cLW, "quantity", dQM⟩ : MethodName) method_4_code 1 (some (.object cQC)) :: ws) ({ frames := 0, cells := 0, slots := 0, locals := 0 } : Room)) (fun a U => a = #[(.int (1 : Int32))] ∧ Z.Warmed39 U.vm ∧ U.heap = h0) (fun _ _ _ _ _ => True) (fun _ U o U' => ∃ v L, o = .returned v ∧ Q_qu Z q h0 n0 v U'.heap L ∧ FrameEnd U o U' L ({ frames := 0, cells := 0, slots := 0, locals := 0 } : Room).cells ({ frames := 0, cells := 0, slots := 0, locals := 0 } : Room).slots) := by
  refine MetFree.of_bodySF (plainFor_of_name pn_qu1) hisR ?_
  intro p e s m args below meth c s₁ Bd hml0 hP hK
  obtain ⟨rfl, hZ, hh⟩ := hP
  have hx := Bd.exec
  have hby := Bd.bytes
  have hml : c.maxLocals = 1 := hml0
  have hown : s.vm.findClass cLW = some m.cls := findClass_of_methodNamed Bd.named
  have hnm := (name_of_methodNamed Bd.named Bd.method).1
  have X0 : Stand p l e ({ frames := 0, cells := 0, slots := 0, locals := 0 } : Room) s m #[(.int (1 : Int32))] below meth c s₁ [] 0 0 := Stand.of_body Bd
  have e0 : s₁.heap = h0 := by rw [← hh, Bd.state]; rfl
  have N0 := Fr.nil n0
  have pre0 : ∀ t, Steps p.tables e below (s₁.setTop (mkF m 0 #[.val (.int (1 : Int32))] [])) t → Steps p.tables e below (s₁.setTop (entryFrame m #[(.int (1 : Int32))] 1)) t := fun t k => castTop (ef_qu1 m ) k
  generalize s₁.setTop (entryFrame m #[(.int (1 : Int32))] 1) = E0 at pre0 ⊢
  have pre_1 : ∀ t, Sp p e below s₁ (mkF m 13 #[.val (.int (1 : Int32))] []) t → Steps p.tables e below E0 t := by
    intro t k
    refine pre0 t ?_
    show Sp p e below s₁ (mkF m 0 #[.val (.int (1 : Int32))] []) _
    refine XS.iloadN X0.here hx rfl (hb hby d_method_4_0) rfl ?_
    refine XS.ifYes X0.here hx rfl (pc0 := 1) (pc' := 8) rfl (hb hby d_method_4_1) rfl (XT.i0_ne_t (by decide)) (by decide) (by decide) ?_
    refine XS.iloadN X0.here hx rfl (hb hby d_method_4_8) rfl ?_
    refine XS.iconst X0.here hx rfl (hb hby d_method_4_9) ?_
    refine XS.icmpNo X0.here hx rfl (hb hby d_method_4_10) rfl (XT.ii_ne_f (by decide)) ?_
    exact k
  obtain ⟨T2, X2, e2, st2⟩ := getS X0 hx hZ hown (host := "") (own_w hw 192 rfl) Via.refl e0 (HQ.ext O0.2) (g := (mkF m 13 #[.val (.int (1 : Int32))] [])) rfl (hb hby d_method_4_13)
  have pre_3 : ∀ t, Sp p e below T2 (mkF m 16 #[.val (.int (1 : Int32))] [(.ref q)]) t → Steps p.tables e below E0 t := fun t k => pre_1 t (st2 t k)
  obtain ⟨fs, hr, hrun, hended, hW, hsame⟩ := X2.leave (v := some (.ref q)) (fun h => by rw [Bd.returns] at h; cases h)
  refine ⟨_, _, pre_3 _ ?_, hrun, hended, _, _, rfl, ?_, ⟨_, rfl⟩, hW, hsame.mono (by decide) (by decide)⟩
  · show Sp p e below T2 (mkF m 16 #[.val (.int (1 : Int32))] [(.ref q)]) _
    exact retOut X2 hx (t := (.object cQC)) Bd.returns rfl (Or.inr (Or.inr (Or.inr (Or.inr ⟨rfl, rfl, rfl⟩)))) (hb hby d_method_4_16) hr
  · show Q_qu Z _ h0 n0 _ T2.heap _
    rw [e2]
    exact ⟨rfl, N0, rfl⟩
theorem d_method_4_17 : decode method_4_code 17 = .ok (.iload_n 0, 1) := by decide +kernel
theorem d_method_4_18 : decode method_4_code 18 = .ok (.iconst 2, 1) := by decide +kernel
theorem d_method_4_19 : decode method_4_code 19 = .ok (.if_icmp .ne 7, 3) := by decide +kernel
theorem d_method_4_22 : decode method_4_code 22 = .ok (.getstatic 49, 3) := by decide +kernel
theorem d_method_4_25 : decode method_4_code 25 = .ok (.areturn, 1) := by decide +kernel
theorem pn_qu2 : plainName cLW = true := by first | (simp [plainName, overriddenIn]; done) | decide +kernel
theorem ef_qu2 (m : MethodId)  : entryFrame m #[(.int (2 : Int32))] 1 = (mkF m 0 #[.val (.int (2 : Int32))] []) := by first | (simp [entryFrame, mkF, argsToLocals, Value.category]; done) | rfl
set_option maxRecDepth 65536 in
set_option maxHeartbeats 40000000 in
theorem rm_qu2 (l : Launch) (Z : State) (a0 : Array Value) (hw : ∀ d ∈ tables_1, d.before a0 Z = true) (ws : List Jvm.Cond)  (q : Addr) (h0 : Heap) (n0 : Nat) (O0 : Old Z n0 h0) (HQ : Sta Z Z.heap cQC "FEXT" lQC (.ref q)) :
    MetFree l (⟨cLW, "quantity", dQM⟩ : MethodName) (head1 (Jvm.Cond.code (⟨cLW, "quantity", dQM⟩ : MethodName) method_4_code 1 (some (.object cQC)) :: ws) ({ frames := 0, cells := 0, slots := 0, locals := 0 } : Room)) (fun a U => a = #[(.int (2 : Int32))] ∧ Z.Warmed39 U.vm ∧ U.heap = h0) (fun _ _ _ _ _ => True) (fun _ U o U' => ∃ v L, o = .returned v ∧ Q_qu Z q h0 n0 v U'.heap L ∧ FrameEnd U o U' L ({ frames := 0, cells := 0, slots := 0, locals := 0 } : Room).cells ({ frames := 0, cells := 0, slots := 0, locals := 0 } : Room).slots) := by
  refine MetFree.of_bodySF (plainFor_of_name pn_qu2) hisR ?_
  intro p e s m args below meth c s₁ Bd hml0 hP hK
  obtain ⟨rfl, hZ, hh⟩ := hP
  have hx := Bd.exec
  have hby := Bd.bytes
  have hml : c.maxLocals = 1 := hml0
  have hown : s.vm.findClass cLW = some m.cls := findClass_of_methodNamed Bd.named
  have hnm := (name_of_methodNamed Bd.named Bd.method).1
  have X0 : Stand p l e ({ frames := 0, cells := 0, slots := 0, locals := 0 } : Room) s m #[(.int (2 : Int32))] below meth c s₁ [] 0 0 := Stand.of_body Bd
  have e0 : s₁.heap = h0 := by rw [← hh, Bd.state]; rfl
  have N0 := Fr.nil n0
  have pre0 : ∀ t, Steps p.tables e below (s₁.setTop (mkF m 0 #[.val (.int (2 : Int32))] [])) t → Steps p.tables e below (s₁.setTop (entryFrame m #[(.int (2 : Int32))] 1)) t := fun t k => castTop (ef_qu2 m ) k
  generalize s₁.setTop (entryFrame m #[(.int (2 : Int32))] 1) = E0 at pre0 ⊢
  have pre_1 : ∀ t, Sp p e below s₁ (mkF m 22 #[.val (.int (2 : Int32))] []) t → Steps p.tables e below E0 t := by
    intro t k
    refine pre0 t ?_
    show Sp p e below s₁ (mkF m 0 #[.val (.int (2 : Int32))] []) _
    refine XS.iloadN X0.here hx rfl (hb hby d_method_4_0) rfl ?_
    refine XS.ifYes X0.here hx rfl (pc0 := 1) (pc' := 8) rfl (hb hby d_method_4_1) rfl (XT.i0_ne_t (by decide)) (by decide) (by decide) ?_
    refine XS.iloadN X0.here hx rfl (hb hby d_method_4_8) rfl ?_
    refine XS.iconst X0.here hx rfl (hb hby d_method_4_9) ?_
    refine XS.icmpYes X0.here hx rfl (pc0 := 10) (pc' := 17) rfl (hb hby d_method_4_10) rfl (XT.ii_ne_t (by decide)) (by decide) (by decide) ?_
    refine XS.iloadN X0.here hx rfl (hb hby d_method_4_17) rfl ?_
    refine XS.iconst X0.here hx rfl (hb hby d_method_4_18) ?_
    refine XS.icmpNo X0.here hx rfl (hb hby d_method_4_19) rfl (XT.ii_ne_f (by decide)) ?_
    show Sp p e below s₁ (mkF m 22 #[.val (.int (2 : Int32))] []) _
    exact k
  obtain ⟨T2, X2, e2, st2⟩ := getS X0 hx hZ hown (host := "") (own_w hw 179 rfl) Via.refl e0 (HQ.ext O0.2) (g := (mkF m 22 #[.val (.int (2 : Int32))] [])) rfl (hb hby d_method_4_22)
  have pre_3 : ∀ t, Sp p e below T2 (mkF m 25 #[.val (.int (2 : Int32))] [(.ref q)]) t → Steps p.tables e below E0 t := fun t k => pre_1 t (st2 t k)
  obtain ⟨fs, hr, hrun, hended, hW, hsame⟩ := X2.leave (v := some (.ref q)) (fun h => by rw [Bd.returns] at h; cases h)
  refine ⟨_, _, pre_3 _ ?_, hrun, hended, _, _, rfl, ?_, ⟨_, rfl⟩, hW, hsame.mono (by decide) (by decide)⟩
  · show Sp p e below T2 (mkF m 25 #[.val (.int (2 : Int32))] [(.ref q)]) _
    exact retOut X2 hx (t := (.object cQC)) Bd.returns rfl (Or.inr (Or.inr (Or.inr (Or.inr ⟨rfl, rfl, rfl⟩)))) (hb hby d_method_4_25) hr
  · show Q_qu Z _ h0 n0 _ T2.heap _
    rw [e2]
    exact ⟨rfl, N0, rfl⟩
theorem d_method_4_26 : decode method_4_code 26 = .ok (.iload_n 0, 1) := by decide +kernel
theorem d_method_4_27 : decode method_4_code 27 = .ok (.iconst 3, 1) := by decide +kernel
theorem d_method_4_28 : decode method_4_code 28 = .ok (.if_icmp .ne 7, 3) := by decide +kernel
theorem d_method_4_31 : decode method_4_code 31 = .ok (.getstatic 52, 3) := by decide +kernel
theorem d_method_4_34 : decode method_4_code 34 = .ok (.areturn, 1) := by decide +kernel
theorem pn_qu3 : plainName cLW = true := by first | (simp [plainName, overriddenIn]; done) | decide +kernel
theorem ef_qu3 (m : MethodId)  : entryFrame m #[(.int (3 : Int32))] 1 = (mkF m 0 #[.val (.int (3 : Int32))] []) := by first | (simp [entryFrame, mkF, argsToLocals, Value.category]; done) | rfl
set_option maxRecDepth 65536 in
set_option maxHeartbeats 40000000 in
theorem rm_qu3 (l : Launch) (Z : State) (a0 : Array Value) (hw : ∀ d ∈ tables_1, d.before a0 Z = true) (ws : List Jvm.Cond)  (q : Addr) (h0 : Heap) (n0 : Nat) (O0 : Old Z n0 h0) (HQ : Sta Z Z.heap cQC "PSNEXT" lQC (.ref q)) :
    MetFree l (⟨cLW, "quantity", dQM⟩ : MethodName) (head1 (Jvm.Cond.code (⟨cLW, "quantity", dQM⟩ : MethodName) method_4_code 1 (some (.object cQC)) :: ws) ({ frames := 0, cells := 0, slots := 0, locals := 0 } : Room)) (fun a U => a = #[(.int (3 : Int32))] ∧ Z.Warmed39 U.vm ∧ U.heap = h0) (fun _ _ _ _ _ => True) (fun _ U o U' => ∃ v L, o = .returned v ∧ Q_qu Z q h0 n0 v U'.heap L ∧ FrameEnd U o U' L ({ frames := 0, cells := 0, slots := 0, locals := 0 } : Room).cells ({ frames := 0, cells := 0, slots := 0, locals := 0 } : Room).slots) := by
  refine MetFree.of_bodySF (plainFor_of_name pn_qu3) hisR ?_
  intro p e s m args below meth c s₁ Bd hml0 hP hK
  obtain ⟨rfl, hZ, hh⟩ := hP
  have hx := Bd.exec
  have hby := Bd.bytes
  have hml : c.maxLocals = 1 := hml0
  have hown : s.vm.findClass cLW = some m.cls := findClass_of_methodNamed Bd.named
  have hnm := (name_of_methodNamed Bd.named Bd.method).1
  have X0 : Stand p l e ({ frames := 0, cells := 0, slots := 0, locals := 0 } : Room) s m #[(.int (3 : Int32))] below meth c s₁ [] 0 0 := Stand.of_body Bd
  have e0 : s₁.heap = h0 := by rw [← hh, Bd.state]; rfl
  have N0 := Fr.nil n0
  have pre0 : ∀ t, Steps p.tables e below (s₁.setTop (mkF m 0 #[.val (.int (3 : Int32))] [])) t → Steps p.tables e below (s₁.setTop (entryFrame m #[(.int (3 : Int32))] 1)) t := fun t k => castTop (ef_qu3 m ) k
  generalize s₁.setTop (entryFrame m #[(.int (3 : Int32))] 1) = E0 at pre0 ⊢
  have pre_1 : ∀ t, Sp p e below s₁ (mkF m 31 #[.val (.int (3 : Int32))] []) t → Steps p.tables e below E0 t := by
    intro t k
    refine pre0 t ?_
    show Sp p e below s₁ (mkF m 0 #[.val (.int (3 : Int32))] []) _
    refine XS.iloadN X0.here hx rfl (hb hby d_method_4_0) rfl ?_
    refine XS.ifYes X0.here hx rfl (pc0 := 1) (pc' := 8) rfl (hb hby d_method_4_1) rfl (XT.i0_ne_t (by decide)) (by decide) (by decide) ?_
    refine XS.iloadN X0.here hx rfl (hb hby d_method_4_8) rfl ?_
    refine XS.iconst X0.here hx rfl (hb hby d_method_4_9) ?_
    refine XS.icmpYes X0.here hx rfl (pc0 := 10) (pc' := 17) rfl (hb hby d_method_4_10) rfl (XT.ii_ne_t (by decide)) (by decide) (by decide) ?_
    refine XS.iloadN X0.here hx rfl (hb hby d_method_4_17) rfl ?_
    refine XS.iconst X0.here hx rfl (hb hby d_method_4_18) ?_
    refine XS.icmpYes X0.here hx rfl (pc0 := 19) (pc' := 26) rfl (hb hby d_method_4_19) rfl (XT.ii_ne_t (by decide)) (by decide) (by decide) ?_
    show Sp p e below s₁ (mkF m 26 #[.val (.int (3 : Int32))] []) _
    refine XS.iloadN X0.here hx rfl (hb hby d_method_4_26) rfl ?_
    refine XS.iconst X0.here hx rfl (hb hby d_method_4_27) ?_
    refine XS.icmpNo X0.here hx rfl (hb hby d_method_4_28) rfl (XT.ii_ne_f (by decide)) ?_
    exact k
  obtain ⟨T2, X2, e2, st2⟩ := getS X0 hx hZ hown (host := "") (own_w hw 185 rfl) Via.refl e0 (HQ.ext O0.2) (g := (mkF m 31 #[.val (.int (3 : Int32))] [])) rfl (hb hby d_method_4_31)
  have pre_3 : ∀ t, Sp p e below T2 (mkF m 34 #[.val (.int (3 : Int32))] [(.ref q)]) t → Steps p.tables e below E0 t := fun t k => pre_1 t (st2 t k)
  obtain ⟨fs, hr, hrun, hended, hW, hsame⟩ := X2.leave (v := some (.ref q)) (fun h => by rw [Bd.returns] at h; cases h)
  refine ⟨_, _, pre_3 _ ?_, hrun, hended, _, _, rfl, ?_, ⟨_, rfl⟩, hW, hsame.mono (by decide) (by decide)⟩
  · show Sp p e below T2 (mkF m 34 #[.val (.int (3 : Int32))] [(.ref q)]) _
    exact retOut X2 hx (t := (.object cQC)) Bd.returns rfl (Or.inr (Or.inr (Or.inr (Or.inr ⟨rfl, rfl, rfl⟩)))) (hb hby d_method_4_34) hr
  · show Q_qu Z _ h0 n0 _ T2.heap _
    rw [e2]
    exact ⟨rfl, N0, rfl⟩
theorem d_method_4_35 : decode method_4_code 35 = .ok (.iload_n 0, 1) := by decide +kernel
theorem d_method_4_36 : decode method_4_code 36 = .ok (.iconst 4, 1) := by decide +kernel
theorem d_method_4_37 : decode method_4_code 37 = .ok (.if_icmp .ne 7, 3) := by decide +kernel
theorem d_method_4_40 : decode method_4_code 40 = .ok (.getstatic 55, 3) := by decide +kernel
theorem d_method_4_43 : decode method_4_code 43 = .ok (.areturn, 1) := by decide +kernel
theorem pn_qu4 : plainName cLW = true := by first | (simp [plainName, overriddenIn]; done) | decide +kernel
theorem ef_qu4 (m : MethodId)  : entryFrame m #[(.int (4 : Int32))] 1 = (mkF m 0 #[.val (.int (4 : Int32))] []) := by first | (simp [entryFrame, mkF, argsToLocals, Value.category]; done) | rfl
set_option maxRecDepth 65536 in
set_option maxHeartbeats 40000000 in
theorem rm_qu4 (l : Launch) (Z : State) (a0 : Array Value) (hw : ∀ d ∈ tables_1, d.before a0 Z = true) (ws : List Jvm.Cond)  (q : Addr) (h0 : Heap) (n0 : Nat) (O0 : Old Z n0 h0) (HQ : Sta Z Z.heap cQC "RESISTANCE" lQC (.ref q)) :
    MetFree l (⟨cLW, "quantity", dQM⟩ : MethodName) (head1 (Jvm.Cond.code (⟨cLW, "quantity", dQM⟩ : MethodName) method_4_code 1 (some (.object cQC)) :: ws) ({ frames := 0, cells := 0, slots := 0, locals := 0 } : Room)) (fun a U => a = #[(.int (4 : Int32))] ∧ Z.Warmed39 U.vm ∧ U.heap = h0) (fun _ _ _ _ _ => True) (fun _ U o U' => ∃ v L, o = .returned v ∧ Q_qu Z q h0 n0 v U'.heap L ∧ FrameEnd U o U' L ({ frames := 0, cells := 0, slots := 0, locals := 0 } : Room).cells ({ frames := 0, cells := 0, slots := 0, locals := 0 } : Room).slots) := by
  refine MetFree.of_bodySF (plainFor_of_name pn_qu4) hisR ?_
  intro p e s m args below meth c s₁ Bd hml0 hP hK
  obtain ⟨rfl, hZ, hh⟩ := hP
  have hx := Bd.exec
  have hby := Bd.bytes
  have hml : c.maxLocals = 1 := hml0
  have hown : s.vm.findClass cLW = some m.cls := findClass_of_methodNamed Bd.named
  have hnm := (name_of_methodNamed Bd.named Bd.method).1
  have X0 : Stand p l e ({ frames := 0, cells := 0, slots := 0, locals := 0 } : Room) s m #[(.int (4 : Int32))] below meth c s₁ [] 0 0 := Stand.of_body Bd
  have e0 : s₁.heap = h0 := by rw [← hh, Bd.state]; rfl
  have N0 := Fr.nil n0
  have pre0 : ∀ t, Steps p.tables e below (s₁.setTop (mkF m 0 #[.val (.int (4 : Int32))] [])) t → Steps p.tables e below (s₁.setTop (entryFrame m #[(.int (4 : Int32))] 1)) t := fun t k => castTop (ef_qu4 m ) k
  generalize s₁.setTop (entryFrame m #[(.int (4 : Int32))] 1) = E0 at pre0 ⊢
  have pre_1 : ∀ t, Sp p e below s₁ (mkF m 40 #[.val (.int (4 : Int32))] []) t → Steps p.tables e below E0 t := by
    intro t k
    refine pre0 t ?_
    show Sp p e below s₁ (mkF m 0 #[.val (.int (4 : Int32))] []) _
    refine XS.iloadN X0.here hx rfl (hb hby d_method_4_0) rfl ?_
    refine XS.ifYes X0.here hx rfl (pc0 := 1) (pc' := 8) rfl (hb hby d_method_4_1) rfl (XT.i0_ne_t (by decide)) (by decide) (by decide) ?_
    refine XS.iloadN X0.here hx rfl (hb hby d_method_4_8) rfl ?_
    refine XS.iconst X0.here hx rfl (hb hby d_method_4_9) ?_
    refine XS.icmpYes X0.here hx rfl (pc0 := 10) (pc' := 17) rfl (hb hby d_method_4_10) rfl (XT.ii_ne_t (by decide)) (by decide) (by decide) ?_
    refine XS.iloadN X0.here hx rfl (hb hby d_method_4_17) rfl ?_
    refine XS.iconst X0.here hx rfl (hb hby d_method_4_18) ?_
    refine XS.icmpYes X0.here hx rfl (pc0 := 19) (pc' := 26) rfl (hb hby d_method_4_19) rfl (XT.ii_ne_t (by decide)) (by decide) (by decide) ?_
    show Sp p e below s₁ (mkF m 26 #[.val (.int (4 : Int32))] []) _
    refine XS.iloadN X0.here hx rfl (hb hby d_method_4_26) rfl ?_
    refine XS.iconst X0.here hx rfl (hb hby d_method_4_27) ?_
    refine XS.icmpYes X0.here hx rfl (pc0 := 28) (pc' := 35) rfl (hb hby d_method_4_28) rfl (XT.ii_ne_t (by decide)) (by decide) (by decide) ?_
    refine XS.iloadN X0.here hx rfl (hb hby d_method_4_35) rfl ?_
    refine XS.iconst X0.here hx rfl (hb hby d_method_4_36) ?_
    refine XS.icmpNo X0.here hx rfl (hb hby d_method_4_37) rfl (XT.ii_ne_f (by decide)) ?_
    exact k
  obtain ⟨T2, X2, e2, st2⟩ := getS X0 hx hZ hown (host := "") (own_w hw 102 rfl) Via.refl e0 (HQ.ext O0.2) (g := (mkF m 40 #[.val (.int (4 : Int32))] [])) rfl (hb hby d_method_4_40)
  have pre_3 : ∀ t, Sp p e below T2 (mkF m 43 #[.val (.int (4 : Int32))] [(.ref q)]) t → Steps p.tables e below E0 t := fun t k => pre_1 t (st2 t k)
  obtain ⟨fs, hr, hrun, hended, hW, hsame⟩ := X2.leave (v := some (.ref q)) (fun h => by rw [Bd.returns] at h; cases h)
  refine ⟨_, _, pre_3 _ ?_, hrun, hended, _, _, rfl, ?_, ⟨_, rfl⟩, hW, hsame.mono (by decide) (by decide)⟩
  · show Sp p e below T2 (mkF m 43 #[.val (.int (4 : Int32))] [(.ref q)]) _
    exact retOut X2 hx (t := (.object cQC)) Bd.returns rfl (Or.inr (Or.inr (Or.inr (Or.inr ⟨rfl, rfl, rfl⟩)))) (hb hby d_method_4_43) hr
  · show Q_qu Z _ h0 n0 _ T2.heap _
    rw [e2]
    exact ⟨rfl, N0, rfl⟩
theorem d_method_4_44 : decode method_4_code 44 = .ok (.iload_n 0, 1) := by decide +kernel
theorem d_method_4_45 : decode method_4_code 45 = .ok (.iconst 5, 1) := by decide +kernel
theorem d_method_4_46 : decode method_4_code 46 = .ok (.if_icmp .ne 7, 3) := by decide +kernel
theorem d_method_4_49 : decode method_4_code 49 = .ok (.getstatic 58, 3) := by decide +kernel
theorem d_method_4_52 : decode method_4_code 52 = .ok (.areturn, 1) := by decide +kernel
theorem pn_qu5 : plainName cLW = true := by first | (simp [plainName, overriddenIn]; done) | decide +kernel
theorem ef_qu5 (m : MethodId)  : entryFrame m #[(.int (5 : Int32))] 1 = (mkF m 0 #[.val (.int (5 : Int32))] []) := by first | (simp [entryFrame, mkF, argsToLocals, Value.category]; done) | rfl
set_option maxRecDepth 65536 in
set_option maxHeartbeats 40000000 in
theorem rm_qu5 (l : Launch) (Z : State) (a0 : Array Value) (hw : ∀ d ∈ tables_1, d.before a0 Z = true) (ws : List Jvm.Cond)  (q : Addr) (h0 : Heap) (n0 : Nat) (O0 : Old Z n0 h0) (HQ : Sta Z Z.heap cQC "DELAY_SKEW" lQC (.ref q)) :
    MetFree l (⟨cLW, "quantity", dQM⟩ : MethodName) (head1 (Jvm.Cond.code (⟨cLW, "quantity", dQM⟩ : MethodName) method_4_code 1 (some (.object cQC)) :: ws) ({ frames := 0, cells := 0, slots := 0, locals := 0 } : Room)) (fun a U => a = #[(.int (5 : Int32))] ∧ Z.Warmed39 U.vm ∧ U.heap = h0) (fun _ _ _ _ _ => True) (fun _ U o U' => ∃ v L, o = .returned v ∧ Q_qu Z q h0 n0 v U'.heap L ∧ FrameEnd U o U' L ({ frames := 0, cells := 0, slots := 0, locals := 0 } : Room).cells ({ frames := 0, cells := 0, slots := 0, locals := 0 } : Room).slots) := by
  refine MetFree.of_bodySF (plainFor_of_name pn_qu5) hisR ?_
  intro p e s m args below meth c s₁ Bd hml0 hP hK
  obtain ⟨rfl, hZ, hh⟩ := hP
  have hx := Bd.exec
  have hby := Bd.bytes
  have hml : c.maxLocals = 1 := hml0
  have hown : s.vm.findClass cLW = some m.cls := findClass_of_methodNamed Bd.named
  have hnm := (name_of_methodNamed Bd.named Bd.method).1
  have X0 : Stand p l e ({ frames := 0, cells := 0, slots := 0, locals := 0 } : Room) s m #[(.int (5 : Int32))] below meth c s₁ [] 0 0 := Stand.of_body Bd
  have e0 : s₁.heap = h0 := by rw [← hh, Bd.state]; rfl
  have N0 := Fr.nil n0
  have pre0 : ∀ t, Steps p.tables e below (s₁.setTop (mkF m 0 #[.val (.int (5 : Int32))] [])) t → Steps p.tables e below (s₁.setTop (entryFrame m #[(.int (5 : Int32))] 1)) t := fun t k => castTop (ef_qu5 m ) k
  generalize s₁.setTop (entryFrame m #[(.int (5 : Int32))] 1) = E0 at pre0 ⊢
  have pre_1 : ∀ t, Sp p e below s₁ (mkF m 49 #[.val (.int (5 : Int32))] []) t → Steps p.tables e below E0 t := by
    intro t k
    refine pre0 t ?_
    show Sp p e below s₁ (mkF m 0 #[.val (.int (5 : Int32))] []) _
    refine XS.iloadN X0.here hx rfl (hb hby d_method_4_0) rfl ?_
    refine XS.ifYes X0.here hx rfl (pc0 := 1) (pc' := 8) rfl (hb hby d_method_4_1) rfl (XT.i0_ne_t (by decide)) (by decide) (by decide) ?_
    refine XS.iloadN X0.here hx rfl (hb hby d_method_4_8) rfl ?_
    refine XS.iconst X0.here hx rfl (hb hby d_method_4_9) ?_
    refine XS.icmpYes X0.here hx rfl (pc0 := 10) (pc' := 17) rfl (hb hby d_method_4_10) rfl (XT.ii_ne_t (by decide)) (by decide) (by decide) ?_
    refine XS.iloadN X0.here hx rfl (hb hby d_method_4_17) rfl ?_
    refine XS.iconst X0.here hx rfl (hb hby d_method_4_18) ?_
    refine XS.icmpYes X0.here hx rfl (pc0 := 19) (pc' := 26) rfl (hb hby d_method_4_19) rfl (XT.ii_ne_t (by decide)) (by decide) (by decide) ?_
    show Sp p e below s₁ (mkF m 26 #[.val (.int (5 : Int32))] []) _
    refine XS.iloadN X0.here hx rfl (hb hby d_method_4_26) rfl ?_
    refine XS.iconst X0.here hx rfl (hb hby d_method_4_27) ?_
    refine XS.icmpYes X0.here hx rfl (pc0 := 28) (pc' := 35) rfl (hb hby d_method_4_28) rfl (XT.ii_ne_t (by decide)) (by decide) (by decide) ?_
    refine XS.iloadN X0.here hx rfl (hb hby d_method_4_35) rfl ?_
    refine XS.iconst X0.here hx rfl (hb hby d_method_4_36) ?_
    refine XS.icmpYes X0.here hx rfl (pc0 := 37) (pc' := 44) rfl (hb hby d_method_4_37) rfl (XT.ii_ne_t (by decide)) (by decide) (by decide) ?_
    refine XS.iloadN X0.here hx rfl (hb hby d_method_4_44) rfl ?_
    refine XS.iconst X0.here hx rfl (hb hby d_method_4_45) ?_
    show Sp p e below s₁ (mkF m 46 #[.val (.int (5 : Int32))] [(.int (5 : Int32)), (.int (5 : Int32))]) _
    refine XS.icmpNo X0.here hx rfl (hb hby d_method_4_46) rfl (XT.ii_ne_f (by decide)) ?_
    exact k
  obtain ⟨T2, X2, e2, st2⟩ := getS X0 hx hZ hown (host := "") (own_w hw 157 rfl) Via.refl e0 (HQ.ext O0.2) (g := (mkF m 49 #[.val (.int (5 : Int32))] [])) rfl (hb hby d_method_4_49)
  have pre_3 : ∀ t, Sp p e below T2 (mkF m 52 #[.val (.int (5 : Int32))] [(.ref q)]) t → Steps p.tables e below E0 t := fun t k => pre_1 t (st2 t k)
  obtain ⟨fs, hr, hrun, hended, hW, hsame⟩ := X2.leave (v := some (.ref q)) (fun h => by rw [Bd.returns] at h; cases h)
  refine ⟨_, _, pre_3 _ ?_, hrun, hended, _, _, rfl, ?_, ⟨_, rfl⟩, hW, hsame.mono (by decide) (by decide)⟩
  · show Sp p e below T2 (mkF m 52 #[.val (.int (5 : Int32))] [(.ref q)]) _
    exact retOut X2 hx (t := (.object cQC)) Bd.returns rfl (Or.inr (Or.inr (Or.inr (Or.inr ⟨rfl, rfl, rfl⟩)))) (hb hby d_method_4_52) hr
  · show Q_qu Z _ h0 n0 _ T2.heap _
    rw [e2]
    exact ⟨rfl, N0, rfl⟩
theorem d_method_4_53 : decode method_4_code 53 = .ok (.iload_n 0, 1) := by decide +kernel
theorem d_method_4_54 : decode method_4_code 54 = .ok (.bipush 6, 2) := by decide +kernel
theorem d_method_4_56 : decode method_4_code 56 = .ok (.if_icmp .ne 7, 3) := by decide +kernel
theorem d_method_4_59 : decode method_4_code 59 = .ok (.getstatic 61, 3) := by decide +kernel
theorem d_method_4_62 : decode method_4_code 62 = .ok (.areturn, 1) := by decide +kernel
theorem pn_qu6 : plainName cLW = true := by first | (simp [plainName, overriddenIn]; done) | decide +kernel
theorem ef_qu6 (m : MethodId)  : entryFrame m #[(.int (6 : Int32))] 1 = (mkF m 0 #[.val (.int (6 : Int32))] []) := by first | (simp [entryFrame, mkF, argsToLocals, Value.category]; done) | rfl
set_option maxRecDepth 65536 in
set_option maxHeartbeats 40000000 in
theorem rm_qu6 (l : Launch) (Z : State) (a0 : Array Value) (hw : ∀ d ∈ tables_1, d.before a0 Z = true) (ws : List Jvm.Cond)  (q : Addr) (h0 : Heap) (n0 : Nat) (O0 : Old Z n0 h0) (HQ : Sta Z Z.heap cQC "RETURN_LOSS" lQC (.ref q)) :
    MetFree l (⟨cLW, "quantity", dQM⟩ : MethodName) (head1 (Jvm.Cond.code (⟨cLW, "quantity", dQM⟩ : MethodName) method_4_code 1 (some (.object cQC)) :: ws) ({ frames := 0, cells := 0, slots := 0, locals := 0 } : Room)) (fun a U => a = #[(.int (6 : Int32))] ∧ Z.Warmed39 U.vm ∧ U.heap = h0) (fun _ _ _ _ _ => True) (fun _ U o U' => ∃ v L, o = .returned v ∧ Q_qu Z q h0 n0 v U'.heap L ∧ FrameEnd U o U' L ({ frames := 0, cells := 0, slots := 0, locals := 0 } : Room).cells ({ frames := 0, cells := 0, slots := 0, locals := 0 } : Room).slots) := by
  refine MetFree.of_bodySF (plainFor_of_name pn_qu6) hisR ?_
  intro p e s m args below meth c s₁ Bd hml0 hP hK
  obtain ⟨rfl, hZ, hh⟩ := hP
  have hx := Bd.exec
  have hby := Bd.bytes
  have hml : c.maxLocals = 1 := hml0
  have hown : s.vm.findClass cLW = some m.cls := findClass_of_methodNamed Bd.named
  have hnm := (name_of_methodNamed Bd.named Bd.method).1
  have X0 : Stand p l e ({ frames := 0, cells := 0, slots := 0, locals := 0 } : Room) s m #[(.int (6 : Int32))] below meth c s₁ [] 0 0 := Stand.of_body Bd
  have e0 : s₁.heap = h0 := by rw [← hh, Bd.state]; rfl
  have N0 := Fr.nil n0
  have pre0 : ∀ t, Steps p.tables e below (s₁.setTop (mkF m 0 #[.val (.int (6 : Int32))] [])) t → Steps p.tables e below (s₁.setTop (entryFrame m #[(.int (6 : Int32))] 1)) t := fun t k => castTop (ef_qu6 m ) k
  generalize s₁.setTop (entryFrame m #[(.int (6 : Int32))] 1) = E0 at pre0 ⊢
  have pre_1 : ∀ t, Sp p e below s₁ (mkF m 59 #[.val (.int (6 : Int32))] []) t → Steps p.tables e below E0 t := by
    intro t k
    refine pre0 t ?_
    show Sp p e below s₁ (mkF m 0 #[.val (.int (6 : Int32))] []) _
    refine XS.iloadN X0.here hx rfl (hb hby d_method_4_0) rfl ?_
    refine XS.ifYes X0.here hx rfl (pc0 := 1) (pc' := 8) rfl (hb hby d_method_4_1) rfl (XT.i0_ne_t (by decide)) (by decide) (by decide) ?_
    refine XS.iloadN X0.here hx rfl (hb hby d_method_4_8) rfl ?_
    refine XS.iconst X0.here hx rfl (hb hby d_method_4_9) ?_
    refine XS.icmpYes X0.here hx rfl (pc0 := 10) (pc' := 17) rfl (hb hby d_method_4_10) rfl (XT.ii_ne_t (by decide)) (by decide) (by decide) ?_
    refine XS.iloadN X0.here hx rfl (hb hby d_method_4_17) rfl ?_
    refine XS.iconst X0.here hx rfl (hb hby d_method_4_18) ?_
    refine XS.icmpYes X0.here hx rfl (pc0 := 19) (pc' := 26) rfl (hb hby d_method_4_19) rfl (XT.ii_ne_t (by decide)) (by decide) (by decide) ?_
    show Sp p e below s₁ (mkF m 26 #[.val (.int (6 : Int32))] []) _
    refine XS.iloadN X0.here hx rfl (hb hby d_method_4_26) rfl ?_
    refine XS.iconst X0.here hx rfl (hb hby d_method_4_27) ?_
    refine XS.icmpYes X0.here hx rfl (pc0 := 28) (pc' := 35) rfl (hb hby d_method_4_28) rfl (XT.ii_ne_t (by decide)) (by decide) (by decide) ?_
    refine XS.iloadN X0.here hx rfl (hb hby d_method_4_35) rfl ?_
    refine XS.iconst X0.here hx rfl (hb hby d_method_4_36) ?_
    refine XS.icmpYes X0.here hx rfl (pc0 := 37) (pc' := 44) rfl (hb hby d_method_4_37) rfl (XT.ii_ne_t (by decide)) (by decide) (by decide) ?_
    refine XS.iloadN X0.here hx rfl (hb hby d_method_4_44) rfl ?_
    refine XS.iconst X0.here hx rfl (hb hby d_method_4_45) ?_
    show Sp p e below s₁ (mkF m 46 #[.val (.int (6 : Int32))] [(.int (5 : Int32)), (.int (6 : Int32))]) _
    refine XS.icmpYes X0.here hx rfl (pc0 := 46) (pc' := 53) rfl (hb hby d_method_4_46) rfl (XT.ii_ne_t (by decide)) (by decide) (by decide) ?_
    refine XS.iloadN X0.here hx rfl (hb hby d_method_4_53) rfl ?_
    refine XS.bipush X0.here hx rfl (hb hby d_method_4_54) ?_
    refine XS.icmpNo X0.here hx rfl (hb hby d_method_4_56) rfl (XT.ii_ne_f (by decide)) ?_
    exact k
  obtain ⟨T2, X2, e2, st2⟩ := getS X0 hx hZ hown (host := "") (own_w hw 183 rfl) Via.refl e0 (HQ.ext O0.2) (g := (mkF m 59 #[.val (.int (6 : Int32))] [])) rfl (hb hby d_method_4_59)
  have pre_3 : ∀ t, Sp p e below T2 (mkF m 62 #[.val (.int (6 : Int32))] [(.ref q)]) t → Steps p.tables e below E0 t := fun t k => pre_1 t (st2 t k)
  obtain ⟨fs, hr, hrun, hended, hW, hsame⟩ := X2.leave (v := some (.ref q)) (fun h => by rw [Bd.returns] at h; cases h)
  refine ⟨_, _, pre_3 _ ?_, hrun, hended, _, _, rfl, ?_, ⟨_, rfl⟩, hW, hsame.mono (by decide) (by decide)⟩
  · show Sp p e below T2 (mkF m 62 #[.val (.int (6 : Int32))] [(.ref q)]) _
    exact retOut X2 hx (t := (.object cQC)) Bd.returns rfl (Or.inr (Or.inr (Or.inr (Or.inr ⟨rfl, rfl, rfl⟩)))) (hb hby d_method_4_62) hr
  · show Q_qu Z _ h0 n0 _ T2.heap _
    rw [e2]
    exact ⟨rfl, N0, rfl⟩
theorem d_method_4_63 : decode method_4_code 63 = .ok (.getstatic 64, 3) := by decide +kernel
theorem d_method_4_66 : decode method_4_code 66 = .ok (.areturn, 1) := by decide +kernel
theorem pn_qu7 : plainName cLW = true := by first | (simp [plainName, overriddenIn]; done) | decide +kernel
theorem ef_qu7 (m : MethodId)  : entryFrame m #[(.int (7 : Int32))] 1 = (mkF m 0 #[.val (.int (7 : Int32))] []) := by first | (simp [entryFrame, mkF, argsToLocals, Value.category]; done) | rfl
set_option maxRecDepth 65536 in
set_option maxHeartbeats 40000000 in
theorem rm_qu7 (l : Launch) (Z : State) (a0 : Array Value) (hw : ∀ d ∈ tables_1, d.before a0 Z = true) (ws : List Jvm.Cond)  (q : Addr) (h0 : Heap) (n0 : Nat) (O0 : Old Z n0 h0) (HQ : Sta Z Z.heap cQC "ACR" lQC (.ref q)) :
    MetFree l (⟨cLW, "quantity", dQM⟩ : MethodName) (head1 (Jvm.Cond.code (⟨cLW, "quantity", dQM⟩ : MethodName) method_4_code 1 (some (.object cQC)) :: ws) ({ frames := 0, cells := 0, slots := 0, locals := 0 } : Room)) (fun a U => a = #[(.int (7 : Int32))] ∧ Z.Warmed39 U.vm ∧ U.heap = h0) (fun _ _ _ _ _ => True) (fun _ U o U' => ∃ v L, o = .returned v ∧ Q_qu Z q h0 n0 v U'.heap L ∧ FrameEnd U o U' L ({ frames := 0, cells := 0, slots := 0, locals := 0 } : Room).cells ({ frames := 0, cells := 0, slots := 0, locals := 0 } : Room).slots) := by
  refine MetFree.of_bodySF (plainFor_of_name pn_qu7) hisR ?_
  intro p e s m args below meth c s₁ Bd hml0 hP hK
  obtain ⟨rfl, hZ, hh⟩ := hP
  have hx := Bd.exec
  have hby := Bd.bytes
  have hml : c.maxLocals = 1 := hml0
  have hown : s.vm.findClass cLW = some m.cls := findClass_of_methodNamed Bd.named
  have hnm := (name_of_methodNamed Bd.named Bd.method).1
  have X0 : Stand p l e ({ frames := 0, cells := 0, slots := 0, locals := 0 } : Room) s m #[(.int (7 : Int32))] below meth c s₁ [] 0 0 := Stand.of_body Bd
  have e0 : s₁.heap = h0 := by rw [← hh, Bd.state]; rfl
  have N0 := Fr.nil n0
  have pre0 : ∀ t, Steps p.tables e below (s₁.setTop (mkF m 0 #[.val (.int (7 : Int32))] [])) t → Steps p.tables e below (s₁.setTop (entryFrame m #[(.int (7 : Int32))] 1)) t := fun t k => castTop (ef_qu7 m ) k
  generalize s₁.setTop (entryFrame m #[(.int (7 : Int32))] 1) = E0 at pre0 ⊢
  have pre_1 : ∀ t, Sp p e below s₁ (mkF m 63 #[.val (.int (7 : Int32))] []) t → Steps p.tables e below E0 t := by
    intro t k
    refine pre0 t ?_
    show Sp p e below s₁ (mkF m 0 #[.val (.int (7 : Int32))] []) _
    refine XS.iloadN X0.here hx rfl (hb hby d_method_4_0) rfl ?_
    refine XS.ifYes X0.here hx rfl (pc0 := 1) (pc' := 8) rfl (hb hby d_method_4_1) rfl (XT.i0_ne_t (by decide)) (by decide) (by decide) ?_
    refine XS.iloadN X0.here hx rfl (hb hby d_method_4_8) rfl ?_
    refine XS.iconst X0.here hx rfl (hb hby d_method_4_9) ?_
    refine XS.icmpYes X0.here hx rfl (pc0 := 10) (pc' := 17) rfl (hb hby d_method_4_10) rfl (XT.ii_ne_t (by decide)) (by decide) (by decide) ?_
    refine XS.iloadN X0.here hx rfl (hb hby d_method_4_17) rfl ?_
    refine XS.iconst X0.here hx rfl (hb hby d_method_4_18) ?_
    refine XS.icmpYes X0.here hx rfl (pc0 := 19) (pc' := 26) rfl (hb hby d_method_4_19) rfl (XT.ii_ne_t (by decide)) (by decide) (by decide) ?_
    show Sp p e below s₁ (mkF m 26 #[.val (.int (7 : Int32))] []) _
    refine XS.iloadN X0.here hx rfl (hb hby d_method_4_26) rfl ?_
    refine XS.iconst X0.here hx rfl (hb hby d_method_4_27) ?_
    refine XS.icmpYes X0.here hx rfl (pc0 := 28) (pc' := 35) rfl (hb hby d_method_4_28) rfl (XT.ii_ne_t (by decide)) (by decide) (by decide) ?_
    refine XS.iloadN X0.here hx rfl (hb hby d_method_4_35) rfl ?_
    refine XS.iconst X0.here hx rfl (hb hby d_method_4_36) ?_
    refine XS.icmpYes X0.here hx rfl (pc0 := 37) (pc' := 44) rfl (hb hby d_method_4_37) rfl (XT.ii_ne_t (by decide)) (by decide) (by decide) ?_
    refine XS.iloadN X0.here hx rfl (hb hby d_method_4_44) rfl ?_
    refine XS.iconst X0.here hx rfl (hb hby d_method_4_45) ?_
    show Sp p e below s₁ (mkF m 46 #[.val (.int (7 : Int32))] [(.int (5 : Int32)), (.int (7 : Int32))]) _
    refine XS.icmpYes X0.here hx rfl (pc0 := 46) (pc' := 53) rfl (hb hby d_method_4_46) rfl (XT.ii_ne_t (by decide)) (by decide) (by decide) ?_
    refine XS.iloadN X0.here hx rfl (hb hby d_method_4_53) rfl ?_
    refine XS.bipush X0.here hx rfl (hb hby d_method_4_54) ?_
    refine XS.icmpYes X0.here hx rfl (pc0 := 56) (pc' := 63) rfl (hb hby d_method_4_56) rfl (XT.ii_ne_t (by decide)) (by decide) (by decide) ?_
    exact k
  obtain ⟨T2, X2, e2, st2⟩ := getS X0 hx hZ hown (host := "") (own_w hw 174 rfl) Via.refl e0 (HQ.ext O0.2) (g := (mkF m 63 #[.val (.int (7 : Int32))] [])) rfl (hb hby d_method_4_63)
  have pre_3 : ∀ t, Sp p e below T2 (mkF m 66 #[.val (.int (7 : Int32))] [(.ref q)]) t → Steps p.tables e below E0 t := fun t k => pre_1 t (st2 t k)
  obtain ⟨fs, hr, hrun, hended, hW, hsame⟩ := X2.leave (v := some (.ref q)) (fun h => by rw [Bd.returns] at h; cases h)
  refine ⟨_, _, pre_3 _ ?_, hrun, hended, _, _, rfl, ?_, ⟨_, rfl⟩, hW, hsame.mono (by decide) (by decide)⟩
  · show Sp p e below T2 (mkF m 66 #[.val (.int (7 : Int32))] [(.ref q)]) _
    exact retOut X2 hx (t := (.object cQC)) Bd.returns rfl (Or.inr (Or.inr (Or.inr (Or.inr ⟨rfl, rfl, rfl⟩)))) (hb hby d_method_4_66) hr
  · show Q_qu Z _ h0 n0 _ T2.heap _
    rw [e2]
    exact ⟨rfl, N0, rfl⟩
theorem d_method_5_0 : decode method_5_code 0 = .ok (.iload_n 0, 1) := by decide +kernel
theorem d_method_5_1 : decode method_5_code 1 = .ok (.ifCond .ne 7, 3) := by decide +kernel
theorem d_method_5_4 : decode method_5_code 4 = .ok (.getstatic 67, 3) := by decide +kernel
theorem d_method_5_7 : decode method_5_code 7 = .ok (.areturn, 1) := by decide +kernel
theorem pn_en0 : plainName cLW = true := by first | (simp [plainName, overriddenIn]; done) | decide +kernel
theorem ef_en0 (m : MethodId)  : entryFrame m #[(.int (0 : Int32))] 1 = (mkF m 0 #[.val (.int (0 : Int32))] []) := by first | (simp [entryFrame, mkF, argsToLocals, Value.category]; done) | rfl
set_option maxRecDepth 65536 in
set_option maxHeartbeats 40000000 in
theorem rm_en0 (l : Launch) (Z : State) (a0 : Array Value) (hw : ∀ d ∈ tables_1, d.before a0 Z = true) (ws : List Jvm.Cond)  (q : Addr) (h0 : Heap) (n0 : Nat) (O0 : Old Z n0 h0) (HQ : Sta Z Z.heap cEC "THROUGH" lEC (.ref q)) :
    MetFree l (⟨cLW, "end", dEM⟩ : MethodName) (head1 (Jvm.Cond.code (⟨cLW, "end", dEM⟩ : MethodName) method_5_code 1 (some (.object cEC)) :: ws) ({ frames := 0, cells := 0, slots := 0, locals := 0 } : Room)) (fun a U => a = #[(.int (0 : Int32))] ∧ Z.Warmed39 U.vm ∧ U.heap = h0) (fun _ _ _ _ _ => True) (fun _ U o U' => ∃ v L, o = .returned v ∧ Q_qu Z q h0 n0 v U'.heap L ∧ FrameEnd U o U' L ({ frames := 0, cells := 0, slots := 0, locals := 0 } : Room).cells ({ frames := 0, cells := 0, slots := 0, locals := 0 } : Room).slots) := by
  refine MetFree.of_bodySF (plainFor_of_name pn_en0) hisR ?_
  intro p e s m args below meth c s₁ Bd hml0 hP hK
  obtain ⟨rfl, hZ, hh⟩ := hP
  have hx := Bd.exec
  have hby := Bd.bytes
  have hml : c.maxLocals = 1 := hml0
  have hown : s.vm.findClass cLW = some m.cls := findClass_of_methodNamed Bd.named
  have hnm := (name_of_methodNamed Bd.named Bd.method).1
  have X0 : Stand p l e ({ frames := 0, cells := 0, slots := 0, locals := 0 } : Room) s m #[(.int (0 : Int32))] below meth c s₁ [] 0 0 := Stand.of_body Bd
  have e0 : s₁.heap = h0 := by rw [← hh, Bd.state]; rfl
  have N0 := Fr.nil n0
  have pre0 : ∀ t, Steps p.tables e below (s₁.setTop (mkF m 0 #[.val (.int (0 : Int32))] [])) t → Steps p.tables e below (s₁.setTop (entryFrame m #[(.int (0 : Int32))] 1)) t := fun t k => castTop (ef_en0 m ) k
  generalize s₁.setTop (entryFrame m #[(.int (0 : Int32))] 1) = E0 at pre0 ⊢
  have pre_1 : ∀ t, Sp p e below s₁ (mkF m 4 #[.val (.int (0 : Int32))] []) t → Steps p.tables e below E0 t := by
    intro t k
    refine pre0 t ?_
    show Sp p e below s₁ (mkF m 0 #[.val (.int (0 : Int32))] []) _
    refine XS.iloadN X0.here hx rfl (hb hby d_method_5_0) rfl ?_
    refine XS.ifNo X0.here hx rfl (hb hby d_method_5_1) rfl (XT.i0_ne_f (by decide)) ?_
    exact k
  obtain ⟨T2, X2, e2, st2⟩ := getS X0 hx hZ hown (host := "") (own_w hw 25 rfl) Via.refl e0 (HQ.ext O0.2) (g := (mkF m 4 #[.val (.int (0 : Int32))] [])) rfl (hb hby d_method_5_4)
  have pre_3 : ∀ t, Sp p e below T2 (mkF m 7 #[.val (.int (0 : Int32))] [(.ref q)]) t → Steps p.tables e below E0 t := fun t k => pre_1 t (st2 t k)
  obtain ⟨fs, hr, hrun, hended, hW, hsame⟩ := X2.leave (v := some (.ref q)) (fun h => by rw [Bd.returns] at h; cases h)
  refine ⟨_, _, pre_3 _ ?_, hrun, hended, _, _, rfl, ?_, ⟨_, rfl⟩, hW, hsame.mono (by decide) (by decide)⟩
  · show Sp p e below T2 (mkF m 7 #[.val (.int (0 : Int32))] [(.ref q)]) _
    exact retOut X2 hx (t := (.object cEC)) Bd.returns rfl (Or.inr (Or.inr (Or.inr (Or.inr ⟨rfl, rfl, rfl⟩)))) (hb hby d_method_5_7) hr
  · show Q_qu Z _ h0 n0 _ T2.heap _
    rw [e2]
    exact ⟨rfl, N0, rfl⟩
theorem d_method_5_8 : decode method_5_code 8 = .ok (.iload_n 0, 1) := by decide +kernel
theorem d_method_5_9 : decode method_5_code 9 = .ok (.iconst 1, 1) := by decide +kernel
theorem d_method_5_10 : decode method_5_code 10 = .ok (.if_icmp .ne 7, 3) := by decide +kernel
theorem d_method_5_13 : decode method_5_code 13 = .ok (.getstatic 73, 3) := by decide +kernel
theorem d_method_5_16 : decode method_5_code 16 = .ok (.areturn, 1) := by decide +kernel
theorem pn_en1 : plainName cLW = true := by first | (simp [plainName, overriddenIn]; done) | decide +kernel
theorem ef_en1 (m : MethodId)  : entryFrame m #[(.int (1 : Int32))] 1 = (mkF m 0 #[.val (.int (1 : Int32))] []) := by first | (simp [entryFrame, mkF, argsToLocals, Value.category]; done) | rfl
set_option maxRecDepth 65536 in
set_option maxHeartbeats 40000000 in
theorem rm_en1 (l : Launch) (Z : State) (a0 : Array Value) (hw : ∀ d ∈ tables_1, d.before a0 Z = true) (ws : List Jvm.Cond)  (q : Addr) (h0 : Heap) (n0 : Nat) (O0 : Old Z n0 h0) (HQ : Sta Z Z.heap cEC "NEAR" lEC (.ref q)) :
    MetFree l (⟨cLW, "end", dEM⟩ : MethodName) (head1 (Jvm.Cond.code (⟨cLW, "end", dEM⟩ : MethodName) method_5_code 1 (some (.object cEC)) :: ws) ({ frames := 0, cells := 0, slots := 0, locals := 0 } : Room)) (fun a U => a = #[(.int (1 : Int32))] ∧ Z.Warmed39 U.vm ∧ U.heap = h0) (fun _ _ _ _ _ => True) (fun _ U o U' => ∃ v L, o = .returned v ∧ Q_qu Z q h0 n0 v U'.heap L ∧ FrameEnd U o U' L ({ frames := 0, cells := 0, slots := 0, locals := 0 } : Room).cells ({ frames := 0, cells := 0, slots := 0, locals := 0 } : Room).slots) := by
  refine MetFree.of_bodySF (plainFor_of_name pn_en1) hisR ?_
  intro p e s m args below meth c s₁ Bd hml0 hP hK
  obtain ⟨rfl, hZ, hh⟩ := hP
  have hx := Bd.exec
  have hby := Bd.bytes
  have hml : c.maxLocals = 1 := hml0
  have hown : s.vm.findClass cLW = some m.cls := findClass_of_methodNamed Bd.named
  have hnm := (name_of_methodNamed Bd.named Bd.method).1
  have X0 : Stand p l e ({ frames := 0, cells := 0, slots := 0, locals := 0 } : Room) s m #[(.int (1 : Int32))] below meth c s₁ [] 0 0 := Stand.of_body Bd
  have e0 : s₁.heap = h0 := by rw [← hh, Bd.state]; rfl
  have N0 := Fr.nil n0
  have pre0 : ∀ t, Steps p.tables e below (s₁.setTop (mkF m 0 #[.val (.int (1 : Int32))] [])) t → Steps p.tables e below (s₁.setTop (entryFrame m #[(.int (1 : Int32))] 1)) t := fun t k => castTop (ef_en1 m ) k
  generalize s₁.setTop (entryFrame m #[(.int (1 : Int32))] 1) = E0 at pre0 ⊢
  have pre_1 : ∀ t, Sp p e below s₁ (mkF m 13 #[.val (.int (1 : Int32))] []) t → Steps p.tables e below E0 t := by
    intro t k
    refine pre0 t ?_
    show Sp p e below s₁ (mkF m 0 #[.val (.int (1 : Int32))] []) _
    refine XS.iloadN X0.here hx rfl (hb hby d_method_5_0) rfl ?_
    refine XS.ifYes X0.here hx rfl (pc0 := 1) (pc' := 8) rfl (hb hby d_method_5_1) rfl (XT.i0_ne_t (by decide)) (by decide) (by decide) ?_
    refine XS.iloadN X0.here hx rfl (hb hby d_method_5_8) rfl ?_
    refine XS.iconst X0.here hx rfl (hb hby d_method_5_9) ?_
    refine XS.icmpNo X0.here hx rfl (hb hby d_method_5_10) rfl (XT.ii_ne_f (by decide)) ?_
    exact k
  obtain ⟨T2, X2, e2, st2⟩ := getS X0 hx hZ hown (host := "") (own_w hw 176 rfl) Via.refl e0 (HQ.ext O0.2) (g := (mkF m 13 #[.val (.int (1 : Int32))] [])) rfl (hb hby d_method_5_13)
  have pre_3 : ∀ t, Sp p e below T2 (mkF m 16 #[.val (.int (1 : Int32))] [(.ref q)]) t → Steps p.tables e below E0 t := fun t k => pre_1 t (st2 t k)
  obtain ⟨fs, hr, hrun, hended, hW, hsame⟩ := X2.leave (v := some (.ref q)) (fun h => by rw [Bd.returns] at h; cases h)
  refine ⟨_, _, pre_3 _ ?_, hrun, hended, _, _, rfl, ?_, ⟨_, rfl⟩, hW, hsame.mono (by decide) (by decide)⟩
  · show Sp p e below T2 (mkF m 16 #[.val (.int (1 : Int32))] [(.ref q)]) _
    exact retOut X2 hx (t := (.object cEC)) Bd.returns rfl (Or.inr (Or.inr (Or.inr (Or.inr ⟨rfl, rfl, rfl⟩)))) (hb hby d_method_5_16) hr
  · show Q_qu Z _ h0 n0 _ T2.heap _
    rw [e2]
    exact ⟨rfl, N0, rfl⟩
theorem d_method_5_17 : decode method_5_code 17 = .ok (.getstatic 76, 3) := by decide +kernel
theorem d_method_5_20 : decode method_5_code 20 = .ok (.areturn, 1) := by decide +kernel
theorem pn_en2 : plainName cLW = true := by first | (simp [plainName, overriddenIn]; done) | decide +kernel
theorem ef_en2 (m : MethodId)  : entryFrame m #[(.int (2 : Int32))] 1 = (mkF m 0 #[.val (.int (2 : Int32))] []) := by first | (simp [entryFrame, mkF, argsToLocals, Value.category]; done) | rfl
set_option maxRecDepth 65536 in
set_option maxHeartbeats 40000000 in
theorem rm_en2 (l : Launch) (Z : State) (a0 : Array Value) (hw : ∀ d ∈ tables_1, d.before a0 Z = true) (ws : List Jvm.Cond)  (q : Addr) (h0 : Heap) (n0 : Nat) (O0 : Old Z n0 h0) (HQ : Sta Z Z.heap cEC "FAR" lEC (.ref q)) :
    MetFree l (⟨cLW, "end", dEM⟩ : MethodName) (head1 (Jvm.Cond.code (⟨cLW, "end", dEM⟩ : MethodName) method_5_code 1 (some (.object cEC)) :: ws) ({ frames := 0, cells := 0, slots := 0, locals := 0 } : Room)) (fun a U => a = #[(.int (2 : Int32))] ∧ Z.Warmed39 U.vm ∧ U.heap = h0) (fun _ _ _ _ _ => True) (fun _ U o U' => ∃ v L, o = .returned v ∧ Q_qu Z q h0 n0 v U'.heap L ∧ FrameEnd U o U' L ({ frames := 0, cells := 0, slots := 0, locals := 0 } : Room).cells ({ frames := 0, cells := 0, slots := 0, locals := 0 } : Room).slots) := by
  refine MetFree.of_bodySF (plainFor_of_name pn_en2) hisR ?_
  intro p e s m args below meth c s₁ Bd hml0 hP hK
  obtain ⟨rfl, hZ, hh⟩ := hP
  have hx := Bd.exec
  have hby := Bd.bytes
  have hml : c.maxLocals = 1 := hml0
  have hown : s.vm.findClass cLW = some m.cls := findClass_of_methodNamed Bd.named
  have hnm := (name_of_methodNamed Bd.named Bd.method).1
  have X0 : Stand p l e ({ frames := 0, cells := 0, slots := 0, locals := 0 } : Room) s m #[(.int (2 : Int32))] below meth c s₁ [] 0 0 := Stand.of_body Bd
  have e0 : s₁.heap = h0 := by rw [← hh, Bd.state]; rfl
  have N0 := Fr.nil n0
  have pre0 : ∀ t, Steps p.tables e below (s₁.setTop (mkF m 0 #[.val (.int (2 : Int32))] [])) t → Steps p.tables e below (s₁.setTop (entryFrame m #[(.int (2 : Int32))] 1)) t := fun t k => castTop (ef_en2 m ) k
  generalize s₁.setTop (entryFrame m #[(.int (2 : Int32))] 1) = E0 at pre0 ⊢
  have pre_1 : ∀ t, Sp p e below s₁ (mkF m 17 #[.val (.int (2 : Int32))] []) t → Steps p.tables e below E0 t := by
    intro t k
    refine pre0 t ?_
    show Sp p e below s₁ (mkF m 0 #[.val (.int (2 : Int32))] []) _
    refine XS.iloadN X0.here hx rfl (hb hby d_method_5_0) rfl ?_
    refine XS.ifYes X0.here hx rfl (pc0 := 1) (pc' := 8) rfl (hb hby d_method_5_1) rfl (XT.i0_ne_t (by decide)) (by decide) (by decide) ?_
    refine XS.iloadN X0.here hx rfl (hb hby d_method_5_8) rfl ?_
    refine XS.iconst X0.here hx rfl (hb hby d_method_5_9) ?_
    refine XS.icmpYes X0.here hx rfl (pc0 := 10) (pc' := 17) rfl (hb hby d_method_5_10) rfl (XT.ii_ne_t (by decide)) (by decide) (by decide) ?_
    exact k
  obtain ⟨T2, X2, e2, st2⟩ := getS X0 hx hZ hown (host := "") (own_w hw 181 rfl) Via.refl e0 (HQ.ext O0.2) (g := (mkF m 17 #[.val (.int (2 : Int32))] [])) rfl (hb hby d_method_5_17)
  have pre_3 : ∀ t, Sp p e below T2 (mkF m 20 #[.val (.int (2 : Int32))] [(.ref q)]) t → Steps p.tables e below E0 t := fun t k => pre_1 t (st2 t k)
  obtain ⟨fs, hr, hrun, hended, hW, hsame⟩ := X2.leave (v := some (.ref q)) (fun h => by rw [Bd.returns] at h; cases h)
  refine ⟨_, _, pre_3 _ ?_, hrun, hended, _, _, rfl, ?_, ⟨_, rfl⟩, hW, hsame.mono (by decide) (by decide)⟩
  · show Sp p e below T2 (mkF m 20 #[.val (.int (2 : Int32))] [(.ref q)]) _
    exact retOut X2 hx (t := (.object cEC)) Bd.returns rfl (Or.inr (Or.inr (Or.inr (Or.inr ⟨rfl, rfl, rfl⟩)))) (hb hby d_method_5_20) hr
  · show Q_qu Z _ h0 n0 _ T2.heap _
    rw [e2]
    exact ⟨rfl, N0, rfl⟩
theorem d_prog_51_6_0 : decode prog_51_method_6_code 0 = .ok (.aload_n 0, 1) := by decide +kernel
theorem d_prog_51_6_1 : decode prog_51_method_6_code 1 = .ok (.getfield 89, 3) := by decide +kernel
theorem d_prog_51_6_4 : decode prog_51_method_6_code 4 = .ok (.areturn, 1) := by decide +kernel
theorem pn_idm : plainName cQC = true := by first | (simp [plainName, overriddenIn]; done) | decide +kernel
theorem ef_idm (m : MethodId) (a1 : Addr) : entryFrame m #[(.ref a1)] 1 = (mkF m 0 #[.val (.ref a1)] []) := by first | (simp [entryFrame, mkF, argsToLocals, Value.category]; done) | rfl
def Q_idm (Z : State) (a1 : Addr) (w2 : Addr) (h0 : Heap) (n0 : Nat) (v : Option Value) (h : Heap) (L : List Loc) : Prop := v = some (.ref w2) ∧ Fr n0 L ∧ h = h0
set_option maxRecDepth 65536 in
set_option maxHeartbeats 40000000 in
theorem rm_idm (l : Launch) (Z : State) (a0 : Array Value) (hw : ∀ d ∈ tables_1, d.before a0 Z = true) (ws : List Jvm.Cond) (a1 : Addr) (w2 : Addr) (h0 : Heap) (n0 : Nat) (O0 : Old Z n0 h0) (F1 : Fld Z h0 a1 cQC "identifier" "Ljava/lang/String;" (.ref w2)) :
    MetFree l (⟨cQC, "identifier", "()Ljava/lang/String;"⟩ : MethodName) (head1 (Jvm.Cond.code (⟨cQC, "identifier", "()Ljava/lang/String;"⟩ : MethodName) prog_51_method_6_code 1 (some (.object "java/lang/String")) :: ws) ({ frames := 0, cells := 0, slots := 0, locals := 0 } : Room)) (fun a U => a = #[(.ref a1)] ∧ Z.Warmed39 U.vm ∧ U.heap = h0) (fun _ _ _ _ _ => True) (fun _ U o U' => ∃ v L, o = .returned v ∧ Q_idm Z a1 w2 h0 n0 v U'.heap L ∧ FrameEnd U o U' L ({ frames := 0, cells := 0, slots := 0, locals := 0 } : Room).cells ({ frames := 0, cells := 0, slots := 0, locals := 0 } : Room).slots) := by
  refine MetFree.of_bodySF (plainFor_of_name pn_idm) hisR ?_
  intro p e s m args below meth c s₁ Bd hml0 hP hK
  obtain ⟨rfl, hZ, hh⟩ := hP
  have hx := Bd.exec
  have hby := Bd.bytes
  have hml : c.maxLocals = 1 := hml0
  have hown : s.vm.findClass cQC = some m.cls := findClass_of_methodNamed Bd.named
  have hnm := (name_of_methodNamed Bd.named Bd.method).1
  have X0 : Stand p l e ({ frames := 0, cells := 0, slots := 0, locals := 0 } : Room) s m #[(.ref a1)] below meth c s₁ [] 0 0 := Stand.of_body Bd
  have e0 : s₁.heap = h0 := by rw [← hh, Bd.state]; rfl
  have N0 := Fr.nil n0
  have pre0 : ∀ t, Steps p.tables e below (s₁.setTop (mkF m 0 #[.val (.ref a1)] [])) t → Steps p.tables e below (s₁.setTop (entryFrame m #[(.ref a1)] 1)) t := fun t k => castTop (ef_idm m a1) k
  generalize s₁.setTop (entryFrame m #[(.ref a1)] 1) = E0 at pre0 ⊢
  have pre_1 : ∀ t, Sp p e below s₁ (mkF m 1 #[.val (.ref a1)] [(.ref a1)]) t → Steps p.tables e below E0 t := by
    intro t k
    refine pre0 t ?_
    show Sp p e below s₁ (mkF m 0 #[.val (.ref a1)] []) _
    refine XS.aloadN X0.here hx rfl (hb hby d_prog_51_6_0) rfl rfl ?_
    exact k
  obtain ⟨T2, X2, e2, st2⟩ := getF X0 hx hZ hown (host := "") (Or.inl (own_w hw 44 rfl)) Via.refl e0 F1 (g := (mkF m 1 #[.val (.ref a1)] [(.ref a1)])) rfl rfl (hb hby d_prog_51_6_1)
  have pre_3 : ∀ t, Sp p e below T2 (mkF m 4 #[.val (.ref a1)] [(.ref w2)]) t → Steps p.tables e below E0 t := fun t k => pre_1 t (st2 t k)
  obtain ⟨fs, hr, hrun, hended, hW, hsame⟩ := X2.leave (v := some (.ref w2)) (fun h => by rw [Bd.returns] at h; cases h)
  refine ⟨_, _, pre_3 _ ?_, hrun, hended, _, _, rfl, ?_, ⟨_, rfl⟩, hW, hsame.mono (by decide) (by decide)⟩
  · show Sp p e below T2 (mkF m 4 #[.val (.ref a1)] [(.ref w2)]) _
    exact retOut X2 hx (t := (.object "java/lang/String")) Bd.returns rfl (Or.inr (Or.inr (Or.inr (Or.inr ⟨rfl, rfl, rfl⟩)))) (hb hby d_prog_51_6_4) hr
  · show Q_idm Z _ _ h0 n0 _ T2.heap _
    rw [e2]
    exact ⟨rfl, N0, rfl⟩
theorem d_prog_51_13_0 : decode prog_51_method_13_code 0 = .ok (.aload_n 0, 1) := by decide +kernel
theorem d_prog_51_13_1 : decode prog_51_method_13_code 1 = .ok (.getfield 97, 3) := by decide +kernel
theorem d_prog_51_13_4 : decode prog_51_method_13_code 4 = .ok (.areturn, 1) := by decide +kernel
theorem pn_otm : plainName cQC = true := by first | (simp [plainName, overriddenIn]; done) | decide +kernel
theorem ef_otm (m : MethodId) (a1 : Addr) : entryFrame m #[(.ref a1)] 1 = (mkF m 0 #[.val (.ref a1)] []) := by first | (simp [entryFrame, mkF, argsToLocals, Value.category]; done) | rfl
def Q_otm (Z : State) (a1 : Addr) (w2 : Addr) (h0 : Heap) (n0 : Nat) (v : Option Value) (h : Heap) (L : List Loc) : Prop := v = some (.ref w2) ∧ Fr n0 L ∧ h = h0
set_option maxRecDepth 65536 in
set_option maxHeartbeats 40000000 in
theorem rm_otm (l : Launch) (Z : State) (a0 : Array Value) (hw : ∀ d ∈ tables_1, d.before a0 Z = true) (ws : List Jvm.Cond) (a1 : Addr) (w2 : Addr) (h0 : Heap) (n0 : Nat) (O0 : Old Z n0 h0) (F1 : Fld Z h0 a1 cQC "others" lOC (.ref w2)) :
    MetFree l (⟨cQC, "others", dOT⟩ : MethodName) (head1 (Jvm.Cond.code (⟨cQC, "others", dOT⟩ : MethodName) prog_51_method_13_code 1 (some (.object cOC)) :: ws) ({ frames := 0, cells := 0, slots := 0, locals := 0 } : Room)) (fun a U => a = #[(.ref a1)] ∧ Z.Warmed39 U.vm ∧ U.heap = h0) (fun _ _ _ _ _ => True) (fun _ U o U' => ∃ v L, o = .returned v ∧ Q_otm Z a1 w2 h0 n0 v U'.heap L ∧ FrameEnd U o U' L ({ frames := 0, cells := 0, slots := 0, locals := 0 } : Room).cells ({ frames := 0, cells := 0, slots := 0, locals := 0 } : Room).slots) := by
  refine MetFree.of_bodySF (plainFor_of_name pn_otm) hisR ?_
  intro p e s m args below meth c s₁ Bd hml0 hP hK
  obtain ⟨rfl, hZ, hh⟩ := hP
  have hx := Bd.exec
  have hby := Bd.bytes
  have hml : c.maxLocals = 1 := hml0
  have hown : s.vm.findClass cQC = some m.cls := findClass_of_methodNamed Bd.named
  have hnm := (name_of_methodNamed Bd.named Bd.method).1
  have X0 : Stand p l e ({ frames := 0, cells := 0, slots := 0, locals := 0 } : Room) s m #[(.ref a1)] below meth c s₁ [] 0 0 := Stand.of_body Bd
  have e0 : s₁.heap = h0 := by rw [← hh, Bd.state]; rfl
  have N0 := Fr.nil n0
  have pre0 : ∀ t, Steps p.tables e below (s₁.setTop (mkF m 0 #[.val (.ref a1)] [])) t → Steps p.tables e below (s₁.setTop (entryFrame m #[(.ref a1)] 1)) t := fun t k => castTop (ef_otm m a1) k
  generalize s₁.setTop (entryFrame m #[(.ref a1)] 1) = E0 at pre0 ⊢
  have pre_1 : ∀ t, Sp p e below s₁ (mkF m 1 #[.val (.ref a1)] [(.ref a1)]) t → Steps p.tables e below E0 t := by
    intro t k
    refine pre0 t ?_
    show Sp p e below s₁ (mkF m 0 #[.val (.ref a1)] []) _
    refine XS.aloadN X0.here hx rfl (hb hby d_prog_51_13_0) rfl rfl ?_
    exact k
  obtain ⟨T2, X2, e2, st2⟩ := getF X0 hx hZ hown (host := "") (Or.inl (own_w hw 51 rfl)) Via.refl e0 F1 (g := (mkF m 1 #[.val (.ref a1)] [(.ref a1)])) rfl rfl (hb hby d_prog_51_13_1)
  have pre_3 : ∀ t, Sp p e below T2 (mkF m 4 #[.val (.ref a1)] [(.ref w2)]) t → Steps p.tables e below E0 t := fun t k => pre_1 t (st2 t k)
  obtain ⟨fs, hr, hrun, hended, hW, hsame⟩ := X2.leave (v := some (.ref w2)) (fun h => by rw [Bd.returns] at h; cases h)
  refine ⟨_, _, pre_3 _ ?_, hrun, hended, _, _, rfl, ?_, ⟨_, rfl⟩, hW, hsame.mono (by decide) (by decide)⟩
  · show Sp p e below T2 (mkF m 4 #[.val (.ref a1)] [(.ref w2)]) _
    exact retOut X2 hx (t := (.object cOC)) Bd.returns rfl (Or.inr (Or.inr (Or.inr (Or.inr ⟨rfl, rfl, rfl⟩)))) (hb hby d_prog_51_13_4) hr
  · show Q_otm Z _ _ h0 n0 _ T2.heap _
    rw [e2]
    exact ⟨rfl, N0, rfl⟩
theorem d_prog_51_8_0 : decode prog_51_method_8_code 0 = .ok (.aload_n 0, 1) := by decide +kernel
theorem d_prog_51_8_1 : decode prog_51_method_8_code 1 = .ok (.getfield 93, 3) := by decide +kernel
theorem d_prog_51_8_4 : decode prog_51_method_8_code 4 = .ok (.ireturn, 1) := by decide +kernel
theorem pn_atm0 : plainName cQC = true := by first | (simp [plainName, overriddenIn]; done) | decide +kernel
theorem ef_atm0 (m : MethodId) (a1 : Addr) : entryFrame m #[(.ref a1)] 1 = (mkF m 0 #[.val (.ref a1)] []) := by first | (simp [entryFrame, mkF, argsToLocals, Value.category]; done) | rfl
def Q_atm0 (Z : State) (a1 : Addr)  (h0 : Heap) (n0 : Nat) (v : Option Value) (h : Heap) (L : List Loc) : Prop := v = some (.int (0 : Int32)) ∧ Fr n0 L ∧ h = h0
set_option maxRecDepth 65536 in
set_option maxHeartbeats 40000000 in
theorem rm_atm0 (l : Launch) (Z : State) (a0 : Array Value) (hw : ∀ d ∈ tables_1, d.before a0 Z = true) (ws : List Jvm.Cond) (a1 : Addr)  (h0 : Heap) (n0 : Nat) (O0 : Old Z n0 h0) (F1 : Fld Z h0 a1 cQC "atAnEnd" "Z" (.int (0 : Int32))) :
    MetFree l (⟨cQC, "atAnEnd", "()Z"⟩ : MethodName) (head1 (Jvm.Cond.code (⟨cQC, "atAnEnd", "()Z"⟩ : MethodName) prog_51_method_8_code 1 (some .boolean) :: ws) ({ frames := 0, cells := 0, slots := 0, locals := 0 } : Room)) (fun a U => a = #[(.ref a1)] ∧ Z.Warmed39 U.vm ∧ U.heap = h0) (fun _ _ _ _ _ => True) (fun _ U o U' => ∃ v L, o = .returned v ∧ Q_atm0 Z a1  h0 n0 v U'.heap L ∧ FrameEnd U o U' L ({ frames := 0, cells := 0, slots := 0, locals := 0 } : Room).cells ({ frames := 0, cells := 0, slots := 0, locals := 0 } : Room).slots) := by
  refine MetFree.of_bodySF (plainFor_of_name pn_atm0) hisR ?_
  intro p e s m args below meth c s₁ Bd hml0 hP hK
  obtain ⟨rfl, hZ, hh⟩ := hP
  have hx := Bd.exec
  have hby := Bd.bytes
  have hml : c.maxLocals = 1 := hml0
  have hown : s.vm.findClass cQC = some m.cls := findClass_of_methodNamed Bd.named
  have hnm := (name_of_methodNamed Bd.named Bd.method).1
  have X0 : Stand p l e ({ frames := 0, cells := 0, slots := 0, locals := 0 } : Room) s m #[(.ref a1)] below meth c s₁ [] 0 0 := Stand.of_body Bd
  have e0 : s₁.heap = h0 := by rw [← hh, Bd.state]; rfl
  have N0 := Fr.nil n0
  have pre0 : ∀ t, Steps p.tables e below (s₁.setTop (mkF m 0 #[.val (.ref a1)] [])) t → Steps p.tables e below (s₁.setTop (entryFrame m #[(.ref a1)] 1)) t := fun t k => castTop (ef_atm0 m a1) k
  generalize s₁.setTop (entryFrame m #[(.ref a1)] 1) = E0 at pre0 ⊢
  have pre_1 : ∀ t, Sp p e below s₁ (mkF m 1 #[.val (.ref a1)] [(.ref a1)]) t → Steps p.tables e below E0 t := by
    intro t k
    refine pre0 t ?_
    show Sp p e below s₁ (mkF m 0 #[.val (.ref a1)] []) _
    refine XS.aloadN X0.here hx rfl (hb hby d_prog_51_8_0) rfl rfl ?_
    exact k
  obtain ⟨T2, X2, e2, st2⟩ := getF X0 hx hZ hown (host := "") (Or.inl (own_w hw 62 rfl)) Via.refl e0 F1 (g := (mkF m 1 #[.val (.ref a1)] [(.ref a1)])) rfl rfl (hb hby d_prog_51_8_1)
  have pre_3 : ∀ t, Sp p e below T2 (mkF m 4 #[.val (.ref a1)] [(.int (0 : Int32))]) t → Steps p.tables e below E0 t := fun t k => pre_1 t (st2 t k)
  obtain ⟨fs, hr, hrun, hended, hW, hsame⟩ := X2.leave (v := some (.int (0 : Int32))) (fun h => by rw [Bd.returns] at h; cases h)
  refine ⟨_, _, pre_3 _ ?_, hrun, hended, _, _, rfl, ?_, ⟨_, rfl⟩, hW, hsame.mono (by decide) (by decide)⟩
  · show Sp p e below T2 (mkF m 4 #[.val (.ref a1)] [(.int (0 : Int32))]) _
    exact retN X2 hx (t := .boolean) Bd.returns (by simp) (hb hby d_prog_51_8_4) hr
  · show Q_atm0 Z _ h0 n0 _ T2.heap _
    rw [e2]
    exact ⟨rfl, N0, rfl⟩
theorem pn_atm1 : plainName cQC = true := by first | (simp [plainName, overriddenIn]; done) | decide +kernel
theorem ef_atm1 (m : MethodId) (a1 : Addr) : entryFrame m #[(.ref a1)] 1 = (mkF m 0 #[.val (.ref a1)] []) := by first | (simp [entryFrame, mkF, argsToLocals, Value.category]; done) | rfl
def Q_atm1 (Z : State) (a1 : Addr)  (h0 : Heap) (n0 : Nat) (v : Option Value) (h : Heap) (L : List Loc) : Prop := v = some (.int (1 : Int32)) ∧ Fr n0 L ∧ h = h0
set_option maxRecDepth 65536 in
set_option maxHeartbeats 40000000 in
theorem rm_atm1 (l : Launch) (Z : State) (a0 : Array Value) (hw : ∀ d ∈ tables_1, d.before a0 Z = true) (ws : List Jvm.Cond) (a1 : Addr)  (h0 : Heap) (n0 : Nat) (O0 : Old Z n0 h0) (F1 : Fld Z h0 a1 cQC "atAnEnd" "Z" (.int (1 : Int32))) :
    MetFree l (⟨cQC, "atAnEnd", "()Z"⟩ : MethodName) (head1 (Jvm.Cond.code (⟨cQC, "atAnEnd", "()Z"⟩ : MethodName) prog_51_method_8_code 1 (some .boolean) :: ws) ({ frames := 0, cells := 0, slots := 0, locals := 0 } : Room)) (fun a U => a = #[(.ref a1)] ∧ Z.Warmed39 U.vm ∧ U.heap = h0) (fun _ _ _ _ _ => True) (fun _ U o U' => ∃ v L, o = .returned v ∧ Q_atm1 Z a1  h0 n0 v U'.heap L ∧ FrameEnd U o U' L ({ frames := 0, cells := 0, slots := 0, locals := 0 } : Room).cells ({ frames := 0, cells := 0, slots := 0, locals := 0 } : Room).slots) := by
  refine MetFree.of_bodySF (plainFor_of_name pn_atm1) hisR ?_
  intro p e s m args below meth c s₁ Bd hml0 hP hK
  obtain ⟨rfl, hZ, hh⟩ := hP
  have hx := Bd.exec
  have hby := Bd.bytes
  have hml : c.maxLocals = 1 := hml0
  have hown : s.vm.findClass cQC = some m.cls := findClass_of_methodNamed Bd.named
  have hnm := (name_of_methodNamed Bd.named Bd.method).1
  have X0 : Stand p l e ({ frames := 0, cells := 0, slots := 0, locals := 0 } : Room) s m #[(.ref a1)] below meth c s₁ [] 0 0 := Stand.of_body Bd
  have e0 : s₁.heap = h0 := by rw [← hh, Bd.state]; rfl
  have N0 := Fr.nil n0
  have pre0 : ∀ t, Steps p.tables e below (s₁.setTop (mkF m 0 #[.val (.ref a1)] [])) t → Steps p.tables e below (s₁.setTop (entryFrame m #[(.ref a1)] 1)) t := fun t k => castTop (ef_atm1 m a1) k
  generalize s₁.setTop (entryFrame m #[(.ref a1)] 1) = E0 at pre0 ⊢
  have pre_1 : ∀ t, Sp p e below s₁ (mkF m 1 #[.val (.ref a1)] [(.ref a1)]) t → Steps p.tables e below E0 t := by
    intro t k
    refine pre0 t ?_
    show Sp p e below s₁ (mkF m 0 #[.val (.ref a1)] []) _
    refine XS.aloadN X0.here hx rfl (hb hby d_prog_51_8_0) rfl rfl ?_
    exact k
  obtain ⟨T2, X2, e2, st2⟩ := getF X0 hx hZ hown (host := "") (Or.inl (own_w hw 62 rfl)) Via.refl e0 F1 (g := (mkF m 1 #[.val (.ref a1)] [(.ref a1)])) rfl rfl (hb hby d_prog_51_8_1)
  have pre_3 : ∀ t, Sp p e below T2 (mkF m 4 #[.val (.ref a1)] [(.int (1 : Int32))]) t → Steps p.tables e below E0 t := fun t k => pre_1 t (st2 t k)
  obtain ⟨fs, hr, hrun, hended, hW, hsame⟩ := X2.leave (v := some (.int (1 : Int32))) (fun h => by rw [Bd.returns] at h; cases h)
  refine ⟨_, _, pre_3 _ ?_, hrun, hended, _, _, rfl, ?_, ⟨_, rfl⟩, hW, hsame.mono (by decide) (by decide)⟩
  · show Sp p e below T2 (mkF m 4 #[.val (.ref a1)] [(.int (1 : Int32))]) _
    exact retN X2 hx (t := .boolean) Bd.returns (by simp) (hb hby d_prog_51_8_4) hr
  · show Q_atm1 Z _ h0 n0 _ T2.heap _
    rw [e2]
    exact ⟨rfl, N0, rfl⟩
theorem d_jdk_37_2_0 : decode jdk_37_method_2_code 0 = .ok (.aload_n 0, 1) := by decide +kernel
theorem d_jdk_37_2_1 : decode jdk_37_method_2_code 1 = .ok (.getfield 7, 3) := by decide +kernel
theorem d_jdk_37_2_4 : decode jdk_37_method_2_code 4 = .ok (.ireturn, 1) := by decide +kernel
theorem pn_ord : plainName cEN = true := by first | (simp [plainName, overriddenIn]; done) | decide +kernel
theorem ef_ord (m : MethodId) (a1 : Addr) : entryFrame m #[(.ref a1)] 1 = (mkF m 0 #[.val (.ref a1)] []) := by first | (simp [entryFrame, mkF, argsToLocals, Value.category]; done) | rfl
def Q_ord (Z : State) (a1 : Addr) (w2 : Int32) (h0 : Heap) (n0 : Nat) (v : Option Value) (h : Heap) (L : List Loc) : Prop := v = some (.int w2) ∧ Fr n0 L ∧ h = h0
set_option maxRecDepth 65536 in
set_option maxHeartbeats 40000000 in
theorem rm_ord (l : Launch) (Z : State) (a0 : Array Value) (hw : ∀ d ∈ tables_1, d.before a0 Z = true) (ws : List Jvm.Cond) (a1 : Addr) (w2 : Int32) (h0 : Heap) (n0 : Nat) (O0 : Old Z n0 h0) (F1 : Fld Z h0 a1 cEN "ordinal" "I" (.int w2)) :
    MetFree l (⟨cEN, "ordinal", "()I"⟩ : MethodName) (head1 (Jvm.Cond.code (⟨cEN, "ordinal", "()I"⟩ : MethodName) jdk_37_method_2_code 1 (some .int) :: ws) ({ frames := 0, cells := 0, slots := 0, locals := 0 } : Room)) (fun a U => a = #[(.ref a1)] ∧ Z.Warmed39 U.vm ∧ U.heap = h0) (fun _ _ _ _ _ => True) (fun _ U o U' => ∃ v L, o = .returned v ∧ Q_ord Z a1 w2 h0 n0 v U'.heap L ∧ FrameEnd U o U' L ({ frames := 0, cells := 0, slots := 0, locals := 0 } : Room).cells ({ frames := 0, cells := 0, slots := 0, locals := 0 } : Room).slots) := by
  refine MetFree.of_bodySF (plainFor_of_name pn_ord) hisR ?_
  intro p e s m args below meth c s₁ Bd hml0 hP hK
  obtain ⟨rfl, hZ, hh⟩ := hP
  have hx := Bd.exec
  have hby := Bd.bytes
  have hml : c.maxLocals = 1 := hml0
  have hown : s.vm.findClass cEN = some m.cls := findClass_of_methodNamed Bd.named
  have hnm := (name_of_methodNamed Bd.named Bd.method).1
  have X0 : Stand p l e ({ frames := 0, cells := 0, slots := 0, locals := 0 } : Room) s m #[(.ref a1)] below meth c s₁ [] 0 0 := Stand.of_body Bd
  have e0 : s₁.heap = h0 := by rw [← hh, Bd.state]; rfl
  have N0 := Fr.nil n0
  have pre0 : ∀ t, Steps p.tables e below (s₁.setTop (mkF m 0 #[.val (.ref a1)] [])) t → Steps p.tables e below (s₁.setTop (entryFrame m #[(.ref a1)] 1)) t := fun t k => castTop (ef_ord m a1) k
  generalize s₁.setTop (entryFrame m #[(.ref a1)] 1) = E0 at pre0 ⊢
  have pre_1 : ∀ t, Sp p e below s₁ (mkF m 1 #[.val (.ref a1)] [(.ref a1)]) t → Steps p.tables e below E0 t := by
    intro t k
    refine pre0 t ?_
    show Sp p e below s₁ (mkF m 0 #[.val (.ref a1)] []) _
    refine XS.aloadN X0.here hx rfl (hb hby d_jdk_37_2_0) rfl rfl ?_
    exact k
  obtain ⟨T2, X2, e2, st2⟩ := getF X0 hx hZ hown (host := "") (Or.inl (own_w hw 75 rfl)) Via.refl e0 F1 (g := (mkF m 1 #[.val (.ref a1)] [(.ref a1)])) rfl rfl (hb hby d_jdk_37_2_1)
  have pre_3 : ∀ t, Sp p e below T2 (mkF m 4 #[.val (.ref a1)] [(.int w2)]) t → Steps p.tables e below E0 t := fun t k => pre_1 t (st2 t k)
  obtain ⟨fs, hr, hrun, hended, hW, hsame⟩ := X2.leave (v := some (.int w2)) (fun h => by rw [Bd.returns] at h; cases h)
  refine ⟨_, _, pre_3 _ ?_, hrun, hended, _, _, rfl, ?_, ⟨_, rfl⟩, hW, hsame.mono (by decide) (by decide)⟩
  · show Sp p e below T2 (mkF m 4 #[.val (.ref a1)] [(.int w2)]) _
    exact retI X2 hx Bd.returns (hb hby d_jdk_37_2_4) hr
  · show Q_ord Z _ _ h0 n0 _ T2.heap _
    rw [e2]
    exact ⟨rfl, N0, rfl⟩
theorem d_jdk_31_10_0 : decode jdk_31_method_10_code 0 = .ok (.aload_n 0, 1) := by decide +kernel
theorem d_jdk_31_10_1 : decode jdk_31_method_10_code 1 = .ok (.ifnonnull 11, 3) := by decide +kernel
theorem d_jdk_31_10_12 : decode jdk_31_method_10_code 12 = .ok (.aload_n 0, 1) := by decide +kernel
theorem d_jdk_31_10_13 : decode jdk_31_method_10_code 13 = .ok (.areturn, 1) := by decide +kernel
theorem pn_rnn : plainName "java/util/Objects" = true := by first | (simp [plainName, overriddenIn]; done) | decide +kernel
theorem ef_rnn (m : MethodId) (a1 : Addr) : entryFrame m #[(.ref a1)] 1 = (mkF m 0 #[.val (.ref a1)] []) := by first | (simp [entryFrame, mkF, argsToLocals, Value.category]; done) | rfl
def Q_rnn (Z : State) (a1 : Addr)  (h0 : Heap) (n0 : Nat) (v : Option Value) (h : Heap) (L : List Loc) : Prop := v = some (.ref a1) ∧ Fr n0 L ∧ h = h0
set_option maxRecDepth 65536 in
set_option maxHeartbeats 40000000 in
theorem rm_rnn (l : Launch) (Z : State) (a0 : Array Value) (hw : ∀ d ∈ tables_1, d.before a0 Z = true) (ws : List Jvm.Cond) (a1 : Addr)  (h0 : Heap) (n0 : Nat) (O0 : Old Z n0 h0)  :
    MetFree l (⟨"java/util/Objects", "requireNonNull", "(Ljava/lang/Object;)Ljava/lang/Object;"⟩ : MethodName) (head1 (Jvm.Cond.code (⟨"java/util/Objects", "requireNonNull", "(Ljava/lang/Object;)Ljava/lang/Object;"⟩ : MethodName) jdk_31_method_10_code 1 (some (.object "java/lang/Object")) :: ws) ({ frames := 0, cells := 0, slots := 0, locals := 0 } : Room)) (fun a U => a = #[(.ref a1)] ∧ Z.Warmed39 U.vm ∧ U.heap = h0) (fun _ _ _ _ _ => True) (fun _ U o U' => ∃ v L, o = .returned v ∧ Q_rnn Z a1  h0 n0 v U'.heap L ∧ FrameEnd U o U' L ({ frames := 0, cells := 0, slots := 0, locals := 0 } : Room).cells ({ frames := 0, cells := 0, slots := 0, locals := 0 } : Room).slots) := by
  refine MetFree.of_bodySF (plainFor_of_name pn_rnn) hisR ?_
  intro p e s m args below meth c s₁ Bd hml0 hP hK
  obtain ⟨rfl, hZ, hh⟩ := hP
  have hx := Bd.exec
  have hby := Bd.bytes
  have hml : c.maxLocals = 1 := hml0
  have hown : s.vm.findClass "java/util/Objects" = some m.cls := findClass_of_methodNamed Bd.named
  have hnm := (name_of_methodNamed Bd.named Bd.method).1
  have X0 : Stand p l e ({ frames := 0, cells := 0, slots := 0, locals := 0 } : Room) s m #[(.ref a1)] below meth c s₁ [] 0 0 := Stand.of_body Bd
  have e0 : s₁.heap = h0 := by rw [← hh, Bd.state]; rfl
  have N0 := Fr.nil n0
  have pre0 : ∀ t, Steps p.tables e below (s₁.setTop (mkF m 0 #[.val (.ref a1)] [])) t → Steps p.tables e below (s₁.setTop (entryFrame m #[(.ref a1)] 1)) t := fun t k => castTop (ef_rnn m a1) k
  generalize s₁.setTop (entryFrame m #[(.ref a1)] 1) = E0 at pre0 ⊢
  have pre_1 : ∀ t, Sp p e below s₁ (mkF m 13 #[.val (.ref a1)] [(.ref a1)]) t → Steps p.tables e below E0 t := by
    intro t k
    refine pre0 t ?_
    show Sp p e below s₁ (mkF m 0 #[.val (.ref a1)] []) _
    refine XS.aloadN X0.here hx rfl (hb hby d_jdk_31_10_0) rfl rfl ?_
    refine XT.ifnonnullYes X0.here hx rfl (pc0 := 1) (pc' := 12) rfl (hb hby d_jdk_31_10_1) rfl (by decide) (by decide) ?_
    refine XS.aloadN X0.here hx rfl (hb hby d_jdk_31_10_12) rfl rfl ?_
    exact k
  obtain ⟨fs, hr, hrun, hended, hW, hsame⟩ := X0.leave (v := some (.ref a1)) (fun h => by rw [Bd.returns] at h; cases h)
  refine ⟨_, _, pre_1 _ ?_, hrun, hended, _, _, rfl, ?_, ⟨_, rfl⟩, hW, hsame.mono (by decide) (by decide)⟩
  · show Sp p e below s₁ (mkF m 13 #[.val (.ref a1)] [(.ref a1)]) _
    exact retOut X0 hx (t := (.object "java/lang/Object")) Bd.returns rfl (Or.inr (Or.inr (Or.inr (Or.inr ⟨rfl, rfl, rfl⟩)))) (hb hby d_jdk_31_10_13) hr
  · show Q_rnn Z _ h0 n0 _ s₁.heap _
    rw [e0]
    exact ⟨rfl, N0, rfl⟩
theorem d_jdk_32_2_0 : decode jdk_32_method_2_code 0 = .ok (.aload_n 0, 1) := by decide +kernel
theorem d_jdk_32_2_1 : decode jdk_32_method_2_code 1 = .ok (.invokespecial 7, 3) := by decide +kernel
theorem d_jdk_32_2_4 : decode jdk_32_method_2_code 4 = .ok (.aload_n 0, 1) := by decide +kernel
theorem d_jdk_32_2_5 : decode jdk_32_method_2_code 5 = .ok (.aload_n 1, 1) := by decide +kernel
theorem d_jdk_32_2_6 : decode jdk_32_method_2_code 6 = .ok (.putfield 13, 3) := by decide +kernel
theorem d_jdk_32_2_9 : decode jdk_32_method_2_code 9 = .ok (.return_, 1) := by decide +kernel
theorem pn_opi : plainName cOP = true := by first | (simp [plainName, overriddenIn]; done) | decide +kernel
theorem ef_opi (m : MethodId) (a1 : Addr) (a2 : Addr) : entryFrame m #[(.ref a1), (.ref a2)] 2 = (mkF m 0 #[.val (.ref a1), .val (.ref a2)] []) := by first | (simp [entryFrame, mkF, argsToLocals, Value.category]; done) | rfl
def Q_opi (Z : State) (a1 : Addr) (a2 : Addr) (u1 : Value) (h0 : Heap) (n0 : Nat) (v : Option Value) (h : Heap) (L : List Loc) : Prop := v = none ∧ Fr n0 L ∧ Keep h0 h [a1] ∧ Fld Z h a1 cOP "value" lOB (.ref a2)
set_option maxRecDepth 65536 in
set_option maxHeartbeats 40000000 in
theorem rm_opi (l : Launch) (Z : State) (a0 : Array Value) (hw : ∀ d ∈ tables_1, d.before a0 Z = true) (ws : List Jvm.Cond) (a1 : Addr) (a2 : Addr) (u1 : Value) (h0 : Heap) (n0 : Nat) (O0 : Old Z n0 h0) (E1 : Exa Z h0 a1 cOP) (F1 : Fld Z h0 a1 cOP "value" lOB u1) (g1 : n0 ≤ a1) :
    MetFree l (⟨cOP, "<init>", "(Ljava/lang/Object;)V"⟩ : MethodName) (head1 (Jvm.Cond.code (⟨cOP, "<init>", "(Ljava/lang/Object;)V"⟩ : MethodName) jdk_32_method_2_code 2 none :: ws) ({ frames := 1, cells := 0, slots := 0, locals := 12 } : Room)) (fun a U => a = #[(.ref a1), (.ref a2)] ∧ Z.Warmed39 U.vm ∧ U.heap = h0) (fun _ _ _ _ _ => True) (fun _ U o U' => ∃ v L, o = .returned v ∧ Q_opi Z a1 a2 u1 h0 n0 v U'.heap L ∧ FrameEnd U o U' L ({ frames := 1, cells := 0, slots := 0, locals := 12 } : Room).cells ({ frames := 1, cells := 0, slots := 0, locals := 12 } : Room).slots) := by
  refine MetFree.of_bodySF (plainFor_of_name pn_opi) hisR ?_
  intro p e s m args below meth c s₁ Bd hml0 hP hK
  obtain ⟨rfl, hZ, hh⟩ := hP
  have hx := Bd.exec
  have hby := Bd.bytes
  have hml : c.maxLocals = 2 := hml0
  have hown : s.vm.findClass cOP = some m.cls := findClass_of_methodNamed Bd.named
  have hnm := (name_of_methodNamed Bd.named Bd.method).1
  have X0 : Stand p l e ({ frames := 1, cells := 0, slots := 0, locals := 12 } : Room) s m #[(.ref a1), (.ref a2)] below meth c s₁ [] 0 0 := Stand.of_body Bd
  have e0 : s₁.heap = h0 := by rw [← hh, Bd.state]; rfl
  have N0 := Fr.nil n0
  have pre0 : ∀ t, Steps p.tables e below (s₁.setTop (mkF m 0 #[.val (.ref a1), .val (.ref a2)] [])) t → Steps p.tables e below (s₁.setTop (entryFrame m #[(.ref a1), (.ref a2)] 2)) t := fun t k => castTop (ef_opi m a1 a2) k
  generalize s₁.setTop (entryFrame m #[(.ref a1), (.ref a2)] 2) = E0 at pre0 ⊢
  have pre_1 : ∀ t, Sp p e below s₁ (mkF m 1 #[.val (.ref a1), .val (.ref a2)] [(.ref a1)]) t → Steps p.tables e below E0 t := by
    intro t k
    refine pre0 t ?_
    show Sp p e below s₁ (mkF m 0 #[.val (.ref a1), .val (.ref a2)] []) _
    refine XS.aloadN X0.here hx rfl (hb hby d_jdk_32_2_0) rfl rfl ?_
    exact k
  obtain ⟨T2, X2, e2, st2⟩ := initO X0 hx hZ hown (own_w hw 149 rfl) (own_w hw 37 rfl) (own_w hw 38 rfl) e0 (g := (mkF m 1 #[.val (.ref a1), .val (.ref a2)] [(.ref a1)])) rfl (by rw [hml]; rfl) rfl (hb hby d_jdk_32_2_1) (by decide) (W := 0) (by show 2 * 0 + _ ≤ _; exact Nat.le_of_eq rfl) (by decide)
  have pre_3 : ∀ t, Sp p e below T2 (mkF m 4 #[.val (.ref a1), .val (.ref a2)] []) t → Steps p.tables e below E0 t := fun t k => pre_1 t (st2 t k)
  have pre_4 : ∀ t, Sp p e below T2 (mkF m 6 #[.val (.ref a1), .val (.ref a2)] [(.ref a2), (.ref a1)]) t → Steps p.tables e below E0 t := by
    intro t k
    refine pre_3 t ?_
    show Sp p e below T2 (mkF m 4 #[.val (.ref a1), .val (.ref a2)] []) _
    refine XS.aloadN X2.here hx rfl (hb hby d_jdk_32_2_4) rfl rfl ?_
    refine XS.aloadN X2.here hx rfl (hb hby d_jdk_32_2_5) rfl rfl ?_
    exact k
  obtain ⟨T5, h5, X5, e5, W5, st5⟩ := putF X2 hx hZ hown (host := "") (Or.inl (own_w hw 150 rfl)) Via.refl e2 F1 E1 (Or.inr ⟨(own_w hw 151 rfl), rfl, hnm⟩) (own_w hw 140 rfl) (ty := (.object "java/lang/Object")) (by decide) rfl rfl (g := (mkF m 6 #[.val (.ref a1), .val (.ref a2)] [(.ref a2), (.ref a1)])) rfl rfl (hb hby d_jdk_32_2_6)
  have Fw5 := F1.same W5
  have N5 := Fr.snoc X5 N0 g1
  have O5 : Old Z n0 h5 := O0.wr W5 g1
  have pre_6 : ∀ t, Sp p e below T5 (mkF m 9 #[.val (.ref a1), .val (.ref a2)] []) t → Steps p.tables e below E0 t := fun t k => pre_4 t (st5 t k)
  obtain ⟨fs, hr, hrun, hended, hW, hsame⟩ := X5.leave (v := none) (fun _ => rfl)
  refine ⟨_, _, pre_6 _ ?_, hrun, hended, _, _, rfl, ?_, ⟨_, rfl⟩, hW, hsame.mono (by decide) (by decide)⟩
  · show Sp p e below T5 (mkF m 9 #[.val (.ref a1), .val (.ref a2)] []) _
    exact X5.returnOut hx Bd.returns (hb hby d_jdk_32_2_9) hr
  · show Q_opi Z _ _ _ h0 n0 _ T5.heap _
    rw [e5]
    exact ⟨rfl, N5, ((Keep.refl h0 [a1]).wr W5 (Or.inl (List.mem_of_getElem? (i := 0) rfl))), Fw5⟩
theorem d_jdk_32_3_0 : decode jdk_32_method_3_code 0 = .ok (.new 2, 3) := by decide +kernel
theorem d_jdk_32_3_3 : decode jdk_32_method_3_code 3 = .ok (.dup, 1) := by decide +kernel
theorem d_jdk_32_3_4 : decode jdk_32_method_3_code 4 = .ok (.aload_n 0, 1) := by decide +kernel
theorem d_jdk_32_3_5 : decode jdk_32_method_3_code 5 = .ok (.invokestatic 17, 3) := by decide +kernel
theorem d_jdk_32_3_8 : decode jdk_32_method_3_code 8 = .ok (.invokespecial 23, 3) := by decide +kernel
theorem d_jdk_32_3_11 : decode jdk_32_method_3_code 11 = .ok (.areturn, 1) := by decide +kernel
theorem pn_oof : plainName cOP = true := by first | (simp [plainName, overriddenIn]; done) | decide +kernel
theorem pd_oof_0 : parseMethodDescriptor "(Ljava/lang/Object;)Ljava/lang/Object;" = some ⟨[(.object "java/lang/Object")], some (.object "java/lang/Object")⟩ := by decide +kernel
theorem pd_oof_1 : parseMethodDescriptor "(Ljava/lang/Object;)V" = some ⟨[(.object "java/lang/Object")], none⟩ := by decide +kernel
theorem ef_oof (m : MethodId) (a1 : Addr) : entryFrame m #[(.ref a1)] 1 = (mkF m 0 #[.val (.ref a1)] []) := by first | (simp [entryFrame, mkF, argsToLocals, Value.category]; done) | rfl
def Q_oof (Z : State) (a1 : Addr)  (h0 : Heap) (n0 : Nat) (v : Option Value) (h : Heap) (L : List Loc) : Prop := ∃ b, v = some (.ref b) ∧ Fr n0 L ∧ Keep h0 h [] ∧ h0.size ≤ b ∧ Exa Z h b cOP ∧ Fld Z h b cOP "value" lOB (.ref a1)
set_option maxRecDepth 65536 in
set_option maxHeartbeats 40000000 in
theorem rm_oof (l : Launch) (Z : State) (a0 : Array Value) (hw : ∀ d ∈ tables_1, d.before a0 Z = true) (ws : List Jvm.Cond) (a1 : Addr)  (h0 : Heap) (n0 : Nat) (O0 : Old Z n0 h0)  :
    MetFree l (⟨cOP, "of", "(Ljava/lang/Object;)Ljava/util/Optional;"⟩ : MethodName) (head1 (Jvm.Cond.code (⟨cOP, "of", "(Ljava/lang/Object;)Ljava/util/Optional;"⟩ : MethodName) jdk_32_method_3_code 1 (some (.object cOP)) :: ws) ({ frames := 2, cells := 1, slots := 1, locals := 26 } : Room)) (fun a U => a = #[(.ref a1)] ∧ Z.Warmed39 U.vm ∧ U.heap = h0) (fun _ _ _ _ _ => True) (fun _ U o U' => ∃ v L, o = .returned v ∧ Q_oof Z a1  h0 n0 v U'.heap L ∧ FrameEnd U o U' L ({ frames := 2, cells := 1, slots := 1, locals := 26 } : Room).cells ({ frames := 2, cells := 1, slots := 1, locals := 26 } : Room).slots) := by
  refine MetFree.of_bodySF (plainFor_of_name pn_oof) hisR ?_
  intro p e s m args below meth c s₁ Bd hml0 hP hK
  obtain ⟨rfl, hZ, hh⟩ := hP
  have hx := Bd.exec
  have hby := Bd.bytes
  have hml : c.maxLocals = 1 := hml0
  have hown : s.vm.findClass cOP = some m.cls := findClass_of_methodNamed Bd.named
  have hnm := (name_of_methodNamed Bd.named Bd.method).1
  have X0 : Stand p l e ({ frames := 2, cells := 1, slots := 1, locals := 26 } : Room) s m #[(.ref a1)] below meth c s₁ [] 0 0 := Stand.of_body Bd
  have e0 : s₁.heap = h0 := by rw [← hh, Bd.state]; rfl
  have N0 := Fr.nil n0
  have pre0 : ∀ t, Steps p.tables e below (s₁.setTop (mkF m 0 #[.val (.ref a1)] [])) t → Steps p.tables e below (s₁.setTop (entryFrame m #[(.ref a1)] 1)) t := fun t k => castTop (ef_oof m a1) k
  generalize s₁.setTop (entryFrame m #[(.ref a1)] 1) = E0 at pre0 ⊢
  obtain ⟨T1, h1, X1, e1, E1, A1, D1, -, st1⟩ := newO X0 hx hZ hown (own_w hw 139 rfl) (own_w hw 140 rfl) (own_w hw 137 rfl) e0 (g := (mkF m 0 #[.val (.ref a1)] [])) rfl (hb hby d_jdk_32_3_0) (by decide) (by decide)
  obtain ⟨b1, g1⟩ : ∃ z, z = h0.size := ⟨_, rfl⟩
  rw [← g1] at A1 D1 st1
  have O1 : Old Z n0 h1 := O0.ext E1
  have F2 : Fld Z h1 b1 cOP "value" lOB .null := D1 (Or.inr (own_w hw 151 rfl)) (ty := (.object "java/lang/Object")) (by decide)
  have pre_3 : ∀ t, Sp p e below T1 (mkF m 3 #[.val (.ref a1)] [(.ref b1)]) t → Steps p.tables e below E0 t := fun t k => pre0 t (st1 t k)
  have pre_4 : ∀ t, Sp p e below T1 (mkF m 5 #[.val (.ref a1)] [(.ref a1), (.ref b1), (.ref b1)]) t → Steps p.tables e below E0 t := by
    intro t k
    refine pre_3 t ?_
    show Sp p e below T1 (mkF m 3 #[.val (.ref a1)] [(.ref b1)]) _
    refine XS.dup X1.here hx rfl (hb hby d_jdk_32_3_3) rfl rfl ?_
    refine XS.aloadN X1.here hx rfl (hb hby d_jdk_32_3_4) rfl rfl ?_
    exact k
  obtain ⟨_, _, ⟨T5, L5, k5, n5⟩, -, X5, ⟨Lc5, hQ5, l5, y5, z5⟩, st5⟩ := Jvm.LawKit.callS X1 hx (y := (⟨"java/util/Objects", "requireNonNull", "(Ljava/lang/Object;)Ljava/lang/Object;"⟩ : MethodName)) hown (mvT hZ (own_w hw 141 rfl)) (mvT hZ (own_w hw 142 rfl)) (mvT hZ (own_w hw 143 rfl)) (mvT hZ (own_w hw 144 rfl)) (by decide) (backOf (W := 2) (rm_rnn l Z a0 hw [] a1 h1 n0 O1) hZ (own_w hw 144 rfl) (own_w hw 143 rfl) (by decide) (by decide)) (g := (mkF m 5 #[.val (.ref a1)] [(.ref a1), (.ref b1), (.ref b1)])) rfl (by rw [hml]; rfl) (argsL := [(.ref a1)]) (rest := [(.ref b1), (.ref b1)]) (lenOf pd_oof_0 rfl) rfl (by show 2 * 0 + _ ≤ _; exact Nat.le_of_eq rfl) (hb hby d_jdk_32_3_5) (fun _ _ => ⟨rfl, e1, (by decide : 1 + 0 ≤ _), (by decide : 1 + 0 ≤ _)⟩)
  dsimp only [Pt.U, Pt.locs, Pt.cells, Pt.slots] at X5 l5 y5 z5 st5 hQ5
  subst l5 y5 z5
  obtain ⟨rfl, N5q, e5⟩ := hQ5
  have N5 := Fr.app N0 N5q
  have pre_6 : ∀ t, Sp p e below T5 (mkF m 8 #[.val (.ref a1)] [(.ref a1), (.ref b1), (.ref b1)]) t → Steps p.tables e below E0 t := fun t k => pre_4 t (st5 t k)
  obtain ⟨_, _, ⟨T7, L7, k7, n7⟩, -, X7, ⟨Lc7, hQ7, l7, y7, z7⟩, st7⟩ := X5.specialBack hx (y := (⟨cOP, "<init>", "(Ljava/lang/Object;)V"⟩ : MethodName)) rfl hown (mvT hZ (own_w hw 145 rfl)) (mvT hZ (own_w hw 146 rfl)) (mvT hZ (own_w hw 148 rfl)) (by decide) (backOf (W := 1) (rm_opi l Z a0 hw [] b1 a1 .null h1 n0 O1 A1 F2 (Nat.le_trans (own_le O0) (Nat.le_of_eq g1.symm))) hZ (own_w hw 148 rfl) (own_w hw 137 rfl) (by decide) (by decide)) (g := (mkF m 8 #[.val (.ref a1)] [(.ref a1), (.ref b1), (.ref b1)])) rfl (by rw [hml]; rfl) (Steps.refl _) (a := b1) (argsL := [(.ref a1)]) (rest := [(.ref b1)]) (lenOf pd_oof_1 rfl) rfl (by show 2 * 0 + _ ≤ _; exact Nat.le_of_eq rfl) (hb hby d_jdk_32_3_8) (fun _ _ => ⟨rfl, e5, (by decide : 1 + 0 ≤ _), (by decide : 1 + 0 ≤ _)⟩)
  dsimp only [Pt.U, Pt.locs, Pt.cells, Pt.slots] at X7 l7 y7 z7 st7 hQ7
  subst l7 y7 z7
  obtain ⟨rfl, N7q, K7, Fo7⟩ := hQ7
  have N7 := Fr.app N5 N7q
  have O7 : Old Z n0 T7.heap := O1.keep K7 (allS (Nat.le_trans (own_le O0) (Nat.le_of_eq g1.symm)) all0)
  have pre_8 : ∀ t, Sp p e below T7 (mkF m 11 #[.val (.ref a1)] [(.ref b1)]) t → Steps p.tables e below E0 t := fun t k => pre_6 t (st7.trans k)
  obtain ⟨fs, hr, hrun, hended, hW, hsame⟩ := X7.leave (v := some (.ref b1)) (fun h => by rw [Bd.returns] at h; cases h)
  refine ⟨_, _, pre_8 _ ?_, hrun, hended, _, _, rfl, ?_, ⟨_, rfl⟩, hW, hsame.mono (by decide) (by decide)⟩
  · show Sp p e below T7 (mkF m 11 #[.val (.ref a1)] [(.ref b1)]) _
    exact retOut X7 hx (t := (.object cOP)) Bd.returns rfl (Or.inr (Or.inr (Or.inr (Or.inr ⟨rfl, rfl, rfl⟩)))) (hb hby d_jdk_32_3_11) hr
  · show Q_oof Z _ h0 n0 _ T7.heap _
    exact ⟨b1, rfl, N7, (((Keep.refl h0 []).ext E1).trans K7 (allS (Or.inr (Nat.le_trans (Keep.refl h0 []).1 (Nat.le_of_eq g1.symm))) all0)), (Nat.le_trans (Keep.refl h0 []).1 (Nat.le_of_eq g1.symm)), (A1.keep K7), Fo7⟩
theorem d_jdk_32_7_0 : decode jdk_32_method_7_code 0 = .ok (.aload_n 0, 1) := by decide +kernel
theorem d_jdk_32_7_1 : decode jdk_32_method_7_code 1 = .ok (.getfield 13, 3) := by decide +kernel
theorem d_jdk_32_7_4 : decode jdk_32_method_7_code 4 = .ok (.ifnonnull 7, 3) := by decide +kernel
theorem d_jdk_32_7_11 : decode jdk_32_method_7_code 11 = .ok (.iconst 0, 1) := by decide +kernel
theorem d_jdk_32_7_12 : decode jdk_32_method_7_code 12 = .ok (.ireturn, 1) := by decide +kernel
theorem pn_oem : plainName cOP = true := by first | (simp [plainName, overriddenIn]; done) | decide +kernel
theorem ef_oem (m : MethodId) (a1 : Addr) : entryFrame m #[(.ref a1)] 1 = (mkF m 0 #[.val (.ref a1)] []) := by first | (simp [entryFrame, mkF, argsToLocals, Value.category]; done) | rfl
def Q_oem (Z : State) (a1 : Addr) (w2 : Addr) (h0 : Heap) (n0 : Nat) (v : Option Value) (h : Heap) (L : List Loc) : Prop := v = some (.int (0 : Int32)) ∧ Fr n0 L ∧ h = h0
set_option maxRecDepth 65536 in
set_option maxHeartbeats 40000000 in
theorem rm_oem (l : Launch) (Z : State) (a0 : Array Value) (hw : ∀ d ∈ tables_1, d.before a0 Z = true) (ws : List Jvm.Cond) (a1 : Addr) (w2 : Addr) (h0 : Heap) (n0 : Nat) (O0 : Old Z n0 h0) (F1 : Fld Z h0 a1 cOP "value" lOB (.ref w2)) :
    MetFree l (⟨cOP, "isEmpty", "()Z"⟩ : MethodName) (head1 (Jvm.Cond.code (⟨cOP, "isEmpty", "()Z"⟩ : MethodName) jdk_32_method_7_code 1 (some .boolean) :: ws) ({ frames := 0, cells := 0, slots := 0, locals := 0 } : Room)) (fun a U => a = #[(.ref a1)] ∧ Z.Warmed39 U.vm ∧ U.heap = h0) (fun _ _ _ _ _ => True) (fun _ U o U' => ∃ v L, o = .returned v ∧ Q_oem Z a1 w2 h0 n0 v U'.heap L ∧ FrameEnd U o U' L ({ frames := 0, cells := 0, slots := 0, locals := 0 } : Room).cells ({ frames := 0, cells := 0, slots := 0, locals := 0 } : Room).slots) := by
  refine MetFree.of_bodySF (plainFor_of_name pn_oem) hisR ?_
  intro p e s m args below meth c s₁ Bd hml0 hP hK
  obtain ⟨rfl, hZ, hh⟩ := hP
  have hx := Bd.exec
  have hby := Bd.bytes
  have hml : c.maxLocals = 1 := hml0
  have hown : s.vm.findClass cOP = some m.cls := findClass_of_methodNamed Bd.named
  have hnm := (name_of_methodNamed Bd.named Bd.method).1
  have X0 : Stand p l e ({ frames := 0, cells := 0, slots := 0, locals := 0 } : Room) s m #[(.ref a1)] below meth c s₁ [] 0 0 := Stand.of_body Bd
  have e0 : s₁.heap = h0 := by rw [← hh, Bd.state]; rfl
  have N0 := Fr.nil n0
  have pre0 : ∀ t, Steps p.tables e below (s₁.setTop (mkF m 0 #[.val (.ref a1)] [])) t → Steps p.tables e below (s₁.setTop (entryFrame m #[(.ref a1)] 1)) t := fun t k => castTop (ef_oem m a1) k
  generalize s₁.setTop (entryFrame m #[(.ref a1)] 1) = E0 at pre0 ⊢
  have pre_1 : ∀ t, Sp p e below s₁ (mkF m 1 #[.val (.ref a1)] [(.ref a1)]) t → Steps p.tables e below E0 t := by
    intro t k
    refine pre0 t ?_
    show Sp p e below s₁ (mkF m 0 #[.val (.ref a1)] []) _
    refine XS.aloadN X0.here hx rfl (hb hby d_jdk_32_7_0) rfl rfl ?_
    exact k
  obtain ⟨T2, X2, e2, st2⟩ := getF X0 hx hZ hown (host := "") (Or.inl (own_w hw 150 rfl)) Via.refl e0 F1 (g := (mkF m 1 #[.val (.ref a1)] [(.ref a1)])) rfl rfl (hb hby d_jdk_32_7_1)
  have pre_3 : ∀ t, Sp p e below T2 (mkF m 4 #[.val (.ref a1)] [(.ref w2)]) t → Steps p.tables e below E0 t := fun t k => pre_1 t (st2 t k)
  have pre_4 : ∀ t, Sp p e below T2 (mkF m 12 #[.val (.ref a1)] [(.int (0 : Int32))]) t → Steps p.tables e below E0 t := by
    intro t k
    refine pre_3 t ?_
    show Sp p e below T2 (mkF m 4 #[.val (.ref a1)] [(.ref w2)]) _
    refine XT.ifnonnullYes X2.here hx rfl (pc0 := 4) (pc' := 11) rfl (hb hby d_jdk_32_7_4) rfl (by decide) (by decide) ?_
    refine XS.iconst X2.here hx rfl (hb hby d_jdk_32_7_11) ?_
    exact k
  obtain ⟨fs, hr, hrun, hended, hW, hsame⟩ := X2.leave (v := some (.int (0 : Int32))) (fun h => by rw [Bd.returns] at h; cases h)
  refine ⟨_, _, pre_4 _ ?_, hrun, hended, _, _, rfl, ?_, ⟨_, rfl⟩, hW, hsame.mono (by decide) (by decide)⟩
  · show Sp p e below T2 (mkF m 12 #[.val (.ref a1)] [(.int (0 : Int32))]) _
    exact retN X2 hx (t := .boolean) Bd.returns (by simp) (hb hby d_jdk_32_7_12) hr
  · show Q_oem Z _ _ h0 n0 _ T2.heap _
    rw [e2]
    exact ⟨rfl, N0, rfl⟩
theorem d_prog_39_1_0 : decode prog_39_method_1_code 0 = .ok (.getstatic 10, 3) := by decide +kernel
theorem d_prog_39_1_3 : decode prog_39_method_1_code 3 = .ok (.invokevirtual 14, 3) := by decide +kernel
theorem d_prog_39_1_6 : decode prog_39_method_1_code 6 = .ok (.checkcast 15, 3) := by decide +kernel
theorem d_prog_39_1_9 : decode prog_39_method_1_code 9 = .ok (.areturn, 1) := by decide +kernel
theorem pn_vals : plainName cCC = true := by first | (simp [plainName, overriddenIn]; done) | decide +kernel
theorem ef_vals (m : MethodId)  : entryFrame m #[] 0 = (mkF m 0 #[] []) := by first | (simp [entryFrame, mkF, argsToLocals, Value.category]; done) | rfl
def Q_vals (Z : State)  (aV cA cB : Addr) (kV : ClassId) (h0 : Heap) (n0 : Nat) (v : Option Value) (h : Heap) (L : List Loc) : Prop := ∃ b, v = some (.ref b) ∧ Fr n0 L ∧ Keep h0 h [] ∧ h0.size ≤ b ∧ Arv Z h b kV (.object cCC) (2 : Int32) [(.ref cA), (.ref cB)] .null
set_option maxRecDepth 65536 in
set_option maxHeartbeats 40000000 in
theorem rm_vals (l : Launch) (Z : State) (a0 : Array Value) (hw : ∀ d ∈ tables_1, d.before a0 Z = true) (ws : List Jvm.Cond)  (aV cA cB : Addr) (kV : ClassId) (h0 : Heap) (n0 : Nat) (O0 : Old Z n0 h0) (SV : Sta Z Z.heap cCC "$VALUES" aCC (.ref aV)) (EV : Exa Z Z.heap aV aCC) (VV : Arv Z Z.heap aV kV (.object cCC) (2 : Int32) [(.ref cA), (.ref cB)] .null) :
    MetFree l (⟨cCC, "values", "()[Lcom/example/twistgauge/twistgauge/measurement/Conductor;"⟩ : MethodName) (head1 (Jvm.Cond.code (⟨cCC, "values", "()[Lcom/example/twistgauge/twistgauge/measurement/Conductor;"⟩ : MethodName) prog_39_method_1_code 0 (some (.array (.object cCC))) :: ws) ({ frames := 1, cells := 1, slots := 2, locals := 14 } : Room)) (fun a U => a = #[] ∧ Z.Warmed39 U.vm ∧ U.heap = h0) (fun _ _ _ _ _ => True) (fun _ U o U' => ∃ v L, o = .returned v ∧ Q_vals Z  aV cA cB kV h0 n0 v U'.heap L ∧ FrameEnd U o U' L ({ frames := 1, cells := 1, slots := 2, locals := 14 } : Room).cells ({ frames := 1, cells := 1, slots := 2, locals := 14 } : Room).slots) := by
  refine MetFree.of_bodySF (plainFor_of_name pn_vals) hisR ?_
  intro p e s m args below meth c s₁ Bd hml0 hP hK
  obtain ⟨rfl, hZ, hh⟩ := hP
  have hx := Bd.exec
  have hby := Bd.bytes
  have hml : c.maxLocals = 0 := hml0
  have hown : s.vm.findClass cCC = some m.cls := findClass_of_methodNamed Bd.named
  have hnm := (name_of_methodNamed Bd.named Bd.method).1
  have X0 : Stand p l e ({ frames := 1, cells := 1, slots := 2, locals := 14 } : Room) s m #[] below meth c s₁ [] 0 0 := Stand.of_body Bd
  have e0 : s₁.heap = h0 := by rw [← hh, Bd.state]; rfl
  have N0 := Fr.nil n0
  have pre0 : ∀ t, Steps p.tables e below (s₁.setTop (mkF m 0 #[] [])) t → Steps p.tables e below (s₁.setTop (entryFrame m #[] 0)) t := fun t k => castTop (ef_vals m ) k
  generalize s₁.setTop (entryFrame m #[] 0) = E0 at pre0 ⊢
  obtain ⟨T1, X1, e1, st1⟩ := getS X0 hx hZ hown (host := "") (own_w hw 112 rfl) Via.refl e0 (SV.ext O0.2) (g := (mkF m 0 #[] [])) rfl (hb hby d_prog_39_1_0)
  have pre_2 : ∀ t, Sp p e below T1 (mkF m 3 #[] [(.ref aV)]) t → Steps p.tables e below E0 t := fun t k => pre0 t (st1 t k)
  obtain ⟨T3, h3, X3, e3, E3, V3, A3, st3⟩ := cloneH X1 hx hZ hown (own_w hw 114 rfl) (own_w hw 115 rfl) (own_w hw 119 rfl) (own_w hw 117 rfl) (own_w hw 118 rfl) (own_w hw 120 rfl) e1 (Arv.arh (VV.ext O0.2)) (EV.ext O0.2) (g := (mkF m 3 #[] [(.ref aV)])) rfl (by rw [hml]; rfl) rfl (hb hby d_prog_39_1_3) (by decide) (W := 0) (cap := 2) (by show 2 * 0 + _ ≤ _; exact Nat.le_of_eq rfl) (by decide) (by decide) (by decide) (by decide)
  obtain ⟨b3, g3⟩ : ∃ z, z = h0.size := ⟨_, rfl⟩
  rw [← g3] at V3 A3 st3
  have O3 : Old Z n0 h3 := O0.ext E3
  have Va3 : Arv Z h3 b3 kV (.object cCC) (2 : Int32) [(.ref cA), (.ref cB)] .null := V3
  have pre_4 : ∀ t, Sp p e below T3 (mkF m 6 #[] [(.ref b3)]) t → Steps p.tables e below E0 t := fun t k => pre_2 t (st3 t k)
  obtain ⟨T5, X5, e5, st5⟩ := castY X3 hx hZ hown (own_w hw 124 rfl) e3 (Ins.self A3) (g := (mkF m 6 #[] [(.ref b3)])) rfl rfl (hb hby d_prog_39_1_6)
  have pre_6 : ∀ t, Sp p e below T5 (mkF m 9 #[] [(.ref b3)]) t → Steps p.tables e below E0 t := fun t k => pre_4 t (st5 t k)
  obtain ⟨fs, hr, hrun, hended, hW, hsame⟩ := X5.leave (v := some (.ref b3)) (fun h => by rw [Bd.returns] at h; cases h)
  refine ⟨_, _, pre_6 _ ?_, hrun, hended, _, _, rfl, ?_, ⟨_, rfl⟩, hW, hsame.mono (by decide) (by decide)⟩
  · show Sp p e below T5 (mkF m 9 #[] [(.ref b3)]) _
    exact retOut X5 hx (t := (.array (.object cCC))) Bd.returns rfl (Or.inr (Or.inr (Or.inr (Or.inr ⟨rfl, rfl, rfl⟩)))) (hb hby d_prog_39_1_9) hr
  · show Q_vals Z _ _ _ _ h0 n0 _ T5.heap _
    rw [e5]
    exact ⟨b3, rfl, N0, ((Keep.refl h0 []).ext E3), (Nat.le_trans (Keep.refl h0 []).1 (Nat.le_of_eq g3.symm)), Va3⟩
theorem d_prog_39_5_0 : decode prog_39_method_5_code 0 = .ok (.aload_n 0, 1) := by decide +kernel
theorem d_prog_39_5_1 : decode prog_39_method_5_code 1 = .ok (.invokevirtual 33, 3) := by decide +kernel
theorem d_prog_39_5_4 : decode prog_39_method_5_code 4 = .ok (.iconst 1, 1) := by decide +kernel
theorem d_prog_39_5_5 : decode prog_39_method_5_code 5 = .ok (.iadd, 1) := by decide +kernel
theorem d_prog_39_5_6 : decode prog_39_method_5_code 6 = .ok (.ireturn, 1) := by decide +kernel
theorem pn_nb0 : plainName cCC = true := by first | (simp [plainName, overriddenIn]; done) | decide +kernel
theorem pd_nb0_0 : parseMethodDescriptor "()I" = some ⟨[], some .int⟩ := by decide +kernel
theorem ef_nb0 (m : MethodId) (a1 : Addr) : entryFrame m #[(.ref a1)] 1 = (mkF m 0 #[.val (.ref a1)] []) := by first | (simp [entryFrame, mkF, argsToLocals, Value.category]; done) | rfl
def Q_nb0 (Z : State) (a1 : Addr)  (h0 : Heap) (n0 : Nat) (v : Option Value) (h : Heap) (L : List Loc) : Prop := v = some (.int (1 : Int32)) ∧ Fr n0 L ∧ h = h0
set_option maxRecDepth 65536 in
set_option maxHeartbeats 40000000 in
theorem rm_nb0 (l : Launch) (Z : State) (a0 : Array Value) (hw : ∀ d ∈ tables_1, d.before a0 Z = true) (ws : List Jvm.Cond) (a1 : Addr)  (h0 : Heap) (n0 : Nat) (O0 : Old Z n0 h0) (E1 : Exa Z h0 a1 cCC) (F1 : Fld Z h0 a1 cEN "ordinal" "I" (.int (0 : Int32))) :
    MetFree l (⟨cCC, "number", "()I"⟩ : MethodName) (head1 (Jvm.Cond.code (⟨cCC, "number", "()I"⟩ : MethodName) prog_39_method_5_code 1 (some .int) :: ws) ({ frames := 1, cells := 0, slots := 0, locals := 12 } : Room)) (fun a U => a = #[(.ref a1)] ∧ Z.Warmed39 U.vm ∧ U.heap = h0) (fun _ _ _ _ _ => True) (fun _ U o U' => ∃ v L, o = .returned v ∧ Q_nb0 Z a1  h0 n0 v U'.heap L ∧ FrameEnd U o U' L ({ frames := 1, cells := 0, slots := 0, locals := 12 } : Room).cells ({ frames := 1, cells := 0, slots := 0, locals := 12 } : Room).slots) := by
  refine MetFree.of_bodySF (plainFor_of_name pn_nb0) hisR ?_
  intro p e s m args below meth c s₁ Bd hml0 hP hK
  obtain ⟨rfl, hZ, hh⟩ := hP
  have hx := Bd.exec
  have hby := Bd.bytes
  have hml : c.maxLocals = 1 := hml0
  have hown : s.vm.findClass cCC = some m.cls := findClass_of_methodNamed Bd.named
  have hnm := (name_of_methodNamed Bd.named Bd.method).1
  have X0 : Stand p l e ({ frames := 1, cells := 0, slots := 0, locals := 12 } : Room) s m #[(.ref a1)] below meth c s₁ [] 0 0 := Stand.of_body Bd
  have e0 : s₁.heap = h0 := by rw [← hh, Bd.state]; rfl
  have N0 := Fr.nil n0
  have pre0 : ∀ t, Steps p.tables e below (s₁.setTop (mkF m 0 #[.val (.ref a1)] [])) t → Steps p.tables e below (s₁.setTop (entryFrame m #[(.ref a1)] 1)) t := fun t k => castTop (ef_nb0 m a1) k
  generalize s₁.setTop (entryFrame m #[(.ref a1)] 1) = E0 at pre0 ⊢
  have pre_1 : ∀ t, Sp p e below s₁ (mkF m 1 #[.val (.ref a1)] [(.ref a1)]) t → Steps p.tables e below E0 t := by
    intro t k
    refine pre0 t ?_
    show Sp p e below s₁ (mkF m 0 #[.val (.ref a1)] []) _
    refine XS.aloadN X0.here hx rfl (hb hby d_prog_39_5_0) rfl rfl ?_
    exact k
  obtain ⟨cq2, kq2, qa2, qb2, qc2⟩ := isOf hZ e0 E1
  obtain ⟨_, _, ⟨T2, L2, k2, n2⟩, -, X2, ⟨Lc2, hQ2, l2, y2, z2⟩, st2⟩ := X0.virtualBackUp hx (x := (⟨cCC, "ordinal", "()I"⟩ : MethodName)) (y := (⟨cEN, "ordinal", "()I"⟩ : MethodName)) hown (mvT hZ (own_w hw 131 rfl)) (mvT hZ (own_w hw 132 rfl)) (mvT hZ (own_w hw 70 rfl)) (by decide) (mvT hZ (own_w hw 133 rfl)) (mvT hZ (own_w hw 71 rfl)) (backOf (W := 0) (rm_ord l Z a0 hw [] a1 (0 : Int32) h0 n0 O0 F1) hZ (own_w hw 74 rfl) (own_w hw 73 rfl) (by decide) (by decide)) qa2 qc2 (g := (mkF m 1 #[.val (.ref a1)] [(.ref a1)])) rfl (by rw [hml]; rfl) (Steps.refl _) (argsL := []) (rest := []) (lenOf pd_nb0_0 rfl) rfl (by show 2 * 0 + _ ≤ _; exact Nat.le_of_eq rfl) (hb hby d_prog_39_5_1) (fun _ _ => ⟨rfl, e0, (by decide : 0 + 0 ≤ _), (by decide : 0 + 0 ≤ _)⟩)
  dsimp only [Pt.U, Pt.locs, Pt.cells, Pt.slots] at X2 l2 y2 z2 st2 hQ2
  subst l2 y2 z2
  obtain ⟨rfl, N2q, e2⟩ := hQ2
  have N2 := Fr.app N0 N2q
  have pre_3 : ∀ t, Sp p e below T2 (mkF m 4 #[.val (.ref a1)] [(.int (0 : Int32))]) t → Steps p.tables e below E0 t := fun t k => pre_1 t (st2.trans k)
  have pre_4 : ∀ t, Sp p e below T2 (mkF m 6 #[.val (.ref a1)] [(.int (1 : Int32))]) t → Steps p.tables e below E0 t := by
    intro t k
    refine pre_3 t ?_
    show Sp p e below T2 (mkF m 4 #[.val (.ref a1)] [(.int (0 : Int32))]) _
    refine XS.iconst X2.here hx rfl (hb hby d_prog_39_5_4) ?_
    refine XS.iadd X2.here hx rfl (hb hby d_prog_39_5_5) rfl ?_
    exact k
  obtain ⟨fs, hr, hrun, hended, hW, hsame⟩ := X2.leave (v := some (.int (1 : Int32))) (fun h => by rw [Bd.returns] at h; cases h)
  refine ⟨_, _, pre_4 _ ?_, hrun, hended, _, _, rfl, ?_, ⟨_, rfl⟩, hW, hsame.mono (by decide) (by decide)⟩
  · show Sp p e below T2 (mkF m 6 #[.val (.ref a1)] [(.int (1 : Int32))]) _
    exact retI X2 hx Bd.returns (hb hby d_prog_39_5_6) hr
  · show Q_nb0 Z _ h0 n0 _ T2.heap _
    rw [e2]
    exact ⟨rfl, N2, rfl⟩
theorem pn_nb1 : plainName cCC = true := by first | (simp [plainName, overriddenIn]; done) | decide +kernel
theorem pd_nb1_0 : parseMethodDescriptor "()I" = some ⟨[], some .int⟩ := by decide +kernel
theorem ef_nb1 (m : MethodId) (a1 : Addr) : entryFrame m #[(.ref a1)] 1 = (mkF m 0 #[.val (.ref a1)] []) := by first | (simp [entryFrame, mkF, argsToLocals, Value.category]; done) | rfl
def Q_nb1 (Z : State) (a1 : Addr)  (h0 : Heap) (n0 : Nat) (v : Option Value) (h : Heap) (L : List Loc) : Prop := v = some (.int (2 : Int32)) ∧ Fr n0 L ∧ h = h0
set_option maxRecDepth 65536 in
set_option maxHeartbeats 40000000 in
theorem rm_nb1 (l : Launch) (Z : State) (a0 : Array Value) (hw : ∀ d ∈ tables_1, d.before a0 Z = true) (ws : List Jvm.Cond) (a1 : Addr)  (h0 : Heap) (n0 : Nat) (O0 : Old Z n0 h0) (E1 : Exa Z h0 a1 cCC) (F1 : Fld Z h0 a1 cEN "ordinal" "I" (.int (1 : Int32))) :
    MetFree l (⟨cCC, "number", "()I"⟩ : MethodName) (head1 (Jvm.Cond.code (⟨cCC, "number", "()I"⟩ : MethodName) prog_39_method_5_code 1 (some .int) :: ws) ({ frames := 1, cells := 0, slots := 0, locals := 12 } : Room)) (fun a U => a = #[(.ref a1)] ∧ Z.Warmed39 U.vm ∧ U.heap = h0) (fun _ _ _ _ _ => True) (fun _ U o U' => ∃ v L, o = .returned v ∧ Q_nb1 Z a1  h0 n0 v U'.heap L ∧ FrameEnd U o U' L ({ frames := 1, cells := 0, slots := 0, locals := 12 } : Room).cells ({ frames := 1, cells := 0, slots := 0, locals := 12 } : Room).slots) := by
  refine MetFree.of_bodySF (plainFor_of_name pn_nb1) hisR ?_
  intro p e s m args below meth c s₁ Bd hml0 hP hK
  obtain ⟨rfl, hZ, hh⟩ := hP
  have hx := Bd.exec
  have hby := Bd.bytes
  have hml : c.maxLocals = 1 := hml0
  have hown : s.vm.findClass cCC = some m.cls := findClass_of_methodNamed Bd.named
  have hnm := (name_of_methodNamed Bd.named Bd.method).1
  have X0 : Stand p l e ({ frames := 1, cells := 0, slots := 0, locals := 12 } : Room) s m #[(.ref a1)] below meth c s₁ [] 0 0 := Stand.of_body Bd
  have e0 : s₁.heap = h0 := by rw [← hh, Bd.state]; rfl
  have N0 := Fr.nil n0
  have pre0 : ∀ t, Steps p.tables e below (s₁.setTop (mkF m 0 #[.val (.ref a1)] [])) t → Steps p.tables e below (s₁.setTop (entryFrame m #[(.ref a1)] 1)) t := fun t k => castTop (ef_nb1 m a1) k
  generalize s₁.setTop (entryFrame m #[(.ref a1)] 1) = E0 at pre0 ⊢
  have pre_1 : ∀ t, Sp p e below s₁ (mkF m 1 #[.val (.ref a1)] [(.ref a1)]) t → Steps p.tables e below E0 t := by
    intro t k
    refine pre0 t ?_
    show Sp p e below s₁ (mkF m 0 #[.val (.ref a1)] []) _
    refine XS.aloadN X0.here hx rfl (hb hby d_prog_39_5_0) rfl rfl ?_
    exact k
  obtain ⟨cq2, kq2, qa2, qb2, qc2⟩ := isOf hZ e0 E1
  obtain ⟨_, _, ⟨T2, L2, k2, n2⟩, -, X2, ⟨Lc2, hQ2, l2, y2, z2⟩, st2⟩ := X0.virtualBackUp hx (x := (⟨cCC, "ordinal", "()I"⟩ : MethodName)) (y := (⟨cEN, "ordinal", "()I"⟩ : MethodName)) hown (mvT hZ (own_w hw 131 rfl)) (mvT hZ (own_w hw 132 rfl)) (mvT hZ (own_w hw 70 rfl)) (by decide) (mvT hZ (own_w hw 133 rfl)) (mvT hZ (own_w hw 71 rfl)) (backOf (W := 0) (rm_ord l Z a0 hw [] a1 (1 : Int32) h0 n0 O0 F1) hZ (own_w hw 74 rfl) (own_w hw 73 rfl) (by decide) (by decide)) qa2 qc2 (g := (mkF m 1 #[.val (.ref a1)] [(.ref a1)])) rfl (by rw [hml]; rfl) (Steps.refl _) (argsL := []) (rest := []) (lenOf pd_nb1_0 rfl) rfl (by show 2 * 0 + _ ≤ _; exact Nat.le_of_eq rfl) (hb hby d_prog_39_5_1) (fun _ _ => ⟨rfl, e0, (by decide : 0 + 0 ≤ _), (by decide : 0 + 0 ≤ _)⟩)
  dsimp only [Pt.U, Pt.locs, Pt.cells, Pt.slots] at X2 l2 y2 z2 st2 hQ2
  subst l2 y2 z2
  obtain ⟨rfl, N2q, e2⟩ := hQ2
  have N2 := Fr.app N0 N2q
  have pre_3 : ∀ t, Sp p e below T2 (mkF m 4 #[.val (.ref a1)] [(.int (1 : Int32))]) t → Steps p.tables e below E0 t := fun t k => pre_1 t (st2.trans k)
  have pre_4 : ∀ t, Sp p e below T2 (mkF m 6 #[.val (.ref a1)] [(.int (2 : Int32))]) t → Steps p.tables e below E0 t := by
    intro t k
    refine pre_3 t ?_
    show Sp p e below T2 (mkF m 4 #[.val (.ref a1)] [(.int (1 : Int32))]) _
    refine XS.iconst X2.here hx rfl (hb hby d_prog_39_5_4) ?_
    refine XS.iadd X2.here hx rfl (hb hby d_prog_39_5_5) rfl ?_
    exact k
  obtain ⟨fs, hr, hrun, hended, hW, hsame⟩ := X2.leave (v := some (.int (2 : Int32))) (fun h => by rw [Bd.returns] at h; cases h)
  refine ⟨_, _, pre_4 _ ?_, hrun, hended, _, _, rfl, ?_, ⟨_, rfl⟩, hW, hsame.mono (by decide) (by decide)⟩
  · show Sp p e below T2 (mkF m 6 #[.val (.ref a1)] [(.int (2 : Int32))]) _
    exact retI X2 hx Bd.returns (hb hby d_prog_39_5_6) hr
  · show Q_nb1 Z _ h0 n0 _ T2.heap _
    rw [e2]
    exact ⟨rfl, N2, rfl⟩
theorem d_prog_39_7_0 : decode prog_39_method_7_code 0 = .ok (.invokestatic 37, 3) := by decide +kernel
theorem d_prog_39_7_3 : decode prog_39_method_7_code 3 = .ok (.astore_n 1, 1) := by decide +kernel
theorem d_prog_39_7_4 : decode prog_39_method_7_code 4 = .ok (.aload_n 1, 1) := by decide +kernel
theorem d_prog_39_7_5 : decode prog_39_method_7_code 5 = .ok (.arraylength, 1) := by decide +kernel
theorem d_prog_39_7_6 : decode prog_39_method_7_code 6 = .ok (.istore_n 2, 1) := by decide +kernel
theorem d_prog_39_7_7 : decode prog_39_method_7_code 7 = .ok (.iconst 0, 1) := by decide +kernel
theorem d_prog_39_7_8 : decode prog_39_method_7_code 8 = .ok (.istore_n 3, 1) := by decide +kernel
theorem d_prog_39_7_9 : decode prog_39_method_7_code 9 = .ok (.iload_n 3, 1) := by decide +kernel
theorem d_prog_39_7_10 : decode prog_39_method_7_code 10 = .ok (.iload_n 2, 1) := by decide +kernel
theorem d_prog_39_7_11 : decode prog_39_method_7_code 11 = .ok (.if_icmp .ge 29, 3) := by decide +kernel
theorem d_prog_39_7_14 : decode prog_39_method_7_code 14 = .ok (.aload_n 1, 1) := by decide +kernel
theorem d_prog_39_7_15 : decode prog_39_method_7_code 15 = .ok (.iload_n 3, 1) := by decide +kernel
theorem d_prog_39_7_16 : decode prog_39_method_7_code 16 = .ok (.aaload, 1) := by decide +kernel
theorem d_prog_39_7_17 : decode prog_39_method_7_code 17 = .ok (.astore 4, 2) := by decide +kernel
theorem d_prog_39_7_19 : decode prog_39_method_7_code 19 = .ok (.aload 4, 2) := by decide +kernel
theorem d_prog_39_7_21 : decode prog_39_method_7_code 21 = .ok (.invokevirtual 57, 3) := by decide +kernel
theorem d_prog_39_7_24 : decode prog_39_method_7_code 24 = .ok (.iload_n 0, 1) := by decide +kernel
theorem d_prog_39_7_25 : decode prog_39_method_7_code 25 = .ok (.if_icmp .ne 9, 3) := by decide +kernel
theorem d_prog_39_7_28 : decode prog_39_method_7_code 28 = .ok (.aload 4, 2) := by decide +kernel
theorem d_prog_39_7_30 : decode prog_39_method_7_code 30 = .ok (.invokestatic 47, 3) := by decide +kernel
theorem d_prog_39_7_33 : decode prog_39_method_7_code 33 = .ok (.areturn, 1) := by decide +kernel
theorem pn_cof1 : plainName cCC = true := by first | (simp [plainName, overriddenIn]; done) | decide +kernel
theorem pd_cof1_0 : parseMethodDescriptor "()[Lcom/example/twistgauge/twistgauge/measurement/Conductor;" = some ⟨[], some (.array (.object cCC))⟩ := by decide +kernel
theorem pd_cof1_1 : parseMethodDescriptor "()I" = some ⟨[], some .int⟩ := by decide +kernel
theorem pd_cof1_2 : parseMethodDescriptor "(Ljava/lang/Object;)Ljava/util/Optional;" = some ⟨[(.object "java/lang/Object")], some (.object cOP)⟩ := by decide +kernel
theorem ef_cof1 (m : MethodId)  : entryFrame m #[(.int (1 : Int32))] 5 = (mkF m 0 #[.val (.int (1 : Int32)), .unset, .unset, .unset, .unset] []) := by first | (simp [entryFrame, mkF, argsToLocals, Value.category]; done) | rfl
def Q_cof1 (Z : State)  (aV cA cB : Addr) (kV : ClassId) (h0 : Heap) (n0 : Nat) (v : Option Value) (h : Heap) (L : List Loc) : Prop := ∃ b, v = some (.ref b) ∧ Fr n0 L ∧ Keep h0 h [] ∧ h0.size ≤ b ∧ Exa Z h b cOP ∧ Fld Z h b cOP "value" lOB (.ref cA)
set_option maxRecDepth 65536 in
set_option maxHeartbeats 40000000 in
theorem rm_cof1 (l : Launch) (Z : State) (a0 : Array Value) (hw : ∀ d ∈ tables_1, d.before a0 Z = true) (ws : List Jvm.Cond)  (aV cA cB : Addr) (kV : ClassId) (h0 : Heap) (n0 : Nat) (O0 : Old Z n0 h0) (SV : Sta Z Z.heap cCC "$VALUES" aCC (.ref aV)) (EV : Exa Z Z.heap aV aCC) (VV : Arv Z Z.heap aV kV (.object cCC) (2 : Int32) [(.ref cA), (.ref cB)] .null) (EA : Exa Z Z.heap cA cCC) (FA : Fld Z Z.heap cA cEN "ordinal" "I" (.int (0 : Int32))) (EB : Exa Z Z.heap cB cCC) (FB : Fld Z Z.heap cB cEN "ordinal" "I" (.int (1 : Int32))) :
    MetFree l (⟨cCC, "of", "(I)Ljava/util/Optional;"⟩ : MethodName) (head1 (Jvm.Cond.code (⟨cCC, "of", "(I)Ljava/util/Optional;"⟩ : MethodName) prog_39_method_7_code 5 (some (.object cOP)) :: ws) ({ frames := 3, cells := 2, slots := 3, locals := 38 } : Room)) (fun a U => a = #[(.int (1 : Int32))] ∧ Z.Warmed39 U.vm ∧ U.heap = h0) (fun _ _ _ _ _ => True) (fun _ U o U' => ∃ v L, o = .returned v ∧ Q_cof1 Z  aV cA cB kV h0 n0 v U'.heap L ∧ FrameEnd U o U' L ({ frames := 3, cells := 2, slots := 3, locals := 38 } : Room).cells ({ frames := 3, cells := 2, slots := 3, locals := 38 } : Room).slots) := by
  refine MetFree.of_bodySF (plainFor_of_name pn_cof1) hisR ?_
  intro p e s m args below meth c s₁ Bd hml0 hP hK
  obtain ⟨rfl, hZ, hh⟩ := hP
  have hx := Bd.exec
  have hby := Bd.bytes
  have hml : c.maxLocals = 5 := hml0
  have hown : s.vm.findClass cCC = some m.cls := findClass_of_methodNamed Bd.named
  have hnm := (name_of_methodNamed Bd.named Bd.method).1
  have X0 : Stand p l e ({ frames := 3, cells := 2, slots := 3, locals := 38 } : Room) s m #[(.int (1 : Int32))] below meth c s₁ [] 0 0 := Stand.of_body Bd
  have e0 : s₁.heap = h0 := by rw [← hh, Bd.state]; rfl
  have N0 := Fr.nil n0
  have pre0 : ∀ t, Steps p.tables e below (s₁.setTop (mkF m 0 #[.val (.int (1 : Int32)), .unset, .unset, .unset, .unset] [])) t → Steps p.tables e below (s₁.setTop (entryFrame m #[(.int (1 : Int32))] 5)) t := fun t k => castTop (ef_cof1 m ) k
  generalize s₁.setTop (entryFrame m #[(.int (1 : Int32))] 5) = E0 at pre0 ⊢
  obtain ⟨_, _, ⟨T1, L1, k1, n1⟩, -, X1, ⟨Lc1, hQ1, l1, y1, z1⟩, st1⟩ := Jvm.LawKit.callS X0 hx (y := (⟨cCC, "values", "()[Lcom/example/twistgauge/twistgauge/measurement/Conductor;"⟩ : MethodName)) hown (mvT hZ (own_w hw 109 rfl)) (mvT hZ (own_w hw 110 rfl)) (mvT hZ (own_w hw 107 rfl)) (mvT hZ (own_w hw 111 rfl)) (by decide) (backOf (W := 0) (rm_vals l Z a0 hw [] aV cA cB kV h0 n0 O0 SV EV VV) hZ (own_w hw 111 rfl) (own_w hw 107 rfl) (by decide) (by decide)) (g := (mkF m 0 #[.val (.int (1 : Int32)), .unset, .unset, .unset, .unset] [])) rfl (by rw [hml]; rfl) (argsL := []) (rest := []) (lenOf pd_cof1_0 rfl) rfl (by show 2 * 0 + _ ≤ _; exact Nat.le_of_eq rfl) (hb hby d_prog_39_7_0) (fun _ _ => ⟨rfl, e0, (by decide : 0 + 1 ≤ _), (by decide : 0 + 2 ≤ _)⟩)
  dsimp only [Pt.U, Pt.locs, Pt.cells, Pt.slots] at X1 l1 y1 z1 st1 hQ1
  subst l1 y1 z1
  obtain ⟨b1, rfl, N1q, K1, sb1, Vb1⟩ := hQ1
  have N1 := Fr.app N0 N1q
  have O1 : Old Z n0 T1.heap := O0.keep K1 all0
  have pre_2 : ∀ t, Sp p e below T1 (mkF m 3 #[.val (.int (1 : Int32)), .unset, .unset, .unset, .unset] [(.ref b1)]) t → Steps p.tables e below E0 t := fun t k => pre0 t (st1 t k)
  have pre_5 : ∀ t, Sp p e below T1 (mkF m 21 #[.val (.int (1 : Int32)), .val (.ref b1), .val (.int (2 : Int32)), .val (.int (0 : Int32)), .val (.ref cA)] [(.ref cA)]) t → Steps p.tables e below E0 t := by
    intro t k
    refine pre_2 t ?_
    show Sp p e below T1 (mkF m 3 #[.val (.int (1 : Int32)), .unset, .unset, .unset, .unset] [(.ref b1)]) _
    refine XS.astoreN X1.here hx rfl (hb hby d_prog_39_7_3) rfl rfl (l' := #[.val (.int (1 : Int32)), .val (.ref b1), .unset, .unset, .unset]) rfl ?_
    refine XS.aloadN X1.here hx rfl (hb hby d_prog_39_7_4) rfl rfl ?_
    obtain ⟨cl3, Ar3, -, S3, M3, -, -⟩ := id Vb1
    refine X1.arraylength hx (cell := cl3) Ar3.1 (State.isArrayOf_alike hZ.alike Ar3.2.1) (g := (mkF m 5 #[.val (.int (1 : Int32)), .val (.ref b1), .unset, .unset, .unset] [(.ref b1)])) rfl (rest := []) rfl (hb hby d_prog_39_7_5) _ ?_
    rw [len_of S3 M3]
    show Sp p e below T1 (mkF m 6 #[.val (.int (1 : Int32)), .val (.ref b1), .unset, .unset, .unset] [(.int (2 : Int32))]) _
    refine XS.istoreN X1.here hx rfl (hb hby d_prog_39_7_6) rfl (l' := #[.val (.int (1 : Int32)), .val (.ref b1), .val (.int (2 : Int32)), .unset, .unset]) rfl ?_
    refine XS.iconst X1.here hx rfl (hb hby d_prog_39_7_7) ?_
    refine XS.istoreN X1.here hx rfl (hb hby d_prog_39_7_8) rfl (l' := #[.val (.int (1 : Int32)), .val (.ref b1), .val (.int (2 : Int32)), .val (.int (0 : Int32)), .unset]) rfl ?_
    refine XS.iloadN X1.here hx rfl (hb hby d_prog_39_7_9) rfl ?_
    refine XS.iloadN X1.here hx rfl (hb hby d_prog_39_7_10) rfl ?_
    refine XS.icmpNo X1.here hx rfl (hb hby d_prog_39_7_11) rfl (XT.ii_ge_f (by decide)) ?_
    show Sp p e below T1 (mkF m 14 #[.val (.int (1 : Int32)), .val (.ref b1), .val (.int (2 : Int32)), .val (.int (0 : Int32)), .unset] []) _
    refine XS.aloadN X1.here hx rfl (hb hby d_prog_39_7_14) rfl rfl ?_
    refine XS.iloadN X1.here hx rfl (hb hby d_prog_39_7_15) rfl ?_
    obtain ⟨cl4, Ar4, -, S4, -, H4, -⟩ := id Vb1
    have hin4 : ¬ ((0 : Int32) < 0 ∨ cl4.slots.size ≤ ((0 : Int32)).toNatClampNeg) := inb_of S4 (by decide)
    refine X1.aaload hx (j := (0 : Int32)) (v := (.ref cA)) Ar4.1 (State.isArrayOf_alike hZ.alike Ar4.2.1) rfl Ar4.2.2 hin4 (H4.at hin4 rfl) (g := (mkF m 16 #[.val (.int (1 : Int32)), .val (.ref b1), .val (.int (2 : Int32)), .val (.int (0 : Int32)), .unset] [(.int (0 : Int32)), (.ref b1)])) rfl rfl (hb hby d_prog_39_7_16) _ ?_
    refine XS.astore X1.here hx rfl (hb hby d_prog_39_7_17) rfl rfl (l' := #[.val (.int (1 : Int32)), .val (.ref b1), .val (.int (2 : Int32)), .val (.int (0 : Int32)), .val (.ref cA)]) rfl ?_
    refine XS.aload X1.here hx rfl (hb hby d_prog_39_7_19) rfl rfl ?_
    exact k
  obtain ⟨cq6, kq6, qa6, qb6, qc6⟩ := isOf hZ rfl (EA.ext O1.2)
  obtain ⟨_, _, ⟨T6, L6, k6, n6⟩, -, X6, ⟨Lc6, hQ6, l6, y6, z6⟩, st6⟩ := X1.virtualBack hx (y := (⟨cCC, "number", "()I"⟩ : MethodName)) (z := (⟨cCC, "number", "()I"⟩ : MethodName)) hown (mvT hZ (own_w hw 126 rfl)) (mvT hZ (own_w hw 127 rfl)) (notFace_of_selects (args := #[]) (mvT hZ (own_w hw 129 rfl))) (mvT hZ (own_w hw 129 rfl)) (mvT hZ (own_w hw 128 rfl)) (by decide) (backOf (W := 0) (rm_nb0 l Z a0 hw [] cA T1.heap n0 O1 (EA.ext O1.2) (FA.ext O1.2)) hZ (own_w hw 130 rfl) (own_w hw 107 rfl) (by decide) (by decide)) qa6 qc6 (g := (mkF m 21 #[.val (.int (1 : Int32)), .val (.ref b1), .val (.int (2 : Int32)), .val (.int (0 : Int32)), .val (.ref cA)] [(.ref cA)])) rfl (by rw [hml]; rfl) (Steps.refl _) (argsL := []) (rest := []) (lenOf pd_cof1_1 rfl) rfl (by show 2 * 0 + _ ≤ _; exact Nat.le_of_eq rfl) (hb hby d_prog_39_7_21) (fun _ _ => ⟨rfl, rfl, (by decide : 1 + 0 ≤ _), (by decide : 2 + 0 ≤ _)⟩)
  dsimp only [Pt.U, Pt.locs, Pt.cells, Pt.slots] at X6 l6 y6 z6 st6 hQ6
  subst l6 y6 z6
  obtain ⟨rfl, N6q, e6⟩ := hQ6
  have N6 := Fr.app N1 N6q
  have pre_7 : ∀ t, Sp p e below T6 (mkF m 24 #[.val (.int (1 : Int32)), .val (.ref b1), .val (.int (2 : Int32)), .val (.int (0 : Int32)), .val (.ref cA)] [(.int (1 : Int32))]) t → Steps p.tables e below E0 t := fun t k => pre_5 t (st6.trans k)
  have pre_8 : ∀ t, Sp p e below T6 (mkF m 30 #[.val (.int (1 : Int32)), .val (.ref b1), .val (.int (2 : Int32)), .val (.int (0 : Int32)), .val (.ref cA)] [(.ref cA)]) t → Steps p.tables e below E0 t := by
    intro t k
    refine pre_7 t ?_
    show Sp p e below T6 (mkF m 24 #[.val (.int (1 : Int32)), .val (.ref b1), .val (.int (2 : Int32)), .val (.int (0 : Int32)), .val (.ref cA)] [(.int (1 : Int32))]) _
    refine XS.iloadN X6.here hx rfl (hb hby d_prog_39_7_24) rfl ?_
    refine XS.icmpNo X6.here hx rfl (hb hby d_prog_39_7_25) rfl (XT.ii_ne_f (by decide)) ?_
    refine XS.aload X6.here hx rfl (hb hby d_prog_39_7_28) rfl rfl ?_
    show Sp p e below T6 (mkF m 30 #[.val (.int (1 : Int32)), .val (.ref b1), .val (.int (2 : Int32)), .val (.int (0 : Int32)), .val (.ref cA)] [(.ref cA)]) _
    exact k
  obtain ⟨_, _, ⟨T9, L9, k9, n9⟩, -, X9, ⟨Lc9, hQ9, l9, y9, z9⟩, st9⟩ := Jvm.LawKit.callS X6 hx (y := (⟨cOP, "of", "(Ljava/lang/Object;)Ljava/util/Optional;"⟩ : MethodName)) hown (mvT hZ (own_w hw 135 rfl)) (mvT hZ (own_w hw 136 rfl)) (mvT hZ (own_w hw 137 rfl)) (mvT hZ (own_w hw 138 rfl)) (by decide) (backOf (W := 0) (rm_oof l Z a0 hw [] cA T1.heap n0 O1) hZ (own_w hw 138 rfl) (own_w hw 137 rfl) (by decide) (by decide)) (g := (mkF m 30 #[.val (.int (1 : Int32)), .val (.ref b1), .val (.int (2 : Int32)), .val (.int (0 : Int32)), .val (.ref cA)] [(.ref cA)])) rfl (by rw [hml]; rfl) (argsL := [(.ref cA)]) (rest := []) (lenOf pd_cof1_2 rfl) rfl (by show 2 * 0 + _ ≤ _; exact Nat.le_of_eq rfl) (hb hby d_prog_39_7_30) (fun _ _ => ⟨rfl, e6, (by decide : 1 + 1 ≤ _), (by decide : 2 + 1 ≤ _)⟩)
  dsimp only [Pt.U, Pt.locs, Pt.cells, Pt.slots] at X9 l9 y9 z9 st9 hQ9
  subst l9 y9 z9
  obtain ⟨b9, rfl, N9q, K9, sb9, Eb9, Fb9⟩ := hQ9
  have N9 := Fr.app N6 N9q
  have O9 : Old Z n0 T9.heap := O1.keep K9 all0
  have pre_10 : ∀ t, Sp p e below T9 (mkF m 33 #[.val (.int (1 : Int32)), .val (.ref b1), .val (.int (2 : Int32)), .val (.int (0 : Int32)), .val (.ref cA)] [(.ref b9)]) t → Steps p.tables e below E0 t := fun t k => pre_8 t (st9 t k)
  obtain ⟨fs, hr, hrun, hended, hW, hsame⟩ := X9.leave (v := some (.ref b9)) (fun h => by rw [Bd.returns] at h; cases h)
  refine ⟨_, _, pre_10 _ ?_, hrun, hended, _, _, rfl, ?_, ⟨_, rfl⟩, hW, hsame.mono (by decide) (by decide)⟩
  · show Sp p e below T9 (mkF m 33 #[.val (.int (1 : Int32)), .val (.ref b1), .val (.int (2 : Int32)), .val (.int (0 : Int32)), .val (.ref cA)] [(.ref b9)]) _
    exact retOut X9 hx (t := (.object cOP)) Bd.returns rfl (Or.inr (Or.inr (Or.inr (Or.inr ⟨rfl, rfl, rfl⟩)))) (hb hby d_prog_39_7_33) hr
  · show Q_cof1 Z _ _ _ _ h0 n0 _ T9.heap _
    exact ⟨b9, rfl, N9, (((Keep.refl h0 []).trans K1 all0).trans K9 all0), (Nat.le_trans ((Keep.refl h0 []).trans K1 all0).1 sb9), Eb9, Fb9⟩
theorem d_prog_39_7_34 : decode prog_39_method_7_code 34 = .ok (.iinc 3 1, 3) := by decide +kernel
theorem d_prog_39_7_37 : decode prog_39_method_7_code 37 = .ok (.goto (-28), 3) := by decide +kernel
theorem pn_cof2 : plainName cCC = true := by first | (simp [plainName, overriddenIn]; done) | decide +kernel
theorem pd_cof2_0 : parseMethodDescriptor "()[Lcom/example/twistgauge/twistgauge/measurement/Conductor;" = some ⟨[], some (.array (.object cCC))⟩ := by decide +kernel
theorem pd_cof2_1 : parseMethodDescriptor "()I" = some ⟨[], some .int⟩ := by decide +kernel
theorem pd_cof2_2 : parseMethodDescriptor "(Ljava/lang/Object;)Ljava/util/Optional;" = some ⟨[(.object "java/lang/Object")], some (.object cOP)⟩ := by decide +kernel
theorem ef_cof2 (m : MethodId)  : entryFrame m #[(.int (2 : Int32))] 5 = (mkF m 0 #[.val (.int (2 : Int32)), .unset, .unset, .unset, .unset] []) := by first | (simp [entryFrame, mkF, argsToLocals, Value.category]; done) | rfl
def Q_cof2 (Z : State)  (aV cA cB : Addr) (kV : ClassId) (h0 : Heap) (n0 : Nat) (v : Option Value) (h : Heap) (L : List Loc) : Prop := ∃ b, v = some (.ref b) ∧ Fr n0 L ∧ Keep h0 h [] ∧ h0.size ≤ b ∧ Exa Z h b cOP ∧ Fld Z h b cOP "value" lOB (.ref cB)
set_option maxRecDepth 65536 in
set_option maxHeartbeats 40000000 in
theorem rm_cof2 (l : Launch) (Z : State) (a0 : Array Value) (hw : ∀ d ∈ tables_1, d.before a0 Z = true) (ws : List Jvm.Cond)  (aV cA cB : Addr) (kV : ClassId) (h0 : Heap) (n0 : Nat) (O0 : Old Z n0 h0) (SV : Sta Z Z.heap cCC "$VALUES" aCC (.ref aV)) (EV : Exa Z Z.heap aV aCC) (VV : Arv Z Z.heap aV kV (.object cCC) (2 : Int32) [(.ref cA), (.ref cB)] .null) (EA : Exa Z Z.heap cA cCC) (FA : Fld Z Z.heap cA cEN "ordinal" "I" (.int (0 : Int32))) (EB : Exa Z Z.heap cB cCC) (FB : Fld Z Z.heap cB cEN "ordinal" "I" (.int (1 : Int32))) :
    MetFree l (⟨cCC, "of", "(I)Ljava/util/Optional;"⟩ : MethodName) (head1 (Jvm.Cond.code (⟨cCC, "of", "(I)Ljava/util/Optional;"⟩ : MethodName) prog_39_method_7_code 5 (some (.object cOP)) :: ws) ({ frames := 3, cells := 2, slots := 3, locals := 38 } : Room)) (fun a U => a = #[(.int (2 : Int32))] ∧ Z.Warmed39 U.vm ∧ U.heap = h0) (fun _ _ _ _ _ => True) (fun _ U o U' => ∃ v L, o = .returned v ∧ Q_cof2 Z  aV cA cB kV h0 n0 v U'.heap L ∧ FrameEnd U o U' L ({ frames := 3, cells := 2, slots := 3, locals := 38 } : Room).cells ({ frames := 3, cells := 2, slots := 3, locals := 38 } : Room).slots) := by
  refine MetFree.of_bodySF (plainFor_of_name pn_cof2) hisR ?_
  intro p e s m args below meth c s₁ Bd hml0 hP hK
  obtain ⟨rfl, hZ, hh⟩ := hP
  have hx := Bd.exec
  have hby := Bd.bytes
  have hml : c.maxLocals = 5 := hml0
  have hown : s.vm.findClass cCC = some m.cls := findClass_of_methodNamed Bd.named
  have hnm := (name_of_methodNamed Bd.named Bd.method).1
  have X0 : Stand p l e ({ frames := 3, cells := 2, slots := 3, locals := 38 } : Room) s m #[(.int (2 : Int32))] below meth c s₁ [] 0 0 := Stand.of_body Bd
  have e0 : s₁.heap = h0 := by rw [← hh, Bd.state]; rfl
  have N0 := Fr.nil n0
  have pre0 : ∀ t, Steps p.tables e below (s₁.setTop (mkF m 0 #[.val (.int (2 : Int32)), .unset, .unset, .unset, .unset] [])) t → Steps p.tables e below (s₁.setTop (entryFrame m #[(.int (2 : Int32))] 5)) t := fun t k => castTop (ef_cof2 m ) k
  generalize s₁.setTop (entryFrame m #[(.int (2 : Int32))] 5) = E0 at pre0 ⊢
  obtain ⟨_, _, ⟨T1, L1, k1, n1⟩, -, X1, ⟨Lc1, hQ1, l1, y1, z1⟩, st1⟩ := Jvm.LawKit.callS X0 hx (y := (⟨cCC, "values", "()[Lcom/example/twistgauge/twistgauge/measurement/Conductor;"⟩ : MethodName)) hown (mvT hZ (own_w hw 109 rfl)) (mvT hZ (own_w hw 110 rfl)) (mvT hZ (own_w hw 107 rfl)) (mvT hZ (own_w hw 111 rfl)) (by decide) (backOf (W := 0) (rm_vals l Z a0 hw [] aV cA cB kV h0 n0 O0 SV EV VV) hZ (own_w hw 111 rfl) (own_w hw 107 rfl) (by decide) (by decide)) (g := (mkF m 0 #[.val (.int (2 : Int32)), .unset, .unset, .unset, .unset] [])) rfl (by rw [hml]; rfl) (argsL := []) (rest := []) (lenOf pd_cof2_0 rfl) rfl (by show 2 * 0 + _ ≤ _; exact Nat.le_of_eq rfl) (hb hby d_prog_39_7_0) (fun _ _ => ⟨rfl, e0, (by decide : 0 + 1 ≤ _), (by decide : 0 + 2 ≤ _)⟩)
  dsimp only [Pt.U, Pt.locs, Pt.cells, Pt.slots] at X1 l1 y1 z1 st1 hQ1
  subst l1 y1 z1
  obtain ⟨b1, rfl, N1q, K1, sb1, Vb1⟩ := hQ1
  have N1 := Fr.app N0 N1q
  have O1 : Old Z n0 T1.heap := O0.keep K1 all0
  have pre_2 : ∀ t, Sp p e below T1 (mkF m 3 #[.val (.int (2 : Int32)), .unset, .unset, .unset, .unset] [(.ref b1)]) t → Steps p.tables e below E0 t := fun t k => pre0 t (st1 t k)
  have pre_5 : ∀ t, Sp p e below T1 (mkF m 21 #[.val (.int (2 : Int32)), .val (.ref b1), .val (.int (2 : Int32)), .val (.int (0 : Int32)), .val (.ref cA)] [(.ref cA)]) t → Steps p.tables e below E0 t := by
    intro t k
    refine pre_2 t ?_
    show Sp p e below T1 (mkF m 3 #[.val (.int (2 : Int32)), .unset, .unset, .unset, .unset] [(.ref b1)]) _
    refine XS.astoreN X1.here hx rfl (hb hby d_prog_39_7_3) rfl rfl (l' := #[.val (.int (2 : Int32)), .val (.ref b1), .unset, .unset, .unset]) rfl ?_
    refine XS.aloadN X1.here hx rfl (hb hby d_prog_39_7_4) rfl rfl ?_
    obtain ⟨cl3, Ar3, -, S3, M3, -, -⟩ := id Vb1
    refine X1.arraylength hx (cell := cl3) Ar3.1 (State.isArrayOf_alike hZ.alike Ar3.2.1) (g := (mkF m 5 #[.val (.int (2 : Int32)), .val (.ref b1), .unset, .unset, .unset] [(.ref b1)])) rfl (rest := []) rfl (hb hby d_prog_39_7_5) _ ?_
    rw [len_of S3 M3]
    show Sp p e below T1 (mkF m 6 #[.val (.int (2 : Int32)), .val (.ref b1), .unset, .unset, .unset] [(.int (2 : Int32))]) _
    refine XS.istoreN X1.here hx rfl (hb hby d_prog_39_7_6) rfl (l' := #[.val (.int (2 : Int32)), .val (.ref b1), .val (.int (2 : Int32)), .unset, .unset]) rfl ?_
    refine XS.iconst X1.here hx rfl (hb hby d_prog_39_7_7) ?_
    refine XS.istoreN X1.here hx rfl (hb hby d_prog_39_7_8) rfl (l' := #[.val (.int (2 : Int32)), .val (.ref b1), .val (.int (2 : Int32)), .val (.int (0 : Int32)), .unset]) rfl ?_
    refine XS.iloadN X1.here hx rfl (hb hby d_prog_39_7_9) rfl ?_
    refine XS.iloadN X1.here hx rfl (hb hby d_prog_39_7_10) rfl ?_
    refine XS.icmpNo X1.here hx rfl (hb hby d_prog_39_7_11) rfl (XT.ii_ge_f (by decide)) ?_
    show Sp p e below T1 (mkF m 14 #[.val (.int (2 : Int32)), .val (.ref b1), .val (.int (2 : Int32)), .val (.int (0 : Int32)), .unset] []) _
    refine XS.aloadN X1.here hx rfl (hb hby d_prog_39_7_14) rfl rfl ?_
    refine XS.iloadN X1.here hx rfl (hb hby d_prog_39_7_15) rfl ?_
    obtain ⟨cl4, Ar4, -, S4, -, H4, -⟩ := id Vb1
    have hin4 : ¬ ((0 : Int32) < 0 ∨ cl4.slots.size ≤ ((0 : Int32)).toNatClampNeg) := inb_of S4 (by decide)
    refine X1.aaload hx (j := (0 : Int32)) (v := (.ref cA)) Ar4.1 (State.isArrayOf_alike hZ.alike Ar4.2.1) rfl Ar4.2.2 hin4 (H4.at hin4 rfl) (g := (mkF m 16 #[.val (.int (2 : Int32)), .val (.ref b1), .val (.int (2 : Int32)), .val (.int (0 : Int32)), .unset] [(.int (0 : Int32)), (.ref b1)])) rfl rfl (hb hby d_prog_39_7_16) _ ?_
    refine XS.astore X1.here hx rfl (hb hby d_prog_39_7_17) rfl rfl (l' := #[.val (.int (2 : Int32)), .val (.ref b1), .val (.int (2 : Int32)), .val (.int (0 : Int32)), .val (.ref cA)]) rfl ?_
    refine XS.aload X1.here hx rfl (hb hby d_prog_39_7_19) rfl rfl ?_
    exact k
  obtain ⟨cq6, kq6, qa6, qb6, qc6⟩ := isOf hZ rfl (EA.ext O1.2)
  obtain ⟨_, _, ⟨T6, L6, k6, n6⟩, -, X6, ⟨Lc6, hQ6, l6, y6, z6⟩, st6⟩ := X1.virtualBack hx (y := (⟨cCC, "number", "()I"⟩ : MethodName)) (z := (⟨cCC, "number", "()I"⟩ : MethodName)) hown (mvT hZ (own_w hw 126 rfl)) (mvT hZ (own_w hw 127 rfl)) (notFace_of_selects (args := #[]) (mvT hZ (own_w hw 129 rfl))) (mvT hZ (own_w hw 129 rfl)) (mvT hZ (own_w hw 128 rfl)) (by decide) (backOf (W := 0) (rm_nb0 l Z a0 hw [] cA T1.heap n0 O1 (EA.ext O1.2) (FA.ext O1.2)) hZ (own_w hw 130 rfl) (own_w hw 107 rfl) (by decide) (by decide)) qa6 qc6 (g := (mkF m 21 #[.val (.int (2 : Int32)), .val (.ref b1), .val (.int (2 : Int32)), .val (.int (0 : Int32)), .val (.ref cA)] [(.ref cA)])) rfl (by rw [hml]; rfl) (Steps.refl _) (argsL := []) (rest := []) (lenOf pd_cof2_1 rfl) rfl (by show 2 * 0 + _ ≤ _; exact Nat.le_of_eq rfl) (hb hby d_prog_39_7_21) (fun _ _ => ⟨rfl, rfl, (by decide : 1 + 0 ≤ _), (by decide : 2 + 0 ≤ _)⟩)
  dsimp only [Pt.U, Pt.locs, Pt.cells, Pt.slots] at X6 l6 y6 z6 st6 hQ6
  subst l6 y6 z6
  obtain ⟨rfl, N6q, e6⟩ := hQ6
  have N6 := Fr.app N1 N6q
  have pre_7 : ∀ t, Sp p e below T6 (mkF m 24 #[.val (.int (2 : Int32)), .val (.ref b1), .val (.int (2 : Int32)), .val (.int (0 : Int32)), .val (.ref cA)] [(.int (1 : Int32))]) t → Steps p.tables e below E0 t := fun t k => pre_5 t (st6.trans k)
  have pre_9 : ∀ t, Sp p e below T6 (mkF m 21 #[.val (.int (2 : Int32)), .val (.ref b1), .val (.int (2 : Int32)), .val (.int (1 : Int32)), .val (.ref cB)] [(.ref cB)]) t → Steps p.tables e below E0 t := by
    intro t k
    refine pre_7 t ?_
    show Sp p e below T6 (mkF m 24 #[.val (.int (2 : Int32)), .val (.ref b1), .val (.int (2 : Int32)), .val (.int (0 : Int32)), .val (.ref cA)] [(.int (1 : Int32))]) _
    refine XS.iloadN X6.here hx rfl (hb hby d_prog_39_7_24) rfl ?_
    refine XS.icmpYes X6.here hx rfl (pc0 := 25) (pc' := 34) rfl (hb hby d_prog_39_7_25) rfl (XT.ii_ne_t (by decide)) (by decide) (by decide) ?_
    refine XS.iinc X6.here hx rfl (hb hby d_prog_39_7_34) rfl (l' := #[.val (.int (2 : Int32)), .val (.ref b1), .val (.int (2 : Int32)), .val (.int (1 : Int32)), .val (.ref cA)]) rfl ?_
    show Sp p e below T6 (mkF m 37 #[.val (.int (2 : Int32)), .val (.ref b1), .val (.int (2 : Int32)), .val (.int (1 : Int32)), .val (.ref cA)] []) _
    refine XS.goto X6.here hx rfl (pc0 := 37) (pc' := 9) rfl (hb hby d_prog_39_7_37) (by decide) (by decide) ?_
    refine XS.iloadN X6.here hx rfl (hb hby d_prog_39_7_9) rfl ?_
    refine XS.iloadN X6.here hx rfl (hb hby d_prog_39_7_10) rfl ?_
    refine XS.icmpNo X6.here hx rfl (hb hby d_prog_39_7_11) rfl (XT.ii_ge_f (by decide)) ?_
    refine XS.aloadN X6.here hx rfl (hb hby d_prog_39_7_14) rfl rfl ?_
    refine XS.iloadN X6.here hx rfl (hb hby d_prog_39_7_15) rfl ?_
    obtain ⟨cl8, Ar8, -, S8, -, H8, -⟩ := id Vb1
    have hin8 : ¬ ((1 : Int32) < 0 ∨ cl8.slots.size ≤ ((1 : Int32)).toNatClampNeg) := inb_of S8 (by decide)
    refine X6.aaload hx (j := (1 : Int32)) (v := (.ref cB)) (by rw [e6]; exact Ar8.1) (State.isArrayOf_alike hZ.alike Ar8.2.1) rfl Ar8.2.2 hin8 (H8.at hin8 rfl) (g := (mkF m 16 #[.val (.int (2 : Int32)), .val (.ref b1), .val (.int (2 : Int32)), .val (.int (1 : Int32)), .val (.ref cA)] [(.int (1 : Int32)), (.ref b1)])) rfl rfl (hb hby d_prog_39_7_16) _ ?_
    refine XS.astore X6.here hx rfl (hb hby d_prog_39_7_17) rfl rfl (l' := #[.val (.int (2 : Int32)), .val (.ref b1), .val (.int (2 : Int32)), .val (.int (1 : Int32)), .val (.ref cB)]) rfl ?_
    show Sp p e below T6 (mkF m 19 #[.val (.int (2 : Int32)), .val (.ref b1), .val (.int (2 : Int32)), .val (.int (1 : Int32)), .val (.ref cB)] []) _
    refine XS.aload X6.here hx rfl (hb hby d_prog_39_7_19) rfl rfl ?_
    exact k
  obtain ⟨cq10, kq10, qa10, qb10, qc10⟩ := isOf hZ e6 (EB.ext O1.2)
  obtain ⟨_, _, ⟨T10, L10, k10, n10⟩, -, X10, ⟨Lc10, hQ10, l10, y10, z10⟩, st10⟩ := X6.virtualBack hx (y := (⟨cCC, "number", "()I"⟩ : MethodName)) (z := (⟨cCC, "number", "()I"⟩ : MethodName)) hown (mvT hZ (own_w hw 126 rfl)) (mvT hZ (own_w hw 127 rfl)) (notFace_of_selects (args := #[]) (mvT hZ (own_w hw 129 rfl))) (mvT hZ (own_w hw 129 rfl)) (mvT hZ (own_w hw 128 rfl)) (by decide) (backOf (W := 0) (rm_nb1 l Z a0 hw [] cB T1.heap n0 O1 (EB.ext O1.2) (FB.ext O1.2)) hZ (own_w hw 130 rfl) (own_w hw 107 rfl) (by decide) (by decide)) qa10 qc10 (g := (mkF m 21 #[.val (.int (2 : Int32)), .val (.ref b1), .val (.int (2 : Int32)), .val (.int (1 : Int32)), .val (.ref cB)] [(.ref cB)])) rfl (by rw [hml]; rfl) (Steps.refl _) (argsL := []) (rest := []) (lenOf pd_cof2_1 rfl) rfl (by show 2 * 0 + _ ≤ _; exact Nat.le_of_eq rfl) (hb hby d_prog_39_7_21) (fun _ _ => ⟨rfl, e6, (by decide : 1 + 0 ≤ _), (by decide : 2 + 0 ≤ _)⟩)
  dsimp only [Pt.U, Pt.locs, Pt.cells, Pt.slots] at X10 l10 y10 z10 st10 hQ10
  subst l10 y10 z10
  obtain ⟨rfl, N10q, e10⟩ := hQ10
  have N10 := Fr.app N6 N10q
  have pre_11 : ∀ t, Sp p e below T10 (mkF m 24 #[.val (.int (2 : Int32)), .val (.ref b1), .val (.int (2 : Int32)), .val (.int (1 : Int32)), .val (.ref cB)] [(.int (2 : Int32))]) t → Steps p.tables e below E0 t := fun t k => pre_9 t (st10.trans k)
  have pre_12 : ∀ t, Sp p e below T10 (mkF m 30 #[.val (.int (2 : Int32)), .val (.ref b1), .val (.int (2 : Int32)), .val (.int (1 : Int32)), .val (.ref cB)] [(.ref cB)]) t → Steps p.tables e below E0 t := by
    intro t k
    refine pre_11 t ?_
    show Sp p e below T10 (mkF m 24 #[.val (.int (2 : Int32)), .val (.ref b1), .val (.int (2 : Int32)), .val (.int (1 : Int32)), .val (.ref cB)] [(.int (2 : Int32))]) _
    refine XS.iloadN X10.here hx rfl (hb hby d_prog_39_7_24) rfl ?_
    refine XS.icmpNo X10.here hx rfl (hb hby d_prog_39_7_25) rfl (XT.ii_ne_f (by decide)) ?_
    refine XS.aload X10.here hx rfl (hb hby d_prog_39_7_28) rfl rfl ?_
    exact k
  obtain ⟨_, _, ⟨T13, L13, k13, n13⟩, -, X13, ⟨Lc13, hQ13, l13, y13, z13⟩, st13⟩ := Jvm.LawKit.callS X10 hx (y := (⟨cOP, "of", "(Ljava/lang/Object;)Ljava/util/Optional;"⟩ : MethodName)) hown (mvT hZ (own_w hw 135 rfl)) (mvT hZ (own_w hw 136 rfl)) (mvT hZ (own_w hw 137 rfl)) (mvT hZ (own_w hw 138 rfl)) (by decide) (backOf (W := 0) (rm_oof l Z a0 hw [] cB T1.heap n0 O1) hZ (own_w hw 138 rfl) (own_w hw 137 rfl) (by decide) (by decide)) (g := (mkF m 30 #[.val (.int (2 : Int32)), .val (.ref b1), .val (.int (2 : Int32)), .val (.int (1 : Int32)), .val (.ref cB)] [(.ref cB)])) rfl (by rw [hml]; rfl) (argsL := [(.ref cB)]) (rest := []) (lenOf pd_cof2_2 rfl) rfl (by show 2 * 0 + _ ≤ _; exact Nat.le_of_eq rfl) (hb hby d_prog_39_7_30) (fun _ _ => ⟨rfl, e10, (by decide : 1 + 1 ≤ _), (by decide : 2 + 1 ≤ _)⟩)
  dsimp only [Pt.U, Pt.locs, Pt.cells, Pt.slots] at X13 l13 y13 z13 st13 hQ13
  subst l13 y13 z13
  obtain ⟨b13, rfl, N13q, K13, sb13, Eb13, Fb13⟩ := hQ13
  have N13 := Fr.app N10 N13q
  have O13 : Old Z n0 T13.heap := O1.keep K13 all0
  have pre_14 : ∀ t, Sp p e below T13 (mkF m 33 #[.val (.int (2 : Int32)), .val (.ref b1), .val (.int (2 : Int32)), .val (.int (1 : Int32)), .val (.ref cB)] [(.ref b13)]) t → Steps p.tables e below E0 t := fun t k => pre_12 t (st13 t k)
  obtain ⟨fs, hr, hrun, hended, hW, hsame⟩ := X13.leave (v := some (.ref b13)) (fun h => by rw [Bd.returns] at h; cases h)
  refine ⟨_, _, pre_14 _ ?_, hrun, hended, _, _, rfl, ?_, ⟨_, rfl⟩, hW, hsame.mono (by decide) (by decide)⟩
  · show Sp p e below T13 (mkF m 33 #[.val (.int (2 : Int32)), .val (.ref b1), .val (.int (2 : Int32)), .val (.int (1 : Int32)), .val (.ref cB)] [(.ref b13)]) _
    exact retOut X13 hx (t := (.object cOP)) Bd.returns rfl (Or.inr (Or.inr (Or.inr (Or.inr ⟨rfl, rfl, rfl⟩)))) (hb hby d_prog_39_7_33) hr
  · show Q_cof2 Z _ _ _ _ h0 n0 _ T13.heap _
    exact ⟨b13, rfl, N13, (((Keep.refl h0 []).trans K1 all0).trans K13 all0), (Nat.le_trans ((Keep.refl h0 []).trans K1 all0).1 sb13), Eb13, Fb13⟩
theorem d_jdk_30_1_0 : decode jdk_30_method_1_code 0 = .ok (.aload_n 0, 1) := by decide +kernel
theorem d_jdk_30_1_1 : decode jdk_30_method_1_code 1 = .ok (.invokespecial 1, 3) := by decide +kernel
theorem d_jdk_30_1_4 : decode jdk_30_method_1_code 4 = .ok (.return_, 1) := by decide +kernel
theorem pn_rec : plainName "java/lang/Record" = true := by first | (simp [plainName, overriddenIn]; done) | decide +kernel
theorem ef_rec (m : MethodId) (a1 : Addr) : entryFrame m #[(.ref a1)] 1 = (mkF m 0 #[.val (.ref a1)] []) := by first | (simp [entryFrame, mkF, argsToLocals, Value.category]; done) | rfl
def Q_rec (Z : State) (a1 : Addr)  (h0 : Heap) (n0 : Nat) (v : Option Value) (h : Heap) (L : List Loc) : Prop := v = none ∧ Fr n0 L ∧ h = h0
set_option maxRecDepth 65536 in
set_option maxHeartbeats 40000000 in
theorem rm_rec (l : Launch) (Z : State) (a0 : Array Value) (hw : ∀ d ∈ tables_1, d.before a0 Z = true) (ws : List Jvm.Cond) (a1 : Addr)  (h0 : Heap) (n0 : Nat) (O0 : Old Z n0 h0)  :
    MetFree l (⟨"java/lang/Record", "<init>", "()V"⟩ : MethodName) (head1 (Jvm.Cond.code (⟨"java/lang/Record", "<init>", "()V"⟩ : MethodName) jdk_30_method_1_code 1 none :: ws) ({ frames := 1, cells := 0, slots := 0, locals := 12 } : Room)) (fun a U => a = #[(.ref a1)] ∧ Z.Warmed39 U.vm ∧ U.heap = h0) (fun _ _ _ _ _ => True) (fun _ U o U' => ∃ v L, o = .returned v ∧ Q_rec Z a1  h0 n0 v U'.heap L ∧ FrameEnd U o U' L ({ frames := 1, cells := 0, slots := 0, locals := 12 } : Room).cells ({ frames := 1, cells := 0, slots := 0, locals := 12 } : Room).slots) := by
  refine MetFree.of_bodySF (plainFor_of_name pn_rec) hisR ?_
  intro p e s m args below meth c s₁ Bd hml0 hP hK
  obtain ⟨rfl, hZ, hh⟩ := hP
  have hx := Bd.exec
  have hby := Bd.bytes
  have hml : c.maxLocals = 1 := hml0
  have hown : s.vm.findClass "java/lang/Record" = some m.cls := findClass_of_methodNamed Bd.named
  have hnm := (name_of_methodNamed Bd.named Bd.method).1
  have X0 : Stand p l e ({ frames := 1, cells := 0, slots := 0, locals := 12 } : Room) s m #[(.ref a1)] below meth c s₁ [] 0 0 := Stand.of_body Bd
  have e0 : s₁.heap = h0 := by rw [← hh, Bd.state]; rfl
  have N0 := Fr.nil n0
  have pre0 : ∀ t, Steps p.tables e below (s₁.setTop (mkF m 0 #[.val (.ref a1)] [])) t → Steps p.tables e below (s₁.setTop (entryFrame m #[(.ref a1)] 1)) t := fun t k => castTop (ef_rec m a1) k
  generalize s₁.setTop (entryFrame m #[(.ref a1)] 1) = E0 at pre0 ⊢
  have pre_1 : ∀ t, Sp p e below s₁ (mkF m 1 #[.val (.ref a1)] [(.ref a1)]) t → Steps p.tables e below E0 t := by
    intro t k
    refine pre0 t ?_
    show Sp p e below s₁ (mkF m 0 #[.val (.ref a1)] []) _
    refine XS.aloadN X0.here hx rfl (hb hby d_jdk_30_1_0) rfl rfl ?_
    exact k
  obtain ⟨T2, X2, e2, st2⟩ := initO X0 hx hZ hown (own_w hw 36 rfl) (own_w hw 37 rfl) (own_w hw 38 rfl) e0 (g := (mkF m 1 #[.val (.ref a1)] [(.ref a1)])) rfl (by rw [hml]; rfl) rfl (hb hby d_jdk_30_1_1) (by decide) (W := 0) (by show 2 * 0 + _ ≤ _; exact Nat.le_of_eq rfl) (by decide)
  have pre_3 : ∀ t, Sp p e below T2 (mkF m 4 #[.val (.ref a1)] []) t → Steps p.tables e below E0 t := fun t k => pre_1 t (st2 t k)
  obtain ⟨fs, hr, hrun, hended, hW, hsame⟩ := X2.leave (v := none) (fun _ => rfl)
  refine ⟨_, _, pre_3 _ ?_, hrun, hended, _, _, rfl, ?_, ⟨_, rfl⟩, hW, hsame.mono (by decide) (by decide)⟩
  · show Sp p e below T2 (mkF m 4 #[.val (.ref a1)] []) _
    exact X2.returnOut hx Bd.returns (hb hby d_jdk_30_1_4) hr
  · show Q_rec Z _ h0 n0 _ T2.heap _
    rw [e2]
    exact ⟨rfl, N0, rfl⟩
def Q_si (Z : State) (a1 q1 e1 : Addr) (x1 y1 : Int32) (h0 : Heap) (n0 : Nat) (v : Option Value) (h : Heap) (L : List Loc) : Prop := v = none ∧ Fr n0 L ∧ Keep h0 h [a1] ∧ Fld Z h a1 cSK "quantity" lQC (.ref q1) ∧ Fld Z h a1 cSK "end" lEC (.ref e1) ∧ Fld Z h a1 cSK "pair" "I" (.int x1) ∧ Fld Z h a1 cSK "other" "I" (.int y1)
theorem d_prog_56_1_0 : decode prog_56_method_1_code 0 = .ok (.aload_n 0, 1) := by decide +kernel
theorem d_prog_56_1_1 : decode prog_56_method_1_code 1 = .ok (.invokespecial 1, 3) := by decide +kernel
theorem d_prog_56_1_4 : decode prog_56_method_1_code 4 = .ok (.aload_n 1, 1) := by decide +kernel
theorem d_prog_56_1_5 : decode prog_56_method_1_code 5 = .ok (.invokevirtual 7, 3) := by decide +kernel
theorem d_prog_56_1_8 : decode prog_56_method_1_code 8 = .ok (.astore 5, 2) := by decide +kernel
theorem d_prog_56_1_10 : decode prog_56_method_1_code 10 = .ok (.aload_n 1, 1) := by decide +kernel
theorem d_prog_56_1_11 : decode prog_56_method_1_code 11 = .ok (.invokevirtual 13, 3) := by decide +kernel
theorem d_prog_56_1_14 : decode prog_56_method_1_code 14 = .ok (.getstatic 17, 3) := by decide +kernel
theorem d_prog_56_1_17 : decode prog_56_method_1_code 17 = .ok (.if_acmp .ne 7, 3) := by decide +kernel
theorem d_prog_56_1_24 : decode prog_56_method_1_code 24 = .ok (.iconst 0, 1) := by decide +kernel
theorem d_prog_56_1_25 : decode prog_56_method_1_code 25 = .ok (.istore 6, 2) := by decide +kernel
theorem d_prog_56_1_27 : decode prog_56_method_1_code 27 = .ok (.iload 6, 2) := by decide +kernel
theorem d_prog_56_1_29 : decode prog_56_method_1_code 29 = .ok (.ifCond .eq 33, 3) := by decide +kernel
theorem d_prog_56_1_62 : decode prog_56_method_1_code 62 = .ok (.iload 6, 2) := by decide +kernel
theorem d_prog_56_1_64 : decode prog_56_method_1_code 64 = .ok (.ifCond .ne 22, 3) := by decide +kernel
theorem d_prog_56_1_67 : decode prog_56_method_1_code 67 = .ok (.iload_n 3, 1) := by decide +kernel
theorem d_prog_56_1_68 : decode prog_56_method_1_code 68 = .ok (.iconst 1, 1) := by decide +kernel
theorem d_prog_56_1_69 : decode prog_56_method_1_code 69 = .ok (.if_icmp .ge 17, 3) := by decide +kernel
theorem d_prog_56_1_86 : decode prog_56_method_1_code 86 = .ok (.aload_n 1, 1) := by decide +kernel
theorem d_prog_56_1_87 : decode prog_56_method_1_code 87 = .ok (.invokevirtual 40, 3) := by decide +kernel
theorem d_prog_56_1_90 : decode prog_56_method_1_code 90 = .ok (.ifCond .eq 25, 3) := by decide +kernel
theorem d_prog_56_1_115 : decode prog_56_method_1_code 115 = .ok (.aload_n 1, 1) := by decide +kernel
theorem d_prog_56_1_116 : decode prog_56_method_1_code 116 = .ok (.invokevirtual 40, 3) := by decide +kernel
theorem d_prog_56_1_119 : decode prog_56_method_1_code 119 = .ok (.ifCond .ne 29, 3) := by decide +kernel
theorem d_prog_56_1_122 : decode prog_56_method_1_code 122 = .ok (.aload_n 2, 1) := by decide +kernel
theorem d_prog_56_1_123 : decode prog_56_method_1_code 123 = .ok (.getstatic 44, 3) := by decide +kernel
theorem d_prog_56_1_126 : decode prog_56_method_1_code 126 = .ok (.if_acmp .eq 22, 3) := by decide +kernel
theorem d_prog_56_1_148 : decode prog_56_method_1_code 148 = .ok (.getstatic 57, 3) := by decide +kernel
theorem d_prog_56_1_151 : decode prog_56_method_1_code 151 = .ok (.aload_n 1, 1) := by decide +kernel
theorem d_prog_56_1_152 : decode prog_56_method_1_code 152 = .ok (.invokevirtual 13, 3) := by decide +kernel
theorem d_prog_56_1_155 : decode prog_56_method_1_code 155 = .ok (.invokevirtual 63, 3) := by decide +kernel
theorem d_prog_56_1_158 : decode prog_56_method_1_code 158 = .ok (.iaload, 1) := by decide +kernel
theorem d_prog_56_1_159 : decode prog_56_method_1_code 159 = .ok (.tableswitch 153 1 6 #[37, 40, 40, 62, 89, 122], 37) := by decide +kernel
theorem d_prog_56_1_199 : decode prog_56_method_1_code 199 = .ok (.iload 4, 2) := by decide +kernel
theorem d_prog_56_1_201 : decode prog_56_method_1_code 201 = .ok (.ifCond .eq 131, 3) := by decide +kernel
theorem d_prog_56_1_332 : decode prog_56_method_1_code 332 = .ok (.aload_n 0, 1) := by decide +kernel
theorem d_prog_56_1_333 : decode prog_56_method_1_code 333 = .ok (.aload_n 1, 1) := by decide +kernel
theorem d_prog_56_1_334 : decode prog_56_method_1_code 334 = .ok (.putfield 94, 3) := by decide +kernel
theorem d_prog_56_1_337 : decode prog_56_method_1_code 337 = .ok (.aload_n 0, 1) := by decide +kernel
theorem d_prog_56_1_338 : decode prog_56_method_1_code 338 = .ok (.aload_n 2, 1) := by decide +kernel
theorem d_prog_56_1_339 : decode prog_56_method_1_code 339 = .ok (.putfield 98, 3) := by decide +kernel
theorem d_prog_56_1_342 : decode prog_56_method_1_code 342 = .ok (.aload_n 0, 1) := by decide +kernel
theorem d_prog_56_1_343 : decode prog_56_method_1_code 343 = .ok (.iload_n 3, 1) := by decide +kernel
theorem d_prog_56_1_344 : decode prog_56_method_1_code 344 = .ok (.putfield 101, 3) := by decide +kernel
theorem d_prog_56_1_347 : decode prog_56_method_1_code 347 = .ok (.aload_n 0, 1) := by decide +kernel
theorem d_prog_56_1_348 : decode prog_56_method_1_code 348 = .ok (.iload 4, 2) := by decide +kernel
theorem d_prog_56_1_350 : decode prog_56_method_1_code 350 = .ok (.putfield 105, 3) := by decide +kernel
theorem d_prog_56_1_353 : decode prog_56_method_1_code 353 = .ok (.return_, 1) := by decide +kernel
theorem pn_si0 : plainName cSK = true := by first | (simp [plainName, overriddenIn]; done) | decide +kernel
theorem pd_si0_0 : parseMethodDescriptor "()V" = some ⟨[], none⟩ := by decide +kernel
theorem pd_si0_1 : parseMethodDescriptor "()Ljava/lang/String;" = some ⟨[], some (.object "java/lang/String")⟩ := by decide +kernel
theorem pd_si0_2 : parseMethodDescriptor dOT = some ⟨[], some (.object cOC)⟩ := by decide +kernel
theorem pd_si0_3 : parseMethodDescriptor "()Z" = some ⟨[], some .boolean⟩ := by decide +kernel
theorem pd_si0_4 : parseMethodDescriptor "()I" = some ⟨[], some .int⟩ := by decide +kernel
theorem ef_si0 (m : MethodId) (a1 : Addr) (qn : Addr) (aT : Addr) (p3 : Int32) : entryFrame m #[(.ref a1), (.ref qn), (.ref aT), (.int p3), (.int (0 : Int32))] 7 = (mkF m 0 #[.val (.ref a1), .val (.ref qn), .val (.ref aT), .val (.int p3), .val (.int (0 : Int32)), .unset, .unset] []) := by first | (simp [entryFrame, mkF, argsToLocals, Value.category]; done) | rfl
set_option maxRecDepth 65536 in
set_option maxHeartbeats 40000000 in
theorem rm_si0 (l : Launch) (Z : State) (a0 : Array Value) (hw : ∀ d ∈ tables_1, d.before a0 Z = true) (ws : List Jvm.Cond) (a1 : Addr) (qn : Addr) (aT : Addr) (p3 : Int32) (u1 u2 u3 u4 : Value) (idn : Addr) (otn : Addr) (aX aS : Addr) (kS : ClassId) (h0 : Heap) (n0 : Nat) (O0 : Old Z n0 h0) (E1 : Exa Z h0 a1 cSK) (F1 : Fld Z h0 a1 cSK "quantity" lQC u1) (F2 : Fld Z h0 a1 cSK "end" lEC u2) (F3 : Fld Z h0 a1 cSK "pair" "I" u3) (F4 : Fld Z h0 a1 cSK "other" "I" u4) (g1 : n0 ≤ a1) (HQ : own_Qf Z qn idn otn "INSERTION_LOSS" (0 : Int32) (0 : Int32)) (HO : own_Of Z otn (0 : Int32)) (SX : Sta Z Z.heap cOC "ACROSS" lOC (.ref aX)) (ST : Sta Z Z.heap cEC "THROUGH" lEC (.ref aT)) (SS : Sta Z Z.heap cS1 nSM "[I" (.ref aS)) (VS : Arv Z Z.heap aS kS .int (6 : Int32) [(.int (2 : Int32)), (.int (4 : Int32)), (.int (3 : Int32)), (.int (5 : Int32)), (.int (6 : Int32)), (.int (1 : Int32))] (.int (0 : Int32))) (neX : ¬ otn = aX) (hp : ¬ p3 < (1 : Int32)) :
    MetFree l (⟨cSK, "<init>", dSI⟩ : MethodName) (head1 (Jvm.Cond.code (⟨cSK, "<init>", dSI⟩ : MethodName) prog_56_method_1_code 7 none :: ws) ({ frames := 4, cells := 2, slots := 3, locals := 54 } : Room)) (fun a U => a = #[(.ref a1), (.ref qn), (.ref aT), (.int p3), (.int (0 : Int32))] ∧ Z.Warmed39 U.vm ∧ U.heap = h0) (fun _ _ _ _ _ => True) (fun _ U o U' => ∃ v L, o = .returned v ∧ Q_si Z a1 qn aT p3 (0 : Int32) h0 n0 v U'.heap L ∧ FrameEnd U o U' L ({ frames := 4, cells := 2, slots := 3, locals := 54 } : Room).cells ({ frames := 4, cells := 2, slots := 3, locals := 54 } : Room).slots) := by
  refine MetFree.of_bodySF (plainFor_of_name pn_si0) hisR ?_
  intro p e s m args below meth c s₁ Bd hml0 hP hK
  obtain ⟨rfl, hZ, hh⟩ := hP
  have hx := Bd.exec
  have hby := Bd.bytes
  have hml : c.maxLocals = 7 := hml0
  have hown : s.vm.findClass cSK = some m.cls := findClass_of_methodNamed Bd.named
  have hnm := (name_of_methodNamed Bd.named Bd.method).1
  have X0 : Stand p l e ({ frames := 4, cells := 2, slots := 3, locals := 54 } : Room) s m #[(.ref a1), (.ref qn), (.ref aT), (.int p3), (.int (0 : Int32))] below meth c s₁ [] 0 0 := Stand.of_body Bd
  have e0 : s₁.heap = h0 := by rw [← hh, Bd.state]; rfl
  have N0 := Fr.nil n0
  have pre0 : ∀ t, Steps p.tables e below (s₁.setTop (mkF m 0 #[.val (.ref a1), .val (.ref qn), .val (.ref aT), .val (.int p3), .val (.int (0 : Int32)), .unset, .unset] [])) t → Steps p.tables e below (s₁.setTop (entryFrame m #[(.ref a1), (.ref qn), (.ref aT), (.int p3), (.int (0 : Int32))] 7)) t := fun t k => castTop (ef_si0 m a1 qn aT p3) k
  generalize s₁.setTop (entryFrame m #[(.ref a1), (.ref qn), (.ref aT), (.int p3), (.int (0 : Int32))] 7) = E0 at pre0 ⊢
  have pre_1 : ∀ t, Sp p e below s₁ (mkF m 1 #[.val (.ref a1), .val (.ref qn), .val (.ref aT), .val (.int p3), .val (.int (0 : Int32)), .unset, .unset] [(.ref a1)]) t → Steps p.tables e below E0 t := by
    intro t k
    refine pre0 t ?_
    show Sp p e below s₁ (mkF m 0 #[.val (.ref a1), .val (.ref qn), .val (.ref aT), .val (.int p3), .val (.int (0 : Int32)), .unset, .unset] []) _
    refine XS.aloadN X0.here hx rfl (hb hby d_prog_56_1_0) rfl rfl ?_
    exact k
  obtain ⟨_, _, ⟨T2, L2, k2, n2⟩, -, X2, ⟨Lc2, hQ2, l2, y2, z2⟩, st2⟩ := X0.specialBack hx (y := (⟨"java/lang/Record", "<init>", "()V"⟩ : MethodName)) rfl hown (mvT hZ (own_w hw 31 rfl)) (mvT hZ (own_w hw 32 rfl)) (mvT hZ (own_w hw 35 rfl)) (by decide) (backOf (W := 0) (rm_rec l Z a0 hw [] a1 h0 n0 O0) hZ (own_w hw 35 rfl) (own_w hw 34 rfl) (by decide) (by decide)) (g := (mkF m 1 #[.val (.ref a1), .val (.ref qn), .val (.ref aT), .val (.int p3), .val (.int (0 : Int32)), .unset, .unset] [(.ref a1)])) rfl (by rw [hml]; rfl) (Steps.refl _) (a := a1) (argsL := []) (rest := []) (lenOf pd_si0_0 rfl) rfl (by show 2 * 0 + _ ≤ _; exact Nat.le_of_eq rfl) (hb hby d_prog_56_1_1) (fun _ _ => ⟨rfl, e0, (by decide : 0 + 0 ≤ _), (by decide : 0 + 0 ≤ _)⟩)
  dsimp only [Pt.U, Pt.locs, Pt.cells, Pt.slots] at X2 l2 y2 z2 st2 hQ2
  subst l2 y2 z2
  obtain ⟨rfl, N2q, e2⟩ := hQ2
  have N2 := Fr.app N0 N2q
  have pre_3 : ∀ t, Sp p e below T2 (mkF m 4 #[.val (.ref a1), .val (.ref qn), .val (.ref aT), .val (.int p3), .val (.int (0 : Int32)), .unset, .unset] []) t → Steps p.tables e below E0 t := fun t k => pre_1 t (st2.trans k)
  have pre_4 : ∀ t, Sp p e below T2 (mkF m 5 #[.val (.ref a1), .val (.ref qn), .val (.ref aT), .val (.int p3), .val (.int (0 : Int32)), .unset, .unset] [(.ref qn)]) t → Steps p.tables e below E0 t := by
    intro t k
    refine pre_3 t ?_
    show Sp p e below T2 (mkF m 4 #[.val (.ref a1), .val (.ref qn), .val (.ref aT), .val (.int p3), .val (.int (0 : Int32)), .unset, .unset] []) _
    refine XS.aloadN X2.here hx rfl (hb hby d_prog_56_1_4) rfl rfl ?_
    exact k
  obtain ⟨cq5, kq5, qa5, qb5, qc5⟩ := isOf hZ e2 (HQ.2.1.ext O0.2)
  obtain ⟨_, _, ⟨T5, L5, k5, n5⟩, -, X5, ⟨Lc5, hQ5, l5, y5, z5⟩, st5⟩ := X2.virtualBack hx (y := (⟨cQC, "identifier", "()Ljava/lang/String;"⟩ : MethodName)) (z := (⟨cQC, "identifier", "()Ljava/lang/String;"⟩ : MethodName)) hown (mvT hZ (own_w hw 39 rfl)) (mvT hZ (own_w hw 40 rfl)) (notFace_of_selects (args := #[]) (mvT hZ (own_w hw 42 rfl))) (mvT hZ (own_w hw 42 rfl)) (mvT hZ (own_w hw 41 rfl)) (by decide) (backOf (W := 0) (rm_idm l Z a0 hw [] qn idn h0 n0 O0 (HQ.2.2.1.ext O0.2)) hZ (own_w hw 43 rfl) (own_w hw 20 rfl) (by decide) (by decide)) qa5 qc5 (g := (mkF m 5 #[.val (.ref a1), .val (.ref qn), .val (.ref aT), .val (.int p3), .val (.int (0 : Int32)), .unset, .unset] [(.ref qn)])) rfl (by rw [hml]; rfl) (Steps.refl _) (argsL := []) (rest := []) (lenOf pd_si0_1 rfl) rfl (by show 2 * 0 + _ ≤ _; exact Nat.le_of_eq rfl) (hb hby d_prog_56_1_5) (fun _ _ => ⟨rfl, e2, (by decide : 0 + 0 ≤ _), (by decide : 0 + 0 ≤ _)⟩)
  dsimp only [Pt.U, Pt.locs, Pt.cells, Pt.slots] at X5 l5 y5 z5 st5 hQ5
  subst l5 y5 z5
  obtain ⟨rfl, N5q, e5⟩ := hQ5
  have N5 := Fr.app N2 N5q
  have pre_6 : ∀ t, Sp p e below T5 (mkF m 8 #[.val (.ref a1), .val (.ref qn), .val (.ref aT), .val (.int p3), .val (.int (0 : Int32)), .unset, .unset] [(.ref idn)]) t → Steps p.tables e below E0 t := fun t k => pre_4 t (st5.trans k)
  have pre_7 : ∀ t, Sp p e below T5 (mkF m 11 #[.val (.ref a1), .val (.ref qn), .val (.ref aT), .val (.int p3), .val (.int (0 : Int32)), .val (.ref idn), .unset] [(.ref qn)]) t → Steps p.tables e below E0 t := by
    intro t k
    refine pre_6 t ?_
    show Sp p e below T5 (mkF m 8 #[.val (.ref a1), .val (.ref qn), .val (.ref aT), .val (.int p3), .val (.int (0 : Int32)), .unset, .unset] [(.ref idn)]) _
    refine XS.astore X5.here hx rfl (hb hby d_prog_56_1_8) rfl rfl (l' := #[.val (.ref a1), .val (.ref qn), .val (.ref aT), .val (.int p3), .val (.int (0 : Int32)), .val (.ref idn), .unset]) rfl ?_
    refine XS.aloadN X5.here hx rfl (hb hby d_prog_56_1_10) rfl rfl ?_
    exact k
  obtain ⟨cq8, kq8, qa8, qb8, qc8⟩ := isOf hZ e5 (HQ.2.1.ext O0.2)
  obtain ⟨_, _, ⟨T8, L8, k8, n8⟩, -, X8, ⟨Lc8, hQ8, l8, y8, z8⟩, st8⟩ := X5.virtualBack hx (y := (⟨cQC, "others", dOT⟩ : MethodName)) (z := (⟨cQC, "others", dOT⟩ : MethodName)) hown (mvT hZ (own_w hw 46 rfl)) (mvT hZ (own_w hw 47 rfl)) (notFace_of_selects (args := #[]) (mvT hZ (own_w hw 49 rfl))) (mvT hZ (own_w hw 49 rfl)) (mvT hZ (own_w hw 48 rfl)) (by decide) (backOf (W := 0) (rm_otm l Z a0 hw [] qn otn h0 n0 O0 (HQ.2.2.2.1.ext O0.2)) hZ (own_w hw 50 rfl) (own_w hw 20 rfl) (by decide) (by decide)) qa8 qc8 (g := (mkF m 11 #[.val (.ref a1), .val (.ref qn), .val (.ref aT), .val (.int p3), .val (.int (0 : Int32)), .val (.ref idn), .unset] [(.ref qn)])) rfl (by rw [hml]; rfl) (Steps.refl _) (argsL := []) (rest := []) (lenOf pd_si0_2 rfl) rfl (by show 2 * 0 + _ ≤ _; exact Nat.le_of_eq rfl) (hb hby d_prog_56_1_11) (fun _ _ => ⟨rfl, e5, (by decide : 0 + 0 ≤ _), (by decide : 0 + 0 ≤ _)⟩)
  dsimp only [Pt.U, Pt.locs, Pt.cells, Pt.slots] at X8 l8 y8 z8 st8 hQ8
  subst l8 y8 z8
  obtain ⟨rfl, N8q, e8⟩ := hQ8
  have N8 := Fr.app N5 N8q
  have pre_9 : ∀ t, Sp p e below T8 (mkF m 14 #[.val (.ref a1), .val (.ref qn), .val (.ref aT), .val (.int p3), .val (.int (0 : Int32)), .val (.ref idn), .unset] [(.ref otn)]) t → Steps p.tables e below E0 t := fun t k => pre_7 t (st8.trans k)
  obtain ⟨T10, X10, e10, st10⟩ := getS X8 hx hZ hown (host := "") (own_w hw 55 rfl) Via.refl e8 (SX.ext O0.2) (g := (mkF m 14 #[.val (.ref a1), .val (.ref qn), .val (.ref aT), .val (.int p3), .val (.int (0 : Int32)), .val (.ref idn), .unset] [(.ref otn)])) rfl (hb hby d_prog_56_1_14)
  have pre_11 : ∀ t, Sp p e below T10 (mkF m 17 #[.val (.ref a1), .val (.ref qn), .val (.ref aT), .val (.int p3), .val (.int (0 : Int32)), .val (.ref idn), .unset] [(.ref aX), (.ref otn)]) t → Steps p.tables e below E0 t := fun t k => pre_9 t (st10 t k)
  have pre_12 : ∀ t, Sp p e below T10 (mkF m 87 #[.val (.ref a1), .val (.ref qn), .val (.ref aT), .val (.int p3), .val (.int (0 : Int32)), .val (.ref idn), .val (.int (0 : Int32))] [(.ref qn)]) t → Steps p.tables e below E0 t := by
    intro t k
    refine pre_11 t ?_
    show Sp p e below T10 (mkF m 17 #[.val (.ref a1), .val (.ref qn), .val (.ref aT), .val (.int p3), .val (.int (0 : Int32)), .val (.ref idn), .unset] [(.ref aX), (.ref otn)]) _
    refine XT.acmpYes X10.here hx rfl (pc0 := 17) (pc' := 24) rfl (hb hby d_prog_56_1_17) rfl rfl rfl (XT.aa_ne_t (fun q => neX (Value.ref.inj q))) (by decide) (by decide) ?_
    refine XS.iconst X10.here hx rfl (hb hby d_prog_56_1_24) ?_
    refine XS.istore X10.here hx rfl (hb hby d_prog_56_1_25) rfl (l' := #[.val (.ref a1), .val (.ref qn), .val (.ref aT), .val (.int p3), .val (.int (0 : Int32)), .val (.ref idn), .val (.int (0 : Int32))]) rfl ?_
    refine XS.iload X10.here hx rfl (hb hby d_prog_56_1_27) rfl ?_
    show Sp p e below T10 (mkF m 29 #[.val (.ref a1), .val (.ref qn), .val (.ref aT), .val (.int p3), .val (.int (0 : Int32)), .val (.ref idn), .val (.int (0 : Int32))] [(.int (0 : Int32))]) _
    refine XS.ifYes X10.here hx rfl (pc0 := 29) (pc' := 62) rfl (hb hby d_prog_56_1_29) rfl (XT.i0_eq_t (by decide)) (by decide) (by decide) ?_
    refine XS.iload X10.here hx rfl (hb hby d_prog_56_1_62) rfl ?_
    refine XS.ifNo X10.here hx rfl (hb hby d_prog_56_1_64) rfl (XT.i0_ne_f (by decide)) ?_
    refine XS.iloadN X10.here hx rfl (hb hby d_prog_56_1_67) rfl ?_
    refine XS.iconst X10.here hx rfl (hb hby d_prog_56_1_68) ?_
    refine XS.icmpYes X10.here hx rfl (pc0 := 69) (pc' := 86) rfl (hb hby d_prog_56_1_69) rfl (XT.ii_ge_t hp) (by decide) (by decide) ?_
    refine XS.aloadN X10.here hx rfl (hb hby d_prog_56_1_86) rfl rfl ?_
    exact k
  obtain ⟨cq13, kq13, qa13, qb13, qc13⟩ := isOf hZ e10 (HQ.2.1.ext O0.2)
  obtain ⟨_, _, ⟨T13, L13, k13, n13⟩, -, X13, ⟨Lc13, hQ13, l13, y13, z13⟩, st13⟩ := X10.virtualBack hx (y := (⟨cQC, "atAnEnd", "()Z"⟩ : MethodName)) (z := (⟨cQC, "atAnEnd", "()Z"⟩ : MethodName)) hown (mvT hZ (own_w hw 57 rfl)) (mvT hZ (own_w hw 58 rfl)) (notFace_of_selects (args := #[]) (mvT hZ (own_w hw 60 rfl))) (mvT hZ (own_w hw 60 rfl)) (mvT hZ (own_w hw 59 rfl)) (by decide) (backOf (W := 0) (rm_atm0 l Z a0 hw [] qn  h0 n0 O0 (HQ.2.2.2.2.1.ext O0.2)) hZ (own_w hw 61 rfl) (own_w hw 20 rfl) (by decide) (by decide)) qa13 qc13 (g := (mkF m 87 #[.val (.ref a1), .val (.ref qn), .val (.ref aT), .val (.int p3), .val (.int (0 : Int32)), .val (.ref idn), .val (.int (0 : Int32))] [(.ref qn)])) rfl (by rw [hml]; rfl) (Steps.refl _) (argsL := []) (rest := []) (lenOf pd_si0_3 rfl) rfl (by show 2 * 0 + _ ≤ _; exact Nat.le_of_eq rfl) (hb hby d_prog_56_1_87) (fun _ _ => ⟨rfl, e10, (by decide : 0 + 0 ≤ _), (by decide : 0 + 0 ≤ _)⟩)
  dsimp only [Pt.U, Pt.locs, Pt.cells, Pt.slots] at X13 l13 y13 z13 st13 hQ13
  subst l13 y13 z13
  obtain ⟨rfl, N13q, e13⟩ := hQ13
  have N13 := Fr.app N8 N13q
  have pre_14 : ∀ t, Sp p e below T13 (mkF m 90 #[.val (.ref a1), .val (.ref qn), .val (.ref aT), .val (.int p3), .val (.int (0 : Int32)), .val (.ref idn), .val (.int (0 : Int32))] [(.int (0 : Int32))]) t → Steps p.tables e below E0 t := fun t k => pre_12 t (st13.trans k)
  have pre_15 : ∀ t, Sp p e below T13 (mkF m 116 #[.val (.ref a1), .val (.ref qn), .val (.ref aT), .val (.int p3), .val (.int (0 : Int32)), .val (.ref idn), .val (.int (0 : Int32))] [(.ref qn)]) t → Steps p.tables e below E0 t := by
    intro t k
    refine pre_14 t ?_
    show Sp p e below T13 (mkF m 90 #[.val (.ref a1), .val (.ref qn), .val (.ref aT), .val (.int p3), .val (.int (0 : Int32)), .val (.ref idn), .val (.int (0 : Int32))] [(.int (0 : Int32))]) _
    refine XS.ifYes X13.here hx rfl (pc0 := 90) (pc' := 115) rfl (hb hby d_prog_56_1_90) rfl (XT.i0_eq_t (by decide)) (by decide) (by decide) ?_
    show Sp p e below T13 (mkF m 115 #[.val (.ref a1), .val (.ref qn), .val (.ref aT), .val (.int p3), .val (.int (0 : Int32)), .val (.ref idn), .val (.int (0 : Int32))] []) _
    refine XS.aloadN X13.here hx rfl (hb hby d_prog_56_1_115) rfl rfl ?_
    exact k
  obtain ⟨cq16, kq16, qa16, qb16, qc16⟩ := isOf hZ e13 (HQ.2.1.ext O0.2)
  obtain ⟨_, _, ⟨T16, L16, k16, n16⟩, -, X16, ⟨Lc16, hQ16, l16, y16, z16⟩, st16⟩ := X13.virtualBack hx (y := (⟨cQC, "atAnEnd", "()Z"⟩ : MethodName)) (z := (⟨cQC, "atAnEnd", "()Z"⟩ : MethodName)) hown (mvT hZ (own_w hw 57 rfl)) (mvT hZ (own_w hw 58 rfl)) (notFace_of_selects (args := #[]) (mvT hZ (own_w hw 60 rfl))) (mvT hZ (own_w hw 60 rfl)) (mvT hZ (own_w hw 59 rfl)) (by decide) (backOf (W := 0) (rm_atm0 l Z a0 hw [] qn  h0 n0 O0 (HQ.2.2.2.2.1.ext O0.2)) hZ (own_w hw 61 rfl) (own_w hw 20 rfl) (by decide) (by decide)) qa16 qc16 (g := (mkF m 116 #[.val (.ref a1), .val (.ref qn), .val (.ref aT), .val (.int p3), .val (.int (0 : Int32)), .val (.ref idn), .val (.int (0 : Int32))] [(.ref qn)])) rfl (by rw [hml]; rfl) (Steps.refl _) (argsL := []) (rest := []) (lenOf pd_si0_3 rfl) rfl (by show 2 * 0 + _ ≤ _; exact Nat.le_of_eq rfl) (hb hby d_prog_56_1_116) (fun _ _ => ⟨rfl, e13, (by decide : 0 + 0 ≤ _), (by decide : 0 + 0 ≤ _)⟩)
  dsimp only [Pt.U, Pt.locs, Pt.cells, Pt.slots] at X16 l16 y16 z16 st16 hQ16
  subst l16 y16 z16
  obtain ⟨rfl, N16q, e16⟩ := hQ16
  have N16 := Fr.app N13 N16q
  have pre_17 : ∀ t, Sp p e below T16 (mkF m 119 #[.val (.ref a1), .val (.ref qn), .val (.ref aT), .val (.int p3), .val (.int (0 : Int32)), .val (.ref idn), .val (.int (0 : Int32))] [(.int (0 : Int32))]) t → Steps p.tables e below E0 t := fun t k => pre_15 t (st16.trans k)
  have pre_18 : ∀ t, Sp p e below T16 (mkF m 123 #[.val (.ref a1), .val (.ref qn), .val (.ref aT), .val (.int p3), .val (.int (0 : Int32)), .val (.ref idn), .val (.int (0 : Int32))] [(.ref aT)]) t → Steps p.tables e below E0 t := by
    intro t k
    refine pre_17 t ?_
    show Sp p e below T16 (mkF m 119 #[.val (.ref a1), .val (.ref qn), .val (.ref aT), .val (.int p3), .val (.int (0 : Int32)), .val (.ref idn), .val (.int (0 : Int32))] [(.int (0 : Int32))]) _
    refine XS.ifNo X16.here hx rfl (hb hby d_prog_56_1_119) rfl (XT.i0_ne_f (by decide)) ?_
    refine XS.aloadN X16.here hx rfl (hb hby d_prog_56_1_122) rfl rfl ?_
    exact k
  obtain ⟨T19, X19, e19, st19⟩ := getS X16 hx hZ hown (host := "") (own_w hw 64 rfl) Via.refl e16 (ST.ext O0.2) (g := (mkF m 123 #[.val (.ref a1), .val (.ref qn), .val (.ref aT), .val (.int p3), .val (.int (0 : Int32)), .val (.ref idn), .val (.int (0 : Int32))] [(.ref aT)])) rfl (hb hby d_prog_56_1_123)
  have pre_20 : ∀ t, Sp p e below T19 (mkF m 126 #[.val (.ref a1), .val (.ref qn), .val (.ref aT), .val (.int p3), .val (.int (0 : Int32)), .val (.ref idn), .val (.int (0 : Int32))] [(.ref aT), (.ref aT)]) t → Steps p.tables e below E0 t := fun t k => pre_18 t (st19 t k)
  have pre_21 : ∀ t, Sp p e below T19 (mkF m 148 #[.val (.ref a1), .val (.ref qn), .val (.ref aT), .val (.int p3), .val (.int (0 : Int32)), .val (.ref idn), .val (.int (0 : Int32))] []) t → Steps p.tables e below E0 t := by
    intro t k
    refine pre_20 t ?_
    show Sp p e below T19 (mkF m 126 #[.val (.ref a1), .val (.ref qn), .val (.ref aT), .val (.int p3), .val (.int (0 : Int32)), .val (.ref idn), .val (.int (0 : Int32))] [(.ref aT), (.ref aT)]) _
    refine XT.acmpYes X19.here hx rfl (pc0 := 126) (pc' := 148) rfl (hb hby d_prog_56_1_126) rfl rfl rfl (XT.aa_eq_t rfl) (by decide) (by decide) ?_
    exact k
  obtain ⟨T22, X22, e22, st22⟩ := getS X19 hx hZ hown (host := "") (own_w hw 65 rfl) Via.refl e19 (SS.ext O0.2) (g := (mkF m 148 #[.val (.ref a1), .val (.ref qn), .val (.ref aT), .val (.int p3), .val (.int (0 : Int32)), .val (.ref idn), .val (.int (0 : Int32))] [])) rfl (hb hby d_prog_56_1_148)
  have pre_23 : ∀ t, Sp p e below T22 (mkF m 151 #[.val (.ref a1), .val (.ref qn), .val (.ref aT), .val (.int p3), .val (.int (0 : Int32)), .val (.ref idn), .val (.int (0 : Int32))] [(.ref aS)]) t → Steps p.tables e below E0 t := fun t k => pre_21 t (st22 t k)
  have pre_24 : ∀ t, Sp p e below T22 (mkF m 152 #[.val (.ref a1), .val (.ref qn), .val (.ref aT), .val (.int p3), .val (.int (0 : Int32)), .val (.ref idn), .val (.int (0 : Int32))] [(.ref qn), (.ref aS)]) t → Steps p.tables e below E0 t := by
    intro t k
    refine pre_23 t ?_
    show Sp p e below T22 (mkF m 151 #[.val (.ref a1), .val (.ref qn), .val (.ref aT), .val (.int p3), .val (.int (0 : Int32)), .val (.ref idn), .val (.int (0 : Int32))] [(.ref aS)]) _
    refine XS.aloadN X22.here hx rfl (hb hby d_prog_56_1_151) rfl rfl ?_
    exact k
  obtain ⟨cq25, kq25, qa25, qb25, qc25⟩ := isOf hZ e22 (HQ.2.1.ext O0.2)
  obtain ⟨_, _, ⟨T25, L25, k25, n25⟩, -, X25, ⟨Lc25, hQ25, l25, y25, z25⟩, st25⟩ := X22.virtualBack hx (y := (⟨cQC, "others", dOT⟩ : MethodName)) (z := (⟨cQC, "others", dOT⟩ : MethodName)) hown (mvT hZ (own_w hw 46 rfl)) (mvT hZ (own_w hw 47 rfl)) (notFace_of_selects (args := #[]) (mvT hZ (own_w hw 49 rfl))) (mvT hZ (own_w hw 49 rfl)) (mvT hZ (own_w hw 48 rfl)) (by decide) (backOf (W := 1) (rm_otm l Z a0 hw [] qn otn h0 n0 O0 (HQ.2.2.2.1.ext O0.2)) hZ (own_w hw 50 rfl) (own_w hw 20 rfl) (by decide) (by decide)) qa25 qc25 (g := (mkF m 152 #[.val (.ref a1), .val (.ref qn), .val (.ref aT), .val (.int p3), .val (.int (0 : Int32)), .val (.ref idn), .val (.int (0 : Int32))] [(.ref qn), (.ref aS)])) rfl (by rw [hml]; rfl) (Steps.refl _) (argsL := []) (rest := [(.ref aS)]) (lenOf pd_si0_2 rfl) rfl (by show 2 * 0 + _ ≤ _; exact Nat.le_of_eq rfl) (hb hby d_prog_56_1_152) (fun _ _ => ⟨rfl, e22, (by decide : 0 + 0 ≤ _), (by decide : 0 + 0 ≤ _)⟩)
  dsimp only [Pt.U, Pt.locs, Pt.cells, Pt.slots] at X25 l25 y25 z25 st25 hQ25
  subst l25 y25 z25
  obtain ⟨rfl, N25q, e25⟩ := hQ25
  have N25 := Fr.app N16 N25q
  have pre_26 : ∀ t, Sp p e below T25 (mkF m 155 #[.val (.ref a1), .val (.ref qn), .val (.ref aT), .val (.int p3), .val (.int (0 : Int32)), .val (.ref idn), .val (.int (0 : Int32))] [(.ref otn), (.ref aS)]) t → Steps p.tables e below E0 t := fun t k => pre_24 t (st25.trans k)
  obtain ⟨cq27, kq27, qa27, qb27, qc27⟩ := isOf hZ e25 (HO.1.ext O0.2)
  obtain ⟨_, _, ⟨T27, L27, k27, n27⟩, -, X27, ⟨Lc27, hQ27, l27, y27, z27⟩, st27⟩ := X25.virtualBackUp hx (x := (⟨cOC, "ordinal", "()I"⟩ : MethodName)) (y := (⟨cEN, "ordinal", "()I"⟩ : MethodName)) hown (mvT hZ (own_w hw 68 rfl)) (mvT hZ (own_w hw 69 rfl)) (mvT hZ (own_w hw 70 rfl)) (by decide) (mvT hZ (own_w hw 72 rfl)) (mvT hZ (own_w hw 71 rfl)) (backOf (W := 1) (rm_ord l Z a0 hw [] otn (0 : Int32) h0 n0 O0 (HO.2.ext O0.2)) hZ (own_w hw 74 rfl) (own_w hw 73 rfl) (by decide) (by decide)) qa27 qc27 (g := (mkF m 155 #[.val (.ref a1), .val (.ref qn), .val (.ref aT), .val (.int p3), .val (.int (0 : Int32)), .val (.ref idn), .val (.int (0 : Int32))] [(.ref otn), (.ref aS)])) rfl (by rw [hml]; rfl) (Steps.refl _) (argsL := []) (rest := [(.ref aS)]) (lenOf pd_si0_4 rfl) rfl (by show 2 * 0 + _ ≤ _; exact Nat.le_of_eq rfl) (hb hby d_prog_56_1_155) (fun _ _ => ⟨rfl, e25, (by decide : 0 + 0 ≤ _), (by decide : 0 + 0 ≤ _)⟩)
  dsimp only [Pt.U, Pt.locs, Pt.cells, Pt.slots] at X27 l27 y27 z27 st27 hQ27
  subst l27 y27 z27
  obtain ⟨rfl, N27q, e27⟩ := hQ27
  have N27 := Fr.app N25 N27q
  have pre_28 : ∀ t, Sp p e below T27 (mkF m 158 #[.val (.ref a1), .val (.ref qn), .val (.ref aT), .val (.int p3), .val (.int (0 : Int32)), .val (.ref idn), .val (.int (0 : Int32))] [(.int (0 : Int32)), (.ref aS)]) t → Steps p.tables e below E0 t := fun t k => pre_26 t (st27.trans k)
  have pre_30 : ∀ t, Sp p e below T27 (mkF m 334 #[.val (.ref a1), .val (.ref qn), .val (.ref aT), .val (.int p3), .val (.int (0 : Int32)), .val (.ref idn), .val (.int (0 : Int32))] [(.ref qn), (.ref a1)]) t → Steps p.tables e below E0 t := by
    intro t k
    refine pre_28 t ?_
    obtain ⟨cl29, Ar29, -, S29, -, H29, -⟩ := id (VS.ext O0.2)
    have hin29 : ¬ ((0 : Int32) < 0 ∨ cl29.slots.size ≤ ((0 : Int32)).toNatClampNeg) := inb_of S29 (by decide)
    refine X27.iaload hx (j := (0 : Int32)) (v := (.int (2 : Int32))) (by rw [e27]; exact Ar29.1) (State.isArrayOf_alike hZ.alike Ar29.2.1) Ar29.2.2 hin29 (H29.at hin29 rfl) (g := (mkF m 158 #[.val (.ref a1), .val (.ref qn), .val (.ref aT), .val (.int p3), .val (.int (0 : Int32)), .val (.ref idn), .val (.int (0 : Int32))] [(.int (0 : Int32)), (.ref aS)])) rfl rfl (hb hby d_prog_56_1_158) _ ?_
    refine XS.tswIn X27.here hx rfl (pc0 := 159) (pc' := 199) rfl (hb hby d_prog_56_1_159) rfl (by decide) (o := 40) rfl (by decide) (by decide) ?_
    refine XS.iload X27.here hx rfl (hb hby d_prog_56_1_199) rfl ?_
    show Sp p e below T27 (mkF m 201 #[.val (.ref a1), .val (.ref qn), .val (.ref aT), .val (.int p3), .val (.int (0 : Int32)), .val (.ref idn), .val (.int (0 : Int32))] [(.int (0 : Int32))]) _
    refine XS.ifYes X27.here hx rfl (pc0 := 201) (pc' := 332) rfl (hb hby d_prog_56_1_201) rfl (XT.i0_eq_t (by decide)) (by decide) (by decide) ?_
    refine XS.aloadN X27.here hx rfl (hb hby d_prog_56_1_332) rfl rfl ?_
    refine XS.aloadN X27.here hx rfl (hb hby d_prog_56_1_333) rfl rfl ?_
    exact k
  obtain ⟨T31, h31, X31, e31, W31, st31⟩ := putF X27 hx hZ hown (host := "") (Or.inl (own_w hw 77 rfl)) Via.refl e27 F1 E1 (Or.inr ⟨(own_w hw 78 rfl), rfl, hnm⟩) (own_w hw 14 rfl) (ty := (.object cQC)) (by decide) rfl rfl (g := (mkF m 334 #[.val (.ref a1), .val (.ref qn), .val (.ref aT), .val (.int p3), .val (.int (0 : Int32)), .val (.ref idn), .val (.int (0 : Int32))] [(.ref qn), (.ref a1)])) rfl rfl (hb hby d_prog_56_1_334)
  have Fw31 := F1.same W31
  have N31 := Fr.snoc X31 N27 g1
  have O31 : Old Z n0 h31 := O0.wr W31 g1
  have pre_32 : ∀ t, Sp p e below T31 (mkF m 337 #[.val (.ref a1), .val (.ref qn), .val (.ref aT), .val (.int p3), .val (.int (0 : Int32)), .val (.ref idn), .val (.int (0 : Int32))] []) t → Steps p.tables e below E0 t := fun t k => pre_30 t (st31 t k)
  have pre_33 : ∀ t, Sp p e below T31 (mkF m 339 #[.val (.ref a1), .val (.ref qn), .val (.ref aT), .val (.int p3), .val (.int (0 : Int32)), .val (.ref idn), .val (.int (0 : Int32))] [(.ref aT), (.ref a1)]) t → Steps p.tables e below E0 t := by
    intro t k
    refine pre_32 t ?_
    show Sp p e below T31 (mkF m 337 #[.val (.ref a1), .val (.ref qn), .val (.ref aT), .val (.int p3), .val (.int (0 : Int32)), .val (.ref idn), .val (.int (0 : Int32))] []) _
    refine XS.aloadN X31.here hx rfl (hb hby d_prog_56_1_337) rfl rfl ?_
    refine XS.aloadN X31.here hx rfl (hb hby d_prog_56_1_338) rfl rfl ?_
    exact k
  obtain ⟨T34, h34, X34, e34, W34, st34⟩ := putF X31 hx hZ hown (host := "") (Or.inl (own_w hw 79 rfl)) Via.refl e31 (F2.other W31 (Or.inr (slot_ne (Or.inr (own_w hw 80 rfl)) (Or.inr (own_w hw 78 rfl)) (by decide) (t := (.object cEC)) (t' := (.object cQC)) (by decide) (by decide)))) (E1.wr W31) (Or.inr ⟨(own_w hw 80 rfl), rfl, hnm⟩) (own_w hw 14 rfl) (ty := (.object cEC)) (by decide) rfl rfl (g := (mkF m 339 #[.val (.ref a1), .val (.ref qn), .val (.ref aT), .val (.int p3), .val (.int (0 : Int32)), .val (.ref idn), .val (.int (0 : Int32))] [(.ref aT), (.ref a1)])) rfl rfl (hb hby d_prog_56_1_339)
  have Fw34 := (F2.other W31 (Or.inr (slot_ne (Or.inr (own_w hw 80 rfl)) (Or.inr (own_w hw 78 rfl)) (by decide) (t := (.object cEC)) (t' := (.object cQC)) (by decide) (by decide)))).same W34
  have N34 := Fr.snoc X34 N31 g1
  have O34 : Old Z n0 h34 := O31.wr W34 g1
  have pre_35 : ∀ t, Sp p e below T34 (mkF m 342 #[.val (.ref a1), .val (.ref qn), .val (.ref aT), .val (.int p3), .val (.int (0 : Int32)), .val (.ref idn), .val (.int (0 : Int32))] []) t → Steps p.tables e below E0 t := fun t k => pre_33 t (st34 t k)
  have pre_36 : ∀ t, Sp p e below T34 (mkF m 344 #[.val (.ref a1), .val (.ref qn), .val (.ref aT), .val (.int p3), .val (.int (0 : Int32)), .val (.ref idn), .val (.int (0 : Int32))] [(.int p3), (.ref a1)]) t → Steps p.tables e below E0 t := by
    intro t k
    refine pre_35 t ?_
    show Sp p e below T34 (mkF m 342 #[.val (.ref a1), .val (.ref qn), .val (.ref aT), .val (.int p3), .val (.int (0 : Int32)), .val (.ref idn), .val (.int (0 : Int32))] []) _
    refine XS.aloadN X34.here hx rfl (hb hby d_prog_56_1_342) rfl rfl ?_
    refine XS.iloadN X34.here hx rfl (hb hby d_prog_56_1_343) rfl ?_
    exact k
  obtain ⟨T37, h37, X37, e37, W37, st37⟩ := putF X34 hx hZ hown (host := "") (Or.inl (own_w hw 81 rfl)) Via.refl e34 ((F3.other W31 (Or.inr (slot_ne (Or.inr (own_w hw 82 rfl)) (Or.inr (own_w hw 78 rfl)) (by decide) (t := .int) (t' := (.object cQC)) (by decide) (by decide)))).other W34 (Or.inr (slot_ne (Or.inr (own_w hw 82 rfl)) (Or.inr (own_w hw 80 rfl)) (by decide) (t := .int) (t' := (.object cEC)) (by decide) (by decide)))) ((E1.wr W31).wr W34) (Or.inr ⟨(own_w hw 82 rfl), rfl, hnm⟩) (own_w hw 14 rfl) (ty := .int) (by decide) rfl rfl (g := (mkF m 344 #[.val (.ref a1), .val (.ref qn), .val (.ref aT), .val (.int p3), .val (.int (0 : Int32)), .val (.ref idn), .val (.int (0 : Int32))] [(.int p3), (.ref a1)])) rfl rfl (hb hby d_prog_56_1_344)
  have Fw37 := ((F3.other W31 (Or.inr (slot_ne (Or.inr (own_w hw 82 rfl)) (Or.inr (own_w hw 78 rfl)) (by decide) (t := .int) (t' := (.object cQC)) (by decide) (by decide)))).other W34 (Or.inr (slot_ne (Or.inr (own_w hw 82 rfl)) (Or.inr (own_w hw 80 rfl)) (by decide) (t := .int) (t' := (.object cEC)) (by decide) (by decide)))).same W37
  have N37 := Fr.snoc X37 N34 g1
  have O37 : Old Z n0 h37 := O34.wr W37 g1
  have pre_38 : ∀ t, Sp p e below T37 (mkF m 347 #[.val (.ref a1), .val (.ref qn), .val (.ref aT), .val (.int p3), .val (.int (0 : Int32)), .val (.ref idn), .val (.int (0 : Int32))] []) t → Steps p.tables e below E0 t := fun t k => pre_36 t (st37 t k)
  have pre_39 : ∀ t, Sp p e below T37 (mkF m 350 #[.val (.ref a1), .val (.ref qn), .val (.ref aT), .val (.int p3), .val (.int (0 : Int32)), .val (.ref idn), .val (.int (0 : Int32))] [(.int (0 : Int32)), (.ref a1)]) t → Steps p.tables e below E0 t := by
    intro t k
    refine pre_38 t ?_
    show Sp p e below T37 (mkF m 347 #[.val (.ref a1), .val (.ref qn), .val (.ref aT), .val (.int p3), .val (.int (0 : Int32)), .val (.ref idn), .val (.int (0 : Int32))] []) _
    refine XS.aloadN X37.here hx rfl (hb hby d_prog_56_1_347) rfl rfl ?_
    show Sp p e below T37 (mkF m 348 #[.val (.ref a1), .val (.ref qn), .val (.ref aT), .val (.int p3), .val (.int (0 : Int32)), .val (.ref idn), .val (.int (0 : Int32))] [(.ref a1)]) _
    refine XS.iload X37.here hx rfl (hb hby d_prog_56_1_348) rfl ?_
    exact k
  obtain ⟨T40, h40, X40, e40, W40, st40⟩ := putF X37 hx hZ hown (host := "") (Or.inl (own_w hw 83 rfl)) Via.refl e37 (((F4.other W31 (Or.inr (slot_ne (Or.inr (own_w hw 84 rfl)) (Or.inr (own_w hw 78 rfl)) (by decide) (t := .int) (t' := (.object cQC)) (by decide) (by decide)))).other W34 (Or.inr (slot_ne (Or.inr (own_w hw 84 rfl)) (Or.inr (own_w hw 80 rfl)) (by decide) (t := .int) (t' := (.object cEC)) (by decide) (by decide)))).other W37 (Or.inr (slot_ne (Or.inr (own_w hw 84 rfl)) (Or.inr (own_w hw 82 rfl)) (by decide) (t := .int) (t' := .int) (by decide) (by decide)))) (((E1.wr W31).wr W34).wr W37) (Or.inr ⟨(own_w hw 84 rfl), rfl, hnm⟩) (own_w hw 14 rfl) (ty := .int) (by decide) rfl rfl (g := (mkF m 350 #[.val (.ref a1), .val (.ref qn), .val (.ref aT), .val (.int p3), .val (.int (0 : Int32)), .val (.ref idn), .val (.int (0 : Int32))] [(.int (0 : Int32)), (.ref a1)])) rfl rfl (hb hby d_prog_56_1_350)
  have Fw40 := (((F4.other W31 (Or.inr (slot_ne (Or.inr (own_w hw 84 rfl)) (Or.inr (own_w hw 78 rfl)) (by decide) (t := .int) (t' := (.object cQC)) (by decide) (by decide)))).other W34 (Or.inr (slot_ne (Or.inr (own_w hw 84 rfl)) (Or.inr (own_w hw 80 rfl)) (by decide) (t := .int) (t' := (.object cEC)) (by decide) (by decide)))).other W37 (Or.inr (slot_ne (Or.inr (own_w hw 84 rfl)) (Or.inr (own_w hw 82 rfl)) (by decide) (t := .int) (t' := .int) (by decide) (by decide)))).same W40
  have N40 := Fr.snoc X40 N37 g1
  have O40 : Old Z n0 h40 := O37.wr W40 g1
  have pre_41 : ∀ t, Sp p e below T40 (mkF m 353 #[.val (.ref a1), .val (.ref qn), .val (.ref aT), .val (.int p3), .val (.int (0 : Int32)), .val (.ref idn), .val (.int (0 : Int32))] []) t → Steps p.tables e below E0 t := fun t k => pre_39 t (st40 t k)
  obtain ⟨fs, hr, hrun, hended, hW, hsame⟩ := X40.leave (v := none) (fun _ => rfl)
  refine ⟨_, _, pre_41 _ ?_, hrun, hended, _, _, rfl, ?_, ⟨_, rfl⟩, hW, hsame.mono (by decide) (by decide)⟩
  · show Sp p e below T40 (mkF m 353 #[.val (.ref a1), .val (.ref qn), .val (.ref aT), .val (.int p3), .val (.int (0 : Int32)), .val (.ref idn), .val (.int (0 : Int32))] []) _
    exact X40.returnOut hx Bd.returns (hb hby d_prog_56_1_353) hr
  · show Q_si Z _ _ _ _ _ h0 n0 _ T40.heap _
    rw [e40]
    exact ⟨rfl, N40, (((((Keep.refl h0 [a1]).wr W31 (Or.inl (List.mem_of_getElem? (i := 0) rfl))).wr W34 (Or.inl (List.mem_of_getElem? (i := 0) rfl))).wr W37 (Or.inl (List.mem_of_getElem? (i := 0) rfl))).wr W40 (Or.inl (List.mem_of_getElem? (i := 0) rfl))), (((Fw31.other W34 (Or.inr (slot_ne (Or.inr (own_w hw 78 rfl)) (Or.inr (own_w hw 80 rfl)) (by decide) (t := (.object cQC)) (t' := (.object cEC)) (by decide) (by decide)))).other W37 (Or.inr (slot_ne (Or.inr (own_w hw 78 rfl)) (Or.inr (own_w hw 82 rfl)) (by decide) (t := (.object cQC)) (t' := .int) (by decide) (by decide)))).other W40 (Or.inr (slot_ne (Or.inr (own_w hw 78 rfl)) (Or.inr (own_w hw 84 rfl)) (by decide) (t := (.object cQC)) (t' := .int) (by decide) (by decide)))), ((Fw34.other W37 (Or.inr (slot_ne (Or.inr (own_w hw 80 rfl)) (Or.inr (own_w hw 82 rfl)) (by decide) (t := (.object cEC)) (t' := .int) (by decide) (by decide)))).other W40 (Or.inr (slot_ne (Or.inr (own_w hw 80 rfl)) (Or.inr (own_w hw 84 rfl)) (by decide) (t := (.object cEC)) (t' := .int) (by decide) (by decide)))), (Fw37.other W40 (Or.inr (slot_ne (Or.inr (own_w hw 82 rfl)) (Or.inr (own_w hw 84 rfl)) (by decide) (t := .int) (t' := .int) (by decide) (by decide)))), Fw40⟩
theorem d_prog_56_1_93 : decode prog_56_method_1_code 93 = .ok (.aload_n 2, 1) := by decide +kernel
theorem d_prog_56_1_94 : decode prog_56_method_1_code 94 = .ok (.getstatic 44, 3) := by decide +kernel
theorem d_prog_56_1_97 : decode prog_56_method_1_code 97 = .ok (.if_acmp .ne 18, 3) := by decide +kernel
theorem d_prog_56_1_221 : decode prog_56_method_1_code 221 = .ok (.iload 4, 2) := by decide +kernel
theorem d_prog_56_1_223 : decode prog_56_method_1_code 223 = .ok (.iload_n 3, 1) := by decide +kernel
theorem d_prog_56_1_224 : decode prog_56_method_1_code 224 = .ok (.if_icmp .gt 108, 3) := by decide +kernel
theorem pn_si1 : plainName cSK = true := by first | (simp [plainName, overriddenIn]; done) | decide +kernel
theorem pd_si1_0 : parseMethodDescriptor "()V" = some ⟨[], none⟩ := by decide +kernel
theorem pd_si1_1 : parseMethodDescriptor "()Ljava/lang/String;" = some ⟨[], some (.object "java/lang/String")⟩ := by decide +kernel
theorem pd_si1_2 : parseMethodDescriptor dOT = some ⟨[], some (.object cOC)⟩ := by decide +kernel
theorem pd_si1_3 : parseMethodDescriptor "()Z" = some ⟨[], some .boolean⟩ := by decide +kernel
theorem pd_si1_4 : parseMethodDescriptor "()I" = some ⟨[], some .int⟩ := by decide +kernel
theorem ef_si1 (m : MethodId) (a1 : Addr) (qn : Addr) (edn : Addr) (p3 : Int32) (p4 : Int32) : entryFrame m #[(.ref a1), (.ref qn), (.ref edn), (.int p3), (.int p4)] 7 = (mkF m 0 #[.val (.ref a1), .val (.ref qn), .val (.ref edn), .val (.int p3), .val (.int p4), .unset, .unset] []) := by first | (simp [entryFrame, mkF, argsToLocals, Value.category]; done) | rfl
set_option maxRecDepth 65536 in
set_option maxHeartbeats 40000000 in
theorem rm_si1 (l : Launch) (Z : State) (a0 : Array Value) (hw : ∀ d ∈ tables_1, d.before a0 Z = true) (ws : List Jvm.Cond) (a1 : Addr) (qn : Addr) (edn : Addr) (p3 : Int32) (p4 : Int32) (u1 u2 u3 u4 : Value) (idn : Addr) (otn : Addr) (aX aS : Addr) (kS : ClassId) (aT : Addr) (h0 : Heap) (n0 : Nat) (O0 : Old Z n0 h0) (E1 : Exa Z h0 a1 cSK) (F1 : Fld Z h0 a1 cSK "quantity" lQC u1) (F2 : Fld Z h0 a1 cSK "end" lEC u2) (F3 : Fld Z h0 a1 cSK "pair" "I" u3) (F4 : Fld Z h0 a1 cSK "other" "I" u4) (g1 : n0 ≤ a1) (HQ : own_Qf Z qn idn otn "NEXT" (1 : Int32) (1 : Int32)) (HO : own_Of Z otn (1 : Int32)) (SX : Sta Z Z.heap cOC "ACROSS" lOC (.ref aX)) (ST : Sta Z Z.heap cEC "THROUGH" lEC (.ref aT)) (SS : Sta Z Z.heap cS1 nSM "[I" (.ref aS)) (VS : Arv Z Z.heap aS kS .int (6 : Int32) [(.int (2 : Int32)), (.int (4 : Int32)), (.int (3 : Int32)), (.int (5 : Int32)), (.int (6 : Int32)), (.int (1 : Int32))] (.int (0 : Int32))) (neX : ¬ otn = aX) (neT : ¬ edn = aT) (hp : ¬ p3 < (1 : Int32)) (hq : p3 < p4) :
    MetFree l (⟨cSK, "<init>", dSI⟩ : MethodName) (head1 (Jvm.Cond.code (⟨cSK, "<init>", dSI⟩ : MethodName) prog_56_method_1_code 7 none :: ws) ({ frames := 4, cells := 2, slots := 3, locals := 54 } : Room)) (fun a U => a = #[(.ref a1), (.ref qn), (.ref edn), (.int p3), (.int p4)] ∧ Z.Warmed39 U.vm ∧ U.heap = h0) (fun _ _ _ _ _ => True) (fun _ U o U' => ∃ v L, o = .returned v ∧ Q_si Z a1 qn edn p3 p4 h0 n0 v U'.heap L ∧ FrameEnd U o U' L ({ frames := 4, cells := 2, slots := 3, locals := 54 } : Room).cells ({ frames := 4, cells := 2, slots := 3, locals := 54 } : Room).slots) := by
  refine MetFree.of_bodySF (plainFor_of_name pn_si1) hisR ?_
  intro p e s m args below meth c s₁ Bd hml0 hP hK
  obtain ⟨rfl, hZ, hh⟩ := hP
  have hx := Bd.exec
  have hby := Bd.bytes
  have hml : c.maxLocals = 7 := hml0
  have hown : s.vm.findClass cSK = some m.cls := findClass_of_methodNamed Bd.named
  have hnm := (name_of_methodNamed Bd.named Bd.method).1
  have X0 : Stand p l e ({ frames := 4, cells := 2, slots := 3, locals := 54 } : Room) s m #[(.ref a1), (.ref qn), (.ref edn), (.int p3), (.int p4)] below meth c s₁ [] 0 0 := Stand.of_body Bd
  have e0 : s₁.heap = h0 := by rw [← hh, Bd.state]; rfl
  have N0 := Fr.nil n0
  have pre0 : ∀ t, Steps p.tables e below (s₁.setTop (mkF m 0 #[.val (.ref a1), .val (.ref qn), .val (.ref edn), .val (.int p3), .val (.int p4), .unset, .unset] [])) t → Steps p.tables e below (s₁.setTop (entryFrame m #[(.ref a1), (.ref qn), (.ref edn), (.int p3), (.int p4)] 7)) t := fun t k => castTop (ef_si1 m a1 qn edn p3 p4) k
  generalize s₁.setTop (entryFrame m #[(.ref a1), (.ref qn), (.ref edn), (.int p3), (.int p4)] 7) = E0 at pre0 ⊢
  have pre_1 : ∀ t, Sp p e below s₁ (mkF m 1 #[.val (.ref a1), .val (.ref qn), .val (.ref edn), .val (.int p3), .val (.int p4), .unset, .unset] [(.ref a1)]) t → Steps p.tables e below E0 t := by
    intro t k
    refine pre0 t ?_
    show Sp p e below s₁ (mkF m 0 #[.val (.ref a1), .val (.ref qn), .val (.ref edn), .val (.int p3), .val (.int p4), .unset, .unset] []) _
    refine XS.aloadN X0.here hx rfl (hb hby d_prog_56_1_0) rfl rfl ?_
    exact k
  obtain ⟨_, _, ⟨T2, L2, k2, n2⟩, -, X2, ⟨Lc2, hQ2, l2, y2, z2⟩, st2⟩ := X0.specialBack hx (y := (⟨"java/lang/Record", "<init>", "()V"⟩ : MethodName)) rfl hown (mvT hZ (own_w hw 31 rfl)) (mvT hZ (own_w hw 32 rfl)) (mvT hZ (own_w hw 35 rfl)) (by decide) (backOf (W := 0) (rm_rec l Z a0 hw [] a1 h0 n0 O0) hZ (own_w hw 35 rfl) (own_w hw 34 rfl) (by decide) (by decide)) (g := (mkF m 1 #[.val (.ref a1), .val (.ref qn), .val (.ref edn), .val (.int p3), .val (.int p4), .unset, .unset] [(.ref a1)])) rfl (by rw [hml]; rfl) (Steps.refl _) (a := a1) (argsL := []) (rest := []) (lenOf pd_si1_0 rfl) rfl (by show 2 * 0 + _ ≤ _; exact Nat.le_of_eq rfl) (hb hby d_prog_56_1_1) (fun _ _ => ⟨rfl, e0, (by decide : 0 + 0 ≤ _), (by decide : 0 + 0 ≤ _)⟩)
  dsimp only [Pt.U, Pt.locs, Pt.cells, Pt.slots] at X2 l2 y2 z2 st2 hQ2
  subst l2 y2 z2
  obtain ⟨rfl, N2q, e2⟩ := hQ2
  have N2 := Fr.app N0 N2q
  have pre_3 : ∀ t, Sp p e below T2 (mkF m 4 #[.val (.ref a1), .val (.ref qn), .val (.ref edn), .val (.int p3), .val (.int p4), .unset, .unset] []) t → Steps p.tables e below E0 t := fun t k => pre_1 t (st2.trans k)
  have pre_4 : ∀ t, Sp p e below T2 (mkF m 5 #[.val (.ref a1), .val (.ref qn), .val (.ref edn), .val (.int p3), .val (.int p4), .unset, .unset] [(.ref qn)]) t → Steps p.tables e below E0 t := by
    intro t k
    refine pre_3 t ?_
    show Sp p e below T2 (mkF m 4 #[.val (.ref a1), .val (.ref qn), .val (.ref edn), .val (.int p3), .val (.int p4), .unset, .unset] []) _
    refine XS.aloadN X2.here hx rfl (hb hby d_prog_56_1_4) rfl rfl ?_
    exact k
  obtain ⟨cq5, kq5, qa5, qb5, qc5⟩ := isOf hZ e2 (HQ.2.1.ext O0.2)
  obtain ⟨_, _, ⟨T5, L5, k5, n5⟩, -, X5, ⟨Lc5, hQ5, l5, y5, z5⟩, st5⟩ := X2.virtualBack hx (y := (⟨cQC, "identifier", "()Ljava/lang/String;"⟩ : MethodName)) (z := (⟨cQC, "identifier", "()Ljava/lang/String;"⟩ : MethodName)) hown (mvT hZ (own_w hw 39 rfl)) (mvT hZ (own_w hw 40 rfl)) (notFace_of_selects (args := #[]) (mvT hZ (own_w hw 42 rfl))) (mvT hZ (own_w hw 42 rfl)) (mvT hZ (own_w hw 41 rfl)) (by decide) (backOf (W := 0) (rm_idm l Z a0 hw [] qn idn h0 n0 O0 (HQ.2.2.1.ext O0.2)) hZ (own_w hw 43 rfl) (own_w hw 20 rfl) (by decide) (by decide)) qa5 qc5 (g := (mkF m 5 #[.val (.ref a1), .val (.ref qn), .val (.ref edn), .val (.int p3), .val (.int p4), .unset, .unset] [(.ref qn)])) rfl (by rw [hml]; rfl) (Steps.refl _) (argsL := []) (rest := []) (lenOf pd_si1_1 rfl) rfl (by show 2 * 0 + _ ≤ _; exact Nat.le_of_eq rfl) (hb hby d_prog_56_1_5) (fun _ _ => ⟨rfl, e2, (by decide : 0 + 0 ≤ _), (by decide : 0 + 0 ≤ _)⟩)
  dsimp only [Pt.U, Pt.locs, Pt.cells, Pt.slots] at X5 l5 y5 z5 st5 hQ5
  subst l5 y5 z5
  obtain ⟨rfl, N5q, e5⟩ := hQ5
  have N5 := Fr.app N2 N5q
  have pre_6 : ∀ t, Sp p e below T5 (mkF m 8 #[.val (.ref a1), .val (.ref qn), .val (.ref edn), .val (.int p3), .val (.int p4), .unset, .unset] [(.ref idn)]) t → Steps p.tables e below E0 t := fun t k => pre_4 t (st5.trans k)
  have pre_7 : ∀ t, Sp p e below T5 (mkF m 11 #[.val (.ref a1), .val (.ref qn), .val (.ref edn), .val (.int p3), .val (.int p4), .val (.ref idn), .unset] [(.ref qn)]) t → Steps p.tables e below E0 t := by
    intro t k
    refine pre_6 t ?_
    show Sp p e below T5 (mkF m 8 #[.val (.ref a1), .val (.ref qn), .val (.ref edn), .val (.int p3), .val (.int p4), .unset, .unset] [(.ref idn)]) _
    refine XS.astore X5.here hx rfl (hb hby d_prog_56_1_8) rfl rfl (l' := #[.val (.ref a1), .val (.ref qn), .val (.ref edn), .val (.int p3), .val (.int p4), .val (.ref idn), .unset]) rfl ?_
    refine XS.aloadN X5.here hx rfl (hb hby d_prog_56_1_10) rfl rfl ?_
    exact k
  obtain ⟨cq8, kq8, qa8, qb8, qc8⟩ := isOf hZ e5 (HQ.2.1.ext O0.2)
  obtain ⟨_, _, ⟨T8, L8, k8, n8⟩, -, X8, ⟨Lc8, hQ8, l8, y8, z8⟩, st8⟩ := X5.virtualBack hx (y := (⟨cQC, "others", dOT⟩ : MethodName)) (z := (⟨cQC, "others", dOT⟩ : MethodName)) hown (mvT hZ (own_w hw 46 rfl)) (mvT hZ (own_w hw 47 rfl)) (notFace_of_selects (args := #[]) (mvT hZ (own_w hw 49 rfl))) (mvT hZ (own_w hw 49 rfl)) (mvT hZ (own_w hw 48 rfl)) (by decide) (backOf (W := 0) (rm_otm l Z a0 hw [] qn otn h0 n0 O0 (HQ.2.2.2.1.ext O0.2)) hZ (own_w hw 50 rfl) (own_w hw 20 rfl) (by decide) (by decide)) qa8 qc8 (g := (mkF m 11 #[.val (.ref a1), .val (.ref qn), .val (.ref edn), .val (.int p3), .val (.int p4), .val (.ref idn), .unset] [(.ref qn)])) rfl (by rw [hml]; rfl) (Steps.refl _) (argsL := []) (rest := []) (lenOf pd_si1_2 rfl) rfl (by show 2 * 0 + _ ≤ _; exact Nat.le_of_eq rfl) (hb hby d_prog_56_1_11) (fun _ _ => ⟨rfl, e5, (by decide : 0 + 0 ≤ _), (by decide : 0 + 0 ≤ _)⟩)
  dsimp only [Pt.U, Pt.locs, Pt.cells, Pt.slots] at X8 l8 y8 z8 st8 hQ8
  subst l8 y8 z8
  obtain ⟨rfl, N8q, e8⟩ := hQ8
  have N8 := Fr.app N5 N8q
  have pre_9 : ∀ t, Sp p e below T8 (mkF m 14 #[.val (.ref a1), .val (.ref qn), .val (.ref edn), .val (.int p3), .val (.int p4), .val (.ref idn), .unset] [(.ref otn)]) t → Steps p.tables e below E0 t := fun t k => pre_7 t (st8.trans k)
  obtain ⟨T10, X10, e10, st10⟩ := getS X8 hx hZ hown (host := "") (own_w hw 55 rfl) Via.refl e8 (SX.ext O0.2) (g := (mkF m 14 #[.val (.ref a1), .val (.ref qn), .val (.ref edn), .val (.int p3), .val (.int p4), .val (.ref idn), .unset] [(.ref otn)])) rfl (hb hby d_prog_56_1_14)
  have pre_11 : ∀ t, Sp p e below T10 (mkF m 17 #[.val (.ref a1), .val (.ref qn), .val (.ref edn), .val (.int p3), .val (.int p4), .val (.ref idn), .unset] [(.ref aX), (.ref otn)]) t → Steps p.tables e below E0 t := fun t k => pre_9 t (st10 t k)
  have pre_12 : ∀ t, Sp p e below T10 (mkF m 87 #[.val (.ref a1), .val (.ref qn), .val (.ref edn), .val (.int p3), .val (.int p4), .val (.ref idn), .val (.int (0 : Int32))] [(.ref qn)]) t → Steps p.tables e below E0 t := by
    intro t k
    refine pre_11 t ?_
    show Sp p e below T10 (mkF m 17 #[.val (.ref a1), .val (.ref qn), .val (.ref edn), .val (.int p3), .val (.int p4), .val (.ref idn), .unset] [(.ref aX), (.ref otn)]) _
    refine XT.acmpYes X10.here hx rfl (pc0 := 17) (pc' := 24) rfl (hb hby d_prog_56_1_17) rfl rfl rfl (XT.aa_ne_t (fun q => neX (Value.ref.inj q))) (by decide) (by decide) ?_
    refine XS.iconst X10.here hx rfl (hb hby d_prog_56_1_24) ?_
    refine XS.istore X10.here hx rfl (hb hby d_prog_56_1_25) rfl (l' := #[.val (.ref a1), .val (.ref qn), .val (.ref edn), .val (.int p3), .val (.int p4), .val (.ref idn), .val (.int (0 : Int32))]) rfl ?_
    refine XS.iload X10.here hx rfl (hb hby d_prog_56_1_27) rfl ?_
    show Sp p e below T10 (mkF m 29 #[.val (.ref a1), .val (.ref qn), .val (.ref edn), .val (.int p3), .val (.int p4), .val (.ref idn), .val (.int (0 : Int32))] [(.int (0 : Int32))]) _
    refine XS.ifYes X10.here hx rfl (pc0 := 29) (pc' := 62) rfl (hb hby d_prog_56_1_29) rfl (XT.i0_eq_t (by decide)) (by decide) (by decide) ?_
    refine XS.iload X10.here hx rfl (hb hby d_prog_56_1_62) rfl ?_
    refine XS.ifNo X10.here hx rfl (hb hby d_prog_56_1_64) rfl (XT.i0_ne_f (by decide)) ?_
    refine XS.iloadN X10.here hx rfl (hb hby d_prog_56_1_67) rfl ?_
    refine XS.iconst X10.here hx rfl (hb hby d_prog_56_1_68) ?_
    refine XS.icmpYes X10.here hx rfl (pc0 := 69) (pc' := 86) rfl (hb hby d_prog_56_1_69) rfl (XT.ii_ge_t hp) (by decide) (by decide) ?_
    refine XS.aloadN X10.here hx rfl (hb hby d_prog_56_1_86) rfl rfl ?_
    exact k
  obtain ⟨cq13, kq13, qa13, qb13, qc13⟩ := isOf hZ e10 (HQ.2.1.ext O0.2)
  obtain ⟨_, _, ⟨T13, L13, k13, n13⟩, -, X13, ⟨Lc13, hQ13, l13, y13, z13⟩, st13⟩ := X10.virtualBack hx (y := (⟨cQC, "atAnEnd", "()Z"⟩ : MethodName)) (z := (⟨cQC, "atAnEnd", "()Z"⟩ : MethodName)) hown (mvT hZ (own_w hw 57 rfl)) (mvT hZ (own_w hw 58 rfl)) (notFace_of_selects (args := #[]) (mvT hZ (own_w hw 60 rfl))) (mvT hZ (own_w hw 60 rfl)) (mvT hZ (own_w hw 59 rfl)) (by decide) (backOf (W := 0) (rm_atm1 l Z a0 hw [] qn  h0 n0 O0 (HQ.2.2.2.2.1.ext O0.2)) hZ (own_w hw 61 rfl) (own_w hw 20 rfl) (by decide) (by decide)) qa13 qc13 (g := (mkF m 87 #[.val (.ref a1), .val (.ref qn), .val (.ref edn), .val (.int p3), .val (.int p4), .val (.ref idn), .val (.int (0 : Int32))] [(.ref qn)])) rfl (by rw [hml]; rfl) (Steps.refl _) (argsL := []) (rest := []) (lenOf pd_si1_3 rfl) rfl (by show 2 * 0 + _ ≤ _; exact Nat.le_of_eq rfl) (hb hby d_prog_56_1_87) (fun _ _ => ⟨rfl, e10, (by decide : 0 + 0 ≤ _), (by decide : 0 + 0 ≤ _)⟩)
  dsimp only [Pt.U, Pt.locs, Pt.cells, Pt.slots] at X13 l13 y13 z13 st13 hQ13
  subst l13 y13 z13
  obtain ⟨rfl, N13q, e13⟩ := hQ13
  have N13 := Fr.app N8 N13q
  have pre_14 : ∀ t, Sp p e below T13 (mkF m 90 #[.val (.ref a1), .val (.ref qn), .val (.ref edn), .val (.int p3), .val (.int p4), .val (.ref idn), .val (.int (0 : Int32))] [(.int (1 : Int32))]) t → Steps p.tables e below E0 t := fun t k => pre_12 t (st13.trans k)
  have pre_15 : ∀ t, Sp p e below T13 (mkF m 94 #[.val (.ref a1), .val (.ref qn), .val (.ref edn), .val (.int p3), .val (.int p4), .val (.ref idn), .val (.int (0 : Int32))] [(.ref edn)]) t → Steps p.tables e below E0 t := by
    intro t k
    refine pre_14 t ?_
    show Sp p e below T13 (mkF m 90 #[.val (.ref a1), .val (.ref qn), .val (.ref edn), .val (.int p3), .val (.int p4), .val (.ref idn), .val (.int (0 : Int32))] [(.int (1 : Int32))]) _
    refine XS.ifNo X13.here hx rfl (hb hby d_prog_56_1_90) rfl (XT.i0_eq_f (by decide)) ?_
    show Sp p e below T13 (mkF m 93 #[.val (.ref a1), .val (.ref qn), .val (.ref edn), .val (.int p3), .val (.int p4), .val (.ref idn), .val (.int (0 : Int32))] []) _
    refine XS.aloadN X13.here hx rfl (hb hby d_prog_56_1_93) rfl rfl ?_
    exact k
  obtain ⟨T16, X16, e16, st16⟩ := getS X13 hx hZ hown (host := "") (own_w hw 64 rfl) Via.refl e13 (ST.ext O0.2) (g := (mkF m 94 #[.val (.ref a1), .val (.ref qn), .val (.ref edn), .val (.int p3), .val (.int p4), .val (.ref idn), .val (.int (0 : Int32))] [(.ref edn)])) rfl (hb hby d_prog_56_1_94)
  have pre_17 : ∀ t, Sp p e below T16 (mkF m 97 #[.val (.ref a1), .val (.ref qn), .val (.ref edn), .val (.int p3), .val (.int p4), .val (.ref idn), .val (.int (0 : Int32))] [(.ref aT), (.ref edn)]) t → Steps p.tables e below E0 t := fun t k => pre_15 t (st16 t k)
  have pre_18 : ∀ t, Sp p e below T16 (mkF m 116 #[.val (.ref a1), .val (.ref qn), .val (.ref edn), .val (.int p3), .val (.int p4), .val (.ref idn), .val (.int (0 : Int32))] [(.ref qn)]) t → Steps p.tables e below E0 t := by
    intro t k
    refine pre_17 t ?_
    show Sp p e below T16 (mkF m 97 #[.val (.ref a1), .val (.ref qn), .val (.ref edn), .val (.int p3), .val (.int p4), .val (.ref idn), .val (.int (0 : Int32))] [(.ref aT), (.ref edn)]) _
    refine XT.acmpYes X16.here hx rfl (pc0 := 97) (pc' := 115) rfl (hb hby d_prog_56_1_97) rfl rfl rfl (XT.aa_ne_t (fun q => neT (Value.ref.inj q))) (by decide) (by decide) ?_
    refine XS.aloadN X16.here hx rfl (hb hby d_prog_56_1_115) rfl rfl ?_
    exact k
  obtain ⟨cq19, kq19, qa19, qb19, qc19⟩ := isOf hZ e16 (HQ.2.1.ext O0.2)
  obtain ⟨_, _, ⟨T19, L19, k19, n19⟩, -, X19, ⟨Lc19, hQ19, l19, y19, z19⟩, st19⟩ := X16.virtualBack hx (y := (⟨cQC, "atAnEnd", "()Z"⟩ : MethodName)) (z := (⟨cQC, "atAnEnd", "()Z"⟩ : MethodName)) hown (mvT hZ (own_w hw 57 rfl)) (mvT hZ (own_w hw 58 rfl)) (notFace_of_selects (args := #[]) (mvT hZ (own_w hw 60 rfl))) (mvT hZ (own_w hw 60 rfl)) (mvT hZ (own_w hw 59 rfl)) (by decide) (backOf (W := 0) (rm_atm1 l Z a0 hw [] qn  h0 n0 O0 (HQ.2.2.2.2.1.ext O0.2)) hZ (own_w hw 61 rfl) (own_w hw 20 rfl) (by decide) (by decide)) qa19 qc19 (g := (mkF m 116 #[.val (.ref a1), .val (.ref qn), .val (.ref edn), .val (.int p3), .val (.int p4), .val (.ref idn), .val (.int (0 : Int32))] [(.ref qn)])) rfl (by rw [hml]; rfl) (Steps.refl _) (argsL := []) (rest := []) (lenOf pd_si1_3 rfl) rfl (by show 2 * 0 + _ ≤ _; exact Nat.le_of_eq rfl) (hb hby d_prog_56_1_116) (fun _ _ => ⟨rfl, e16, (by decide : 0 + 0 ≤ _), (by decide : 0 + 0 ≤ _)⟩)
  dsimp only [Pt.U, Pt.locs, Pt.cells, Pt.slots] at X19 l19 y19 z19 st19 hQ19
  subst l19 y19 z19
  obtain ⟨rfl, N19q, e19⟩ := hQ19
  have N19 := Fr.app N13 N19q
  have pre_20 : ∀ t, Sp p e below T19 (mkF m 119 #[.val (.ref a1), .val (.ref qn), .val (.ref edn), .val (.int p3), .val (.int p4), .val (.ref idn), .val (.int (0 : Int32))] [(.int (1 : Int32))]) t → Steps p.tables e below E0 t := fun t k => pre_18 t (st19.trans k)
  have pre_21 : ∀ t, Sp p e below T19 (mkF m 148 #[.val (.ref a1), .val (.ref qn), .val (.ref edn), .val (.int p3), .val (.int p4), .val (.ref idn), .val (.int (0 : Int32))] []) t → Steps p.tables e below E0 t := by
    intro t k
    refine pre_20 t ?_
    show Sp p e below T19 (mkF m 119 #[.val (.ref a1), .val (.ref qn), .val (.ref edn), .val (.int p3), .val (.int p4), .val (.ref idn), .val (.int (0 : Int32))] [(.int (1 : Int32))]) _
    refine XS.ifYes X19.here hx rfl (pc0 := 119) (pc' := 148) rfl (hb hby d_prog_56_1_119) rfl (XT.i0_ne_t (by decide)) (by decide) (by decide) ?_
    exact k
  obtain ⟨T22, X22, e22, st22⟩ := getS X19 hx hZ hown (host := "") (own_w hw 65 rfl) Via.refl e19 (SS.ext O0.2) (g := (mkF m 148 #[.val (.ref a1), .val (.ref qn), .val (.ref edn), .val (.int p3), .val (.int p4), .val (.ref idn), .val (.int (0 : Int32))] [])) rfl (hb hby d_prog_56_1_148)
  have pre_23 : ∀ t, Sp p e below T22 (mkF m 151 #[.val (.ref a1), .val (.ref qn), .val (.ref edn), .val (.int p3), .val (.int p4), .val (.ref idn), .val (.int (0 : Int32))] [(.ref aS)]) t → Steps p.tables e below E0 t := fun t k => pre_21 t (st22 t k)
  have pre_24 : ∀ t, Sp p e below T22 (mkF m 152 #[.val (.ref a1), .val (.ref qn), .val (.ref edn), .val (.int p3), .val (.int p4), .val (.ref idn), .val (.int (0 : Int32))] [(.ref qn), (.ref aS)]) t → Steps p.tables e below E0 t := by
    intro t k
    refine pre_23 t ?_
    show Sp p e below T22 (mkF m 151 #[.val (.ref a1), .val (.ref qn), .val (.ref edn), .val (.int p3), .val (.int p4), .val (.ref idn), .val (.int (0 : Int32))] [(.ref aS)]) _
    refine XS.aloadN X22.here hx rfl (hb hby d_prog_56_1_151) rfl rfl ?_
    exact k
  obtain ⟨cq25, kq25, qa25, qb25, qc25⟩ := isOf hZ e22 (HQ.2.1.ext O0.2)
  obtain ⟨_, _, ⟨T25, L25, k25, n25⟩, -, X25, ⟨Lc25, hQ25, l25, y25, z25⟩, st25⟩ := X22.virtualBack hx (y := (⟨cQC, "others", dOT⟩ : MethodName)) (z := (⟨cQC, "others", dOT⟩ : MethodName)) hown (mvT hZ (own_w hw 46 rfl)) (mvT hZ (own_w hw 47 rfl)) (notFace_of_selects (args := #[]) (mvT hZ (own_w hw 49 rfl))) (mvT hZ (own_w hw 49 rfl)) (mvT hZ (own_w hw 48 rfl)) (by decide) (backOf (W := 1) (rm_otm l Z a0 hw [] qn otn h0 n0 O0 (HQ.2.2.2.1.ext O0.2)) hZ (own_w hw 50 rfl) (own_w hw 20 rfl) (by decide) (by decide)) qa25 qc25 (g := (mkF m 152 #[.val (.ref a1), .val (.ref qn), .val (.ref edn), .val (.int p3), .val (.int p4), .val (.ref idn), .val (.int (0 : Int32))] [(.ref qn), (.ref aS)])) rfl (by rw [hml]; rfl) (Steps.refl _) (argsL := []) (rest := [(.ref aS)]) (lenOf pd_si1_2 rfl) rfl (by show 2 * 0 + _ ≤ _; exact Nat.le_of_eq rfl) (hb hby d_prog_56_1_152) (fun _ _ => ⟨rfl, e22, (by decide : 0 + 0 ≤ _), (by decide : 0 + 0 ≤ _)⟩)
  dsimp only [Pt.U, Pt.locs, Pt.cells, Pt.slots] at X25 l25 y25 z25 st25 hQ25
  subst l25 y25 z25
  obtain ⟨rfl, N25q, e25⟩ := hQ25
  have N25 := Fr.app N19 N25q
  have pre_26 : ∀ t, Sp p e below T25 (mkF m 155 #[.val (.ref a1), .val (.ref qn), .val (.ref edn), .val (.int p3), .val (.int p4), .val (.ref idn), .val (.int (0 : Int32))] [(.ref otn), (.ref aS)]) t → Steps p.tables e below E0 t := fun t k => pre_24 t (st25.trans k)
  obtain ⟨cq27, kq27, qa27, qb27, qc27⟩ := isOf hZ e25 (HO.1.ext O0.2)
  obtain ⟨_, _, ⟨T27, L27, k27, n27⟩, -, X27, ⟨Lc27, hQ27, l27, y27, z27⟩, st27⟩ := X25.virtualBackUp hx (x := (⟨cOC, "ordinal", "()I"⟩ : MethodName)) (y := (⟨cEN, "ordinal", "()I"⟩ : MethodName)) hown (mvT hZ (own_w hw 68 rfl)) (mvT hZ (own_w hw 69 rfl)) (mvT hZ (own_w hw 70 rfl)) (by decide) (mvT hZ (own_w hw 72 rfl)) (mvT hZ (own_w hw 71 rfl)) (backOf (W := 1) (rm_ord l Z a0 hw [] otn (1 : Int32) h0 n0 O0 (HO.2.ext O0.2)) hZ (own_w hw 74 rfl) (own_w hw 73 rfl) (by decide) (by decide)) qa27 qc27 (g := (mkF m 155 #[.val (.ref a1), .val (.ref qn), .val (.ref edn), .val (.int p3), .val (.int p4), .val (.ref idn), .val (.int (0 : Int32))] [(.ref otn), (.ref aS)])) rfl (by rw [hml]; rfl) (Steps.refl _) (argsL := []) (rest := [(.ref aS)]) (lenOf pd_si1_4 rfl) rfl (by show 2 * 0 + _ ≤ _; exact Nat.le_of_eq rfl) (hb hby d_prog_56_1_155) (fun _ _ => ⟨rfl, e25, (by decide : 0 + 0 ≤ _), (by decide : 0 + 0 ≤ _)⟩)
  dsimp only [Pt.U, Pt.locs, Pt.cells, Pt.slots] at X27 l27 y27 z27 st27 hQ27
  subst l27 y27 z27
  obtain ⟨rfl, N27q, e27⟩ := hQ27
  have N27 := Fr.app N25 N27q
  have pre_28 : ∀ t, Sp p e below T27 (mkF m 158 #[.val (.ref a1), .val (.ref qn), .val (.ref edn), .val (.int p3), .val (.int p4), .val (.ref idn), .val (.int (0 : Int32))] [(.int (1 : Int32)), (.ref aS)]) t → Steps p.tables e below E0 t := fun t k => pre_26 t (st27.trans k)
  have pre_30 : ∀ t, Sp p e below T27 (mkF m 334 #[.val (.ref a1), .val (.ref qn), .val (.ref edn), .val (.int p3), .val (.int p4), .val (.ref idn), .val (.int (0 : Int32))] [(.ref qn), (.ref a1)]) t → Steps p.tables e below E0 t := by
    intro t k
    refine pre_28 t ?_
    obtain ⟨cl29, Ar29, -, S29, -, H29, -⟩ := id (VS.ext O0.2)
    have hin29 : ¬ ((1 : Int32) < 0 ∨ cl29.slots.size ≤ ((1 : Int32)).toNatClampNeg) := inb_of S29 (by decide)
    refine X27.iaload hx (j := (1 : Int32)) (v := (.int (4 : Int32))) (by rw [e27]; exact Ar29.1) (State.isArrayOf_alike hZ.alike Ar29.2.1) Ar29.2.2 hin29 (H29.at hin29 rfl) (g := (mkF m 158 #[.val (.ref a1), .val (.ref qn), .val (.ref edn), .val (.int p3), .val (.int p4), .val (.ref idn), .val (.int (0 : Int32))] [(.int (1 : Int32)), (.ref aS)])) rfl rfl (hb hby d_prog_56_1_158) _ ?_
    refine XS.tswIn X27.here hx rfl (pc0 := 159) (pc' := 221) rfl (hb hby d_prog_56_1_159) rfl (by decide) (o := 62) rfl (by decide) (by decide) ?_
    refine XS.iload X27.here hx rfl (hb hby d_prog_56_1_221) rfl ?_
    show Sp p e below T27 (mkF m 223 #[.val (.ref a1), .val (.ref qn), .val (.ref edn), .val (.int p3), .val (.int p4), .val (.ref idn), .val (.int (0 : Int32))] [(.int p4)]) _
    refine XS.iloadN X27.here hx rfl (hb hby d_prog_56_1_223) rfl ?_
    refine XS.icmpYes X27.here hx rfl (pc0 := 224) (pc' := 332) rfl (hb hby d_prog_56_1_224) rfl (XT.ii_gt_t hq) (by decide) (by decide) ?_
    refine XS.aloadN X27.here hx rfl (hb hby d_prog_56_1_332) rfl rfl ?_
    refine XS.aloadN X27.here hx rfl (hb hby d_prog_56_1_333) rfl rfl ?_
    exact k
  obtain ⟨T31, h31, X31, e31, W31, st31⟩ := putF X27 hx hZ hown (host := "") (Or.inl (own_w hw 77 rfl)) Via.refl e27 F1 E1 (Or.inr ⟨(own_w hw 78 rfl), rfl, hnm⟩) (own_w hw 14 rfl) (ty := (.object cQC)) (by decide) rfl rfl (g := (mkF m 334 #[.val (.ref a1), .val (.ref qn), .val (.ref edn), .val (.int p3), .val (.int p4), .val (.ref idn), .val (.int (0 : Int32))] [(.ref qn), (.ref a1)])) rfl rfl (hb hby d_prog_56_1_334)
  have Fw31 := F1.same W31
  have N31 := Fr.snoc X31 N27 g1
  have O31 : Old Z n0 h31 := O0.wr W31 g1
  have pre_32 : ∀ t, Sp p e below T31 (mkF m 337 #[.val (.ref a1), .val (.ref qn), .val (.ref edn), .val (.int p3), .val (.int p4), .val (.ref idn), .val (.int (0 : Int32))] []) t → Steps p.tables e below E0 t := fun t k => pre_30 t (st31 t k)
  have pre_33 : ∀ t, Sp p e below T31 (mkF m 339 #[.val (.ref a1), .val (.ref qn), .val (.ref edn), .val (.int p3), .val (.int p4), .val (.ref idn), .val (.int (0 : Int32))] [(.ref edn), (.ref a1)]) t → Steps p.tables e below E0 t := by
    intro t k
    refine pre_32 t ?_
    show Sp p e below T31 (mkF m 337 #[.val (.ref a1), .val (.ref qn), .val (.ref edn), .val (.int p3), .val (.int p4), .val (.ref idn), .val (.int (0 : Int32))] []) _
    refine XS.aloadN X31.here hx rfl (hb hby d_prog_56_1_337) rfl rfl ?_
    refine XS.aloadN X31.here hx rfl (hb hby d_prog_56_1_338) rfl rfl ?_
    exact k
  obtain ⟨T34, h34, X34, e34, W34, st34⟩ := putF X31 hx hZ hown (host := "") (Or.inl (own_w hw 79 rfl)) Via.refl e31 (F2.other W31 (Or.inr (slot_ne (Or.inr (own_w hw 80 rfl)) (Or.inr (own_w hw 78 rfl)) (by decide) (t := (.object cEC)) (t' := (.object cQC)) (by decide) (by decide)))) (E1.wr W31) (Or.inr ⟨(own_w hw 80 rfl), rfl, hnm⟩) (own_w hw 14 rfl) (ty := (.object cEC)) (by decide) rfl rfl (g := (mkF m 339 #[.val (.ref a1), .val (.ref qn), .val (.ref edn), .val (.int p3), .val (.int p4), .val (.ref idn), .val (.int (0 : Int32))] [(.ref edn), (.ref a1)])) rfl rfl (hb hby d_prog_56_1_339)
  have Fw34 := (F2.other W31 (Or.inr (slot_ne (Or.inr (own_w hw 80 rfl)) (Or.inr (own_w hw 78 rfl)) (by decide) (t := (.object cEC)) (t' := (.object cQC)) (by decide) (by decide)))).same W34
  have N34 := Fr.snoc X34 N31 g1
  have O34 : Old Z n0 h34 := O31.wr W34 g1
  have pre_35 : ∀ t, Sp p e below T34 (mkF m 342 #[.val (.ref a1), .val (.ref qn), .val (.ref edn), .val (.int p3), .val (.int p4), .val (.ref idn), .val (.int (0 : Int32))] []) t → Steps p.tables e below E0 t := fun t k => pre_33 t (st34 t k)
  have pre_36 : ∀ t, Sp p e below T34 (mkF m 344 #[.val (.ref a1), .val (.ref qn), .val (.ref edn), .val (.int p3), .val (.int p4), .val (.ref idn), .val (.int (0 : Int32))] [(.int p3), (.ref a1)]) t → Steps p.tables e below E0 t := by
    intro t k
    refine pre_35 t ?_
    show Sp p e below T34 (mkF m 342 #[.val (.ref a1), .val (.ref qn), .val (.ref edn), .val (.int p3), .val (.int p4), .val (.ref idn), .val (.int (0 : Int32))] []) _
    refine XS.aloadN X34.here hx rfl (hb hby d_prog_56_1_342) rfl rfl ?_
    refine XS.iloadN X34.here hx rfl (hb hby d_prog_56_1_343) rfl ?_
    show Sp p e below T34 (mkF m 344 #[.val (.ref a1), .val (.ref qn), .val (.ref edn), .val (.int p3), .val (.int p4), .val (.ref idn), .val (.int (0 : Int32))] [(.int p3), (.ref a1)]) _
    exact k
  obtain ⟨T37, h37, X37, e37, W37, st37⟩ := putF X34 hx hZ hown (host := "") (Or.inl (own_w hw 81 rfl)) Via.refl e34 ((F3.other W31 (Or.inr (slot_ne (Or.inr (own_w hw 82 rfl)) (Or.inr (own_w hw 78 rfl)) (by decide) (t := .int) (t' := (.object cQC)) (by decide) (by decide)))).other W34 (Or.inr (slot_ne (Or.inr (own_w hw 82 rfl)) (Or.inr (own_w hw 80 rfl)) (by decide) (t := .int) (t' := (.object cEC)) (by decide) (by decide)))) ((E1.wr W31).wr W34) (Or.inr ⟨(own_w hw 82 rfl), rfl, hnm⟩) (own_w hw 14 rfl) (ty := .int) (by decide) rfl rfl (g := (mkF m 344 #[.val (.ref a1), .val (.ref qn), .val (.ref edn), .val (.int p3), .val (.int p4), .val (.ref idn), .val (.int (0 : Int32))] [(.int p3), (.ref a1)])) rfl rfl (hb hby d_prog_56_1_344)
  have Fw37 := ((F3.other W31 (Or.inr (slot_ne (Or.inr (own_w hw 82 rfl)) (Or.inr (own_w hw 78 rfl)) (by decide) (t := .int) (t' := (.object cQC)) (by decide) (by decide)))).other W34 (Or.inr (slot_ne (Or.inr (own_w hw 82 rfl)) (Or.inr (own_w hw 80 rfl)) (by decide) (t := .int) (t' := (.object cEC)) (by decide) (by decide)))).same W37
  have N37 := Fr.snoc X37 N34 g1
  have O37 : Old Z n0 h37 := O34.wr W37 g1
  have pre_38 : ∀ t, Sp p e below T37 (mkF m 347 #[.val (.ref a1), .val (.ref qn), .val (.ref edn), .val (.int p3), .val (.int p4), .val (.ref idn), .val (.int (0 : Int32))] []) t → Steps p.tables e below E0 t := fun t k => pre_36 t (st37 t k)
  have pre_39 : ∀ t, Sp p e below T37 (mkF m 350 #[.val (.ref a1), .val (.ref qn), .val (.ref edn), .val (.int p3), .val (.int p4), .val (.ref idn), .val (.int (0 : Int32))] [(.int p4), (.ref a1)]) t → Steps p.tables e below E0 t := by
    intro t k
    refine pre_38 t ?_
    show Sp p e below T37 (mkF m 347 #[.val (.ref a1), .val (.ref qn), .val (.ref edn), .val (.int p3), .val (.int p4), .val (.ref idn), .val (.int (0 : Int32))] []) _
    refine XS.aloadN X37.here hx rfl (hb hby d_prog_56_1_347) rfl rfl ?_
    refine XS.iload X37.here hx rfl (hb hby d_prog_56_1_348) rfl ?_
    exact k
  obtain ⟨T40, h40, X40, e40, W40, st40⟩ := putF X37 hx hZ hown (host := "") (Or.inl (own_w hw 83 rfl)) Via.refl e37 (((F4.other W31 (Or.inr (slot_ne (Or.inr (own_w hw 84 rfl)) (Or.inr (own_w hw 78 rfl)) (by decide) (t := .int) (t' := (.object cQC)) (by decide) (by decide)))).other W34 (Or.inr (slot_ne (Or.inr (own_w hw 84 rfl)) (Or.inr (own_w hw 80 rfl)) (by decide) (t := .int) (t' := (.object cEC)) (by decide) (by decide)))).other W37 (Or.inr (slot_ne (Or.inr (own_w hw 84 rfl)) (Or.inr (own_w hw 82 rfl)) (by decide) (t := .int) (t' := .int) (by decide) (by decide)))) (((E1.wr W31).wr W34).wr W37) (Or.inr ⟨(own_w hw 84 rfl), rfl, hnm⟩) (own_w hw 14 rfl) (ty := .int) (by decide) rfl rfl (g := (mkF m 350 #[.val (.ref a1), .val (.ref qn), .val (.ref edn), .val (.int p3), .val (.int p4), .val (.ref idn), .val (.int (0 : Int32))] [(.int p4), (.ref a1)])) rfl rfl (hb hby d_prog_56_1_350)
  have Fw40 := (((F4.other W31 (Or.inr (slot_ne (Or.inr (own_w hw 84 rfl)) (Or.inr (own_w hw 78 rfl)) (by decide) (t := .int) (t' := (.object cQC)) (by decide) (by decide)))).other W34 (Or.inr (slot_ne (Or.inr (own_w hw 84 rfl)) (Or.inr (own_w hw 80 rfl)) (by decide) (t := .int) (t' := (.object cEC)) (by decide) (by decide)))).other W37 (Or.inr (slot_ne (Or.inr (own_w hw 84 rfl)) (Or.inr (own_w hw 82 rfl)) (by decide) (t := .int) (t' := .int) (by decide) (by decide)))).same W40
  have N40 := Fr.snoc X40 N37 g1
  have O40 : Old Z n0 h40 := O37.wr W40 g1
  have pre_41 : ∀ t, Sp p e below T40 (mkF m 353 #[.val (.ref a1), .val (.ref qn), .val (.ref edn), .val (.int p3), .val (.int p4), .val (.ref idn), .val (.int (0 : Int32))] []) t → Steps p.tables e below E0 t := fun t k => pre_39 t (st40 t k)
  obtain ⟨fs, hr, hrun, hended, hW, hsame⟩ := X40.leave (v := none) (fun _ => rfl)
  refine ⟨_, _, pre_41 _ ?_, hrun, hended, _, _, rfl, ?_, ⟨_, rfl⟩, hW, hsame.mono (by decide) (by decide)⟩
  · show Sp p e below T40 (mkF m 353 #[.val (.ref a1), .val (.ref qn), .val (.ref edn), .val (.int p3), .val (.int p4), .val (.ref idn), .val (.int (0 : Int32))] []) _
    exact X40.returnOut hx Bd.returns (hb hby d_prog_56_1_353) hr
  · show Q_si Z _ _ _ _ _ h0 n0 _ T40.heap _
    rw [e40]
    exact ⟨rfl, N40, (((((Keep.refl h0 [a1]).wr W31 (Or.inl (List.mem_of_getElem? (i := 0) rfl))).wr W34 (Or.inl (List.mem_of_getElem? (i := 0) rfl))).wr W37 (Or.inl (List.mem_of_getElem? (i := 0) rfl))).wr W40 (Or.inl (List.mem_of_getElem? (i := 0) rfl))), (((Fw31.other W34 (Or.inr (slot_ne (Or.inr (own_w hw 78 rfl)) (Or.inr (own_w hw 80 rfl)) (by decide) (t := (.object cQC)) (t' := (.object cEC)) (by decide) (by decide)))).other W37 (Or.inr (slot_ne (Or.inr (own_w hw 78 rfl)) (Or.inr (own_w hw 82 rfl)) (by decide) (t := (.object cQC)) (t' := .int) (by decide) (by decide)))).other W40 (Or.inr (slot_ne (Or.inr (own_w hw 78 rfl)) (Or.inr (own_w hw 84 rfl)) (by decide) (t := (.object cQC)) (t' := .int) (by decide) (by decide)))), ((Fw34.other W37 (Or.inr (slot_ne (Or.inr (own_w hw 80 rfl)) (Or.inr (own_w hw 82 rfl)) (by decide) (t := (.object cEC)) (t' := .int) (by decide) (by decide)))).other W40 (Or.inr (slot_ne (Or.inr (own_w hw 80 rfl)) (Or.inr (own_w hw 84 rfl)) (by decide) (t := (.object cEC)) (t' := .int) (by decide) (by decide)))), (Fw37.other W40 (Or.inr (slot_ne (Or.inr (own_w hw 82 rfl)) (Or.inr (own_w hw 84 rfl)) (by decide) (t := .int) (t' := .int) (by decide) (by decide)))), Fw40⟩
theorem d_prog_56_1_248 : decode prog_56_method_1_code 248 = .ok (.iload 4, 2) := by decide +kernel
theorem d_prog_56_1_250 : decode prog_56_method_1_code 250 = .ok (.iconst 1, 1) := by decide +kernel
theorem d_prog_56_1_251 : decode prog_56_method_1_code 251 = .ok (.if_icmp .lt 9, 3) := by decide +kernel
theorem d_prog_56_1_254 : decode prog_56_method_1_code 254 = .ok (.iload 4, 2) := by decide +kernel
theorem d_prog_56_1_256 : decode prog_56_method_1_code 256 = .ok (.iload_n 3, 1) := by decide +kernel
theorem d_prog_56_1_257 : decode prog_56_method_1_code 257 = .ok (.if_icmp .ne 75, 3) := by decide +kernel
theorem pn_si2 : plainName cSK = true := by first | (simp [plainName, overriddenIn]; done) | decide +kernel
theorem pd_si2_0 : parseMethodDescriptor "()V" = some ⟨[], none⟩ := by decide +kernel
theorem pd_si2_1 : parseMethodDescriptor "()Ljava/lang/String;" = some ⟨[], some (.object "java/lang/String")⟩ := by decide +kernel
theorem pd_si2_2 : parseMethodDescriptor dOT = some ⟨[], some (.object cOC)⟩ := by decide +kernel
theorem pd_si2_3 : parseMethodDescriptor "()Z" = some ⟨[], some .boolean⟩ := by decide +kernel
theorem pd_si2_4 : parseMethodDescriptor "()I" = some ⟨[], some .int⟩ := by decide +kernel
theorem ef_si2 (m : MethodId) (a1 : Addr) (qn : Addr) (edn : Addr) (p3 : Int32) (p4 : Int32) : entryFrame m #[(.ref a1), (.ref qn), (.ref edn), (.int p3), (.int p4)] 7 = (mkF m 0 #[.val (.ref a1), .val (.ref qn), .val (.ref edn), .val (.int p3), .val (.int p4), .unset, .unset] []) := by first | (simp [entryFrame, mkF, argsToLocals, Value.category]; done) | rfl
set_option maxRecDepth 65536 in
set_option maxHeartbeats 40000000 in
theorem rm_si2 (l : Launch) (Z : State) (a0 : Array Value) (hw : ∀ d ∈ tables_1, d.before a0 Z = true) (ws : List Jvm.Cond) (a1 : Addr) (qn : Addr) (edn : Addr) (p3 : Int32) (p4 : Int32) (u1 u2 u3 u4 : Value) (idn : Addr) (otn : Addr) (aX aS : Addr) (kS : ClassId) (aT : Addr) (h0 : Heap) (n0 : Nat) (O0 : Old Z n0 h0) (E1 : Exa Z h0 a1 cSK) (F1 : Fld Z h0 a1 cSK "quantity" lQC u1) (F2 : Fld Z h0 a1 cSK "end" lEC u2) (F3 : Fld Z h0 a1 cSK "pair" "I" u3) (F4 : Fld Z h0 a1 cSK "other" "I" u4) (g1 : n0 ≤ a1) (HQ : own_Qf Z qn idn otn "FEXT" (1 : Int32) (2 : Int32)) (HO : own_Of Z otn (3 : Int32)) (SX : Sta Z Z.heap cOC "ACROSS" lOC (.ref aX)) (ST : Sta Z Z.heap cEC "THROUGH" lEC (.ref aT)) (SS : Sta Z Z.heap cS1 nSM "[I" (.ref aS)) (VS : Arv Z Z.heap aS kS .int (6 : Int32) [(.int (2 : Int32)), (.int (4 : Int32)), (.int (3 : Int32)), (.int (5 : Int32)), (.int (6 : Int32)), (.int (1 : Int32))] (.int (0 : Int32))) (neX : ¬ otn = aX) (neT : ¬ edn = aT) (hp : ¬ p3 < (1 : Int32)) (hq : ¬ p4 < (1 : Int32)) (hr : ¬ p4 = p3) :
    MetFree l (⟨cSK, "<init>", dSI⟩ : MethodName) (head1 (Jvm.Cond.code (⟨cSK, "<init>", dSI⟩ : MethodName) prog_56_method_1_code 7 none :: ws) ({ frames := 4, cells := 2, slots := 3, locals := 54 } : Room)) (fun a U => a = #[(.ref a1), (.ref qn), (.ref edn), (.int p3), (.int p4)] ∧ Z.Warmed39 U.vm ∧ U.heap = h0) (fun _ _ _ _ _ => True) (fun _ U o U' => ∃ v L, o = .returned v ∧ Q_si Z a1 qn edn p3 p4 h0 n0 v U'.heap L ∧ FrameEnd U o U' L ({ frames := 4, cells := 2, slots := 3, locals := 54 } : Room).cells ({ frames := 4, cells := 2, slots := 3, locals := 54 } : Room).slots) := by
  refine MetFree.of_bodySF (plainFor_of_name pn_si2) hisR ?_
  intro p e s m args below meth c s₁ Bd hml0 hP hK
  obtain ⟨rfl, hZ, hh⟩ := hP
  have hx := Bd.exec
  have hby := Bd.bytes
  have hml : c.maxLocals = 7 := hml0
  have hown : s.vm.findClass cSK = some m.cls := findClass_of_methodNamed Bd.named
  have hnm := (name_of_methodNamed Bd.named Bd.method).1
  have X0 : Stand p l e ({ frames := 4, cells := 2, slots := 3, locals := 54 } : Room) s m #[(.ref a1), (.ref qn), (.ref edn), (.int p3), (.int p4)] below meth c s₁ [] 0 0 := Stand.of_body Bd
  have e0 : s₁.heap = h0 := by rw [← hh, Bd.state]; rfl
  have N0 := Fr.nil n0
  have pre0 : ∀ t, Steps p.tables e below (s₁.setTop (mkF m 0 #[.val (.ref a1), .val (.ref qn), .val (.ref edn), .val (.int p3), .val (.int p4), .unset, .unset] [])) t → Steps p.tables e below (s₁.setTop (entryFrame m #[(.ref a1), (.ref qn), (.ref edn), (.int p3), (.int p4)] 7)) t := fun t k => castTop (ef_si2 m a1 qn edn p3 p4) k
  generalize s₁.setTop (entryFrame m #[(.ref a1), (.ref qn), (.ref edn), (.int p3), (.int p4)] 7) = E0 at pre0 ⊢
  have pre_1 : ∀ t, Sp p e below s₁ (mkF m 1 #[.val (.ref a1), .val (.ref qn), .val (.ref edn), .val (.int p3), .val (.int p4), .unset, .unset] [(.ref a1)]) t → Steps p.tables e below E0 t := by
    intro t k
    refine pre0 t ?_
    show Sp p e below s₁ (mkF m 0 #[.val (.ref a1), .val (.ref qn), .val (.ref edn), .val (.int p3), .val (.int p4), .unset, .unset] []) _
    refine XS.aloadN X0.here hx rfl (hb hby d_prog_56_1_0) rfl rfl ?_
    exact k
  obtain ⟨_, _, ⟨T2, L2, k2, n2⟩, -, X2, ⟨Lc2, hQ2, l2, y2, z2⟩, st2⟩ := X0.specialBack hx (y := (⟨"java/lang/Record", "<init>", "()V"⟩ : MethodName)) rfl hown (mvT hZ (own_w hw 31 rfl)) (mvT hZ (own_w hw 32 rfl)) (mvT hZ (own_w hw 35 rfl)) (by decide) (backOf (W := 0) (rm_rec l Z a0 hw [] a1 h0 n0 O0) hZ (own_w hw 35 rfl) (own_w hw 34 rfl) (by decide) (by decide)) (g := (mkF m 1 #[.val (.ref a1), .val (.ref qn), .val (.ref edn), .val (.int p3), .val (.int p4), .unset, .unset] [(.ref a1)])) rfl (by rw [hml]; rfl) (Steps.refl _) (a := a1) (argsL := []) (rest := []) (lenOf pd_si2_0 rfl) rfl (by show 2 * 0 + _ ≤ _; exact Nat.le_of_eq rfl) (hb hby d_prog_56_1_1) (fun _ _ => ⟨rfl, e0, (by decide : 0 + 0 ≤ _), (by decide : 0 + 0 ≤ _)⟩)
  dsimp only [Pt.U, Pt.locs, Pt.cells, Pt.slots] at X2 l2 y2 z2 st2 hQ2
  subst l2 y2 z2
  obtain ⟨rfl, N2q, e2⟩ := hQ2
  have N2 := Fr.app N0 N2q
  have pre_3 : ∀ t, Sp p e below T2 (mkF m 4 #[.val (.ref a1), .val (.ref qn), .val (.ref edn), .val (.int p3), .val (.int p4), .unset, .unset] []) t → Steps p.tables e below E0 t := fun t k => pre_1 t (st2.trans k)
  have pre_4 : ∀ t, Sp p e below T2 (mkF m 5 #[.val (.ref a1), .val (.ref qn), .val (.ref edn), .val (.int p3), .val (.int p4), .unset, .unset] [(.ref qn)]) t → Steps p.tables e below E0 t := by
    intro t k
    refine pre_3 t ?_
    show Sp p e below T2 (mkF m 4 #[.val (.ref a1), .val (.ref qn), .val (.ref edn), .val (.int p3), .val (.int p4), .unset, .unset] []) _
    refine XS.aloadN X2.here hx rfl (hb hby d_prog_56_1_4) rfl rfl ?_
    exact k
  obtain ⟨cq5, kq5, qa5, qb5, qc5⟩ := isOf hZ e2 (HQ.2.1.ext O0.2)
  obtain ⟨_, _, ⟨T5, L5, k5, n5⟩, -, X5, ⟨Lc5, hQ5, l5, y5, z5⟩, st5⟩ := X2.virtualBack hx (y := (⟨cQC, "identifier", "()Ljava/lang/String;"⟩ : MethodName)) (z := (⟨cQC, "identifier", "()Ljava/lang/String;"⟩ : MethodName)) hown (mvT hZ (own_w hw 39 rfl)) (mvT hZ (own_w hw 40 rfl)) (notFace_of_selects (args := #[]) (mvT hZ (own_w hw 42 rfl))) (mvT hZ (own_w hw 42 rfl)) (mvT hZ (own_w hw 41 rfl)) (by decide) (backOf (W := 0) (rm_idm l Z a0 hw [] qn idn h0 n0 O0 (HQ.2.2.1.ext O0.2)) hZ (own_w hw 43 rfl) (own_w hw 20 rfl) (by decide) (by decide)) qa5 qc5 (g := (mkF m 5 #[.val (.ref a1), .val (.ref qn), .val (.ref edn), .val (.int p3), .val (.int p4), .unset, .unset] [(.ref qn)])) rfl (by rw [hml]; rfl) (Steps.refl _) (argsL := []) (rest := []) (lenOf pd_si2_1 rfl) rfl (by show 2 * 0 + _ ≤ _; exact Nat.le_of_eq rfl) (hb hby d_prog_56_1_5) (fun _ _ => ⟨rfl, e2, (by decide : 0 + 0 ≤ _), (by decide : 0 + 0 ≤ _)⟩)
  dsimp only [Pt.U, Pt.locs, Pt.cells, Pt.slots] at X5 l5 y5 z5 st5 hQ5
  subst l5 y5 z5
  obtain ⟨rfl, N5q, e5⟩ := hQ5
  have N5 := Fr.app N2 N5q
  have pre_6 : ∀ t, Sp p e below T5 (mkF m 8 #[.val (.ref a1), .val (.ref qn), .val (.ref edn), .val (.int p3), .val (.int p4), .unset, .unset] [(.ref idn)]) t → Steps p.tables e below E0 t := fun t k => pre_4 t (st5.trans k)
  have pre_7 : ∀ t, Sp p e below T5 (mkF m 11 #[.val (.ref a1), .val (.ref qn), .val (.ref edn), .val (.int p3), .val (.int p4), .val (.ref idn), .unset] [(.ref qn)]) t → Steps p.tables e below E0 t := by
    intro t k
    refine pre_6 t ?_
    show Sp p e below T5 (mkF m 8 #[.val (.ref a1), .val (.ref qn), .val (.ref edn), .val (.int p3), .val (.int p4), .unset, .unset] [(.ref idn)]) _
    refine XS.astore X5.here hx rfl (hb hby d_prog_56_1_8) rfl rfl (l' := #[.val (.ref a1), .val (.ref qn), .val (.ref edn), .val (.int p3), .val (.int p4), .val (.ref idn), .unset]) rfl ?_
    refine XS.aloadN X5.here hx rfl (hb hby d_prog_56_1_10) rfl rfl ?_
    exact k
  obtain ⟨cq8, kq8, qa8, qb8, qc8⟩ := isOf hZ e5 (HQ.2.1.ext O0.2)
  obtain ⟨_, _, ⟨T8, L8, k8, n8⟩, -, X8, ⟨Lc8, hQ8, l8, y8, z8⟩, st8⟩ := X5.virtualBack hx (y := (⟨cQC, "others", dOT⟩ : MethodName)) (z := (⟨cQC, "others", dOT⟩ : MethodName)) hown (mvT hZ (own_w hw 46 rfl)) (mvT hZ (own_w hw 47 rfl)) (notFace_of_selects (args := #[]) (mvT hZ (own_w hw 49 rfl))) (mvT hZ (own_w hw 49 rfl)) (mvT hZ (own_w hw 48 rfl)) (by decide) (backOf (W := 0) (rm_otm l Z a0 hw [] qn otn h0 n0 O0 (HQ.2.2.2.1.ext O0.2)) hZ (own_w hw 50 rfl) (own_w hw 20 rfl) (by decide) (by decide)) qa8 qc8 (g := (mkF m 11 #[.val (.ref a1), .val (.ref qn), .val (.ref edn), .val (.int p3), .val (.int p4), .val (.ref idn), .unset] [(.ref qn)])) rfl (by rw [hml]; rfl) (Steps.refl _) (argsL := []) (rest := []) (lenOf pd_si2_2 rfl) rfl (by show 2 * 0 + _ ≤ _; exact Nat.le_of_eq rfl) (hb hby d_prog_56_1_11) (fun _ _ => ⟨rfl, e5, (by decide : 0 + 0 ≤ _), (by decide : 0 + 0 ≤ _)⟩)
  dsimp only [Pt.U, Pt.locs, Pt.cells, Pt.slots] at X8 l8 y8 z8 st8 hQ8
  subst l8 y8 z8
  obtain ⟨rfl, N8q, e8⟩ := hQ8
  have N8 := Fr.app N5 N8q
  have pre_9 : ∀ t, Sp p e below T8 (mkF m 14 #[.val (.ref a1), .val (.ref qn), .val (.ref edn), .val (.int p3), .val (.int p4), .val (.ref idn), .unset] [(.ref otn)]) t → Steps p.tables e below E0 t := fun t k => pre_7 t (st8.trans k)
  obtain ⟨T10, X10, e10, st10⟩ := getS X8 hx hZ hown (host := "") (own_w hw 55 rfl) Via.refl e8 (SX.ext O0.2) (g := (mkF m 14 #[.val (.ref a1), .val (.ref qn), .val (.ref edn), .val (.int p3), .val (.int p4), .val (.ref idn), .unset] [(.ref otn)])) rfl (hb hby d_prog_56_1_14)
  have pre_11 : ∀ t, Sp p e below T10 (mkF m 17 #[.val (.ref a1), .val (.ref qn), .val (.ref edn), .val (.int p3), .val (.int p4), .val (.ref idn), .unset] [(.ref aX), (.ref otn)]) t → Steps p.tables e below E0 t := fun t k => pre_9 t (st10 t k)
  have pre_12 : ∀ t, Sp p e below T10 (mkF m 87 #[.val (.ref a1), .val (.ref qn), .val (.ref edn), .val (.int p3), .val (.int p4), .val (.ref idn), .val (.int (0 : Int32))] [(.ref qn)]) t → Steps p.tables e below E0 t := by
    intro t k
    refine pre_11 t ?_
    show Sp p e below T10 (mkF m 17 #[.val (.ref a1), .val (.ref qn), .val (.ref edn), .val (.int p3), .val (.int p4), .val (.ref idn), .unset] [(.ref aX), (.ref otn)]) _
    refine XT.acmpYes X10.here hx rfl (pc0 := 17) (pc' := 24) rfl (hb hby d_prog_56_1_17) rfl rfl rfl (XT.aa_ne_t (fun q => neX (Value.ref.inj q))) (by decide) (by decide) ?_
    refine XS.iconst X10.here hx rfl (hb hby d_prog_56_1_24) ?_
    refine XS.istore X10.here hx rfl (hb hby d_prog_56_1_25) rfl (l' := #[.val (.ref a1), .val (.ref qn), .val (.ref edn), .val (.int p3), .val (.int p4), .val (.ref idn), .val (.int (0 : Int32))]) rfl ?_
    refine XS.iload X10.here hx rfl (hb hby d_prog_56_1_27) rfl ?_
    show Sp p e below T10 (mkF m 29 #[.val (.ref a1), .val (.ref qn), .val (.ref edn), .val (.int p3), .val (.int p4), .val (.ref idn), .val (.int (0 : Int32))] [(.int (0 : Int32))]) _
    refine XS.ifYes X10.here hx rfl (pc0 := 29) (pc' := 62) rfl (hb hby d_prog_56_1_29) rfl (XT.i0_eq_t (by decide)) (by decide) (by decide) ?_
    refine XS.iload X10.here hx rfl (hb hby d_prog_56_1_62) rfl ?_
    refine XS.ifNo X10.here hx rfl (hb hby d_prog_56_1_64) rfl (XT.i0_ne_f (by decide)) ?_
    refine XS.iloadN X10.here hx rfl (hb hby d_prog_56_1_67) rfl ?_
    refine XS.iconst X10.here hx rfl (hb hby d_prog_56_1_68) ?_
    refine XS.icmpYes X10.here hx rfl (pc0 := 69) (pc' := 86) rfl (hb hby d_prog_56_1_69) rfl (XT.ii_ge_t hp) (by decide) (by decide) ?_
    refine XS.aloadN X10.here hx rfl (hb hby d_prog_56_1_86) rfl rfl ?_
    exact k
  obtain ⟨cq13, kq13, qa13, qb13, qc13⟩ := isOf hZ e10 (HQ.2.1.ext O0.2)
  obtain ⟨_, _, ⟨T13, L13, k13, n13⟩, -, X13, ⟨Lc13, hQ13, l13, y13, z13⟩, st13⟩ := X10.virtualBack hx (y := (⟨cQC, "atAnEnd", "()Z"⟩ : MethodName)) (z := (⟨cQC, "atAnEnd", "()Z"⟩ : MethodName)) hown (mvT hZ (own_w hw 57 rfl)) (mvT hZ (own_w hw 58 rfl)) (notFace_of_selects (args := #[]) (mvT hZ (own_w hw 60 rfl))) (mvT hZ (own_w hw 60 rfl)) (mvT hZ (own_w hw 59 rfl)) (by decide) (backOf (W := 0) (rm_atm1 l Z a0 hw [] qn  h0 n0 O0 (HQ.2.2.2.2.1.ext O0.2)) hZ (own_w hw 61 rfl) (own_w hw 20 rfl) (by decide) (by decide)) qa13 qc13 (g := (mkF m 87 #[.val (.ref a1), .val (.ref qn), .val (.ref edn), .val (.int p3), .val (.int p4), .val (.ref idn), .val (.int (0 : Int32))] [(.ref qn)])) rfl (by rw [hml]; rfl) (Steps.refl _) (argsL := []) (rest := []) (lenOf pd_si2_3 rfl) rfl (by show 2 * 0 + _ ≤ _; exact Nat.le_of_eq rfl) (hb hby d_prog_56_1_87) (fun _ _ => ⟨rfl, e10, (by decide : 0 + 0 ≤ _), (by decide : 0 + 0 ≤ _)⟩)
  dsimp only [Pt.U, Pt.locs, Pt.cells, Pt.slots] at X13 l13 y13 z13 st13 hQ13
  subst l13 y13 z13
  obtain ⟨rfl, N13q, e13⟩ := hQ13
  have N13 := Fr.app N8 N13q
  have pre_14 : ∀ t, Sp p e below T13 (mkF m 90 #[.val (.ref a1), .val (.ref qn), .val (.ref edn), .val (.int p3), .val (.int p4), .val (.ref idn), .val (.int (0 : Int32))] [(.int (1 : Int32))]) t → Steps p.tables e below E0 t := fun t k => pre_12 t (st13.trans k)
  have pre_15 : ∀ t, Sp p e below T13 (mkF m 94 #[.val (.ref a1), .val (.ref qn), .val (.ref edn), .val (.int p3), .val (.int p4), .val (.ref idn), .val (.int (0 : Int32))] [(.ref edn)]) t → Steps p.tables e below E0 t := by
    intro t k
    refine pre_14 t ?_
    show Sp p e below T13 (mkF m 90 #[.val (.ref a1), .val (.ref qn), .val (.ref edn), .val (.int p3), .val (.int p4), .val (.ref idn), .val (.int (0 : Int32))] [(.int (1 : Int32))]) _
    refine XS.ifNo X13.here hx rfl (hb hby d_prog_56_1_90) rfl (XT.i0_eq_f (by decide)) ?_
    show Sp p e below T13 (mkF m 93 #[.val (.ref a1), .val (.ref qn), .val (.ref edn), .val (.int p3), .val (.int p4), .val (.ref idn), .val (.int (0 : Int32))] []) _
    refine XS.aloadN X13.here hx rfl (hb hby d_prog_56_1_93) rfl rfl ?_
    exact k
  obtain ⟨T16, X16, e16, st16⟩ := getS X13 hx hZ hown (host := "") (own_w hw 64 rfl) Via.refl e13 (ST.ext O0.2) (g := (mkF m 94 #[.val (.ref a1), .val (.ref qn), .val (.ref edn), .val (.int p3), .val (.int p4), .val (.ref idn), .val (.int (0 : Int32))] [(.ref edn)])) rfl (hb hby d_prog_56_1_94)
  have pre_17 : ∀ t, Sp p e below T16 (mkF m 97 #[.val (.ref a1), .val (.ref qn), .val (.ref edn), .val (.int p3), .val (.int p4), .val (.ref idn), .val (.int (0 : Int32))] [(.ref aT), (.ref edn)]) t → Steps p.tables e below E0 t := fun t k => pre_15 t (st16 t k)
  have pre_18 : ∀ t, Sp p e below T16 (mkF m 116 #[.val (.ref a1), .val (.ref qn), .val (.ref edn), .val (.int p3), .val (.int p4), .val (.ref idn), .val (.int (0 : Int32))] [(.ref qn)]) t → Steps p.tables e below E0 t := by
    intro t k
    refine pre_17 t ?_
    show Sp p e below T16 (mkF m 97 #[.val (.ref a1), .val (.ref qn), .val (.ref edn), .val (.int p3), .val (.int p4), .val (.ref idn), .val (.int (0 : Int32))] [(.ref aT), (.ref edn)]) _
    refine XT.acmpYes X16.here hx rfl (pc0 := 97) (pc' := 115) rfl (hb hby d_prog_56_1_97) rfl rfl rfl (XT.aa_ne_t (fun q => neT (Value.ref.inj q))) (by decide) (by decide) ?_
    refine XS.aloadN X16.here hx rfl (hb hby d_prog_56_1_115) rfl rfl ?_
    exact k
  obtain ⟨cq19, kq19, qa19, qb19, qc19⟩ := isOf hZ e16 (HQ.2.1.ext O0.2)
  obtain ⟨_, _, ⟨T19, L19, k19, n19⟩, -, X19, ⟨Lc19, hQ19, l19, y19, z19⟩, st19⟩ := X16.virtualBack hx (y := (⟨cQC, "atAnEnd", "()Z"⟩ : MethodName)) (z := (⟨cQC, "atAnEnd", "()Z"⟩ : MethodName)) hown (mvT hZ (own_w hw 57 rfl)) (mvT hZ (own_w hw 58 rfl)) (notFace_of_selects (args := #[]) (mvT hZ (own_w hw 60 rfl))) (mvT hZ (own_w hw 60 rfl)) (mvT hZ (own_w hw 59 rfl)) (by decide) (backOf (W := 0) (rm_atm1 l Z a0 hw [] qn  h0 n0 O0 (HQ.2.2.2.2.1.ext O0.2)) hZ (own_w hw 61 rfl) (own_w hw 20 rfl) (by decide) (by decide)) qa19 qc19 (g := (mkF m 116 #[.val (.ref a1), .val (.ref qn), .val (.ref edn), .val (.int p3), .val (.int p4), .val (.ref idn), .val (.int (0 : Int32))] [(.ref qn)])) rfl (by rw [hml]; rfl) (Steps.refl _) (argsL := []) (rest := []) (lenOf pd_si2_3 rfl) rfl (by show 2 * 0 + _ ≤ _; exact Nat.le_of_eq rfl) (hb hby d_prog_56_1_116) (fun _ _ => ⟨rfl, e16, (by decide : 0 + 0 ≤ _), (by decide : 0 + 0 ≤ _)⟩)
  dsimp only [Pt.U, Pt.locs, Pt.cells, Pt.slots] at X19 l19 y19 z19 st19 hQ19
  subst l19 y19 z19
  obtain ⟨rfl, N19q, e19⟩ := hQ19
  have N19 := Fr.app N13 N19q
  have pre_20 : ∀ t, Sp p e below T19 (mkF m 119 #[.val (.ref a1), .val (.ref qn), .val (.ref edn), .val (.int p3), .val (.int p4), .val (.ref idn), .val (.int (0 : Int32))] [(.int (1 : Int32))]) t → Steps p.tables e below E0 t := fun t k => pre_18 t (st19.trans k)
  have pre_21 : ∀ t, Sp p e below T19 (mkF m 148 #[.val (.ref a1), .val (.ref qn), .val (.ref edn), .val (.int p3), .val (.int p4), .val (.ref idn), .val (.int (0 : Int32))] []) t → Steps p.tables e below E0 t := by
    intro t k
    refine pre_20 t ?_
    show Sp p e below T19 (mkF m 119 #[.val (.ref a1), .val (.ref qn), .val (.ref edn), .val (.int p3), .val (.int p4), .val (.ref idn), .val (.int (0 : Int32))] [(.int (1 : Int32))]) _
    refine XS.ifYes X19.here hx rfl (pc0 := 119) (pc' := 148) rfl (hb hby d_prog_56_1_119) rfl (XT.i0_ne_t (by decide)) (by decide) (by decide) ?_
    exact k
  obtain ⟨T22, X22, e22, st22⟩ := getS X19 hx hZ hown (host := "") (own_w hw 65 rfl) Via.refl e19 (SS.ext O0.2) (g := (mkF m 148 #[.val (.ref a1), .val (.ref qn), .val (.ref edn), .val (.int p3), .val (.int p4), .val (.ref idn), .val (.int (0 : Int32))] [])) rfl (hb hby d_prog_56_1_148)
  have pre_23 : ∀ t, Sp p e below T22 (mkF m 151 #[.val (.ref a1), .val (.ref qn), .val (.ref edn), .val (.int p3), .val (.int p4), .val (.ref idn), .val (.int (0 : Int32))] [(.ref aS)]) t → Steps p.tables e below E0 t := fun t k => pre_21 t (st22 t k)
  have pre_24 : ∀ t, Sp p e below T22 (mkF m 152 #[.val (.ref a1), .val (.ref qn), .val (.ref edn), .val (.int p3), .val (.int p4), .val (.ref idn), .val (.int (0 : Int32))] [(.ref qn), (.ref aS)]) t → Steps p.tables e below E0 t := by
    intro t k
    refine pre_23 t ?_
    show Sp p e below T22 (mkF m 151 #[.val (.ref a1), .val (.ref qn), .val (.ref edn), .val (.int p3), .val (.int p4), .val (.ref idn), .val (.int (0 : Int32))] [(.ref aS)]) _
    refine XS.aloadN X22.here hx rfl (hb hby d_prog_56_1_151) rfl rfl ?_
    exact k
  obtain ⟨cq25, kq25, qa25, qb25, qc25⟩ := isOf hZ e22 (HQ.2.1.ext O0.2)
  obtain ⟨_, _, ⟨T25, L25, k25, n25⟩, -, X25, ⟨Lc25, hQ25, l25, y25, z25⟩, st25⟩ := X22.virtualBack hx (y := (⟨cQC, "others", dOT⟩ : MethodName)) (z := (⟨cQC, "others", dOT⟩ : MethodName)) hown (mvT hZ (own_w hw 46 rfl)) (mvT hZ (own_w hw 47 rfl)) (notFace_of_selects (args := #[]) (mvT hZ (own_w hw 49 rfl))) (mvT hZ (own_w hw 49 rfl)) (mvT hZ (own_w hw 48 rfl)) (by decide) (backOf (W := 1) (rm_otm l Z a0 hw [] qn otn h0 n0 O0 (HQ.2.2.2.1.ext O0.2)) hZ (own_w hw 50 rfl) (own_w hw 20 rfl) (by decide) (by decide)) qa25 qc25 (g := (mkF m 152 #[.val (.ref a1), .val (.ref qn), .val (.ref edn), .val (.int p3), .val (.int p4), .val (.ref idn), .val (.int (0 : Int32))] [(.ref qn), (.ref aS)])) rfl (by rw [hml]; rfl) (Steps.refl _) (argsL := []) (rest := [(.ref aS)]) (lenOf pd_si2_2 rfl) rfl (by show 2 * 0 + _ ≤ _; exact Nat.le_of_eq rfl) (hb hby d_prog_56_1_152) (fun _ _ => ⟨rfl, e22, (by decide : 0 + 0 ≤ _), (by decide : 0 + 0 ≤ _)⟩)
  dsimp only [Pt.U, Pt.locs, Pt.cells, Pt.slots] at X25 l25 y25 z25 st25 hQ25
  subst l25 y25 z25
  obtain ⟨rfl, N25q, e25⟩ := hQ25
  have N25 := Fr.app N19 N25q
  have pre_26 : ∀ t, Sp p e below T25 (mkF m 155 #[.val (.ref a1), .val (.ref qn), .val (.ref edn), .val (.int p3), .val (.int p4), .val (.ref idn), .val (.int (0 : Int32))] [(.ref otn), (.ref aS)]) t → Steps p.tables e below E0 t := fun t k => pre_24 t (st25.trans k)
  obtain ⟨cq27, kq27, qa27, qb27, qc27⟩ := isOf hZ e25 (HO.1.ext O0.2)
  obtain ⟨_, _, ⟨T27, L27, k27, n27⟩, -, X27, ⟨Lc27, hQ27, l27, y27, z27⟩, st27⟩ := X25.virtualBackUp hx (x := (⟨cOC, "ordinal", "()I"⟩ : MethodName)) (y := (⟨cEN, "ordinal", "()I"⟩ : MethodName)) hown (mvT hZ (own_w hw 68 rfl)) (mvT hZ (own_w hw 69 rfl)) (mvT hZ (own_w hw 70 rfl)) (by decide) (mvT hZ (own_w hw 72 rfl)) (mvT hZ (own_w hw 71 rfl)) (backOf (W := 1) (rm_ord l Z a0 hw [] otn (3 : Int32) h0 n0 O0 (HO.2.ext O0.2)) hZ (own_w hw 74 rfl) (own_w hw 73 rfl) (by decide) (by decide)) qa27 qc27 (g := (mkF m 155 #[.val (.ref a1), .val (.ref qn), .val (.ref edn), .val (.int p3), .val (.int p4), .val (.ref idn), .val (.int (0 : Int32))] [(.ref otn), (.ref aS)])) rfl (by rw [hml]; rfl) (Steps.refl _) (argsL := []) (rest := [(.ref aS)]) (lenOf pd_si2_4 rfl) rfl (by show 2 * 0 + _ ≤ _; exact Nat.le_of_eq rfl) (hb hby d_prog_56_1_155) (fun _ _ => ⟨rfl, e25, (by decide : 0 + 0 ≤ _), (by decide : 0 + 0 ≤ _)⟩)
  dsimp only [Pt.U, Pt.locs, Pt.cells, Pt.slots] at X27 l27 y27 z27 st27 hQ27
  subst l27 y27 z27
  obtain ⟨rfl, N27q, e27⟩ := hQ27
  have N27 := Fr.app N25 N27q
  have pre_28 : ∀ t, Sp p e below T27 (mkF m 158 #[.val (.ref a1), .val (.ref qn), .val (.ref edn), .val (.int p3), .val (.int p4), .val (.ref idn), .val (.int (0 : Int32))] [(.int (3 : Int32)), (.ref aS)]) t → Steps p.tables e below E0 t := fun t k => pre_26 t (st27.trans k)
  have pre_30 : ∀ t, Sp p e below T27 (mkF m 334 #[.val (.ref a1), .val (.ref qn), .val (.ref edn), .val (.int p3), .val (.int p4), .val (.ref idn), .val (.int (0 : Int32))] [(.ref qn), (.ref a1)]) t → Steps p.tables e below E0 t := by
    intro t k
    refine pre_28 t ?_
    obtain ⟨cl29, Ar29, -, S29, -, H29, -⟩ := id (VS.ext O0.2)
    have hin29 : ¬ ((3 : Int32) < 0 ∨ cl29.slots.size ≤ ((3 : Int32)).toNatClampNeg) := inb_of S29 (by decide)
    refine X27.iaload hx (j := (3 : Int32)) (v := (.int (5 : Int32))) (by rw [e27]; exact Ar29.1) (State.isArrayOf_alike hZ.alike Ar29.2.1) Ar29.2.2 hin29 (H29.at hin29 rfl) (g := (mkF m 158 #[.val (.ref a1), .val (.ref qn), .val (.ref edn), .val (.int p3), .val (.int p4), .val (.ref idn), .val (.int (0 : Int32))] [(.int (3 : Int32)), (.ref aS)])) rfl rfl (hb hby d_prog_56_1_158) _ ?_
    refine XS.tswIn X27.here hx rfl (pc0 := 159) (pc' := 248) rfl (hb hby d_prog_56_1_159) rfl (by decide) (o := 89) rfl (by decide) (by decide) ?_
    refine XS.iload X27.here hx rfl (hb hby d_prog_56_1_248) rfl ?_
    show Sp p e below T27 (mkF m 250 #[.val (.ref a1), .val (.ref qn), .val (.ref edn), .val (.int p3), .val (.int p4), .val (.ref idn), .val (.int (0 : Int32))] [(.int p4)]) _
    refine XS.iconst X27.here hx rfl (hb hby d_prog_56_1_250) ?_
    refine XS.icmpNo X27.here hx rfl (hb hby d_prog_56_1_251) rfl (XT.ii_lt_f hq) ?_
    refine XS.iload X27.here hx rfl (hb hby d_prog_56_1_254) rfl ?_
    refine XS.iloadN X27.here hx rfl (hb hby d_prog_56_1_256) rfl ?_
    refine XS.icmpYes X27.here hx rfl (pc0 := 257) (pc' := 332) rfl (hb hby d_prog_56_1_257) rfl (XT.ii_ne_t hr) (by decide) (by decide) ?_
    refine XS.aloadN X27.here hx rfl (hb hby d_prog_56_1_332) rfl rfl ?_
    refine XS.aloadN X27.here hx rfl (hb hby d_prog_56_1_333) rfl rfl ?_
    exact k
  obtain ⟨T31, h31, X31, e31, W31, st31⟩ := putF X27 hx hZ hown (host := "") (Or.inl (own_w hw 77 rfl)) Via.refl e27 F1 E1 (Or.inr ⟨(own_w hw 78 rfl), rfl, hnm⟩) (own_w hw 14 rfl) (ty := (.object cQC)) (by decide) rfl rfl (g := (mkF m 334 #[.val (.ref a1), .val (.ref qn), .val (.ref edn), .val (.int p3), .val (.int p4), .val (.ref idn), .val (.int (0 : Int32))] [(.ref qn), (.ref a1)])) rfl rfl (hb hby d_prog_56_1_334)
  have Fw31 := F1.same W31
  have N31 := Fr.snoc X31 N27 g1
  have O31 : Old Z n0 h31 := O0.wr W31 g1
  have pre_32 : ∀ t, Sp p e below T31 (mkF m 337 #[.val (.ref a1), .val (.ref qn), .val (.ref edn), .val (.int p3), .val (.int p4), .val (.ref idn), .val (.int (0 : Int32))] []) t → Steps p.tables e below E0 t := fun t k => pre_30 t (st31 t k)
  have pre_33 : ∀ t, Sp p e below T31 (mkF m 339 #[.val (.ref a1), .val (.ref qn), .val (.ref edn), .val (.int p3), .val (.int p4), .val (.ref idn), .val (.int (0 : Int32))] [(.ref edn), (.ref a1)]) t → Steps p.tables e below E0 t := by
    intro t k
    refine pre_32 t ?_
    show Sp p e below T31 (mkF m 337 #[.val (.ref a1), .val (.ref qn), .val (.ref edn), .val (.int p3), .val (.int p4), .val (.ref idn), .val (.int (0 : Int32))] []) _
    refine XS.aloadN X31.here hx rfl (hb hby d_prog_56_1_337) rfl rfl ?_
    show Sp p e below T31 (mkF m 338 #[.val (.ref a1), .val (.ref qn), .val (.ref edn), .val (.int p3), .val (.int p4), .val (.ref idn), .val (.int (0 : Int32))] [(.ref a1)]) _
    refine XS.aloadN X31.here hx rfl (hb hby d_prog_56_1_338) rfl rfl ?_
    exact k
  obtain ⟨T34, h34, X34, e34, W34, st34⟩ := putF X31 hx hZ hown (host := "") (Or.inl (own_w hw 79 rfl)) Via.refl e31 (F2.other W31 (Or.inr (slot_ne (Or.inr (own_w hw 80 rfl)) (Or.inr (own_w hw 78 rfl)) (by decide) (t := (.object cEC)) (t' := (.object cQC)) (by decide) (by decide)))) (E1.wr W31) (Or.inr ⟨(own_w hw 80 rfl), rfl, hnm⟩) (own_w hw 14 rfl) (ty := (.object cEC)) (by decide) rfl rfl (g := (mkF m 339 #[.val (.ref a1), .val (.ref qn), .val (.ref edn), .val (.int p3), .val (.int p4), .val (.ref idn), .val (.int (0 : Int32))] [(.ref edn), (.ref a1)])) rfl rfl (hb hby d_prog_56_1_339)
  have Fw34 := (F2.other W31 (Or.inr (slot_ne (Or.inr (own_w hw 80 rfl)) (Or.inr (own_w hw 78 rfl)) (by decide) (t := (.object cEC)) (t' := (.object cQC)) (by decide) (by decide)))).same W34
  have N34 := Fr.snoc X34 N31 g1
  have O34 : Old Z n0 h34 := O31.wr W34 g1
  have pre_35 : ∀ t, Sp p e below T34 (mkF m 342 #[.val (.ref a1), .val (.ref qn), .val (.ref edn), .val (.int p3), .val (.int p4), .val (.ref idn), .val (.int (0 : Int32))] []) t → Steps p.tables e below E0 t := fun t k => pre_33 t (st34 t k)
  have pre_36 : ∀ t, Sp p e below T34 (mkF m 344 #[.val (.ref a1), .val (.ref qn), .val (.ref edn), .val (.int p3), .val (.int p4), .val (.ref idn), .val (.int (0 : Int32))] [(.int p3), (.ref a1)]) t → Steps p.tables e below E0 t := by
    intro t k
    refine pre_35 t ?_
    show Sp p e below T34 (mkF m 342 #[.val (.ref a1), .val (.ref qn), .val (.ref edn), .val (.int p3), .val (.int p4), .val (.ref idn), .val (.int (0 : Int32))] []) _
    refine XS.aloadN X34.here hx rfl (hb hby d_prog_56_1_342) rfl rfl ?_
    refine XS.iloadN X34.here hx rfl (hb hby d_prog_56_1_343) rfl ?_
    exact k
  obtain ⟨T37, h37, X37, e37, W37, st37⟩ := putF X34 hx hZ hown (host := "") (Or.inl (own_w hw 81 rfl)) Via.refl e34 ((F3.other W31 (Or.inr (slot_ne (Or.inr (own_w hw 82 rfl)) (Or.inr (own_w hw 78 rfl)) (by decide) (t := .int) (t' := (.object cQC)) (by decide) (by decide)))).other W34 (Or.inr (slot_ne (Or.inr (own_w hw 82 rfl)) (Or.inr (own_w hw 80 rfl)) (by decide) (t := .int) (t' := (.object cEC)) (by decide) (by decide)))) ((E1.wr W31).wr W34) (Or.inr ⟨(own_w hw 82 rfl), rfl, hnm⟩) (own_w hw 14 rfl) (ty := .int) (by decide) rfl rfl (g := (mkF m 344 #[.val (.ref a1), .val (.ref qn), .val (.ref edn), .val (.int p3), .val (.int p4), .val (.ref idn), .val (.int (0 : Int32))] [(.int p3), (.ref a1)])) rfl rfl (hb hby d_prog_56_1_344)
  have Fw37 := ((F3.other W31 (Or.inr (slot_ne (Or.inr (own_w hw 82 rfl)) (Or.inr (own_w hw 78 rfl)) (by decide) (t := .int) (t' := (.object cQC)) (by decide) (by decide)))).other W34 (Or.inr (slot_ne (Or.inr (own_w hw 82 rfl)) (Or.inr (own_w hw 80 rfl)) (by decide) (t := .int) (t' := (.object cEC)) (by decide) (by decide)))).same W37
  have N37 := Fr.snoc X37 N34 g1
  have O37 : Old Z n0 h37 := O34.wr W37 g1
  have pre_38 : ∀ t, Sp p e below T37 (mkF m 347 #[.val (.ref a1), .val (.ref qn), .val (.ref edn), .val (.int p3), .val (.int p4), .val (.ref idn), .val (.int (0 : Int32))] []) t → Steps p.tables e below E0 t := fun t k => pre_36 t (st37 t k)
  have pre_39 : ∀ t, Sp p e below T37 (mkF m 350 #[.val (.ref a1), .val (.ref qn), .val (.ref edn), .val (.int p3), .val (.int p4), .val (.ref idn), .val (.int (0 : Int32))] [(.int p4), (.ref a1)]) t → Steps p.tables e below E0 t := by
    intro t k
    refine pre_38 t ?_
    show Sp p e below T37 (mkF m 347 #[.val (.ref a1), .val (.ref qn), .val (.ref edn), .val (.int p3), .val (.int p4), .val (.ref idn), .val (.int (0 : Int32))] []) _
    refine XS.aloadN X37.here hx rfl (hb hby d_prog_56_1_347) rfl rfl ?_
    refine XS.iload X37.here hx rfl (hb hby d_prog_56_1_348) rfl ?_
    exact k
  obtain ⟨T40, h40, X40, e40, W40, st40⟩ := putF X37 hx hZ hown (host := "") (Or.inl (own_w hw 83 rfl)) Via.refl e37 (((F4.other W31 (Or.inr (slot_ne (Or.inr (own_w hw 84 rfl)) (Or.inr (own_w hw 78 rfl)) (by decide) (t := .int) (t' := (.object cQC)) (by decide) (by decide)))).other W34 (Or.inr (slot_ne (Or.inr (own_w hw 84 rfl)) (Or.inr (own_w hw 80 rfl)) (by decide) (t := .int) (t' := (.object cEC)) (by decide) (by decide)))).other W37 (Or.inr (slot_ne (Or.inr (own_w hw 84 rfl)) (Or.inr (own_w hw 82 rfl)) (by decide) (t := .int) (t' := .int) (by decide) (by decide)))) (((E1.wr W31).wr W34).wr W37) (Or.inr ⟨(own_w hw 84 rfl), rfl, hnm⟩) (own_w hw 14 rfl) (ty := .int) (by decide) rfl rfl (g := (mkF m 350 #[.val (.ref a1), .val (.ref qn), .val (.ref edn), .val (.int p3), .val (.int p4), .val (.ref idn), .val (.int (0 : Int32))] [(.int p4), (.ref a1)])) rfl rfl (hb hby d_prog_56_1_350)
  have Fw40 := (((F4.other W31 (Or.inr (slot_ne (Or.inr (own_w hw 84 rfl)) (Or.inr (own_w hw 78 rfl)) (by decide) (t := .int) (t' := (.object cQC)) (by decide) (by decide)))).other W34 (Or.inr (slot_ne (Or.inr (own_w hw 84 rfl)) (Or.inr (own_w hw 80 rfl)) (by decide) (t := .int) (t' := (.object cEC)) (by decide) (by decide)))).other W37 (Or.inr (slot_ne (Or.inr (own_w hw 84 rfl)) (Or.inr (own_w hw 82 rfl)) (by decide) (t := .int) (t' := .int) (by decide) (by decide)))).same W40
  have N40 := Fr.snoc X40 N37 g1
  have O40 : Old Z n0 h40 := O37.wr W40 g1
  have pre_41 : ∀ t, Sp p e below T40 (mkF m 353 #[.val (.ref a1), .val (.ref qn), .val (.ref edn), .val (.int p3), .val (.int p4), .val (.ref idn), .val (.int (0 : Int32))] []) t → Steps p.tables e below E0 t := fun t k => pre_39 t (st40 t k)
  obtain ⟨fs, hr, hrun, hended, hW, hsame⟩ := X40.leave (v := none) (fun _ => rfl)
  refine ⟨_, _, pre_41 _ ?_, hrun, hended, _, _, rfl, ?_, ⟨_, rfl⟩, hW, hsame.mono (by decide) (by decide)⟩
  · show Sp p e below T40 (mkF m 353 #[.val (.ref a1), .val (.ref qn), .val (.ref edn), .val (.int p3), .val (.int p4), .val (.ref idn), .val (.int (0 : Int32))] []) _
    exact X40.returnOut hx Bd.returns (hb hby d_prog_56_1_353) hr
  · show Q_si Z _ _ _ _ _ h0 n0 _ T40.heap _
    rw [e40]
    exact ⟨rfl, N40, (((((Keep.refl h0 [a1]).wr W31 (Or.inl (List.mem_of_getElem? (i := 0) rfl))).wr W34 (Or.inl (List.mem_of_getElem? (i := 0) rfl))).wr W37 (Or.inl (List.mem_of_getElem? (i := 0) rfl))).wr W40 (Or.inl (List.mem_of_getElem? (i := 0) rfl))), (((Fw31.other W34 (Or.inr (slot_ne (Or.inr (own_w hw 78 rfl)) (Or.inr (own_w hw 80 rfl)) (by decide) (t := (.object cQC)) (t' := (.object cEC)) (by decide) (by decide)))).other W37 (Or.inr (slot_ne (Or.inr (own_w hw 78 rfl)) (Or.inr (own_w hw 82 rfl)) (by decide) (t := (.object cQC)) (t' := .int) (by decide) (by decide)))).other W40 (Or.inr (slot_ne (Or.inr (own_w hw 78 rfl)) (Or.inr (own_w hw 84 rfl)) (by decide) (t := (.object cQC)) (t' := .int) (by decide) (by decide)))), ((Fw34.other W37 (Or.inr (slot_ne (Or.inr (own_w hw 80 rfl)) (Or.inr (own_w hw 82 rfl)) (by decide) (t := (.object cEC)) (t' := .int) (by decide) (by decide)))).other W40 (Or.inr (slot_ne (Or.inr (own_w hw 80 rfl)) (Or.inr (own_w hw 84 rfl)) (by decide) (t := (.object cEC)) (t' := .int) (by decide) (by decide)))), (Fw37.other W40 (Or.inr (slot_ne (Or.inr (own_w hw 82 rfl)) (Or.inr (own_w hw 84 rfl)) (by decide) (t := .int) (t' := .int) (by decide) (by decide)))), Fw40⟩
theorem pn_si3 : plainName cSK = true := by first | (simp [plainName, overriddenIn]; done) | decide +kernel
theorem pd_si3_0 : parseMethodDescriptor "()V" = some ⟨[], none⟩ := by decide +kernel
theorem pd_si3_1 : parseMethodDescriptor "()Ljava/lang/String;" = some ⟨[], some (.object "java/lang/String")⟩ := by decide +kernel
theorem pd_si3_2 : parseMethodDescriptor dOT = some ⟨[], some (.object cOC)⟩ := by decide +kernel
theorem pd_si3_3 : parseMethodDescriptor "()Z" = some ⟨[], some .boolean⟩ := by decide +kernel
theorem pd_si3_4 : parseMethodDescriptor "()I" = some ⟨[], some .int⟩ := by decide +kernel
theorem ef_si3 (m : MethodId) (a1 : Addr) (qn : Addr) (edn : Addr) (p3 : Int32) : entryFrame m #[(.ref a1), (.ref qn), (.ref edn), (.int p3), (.int (0 : Int32))] 7 = (mkF m 0 #[.val (.ref a1), .val (.ref qn), .val (.ref edn), .val (.int p3), .val (.int (0 : Int32)), .unset, .unset] []) := by first | (simp [entryFrame, mkF, argsToLocals, Value.category]; done) | rfl
set_option maxRecDepth 65536 in
set_option maxHeartbeats 40000000 in
theorem rm_si3 (l : Launch) (Z : State) (a0 : Array Value) (hw : ∀ d ∈ tables_1, d.before a0 Z = true) (ws : List Jvm.Cond) (a1 : Addr) (qn : Addr) (edn : Addr) (p3 : Int32) (u1 u2 u3 u4 : Value) (idn : Addr) (otn : Addr) (aX aS : Addr) (kS : ClassId) (aT : Addr) (h0 : Heap) (n0 : Nat) (O0 : Old Z n0 h0) (E1 : Exa Z h0 a1 cSK) (F1 : Fld Z h0 a1 cSK "quantity" lQC u1) (F2 : Fld Z h0 a1 cSK "end" lEC u2) (F3 : Fld Z h0 a1 cSK "pair" "I" u3) (F4 : Fld Z h0 a1 cSK "other" "I" u4) (g1 : n0 ≤ a1) (HQ : own_Qf Z qn idn otn "PSNEXT" (1 : Int32) (3 : Int32)) (HO : own_Of Z otn (2 : Int32)) (SX : Sta Z Z.heap cOC "ACROSS" lOC (.ref aX)) (ST : Sta Z Z.heap cEC "THROUGH" lEC (.ref aT)) (SS : Sta Z Z.heap cS1 nSM "[I" (.ref aS)) (VS : Arv Z Z.heap aS kS .int (6 : Int32) [(.int (2 : Int32)), (.int (4 : Int32)), (.int (3 : Int32)), (.int (5 : Int32)), (.int (6 : Int32)), (.int (1 : Int32))] (.int (0 : Int32))) (neX : ¬ otn = aX) (neT : ¬ edn = aT) (hp : ¬ p3 < (1 : Int32)) :
    MetFree l (⟨cSK, "<init>", dSI⟩ : MethodName) (head1 (Jvm.Cond.code (⟨cSK, "<init>", dSI⟩ : MethodName) prog_56_method_1_code 7 none :: ws) ({ frames := 4, cells := 2, slots := 3, locals := 54 } : Room)) (fun a U => a = #[(.ref a1), (.ref qn), (.ref edn), (.int p3), (.int (0 : Int32))] ∧ Z.Warmed39 U.vm ∧ U.heap = h0) (fun _ _ _ _ _ => True) (fun _ U o U' => ∃ v L, o = .returned v ∧ Q_si Z a1 qn edn p3 (0 : Int32) h0 n0 v U'.heap L ∧ FrameEnd U o U' L ({ frames := 4, cells := 2, slots := 3, locals := 54 } : Room).cells ({ frames := 4, cells := 2, slots := 3, locals := 54 } : Room).slots) := by
  refine MetFree.of_bodySF (plainFor_of_name pn_si3) hisR ?_
  intro p e s m args below meth c s₁ Bd hml0 hP hK
  obtain ⟨rfl, hZ, hh⟩ := hP
  have hx := Bd.exec
  have hby := Bd.bytes
  have hml : c.maxLocals = 7 := hml0
  have hown : s.vm.findClass cSK = some m.cls := findClass_of_methodNamed Bd.named
  have hnm := (name_of_methodNamed Bd.named Bd.method).1
  have X0 : Stand p l e ({ frames := 4, cells := 2, slots := 3, locals := 54 } : Room) s m #[(.ref a1), (.ref qn), (.ref edn), (.int p3), (.int (0 : Int32))] below meth c s₁ [] 0 0 := Stand.of_body Bd
  have e0 : s₁.heap = h0 := by rw [← hh, Bd.state]; rfl
  have N0 := Fr.nil n0
  have pre0 : ∀ t, Steps p.tables e below (s₁.setTop (mkF m 0 #[.val (.ref a1), .val (.ref qn), .val (.ref edn), .val (.int p3), .val (.int (0 : Int32)), .unset, .unset] [])) t → Steps p.tables e below (s₁.setTop (entryFrame m #[(.ref a1), (.ref qn), (.ref edn), (.int p3), (.int (0 : Int32))] 7)) t := fun t k => castTop (ef_si3 m a1 qn edn p3) k
  generalize s₁.setTop (entryFrame m #[(.ref a1), (.ref qn), (.ref edn), (.int p3), (.int (0 : Int32))] 7) = E0 at pre0 ⊢
  have pre_1 : ∀ t, Sp p e below s₁ (mkF m 1 #[.val (.ref a1), .val (.ref qn), .val (.ref edn), .val (.int p3), .val (.int (0 : Int32)), .unset, .unset] [(.ref a1)]) t → Steps p.tables e below E0 t := by
    intro t k
    refine pre0 t ?_
    show Sp p e below s₁ (mkF m 0 #[.val (.ref a1), .val (.ref qn), .val (.ref edn), .val (.int p3), .val (.int (0 : Int32)), .unset, .unset] []) _
    refine XS.aloadN X0.here hx rfl (hb hby d_prog_56_1_0) rfl rfl ?_
    exact k
  obtain ⟨_, _, ⟨T2, L2, k2, n2⟩, -, X2, ⟨Lc2, hQ2, l2, y2, z2⟩, st2⟩ := X0.specialBack hx (y := (⟨"java/lang/Record", "<init>", "()V"⟩ : MethodName)) rfl hown (mvT hZ (own_w hw 31 rfl)) (mvT hZ (own_w hw 32 rfl)) (mvT hZ (own_w hw 35 rfl)) (by decide) (backOf (W := 0) (rm_rec l Z a0 hw [] a1 h0 n0 O0) hZ (own_w hw 35 rfl) (own_w hw 34 rfl) (by decide) (by decide)) (g := (mkF m 1 #[.val (.ref a1), .val (.ref qn), .val (.ref edn), .val (.int p3), .val (.int (0 : Int32)), .unset, .unset] [(.ref a1)])) rfl (by rw [hml]; rfl) (Steps.refl _) (a := a1) (argsL := []) (rest := []) (lenOf pd_si3_0 rfl) rfl (by show 2 * 0 + _ ≤ _; exact Nat.le_of_eq rfl) (hb hby d_prog_56_1_1) (fun _ _ => ⟨rfl, e0, (by decide : 0 + 0 ≤ _), (by decide : 0 + 0 ≤ _)⟩)
  dsimp only [Pt.U, Pt.locs, Pt.cells, Pt.slots] at X2 l2 y2 z2 st2 hQ2
  subst l2 y2 z2
  obtain ⟨rfl, N2q, e2⟩ := hQ2
  have N2 := Fr.app N0 N2q
  have pre_3 : ∀ t, Sp p e below T2 (mkF m 4 #[.val (.ref a1), .val (.ref qn), .val (.ref edn), .val (.int p3), .val (.int (0 : Int32)), .unset, .unset] []) t → Steps p.tables e below E0 t := fun t k => pre_1 t (st2.trans k)
  have pre_4 : ∀ t, Sp p e below T2 (mkF m 5 #[.val (.ref a1), .val (.ref qn), .val (.ref edn), .val (.int p3), .val (.int (0 : Int32)), .unset, .unset] [(.ref qn)]) t → Steps p.tables e below E0 t := by
    intro t k
    refine pre_3 t ?_
    show Sp p e below T2 (mkF m 4 #[.val (.ref a1), .val (.ref qn), .val (.ref edn), .val (.int p3), .val (.int (0 : Int32)), .unset, .unset] []) _
    refine XS.aloadN X2.here hx rfl (hb hby d_prog_56_1_4) rfl rfl ?_
    exact k
  obtain ⟨cq5, kq5, qa5, qb5, qc5⟩ := isOf hZ e2 (HQ.2.1.ext O0.2)
  obtain ⟨_, _, ⟨T5, L5, k5, n5⟩, -, X5, ⟨Lc5, hQ5, l5, y5, z5⟩, st5⟩ := X2.virtualBack hx (y := (⟨cQC, "identifier", "()Ljava/lang/String;"⟩ : MethodName)) (z := (⟨cQC, "identifier", "()Ljava/lang/String;"⟩ : MethodName)) hown (mvT hZ (own_w hw 39 rfl)) (mvT hZ (own_w hw 40 rfl)) (notFace_of_selects (args := #[]) (mvT hZ (own_w hw 42 rfl))) (mvT hZ (own_w hw 42 rfl)) (mvT hZ (own_w hw 41 rfl)) (by decide) (backOf (W := 0) (rm_idm l Z a0 hw [] qn idn h0 n0 O0 (HQ.2.2.1.ext O0.2)) hZ (own_w hw 43 rfl) (own_w hw 20 rfl) (by decide) (by decide)) qa5 qc5 (g := (mkF m 5 #[.val (.ref a1), .val (.ref qn), .val (.ref edn), .val (.int p3), .val (.int (0 : Int32)), .unset, .unset] [(.ref qn)])) rfl (by rw [hml]; rfl) (Steps.refl _) (argsL := []) (rest := []) (lenOf pd_si3_1 rfl) rfl (by show 2 * 0 + _ ≤ _; exact Nat.le_of_eq rfl) (hb hby d_prog_56_1_5) (fun _ _ => ⟨rfl, e2, (by decide : 0 + 0 ≤ _), (by decide : 0 + 0 ≤ _)⟩)
  dsimp only [Pt.U, Pt.locs, Pt.cells, Pt.slots] at X5 l5 y5 z5 st5 hQ5
  subst l5 y5 z5
  obtain ⟨rfl, N5q, e5⟩ := hQ5
  have N5 := Fr.app N2 N5q
  have pre_6 : ∀ t, Sp p e below T5 (mkF m 8 #[.val (.ref a1), .val (.ref qn), .val (.ref edn), .val (.int p3), .val (.int (0 : Int32)), .unset, .unset] [(.ref idn)]) t → Steps p.tables e below E0 t := fun t k => pre_4 t (st5.trans k)
  have pre_7 : ∀ t, Sp p e below T5 (mkF m 11 #[.val (.ref a1), .val (.ref qn), .val (.ref edn), .val (.int p3), .val (.int (0 : Int32)), .val (.ref idn), .unset] [(.ref qn)]) t → Steps p.tables e below E0 t := by
    intro t k
    refine pre_6 t ?_
    show Sp p e below T5 (mkF m 8 #[.val (.ref a1), .val (.ref qn), .val (.ref edn), .val (.int p3), .val (.int (0 : Int32)), .unset, .unset] [(.ref idn)]) _
    refine XS.astore X5.here hx rfl (hb hby d_prog_56_1_8) rfl rfl (l' := #[.val (.ref a1), .val (.ref qn), .val (.ref edn), .val (.int p3), .val (.int (0 : Int32)), .val (.ref idn), .unset]) rfl ?_
    refine XS.aloadN X5.here hx rfl (hb hby d_prog_56_1_10) rfl rfl ?_
    exact k
  obtain ⟨cq8, kq8, qa8, qb8, qc8⟩ := isOf hZ e5 (HQ.2.1.ext O0.2)
  obtain ⟨_, _, ⟨T8, L8, k8, n8⟩, -, X8, ⟨Lc8, hQ8, l8, y8, z8⟩, st8⟩ := X5.virtualBack hx (y := (⟨cQC, "others", dOT⟩ : MethodName)) (z := (⟨cQC, "others", dOT⟩ : MethodName)) hown (mvT hZ (own_w hw 46 rfl)) (mvT hZ (own_w hw 47 rfl)) (notFace_of_selects (args := #[]) (mvT hZ (own_w hw 49 rfl))) (mvT hZ (own_w hw 49 rfl)) (mvT hZ (own_w hw 48 rfl)) (by decide) (backOf (W := 0) (rm_otm l Z a0 hw [] qn otn h0 n0 O0 (HQ.2.2.2.1.ext O0.2)) hZ (own_w hw 50 rfl) (own_w hw 20 rfl) (by decide) (by decide)) qa8 qc8 (g := (mkF m 11 #[.val (.ref a1), .val (.ref qn), .val (.ref edn), .val (.int p3), .val (.int (0 : Int32)), .val (.ref idn), .unset] [(.ref qn)])) rfl (by rw [hml]; rfl) (Steps.refl _) (argsL := []) (rest := []) (lenOf pd_si3_2 rfl) rfl (by show 2 * 0 + _ ≤ _; exact Nat.le_of_eq rfl) (hb hby d_prog_56_1_11) (fun _ _ => ⟨rfl, e5, (by decide : 0 + 0 ≤ _), (by decide : 0 + 0 ≤ _)⟩)
  dsimp only [Pt.U, Pt.locs, Pt.cells, Pt.slots] at X8 l8 y8 z8 st8 hQ8
  subst l8 y8 z8
  obtain ⟨rfl, N8q, e8⟩ := hQ8
  have N8 := Fr.app N5 N8q
  have pre_9 : ∀ t, Sp p e below T8 (mkF m 14 #[.val (.ref a1), .val (.ref qn), .val (.ref edn), .val (.int p3), .val (.int (0 : Int32)), .val (.ref idn), .unset] [(.ref otn)]) t → Steps p.tables e below E0 t := fun t k => pre_7 t (st8.trans k)
  obtain ⟨T10, X10, e10, st10⟩ := getS X8 hx hZ hown (host := "") (own_w hw 55 rfl) Via.refl e8 (SX.ext O0.2) (g := (mkF m 14 #[.val (.ref a1), .val (.ref qn), .val (.ref edn), .val (.int p3), .val (.int (0 : Int32)), .val (.ref idn), .unset] [(.ref otn)])) rfl (hb hby d_prog_56_1_14)
  have pre_11 : ∀ t, Sp p e below T10 (mkF m 17 #[.val (.ref a1), .val (.ref qn), .val (.ref edn), .val (.int p3), .val (.int (0 : Int32)), .val (.ref idn), .unset] [(.ref aX), (.ref otn)]) t → Steps p.tables e below E0 t := fun t k => pre_9 t (st10 t k)
  have pre_12 : ∀ t, Sp p e below T10 (mkF m 87 #[.val (.ref a1), .val (.ref qn), .val (.ref edn), .val (.int p3), .val (.int (0 : Int32)), .val (.ref idn), .val (.int (0 : Int32))] [(.ref qn)]) t → Steps p.tables e below E0 t := by
    intro t k
    refine pre_11 t ?_
    show Sp p e below T10 (mkF m 17 #[.val (.ref a1), .val (.ref qn), .val (.ref edn), .val (.int p3), .val (.int (0 : Int32)), .val (.ref idn), .unset] [(.ref aX), (.ref otn)]) _
    refine XT.acmpYes X10.here hx rfl (pc0 := 17) (pc' := 24) rfl (hb hby d_prog_56_1_17) rfl rfl rfl (XT.aa_ne_t (fun q => neX (Value.ref.inj q))) (by decide) (by decide) ?_
    refine XS.iconst X10.here hx rfl (hb hby d_prog_56_1_24) ?_
    refine XS.istore X10.here hx rfl (hb hby d_prog_56_1_25) rfl (l' := #[.val (.ref a1), .val (.ref qn), .val (.ref edn), .val (.int p3), .val (.int (0 : Int32)), .val (.ref idn), .val (.int (0 : Int32))]) rfl ?_
    refine XS.iload X10.here hx rfl (hb hby d_prog_56_1_27) rfl ?_
    show Sp p e below T10 (mkF m 29 #[.val (.ref a1), .val (.ref qn), .val (.ref edn), .val (.int p3), .val (.int (0 : Int32)), .val (.ref idn), .val (.int (0 : Int32))] [(.int (0 : Int32))]) _
    refine XS.ifYes X10.here hx rfl (pc0 := 29) (pc' := 62) rfl (hb hby d_prog_56_1_29) rfl (XT.i0_eq_t (by decide)) (by decide) (by decide) ?_
    refine XS.iload X10.here hx rfl (hb hby d_prog_56_1_62) rfl ?_
    refine XS.ifNo X10.here hx rfl (hb hby d_prog_56_1_64) rfl (XT.i0_ne_f (by decide)) ?_
    refine XS.iloadN X10.here hx rfl (hb hby d_prog_56_1_67) rfl ?_
    refine XS.iconst X10.here hx rfl (hb hby d_prog_56_1_68) ?_
    refine XS.icmpYes X10.here hx rfl (pc0 := 69) (pc' := 86) rfl (hb hby d_prog_56_1_69) rfl (XT.ii_ge_t hp) (by decide) (by decide) ?_
    refine XS.aloadN X10.here hx rfl (hb hby d_prog_56_1_86) rfl rfl ?_
    exact k
  obtain ⟨cq13, kq13, qa13, qb13, qc13⟩ := isOf hZ e10 (HQ.2.1.ext O0.2)
  obtain ⟨_, _, ⟨T13, L13, k13, n13⟩, -, X13, ⟨Lc13, hQ13, l13, y13, z13⟩, st13⟩ := X10.virtualBack hx (y := (⟨cQC, "atAnEnd", "()Z"⟩ : MethodName)) (z := (⟨cQC, "atAnEnd", "()Z"⟩ : MethodName)) hown (mvT hZ (own_w hw 57 rfl)) (mvT hZ (own_w hw 58 rfl)) (notFace_of_selects (args := #[]) (mvT hZ (own_w hw 60 rfl))) (mvT hZ (own_w hw 60 rfl)) (mvT hZ (own_w hw 59 rfl)) (by decide) (backOf (W := 0) (rm_atm1 l Z a0 hw [] qn  h0 n0 O0 (HQ.2.2.2.2.1.ext O0.2)) hZ (own_w hw 61 rfl) (own_w hw 20 rfl) (by decide) (by decide)) qa13 qc13 (g := (mkF m 87 #[.val (.ref a1), .val (.ref qn), .val (.ref edn), .val (.int p3), .val (.int (0 : Int32)), .val (.ref idn), .val (.int (0 : Int32))] [(.ref qn)])) rfl (by rw [hml]; rfl) (Steps.refl _) (argsL := []) (rest := []) (lenOf pd_si3_3 rfl) rfl (by show 2 * 0 + _ ≤ _; exact Nat.le_of_eq rfl) (hb hby d_prog_56_1_87) (fun _ _ => ⟨rfl, e10, (by decide : 0 + 0 ≤ _), (by decide : 0 + 0 ≤ _)⟩)
  dsimp only [Pt.U, Pt.locs, Pt.cells, Pt.slots] at X13 l13 y13 z13 st13 hQ13
  subst l13 y13 z13
  obtain ⟨rfl, N13q, e13⟩ := hQ13
  have N13 := Fr.app N8 N13q
  have pre_14 : ∀ t, Sp p e below T13 (mkF m 90 #[.val (.ref a1), .val (.ref qn), .val (.ref edn), .val (.int p3), .val (.int (0 : Int32)), .val (.ref idn), .val (.int (0 : Int32))] [(.int (1 : Int32))]) t → Steps p.tables e below E0 t := fun t k => pre_12 t (st13.trans k)
  have pre_15 : ∀ t, Sp p e below T13 (mkF m 94 #[.val (.ref a1), .val (.ref qn), .val (.ref edn), .val (.int p3), .val (.int (0 : Int32)), .val (.ref idn), .val (.int (0 : Int32))] [(.ref edn)]) t → Steps p.tables e below E0 t := by
    intro t k
    refine pre_14 t ?_
    show Sp p e below T13 (mkF m 90 #[.val (.ref a1), .val (.ref qn), .val (.ref edn), .val (.int p3), .val (.int (0 : Int32)), .val (.ref idn), .val (.int (0 : Int32))] [(.int (1 : Int32))]) _
    refine XS.ifNo X13.here hx rfl (hb hby d_prog_56_1_90) rfl (XT.i0_eq_f (by decide)) ?_
    show Sp p e below T13 (mkF m 93 #[.val (.ref a1), .val (.ref qn), .val (.ref edn), .val (.int p3), .val (.int (0 : Int32)), .val (.ref idn), .val (.int (0 : Int32))] []) _
    refine XS.aloadN X13.here hx rfl (hb hby d_prog_56_1_93) rfl rfl ?_
    exact k
  obtain ⟨T16, X16, e16, st16⟩ := getS X13 hx hZ hown (host := "") (own_w hw 64 rfl) Via.refl e13 (ST.ext O0.2) (g := (mkF m 94 #[.val (.ref a1), .val (.ref qn), .val (.ref edn), .val (.int p3), .val (.int (0 : Int32)), .val (.ref idn), .val (.int (0 : Int32))] [(.ref edn)])) rfl (hb hby d_prog_56_1_94)
  have pre_17 : ∀ t, Sp p e below T16 (mkF m 97 #[.val (.ref a1), .val (.ref qn), .val (.ref edn), .val (.int p3), .val (.int (0 : Int32)), .val (.ref idn), .val (.int (0 : Int32))] [(.ref aT), (.ref edn)]) t → Steps p.tables e below E0 t := fun t k => pre_15 t (st16 t k)
  have pre_18 : ∀ t, Sp p e below T16 (mkF m 116 #[.val (.ref a1), .val (.ref qn), .val (.ref edn), .val (.int p3), .val (.int (0 : Int32)), .val (.ref idn), .val (.int (0 : Int32))] [(.ref qn)]) t → Steps p.tables e below E0 t := by
    intro t k
    refine pre_17 t ?_
    show Sp p e below T16 (mkF m 97 #[.val (.ref a1), .val (.ref qn), .val (.ref edn), .val (.int p3), .val (.int (0 : Int32)), .val (.ref idn), .val (.int (0 : Int32))] [(.ref aT), (.ref edn)]) _
    refine XT.acmpYes X16.here hx rfl (pc0 := 97) (pc' := 115) rfl (hb hby d_prog_56_1_97) rfl rfl rfl (XT.aa_ne_t (fun q => neT (Value.ref.inj q))) (by decide) (by decide) ?_
    refine XS.aloadN X16.here hx rfl (hb hby d_prog_56_1_115) rfl rfl ?_
    exact k
  obtain ⟨cq19, kq19, qa19, qb19, qc19⟩ := isOf hZ e16 (HQ.2.1.ext O0.2)
  obtain ⟨_, _, ⟨T19, L19, k19, n19⟩, -, X19, ⟨Lc19, hQ19, l19, y19, z19⟩, st19⟩ := X16.virtualBack hx (y := (⟨cQC, "atAnEnd", "()Z"⟩ : MethodName)) (z := (⟨cQC, "atAnEnd", "()Z"⟩ : MethodName)) hown (mvT hZ (own_w hw 57 rfl)) (mvT hZ (own_w hw 58 rfl)) (notFace_of_selects (args := #[]) (mvT hZ (own_w hw 60 rfl))) (mvT hZ (own_w hw 60 rfl)) (mvT hZ (own_w hw 59 rfl)) (by decide) (backOf (W := 0) (rm_atm1 l Z a0 hw [] qn  h0 n0 O0 (HQ.2.2.2.2.1.ext O0.2)) hZ (own_w hw 61 rfl) (own_w hw 20 rfl) (by decide) (by decide)) qa19 qc19 (g := (mkF m 116 #[.val (.ref a1), .val (.ref qn), .val (.ref edn), .val (.int p3), .val (.int (0 : Int32)), .val (.ref idn), .val (.int (0 : Int32))] [(.ref qn)])) rfl (by rw [hml]; rfl) (Steps.refl _) (argsL := []) (rest := []) (lenOf pd_si3_3 rfl) rfl (by show 2 * 0 + _ ≤ _; exact Nat.le_of_eq rfl) (hb hby d_prog_56_1_116) (fun _ _ => ⟨rfl, e16, (by decide : 0 + 0 ≤ _), (by decide : 0 + 0 ≤ _)⟩)
  dsimp only [Pt.U, Pt.locs, Pt.cells, Pt.slots] at X19 l19 y19 z19 st19 hQ19
  subst l19 y19 z19
  obtain ⟨rfl, N19q, e19⟩ := hQ19
  have N19 := Fr.app N13 N19q
  have pre_20 : ∀ t, Sp p e below T19 (mkF m 119 #[.val (.ref a1), .val (.ref qn), .val (.ref edn), .val (.int p3), .val (.int (0 : Int32)), .val (.ref idn), .val (.int (0 : Int32))] [(.int (1 : Int32))]) t → Steps p.tables e below E0 t := fun t k => pre_18 t (st19.trans k)
  have pre_21 : ∀ t, Sp p e below T19 (mkF m 148 #[.val (.ref a1), .val (.ref qn), .val (.ref edn), .val (.int p3), .val (.int (0 : Int32)), .val (.ref idn), .val (.int (0 : Int32))] []) t → Steps p.tables e below E0 t := by
    intro t k
    refine pre_20 t ?_
    show Sp p e below T19 (mkF m 119 #[.val (.ref a1), .val (.ref qn), .val (.ref edn), .val (.int p3), .val (.int (0 : Int32)), .val (.ref idn), .val (.int (0 : Int32))] [(.int (1 : Int32))]) _
    refine XS.ifYes X19.here hx rfl (pc0 := 119) (pc' := 148) rfl (hb hby d_prog_56_1_119) rfl (XT.i0_ne_t (by decide)) (by decide) (by decide) ?_
    exact k
  obtain ⟨T22, X22, e22, st22⟩ := getS X19 hx hZ hown (host := "") (own_w hw 65 rfl) Via.refl e19 (SS.ext O0.2) (g := (mkF m 148 #[.val (.ref a1), .val (.ref qn), .val (.ref edn), .val (.int p3), .val (.int (0 : Int32)), .val (.ref idn), .val (.int (0 : Int32))] [])) rfl (hb hby d_prog_56_1_148)
  have pre_23 : ∀ t, Sp p e below T22 (mkF m 151 #[.val (.ref a1), .val (.ref qn), .val (.ref edn), .val (.int p3), .val (.int (0 : Int32)), .val (.ref idn), .val (.int (0 : Int32))] [(.ref aS)]) t → Steps p.tables e below E0 t := fun t k => pre_21 t (st22 t k)
  have pre_24 : ∀ t, Sp p e below T22 (mkF m 152 #[.val (.ref a1), .val (.ref qn), .val (.ref edn), .val (.int p3), .val (.int (0 : Int32)), .val (.ref idn), .val (.int (0 : Int32))] [(.ref qn), (.ref aS)]) t → Steps p.tables e below E0 t := by
    intro t k
    refine pre_23 t ?_
    show Sp p e below T22 (mkF m 151 #[.val (.ref a1), .val (.ref qn), .val (.ref edn), .val (.int p3), .val (.int (0 : Int32)), .val (.ref idn), .val (.int (0 : Int32))] [(.ref aS)]) _
    refine XS.aloadN X22.here hx rfl (hb hby d_prog_56_1_151) rfl rfl ?_
    exact k
  obtain ⟨cq25, kq25, qa25, qb25, qc25⟩ := isOf hZ e22 (HQ.2.1.ext O0.2)
  obtain ⟨_, _, ⟨T25, L25, k25, n25⟩, -, X25, ⟨Lc25, hQ25, l25, y25, z25⟩, st25⟩ := X22.virtualBack hx (y := (⟨cQC, "others", dOT⟩ : MethodName)) (z := (⟨cQC, "others", dOT⟩ : MethodName)) hown (mvT hZ (own_w hw 46 rfl)) (mvT hZ (own_w hw 47 rfl)) (notFace_of_selects (args := #[]) (mvT hZ (own_w hw 49 rfl))) (mvT hZ (own_w hw 49 rfl)) (mvT hZ (own_w hw 48 rfl)) (by decide) (backOf (W := 1) (rm_otm l Z a0 hw [] qn otn h0 n0 O0 (HQ.2.2.2.1.ext O0.2)) hZ (own_w hw 50 rfl) (own_w hw 20 rfl) (by decide) (by decide)) qa25 qc25 (g := (mkF m 152 #[.val (.ref a1), .val (.ref qn), .val (.ref edn), .val (.int p3), .val (.int (0 : Int32)), .val (.ref idn), .val (.int (0 : Int32))] [(.ref qn), (.ref aS)])) rfl (by rw [hml]; rfl) (Steps.refl _) (argsL := []) (rest := [(.ref aS)]) (lenOf pd_si3_2 rfl) rfl (by show 2 * 0 + _ ≤ _; exact Nat.le_of_eq rfl) (hb hby d_prog_56_1_152) (fun _ _ => ⟨rfl, e22, (by decide : 0 + 0 ≤ _), (by decide : 0 + 0 ≤ _)⟩)
  dsimp only [Pt.U, Pt.locs, Pt.cells, Pt.slots] at X25 l25 y25 z25 st25 hQ25
  subst l25 y25 z25
  obtain ⟨rfl, N25q, e25⟩ := hQ25
  have N25 := Fr.app N19 N25q
  have pre_26 : ∀ t, Sp p e below T25 (mkF m 155 #[.val (.ref a1), .val (.ref qn), .val (.ref edn), .val (.int p3), .val (.int (0 : Int32)), .val (.ref idn), .val (.int (0 : Int32))] [(.ref otn), (.ref aS)]) t → Steps p.tables e below E0 t := fun t k => pre_24 t (st25.trans k)
  obtain ⟨cq27, kq27, qa27, qb27, qc27⟩ := isOf hZ e25 (HO.1.ext O0.2)
  obtain ⟨_, _, ⟨T27, L27, k27, n27⟩, -, X27, ⟨Lc27, hQ27, l27, y27, z27⟩, st27⟩ := X25.virtualBackUp hx (x := (⟨cOC, "ordinal", "()I"⟩ : MethodName)) (y := (⟨cEN, "ordinal", "()I"⟩ : MethodName)) hown (mvT hZ (own_w hw 68 rfl)) (mvT hZ (own_w hw 69 rfl)) (mvT hZ (own_w hw 70 rfl)) (by decide) (mvT hZ (own_w hw 72 rfl)) (mvT hZ (own_w hw 71 rfl)) (backOf (W := 1) (rm_ord l Z a0 hw [] otn (2 : Int32) h0 n0 O0 (HO.2.ext O0.2)) hZ (own_w hw 74 rfl) (own_w hw 73 rfl) (by decide) (by decide)) qa27 qc27 (g := (mkF m 155 #[.val (.ref a1), .val (.ref qn), .val (.ref edn), .val (.int p3), .val (.int (0 : Int32)), .val (.ref idn), .val (.int (0 : Int32))] [(.ref otn), (.ref aS)])) rfl (by rw [hml]; rfl) (Steps.refl _) (argsL := []) (rest := [(.ref aS)]) (lenOf pd_si3_4 rfl) rfl (by show 2 * 0 + _ ≤ _; exact Nat.le_of_eq rfl) (hb hby d_prog_56_1_155) (fun _ _ => ⟨rfl, e25, (by decide : 0 + 0 ≤ _), (by decide : 0 + 0 ≤ _)⟩)
  dsimp only [Pt.U, Pt.locs, Pt.cells, Pt.slots] at X27 l27 y27 z27 st27 hQ27
  subst l27 y27 z27
  obtain ⟨rfl, N27q, e27⟩ := hQ27
  have N27 := Fr.app N25 N27q
  have pre_28 : ∀ t, Sp p e below T27 (mkF m 158 #[.val (.ref a1), .val (.ref qn), .val (.ref edn), .val (.int p3), .val (.int (0 : Int32)), .val (.ref idn), .val (.int (0 : Int32))] [(.int (2 : Int32)), (.ref aS)]) t → Steps p.tables e below E0 t := fun t k => pre_26 t (st27.trans k)
  have pre_30 : ∀ t, Sp p e below T27 (mkF m 334 #[.val (.ref a1), .val (.ref qn), .val (.ref edn), .val (.int p3), .val (.int (0 : Int32)), .val (.ref idn), .val (.int (0 : Int32))] [(.ref qn), (.ref a1)]) t → Steps p.tables e below E0 t := by
    intro t k
    refine pre_28 t ?_
    obtain ⟨cl29, Ar29, -, S29, -, H29, -⟩ := id (VS.ext O0.2)
    have hin29 : ¬ ((2 : Int32) < 0 ∨ cl29.slots.size ≤ ((2 : Int32)).toNatClampNeg) := inb_of S29 (by decide)
    refine X27.iaload hx (j := (2 : Int32)) (v := (.int (3 : Int32))) (by rw [e27]; exact Ar29.1) (State.isArrayOf_alike hZ.alike Ar29.2.1) Ar29.2.2 hin29 (H29.at hin29 rfl) (g := (mkF m 158 #[.val (.ref a1), .val (.ref qn), .val (.ref edn), .val (.int p3), .val (.int (0 : Int32)), .val (.ref idn), .val (.int (0 : Int32))] [(.int (2 : Int32)), (.ref aS)])) rfl rfl (hb hby d_prog_56_1_158) _ ?_
    refine XS.tswIn X27.here hx rfl (pc0 := 159) (pc' := 199) rfl (hb hby d_prog_56_1_159) rfl (by decide) (o := 40) rfl (by decide) (by decide) ?_
    refine XS.iload X27.here hx rfl (hb hby d_prog_56_1_199) rfl ?_
    show Sp p e below T27 (mkF m 201 #[.val (.ref a1), .val (.ref qn), .val (.ref edn), .val (.int p3), .val (.int (0 : Int32)), .val (.ref idn), .val (.int (0 : Int32))] [(.int (0 : Int32))]) _
    refine XS.ifYes X27.here hx rfl (pc0 := 201) (pc' := 332) rfl (hb hby d_prog_56_1_201) rfl (XT.i0_eq_t (by decide)) (by decide) (by decide) ?_
    refine XS.aloadN X27.here hx rfl (hb hby d_prog_56_1_332) rfl rfl ?_
    refine XS.aloadN X27.here hx rfl (hb hby d_prog_56_1_333) rfl rfl ?_
    exact k
  obtain ⟨T31, h31, X31, e31, W31, st31⟩ := putF X27 hx hZ hown (host := "") (Or.inl (own_w hw 77 rfl)) Via.refl e27 F1 E1 (Or.inr ⟨(own_w hw 78 rfl), rfl, hnm⟩) (own_w hw 14 rfl) (ty := (.object cQC)) (by decide) rfl rfl (g := (mkF m 334 #[.val (.ref a1), .val (.ref qn), .val (.ref edn), .val (.int p3), .val (.int (0 : Int32)), .val (.ref idn), .val (.int (0 : Int32))] [(.ref qn), (.ref a1)])) rfl rfl (hb hby d_prog_56_1_334)
  have Fw31 := F1.same W31
  have N31 := Fr.snoc X31 N27 g1
  have O31 : Old Z n0 h31 := O0.wr W31 g1
  have pre_32 : ∀ t, Sp p e below T31 (mkF m 337 #[.val (.ref a1), .val (.ref qn), .val (.ref edn), .val (.int p3), .val (.int (0 : Int32)), .val (.ref idn), .val (.int (0 : Int32))] []) t → Steps p.tables e below E0 t := fun t k => pre_30 t (st31 t k)
  have pre_33 : ∀ t, Sp p e below T31 (mkF m 339 #[.val (.ref a1), .val (.ref qn), .val (.ref edn), .val (.int p3), .val (.int (0 : Int32)), .val (.ref idn), .val (.int (0 : Int32))] [(.ref edn), (.ref a1)]) t → Steps p.tables e below E0 t := by
    intro t k
    refine pre_32 t ?_
    show Sp p e below T31 (mkF m 337 #[.val (.ref a1), .val (.ref qn), .val (.ref edn), .val (.int p3), .val (.int (0 : Int32)), .val (.ref idn), .val (.int (0 : Int32))] []) _
    refine XS.aloadN X31.here hx rfl (hb hby d_prog_56_1_337) rfl rfl ?_
    refine XS.aloadN X31.here hx rfl (hb hby d_prog_56_1_338) rfl rfl ?_
    exact k
  obtain ⟨T34, h34, X34, e34, W34, st34⟩ := putF X31 hx hZ hown (host := "") (Or.inl (own_w hw 79 rfl)) Via.refl e31 (F2.other W31 (Or.inr (slot_ne (Or.inr (own_w hw 80 rfl)) (Or.inr (own_w hw 78 rfl)) (by decide) (t := (.object cEC)) (t' := (.object cQC)) (by decide) (by decide)))) (E1.wr W31) (Or.inr ⟨(own_w hw 80 rfl), rfl, hnm⟩) (own_w hw 14 rfl) (ty := (.object cEC)) (by decide) rfl rfl (g := (mkF m 339 #[.val (.ref a1), .val (.ref qn), .val (.ref edn), .val (.int p3), .val (.int (0 : Int32)), .val (.ref idn), .val (.int (0 : Int32))] [(.ref edn), (.ref a1)])) rfl rfl (hb hby d_prog_56_1_339)
  have Fw34 := (F2.other W31 (Or.inr (slot_ne (Or.inr (own_w hw 80 rfl)) (Or.inr (own_w hw 78 rfl)) (by decide) (t := (.object cEC)) (t' := (.object cQC)) (by decide) (by decide)))).same W34
  have N34 := Fr.snoc X34 N31 g1
  have O34 : Old Z n0 h34 := O31.wr W34 g1
  have pre_35 : ∀ t, Sp p e below T34 (mkF m 342 #[.val (.ref a1), .val (.ref qn), .val (.ref edn), .val (.int p3), .val (.int (0 : Int32)), .val (.ref idn), .val (.int (0 : Int32))] []) t → Steps p.tables e below E0 t := fun t k => pre_33 t (st34 t k)
  have pre_36 : ∀ t, Sp p e below T34 (mkF m 344 #[.val (.ref a1), .val (.ref qn), .val (.ref edn), .val (.int p3), .val (.int (0 : Int32)), .val (.ref idn), .val (.int (0 : Int32))] [(.int p3), (.ref a1)]) t → Steps p.tables e below E0 t := by
    intro t k
    refine pre_35 t ?_
    show Sp p e below T34 (mkF m 342 #[.val (.ref a1), .val (.ref qn), .val (.ref edn), .val (.int p3), .val (.int (0 : Int32)), .val (.ref idn), .val (.int (0 : Int32))] []) _
    refine XS.aloadN X34.here hx rfl (hb hby d_prog_56_1_342) rfl rfl ?_
    refine XS.iloadN X34.here hx rfl (hb hby d_prog_56_1_343) rfl ?_
    exact k
  obtain ⟨T37, h37, X37, e37, W37, st37⟩ := putF X34 hx hZ hown (host := "") (Or.inl (own_w hw 81 rfl)) Via.refl e34 ((F3.other W31 (Or.inr (slot_ne (Or.inr (own_w hw 82 rfl)) (Or.inr (own_w hw 78 rfl)) (by decide) (t := .int) (t' := (.object cQC)) (by decide) (by decide)))).other W34 (Or.inr (slot_ne (Or.inr (own_w hw 82 rfl)) (Or.inr (own_w hw 80 rfl)) (by decide) (t := .int) (t' := (.object cEC)) (by decide) (by decide)))) ((E1.wr W31).wr W34) (Or.inr ⟨(own_w hw 82 rfl), rfl, hnm⟩) (own_w hw 14 rfl) (ty := .int) (by decide) rfl rfl (g := (mkF m 344 #[.val (.ref a1), .val (.ref qn), .val (.ref edn), .val (.int p3), .val (.int (0 : Int32)), .val (.ref idn), .val (.int (0 : Int32))] [(.int p3), (.ref a1)])) rfl rfl (hb hby d_prog_56_1_344)
  have Fw37 := ((F3.other W31 (Or.inr (slot_ne (Or.inr (own_w hw 82 rfl)) (Or.inr (own_w hw 78 rfl)) (by decide) (t := .int) (t' := (.object cQC)) (by decide) (by decide)))).other W34 (Or.inr (slot_ne (Or.inr (own_w hw 82 rfl)) (Or.inr (own_w hw 80 rfl)) (by decide) (t := .int) (t' := (.object cEC)) (by decide) (by decide)))).same W37
  have N37 := Fr.snoc X37 N34 g1
  have O37 : Old Z n0 h37 := O34.wr W37 g1
  have pre_38 : ∀ t, Sp p e below T37 (mkF m 347 #[.val (.ref a1), .val (.ref qn), .val (.ref edn), .val (.int p3), .val (.int (0 : Int32)), .val (.ref idn), .val (.int (0 : Int32))] []) t → Steps p.tables e below E0 t := fun t k => pre_36 t (st37 t k)
  have pre_39 : ∀ t, Sp p e below T37 (mkF m 350 #[.val (.ref a1), .val (.ref qn), .val (.ref edn), .val (.int p3), .val (.int (0 : Int32)), .val (.ref idn), .val (.int (0 : Int32))] [(.int (0 : Int32)), (.ref a1)]) t → Steps p.tables e below E0 t := by
    intro t k
    refine pre_38 t ?_
    show Sp p e below T37 (mkF m 347 #[.val (.ref a1), .val (.ref qn), .val (.ref edn), .val (.int p3), .val (.int (0 : Int32)), .val (.ref idn), .val (.int (0 : Int32))] []) _
    refine XS.aloadN X37.here hx rfl (hb hby d_prog_56_1_347) rfl rfl ?_
    show Sp p e below T37 (mkF m 348 #[.val (.ref a1), .val (.ref qn), .val (.ref edn), .val (.int p3), .val (.int (0 : Int32)), .val (.ref idn), .val (.int (0 : Int32))] [(.ref a1)]) _
    refine XS.iload X37.here hx rfl (hb hby d_prog_56_1_348) rfl ?_
    exact k
  obtain ⟨T40, h40, X40, e40, W40, st40⟩ := putF X37 hx hZ hown (host := "") (Or.inl (own_w hw 83 rfl)) Via.refl e37 (((F4.other W31 (Or.inr (slot_ne (Or.inr (own_w hw 84 rfl)) (Or.inr (own_w hw 78 rfl)) (by decide) (t := .int) (t' := (.object cQC)) (by decide) (by decide)))).other W34 (Or.inr (slot_ne (Or.inr (own_w hw 84 rfl)) (Or.inr (own_w hw 80 rfl)) (by decide) (t := .int) (t' := (.object cEC)) (by decide) (by decide)))).other W37 (Or.inr (slot_ne (Or.inr (own_w hw 84 rfl)) (Or.inr (own_w hw 82 rfl)) (by decide) (t := .int) (t' := .int) (by decide) (by decide)))) (((E1.wr W31).wr W34).wr W37) (Or.inr ⟨(own_w hw 84 rfl), rfl, hnm⟩) (own_w hw 14 rfl) (ty := .int) (by decide) rfl rfl (g := (mkF m 350 #[.val (.ref a1), .val (.ref qn), .val (.ref edn), .val (.int p3), .val (.int (0 : Int32)), .val (.ref idn), .val (.int (0 : Int32))] [(.int (0 : Int32)), (.ref a1)])) rfl rfl (hb hby d_prog_56_1_350)
  have Fw40 := (((F4.other W31 (Or.inr (slot_ne (Or.inr (own_w hw 84 rfl)) (Or.inr (own_w hw 78 rfl)) (by decide) (t := .int) (t' := (.object cQC)) (by decide) (by decide)))).other W34 (Or.inr (slot_ne (Or.inr (own_w hw 84 rfl)) (Or.inr (own_w hw 80 rfl)) (by decide) (t := .int) (t' := (.object cEC)) (by decide) (by decide)))).other W37 (Or.inr (slot_ne (Or.inr (own_w hw 84 rfl)) (Or.inr (own_w hw 82 rfl)) (by decide) (t := .int) (t' := .int) (by decide) (by decide)))).same W40
  have N40 := Fr.snoc X40 N37 g1
  have O40 : Old Z n0 h40 := O37.wr W40 g1
  have pre_41 : ∀ t, Sp p e below T40 (mkF m 353 #[.val (.ref a1), .val (.ref qn), .val (.ref edn), .val (.int p3), .val (.int (0 : Int32)), .val (.ref idn), .val (.int (0 : Int32))] []) t → Steps p.tables e below E0 t := fun t k => pre_39 t (st40 t k)
  obtain ⟨fs, hr, hrun, hended, hW, hsame⟩ := X40.leave (v := none) (fun _ => rfl)
  refine ⟨_, _, pre_41 _ ?_, hrun, hended, _, _, rfl, ?_, ⟨_, rfl⟩, hW, hsame.mono (by decide) (by decide)⟩
  · show Sp p e below T40 (mkF m 353 #[.val (.ref a1), .val (.ref qn), .val (.ref edn), .val (.int p3), .val (.int (0 : Int32)), .val (.ref idn), .val (.int (0 : Int32))] []) _
    exact X40.returnOut hx Bd.returns (hb hby d_prog_56_1_353) hr
  · show Q_si Z _ _ _ _ _ h0 n0 _ T40.heap _
    rw [e40]
    exact ⟨rfl, N40, (((((Keep.refl h0 [a1]).wr W31 (Or.inl (List.mem_of_getElem? (i := 0) rfl))).wr W34 (Or.inl (List.mem_of_getElem? (i := 0) rfl))).wr W37 (Or.inl (List.mem_of_getElem? (i := 0) rfl))).wr W40 (Or.inl (List.mem_of_getElem? (i := 0) rfl))), (((Fw31.other W34 (Or.inr (slot_ne (Or.inr (own_w hw 78 rfl)) (Or.inr (own_w hw 80 rfl)) (by decide) (t := (.object cQC)) (t' := (.object cEC)) (by decide) (by decide)))).other W37 (Or.inr (slot_ne (Or.inr (own_w hw 78 rfl)) (Or.inr (own_w hw 82 rfl)) (by decide) (t := (.object cQC)) (t' := .int) (by decide) (by decide)))).other W40 (Or.inr (slot_ne (Or.inr (own_w hw 78 rfl)) (Or.inr (own_w hw 84 rfl)) (by decide) (t := (.object cQC)) (t' := .int) (by decide) (by decide)))), ((Fw34.other W37 (Or.inr (slot_ne (Or.inr (own_w hw 80 rfl)) (Or.inr (own_w hw 82 rfl)) (by decide) (t := (.object cEC)) (t' := .int) (by decide) (by decide)))).other W40 (Or.inr (slot_ne (Or.inr (own_w hw 80 rfl)) (Or.inr (own_w hw 84 rfl)) (by decide) (t := (.object cEC)) (t' := .int) (by decide) (by decide)))), (Fw37.other W40 (Or.inr (slot_ne (Or.inr (own_w hw 82 rfl)) (Or.inr (own_w hw 84 rfl)) (by decide) (t := .int) (t' := .int) (by decide) (by decide)))), Fw40⟩
theorem d_prog_56_1_281 : decode prog_56_method_1_code 281 = .ok (.iload 4, 2) := by decide +kernel
theorem d_prog_56_1_283 : decode prog_56_method_1_code 283 = .ok (.invokestatic 72, 3) := by decide +kernel
theorem d_prog_56_1_286 : decode prog_56_method_1_code 286 = .ok (.invokevirtual 78, 3) := by decide +kernel
theorem d_prog_56_1_289 : decode prog_56_method_1_code 289 = .ok (.ifCond .eq 43, 3) := by decide +kernel
theorem pn_si4_1 : plainName cSK = true := by first | (simp [plainName, overriddenIn]; done) | decide +kernel
theorem pd_si4_1_0 : parseMethodDescriptor "()V" = some ⟨[], none⟩ := by decide +kernel
theorem pd_si4_1_1 : parseMethodDescriptor "()Ljava/lang/String;" = some ⟨[], some (.object "java/lang/String")⟩ := by decide +kernel
theorem pd_si4_1_2 : parseMethodDescriptor dOT = some ⟨[], some (.object cOC)⟩ := by decide +kernel
theorem pd_si4_1_3 : parseMethodDescriptor "()Z" = some ⟨[], some .boolean⟩ := by decide +kernel
theorem pd_si4_1_4 : parseMethodDescriptor "()I" = some ⟨[], some .int⟩ := by decide +kernel
theorem pd_si4_1_5 : parseMethodDescriptor "(I)Ljava/util/Optional;" = some ⟨[.int], some (.object cOP)⟩ := by decide +kernel
theorem ef_si4_1 (m : MethodId) (a1 : Addr) (qn : Addr) (aT : Addr) (p3 : Int32) : entryFrame m #[(.ref a1), (.ref qn), (.ref aT), (.int p3), (.int (1 : Int32))] 7 = (mkF m 0 #[.val (.ref a1), .val (.ref qn), .val (.ref aT), .val (.int p3), .val (.int (1 : Int32)), .unset, .unset] []) := by first | (simp [entryFrame, mkF, argsToLocals, Value.category]; done) | rfl
set_option maxRecDepth 65536 in
set_option maxHeartbeats 40000000 in
theorem rm_si4_1 (l : Launch) (Z : State) (a0 : Array Value) (hw : ∀ d ∈ tables_1, d.before a0 Z = true) (ws : List Jvm.Cond) (a1 : Addr) (qn : Addr) (aT : Addr) (p3 : Int32) (u1 u2 u3 u4 : Value) (idn : Addr) (otn : Addr) (aX aS : Addr) (kS : ClassId) (aV cA cB : Addr) (kV : ClassId) (h0 : Heap) (n0 : Nat) (O0 : Old Z n0 h0) (E1 : Exa Z h0 a1 cSK) (F1 : Fld Z h0 a1 cSK "quantity" lQC u1) (F2 : Fld Z h0 a1 cSK "end" lEC u2) (F3 : Fld Z h0 a1 cSK "pair" "I" u3) (F4 : Fld Z h0 a1 cSK "other" "I" u4) (g1 : n0 ≤ a1) (HQ : own_Qf Z qn idn otn "RESISTANCE" (0 : Int32) (12 : Int32)) (HO : own_Of Z otn (4 : Int32)) (SX : Sta Z Z.heap cOC "ACROSS" lOC (.ref aX)) (ST : Sta Z Z.heap cEC "THROUGH" lEC (.ref aT)) (SS : Sta Z Z.heap cS1 nSM "[I" (.ref aS)) (VS : Arv Z Z.heap aS kS .int (6 : Int32) [(.int (2 : Int32)), (.int (4 : Int32)), (.int (3 : Int32)), (.int (5 : Int32)), (.int (6 : Int32)), (.int (1 : Int32))] (.int (0 : Int32))) (neX : ¬ otn = aX) (SV : Sta Z Z.heap cCC "$VALUES" aCC (.ref aV)) (EV : Exa Z Z.heap aV aCC) (VV : Arv Z Z.heap aV kV (.object cCC) (2 : Int32) [(.ref cA), (.ref cB)] .null) (EA : Exa Z Z.heap cA cCC) (FA : Fld Z Z.heap cA cEN "ordinal" "I" (.int (0 : Int32))) (EB : Exa Z Z.heap cB cCC) (FB : Fld Z Z.heap cB cEN "ordinal" "I" (.int (1 : Int32))) (hp : ¬ p3 < (1 : Int32)) :
    MetFree l (⟨cSK, "<init>", dSI⟩ : MethodName) (head1 (Jvm.Cond.code (⟨cSK, "<init>", dSI⟩ : MethodName) prog_56_method_1_code 7 none :: ws) ({ frames := 4, cells := 2, slots := 3, locals := 54 } : Room)) (fun a U => a = #[(.ref a1), (.ref qn), (.ref aT), (.int p3), (.int (1 : Int32))] ∧ Z.Warmed39 U.vm ∧ U.heap = h0) (fun _ _ _ _ _ => True) (fun _ U o U' => ∃ v L, o = .returned v ∧ Q_si Z a1 qn aT p3 (1 : Int32) h0 n0 v U'.heap L ∧ FrameEnd U o U' L ({ frames := 4, cells := 2, slots := 3, locals := 54 } : Room).cells ({ frames := 4, cells := 2, slots := 3, locals := 54 } : Room).slots) := by
  refine MetFree.of_bodySF (plainFor_of_name pn_si4_1) hisR ?_
  intro p e s m args below meth c s₁ Bd hml0 hP hK
  obtain ⟨rfl, hZ, hh⟩ := hP
  have hx := Bd.exec
  have hby := Bd.bytes
  have hml : c.maxLocals = 7 := hml0
  have hown : s.vm.findClass cSK = some m.cls := findClass_of_methodNamed Bd.named
  have hnm := (name_of_methodNamed Bd.named Bd.method).1
  have X0 : Stand p l e ({ frames := 4, cells := 2, slots := 3, locals := 54 } : Room) s m #[(.ref a1), (.ref qn), (.ref aT), (.int p3), (.int (1 : Int32))] below meth c s₁ [] 0 0 := Stand.of_body Bd
  have e0 : s₁.heap = h0 := by rw [← hh, Bd.state]; rfl
  have N0 := Fr.nil n0
  have pre0 : ∀ t, Steps p.tables e below (s₁.setTop (mkF m 0 #[.val (.ref a1), .val (.ref qn), .val (.ref aT), .val (.int p3), .val (.int (1 : Int32)), .unset, .unset] [])) t → Steps p.tables e below (s₁.setTop (entryFrame m #[(.ref a1), (.ref qn), (.ref aT), (.int p3), (.int (1 : Int32))] 7)) t := fun t k => castTop (ef_si4_1 m a1 qn aT p3) k
  generalize s₁.setTop (entryFrame m #[(.ref a1), (.ref qn), (.ref aT), (.int p3), (.int (1 : Int32))] 7) = E0 at pre0 ⊢
  have pre_1 : ∀ t, Sp p e below s₁ (mkF m 1 #[.val (.ref a1), .val (.ref qn), .val (.ref aT), .val (.int p3), .val (.int (1 : Int32)), .unset, .unset] [(.ref a1)]) t → Steps p.tables e below E0 t := by
    intro t k
    refine pre0 t ?_
    show Sp p e below s₁ (mkF m 0 #[.val (.ref a1), .val (.ref qn), .val (.ref aT), .val (.int p3), .val (.int (1 : Int32)), .unset, .unset] []) _
    refine XS.aloadN X0.here hx rfl (hb hby d_prog_56_1_0) rfl rfl ?_
    exact k
  obtain ⟨_, _, ⟨T2, L2, k2, n2⟩, -, X2, ⟨Lc2, hQ2, l2, y2, z2⟩, st2⟩ := X0.specialBack hx (y := (⟨"java/lang/Record", "<init>", "()V"⟩ : MethodName)) rfl hown (mvT hZ (own_w hw 31 rfl)) (mvT hZ (own_w hw 32 rfl)) (mvT hZ (own_w hw 35 rfl)) (by decide) (backOf (W := 0) (rm_rec l Z a0 hw [] a1 h0 n0 O0) hZ (own_w hw 35 rfl) (own_w hw 34 rfl) (by decide) (by decide)) (g := (mkF m 1 #[.val (.ref a1), .val (.ref qn), .val (.ref aT), .val (.int p3), .val (.int (1 : Int32)), .unset, .unset] [(.ref a1)])) rfl (by rw [hml]; rfl) (Steps.refl _) (a := a1) (argsL := []) (rest := []) (lenOf pd_si4_1_0 rfl) rfl (by show 2 * 0 + _ ≤ _; exact Nat.le_of_eq rfl) (hb hby d_prog_56_1_1) (fun _ _ => ⟨rfl, e0, (by decide : 0 + 0 ≤ _), (by decide : 0 + 0 ≤ _)⟩)
  dsimp only [Pt.U, Pt.locs, Pt.cells, Pt.slots] at X2 l2 y2 z2 st2 hQ2
  subst l2 y2 z2
  obtain ⟨rfl, N2q, e2⟩ := hQ2
  have N2 := Fr.app N0 N2q
  have pre_3 : ∀ t, Sp p e below T2 (mkF m 4 #[.val (.ref a1), .val (.ref qn), .val (.ref aT), .val (.int p3), .val (.int (1 : Int32)), .unset, .unset] []) t → Steps p.tables e below E0 t := fun t k => pre_1 t (st2.trans k)
  have pre_4 : ∀ t, Sp p e below T2 (mkF m 5 #[.val (.ref a1), .val (.ref qn), .val (.ref aT), .val (.int p3), .val (.int (1 : Int32)), .unset, .unset] [(.ref qn)]) t → Steps p.tables e below E0 t := by
    intro t k
    refine pre_3 t ?_
    show Sp p e below T2 (mkF m 4 #[.val (.ref a1), .val (.ref qn), .val (.ref aT), .val (.int p3), .val (.int (1 : Int32)), .unset, .unset] []) _
    refine XS.aloadN X2.here hx rfl (hb hby d_prog_56_1_4) rfl rfl ?_
    exact k
  obtain ⟨cq5, kq5, qa5, qb5, qc5⟩ := isOf hZ e2 (HQ.2.1.ext O0.2)
  obtain ⟨_, _, ⟨T5, L5, k5, n5⟩, -, X5, ⟨Lc5, hQ5, l5, y5, z5⟩, st5⟩ := X2.virtualBack hx (y := (⟨cQC, "identifier", "()Ljava/lang/String;"⟩ : MethodName)) (z := (⟨cQC, "identifier", "()Ljava/lang/String;"⟩ : MethodName)) hown (mvT hZ (own_w hw 39 rfl)) (mvT hZ (own_w hw 40 rfl)) (notFace_of_selects (args := #[]) (mvT hZ (own_w hw 42 rfl))) (mvT hZ (own_w hw 42 rfl)) (mvT hZ (own_w hw 41 rfl)) (by decide) (backOf (W := 0) (rm_idm l Z a0 hw [] qn idn h0 n0 O0 (HQ.2.2.1.ext O0.2)) hZ (own_w hw 43 rfl) (own_w hw 20 rfl) (by decide) (by decide)) qa5 qc5 (g := (mkF m 5 #[.val (.ref a1), .val (.ref qn), .val (.ref aT), .val (.int p3), .val (.int (1 : Int32)), .unset, .unset] [(.ref qn)])) rfl (by rw [hml]; rfl) (Steps.refl _) (argsL := []) (rest := []) (lenOf pd_si4_1_1 rfl) rfl (by show 2 * 0 + _ ≤ _; exact Nat.le_of_eq rfl) (hb hby d_prog_56_1_5) (fun _ _ => ⟨rfl, e2, (by decide : 0 + 0 ≤ _), (by decide : 0 + 0 ≤ _)⟩)
  dsimp only [Pt.U, Pt.locs, Pt.cells, Pt.slots] at X5 l5 y5 z5 st5 hQ5
  subst l5 y5 z5
  obtain ⟨rfl, N5q, e5⟩ := hQ5
  have N5 := Fr.app N2 N5q
  have pre_6 : ∀ t, Sp p e below T5 (mkF m 8 #[.val (.ref a1), .val (.ref qn), .val (.ref aT), .val (.int p3), .val (.int (1 : Int32)), .unset, .unset] [(.ref idn)]) t → Steps p.tables e below E0 t := fun t k => pre_4 t (st5.trans k)
  have pre_7 : ∀ t, Sp p e below T5 (mkF m 11 #[.val (.ref a1), .val (.ref qn), .val (.ref aT), .val (.int p3), .val (.int (1 : Int32)), .val (.ref idn), .unset] [(.ref qn)]) t → Steps p.tables e below E0 t := by
    intro t k
    refine pre_6 t ?_
    show Sp p e below T5 (mkF m 8 #[.val (.ref a1), .val (.ref qn), .val (.ref aT), .val (.int p3), .val (.int (1 : Int32)), .unset, .unset] [(.ref idn)]) _
    refine XS.astore X5.here hx rfl (hb hby d_prog_56_1_8) rfl rfl (l' := #[.val (.ref a1), .val (.ref qn), .val (.ref aT), .val (.int p3), .val (.int (1 : Int32)), .val (.ref idn), .unset]) rfl ?_
    refine XS.aloadN X5.here hx rfl (hb hby d_prog_56_1_10) rfl rfl ?_
    exact k
  obtain ⟨cq8, kq8, qa8, qb8, qc8⟩ := isOf hZ e5 (HQ.2.1.ext O0.2)
  obtain ⟨_, _, ⟨T8, L8, k8, n8⟩, -, X8, ⟨Lc8, hQ8, l8, y8, z8⟩, st8⟩ := X5.virtualBack hx (y := (⟨cQC, "others", dOT⟩ : MethodName)) (z := (⟨cQC, "others", dOT⟩ : MethodName)) hown (mvT hZ (own_w hw 46 rfl)) (mvT hZ (own_w hw 47 rfl)) (notFace_of_selects (args := #[]) (mvT hZ (own_w hw 49 rfl))) (mvT hZ (own_w hw 49 rfl)) (mvT hZ (own_w hw 48 rfl)) (by decide) (backOf (W := 0) (rm_otm l Z a0 hw [] qn otn h0 n0 O0 (HQ.2.2.2.1.ext O0.2)) hZ (own_w hw 50 rfl) (own_w hw 20 rfl) (by decide) (by decide)) qa8 qc8 (g := (mkF m 11 #[.val (.ref a1), .val (.ref qn), .val (.ref aT), .val (.int p3), .val (.int (1 : Int32)), .val (.ref idn), .unset] [(.ref qn)])) rfl (by rw [hml]; rfl) (Steps.refl _) (argsL := []) (rest := []) (lenOf pd_si4_1_2 rfl) rfl (by show 2 * 0 + _ ≤ _; exact Nat.le_of_eq rfl) (hb hby d_prog_56_1_11) (fun _ _ => ⟨rfl, e5, (by decide : 0 + 0 ≤ _), (by decide : 0 + 0 ≤ _)⟩)
  dsimp only [Pt.U, Pt.locs, Pt.cells, Pt.slots] at X8 l8 y8 z8 st8 hQ8
  subst l8 y8 z8
  obtain ⟨rfl, N8q, e8⟩ := hQ8
  have N8 := Fr.app N5 N8q
  have pre_9 : ∀ t, Sp p e below T8 (mkF m 14 #[.val (.ref a1), .val (.ref qn), .val (.ref aT), .val (.int p3), .val (.int (1 : Int32)), .val (.ref idn), .unset] [(.ref otn)]) t → Steps p.tables e below E0 t := fun t k => pre_7 t (st8.trans k)
  obtain ⟨T10, X10, e10, st10⟩ := getS X8 hx hZ hown (host := "") (own_w hw 55 rfl) Via.refl e8 (SX.ext O0.2) (g := (mkF m 14 #[.val (.ref a1), .val (.ref qn), .val (.ref aT), .val (.int p3), .val (.int (1 : Int32)), .val (.ref idn), .unset] [(.ref otn)])) rfl (hb hby d_prog_56_1_14)
  have pre_11 : ∀ t, Sp p e below T10 (mkF m 17 #[.val (.ref a1), .val (.ref qn), .val (.ref aT), .val (.int p3), .val (.int (1 : Int32)), .val (.ref idn), .unset] [(.ref aX), (.ref otn)]) t → Steps p.tables e below E0 t := fun t k => pre_9 t (st10 t k)
  have pre_12 : ∀ t, Sp p e below T10 (mkF m 87 #[.val (.ref a1), .val (.ref qn), .val (.ref aT), .val (.int p3), .val (.int (1 : Int32)), .val (.ref idn), .val (.int (0 : Int32))] [(.ref qn)]) t → Steps p.tables e below E0 t := by
    intro t k
    refine pre_11 t ?_
    show Sp p e below T10 (mkF m 17 #[.val (.ref a1), .val (.ref qn), .val (.ref aT), .val (.int p3), .val (.int (1 : Int32)), .val (.ref idn), .unset] [(.ref aX), (.ref otn)]) _
    refine XT.acmpYes X10.here hx rfl (pc0 := 17) (pc' := 24) rfl (hb hby d_prog_56_1_17) rfl rfl rfl (XT.aa_ne_t (fun q => neX (Value.ref.inj q))) (by decide) (by decide) ?_
    refine XS.iconst X10.here hx rfl (hb hby d_prog_56_1_24) ?_
    refine XS.istore X10.here hx rfl (hb hby d_prog_56_1_25) rfl (l' := #[.val (.ref a1), .val (.ref qn), .val (.ref aT), .val (.int p3), .val (.int (1 : Int32)), .val (.ref idn), .val (.int (0 : Int32))]) rfl ?_
    refine XS.iload X10.here hx rfl (hb hby d_prog_56_1_27) rfl ?_
    show Sp p e below T10 (mkF m 29 #[.val (.ref a1), .val (.ref qn), .val (.ref aT), .val (.int p3), .val (.int (1 : Int32)), .val (.ref idn), .val (.int (0 : Int32))] [(.int (0 : Int32))]) _
    refine XS.ifYes X10.here hx rfl (pc0 := 29) (pc' := 62) rfl (hb hby d_prog_56_1_29) rfl (XT.i0_eq_t (by decide)) (by decide) (by decide) ?_
    refine XS.iload X10.here hx rfl (hb hby d_prog_56_1_62) rfl ?_
    refine XS.ifNo X10.here hx rfl (hb hby d_prog_56_1_64) rfl (XT.i0_ne_f (by decide)) ?_
    refine XS.iloadN X10.here hx rfl (hb hby d_prog_56_1_67) rfl ?_
    refine XS.iconst X10.here hx rfl (hb hby d_prog_56_1_68) ?_
    refine XS.icmpYes X10.here hx rfl (pc0 := 69) (pc' := 86) rfl (hb hby d_prog_56_1_69) rfl (XT.ii_ge_t hp) (by decide) (by decide) ?_
    refine XS.aloadN X10.here hx rfl (hb hby d_prog_56_1_86) rfl rfl ?_
    exact k
  obtain ⟨cq13, kq13, qa13, qb13, qc13⟩ := isOf hZ e10 (HQ.2.1.ext O0.2)
  obtain ⟨_, _, ⟨T13, L13, k13, n13⟩, -, X13, ⟨Lc13, hQ13, l13, y13, z13⟩, st13⟩ := X10.virtualBack hx (y := (⟨cQC, "atAnEnd", "()Z"⟩ : MethodName)) (z := (⟨cQC, "atAnEnd", "()Z"⟩ : MethodName)) hown (mvT hZ (own_w hw 57 rfl)) (mvT hZ (own_w hw 58 rfl)) (notFace_of_selects (args := #[]) (mvT hZ (own_w hw 60 rfl))) (mvT hZ (own_w hw 60 rfl)) (mvT hZ (own_w hw 59 rfl)) (by decide) (backOf (W := 0) (rm_atm0 l Z a0 hw [] qn  h0 n0 O0 (HQ.2.2.2.2.1.ext O0.2)) hZ (own_w hw 61 rfl) (own_w hw 20 rfl) (by decide) (by decide)) qa13 qc13 (g := (mkF m 87 #[.val (.ref a1), .val (.ref qn), .val (.ref aT), .val (.int p3), .val (.int (1 : Int32)), .val (.ref idn), .val (.int (0 : Int32))] [(.ref qn)])) rfl (by rw [hml]; rfl) (Steps.refl _) (argsL := []) (rest := []) (lenOf pd_si4_1_3 rfl) rfl (by show 2 * 0 + _ ≤ _; exact Nat.le_of_eq rfl) (hb hby d_prog_56_1_87) (fun _ _ => ⟨rfl, e10, (by decide : 0 + 0 ≤ _), (by decide : 0 + 0 ≤ _)⟩)
  dsimp only [Pt.U, Pt.locs, Pt.cells, Pt.slots] at X13 l13 y13 z13 st13 hQ13
  subst l13 y13 z13
  obtain ⟨rfl, N13q, e13⟩ := hQ13
  have N13 := Fr.app N8 N13q
  have pre_14 : ∀ t, Sp p e below T13 (mkF m 90 #[.val (.ref a1), .val (.ref qn), .val (.ref aT), .val (.int p3), .val (.int (1 : Int32)), .val (.ref idn), .val (.int (0 : Int32))] [(.int (0 : Int32))]) t → Steps p.tables e below E0 t := fun t k => pre_12 t (st13.trans k)
  have pre_15 : ∀ t, Sp p e below T13 (mkF m 116 #[.val (.ref a1), .val (.ref qn), .val (.ref aT), .val (.int p3), .val (.int (1 : Int32)), .val (.ref idn), .val (.int (0 : Int32))] [(.ref qn)]) t → Steps p.tables e below E0 t := by
    intro t k
    refine pre_14 t ?_
    show Sp p e below T13 (mkF m 90 #[.val (.ref a1), .val (.ref qn), .val (.ref aT), .val (.int p3), .val (.int (1 : Int32)), .val (.ref idn), .val (.int (0 : Int32))] [(.int (0 : Int32))]) _
    refine XS.ifYes X13.here hx rfl (pc0 := 90) (pc' := 115) rfl (hb hby d_prog_56_1_90) rfl (XT.i0_eq_t (by decide)) (by decide) (by decide) ?_
    show Sp p e below T13 (mkF m 115 #[.val (.ref a1), .val (.ref qn), .val (.ref aT), .val (.int p3), .val (.int (1 : Int32)), .val (.ref idn), .val (.int (0 : Int32))] []) _
    refine XS.aloadN X13.here hx rfl (hb hby d_prog_56_1_115) rfl rfl ?_
    exact k
  obtain ⟨cq16, kq16, qa16, qb16, qc16⟩ := isOf hZ e13 (HQ.2.1.ext O0.2)
  obtain ⟨_, _, ⟨T16, L16, k16, n16⟩, -, X16, ⟨Lc16, hQ16, l16, y16, z16⟩, st16⟩ := X13.virtualBack hx (y := (⟨cQC, "atAnEnd", "()Z"⟩ : MethodName)) (z := (⟨cQC, "atAnEnd", "()Z"⟩ : MethodName)) hown (mvT hZ (own_w hw 57 rfl)) (mvT hZ (own_w hw 58 rfl)) (notFace_of_selects (args := #[]) (mvT hZ (own_w hw 60 rfl))) (mvT hZ (own_w hw 60 rfl)) (mvT hZ (own_w hw 59 rfl)) (by decide) (backOf (W := 0) (rm_atm0 l Z a0 hw [] qn  h0 n0 O0 (HQ.2.2.2.2.1.ext O0.2)) hZ (own_w hw 61 rfl) (own_w hw 20 rfl) (by decide) (by decide)) qa16 qc16 (g := (mkF m 116 #[.val (.ref a1), .val (.ref qn), .val (.ref aT), .val (.int p3), .val (.int (1 : Int32)), .val (.ref idn), .val (.int (0 : Int32))] [(.ref qn)])) rfl (by rw [hml]; rfl) (Steps.refl _) (argsL := []) (rest := []) (lenOf pd_si4_1_3 rfl) rfl (by show 2 * 0 + _ ≤ _; exact Nat.le_of_eq rfl) (hb hby d_prog_56_1_116) (fun _ _ => ⟨rfl, e13, (by decide : 0 + 0 ≤ _), (by decide : 0 + 0 ≤ _)⟩)
  dsimp only [Pt.U, Pt.locs, Pt.cells, Pt.slots] at X16 l16 y16 z16 st16 hQ16
  subst l16 y16 z16
  obtain ⟨rfl, N16q, e16⟩ := hQ16
  have N16 := Fr.app N13 N16q
  have pre_17 : ∀ t, Sp p e below T16 (mkF m 119 #[.val (.ref a1), .val (.ref qn), .val (.ref aT), .val (.int p3), .val (.int (1 : Int32)), .val (.ref idn), .val (.int (0 : Int32))] [(.int (0 : Int32))]) t → Steps p.tables e below E0 t := fun t k => pre_15 t (st16.trans k)
  have pre_18 : ∀ t, Sp p e below T16 (mkF m 123 #[.val (.ref a1), .val (.ref qn), .val (.ref aT), .val (.int p3), .val (.int (1 : Int32)), .val (.ref idn), .val (.int (0 : Int32))] [(.ref aT)]) t → Steps p.tables e below E0 t := by
    intro t k
    refine pre_17 t ?_
    show Sp p e below T16 (mkF m 119 #[.val (.ref a1), .val (.ref qn), .val (.ref aT), .val (.int p3), .val (.int (1 : Int32)), .val (.ref idn), .val (.int (0 : Int32))] [(.int (0 : Int32))]) _
    refine XS.ifNo X16.here hx rfl (hb hby d_prog_56_1_119) rfl (XT.i0_ne_f (by decide)) ?_
    refine XS.aloadN X16.here hx rfl (hb hby d_prog_56_1_122) rfl rfl ?_
    exact k
  obtain ⟨T19, X19, e19, st19⟩ := getS X16 hx hZ hown (host := "") (own_w hw 64 rfl) Via.refl e16 (ST.ext O0.2) (g := (mkF m 123 #[.val (.ref a1), .val (.ref qn), .val (.ref aT), .val (.int p3), .val (.int (1 : Int32)), .val (.ref idn), .val (.int (0 : Int32))] [(.ref aT)])) rfl (hb hby d_prog_56_1_123)
  have pre_20 : ∀ t, Sp p e below T19 (mkF m 126 #[.val (.ref a1), .val (.ref qn), .val (.ref aT), .val (.int p3), .val (.int (1 : Int32)), .val (.ref idn), .val (.int (0 : Int32))] [(.ref aT), (.ref aT)]) t → Steps p.tables e below E0 t := fun t k => pre_18 t (st19 t k)
  have pre_21 : ∀ t, Sp p e below T19 (mkF m 148 #[.val (.ref a1), .val (.ref qn), .val (.ref aT), .val (.int p3), .val (.int (1 : Int32)), .val (.ref idn), .val (.int (0 : Int32))] []) t → Steps p.tables e below E0 t := by
    intro t k
    refine pre_20 t ?_
    show Sp p e below T19 (mkF m 126 #[.val (.ref a1), .val (.ref qn), .val (.ref aT), .val (.int p3), .val (.int (1 : Int32)), .val (.ref idn), .val (.int (0 : Int32))] [(.ref aT), (.ref aT)]) _
    refine XT.acmpYes X19.here hx rfl (pc0 := 126) (pc' := 148) rfl (hb hby d_prog_56_1_126) rfl rfl rfl (XT.aa_eq_t rfl) (by decide) (by decide) ?_
    exact k
  obtain ⟨T22, X22, e22, st22⟩ := getS X19 hx hZ hown (host := "") (own_w hw 65 rfl) Via.refl e19 (SS.ext O0.2) (g := (mkF m 148 #[.val (.ref a1), .val (.ref qn), .val (.ref aT), .val (.int p3), .val (.int (1 : Int32)), .val (.ref idn), .val (.int (0 : Int32))] [])) rfl (hb hby d_prog_56_1_148)
  have pre_23 : ∀ t, Sp p e below T22 (mkF m 151 #[.val (.ref a1), .val (.ref qn), .val (.ref aT), .val (.int p3), .val (.int (1 : Int32)), .val (.ref idn), .val (.int (0 : Int32))] [(.ref aS)]) t → Steps p.tables e below E0 t := fun t k => pre_21 t (st22 t k)
  have pre_24 : ∀ t, Sp p e below T22 (mkF m 152 #[.val (.ref a1), .val (.ref qn), .val (.ref aT), .val (.int p3), .val (.int (1 : Int32)), .val (.ref idn), .val (.int (0 : Int32))] [(.ref qn), (.ref aS)]) t → Steps p.tables e below E0 t := by
    intro t k
    refine pre_23 t ?_
    show Sp p e below T22 (mkF m 151 #[.val (.ref a1), .val (.ref qn), .val (.ref aT), .val (.int p3), .val (.int (1 : Int32)), .val (.ref idn), .val (.int (0 : Int32))] [(.ref aS)]) _
    refine XS.aloadN X22.here hx rfl (hb hby d_prog_56_1_151) rfl rfl ?_
    exact k
  obtain ⟨cq25, kq25, qa25, qb25, qc25⟩ := isOf hZ e22 (HQ.2.1.ext O0.2)
  obtain ⟨_, _, ⟨T25, L25, k25, n25⟩, -, X25, ⟨Lc25, hQ25, l25, y25, z25⟩, st25⟩ := X22.virtualBack hx (y := (⟨cQC, "others", dOT⟩ : MethodName)) (z := (⟨cQC, "others", dOT⟩ : MethodName)) hown (mvT hZ (own_w hw 46 rfl)) (mvT hZ (own_w hw 47 rfl)) (notFace_of_selects (args := #[]) (mvT hZ (own_w hw 49 rfl))) (mvT hZ (own_w hw 49 rfl)) (mvT hZ (own_w hw 48 rfl)) (by decide) (backOf (W := 1) (rm_otm l Z a0 hw [] qn otn h0 n0 O0 (HQ.2.2.2.1.ext O0.2)) hZ (own_w hw 50 rfl) (own_w hw 20 rfl) (by decide) (by decide)) qa25 qc25 (g := (mkF m 152 #[.val (.ref a1), .val (.ref qn), .val (.ref aT), .val (.int p3), .val (.int (1 : Int32)), .val (.ref idn), .val (.int (0 : Int32))] [(.ref qn), (.ref aS)])) rfl (by rw [hml]; rfl) (Steps.refl _) (argsL := []) (rest := [(.ref aS)]) (lenOf pd_si4_1_2 rfl) rfl (by show 2 * 0 + _ ≤ _; exact Nat.le_of_eq rfl) (hb hby d_prog_56_1_152) (fun _ _ => ⟨rfl, e22, (by decide : 0 + 0 ≤ _), (by decide : 0 + 0 ≤ _)⟩)
  dsimp only [Pt.U, Pt.locs, Pt.cells, Pt.slots] at X25 l25 y25 z25 st25 hQ25
  subst l25 y25 z25
  obtain ⟨rfl, N25q, e25⟩ := hQ25
  have N25 := Fr.app N16 N25q
  have pre_26 : ∀ t, Sp p e below T25 (mkF m 155 #[.val (.ref a1), .val (.ref qn), .val (.ref aT), .val (.int p3), .val (.int (1 : Int32)), .val (.ref idn), .val (.int (0 : Int32))] [(.ref otn), (.ref aS)]) t → Steps p.tables e below E0 t := fun t k => pre_24 t (st25.trans k)
  obtain ⟨cq27, kq27, qa27, qb27, qc27⟩ := isOf hZ e25 (HO.1.ext O0.2)
  obtain ⟨_, _, ⟨T27, L27, k27, n27⟩, -, X27, ⟨Lc27, hQ27, l27, y27, z27⟩, st27⟩ := X25.virtualBackUp hx (x := (⟨cOC, "ordinal", "()I"⟩ : MethodName)) (y := (⟨cEN, "ordinal", "()I"⟩ : MethodName)) hown (mvT hZ (own_w hw 68 rfl)) (mvT hZ (own_w hw 69 rfl)) (mvT hZ (own_w hw 70 rfl)) (by decide) (mvT hZ (own_w hw 72 rfl)) (mvT hZ (own_w hw 71 rfl)) (backOf (W := 1) (rm_ord l Z a0 hw [] otn (4 : Int32) h0 n0 O0 (HO.2.ext O0.2)) hZ (own_w hw 74 rfl) (own_w hw 73 rfl) (by decide) (by decide)) qa27 qc27 (g := (mkF m 155 #[.val (.ref a1), .val (.ref qn), .val (.ref aT), .val (.int p3), .val (.int (1 : Int32)), .val (.ref idn), .val (.int (0 : Int32))] [(.ref otn), (.ref aS)])) rfl (by rw [hml]; rfl) (Steps.refl _) (argsL := []) (rest := [(.ref aS)]) (lenOf pd_si4_1_4 rfl) rfl (by show 2 * 0 + _ ≤ _; exact Nat.le_of_eq rfl) (hb hby d_prog_56_1_155) (fun _ _ => ⟨rfl, e25, (by decide : 0 + 0 ≤ _), (by decide : 0 + 0 ≤ _)⟩)
  dsimp only [Pt.U, Pt.locs, Pt.cells, Pt.slots] at X27 l27 y27 z27 st27 hQ27
  subst l27 y27 z27
  obtain ⟨rfl, N27q, e27⟩ := hQ27
  have N27 := Fr.app N25 N27q
  have pre_28 : ∀ t, Sp p e below T27 (mkF m 158 #[.val (.ref a1), .val (.ref qn), .val (.ref aT), .val (.int p3), .val (.int (1 : Int32)), .val (.ref idn), .val (.int (0 : Int32))] [(.int (4 : Int32)), (.ref aS)]) t → Steps p.tables e below E0 t := fun t k => pre_26 t (st27.trans k)
  have pre_30 : ∀ t, Sp p e below T27 (mkF m 283 #[.val (.ref a1), .val (.ref qn), .val (.ref aT), .val (.int p3), .val (.int (1 : Int32)), .val (.ref idn), .val (.int (0 : Int32))] [(.int (1 : Int32))]) t → Steps p.tables e below E0 t := by
    intro t k
    refine pre_28 t ?_
    obtain ⟨cl29, Ar29, -, S29, -, H29, -⟩ := id (VS.ext O0.2)
    have hin29 : ¬ ((4 : Int32) < 0 ∨ cl29.slots.size ≤ ((4 : Int32)).toNatClampNeg) := inb_of S29 (by decide)
    refine X27.iaload hx (j := (4 : Int32)) (v := (.int (6 : Int32))) (by rw [e27]; exact Ar29.1) (State.isArrayOf_alike hZ.alike Ar29.2.1) Ar29.2.2 hin29 (H29.at hin29 rfl) (g := (mkF m 158 #[.val (.ref a1), .val (.ref qn), .val (.ref aT), .val (.int p3), .val (.int (1 : Int32)), .val (.ref idn), .val (.int (0 : Int32))] [(.int (4 : Int32)), (.ref aS)])) rfl rfl (hb hby d_prog_56_1_158) _ ?_
    refine XS.tswIn X27.here hx rfl (pc0 := 159) (pc' := 281) rfl (hb hby d_prog_56_1_159) rfl (by decide) (o := 122) rfl (by decide) (by decide) ?_
    refine XS.iload X27.here hx rfl (hb hby d_prog_56_1_281) rfl ?_
    show Sp p e below T27 (mkF m 283 #[.val (.ref a1), .val (.ref qn), .val (.ref aT), .val (.int p3), .val (.int (1 : Int32)), .val (.ref idn), .val (.int (0 : Int32))] [(.int (1 : Int32))]) _
    exact k
  obtain ⟨_, _, ⟨T31, L31, k31, n31⟩, -, X31, ⟨Lc31, hQ31, l31, y31, z31⟩, st31⟩ := Jvm.LawKit.callS X27 hx (y := (⟨cCC, "of", "(I)Ljava/util/Optional;"⟩ : MethodName)) hown (mvT hZ (own_w hw 105 rfl)) (mvT hZ (own_w hw 106 rfl)) (mvT hZ (own_w hw 107 rfl)) (mvT hZ (own_w hw 108 rfl)) (by decide) (backOf (W := 0) (rm_cof1 l Z a0 hw [] aV cA cB kV h0 n0 O0 SV EV VV EA FA EB FB) hZ (own_w hw 108 rfl) (own_w hw 107 rfl) (by decide) (by decide)) (g := (mkF m 283 #[.val (.ref a1), .val (.ref qn), .val (.ref aT), .val (.int p3), .val (.int (1 : Int32)), .val (.ref idn), .val (.int (0 : Int32))] [(.int (1 : Int32))])) rfl (by rw [hml]; rfl) (argsL := [(.int (1 : Int32))]) (rest := []) (lenOf pd_si4_1_5 rfl) rfl (by show 2 * 0 + _ ≤ _; exact Nat.le_of_eq rfl) (hb hby d_prog_56_1_283) (fun _ _ => ⟨rfl, e27, (by decide : 0 + 2 ≤ _), (by decide : 0 + 3 ≤ _)⟩)
  dsimp only [Pt.U, Pt.locs, Pt.cells, Pt.slots] at X31 l31 y31 z31 st31 hQ31
  subst l31 y31 z31
  obtain ⟨b31, rfl, N31q, K31, sb31, Eb31, Fb31⟩ := hQ31
  have N31 := Fr.app N27 N31q
  have O31 : Old Z n0 T31.heap := O0.keep K31 all0
  have pre_32 : ∀ t, Sp p e below T31 (mkF m 286 #[.val (.ref a1), .val (.ref qn), .val (.ref aT), .val (.int p3), .val (.int (1 : Int32)), .val (.ref idn), .val (.int (0 : Int32))] [(.ref b31)]) t → Steps p.tables e below E0 t := fun t k => pre_30 t (st31 t k)
  obtain ⟨cq33, kq33, qa33, qb33, qc33⟩ := isOf hZ rfl Eb31
  obtain ⟨_, _, ⟨T33, L33, k33, n33⟩, -, X33, ⟨Lc33, hQ33, l33, y33, z33⟩, st33⟩ := X31.virtualBack hx (y := (⟨cOP, "isEmpty", "()Z"⟩ : MethodName)) (z := (⟨cOP, "isEmpty", "()Z"⟩ : MethodName)) hown (mvT hZ (own_w hw 152 rfl)) (mvT hZ (own_w hw 153 rfl)) (notFace_of_selects (args := #[]) (mvT hZ (own_w hw 155 rfl))) (mvT hZ (own_w hw 155 rfl)) (mvT hZ (own_w hw 154 rfl)) (by decide) (backOf (W := 0) (rm_oem l Z a0 hw [] b31 cA T31.heap n0 O31 Fb31) hZ (own_w hw 156 rfl) (own_w hw 137 rfl) (by decide) (by decide)) qa33 qc33 (g := (mkF m 286 #[.val (.ref a1), .val (.ref qn), .val (.ref aT), .val (.int p3), .val (.int (1 : Int32)), .val (.ref idn), .val (.int (0 : Int32))] [(.ref b31)])) rfl (by rw [hml]; rfl) (Steps.refl _) (argsL := []) (rest := []) (lenOf pd_si4_1_3 rfl) rfl (by show 2 * 0 + _ ≤ _; exact Nat.le_of_eq rfl) (hb hby d_prog_56_1_286) (fun _ _ => ⟨rfl, rfl, (by decide : 2 + 0 ≤ _), (by decide : 3 + 0 ≤ _)⟩)
  dsimp only [Pt.U, Pt.locs, Pt.cells, Pt.slots] at X33 l33 y33 z33 st33 hQ33
  subst l33 y33 z33
  obtain ⟨rfl, N33q, e33⟩ := hQ33
  have N33 := Fr.app N31 N33q
  have pre_34 : ∀ t, Sp p e below T33 (mkF m 289 #[.val (.ref a1), .val (.ref qn), .val (.ref aT), .val (.int p3), .val (.int (1 : Int32)), .val (.ref idn), .val (.int (0 : Int32))] [(.int (0 : Int32))]) t → Steps p.tables e below E0 t := fun t k => pre_32 t (st33.trans k)
  have pre_35 : ∀ t, Sp p e below T33 (mkF m 334 #[.val (.ref a1), .val (.ref qn), .val (.ref aT), .val (.int p3), .val (.int (1 : Int32)), .val (.ref idn), .val (.int (0 : Int32))] [(.ref qn), (.ref a1)]) t → Steps p.tables e below E0 t := by
    intro t k
    refine pre_34 t ?_
    show Sp p e below T33 (mkF m 289 #[.val (.ref a1), .val (.ref qn), .val (.ref aT), .val (.int p3), .val (.int (1 : Int32)), .val (.ref idn), .val (.int (0 : Int32))] [(.int (0 : Int32))]) _
    refine XS.ifYes X33.here hx rfl (pc0 := 289) (pc' := 332) rfl (hb hby d_prog_56_1_289) rfl (XT.i0_eq_t (by decide)) (by decide) (by decide) ?_
    refine XS.aloadN X33.here hx rfl (hb hby d_prog_56_1_332) rfl rfl ?_
    refine XS.aloadN X33.here hx rfl (hb hby d_prog_56_1_333) rfl rfl ?_
    exact k
  obtain ⟨T36, h36, X36, e36, W36, st36⟩ := putF X33 hx hZ hown (host := "") (Or.inl (own_w hw 77 rfl)) Via.refl e33 (F1.keep K31 nin0) (E1.keep K31) (Or.inr ⟨(own_w hw 78 rfl), rfl, hnm⟩) (own_w hw 14 rfl) (ty := (.object cQC)) (by decide) rfl rfl (g := (mkF m 334 #[.val (.ref a1), .val (.ref qn), .val (.ref aT), .val (.int p3), .val (.int (1 : Int32)), .val (.ref idn), .val (.int (0 : Int32))] [(.ref qn), (.ref a1)])) rfl rfl (hb hby d_prog_56_1_334)
  have Fw36 := (F1.keep K31 nin0).same W36
  have N36 := Fr.snoc X36 N33 g1
  have O36 : Old Z n0 h36 := O31.wr W36 g1
  have pre_37 : ∀ t, Sp p e below T36 (mkF m 337 #[.val (.ref a1), .val (.ref qn), .val (.ref aT), .val (.int p3), .val (.int (1 : Int32)), .val (.ref idn), .val (.int (0 : Int32))] []) t → Steps p.tables e below E0 t := fun t k => pre_35 t (st36 t k)
  have pre_38 : ∀ t, Sp p e below T36 (mkF m 339 #[.val (.ref a1), .val (.ref qn), .val (.ref aT), .val (.int p3), .val (.int (1 : Int32)), .val (.ref idn), .val (.int (0 : Int32))] [(.ref aT), (.ref a1)]) t → Steps p.tables e below E0 t := by
    intro t k
    refine pre_37 t ?_
    show Sp p e below T36 (mkF m 337 #[.val (.ref a1), .val (.ref qn), .val (.ref aT), .val (.int p3), .val (.int (1 : Int32)), .val (.ref idn), .val (.int (0 : Int32))] []) _
    refine XS.aloadN X36.here hx rfl (hb hby d_prog_56_1_337) rfl rfl ?_
    refine XS.aloadN X36.here hx rfl (hb hby d_prog_56_1_338) rfl rfl ?_
    exact k
  obtain ⟨T39, h39, X39, e39, W39, st39⟩ := putF X36 hx hZ hown (host := "") (Or.inl (own_w hw 79 rfl)) Via.refl e36 ((F2.keep K31 nin0).other W36 (Or.inr (slot_ne (Or.inr (own_w hw 80 rfl)) (Or.inr (own_w hw 78 rfl)) (by decide) (t := (.object cEC)) (t' := (.object cQC)) (by decide) (by decide)))) ((E1.keep K31).wr W36) (Or.inr ⟨(own_w hw 80 rfl), rfl, hnm⟩) (own_w hw 14 rfl) (ty := (.object cEC)) (by decide) rfl rfl (g := (mkF m 339 #[.val (.ref a1), .val (.ref qn), .val (.ref aT), .val (.int p3), .val (.int (1 : Int32)), .val (.ref idn), .val (.int (0 : Int32))] [(.ref aT), (.ref a1)])) rfl rfl (hb hby d_prog_56_1_339)
  have Fw39 := ((F2.keep K31 nin0).other W36 (Or.inr (slot_ne (Or.inr (own_w hw 80 rfl)) (Or.inr (own_w hw 78 rfl)) (by decide) (t := (.object cEC)) (t' := (.object cQC)) (by decide) (by decide)))).same W39
  have N39 := Fr.snoc X39 N36 g1
  have O39 : Old Z n0 h39 := O36.wr W39 g1
  have pre_40 : ∀ t, Sp p e below T39 (mkF m 342 #[.val (.ref a1), .val (.ref qn), .val (.ref aT), .val (.int p3), .val (.int (1 : Int32)), .val (.ref idn), .val (.int (0 : Int32))] []) t → Steps p.tables e below E0 t := fun t k => pre_38 t (st39 t k)
  have pre_41 : ∀ t, Sp p e below T39 (mkF m 344 #[.val (.ref a1), .val (.ref qn), .val (.ref aT), .val (.int p3), .val (.int (1 : Int32)), .val (.ref idn), .val (.int (0 : Int32))] [(.int p3), (.ref a1)]) t → Steps p.tables e below E0 t := by
    intro t k
    refine pre_40 t ?_
    show Sp p e below T39 (mkF m 342 #[.val (.ref a1), .val (.ref qn), .val (.ref aT), .val (.int p3), .val (.int (1 : Int32)), .val (.ref idn), .val (.int (0 : Int32))] []) _
    refine XS.aloadN X39.here hx rfl (hb hby d_prog_56_1_342) rfl rfl ?_
    refine XS.iloadN X39.here hx rfl (hb hby d_prog_56_1_343) rfl ?_
    exact k
  obtain ⟨T42, h42, X42, e42, W42, st42⟩ := putF X39 hx hZ hown (host := "") (Or.inl (own_w hw 81 rfl)) Via.refl e39 (((F3.keep K31 nin0).other W36 (Or.inr (slot_ne (Or.inr (own_w hw 82 rfl)) (Or.inr (own_w hw 78 rfl)) (by decide) (t := .int) (t' := (.object cQC)) (by decide) (by decide)))).other W39 (Or.inr (slot_ne (Or.inr (own_w hw 82 rfl)) (Or.inr (own_w hw 80 rfl)) (by decide) (t := .int) (t' := (.object cEC)) (by decide) (by decide)))) (((E1.keep K31).wr W36).wr W39) (Or.inr ⟨(own_w hw 82 rfl), rfl, hnm⟩) (own_w hw 14 rfl) (ty := .int) (by decide) rfl rfl (g := (mkF m 344 #[.val (.ref a1), .val (.ref qn), .val (.ref aT), .val (.int p3), .val (.int (1 : Int32)), .val (.ref idn), .val (.int (0 : Int32))] [(.int p3), (.ref a1)])) rfl rfl (hb hby d_prog_56_1_344)
  have Fw42 := (((F3.keep K31 nin0).other W36 (Or.inr (slot_ne (Or.inr (own_w hw 82 rfl)) (Or.inr (own_w hw 78 rfl)) (by decide) (t := .int) (t' := (.object cQC)) (by decide) (by decide)))).other W39 (Or.inr (slot_ne (Or.inr (own_w hw 82 rfl)) (Or.inr (own_w hw 80 rfl)) (by decide) (t := .int) (t' := (.object cEC)) (by decide) (by decide)))).same W42
  have N42 := Fr.snoc X42 N39 g1
  have O42 : Old Z n0 h42 := O39.wr W42 g1
  have pre_43 : ∀ t, Sp p e below T42 (mkF m 347 #[.val (.ref a1), .val (.ref qn), .val (.ref aT), .val (.int p3), .val (.int (1 : Int32)), .val (.ref idn), .val (.int (0 : Int32))] []) t → Steps p.tables e below E0 t := fun t k => pre_41 t (st42 t k)
  have pre_44 : ∀ t, Sp p e below T42 (mkF m 350 #[.val (.ref a1), .val (.ref qn), .val (.ref aT), .val (.int p3), .val (.int (1 : Int32)), .val (.ref idn), .val (.int (0 : Int32))] [(.int (1 : Int32)), (.ref a1)]) t → Steps p.tables e below E0 t := by
    intro t k
    refine pre_43 t ?_
    show Sp p e below T42 (mkF m 347 #[.val (.ref a1), .val (.ref qn), .val (.ref aT), .val (.int p3), .val (.int (1 : Int32)), .val (.ref idn), .val (.int (0 : Int32))] []) _
    refine XS.aloadN X42.here hx rfl (hb hby d_prog_56_1_347) rfl rfl ?_
    show Sp p e below T42 (mkF m 348 #[.val (.ref a1), .val (.ref qn), .val (.ref aT), .val (.int p3), .val (.int (1 : Int32)), .val (.ref idn), .val (.int (0 : Int32))] [(.ref a1)]) _
    refine XS.iload X42.here hx rfl (hb hby d_prog_56_1_348) rfl ?_
    exact k
  obtain ⟨T45, h45, X45, e45, W45, st45⟩ := putF X42 hx hZ hown (host := "") (Or.inl (own_w hw 83 rfl)) Via.refl e42 ((((F4.keep K31 nin0).other W36 (Or.inr (slot_ne (Or.inr (own_w hw 84 rfl)) (Or.inr (own_w hw 78 rfl)) (by decide) (t := .int) (t' := (.object cQC)) (by decide) (by decide)))).other W39 (Or.inr (slot_ne (Or.inr (own_w hw 84 rfl)) (Or.inr (own_w hw 80 rfl)) (by decide) (t := .int) (t' := (.object cEC)) (by decide) (by decide)))).other W42 (Or.inr (slot_ne (Or.inr (own_w hw 84 rfl)) (Or.inr (own_w hw 82 rfl)) (by decide) (t := .int) (t' := .int) (by decide) (by decide)))) ((((E1.keep K31).wr W36).wr W39).wr W42) (Or.inr ⟨(own_w hw 84 rfl), rfl, hnm⟩) (own_w hw 14 rfl) (ty := .int) (by decide) rfl rfl (g := (mkF m 350 #[.val (.ref a1), .val (.ref qn), .val (.ref aT), .val (.int p3), .val (.int (1 : Int32)), .val (.ref idn), .val (.int (0 : Int32))] [(.int (1 : Int32)), (.ref a1)])) rfl rfl (hb hby d_prog_56_1_350)
  have Fw45 := ((((F4.keep K31 nin0).other W36 (Or.inr (slot_ne (Or.inr (own_w hw 84 rfl)) (Or.inr (own_w hw 78 rfl)) (by decide) (t := .int) (t' := (.object cQC)) (by decide) (by decide)))).other W39 (Or.inr (slot_ne (Or.inr (own_w hw 84 rfl)) (Or.inr (own_w hw 80 rfl)) (by decide) (t := .int) (t' := (.object cEC)) (by decide) (by decide)))).other W42 (Or.inr (slot_ne (Or.inr (own_w hw 84 rfl)) (Or.inr (own_w hw 82 rfl)) (by decide) (t := .int) (t' := .int) (by decide) (by decide)))).same W45
  have N45 := Fr.snoc X45 N42 g1
  have O45 : Old Z n0 h45 := O42.wr W45 g1
  have pre_46 : ∀ t, Sp p e below T45 (mkF m 353 #[.val (.ref a1), .val (.ref qn), .val (.ref aT), .val (.int p3), .val (.int (1 : Int32)), .val (.ref idn), .val (.int (0 : Int32))] []) t → Steps p.tables e below E0 t := fun t k => pre_44 t (st45 t k)
  obtain ⟨fs, hr, hrun, hended, hW, hsame⟩ := X45.leave (v := none) (fun _ => rfl)
  refine ⟨_, _, pre_46 _ ?_, hrun, hended, _, _, rfl, ?_, ⟨_, rfl⟩, hW, hsame.mono (by decide) (by decide)⟩
  · show Sp p e below T45 (mkF m 353 #[.val (.ref a1), .val (.ref qn), .val (.ref aT), .val (.int p3), .val (.int (1 : Int32)), .val (.ref idn), .val (.int (0 : Int32))] []) _
    exact X45.returnOut hx Bd.returns (hb hby d_prog_56_1_353) hr
  · show Q_si Z _ _ _ _ _ h0 n0 _ T45.heap _
    rw [e45]
    exact ⟨rfl, N45, ((((((Keep.refl h0 [a1]).trans K31 all0).wr W36 (Or.inl (List.mem_of_getElem? (i := 0) rfl))).wr W39 (Or.inl (List.mem_of_getElem? (i := 0) rfl))).wr W42 (Or.inl (List.mem_of_getElem? (i := 0) rfl))).wr W45 (Or.inl (List.mem_of_getElem? (i := 0) rfl))), (((Fw36.other W39 (Or.inr (slot_ne (Or.inr (own_w hw 78 rfl)) (Or.inr (own_w hw 80 rfl)) (by decide) (t := (.object cQC)) (t' := (.object cEC)) (by decide) (by decide)))).other W42 (Or.inr (slot_ne (Or.inr (own_w hw 78 rfl)) (Or.inr (own_w hw 82 rfl)) (by decide) (t := (.object cQC)) (t' := .int) (by decide) (by decide)))).other W45 (Or.inr (slot_ne (Or.inr (own_w hw 78 rfl)) (Or.inr (own_w hw 84 rfl)) (by decide) (t := (.object cQC)) (t' := .int) (by decide) (by decide)))), ((Fw39.other W42 (Or.inr (slot_ne (Or.inr (own_w hw 80 rfl)) (Or.inr (own_w hw 82 rfl)) (by decide) (t := (.object cEC)) (t' := .int) (by decide) (by decide)))).other W45 (Or.inr (slot_ne (Or.inr (own_w hw 80 rfl)) (Or.inr (own_w hw 84 rfl)) (by decide) (t := (.object cEC)) (t' := .int) (by decide) (by decide)))), (Fw42.other W45 (Or.inr (slot_ne (Or.inr (own_w hw 82 rfl)) (Or.inr (own_w hw 84 rfl)) (by decide) (t := .int) (t' := .int) (by decide) (by decide)))), Fw45⟩
theorem pn_si4_2 : plainName cSK = true := by first | (simp [plainName, overriddenIn]; done) | decide +kernel
theorem pd_si4_2_0 : parseMethodDescriptor "()V" = some ⟨[], none⟩ := by decide +kernel
theorem pd_si4_2_1 : parseMethodDescriptor "()Ljava/lang/String;" = some ⟨[], some (.object "java/lang/String")⟩ := by decide +kernel
theorem pd_si4_2_2 : parseMethodDescriptor dOT = some ⟨[], some (.object cOC)⟩ := by decide +kernel
theorem pd_si4_2_3 : parseMethodDescriptor "()Z" = some ⟨[], some .boolean⟩ := by decide +kernel
theorem pd_si4_2_4 : parseMethodDescriptor "()I" = some ⟨[], some .int⟩ := by decide +kernel
theorem pd_si4_2_5 : parseMethodDescriptor "(I)Ljava/util/Optional;" = some ⟨[.int], some (.object cOP)⟩ := by decide +kernel
theorem ef_si4_2 (m : MethodId) (a1 : Addr) (qn : Addr) (aT : Addr) (p3 : Int32) : entryFrame m #[(.ref a1), (.ref qn), (.ref aT), (.int p3), (.int (2 : Int32))] 7 = (mkF m 0 #[.val (.ref a1), .val (.ref qn), .val (.ref aT), .val (.int p3), .val (.int (2 : Int32)), .unset, .unset] []) := by first | (simp [entryFrame, mkF, argsToLocals, Value.category]; done) | rfl
set_option maxRecDepth 65536 in
set_option maxHeartbeats 40000000 in
theorem rm_si4_2 (l : Launch) (Z : State) (a0 : Array Value) (hw : ∀ d ∈ tables_1, d.before a0 Z = true) (ws : List Jvm.Cond) (a1 : Addr) (qn : Addr) (aT : Addr) (p3 : Int32) (u1 u2 u3 u4 : Value) (idn : Addr) (otn : Addr) (aX aS : Addr) (kS : ClassId) (aV cA cB : Addr) (kV : ClassId) (h0 : Heap) (n0 : Nat) (O0 : Old Z n0 h0) (E1 : Exa Z h0 a1 cSK) (F1 : Fld Z h0 a1 cSK "quantity" lQC u1) (F2 : Fld Z h0 a1 cSK "end" lEC u2) (F3 : Fld Z h0 a1 cSK "pair" "I" u3) (F4 : Fld Z h0 a1 cSK "other" "I" u4) (g1 : n0 ≤ a1) (HQ : own_Qf Z qn idn otn "RESISTANCE" (0 : Int32) (12 : Int32)) (HO : own_Of Z otn (4 : Int32)) (SX : Sta Z Z.heap cOC "ACROSS" lOC (.ref aX)) (ST : Sta Z Z.heap cEC "THROUGH" lEC (.ref aT)) (SS : Sta Z Z.heap cS1 nSM "[I" (.ref aS)) (VS : Arv Z Z.heap aS kS .int (6 : Int32) [(.int (2 : Int32)), (.int (4 : Int32)), (.int (3 : Int32)), (.int (5 : Int32)), (.int (6 : Int32)), (.int (1 : Int32))] (.int (0 : Int32))) (neX : ¬ otn = aX) (SV : Sta Z Z.heap cCC "$VALUES" aCC (.ref aV)) (EV : Exa Z Z.heap aV aCC) (VV : Arv Z Z.heap aV kV (.object cCC) (2 : Int32) [(.ref cA), (.ref cB)] .null) (EA : Exa Z Z.heap cA cCC) (FA : Fld Z Z.heap cA cEN "ordinal" "I" (.int (0 : Int32))) (EB : Exa Z Z.heap cB cCC) (FB : Fld Z Z.heap cB cEN "ordinal" "I" (.int (1 : Int32))) (hp : ¬ p3 < (1 : Int32)) :
    MetFree l (⟨cSK, "<init>", dSI⟩ : MethodName) (head1 (Jvm.Cond.code (⟨cSK, "<init>", dSI⟩ : MethodName) prog_56_method_1_code 7 none :: ws) ({ frames := 4, cells := 2, slots := 3, locals := 54 } : Room)) (fun a U => a = #[(.ref a1), (.ref qn), (.ref aT), (.int p3), (.int (2 : Int32))] ∧ Z.Warmed39 U.vm ∧ U.heap = h0) (fun _ _ _ _ _ => True) (fun _ U o U' => ∃ v L, o = .returned v ∧ Q_si Z a1 qn aT p3 (2 : Int32) h0 n0 v U'.heap L ∧ FrameEnd U o U' L ({ frames := 4, cells := 2, slots := 3, locals := 54 } : Room).cells ({ frames := 4, cells := 2, slots := 3, locals := 54 } : Room).slots) := by
  refine MetFree.of_bodySF (plainFor_of_name pn_si4_2) hisR ?_
  intro p e s m args below meth c s₁ Bd hml0 hP hK
  obtain ⟨rfl, hZ, hh⟩ := hP
  have hx := Bd.exec
  have hby := Bd.bytes
  have hml : c.maxLocals = 7 := hml0
  have hown : s.vm.findClass cSK = some m.cls := findClass_of_methodNamed Bd.named
  have hnm := (name_of_methodNamed Bd.named Bd.method).1
  have X0 : Stand p l e ({ frames := 4, cells := 2, slots := 3, locals := 54 } : Room) s m #[(.ref a1), (.ref qn), (.ref aT), (.int p3), (.int (2 : Int32))] below meth c s₁ [] 0 0 := Stand.of_body Bd
  have e0 : s₁.heap = h0 := by rw [← hh, Bd.state]; rfl
  have N0 := Fr.nil n0
  have pre0 : ∀ t, Steps p.tables e below (s₁.setTop (mkF m 0 #[.val (.ref a1), .val (.ref qn), .val (.ref aT), .val (.int p3), .val (.int (2 : Int32)), .unset, .unset] [])) t → Steps p.tables e below (s₁.setTop (entryFrame m #[(.ref a1), (.ref qn), (.ref aT), (.int p3), (.int (2 : Int32))] 7)) t := fun t k => castTop (ef_si4_2 m a1 qn aT p3) k
  generalize s₁.setTop (entryFrame m #[(.ref a1), (.ref qn), (.ref aT), (.int p3), (.int (2 : Int32))] 7) = E0 at pre0 ⊢
  have pre_1 : ∀ t, Sp p e below s₁ (mkF m 1 #[.val (.ref a1), .val (.ref qn), .val (.ref aT), .val (.int p3), .val (.int (2 : Int32)), .unset, .unset] [(.ref a1)]) t → Steps p.tables e below E0 t := by
    intro t k
    refine pre0 t ?_
    show Sp p e below s₁ (mkF m 0 #[.val (.ref a1), .val (.ref qn), .val (.ref aT), .val (.int p3), .val (.int (2 : Int32)), .unset, .unset] []) _
    refine XS.aloadN X0.here hx rfl (hb hby d_prog_56_1_0) rfl rfl ?_
    exact k
  obtain ⟨_, _, ⟨T2, L2, k2, n2⟩, -, X2, ⟨Lc2, hQ2, l2, y2, z2⟩, st2⟩ := X0.specialBack hx (y := (⟨"java/lang/Record", "<init>", "()V"⟩ : MethodName)) rfl hown (mvT hZ (own_w hw 31 rfl)) (mvT hZ (own_w hw 32 rfl)) (mvT hZ (own_w hw 35 rfl)) (by decide) (backOf (W := 0) (rm_rec l Z a0 hw [] a1 h0 n0 O0) hZ (own_w hw 35 rfl) (own_w hw 34 rfl) (by decide) (by decide)) (g := (mkF m 1 #[.val (.ref a1), .val (.ref qn), .val (.ref aT), .val (.int p3), .val (.int (2 : Int32)), .unset, .unset] [(.ref a1)])) rfl (by rw [hml]; rfl) (Steps.refl _) (a := a1) (argsL := []) (rest := []) (lenOf pd_si4_2_0 rfl) rfl (by show 2 * 0 + _ ≤ _; exact Nat.le_of_eq rfl) (hb hby d_prog_56_1_1) (fun _ _ => ⟨rfl, e0, (by decide : 0 + 0 ≤ _), (by decide : 0 + 0 ≤ _)⟩)
  dsimp only [Pt.U, Pt.locs, Pt.cells, Pt.slots] at X2 l2 y2 z2 st2 hQ2
  subst l2 y2 z2
  obtain ⟨rfl, N2q, e2⟩ := hQ2
  have N2 := Fr.app N0 N2q
  have pre_3 : ∀ t, Sp p e below T2 (mkF m 4 #[.val (.ref a1), .val (.ref qn), .val (.ref aT), .val (.int p3), .val (.int (2 : Int32)), .unset, .unset] []) t → Steps p.tables e below E0 t := fun t k => pre_1 t (st2.trans k)
  have pre_4 : ∀ t, Sp p e below T2 (mkF m 5 #[.val (.ref a1), .val (.ref qn), .val (.ref aT), .val (.int p3), .val (.int (2 : Int32)), .unset, .unset] [(.ref qn)]) t → Steps p.tables e below E0 t := by
    intro t k
    refine pre_3 t ?_
    show Sp p e below T2 (mkF m 4 #[.val (.ref a1), .val (.ref qn), .val (.ref aT), .val (.int p3), .val (.int (2 : Int32)), .unset, .unset] []) _
    refine XS.aloadN X2.here hx rfl (hb hby d_prog_56_1_4) rfl rfl ?_
    exact k
  obtain ⟨cq5, kq5, qa5, qb5, qc5⟩ := isOf hZ e2 (HQ.2.1.ext O0.2)
  obtain ⟨_, _, ⟨T5, L5, k5, n5⟩, -, X5, ⟨Lc5, hQ5, l5, y5, z5⟩, st5⟩ := X2.virtualBack hx (y := (⟨cQC, "identifier", "()Ljava/lang/String;"⟩ : MethodName)) (z := (⟨cQC, "identifier", "()Ljava/lang/String;"⟩ : MethodName)) hown (mvT hZ (own_w hw 39 rfl)) (mvT hZ (own_w hw 40 rfl)) (notFace_of_selects (args := #[]) (mvT hZ (own_w hw 42 rfl))) (mvT hZ (own_w hw 42 rfl)) (mvT hZ (own_w hw 41 rfl)) (by decide) (backOf (W := 0) (rm_idm l Z a0 hw [] qn idn h0 n0 O0 (HQ.2.2.1.ext O0.2)) hZ (own_w hw 43 rfl) (own_w hw 20 rfl) (by decide) (by decide)) qa5 qc5 (g := (mkF m 5 #[.val (.ref a1), .val (.ref qn), .val (.ref aT), .val (.int p3), .val (.int (2 : Int32)), .unset, .unset] [(.ref qn)])) rfl (by rw [hml]; rfl) (Steps.refl _) (argsL := []) (rest := []) (lenOf pd_si4_2_1 rfl) rfl (by show 2 * 0 + _ ≤ _; exact Nat.le_of_eq rfl) (hb hby d_prog_56_1_5) (fun _ _ => ⟨rfl, e2, (by decide : 0 + 0 ≤ _), (by decide : 0 + 0 ≤ _)⟩)
  dsimp only [Pt.U, Pt.locs, Pt.cells, Pt.slots] at X5 l5 y5 z5 st5 hQ5
  subst l5 y5 z5
  obtain ⟨rfl, N5q, e5⟩ := hQ5
  have N5 := Fr.app N2 N5q
  have pre_6 : ∀ t, Sp p e below T5 (mkF m 8 #[.val (.ref a1), .val (.ref qn), .val (.ref aT), .val (.int p3), .val (.int (2 : Int32)), .unset, .unset] [(.ref idn)]) t → Steps p.tables e below E0 t := fun t k => pre_4 t (st5.trans k)
  have pre_7 : ∀ t, Sp p e below T5 (mkF m 11 #[.val (.ref a1), .val (.ref qn), .val (.ref aT), .val (.int p3), .val (.int (2 : Int32)), .val (.ref idn), .unset] [(.ref qn)]) t → Steps p.tables e below E0 t := by
    intro t k
    refine pre_6 t ?_
    show Sp p e below T5 (mkF m 8 #[.val (.ref a1), .val (.ref qn), .val (.ref aT), .val (.int p3), .val (.int (2 : Int32)), .unset, .unset] [(.ref idn)]) _
    refine XS.astore X5.here hx rfl (hb hby d_prog_56_1_8) rfl rfl (l' := #[.val (.ref a1), .val (.ref qn), .val (.ref aT), .val (.int p3), .val (.int (2 : Int32)), .val (.ref idn), .unset]) rfl ?_
    refine XS.aloadN X5.here hx rfl (hb hby d_prog_56_1_10) rfl rfl ?_
    exact k
  obtain ⟨cq8, kq8, qa8, qb8, qc8⟩ := isOf hZ e5 (HQ.2.1.ext O0.2)
  obtain ⟨_, _, ⟨T8, L8, k8, n8⟩, -, X8, ⟨Lc8, hQ8, l8, y8, z8⟩, st8⟩ := X5.virtualBack hx (y := (⟨cQC, "others", dOT⟩ : MethodName)) (z := (⟨cQC, "others", dOT⟩ : MethodName)) hown (mvT hZ (own_w hw 46 rfl)) (mvT hZ (own_w hw 47 rfl)) (notFace_of_selects (args := #[]) (mvT hZ (own_w hw 49 rfl))) (mvT hZ (own_w hw 49 rfl)) (mvT hZ (own_w hw 48 rfl)) (by decide) (backOf (W := 0) (rm_otm l Z a0 hw [] qn otn h0 n0 O0 (HQ.2.2.2.1.ext O0.2)) hZ (own_w hw 50 rfl) (own_w hw 20 rfl) (by decide) (by decide)) qa8 qc8 (g := (mkF m 11 #[.val (.ref a1), .val (.ref qn), .val (.ref aT), .val (.int p3), .val (.int (2 : Int32)), .val (.ref idn), .unset] [(.ref qn)])) rfl (by rw [hml]; rfl) (Steps.refl _) (argsL := []) (rest := []) (lenOf pd_si4_2_2 rfl) rfl (by show 2 * 0 + _ ≤ _; exact Nat.le_of_eq rfl) (hb hby d_prog_56_1_11) (fun _ _ => ⟨rfl, e5, (by decide : 0 + 0 ≤ _), (by decide : 0 + 0 ≤ _)⟩)
  dsimp only [Pt.U, Pt.locs, Pt.cells, Pt.slots] at X8 l8 y8 z8 st8 hQ8
  subst l8 y8 z8
  obtain ⟨rfl, N8q, e8⟩ := hQ8
  have N8 := Fr.app N5 N8q
  have pre_9 : ∀ t, Sp p e below T8 (mkF m 14 #[.val (.ref a1), .val (.ref qn), .val (.ref aT), .val (.int p3), .val (.int (2 : Int32)), .val (.ref idn), .unset] [(.ref otn)]) t → Steps p.tables e below E0 t := fun t k => pre_7 t (st8.trans k)
  obtain ⟨T10, X10, e10, st10⟩ := getS X8 hx hZ hown (host := "") (own_w hw 55 rfl) Via.refl e8 (SX.ext O0.2) (g := (mkF m 14 #[.val (.ref a1), .val (.ref qn), .val (.ref aT), .val (.int p3), .val (.int (2 : Int32)), .val (.ref idn), .unset] [(.ref otn)])) rfl (hb hby d_prog_56_1_14)
  have pre_11 : ∀ t, Sp p e below T10 (mkF m 17 #[.val (.ref a1), .val (.ref qn), .val (.ref aT), .val (.int p3), .val (.int (2 : Int32)), .val (.ref idn), .unset] [(.ref aX), (.ref otn)]) t → Steps p.tables e below E0 t := fun t k => pre_9 t (st10 t k)
  have pre_12 : ∀ t, Sp p e below T10 (mkF m 87 #[.val (.ref a1), .val (.ref qn), .val (.ref aT), .val (.int p3), .val (.int (2 : Int32)), .val (.ref idn), .val (.int (0 : Int32))] [(.ref qn)]) t → Steps p.tables e below E0 t := by
    intro t k
    refine pre_11 t ?_
    show Sp p e below T10 (mkF m 17 #[.val (.ref a1), .val (.ref qn), .val (.ref aT), .val (.int p3), .val (.int (2 : Int32)), .val (.ref idn), .unset] [(.ref aX), (.ref otn)]) _
    refine XT.acmpYes X10.here hx rfl (pc0 := 17) (pc' := 24) rfl (hb hby d_prog_56_1_17) rfl rfl rfl (XT.aa_ne_t (fun q => neX (Value.ref.inj q))) (by decide) (by decide) ?_
    refine XS.iconst X10.here hx rfl (hb hby d_prog_56_1_24) ?_
    refine XS.istore X10.here hx rfl (hb hby d_prog_56_1_25) rfl (l' := #[.val (.ref a1), .val (.ref qn), .val (.ref aT), .val (.int p3), .val (.int (2 : Int32)), .val (.ref idn), .val (.int (0 : Int32))]) rfl ?_
    refine XS.iload X10.here hx rfl (hb hby d_prog_56_1_27) rfl ?_
    show Sp p e below T10 (mkF m 29 #[.val (.ref a1), .val (.ref qn), .val (.ref aT), .val (.int p3), .val (.int (2 : Int32)), .val (.ref idn), .val (.int (0 : Int32))] [(.int (0 : Int32))]) _
    refine XS.ifYes X10.here hx rfl (pc0 := 29) (pc' := 62) rfl (hb hby d_prog_56_1_29) rfl (XT.i0_eq_t (by decide)) (by decide) (by decide) ?_
    refine XS.iload X10.here hx rfl (hb hby d_prog_56_1_62) rfl ?_
    refine XS.ifNo X10.here hx rfl (hb hby d_prog_56_1_64) rfl (XT.i0_ne_f (by decide)) ?_
    refine XS.iloadN X10.here hx rfl (hb hby d_prog_56_1_67) rfl ?_
    refine XS.iconst X10.here hx rfl (hb hby d_prog_56_1_68) ?_
    refine XS.icmpYes X10.here hx rfl (pc0 := 69) (pc' := 86) rfl (hb hby d_prog_56_1_69) rfl (XT.ii_ge_t hp) (by decide) (by decide) ?_
    refine XS.aloadN X10.here hx rfl (hb hby d_prog_56_1_86) rfl rfl ?_
    exact k
  obtain ⟨cq13, kq13, qa13, qb13, qc13⟩ := isOf hZ e10 (HQ.2.1.ext O0.2)
  obtain ⟨_, _, ⟨T13, L13, k13, n13⟩, -, X13, ⟨Lc13, hQ13, l13, y13, z13⟩, st13⟩ := X10.virtualBack hx (y := (⟨cQC, "atAnEnd", "()Z"⟩ : MethodName)) (z := (⟨cQC, "atAnEnd", "()Z"⟩ : MethodName)) hown (mvT hZ (own_w hw 57 rfl)) (mvT hZ (own_w hw 58 rfl)) (notFace_of_selects (args := #[]) (mvT hZ (own_w hw 60 rfl))) (mvT hZ (own_w hw 60 rfl)) (mvT hZ (own_w hw 59 rfl)) (by decide) (backOf (W := 0) (rm_atm0 l Z a0 hw [] qn  h0 n0 O0 (HQ.2.2.2.2.1.ext O0.2)) hZ (own_w hw 61 rfl) (own_w hw 20 rfl) (by decide) (by decide)) qa13 qc13 (g := (mkF m 87 #[.val (.ref a1), .val (.ref qn), .val (.ref aT), .val (.int p3), .val (.int (2 : Int32)), .val (.ref idn), .val (.int (0 : Int32))] [(.ref qn)])) rfl (by rw [hml]; rfl) (Steps.refl _) (argsL := []) (rest := []) (lenOf pd_si4_2_3 rfl) rfl (by show 2 * 0 + _ ≤ _; exact Nat.le_of_eq rfl) (hb hby d_prog_56_1_87) (fun _ _ => ⟨rfl, e10, (by decide : 0 + 0 ≤ _), (by decide : 0 + 0 ≤ _)⟩)
  dsimp only [Pt.U, Pt.locs, Pt.cells, Pt.slots] at X13 l13 y13 z13 st13 hQ13
  subst l13 y13 z13
  obtain ⟨rfl, N13q, e13⟩ := hQ13
  have N13 := Fr.app N8 N13q
  have pre_14 : ∀ t, Sp p e below T13 (mkF m 90 #[.val (.ref a1), .val (.ref qn), .val (.ref aT), .val (.int p3), .val (.int (2 : Int32)), .val (.ref idn), .val (.int (0 : Int32))] [(.int (0 : Int32))]) t → Steps p.tables e below E0 t := fun t k => pre_12 t (st13.trans k)
  have pre_15 : ∀ t, Sp p e below T13 (mkF m 116 #[.val (.ref a1), .val (.ref qn), .val (.ref aT), .val (.int p3), .val (.int (2 : Int32)), .val (.ref idn), .val (.int (0 : Int32))] [(.ref qn)]) t → Steps p.tables e below E0 t := by
    intro t k
    refine pre_14 t ?_
    show Sp p e below T13 (mkF m 90 #[.val (.ref a1), .val (.ref qn), .val (.ref aT), .val (.int p3), .val (.int (2 : Int32)), .val (.ref idn), .val (.int (0 : Int32))] [(.int (0 : Int32))]) _
    refine XS.ifYes X13.here hx rfl (pc0 := 90) (pc' := 115) rfl (hb hby d_prog_56_1_90) rfl (XT.i0_eq_t (by decide)) (by decide) (by decide) ?_
    show Sp p e below T13 (mkF m 115 #[.val (.ref a1), .val (.ref qn), .val (.ref aT), .val (.int p3), .val (.int (2 : Int32)), .val (.ref idn), .val (.int (0 : Int32))] []) _
    refine XS.aloadN X13.here hx rfl (hb hby d_prog_56_1_115) rfl rfl ?_
    exact k
  obtain ⟨cq16, kq16, qa16, qb16, qc16⟩ := isOf hZ e13 (HQ.2.1.ext O0.2)
  obtain ⟨_, _, ⟨T16, L16, k16, n16⟩, -, X16, ⟨Lc16, hQ16, l16, y16, z16⟩, st16⟩ := X13.virtualBack hx (y := (⟨cQC, "atAnEnd", "()Z"⟩ : MethodName)) (z := (⟨cQC, "atAnEnd", "()Z"⟩ : MethodName)) hown (mvT hZ (own_w hw 57 rfl)) (mvT hZ (own_w hw 58 rfl)) (notFace_of_selects (args := #[]) (mvT hZ (own_w hw 60 rfl))) (mvT hZ (own_w hw 60 rfl)) (mvT hZ (own_w hw 59 rfl)) (by decide) (backOf (W := 0) (rm_atm0 l Z a0 hw [] qn  h0 n0 O0 (HQ.2.2.2.2.1.ext O0.2)) hZ (own_w hw 61 rfl) (own_w hw 20 rfl) (by decide) (by decide)) qa16 qc16 (g := (mkF m 116 #[.val (.ref a1), .val (.ref qn), .val (.ref aT), .val (.int p3), .val (.int (2 : Int32)), .val (.ref idn), .val (.int (0 : Int32))] [(.ref qn)])) rfl (by rw [hml]; rfl) (Steps.refl _) (argsL := []) (rest := []) (lenOf pd_si4_2_3 rfl) rfl (by show 2 * 0 + _ ≤ _; exact Nat.le_of_eq rfl) (hb hby d_prog_56_1_116) (fun _ _ => ⟨rfl, e13, (by decide : 0 + 0 ≤ _), (by decide : 0 + 0 ≤ _)⟩)
  dsimp only [Pt.U, Pt.locs, Pt.cells, Pt.slots] at X16 l16 y16 z16 st16 hQ16
  subst l16 y16 z16
  obtain ⟨rfl, N16q, e16⟩ := hQ16
  have N16 := Fr.app N13 N16q
  have pre_17 : ∀ t, Sp p e below T16 (mkF m 119 #[.val (.ref a1), .val (.ref qn), .val (.ref aT), .val (.int p3), .val (.int (2 : Int32)), .val (.ref idn), .val (.int (0 : Int32))] [(.int (0 : Int32))]) t → Steps p.tables e below E0 t := fun t k => pre_15 t (st16.trans k)
  have pre_18 : ∀ t, Sp p e below T16 (mkF m 123 #[.val (.ref a1), .val (.ref qn), .val (.ref aT), .val (.int p3), .val (.int (2 : Int32)), .val (.ref idn), .val (.int (0 : Int32))] [(.ref aT)]) t → Steps p.tables e below E0 t := by
    intro t k
    refine pre_17 t ?_
    show Sp p e below T16 (mkF m 119 #[.val (.ref a1), .val (.ref qn), .val (.ref aT), .val (.int p3), .val (.int (2 : Int32)), .val (.ref idn), .val (.int (0 : Int32))] [(.int (0 : Int32))]) _
    refine XS.ifNo X16.here hx rfl (hb hby d_prog_56_1_119) rfl (XT.i0_ne_f (by decide)) ?_
    refine XS.aloadN X16.here hx rfl (hb hby d_prog_56_1_122) rfl rfl ?_
    exact k
  obtain ⟨T19, X19, e19, st19⟩ := getS X16 hx hZ hown (host := "") (own_w hw 64 rfl) Via.refl e16 (ST.ext O0.2) (g := (mkF m 123 #[.val (.ref a1), .val (.ref qn), .val (.ref aT), .val (.int p3), .val (.int (2 : Int32)), .val (.ref idn), .val (.int (0 : Int32))] [(.ref aT)])) rfl (hb hby d_prog_56_1_123)
  have pre_20 : ∀ t, Sp p e below T19 (mkF m 126 #[.val (.ref a1), .val (.ref qn), .val (.ref aT), .val (.int p3), .val (.int (2 : Int32)), .val (.ref idn), .val (.int (0 : Int32))] [(.ref aT), (.ref aT)]) t → Steps p.tables e below E0 t := fun t k => pre_18 t (st19 t k)
  have pre_21 : ∀ t, Sp p e below T19 (mkF m 148 #[.val (.ref a1), .val (.ref qn), .val (.ref aT), .val (.int p3), .val (.int (2 : Int32)), .val (.ref idn), .val (.int (0 : Int32))] []) t → Steps p.tables e below E0 t := by
    intro t k
    refine pre_20 t ?_
    show Sp p e below T19 (mkF m 126 #[.val (.ref a1), .val (.ref qn), .val (.ref aT), .val (.int p3), .val (.int (2 : Int32)), .val (.ref idn), .val (.int (0 : Int32))] [(.ref aT), (.ref aT)]) _
    refine XT.acmpYes X19.here hx rfl (pc0 := 126) (pc' := 148) rfl (hb hby d_prog_56_1_126) rfl rfl rfl (XT.aa_eq_t rfl) (by decide) (by decide) ?_
    exact k
  obtain ⟨T22, X22, e22, st22⟩ := getS X19 hx hZ hown (host := "") (own_w hw 65 rfl) Via.refl e19 (SS.ext O0.2) (g := (mkF m 148 #[.val (.ref a1), .val (.ref qn), .val (.ref aT), .val (.int p3), .val (.int (2 : Int32)), .val (.ref idn), .val (.int (0 : Int32))] [])) rfl (hb hby d_prog_56_1_148)
  have pre_23 : ∀ t, Sp p e below T22 (mkF m 151 #[.val (.ref a1), .val (.ref qn), .val (.ref aT), .val (.int p3), .val (.int (2 : Int32)), .val (.ref idn), .val (.int (0 : Int32))] [(.ref aS)]) t → Steps p.tables e below E0 t := fun t k => pre_21 t (st22 t k)
  have pre_24 : ∀ t, Sp p e below T22 (mkF m 152 #[.val (.ref a1), .val (.ref qn), .val (.ref aT), .val (.int p3), .val (.int (2 : Int32)), .val (.ref idn), .val (.int (0 : Int32))] [(.ref qn), (.ref aS)]) t → Steps p.tables e below E0 t := by
    intro t k
    refine pre_23 t ?_
    show Sp p e below T22 (mkF m 151 #[.val (.ref a1), .val (.ref qn), .val (.ref aT), .val (.int p3), .val (.int (2 : Int32)), .val (.ref idn), .val (.int (0 : Int32))] [(.ref aS)]) _
    refine XS.aloadN X22.here hx rfl (hb hby d_prog_56_1_151) rfl rfl ?_
    exact k
  obtain ⟨cq25, kq25, qa25, qb25, qc25⟩ := isOf hZ e22 (HQ.2.1.ext O0.2)
  obtain ⟨_, _, ⟨T25, L25, k25, n25⟩, -, X25, ⟨Lc25, hQ25, l25, y25, z25⟩, st25⟩ := X22.virtualBack hx (y := (⟨cQC, "others", dOT⟩ : MethodName)) (z := (⟨cQC, "others", dOT⟩ : MethodName)) hown (mvT hZ (own_w hw 46 rfl)) (mvT hZ (own_w hw 47 rfl)) (notFace_of_selects (args := #[]) (mvT hZ (own_w hw 49 rfl))) (mvT hZ (own_w hw 49 rfl)) (mvT hZ (own_w hw 48 rfl)) (by decide) (backOf (W := 1) (rm_otm l Z a0 hw [] qn otn h0 n0 O0 (HQ.2.2.2.1.ext O0.2)) hZ (own_w hw 50 rfl) (own_w hw 20 rfl) (by decide) (by decide)) qa25 qc25 (g := (mkF m 152 #[.val (.ref a1), .val (.ref qn), .val (.ref aT), .val (.int p3), .val (.int (2 : Int32)), .val (.ref idn), .val (.int (0 : Int32))] [(.ref qn), (.ref aS)])) rfl (by rw [hml]; rfl) (Steps.refl _) (argsL := []) (rest := [(.ref aS)]) (lenOf pd_si4_2_2 rfl) rfl (by show 2 * 0 + _ ≤ _; exact Nat.le_of_eq rfl) (hb hby d_prog_56_1_152) (fun _ _ => ⟨rfl, e22, (by decide : 0 + 0 ≤ _), (by decide : 0 + 0 ≤ _)⟩)
  dsimp only [Pt.U, Pt.locs, Pt.cells, Pt.slots] at X25 l25 y25 z25 st25 hQ25
  subst l25 y25 z25
  obtain ⟨rfl, N25q, e25⟩ := hQ25
  have N25 := Fr.app N16 N25q
  have pre_26 : ∀ t, Sp p e below T25 (mkF m 155 #[.val (.ref a1), .val (.ref qn), .val (.ref aT), .val (.int p3), .val (.int (2 : Int32)), .val (.ref idn), .val (.int (0 : Int32))] [(.ref otn), (.ref aS)]) t → Steps p.tables e below E0 t := fun t k => pre_24 t (st25.trans k)
  obtain ⟨cq27, kq27, qa27, qb27, qc27⟩ := isOf hZ e25 (HO.1.ext O0.2)
  obtain ⟨_, _, ⟨T27, L27, k27, n27⟩, -, X27, ⟨Lc27, hQ27, l27, y27, z27⟩, st27⟩ := X25.virtualBackUp hx (x := (⟨cOC, "ordinal", "()I"⟩ : MethodName)) (y := (⟨cEN, "ordinal", "()I"⟩ : MethodName)) hown (mvT hZ (own_w hw 68 rfl)) (mvT hZ (own_w hw 69 rfl)) (mvT hZ (own_w hw 70 rfl)) (by decide) (mvT hZ (own_w hw 72 rfl)) (mvT hZ (own_w hw 71 rfl)) (backOf (W := 1) (rm_ord l Z a0 hw [] otn (4 : Int32) h0 n0 O0 (HO.2.ext O0.2)) hZ (own_w hw 74 rfl) (own_w hw 73 rfl) (by decide) (by decide)) qa27 qc27 (g := (mkF m 155 #[.val (.ref a1), .val (.ref qn), .val (.ref aT), .val (.int p3), .val (.int (2 : Int32)), .val (.ref idn), .val (.int (0 : Int32))] [(.ref otn), (.ref aS)])) rfl (by rw [hml]; rfl) (Steps.refl _) (argsL := []) (rest := [(.ref aS)]) (lenOf pd_si4_2_4 rfl) rfl (by show 2 * 0 + _ ≤ _; exact Nat.le_of_eq rfl) (hb hby d_prog_56_1_155) (fun _ _ => ⟨rfl, e25, (by decide : 0 + 0 ≤ _), (by decide : 0 + 0 ≤ _)⟩)
  dsimp only [Pt.U, Pt.locs, Pt.cells, Pt.slots] at X27 l27 y27 z27 st27 hQ27
  subst l27 y27 z27
  obtain ⟨rfl, N27q, e27⟩ := hQ27
  have N27 := Fr.app N25 N27q
  have pre_28 : ∀ t, Sp p e below T27 (mkF m 158 #[.val (.ref a1), .val (.ref qn), .val (.ref aT), .val (.int p3), .val (.int (2 : Int32)), .val (.ref idn), .val (.int (0 : Int32))] [(.int (4 : Int32)), (.ref aS)]) t → Steps p.tables e below E0 t := fun t k => pre_26 t (st27.trans k)
  have pre_30 : ∀ t, Sp p e below T27 (mkF m 283 #[.val (.ref a1), .val (.ref qn), .val (.ref aT), .val (.int p3), .val (.int (2 : Int32)), .val (.ref idn), .val (.int (0 : Int32))] [(.int (2 : Int32))]) t → Steps p.tables e below E0 t := by
    intro t k
    refine pre_28 t ?_
    obtain ⟨cl29, Ar29, -, S29, -, H29, -⟩ := id (VS.ext O0.2)
    have hin29 : ¬ ((4 : Int32) < 0 ∨ cl29.slots.size ≤ ((4 : Int32)).toNatClampNeg) := inb_of S29 (by decide)
    refine X27.iaload hx (j := (4 : Int32)) (v := (.int (6 : Int32))) (by rw [e27]; exact Ar29.1) (State.isArrayOf_alike hZ.alike Ar29.2.1) Ar29.2.2 hin29 (H29.at hin29 rfl) (g := (mkF m 158 #[.val (.ref a1), .val (.ref qn), .val (.ref aT), .val (.int p3), .val (.int (2 : Int32)), .val (.ref idn), .val (.int (0 : Int32))] [(.int (4 : Int32)), (.ref aS)])) rfl rfl (hb hby d_prog_56_1_158) _ ?_
    refine XS.tswIn X27.here hx rfl (pc0 := 159) (pc' := 281) rfl (hb hby d_prog_56_1_159) rfl (by decide) (o := 122) rfl (by decide) (by decide) ?_
    refine XS.iload X27.here hx rfl (hb hby d_prog_56_1_281) rfl ?_
    show Sp p e below T27 (mkF m 283 #[.val (.ref a1), .val (.ref qn), .val (.ref aT), .val (.int p3), .val (.int (2 : Int32)), .val (.ref idn), .val (.int (0 : Int32))] [(.int (2 : Int32))]) _
    exact k
  obtain ⟨_, _, ⟨T31, L31, k31, n31⟩, -, X31, ⟨Lc31, hQ31, l31, y31, z31⟩, st31⟩ := Jvm.LawKit.callS X27 hx (y := (⟨cCC, "of", "(I)Ljava/util/Optional;"⟩ : MethodName)) hown (mvT hZ (own_w hw 105 rfl)) (mvT hZ (own_w hw 106 rfl)) (mvT hZ (own_w hw 107 rfl)) (mvT hZ (own_w hw 108 rfl)) (by decide) (backOf (W := 0) (rm_cof2 l Z a0 hw [] aV cA cB kV h0 n0 O0 SV EV VV EA FA EB FB) hZ (own_w hw 108 rfl) (own_w hw 107 rfl) (by decide) (by decide)) (g := (mkF m 283 #[.val (.ref a1), .val (.ref qn), .val (.ref aT), .val (.int p3), .val (.int (2 : Int32)), .val (.ref idn), .val (.int (0 : Int32))] [(.int (2 : Int32))])) rfl (by rw [hml]; rfl) (argsL := [(.int (2 : Int32))]) (rest := []) (lenOf pd_si4_2_5 rfl) rfl (by show 2 * 0 + _ ≤ _; exact Nat.le_of_eq rfl) (hb hby d_prog_56_1_283) (fun _ _ => ⟨rfl, e27, (by decide : 0 + 2 ≤ _), (by decide : 0 + 3 ≤ _)⟩)
  dsimp only [Pt.U, Pt.locs, Pt.cells, Pt.slots] at X31 l31 y31 z31 st31 hQ31
  subst l31 y31 z31
  obtain ⟨b31, rfl, N31q, K31, sb31, Eb31, Fb31⟩ := hQ31
  have N31 := Fr.app N27 N31q
  have O31 : Old Z n0 T31.heap := O0.keep K31 all0
  have pre_32 : ∀ t, Sp p e below T31 (mkF m 286 #[.val (.ref a1), .val (.ref qn), .val (.ref aT), .val (.int p3), .val (.int (2 : Int32)), .val (.ref idn), .val (.int (0 : Int32))] [(.ref b31)]) t → Steps p.tables e below E0 t := fun t k => pre_30 t (st31 t k)
  obtain ⟨cq33, kq33, qa33, qb33, qc33⟩ := isOf hZ rfl Eb31
  obtain ⟨_, _, ⟨T33, L33, k33, n33⟩, -, X33, ⟨Lc33, hQ33, l33, y33, z33⟩, st33⟩ := X31.virtualBack hx (y := (⟨cOP, "isEmpty", "()Z"⟩ : MethodName)) (z := (⟨cOP, "isEmpty", "()Z"⟩ : MethodName)) hown (mvT hZ (own_w hw 152 rfl)) (mvT hZ (own_w hw 153 rfl)) (notFace_of_selects (args := #[]) (mvT hZ (own_w hw 155 rfl))) (mvT hZ (own_w hw 155 rfl)) (mvT hZ (own_w hw 154 rfl)) (by decide) (backOf (W := 0) (rm_oem l Z a0 hw [] b31 cB T31.heap n0 O31 Fb31) hZ (own_w hw 156 rfl) (own_w hw 137 rfl) (by decide) (by decide)) qa33 qc33 (g := (mkF m 286 #[.val (.ref a1), .val (.ref qn), .val (.ref aT), .val (.int p3), .val (.int (2 : Int32)), .val (.ref idn), .val (.int (0 : Int32))] [(.ref b31)])) rfl (by rw [hml]; rfl) (Steps.refl _) (argsL := []) (rest := []) (lenOf pd_si4_2_3 rfl) rfl (by show 2 * 0 + _ ≤ _; exact Nat.le_of_eq rfl) (hb hby d_prog_56_1_286) (fun _ _ => ⟨rfl, rfl, (by decide : 2 + 0 ≤ _), (by decide : 3 + 0 ≤ _)⟩)
  dsimp only [Pt.U, Pt.locs, Pt.cells, Pt.slots] at X33 l33 y33 z33 st33 hQ33
  subst l33 y33 z33
  obtain ⟨rfl, N33q, e33⟩ := hQ33
  have N33 := Fr.app N31 N33q
  have pre_34 : ∀ t, Sp p e below T33 (mkF m 289 #[.val (.ref a1), .val (.ref qn), .val (.ref aT), .val (.int p3), .val (.int (2 : Int32)), .val (.ref idn), .val (.int (0 : Int32))] [(.int (0 : Int32))]) t → Steps p.tables e below E0 t := fun t k => pre_32 t (st33.trans k)
  have pre_35 : ∀ t, Sp p e below T33 (mkF m 334 #[.val (.ref a1), .val (.ref qn), .val (.ref aT), .val (.int p3), .val (.int (2 : Int32)), .val (.ref idn), .val (.int (0 : Int32))] [(.ref qn), (.ref a1)]) t → Steps p.tables e below E0 t := by
    intro t k
    refine pre_34 t ?_
    show Sp p e below T33 (mkF m 289 #[.val (.ref a1), .val (.ref qn), .val (.ref aT), .val (.int p3), .val (.int (2 : Int32)), .val (.ref idn), .val (.int (0 : Int32))] [(.int (0 : Int32))]) _
    refine XS.ifYes X33.here hx rfl (pc0 := 289) (pc' := 332) rfl (hb hby d_prog_56_1_289) rfl (XT.i0_eq_t (by decide)) (by decide) (by decide) ?_
    refine XS.aloadN X33.here hx rfl (hb hby d_prog_56_1_332) rfl rfl ?_
    refine XS.aloadN X33.here hx rfl (hb hby d_prog_56_1_333) rfl rfl ?_
    exact k
  obtain ⟨T36, h36, X36, e36, W36, st36⟩ := putF X33 hx hZ hown (host := "") (Or.inl (own_w hw 77 rfl)) Via.refl e33 (F1.keep K31 nin0) (E1.keep K31) (Or.inr ⟨(own_w hw 78 rfl), rfl, hnm⟩) (own_w hw 14 rfl) (ty := (.object cQC)) (by decide) rfl rfl (g := (mkF m 334 #[.val (.ref a1), .val (.ref qn), .val (.ref aT), .val (.int p3), .val (.int (2 : Int32)), .val (.ref idn), .val (.int (0 : Int32))] [(.ref qn), (.ref a1)])) rfl rfl (hb hby d_prog_56_1_334)
  have Fw36 := (F1.keep K31 nin0).same W36
  have N36 := Fr.snoc X36 N33 g1
  have O36 : Old Z n0 h36 := O31.wr W36 g1
  have pre_37 : ∀ t, Sp p e below T36 (mkF m 337 #[.val (.ref a1), .val (.ref qn), .val (.ref aT), .val (.int p3), .val (.int (2 : Int32)), .val (.ref idn), .val (.int (0 : Int32))] []) t → Steps p.tables e below E0 t := fun t k => pre_35 t (st36 t k)
  have pre_38 : ∀ t, Sp p e below T36 (mkF m 339 #[.val (.ref a1), .val (.ref qn), .val (.ref aT), .val (.int p3), .val (.int (2 : Int32)), .val (.ref idn), .val (.int (0 : Int32))] [(.ref aT), (.ref a1)]) t → Steps p.tables e below E0 t := by
    intro t k
    refine pre_37 t ?_
    show Sp p e below T36 (mkF m 337 #[.val (.ref a1), .val (.ref qn), .val (.ref aT), .val (.int p3), .val (.int (2 : Int32)), .val (.ref idn), .val (.int (0 : Int32))] []) _
    refine XS.aloadN X36.here hx rfl (hb hby d_prog_56_1_337) rfl rfl ?_
    refine XS.aloadN X36.here hx rfl (hb hby d_prog_56_1_338) rfl rfl ?_
    exact k
  obtain ⟨T39, h39, X39, e39, W39, st39⟩ := putF X36 hx hZ hown (host := "") (Or.inl (own_w hw 79 rfl)) Via.refl e36 ((F2.keep K31 nin0).other W36 (Or.inr (slot_ne (Or.inr (own_w hw 80 rfl)) (Or.inr (own_w hw 78 rfl)) (by decide) (t := (.object cEC)) (t' := (.object cQC)) (by decide) (by decide)))) ((E1.keep K31).wr W36) (Or.inr ⟨(own_w hw 80 rfl), rfl, hnm⟩) (own_w hw 14 rfl) (ty := (.object cEC)) (by decide) rfl rfl (g := (mkF m 339 #[.val (.ref a1), .val (.ref qn), .val (.ref aT), .val (.int p3), .val (.int (2 : Int32)), .val (.ref idn), .val (.int (0 : Int32))] [(.ref aT), (.ref a1)])) rfl rfl (hb hby d_prog_56_1_339)
  have Fw39 := ((F2.keep K31 nin0).other W36 (Or.inr (slot_ne (Or.inr (own_w hw 80 rfl)) (Or.inr (own_w hw 78 rfl)) (by decide) (t := (.object cEC)) (t' := (.object cQC)) (by decide) (by decide)))).same W39
  have N39 := Fr.snoc X39 N36 g1
  have O39 : Old Z n0 h39 := O36.wr W39 g1
  have pre_40 : ∀ t, Sp p e below T39 (mkF m 342 #[.val (.ref a1), .val (.ref qn), .val (.ref aT), .val (.int p3), .val (.int (2 : Int32)), .val (.ref idn), .val (.int (0 : Int32))] []) t → Steps p.tables e below E0 t := fun t k => pre_38 t (st39 t k)
  have pre_41 : ∀ t, Sp p e below T39 (mkF m 344 #[.val (.ref a1), .val (.ref qn), .val (.ref aT), .val (.int p3), .val (.int (2 : Int32)), .val (.ref idn), .val (.int (0 : Int32))] [(.int p3), (.ref a1)]) t → Steps p.tables e below E0 t := by
    intro t k
    refine pre_40 t ?_
    show Sp p e below T39 (mkF m 342 #[.val (.ref a1), .val (.ref qn), .val (.ref aT), .val (.int p3), .val (.int (2 : Int32)), .val (.ref idn), .val (.int (0 : Int32))] []) _
    refine XS.aloadN X39.here hx rfl (hb hby d_prog_56_1_342) rfl rfl ?_
    refine XS.iloadN X39.here hx rfl (hb hby d_prog_56_1_343) rfl ?_
    exact k
  obtain ⟨T42, h42, X42, e42, W42, st42⟩ := putF X39 hx hZ hown (host := "") (Or.inl (own_w hw 81 rfl)) Via.refl e39 (((F3.keep K31 nin0).other W36 (Or.inr (slot_ne (Or.inr (own_w hw 82 rfl)) (Or.inr (own_w hw 78 rfl)) (by decide) (t := .int) (t' := (.object cQC)) (by decide) (by decide)))).other W39 (Or.inr (slot_ne (Or.inr (own_w hw 82 rfl)) (Or.inr (own_w hw 80 rfl)) (by decide) (t := .int) (t' := (.object cEC)) (by decide) (by decide)))) (((E1.keep K31).wr W36).wr W39) (Or.inr ⟨(own_w hw 82 rfl), rfl, hnm⟩) (own_w hw 14 rfl) (ty := .int) (by decide) rfl rfl (g := (mkF m 344 #[.val (.ref a1), .val (.ref qn), .val (.ref aT), .val (.int p3), .val (.int (2 : Int32)), .val (.ref idn), .val (.int (0 : Int32))] [(.int p3), (.ref a1)])) rfl rfl (hb hby d_prog_56_1_344)
  have Fw42 := (((F3.keep K31 nin0).other W36 (Or.inr (slot_ne (Or.inr (own_w hw 82 rfl)) (Or.inr (own_w hw 78 rfl)) (by decide) (t := .int) (t' := (.object cQC)) (by decide) (by decide)))).other W39 (Or.inr (slot_ne (Or.inr (own_w hw 82 rfl)) (Or.inr (own_w hw 80 rfl)) (by decide) (t := .int) (t' := (.object cEC)) (by decide) (by decide)))).same W42
  have N42 := Fr.snoc X42 N39 g1
  have O42 : Old Z n0 h42 := O39.wr W42 g1
  have pre_43 : ∀ t, Sp p e below T42 (mkF m 347 #[.val (.ref a1), .val (.ref qn), .val (.ref aT), .val (.int p3), .val (.int (2 : Int32)), .val (.ref idn), .val (.int (0 : Int32))] []) t → Steps p.tables e below E0 t := fun t k => pre_41 t (st42 t k)
  have pre_44 : ∀ t, Sp p e below T42 (mkF m 350 #[.val (.ref a1), .val (.ref qn), .val (.ref aT), .val (.int p3), .val (.int (2 : Int32)), .val (.ref idn), .val (.int (0 : Int32))] [(.int (2 : Int32)), (.ref a1)]) t → Steps p.tables e below E0 t := by
    intro t k
    refine pre_43 t ?_
    show Sp p e below T42 (mkF m 347 #[.val (.ref a1), .val (.ref qn), .val (.ref aT), .val (.int p3), .val (.int (2 : Int32)), .val (.ref idn), .val (.int (0 : Int32))] []) _
    refine XS.aloadN X42.here hx rfl (hb hby d_prog_56_1_347) rfl rfl ?_
    show Sp p e below T42 (mkF m 348 #[.val (.ref a1), .val (.ref qn), .val (.ref aT), .val (.int p3), .val (.int (2 : Int32)), .val (.ref idn), .val (.int (0 : Int32))] [(.ref a1)]) _
    refine XS.iload X42.here hx rfl (hb hby d_prog_56_1_348) rfl ?_
    exact k
  obtain ⟨T45, h45, X45, e45, W45, st45⟩ := putF X42 hx hZ hown (host := "") (Or.inl (own_w hw 83 rfl)) Via.refl e42 ((((F4.keep K31 nin0).other W36 (Or.inr (slot_ne (Or.inr (own_w hw 84 rfl)) (Or.inr (own_w hw 78 rfl)) (by decide) (t := .int) (t' := (.object cQC)) (by decide) (by decide)))).other W39 (Or.inr (slot_ne (Or.inr (own_w hw 84 rfl)) (Or.inr (own_w hw 80 rfl)) (by decide) (t := .int) (t' := (.object cEC)) (by decide) (by decide)))).other W42 (Or.inr (slot_ne (Or.inr (own_w hw 84 rfl)) (Or.inr (own_w hw 82 rfl)) (by decide) (t := .int) (t' := .int) (by decide) (by decide)))) ((((E1.keep K31).wr W36).wr W39).wr W42) (Or.inr ⟨(own_w hw 84 rfl), rfl, hnm⟩) (own_w hw 14 rfl) (ty := .int) (by decide) rfl rfl (g := (mkF m 350 #[.val (.ref a1), .val (.ref qn), .val (.ref aT), .val (.int p3), .val (.int (2 : Int32)), .val (.ref idn), .val (.int (0 : Int32))] [(.int (2 : Int32)), (.ref a1)])) rfl rfl (hb hby d_prog_56_1_350)
  have Fw45 := ((((F4.keep K31 nin0).other W36 (Or.inr (slot_ne (Or.inr (own_w hw 84 rfl)) (Or.inr (own_w hw 78 rfl)) (by decide) (t := .int) (t' := (.object cQC)) (by decide) (by decide)))).other W39 (Or.inr (slot_ne (Or.inr (own_w hw 84 rfl)) (Or.inr (own_w hw 80 rfl)) (by decide) (t := .int) (t' := (.object cEC)) (by decide) (by decide)))).other W42 (Or.inr (slot_ne (Or.inr (own_w hw 84 rfl)) (Or.inr (own_w hw 82 rfl)) (by decide) (t := .int) (t' := .int) (by decide) (by decide)))).same W45
  have N45 := Fr.snoc X45 N42 g1
  have O45 : Old Z n0 h45 := O42.wr W45 g1
  have pre_46 : ∀ t, Sp p e below T45 (mkF m 353 #[.val (.ref a1), .val (.ref qn), .val (.ref aT), .val (.int p3), .val (.int (2 : Int32)), .val (.ref idn), .val (.int (0 : Int32))] []) t → Steps p.tables e below E0 t := fun t k => pre_44 t (st45 t k)
  obtain ⟨fs, hr, hrun, hended, hW, hsame⟩ := X45.leave (v := none) (fun _ => rfl)
  refine ⟨_, _, pre_46 _ ?_, hrun, hended, _, _, rfl, ?_, ⟨_, rfl⟩, hW, hsame.mono (by decide) (by decide)⟩
  · show Sp p e below T45 (mkF m 353 #[.val (.ref a1), .val (.ref qn), .val (.ref aT), .val (.int p3), .val (.int (2 : Int32)), .val (.ref idn), .val (.int (0 : Int32))] []) _
    exact X45.returnOut hx Bd.returns (hb hby d_prog_56_1_353) hr
  · show Q_si Z _ _ _ _ _ h0 n0 _ T45.heap _
    rw [e45]
    exact ⟨rfl, N45, ((((((Keep.refl h0 [a1]).trans K31 all0).wr W36 (Or.inl (List.mem_of_getElem? (i := 0) rfl))).wr W39 (Or.inl (List.mem_of_getElem? (i := 0) rfl))).wr W42 (Or.inl (List.mem_of_getElem? (i := 0) rfl))).wr W45 (Or.inl (List.mem_of_getElem? (i := 0) rfl))), (((Fw36.other W39 (Or.inr (slot_ne (Or.inr (own_w hw 78 rfl)) (Or.inr (own_w hw 80 rfl)) (by decide) (t := (.object cQC)) (t' := (.object cEC)) (by decide) (by decide)))).other W42 (Or.inr (slot_ne (Or.inr (own_w hw 78 rfl)) (Or.inr (own_w hw 82 rfl)) (by decide) (t := (.object cQC)) (t' := .int) (by decide) (by decide)))).other W45 (Or.inr (slot_ne (Or.inr (own_w hw 78 rfl)) (Or.inr (own_w hw 84 rfl)) (by decide) (t := (.object cQC)) (t' := .int) (by decide) (by decide)))), ((Fw39.other W42 (Or.inr (slot_ne (Or.inr (own_w hw 80 rfl)) (Or.inr (own_w hw 82 rfl)) (by decide) (t := (.object cEC)) (t' := .int) (by decide) (by decide)))).other W45 (Or.inr (slot_ne (Or.inr (own_w hw 80 rfl)) (Or.inr (own_w hw 84 rfl)) (by decide) (t := (.object cEC)) (t' := .int) (by decide) (by decide)))), (Fw42.other W45 (Or.inr (slot_ne (Or.inr (own_w hw 82 rfl)) (Or.inr (own_w hw 84 rfl)) (by decide) (t := .int) (t' := .int) (by decide) (by decide)))), Fw45⟩
theorem d_prog_56_1_20 : decode prog_56_method_1_code 20 = .ok (.iconst 1, 1) := by decide +kernel
theorem d_prog_56_1_21 : decode prog_56_method_1_code 21 = .ok (.goto 4, 3) := by decide +kernel
theorem d_prog_56_1_32 : decode prog_56_method_1_code 32 = .ok (.iload_n 3, 1) := by decide +kernel
theorem d_prog_56_1_33 : decode prog_56_method_1_code 33 = .ok (.ifCond .ne 8, 3) := by decide +kernel
theorem d_prog_56_1_36 : decode prog_56_method_1_code 36 = .ok (.iload 4, 2) := by decide +kernel
theorem d_prog_56_1_38 : decode prog_56_method_1_code 38 = .ok (.ifCond .eq 24, 3) := by decide +kernel
theorem d_prog_56_1_196 : decode prog_56_method_1_code 196 = .ok (.goto 136, 3) := by decide +kernel
theorem pn_si5 : plainName cSK = true := by first | (simp [plainName, overriddenIn]; done) | decide +kernel
theorem pd_si5_0 : parseMethodDescriptor "()V" = some ⟨[], none⟩ := by decide +kernel
theorem pd_si5_1 : parseMethodDescriptor "()Ljava/lang/String;" = some ⟨[], some (.object "java/lang/String")⟩ := by decide +kernel
theorem pd_si5_2 : parseMethodDescriptor dOT = some ⟨[], some (.object cOC)⟩ := by decide +kernel
theorem pd_si5_3 : parseMethodDescriptor "()Z" = some ⟨[], some .boolean⟩ := by decide +kernel
theorem pd_si5_4 : parseMethodDescriptor "()I" = some ⟨[], some .int⟩ := by decide +kernel
theorem ef_si5 (m : MethodId) (a1 : Addr) (qn : Addr) (aT : Addr) : entryFrame m #[(.ref a1), (.ref qn), (.ref aT), (.int (0 : Int32)), (.int (0 : Int32))] 7 = (mkF m 0 #[.val (.ref a1), .val (.ref qn), .val (.ref aT), .val (.int (0 : Int32)), .val (.int (0 : Int32)), .unset, .unset] []) := by first | (simp [entryFrame, mkF, argsToLocals, Value.category]; done) | rfl
set_option maxRecDepth 65536 in
set_option maxHeartbeats 40000000 in
theorem rm_si5 (l : Launch) (Z : State) (a0 : Array Value) (hw : ∀ d ∈ tables_1, d.before a0 Z = true) (ws : List Jvm.Cond) (a1 : Addr) (qn : Addr) (aT : Addr) (u1 u2 u3 u4 : Value) (idn : Addr) (aX aS : Addr) (kS : ClassId) (h0 : Heap) (n0 : Nat) (O0 : Old Z n0 h0) (E1 : Exa Z h0 a1 cSK) (F1 : Fld Z h0 a1 cSK "quantity" lQC u1) (F2 : Fld Z h0 a1 cSK "end" lEC u2) (F3 : Fld Z h0 a1 cSK "pair" "I" u3) (F4 : Fld Z h0 a1 cSK "other" "I" u4) (g1 : n0 ≤ a1) (HQ : own_Qf Z qn idn aX "DELAY_SKEW" (0 : Int32) (11 : Int32)) (HO : own_Of Z aX (5 : Int32)) (SX : Sta Z Z.heap cOC "ACROSS" lOC (.ref aX)) (ST : Sta Z Z.heap cEC "THROUGH" lEC (.ref aT)) (SS : Sta Z Z.heap cS1 nSM "[I" (.ref aS)) (VS : Arv Z Z.heap aS kS .int (6 : Int32) [(.int (2 : Int32)), (.int (4 : Int32)), (.int (3 : Int32)), (.int (5 : Int32)), (.int (6 : Int32)), (.int (1 : Int32))] (.int (0 : Int32))) :
    MetFree l (⟨cSK, "<init>", dSI⟩ : MethodName) (head1 (Jvm.Cond.code (⟨cSK, "<init>", dSI⟩ : MethodName) prog_56_method_1_code 7 none :: ws) ({ frames := 4, cells := 2, slots := 3, locals := 54 } : Room)) (fun a U => a = #[(.ref a1), (.ref qn), (.ref aT), (.int (0 : Int32)), (.int (0 : Int32))] ∧ Z.Warmed39 U.vm ∧ U.heap = h0) (fun _ _ _ _ _ => True) (fun _ U o U' => ∃ v L, o = .returned v ∧ Q_si Z a1 qn aT (0 : Int32) (0 : Int32) h0 n0 v U'.heap L ∧ FrameEnd U o U' L ({ frames := 4, cells := 2, slots := 3, locals := 54 } : Room).cells ({ frames := 4, cells := 2, slots := 3, locals := 54 } : Room).slots) := by
  refine MetFree.of_bodySF (plainFor_of_name pn_si5) hisR ?_
  intro p e s m args below meth c s₁ Bd hml0 hP hK
  obtain ⟨rfl, hZ, hh⟩ := hP
  have hx := Bd.exec
  have hby := Bd.bytes
  have hml : c.maxLocals = 7 := hml0
  have hown : s.vm.findClass cSK = some m.cls := findClass_of_methodNamed Bd.named
  have hnm := (name_of_methodNamed Bd.named Bd.method).1
  have X0 : Stand p l e ({ frames := 4, cells := 2, slots := 3, locals := 54 } : Room) s m #[(.ref a1), (.ref qn), (.ref aT), (.int (0 : Int32)), (.int (0 : Int32))] below meth c s₁ [] 0 0 := Stand.of_body Bd
  have e0 : s₁.heap = h0 := by rw [← hh, Bd.state]; rfl
  have N0 := Fr.nil n0
  have pre0 : ∀ t, Steps p.tables e below (s₁.setTop (mkF m 0 #[.val (.ref a1), .val (.ref qn), .val (.ref aT), .val (.int (0 : Int32)), .val (.int (0 : Int32)), .unset, .unset] [])) t → Steps p.tables e below (s₁.setTop (entryFrame m #[(.ref a1), (.ref qn), (.ref aT), (.int (0 : Int32)), (.int (0 : Int32))] 7)) t := fun t k => castTop (ef_si5 m a1 qn aT) k
  generalize s₁.setTop (entryFrame m #[(.ref a1), (.ref qn), (.ref aT), (.int (0 : Int32)), (.int (0 : Int32))] 7) = E0 at pre0 ⊢
  have pre_1 : ∀ t, Sp p e below s₁ (mkF m 1 #[.val (.ref a1), .val (.ref qn), .val (.ref aT), .val (.int (0 : Int32)), .val (.int (0 : Int32)), .unset, .unset] [(.ref a1)]) t → Steps p.tables e below E0 t := by
    intro t k
    refine pre0 t ?_
    show Sp p e below s₁ (mkF m 0 #[.val (.ref a1), .val (.ref qn), .val (.ref aT), .val (.int (0 : Int32)), .val (.int (0 : Int32)), .unset, .unset] []) _
    refine XS.aloadN X0.here hx rfl (hb hby d_prog_56_1_0) rfl rfl ?_
    exact k
  obtain ⟨_, _, ⟨T2, L2, k2, n2⟩, -, X2, ⟨Lc2, hQ2, l2, y2, z2⟩, st2⟩ := X0.specialBack hx (y := (⟨"java/lang/Record", "<init>", "()V"⟩ : MethodName)) rfl hown (mvT hZ (own_w hw 31 rfl)) (mvT hZ (own_w hw 32 rfl)) (mvT hZ (own_w hw 35 rfl)) (by decide) (backOf (W := 0) (rm_rec l Z a0 hw [] a1 h0 n0 O0) hZ (own_w hw 35 rfl) (own_w hw 34 rfl) (by decide) (by decide)) (g := (mkF m 1 #[.val (.ref a1), .val (.ref qn), .val (.ref aT), .val (.int (0 : Int32)), .val (.int (0 : Int32)), .unset, .unset] [(.ref a1)])) rfl (by rw [hml]; rfl) (Steps.refl _) (a := a1) (argsL := []) (rest := []) (lenOf pd_si5_0 rfl) rfl (by show 2 * 0 + _ ≤ _; exact Nat.le_of_eq rfl) (hb hby d_prog_56_1_1) (fun _ _ => ⟨rfl, e0, (by decide : 0 + 0 ≤ _), (by decide : 0 + 0 ≤ _)⟩)
  dsimp only [Pt.U, Pt.locs, Pt.cells, Pt.slots] at X2 l2 y2 z2 st2 hQ2
  subst l2 y2 z2
  obtain ⟨rfl, N2q, e2⟩ := hQ2
  have N2 := Fr.app N0 N2q
  have pre_3 : ∀ t, Sp p e below T2 (mkF m 4 #[.val (.ref a1), .val (.ref qn), .val (.ref aT), .val (.int (0 : Int32)), .val (.int (0 : Int32)), .unset, .unset] []) t → Steps p.tables e below E0 t := fun t k => pre_1 t (st2.trans k)
  have pre_4 : ∀ t, Sp p e below T2 (mkF m 5 #[.val (.ref a1), .val (.ref qn), .val (.ref aT), .val (.int (0 : Int32)), .val (.int (0 : Int32)), .unset, .unset] [(.ref qn)]) t → Steps p.tables e below E0 t := by
    intro t k
    refine pre_3 t ?_
    show Sp p e below T2 (mkF m 4 #[.val (.ref a1), .val (.ref qn), .val (.ref aT), .val (.int (0 : Int32)), .val (.int (0 : Int32)), .unset, .unset] []) _
    refine XS.aloadN X2.here hx rfl (hb hby d_prog_56_1_4) rfl rfl ?_
    exact k
  obtain ⟨cq5, kq5, qa5, qb5, qc5⟩ := isOf hZ e2 (HQ.2.1.ext O0.2)
  obtain ⟨_, _, ⟨T5, L5, k5, n5⟩, -, X5, ⟨Lc5, hQ5, l5, y5, z5⟩, st5⟩ := X2.virtualBack hx (y := (⟨cQC, "identifier", "()Ljava/lang/String;"⟩ : MethodName)) (z := (⟨cQC, "identifier", "()Ljava/lang/String;"⟩ : MethodName)) hown (mvT hZ (own_w hw 39 rfl)) (mvT hZ (own_w hw 40 rfl)) (notFace_of_selects (args := #[]) (mvT hZ (own_w hw 42 rfl))) (mvT hZ (own_w hw 42 rfl)) (mvT hZ (own_w hw 41 rfl)) (by decide) (backOf (W := 0) (rm_idm l Z a0 hw [] qn idn h0 n0 O0 (HQ.2.2.1.ext O0.2)) hZ (own_w hw 43 rfl) (own_w hw 20 rfl) (by decide) (by decide)) qa5 qc5 (g := (mkF m 5 #[.val (.ref a1), .val (.ref qn), .val (.ref aT), .val (.int (0 : Int32)), .val (.int (0 : Int32)), .unset, .unset] [(.ref qn)])) rfl (by rw [hml]; rfl) (Steps.refl _) (argsL := []) (rest := []) (lenOf pd_si5_1 rfl) rfl (by show 2 * 0 + _ ≤ _; exact Nat.le_of_eq rfl) (hb hby d_prog_56_1_5) (fun _ _ => ⟨rfl, e2, (by decide : 0 + 0 ≤ _), (by decide : 0 + 0 ≤ _)⟩)
  dsimp only [Pt.U, Pt.locs, Pt.cells, Pt.slots] at X5 l5 y5 z5 st5 hQ5
  subst l5 y5 z5
  obtain ⟨rfl, N5q, e5⟩ := hQ5
  have N5 := Fr.app N2 N5q
  have pre_6 : ∀ t, Sp p e below T5 (mkF m 8 #[.val (.ref a1), .val (.ref qn), .val (.ref aT), .val (.int (0 : Int32)), .val (.int (0 : Int32)), .unset, .unset] [(.ref idn)]) t → Steps p.tables e below E0 t := fun t k => pre_4 t (st5.trans k)
  have pre_7 : ∀ t, Sp p e below T5 (mkF m 11 #[.val (.ref a1), .val (.ref qn), .val (.ref aT), .val (.int (0 : Int32)), .val (.int (0 : Int32)), .val (.ref idn), .unset] [(.ref qn)]) t → Steps p.tables e below E0 t := by
    intro t k
    refine pre_6 t ?_
    show Sp p e below T5 (mkF m 8 #[.val (.ref a1), .val (.ref qn), .val (.ref aT), .val (.int (0 : Int32)), .val (.int (0 : Int32)), .unset, .unset] [(.ref idn)]) _
    refine XS.astore X5.here hx rfl (hb hby d_prog_56_1_8) rfl rfl (l' := #[.val (.ref a1), .val (.ref qn), .val (.ref aT), .val (.int (0 : Int32)), .val (.int (0 : Int32)), .val (.ref idn), .unset]) rfl ?_
    refine XS.aloadN X5.here hx rfl (hb hby d_prog_56_1_10) rfl rfl ?_
    exact k
  obtain ⟨cq8, kq8, qa8, qb8, qc8⟩ := isOf hZ e5 (HQ.2.1.ext O0.2)
  obtain ⟨_, _, ⟨T8, L8, k8, n8⟩, -, X8, ⟨Lc8, hQ8, l8, y8, z8⟩, st8⟩ := X5.virtualBack hx (y := (⟨cQC, "others", dOT⟩ : MethodName)) (z := (⟨cQC, "others", dOT⟩ : MethodName)) hown (mvT hZ (own_w hw 46 rfl)) (mvT hZ (own_w hw 47 rfl)) (notFace_of_selects (args := #[]) (mvT hZ (own_w hw 49 rfl))) (mvT hZ (own_w hw 49 rfl)) (mvT hZ (own_w hw 48 rfl)) (by decide) (backOf (W := 0) (rm_otm l Z a0 hw [] qn aX h0 n0 O0 (HQ.2.2.2.1.ext O0.2)) hZ (own_w hw 50 rfl) (own_w hw 20 rfl) (by decide) (by decide)) qa8 qc8 (g := (mkF m 11 #[.val (.ref a1), .val (.ref qn), .val (.ref aT), .val (.int (0 : Int32)), .val (.int (0 : Int32)), .val (.ref idn), .unset] [(.ref qn)])) rfl (by rw [hml]; rfl) (Steps.refl _) (argsL := []) (rest := []) (lenOf pd_si5_2 rfl) rfl (by show 2 * 0 + _ ≤ _; exact Nat.le_of_eq rfl) (hb hby d_prog_56_1_11) (fun _ _ => ⟨rfl, e5, (by decide : 0 + 0 ≤ _), (by decide : 0 + 0 ≤ _)⟩)
  dsimp only [Pt.U, Pt.locs, Pt.cells, Pt.slots] at X8 l8 y8 z8 st8 hQ8
  subst l8 y8 z8
  obtain ⟨rfl, N8q, e8⟩ := hQ8
  have N8 := Fr.app N5 N8q
  have pre_9 : ∀ t, Sp p e below T8 (mkF m 14 #[.val (.ref a1), .val (.ref qn), .val (.ref aT), .val (.int (0 : Int32)), .val (.int (0 : Int32)), .val (.ref idn), .unset] [(.ref aX)]) t → Steps p.tables e below E0 t := fun t k => pre_7 t (st8.trans k)
  obtain ⟨T10, X10, e10, st10⟩ := getS X8 hx hZ hown (host := "") (own_w hw 55 rfl) Via.refl e8 (SX.ext O0.2) (g := (mkF m 14 #[.val (.ref a1), .val (.ref qn), .val (.ref aT), .val (.int (0 : Int32)), .val (.int (0 : Int32)), .val (.ref idn), .unset] [(.ref aX)])) rfl (hb hby d_prog_56_1_14)
  have pre_11 : ∀ t, Sp p e below T10 (mkF m 17 #[.val (.ref a1), .val (.ref qn), .val (.ref aT), .val (.int (0 : Int32)), .val (.int (0 : Int32)), .val (.ref idn), .unset] [(.ref aX), (.ref aX)]) t → Steps p.tables e below E0 t := fun t k => pre_9 t (st10 t k)
  have pre_12 : ∀ t, Sp p e below T10 (mkF m 87 #[.val (.ref a1), .val (.ref qn), .val (.ref aT), .val (.int (0 : Int32)), .val (.int (0 : Int32)), .val (.ref idn), .val (.int (1 : Int32))] [(.ref qn)]) t → Steps p.tables e below E0 t := by
    intro t k
    refine pre_11 t ?_
    show Sp p e below T10 (mkF m 17 #[.val (.ref a1), .val (.ref qn), .val (.ref aT), .val (.int (0 : Int32)), .val (.int (0 : Int32)), .val (.ref idn), .unset] [(.ref aX), (.ref aX)]) _
    refine XT.acmpNo X10.here hx rfl (hb hby d_prog_56_1_17) rfl rfl rfl (XT.aa_ne_f rfl) ?_
    refine XS.iconst X10.here hx rfl (hb hby d_prog_56_1_20) ?_
    refine XS.goto X10.here hx rfl (pc0 := 21) (pc' := 25) rfl (hb hby d_prog_56_1_21) (by decide) (by decide) ?_
    refine XS.istore X10.here hx rfl (hb hby d_prog_56_1_25) rfl (l' := #[.val (.ref a1), .val (.ref qn), .val (.ref aT), .val (.int (0 : Int32)), .val (.int (0 : Int32)), .val (.ref idn), .val (.int (1 : Int32))]) rfl ?_
    show Sp p e below T10 (mkF m 27 #[.val (.ref a1), .val (.ref qn), .val (.ref aT), .val (.int (0 : Int32)), .val (.int (0 : Int32)), .val (.ref idn), .val (.int (1 : Int32))] []) _
    refine XS.iload X10.here hx rfl (hb hby d_prog_56_1_27) rfl ?_
    refine XS.ifNo X10.here hx rfl (hb hby d_prog_56_1_29) rfl (XT.i0_eq_f (by decide)) ?_
    refine XS.iloadN X10.here hx rfl (hb hby d_prog_56_1_32) rfl ?_
    refine XS.ifNo X10.here hx rfl (hb hby d_prog_56_1_33) rfl (XT.i0_ne_f (by decide)) ?_
    refine XS.iload X10.here hx rfl (hb hby d_prog_56_1_36) rfl ?_
    refine XS.ifYes X10.here hx rfl (pc0 := 38) (pc' := 62) rfl (hb hby d_prog_56_1_38) rfl (XT.i0_eq_t (by decide)) (by decide) (by decide) ?_
    refine XS.iload X10.here hx rfl (hb hby d_prog_56_1_62) rfl ?_
    refine XS.ifYes X10.here hx rfl (pc0 := 64) (pc' := 86) rfl (hb hby d_prog_56_1_64) rfl (XT.i0_ne_t (by decide)) (by decide) (by decide) ?_
    show Sp p e below T10 (mkF m 86 #[.val (.ref a1), .val (.ref qn), .val (.ref aT), .val (.int (0 : Int32)), .val (.int (0 : Int32)), .val (.ref idn), .val (.int (1 : Int32))] []) _
    refine XS.aloadN X10.here hx rfl (hb hby d_prog_56_1_86) rfl rfl ?_
    exact k
  obtain ⟨cq13, kq13, qa13, qb13, qc13⟩ := isOf hZ e10 (HQ.2.1.ext O0.2)
  obtain ⟨_, _, ⟨T13, L13, k13, n13⟩, -, X13, ⟨Lc13, hQ13, l13, y13, z13⟩, st13⟩ := X10.virtualBack hx (y := (⟨cQC, "atAnEnd", "()Z"⟩ : MethodName)) (z := (⟨cQC, "atAnEnd", "()Z"⟩ : MethodName)) hown (mvT hZ (own_w hw 57 rfl)) (mvT hZ (own_w hw 58 rfl)) (notFace_of_selects (args := #[]) (mvT hZ (own_w hw 60 rfl))) (mvT hZ (own_w hw 60 rfl)) (mvT hZ (own_w hw 59 rfl)) (by decide) (backOf (W := 0) (rm_atm0 l Z a0 hw [] qn  h0 n0 O0 (HQ.2.2.2.2.1.ext O0.2)) hZ (own_w hw 61 rfl) (own_w hw 20 rfl) (by decide) (by decide)) qa13 qc13 (g := (mkF m 87 #[.val (.ref a1), .val (.ref qn), .val (.ref aT), .val (.int (0 : Int32)), .val (.int (0 : Int32)), .val (.ref idn), .val (.int (1 : Int32))] [(.ref qn)])) rfl (by rw [hml]; rfl) (Steps.refl _) (argsL := []) (rest := []) (lenOf pd_si5_3 rfl) rfl (by show 2 * 0 + _ ≤ _; exact Nat.le_of_eq rfl) (hb hby d_prog_56_1_87) (fun _ _ => ⟨rfl, e10, (by decide : 0 + 0 ≤ _), (by decide : 0 + 0 ≤ _)⟩)
  dsimp only [Pt.U, Pt.locs, Pt.cells, Pt.slots] at X13 l13 y13 z13 st13 hQ13
  subst l13 y13 z13
  obtain ⟨rfl, N13q, e13⟩ := hQ13
  have N13 := Fr.app N8 N13q
  have pre_14 : ∀ t, Sp p e below T13 (mkF m 90 #[.val (.ref a1), .val (.ref qn), .val (.ref aT), .val (.int (0 : Int32)), .val (.int (0 : Int32)), .val (.ref idn), .val (.int (1 : Int32))] [(.int (0 : Int32))]) t → Steps p.tables e below E0 t := fun t k => pre_12 t (st13.trans k)
  have pre_15 : ∀ t, Sp p e below T13 (mkF m 116 #[.val (.ref a1), .val (.ref qn), .val (.ref aT), .val (.int (0 : Int32)), .val (.int (0 : Int32)), .val (.ref idn), .val (.int (1 : Int32))] [(.ref qn)]) t → Steps p.tables e below E0 t := by
    intro t k
    refine pre_14 t ?_
    show Sp p e below T13 (mkF m 90 #[.val (.ref a1), .val (.ref qn), .val (.ref aT), .val (.int (0 : Int32)), .val (.int (0 : Int32)), .val (.ref idn), .val (.int (1 : Int32))] [(.int (0 : Int32))]) _
    refine XS.ifYes X13.here hx rfl (pc0 := 90) (pc' := 115) rfl (hb hby d_prog_56_1_90) rfl (XT.i0_eq_t (by decide)) (by decide) (by decide) ?_
    refine XS.aloadN X13.here hx rfl (hb hby d_prog_56_1_115) rfl rfl ?_
    exact k
  obtain ⟨cq16, kq16, qa16, qb16, qc16⟩ := isOf hZ e13 (HQ.2.1.ext O0.2)
  obtain ⟨_, _, ⟨T16, L16, k16, n16⟩, -, X16, ⟨Lc16, hQ16, l16, y16, z16⟩, st16⟩ := X13.virtualBack hx (y := (⟨cQC, "atAnEnd", "()Z"⟩ : MethodName)) (z := (⟨cQC, "atAnEnd", "()Z"⟩ : MethodName)) hown (mvT hZ (own_w hw 57 rfl)) (mvT hZ (own_w hw 58 rfl)) (notFace_of_selects (args := #[]) (mvT hZ (own_w hw 60 rfl))) (mvT hZ (own_w hw 60 rfl)) (mvT hZ (own_w hw 59 rfl)) (by decide) (backOf (W := 0) (rm_atm0 l Z a0 hw [] qn  h0 n0 O0 (HQ.2.2.2.2.1.ext O0.2)) hZ (own_w hw 61 rfl) (own_w hw 20 rfl) (by decide) (by decide)) qa16 qc16 (g := (mkF m 116 #[.val (.ref a1), .val (.ref qn), .val (.ref aT), .val (.int (0 : Int32)), .val (.int (0 : Int32)), .val (.ref idn), .val (.int (1 : Int32))] [(.ref qn)])) rfl (by rw [hml]; rfl) (Steps.refl _) (argsL := []) (rest := []) (lenOf pd_si5_3 rfl) rfl (by show 2 * 0 + _ ≤ _; exact Nat.le_of_eq rfl) (hb hby d_prog_56_1_116) (fun _ _ => ⟨rfl, e13, (by decide : 0 + 0 ≤ _), (by decide : 0 + 0 ≤ _)⟩)
  dsimp only [Pt.U, Pt.locs, Pt.cells, Pt.slots] at X16 l16 y16 z16 st16 hQ16
  subst l16 y16 z16
  obtain ⟨rfl, N16q, e16⟩ := hQ16
  have N16 := Fr.app N13 N16q
  have pre_17 : ∀ t, Sp p e below T16 (mkF m 119 #[.val (.ref a1), .val (.ref qn), .val (.ref aT), .val (.int (0 : Int32)), .val (.int (0 : Int32)), .val (.ref idn), .val (.int (1 : Int32))] [(.int (0 : Int32))]) t → Steps p.tables e below E0 t := fun t k => pre_15 t (st16.trans k)
  have pre_18 : ∀ t, Sp p e below T16 (mkF m 123 #[.val (.ref a1), .val (.ref qn), .val (.ref aT), .val (.int (0 : Int32)), .val (.int (0 : Int32)), .val (.ref idn), .val (.int (1 : Int32))] [(.ref aT)]) t → Steps p.tables e below E0 t := by
    intro t k
    refine pre_17 t ?_
    show Sp p e below T16 (mkF m 119 #[.val (.ref a1), .val (.ref qn), .val (.ref aT), .val (.int (0 : Int32)), .val (.int (0 : Int32)), .val (.ref idn), .val (.int (1 : Int32))] [(.int (0 : Int32))]) _
    refine XS.ifNo X16.here hx rfl (hb hby d_prog_56_1_119) rfl (XT.i0_ne_f (by decide)) ?_
    refine XS.aloadN X16.here hx rfl (hb hby d_prog_56_1_122) rfl rfl ?_
    exact k
  obtain ⟨T19, X19, e19, st19⟩ := getS X16 hx hZ hown (host := "") (own_w hw 64 rfl) Via.refl e16 (ST.ext O0.2) (g := (mkF m 123 #[.val (.ref a1), .val (.ref qn), .val (.ref aT), .val (.int (0 : Int32)), .val (.int (0 : Int32)), .val (.ref idn), .val (.int (1 : Int32))] [(.ref aT)])) rfl (hb hby d_prog_56_1_123)
  have pre_20 : ∀ t, Sp p e below T19 (mkF m 126 #[.val (.ref a1), .val (.ref qn), .val (.ref aT), .val (.int (0 : Int32)), .val (.int (0 : Int32)), .val (.ref idn), .val (.int (1 : Int32))] [(.ref aT), (.ref aT)]) t → Steps p.tables e below E0 t := fun t k => pre_18 t (st19 t k)
  have pre_21 : ∀ t, Sp p e below T19 (mkF m 148 #[.val (.ref a1), .val (.ref qn), .val (.ref aT), .val (.int (0 : Int32)), .val (.int (0 : Int32)), .val (.ref idn), .val (.int (1 : Int32))] []) t → Steps p.tables e below E0 t := by
    intro t k
    refine pre_20 t ?_
    show Sp p e below T19 (mkF m 126 #[.val (.ref a1), .val (.ref qn), .val (.ref aT), .val (.int (0 : Int32)), .val (.int (0 : Int32)), .val (.ref idn), .val (.int (1 : Int32))] [(.ref aT), (.ref aT)]) _
    refine XT.acmpYes X19.here hx rfl (pc0 := 126) (pc' := 148) rfl (hb hby d_prog_56_1_126) rfl rfl rfl (XT.aa_eq_t rfl) (by decide) (by decide) ?_
    exact k
  obtain ⟨T22, X22, e22, st22⟩ := getS X19 hx hZ hown (host := "") (own_w hw 65 rfl) Via.refl e19 (SS.ext O0.2) (g := (mkF m 148 #[.val (.ref a1), .val (.ref qn), .val (.ref aT), .val (.int (0 : Int32)), .val (.int (0 : Int32)), .val (.ref idn), .val (.int (1 : Int32))] [])) rfl (hb hby d_prog_56_1_148)
  have pre_23 : ∀ t, Sp p e below T22 (mkF m 151 #[.val (.ref a1), .val (.ref qn), .val (.ref aT), .val (.int (0 : Int32)), .val (.int (0 : Int32)), .val (.ref idn), .val (.int (1 : Int32))] [(.ref aS)]) t → Steps p.tables e below E0 t := fun t k => pre_21 t (st22 t k)
  have pre_24 : ∀ t, Sp p e below T22 (mkF m 152 #[.val (.ref a1), .val (.ref qn), .val (.ref aT), .val (.int (0 : Int32)), .val (.int (0 : Int32)), .val (.ref idn), .val (.int (1 : Int32))] [(.ref qn), (.ref aS)]) t → Steps p.tables e below E0 t := by
    intro t k
    refine pre_23 t ?_
    show Sp p e below T22 (mkF m 151 #[.val (.ref a1), .val (.ref qn), .val (.ref aT), .val (.int (0 : Int32)), .val (.int (0 : Int32)), .val (.ref idn), .val (.int (1 : Int32))] [(.ref aS)]) _
    refine XS.aloadN X22.here hx rfl (hb hby d_prog_56_1_151) rfl rfl ?_
    exact k
  obtain ⟨cq25, kq25, qa25, qb25, qc25⟩ := isOf hZ e22 (HQ.2.1.ext O0.2)
  obtain ⟨_, _, ⟨T25, L25, k25, n25⟩, -, X25, ⟨Lc25, hQ25, l25, y25, z25⟩, st25⟩ := X22.virtualBack hx (y := (⟨cQC, "others", dOT⟩ : MethodName)) (z := (⟨cQC, "others", dOT⟩ : MethodName)) hown (mvT hZ (own_w hw 46 rfl)) (mvT hZ (own_w hw 47 rfl)) (notFace_of_selects (args := #[]) (mvT hZ (own_w hw 49 rfl))) (mvT hZ (own_w hw 49 rfl)) (mvT hZ (own_w hw 48 rfl)) (by decide) (backOf (W := 1) (rm_otm l Z a0 hw [] qn aX h0 n0 O0 (HQ.2.2.2.1.ext O0.2)) hZ (own_w hw 50 rfl) (own_w hw 20 rfl) (by decide) (by decide)) qa25 qc25 (g := (mkF m 152 #[.val (.ref a1), .val (.ref qn), .val (.ref aT), .val (.int (0 : Int32)), .val (.int (0 : Int32)), .val (.ref idn), .val (.int (1 : Int32))] [(.ref qn), (.ref aS)])) rfl (by rw [hml]; rfl) (Steps.refl _) (argsL := []) (rest := [(.ref aS)]) (lenOf pd_si5_2 rfl) rfl (by show 2 * 0 + _ ≤ _; exact Nat.le_of_eq rfl) (hb hby d_prog_56_1_152) (fun _ _ => ⟨rfl, e22, (by decide : 0 + 0 ≤ _), (by decide : 0 + 0 ≤ _)⟩)
  dsimp only [Pt.U, Pt.locs, Pt.cells, Pt.slots] at X25 l25 y25 z25 st25 hQ25
  subst l25 y25 z25
  obtain ⟨rfl, N25q, e25⟩ := hQ25
  have N25 := Fr.app N16 N25q
  have pre_26 : ∀ t, Sp p e below T25 (mkF m 155 #[.val (.ref a1), .val (.ref qn), .val (.ref aT), .val (.int (0 : Int32)), .val (.int (0 : Int32)), .val (.ref idn), .val (.int (1 : Int32))] [(.ref aX), (.ref aS)]) t → Steps p.tables e below E0 t := fun t k => pre_24 t (st25.trans k)
  obtain ⟨cq27, kq27, qa27, qb27, qc27⟩ := isOf hZ e25 (HO.1.ext O0.2)
  obtain ⟨_, _, ⟨T27, L27, k27, n27⟩, -, X27, ⟨Lc27, hQ27, l27, y27, z27⟩, st27⟩ := X25.virtualBackUp hx (x := (⟨cOC, "ordinal", "()I"⟩ : MethodName)) (y := (⟨cEN, "ordinal", "()I"⟩ : MethodName)) hown (mvT hZ (own_w hw 68 rfl)) (mvT hZ (own_w hw 69 rfl)) (mvT hZ (own_w hw 70 rfl)) (by decide) (mvT hZ (own_w hw 72 rfl)) (mvT hZ (own_w hw 71 rfl)) (backOf (W := 1) (rm_ord l Z a0 hw [] aX (5 : Int32) h0 n0 O0 (HO.2.ext O0.2)) hZ (own_w hw 74 rfl) (own_w hw 73 rfl) (by decide) (by decide)) qa27 qc27 (g := (mkF m 155 #[.val (.ref a1), .val (.ref qn), .val (.ref aT), .val (.int (0 : Int32)), .val (.int (0 : Int32)), .val (.ref idn), .val (.int (1 : Int32))] [(.ref aX), (.ref aS)])) rfl (by rw [hml]; rfl) (Steps.refl _) (argsL := []) (rest := [(.ref aS)]) (lenOf pd_si5_4 rfl) rfl (by show 2 * 0 + _ ≤ _; exact Nat.le_of_eq rfl) (hb hby d_prog_56_1_155) (fun _ _ => ⟨rfl, e25, (by decide : 0 + 0 ≤ _), (by decide : 0 + 0 ≤ _)⟩)
  dsimp only [Pt.U, Pt.locs, Pt.cells, Pt.slots] at X27 l27 y27 z27 st27 hQ27
  subst l27 y27 z27
  obtain ⟨rfl, N27q, e27⟩ := hQ27
  have N27 := Fr.app N25 N27q
  have pre_28 : ∀ t, Sp p e below T27 (mkF m 158 #[.val (.ref a1), .val (.ref qn), .val (.ref aT), .val (.int (0 : Int32)), .val (.int (0 : Int32)), .val (.ref idn), .val (.int (1 : Int32))] [(.int (5 : Int32)), (.ref aS)]) t → Steps p.tables e below E0 t := fun t k => pre_26 t (st27.trans k)
  have pre_30 : ∀ t, Sp p e below T27 (mkF m 334 #[.val (.ref a1), .val (.ref qn), .val (.ref aT), .val (.int (0 : Int32)), .val (.int (0 : Int32)), .val (.ref idn), .val (.int (1 : Int32))] [(.ref qn), (.ref a1)]) t → Steps p.tables e below E0 t := by
    intro t k
    refine pre_28 t ?_
    obtain ⟨cl29, Ar29, -, S29, -, H29, -⟩ := id (VS.ext O0.2)
    have hin29 : ¬ ((5 : Int32) < 0 ∨ cl29.slots.size ≤ ((5 : Int32)).toNatClampNeg) := inb_of S29 (by decide)
    refine X27.iaload hx (j := (5 : Int32)) (v := (.int (1 : Int32))) (by rw [e27]; exact Ar29.1) (State.isArrayOf_alike hZ.alike Ar29.2.1) Ar29.2.2 hin29 (H29.at hin29 rfl) (g := (mkF m 158 #[.val (.ref a1), .val (.ref qn), .val (.ref aT), .val (.int (0 : Int32)), .val (.int (0 : Int32)), .val (.ref idn), .val (.int (1 : Int32))] [(.int (5 : Int32)), (.ref aS)])) rfl rfl (hb hby d_prog_56_1_158) _ ?_
    show Sp p e below T27 (mkF m 159 #[.val (.ref a1), .val (.ref qn), .val (.ref aT), .val (.int (0 : Int32)), .val (.int (0 : Int32)), .val (.ref idn), .val (.int (1 : Int32))] [(.int (1 : Int32))]) _
    refine XS.tswIn X27.here hx rfl (pc0 := 159) (pc' := 196) rfl (hb hby d_prog_56_1_159) rfl (by decide) (o := 37) rfl (by decide) (by decide) ?_
    refine XS.goto X27.here hx rfl (pc0 := 196) (pc' := 332) rfl (hb hby d_prog_56_1_196) (by decide) (by decide) ?_
    refine XS.aloadN X27.here hx rfl (hb hby d_prog_56_1_332) rfl rfl ?_
    refine XS.aloadN X27.here hx rfl (hb hby d_prog_56_1_333) rfl rfl ?_
    exact k
  obtain ⟨T31, h31, X31, e31, W31, st31⟩ := putF X27 hx hZ hown (host := "") (Or.inl (own_w hw 77 rfl)) Via.refl e27 F1 E1 (Or.inr ⟨(own_w hw 78 rfl), rfl, hnm⟩) (own_w hw 14 rfl) (ty := (.object cQC)) (by decide) rfl rfl (g := (mkF m 334 #[.val (.ref a1), .val (.ref qn), .val (.ref aT), .val (.int (0 : Int32)), .val (.int (0 : Int32)), .val (.ref idn), .val (.int (1 : Int32))] [(.ref qn), (.ref a1)])) rfl rfl (hb hby d_prog_56_1_334)
  have Fw31 := F1.same W31
  have N31 := Fr.snoc X31 N27 g1
  have O31 : Old Z n0 h31 := O0.wr W31 g1
  have pre_32 : ∀ t, Sp p e below T31 (mkF m 337 #[.val (.ref a1), .val (.ref qn), .val (.ref aT), .val (.int (0 : Int32)), .val (.int (0 : Int32)), .val (.ref idn), .val (.int (1 : Int32))] []) t → Steps p.tables e below E0 t := fun t k => pre_30 t (st31 t k)
  have pre_33 : ∀ t, Sp p e below T31 (mkF m 339 #[.val (.ref a1), .val (.ref qn), .val (.ref aT), .val (.int (0 : Int32)), .val (.int (0 : Int32)), .val (.ref idn), .val (.int (1 : Int32))] [(.ref aT), (.ref a1)]) t → Steps p.tables e below E0 t := by
    intro t k
    refine pre_32 t ?_
    show Sp p e below T31 (mkF m 337 #[.val (.ref a1), .val (.ref qn), .val (.ref aT), .val (.int (0 : Int32)), .val (.int (0 : Int32)), .val (.ref idn), .val (.int (1 : Int32))] []) _
    refine XS.aloadN X31.here hx rfl (hb hby d_prog_56_1_337) rfl rfl ?_
    refine XS.aloadN X31.here hx rfl (hb hby d_prog_56_1_338) rfl rfl ?_
    exact k
  obtain ⟨T34, h34, X34, e34, W34, st34⟩ := putF X31 hx hZ hown (host := "") (Or.inl (own_w hw 79 rfl)) Via.refl e31 (F2.other W31 (Or.inr (slot_ne (Or.inr (own_w hw 80 rfl)) (Or.inr (own_w hw 78 rfl)) (by decide) (t := (.object cEC)) (t' := (.object cQC)) (by decide) (by decide)))) (E1.wr W31) (Or.inr ⟨(own_w hw 80 rfl), rfl, hnm⟩) (own_w hw 14 rfl) (ty := (.object cEC)) (by decide) rfl rfl (g := (mkF m 339 #[.val (.ref a1), .val (.ref qn), .val (.ref aT), .val (.int (0 : Int32)), .val (.int (0 : Int32)), .val (.ref idn), .val (.int (1 : Int32))] [(.ref aT), (.ref a1)])) rfl rfl (hb hby d_prog_56_1_339)
  have Fw34 := (F2.other W31 (Or.inr (slot_ne (Or.inr (own_w hw 80 rfl)) (Or.inr (own_w hw 78 rfl)) (by decide) (t := (.object cEC)) (t' := (.object cQC)) (by decide) (by decide)))).same W34
  have N34 := Fr.snoc X34 N31 g1
  have O34 : Old Z n0 h34 := O31.wr W34 g1
  have pre_35 : ∀ t, Sp p e below T34 (mkF m 342 #[.val (.ref a1), .val (.ref qn), .val (.ref aT), .val (.int (0 : Int32)), .val (.int (0 : Int32)), .val (.ref idn), .val (.int (1 : Int32))] []) t → Steps p.tables e below E0 t := fun t k => pre_33 t (st34 t k)
  have pre_36 : ∀ t, Sp p e below T34 (mkF m 344 #[.val (.ref a1), .val (.ref qn), .val (.ref aT), .val (.int (0 : Int32)), .val (.int (0 : Int32)), .val (.ref idn), .val (.int (1 : Int32))] [(.int (0 : Int32)), (.ref a1)]) t → Steps p.tables e below E0 t := by
    intro t k
    refine pre_35 t ?_
    show Sp p e below T34 (mkF m 342 #[.val (.ref a1), .val (.ref qn), .val (.ref aT), .val (.int (0 : Int32)), .val (.int (0 : Int32)), .val (.ref idn), .val (.int (1 : Int32))] []) _
    refine XS.aloadN X34.here hx rfl (hb hby d_prog_56_1_342) rfl rfl ?_
    refine XS.iloadN X34.here hx rfl (hb hby d_prog_56_1_343) rfl ?_
    show Sp p e below T34 (mkF m 344 #[.val (.ref a1), .val (.ref qn), .val (.ref aT), .val (.int (0 : Int32)), .val (.int (0 : Int32)), .val (.ref idn), .val (.int (1 : Int32))] [(.int (0 : Int32)), (.ref a1)]) _
    exact k
  obtain ⟨T37, h37, X37, e37, W37, st37⟩ := putF X34 hx hZ hown (host := "") (Or.inl (own_w hw 81 rfl)) Via.refl e34 ((F3.other W31 (Or.inr (slot_ne (Or.inr (own_w hw 82 rfl)) (Or.inr (own_w hw 78 rfl)) (by decide) (t := .int) (t' := (.object cQC)) (by decide) (by decide)))).other W34 (Or.inr (slot_ne (Or.inr (own_w hw 82 rfl)) (Or.inr (own_w hw 80 rfl)) (by decide) (t := .int) (t' := (.object cEC)) (by decide) (by decide)))) ((E1.wr W31).wr W34) (Or.inr ⟨(own_w hw 82 rfl), rfl, hnm⟩) (own_w hw 14 rfl) (ty := .int) (by decide) rfl rfl (g := (mkF m 344 #[.val (.ref a1), .val (.ref qn), .val (.ref aT), .val (.int (0 : Int32)), .val (.int (0 : Int32)), .val (.ref idn), .val (.int (1 : Int32))] [(.int (0 : Int32)), (.ref a1)])) rfl rfl (hb hby d_prog_56_1_344)
  have Fw37 := ((F3.other W31 (Or.inr (slot_ne (Or.inr (own_w hw 82 rfl)) (Or.inr (own_w hw 78 rfl)) (by decide) (t := .int) (t' := (.object cQC)) (by decide) (by decide)))).other W34 (Or.inr (slot_ne (Or.inr (own_w hw 82 rfl)) (Or.inr (own_w hw 80 rfl)) (by decide) (t := .int) (t' := (.object cEC)) (by decide) (by decide)))).same W37
  have N37 := Fr.snoc X37 N34 g1
  have O37 : Old Z n0 h37 := O34.wr W37 g1
  have pre_38 : ∀ t, Sp p e below T37 (mkF m 347 #[.val (.ref a1), .val (.ref qn), .val (.ref aT), .val (.int (0 : Int32)), .val (.int (0 : Int32)), .val (.ref idn), .val (.int (1 : Int32))] []) t → Steps p.tables e below E0 t := fun t k => pre_36 t (st37 t k)
  have pre_39 : ∀ t, Sp p e below T37 (mkF m 350 #[.val (.ref a1), .val (.ref qn), .val (.ref aT), .val (.int (0 : Int32)), .val (.int (0 : Int32)), .val (.ref idn), .val (.int (1 : Int32))] [(.int (0 : Int32)), (.ref a1)]) t → Steps p.tables e below E0 t := by
    intro t k
    refine pre_38 t ?_
    show Sp p e below T37 (mkF m 347 #[.val (.ref a1), .val (.ref qn), .val (.ref aT), .val (.int (0 : Int32)), .val (.int (0 : Int32)), .val (.ref idn), .val (.int (1 : Int32))] []) _
    refine XS.aloadN X37.here hx rfl (hb hby d_prog_56_1_347) rfl rfl ?_
    refine XS.iload X37.here hx rfl (hb hby d_prog_56_1_348) rfl ?_
    exact k
  obtain ⟨T40, h40, X40, e40, W40, st40⟩ := putF X37 hx hZ hown (host := "") (Or.inl (own_w hw 83 rfl)) Via.refl e37 (((F4.other W31 (Or.inr (slot_ne (Or.inr (own_w hw 84 rfl)) (Or.inr (own_w hw 78 rfl)) (by decide) (t := .int) (t' := (.object cQC)) (by decide) (by decide)))).other W34 (Or.inr (slot_ne (Or.inr (own_w hw 84 rfl)) (Or.inr (own_w hw 80 rfl)) (by decide) (t := .int) (t' := (.object cEC)) (by decide) (by decide)))).other W37 (Or.inr (slot_ne (Or.inr (own_w hw 84 rfl)) (Or.inr (own_w hw 82 rfl)) (by decide) (t := .int) (t' := .int) (by decide) (by decide)))) (((E1.wr W31).wr W34).wr W37) (Or.inr ⟨(own_w hw 84 rfl), rfl, hnm⟩) (own_w hw 14 rfl) (ty := .int) (by decide) rfl rfl (g := (mkF m 350 #[.val (.ref a1), .val (.ref qn), .val (.ref aT), .val (.int (0 : Int32)), .val (.int (0 : Int32)), .val (.ref idn), .val (.int (1 : Int32))] [(.int (0 : Int32)), (.ref a1)])) rfl rfl (hb hby d_prog_56_1_350)
  have Fw40 := (((F4.other W31 (Or.inr (slot_ne (Or.inr (own_w hw 84 rfl)) (Or.inr (own_w hw 78 rfl)) (by decide) (t := .int) (t' := (.object cQC)) (by decide) (by decide)))).other W34 (Or.inr (slot_ne (Or.inr (own_w hw 84 rfl)) (Or.inr (own_w hw 80 rfl)) (by decide) (t := .int) (t' := (.object cEC)) (by decide) (by decide)))).other W37 (Or.inr (slot_ne (Or.inr (own_w hw 84 rfl)) (Or.inr (own_w hw 82 rfl)) (by decide) (t := .int) (t' := .int) (by decide) (by decide)))).same W40
  have N40 := Fr.snoc X40 N37 g1
  have O40 : Old Z n0 h40 := O37.wr W40 g1
  have pre_41 : ∀ t, Sp p e below T40 (mkF m 353 #[.val (.ref a1), .val (.ref qn), .val (.ref aT), .val (.int (0 : Int32)), .val (.int (0 : Int32)), .val (.ref idn), .val (.int (1 : Int32))] []) t → Steps p.tables e below E0 t := fun t k => pre_39 t (st40 t k)
  obtain ⟨fs, hr, hrun, hended, hW, hsame⟩ := X40.leave (v := none) (fun _ => rfl)
  refine ⟨_, _, pre_41 _ ?_, hrun, hended, _, _, rfl, ?_, ⟨_, rfl⟩, hW, hsame.mono (by decide) (by decide)⟩
  · show Sp p e below T40 (mkF m 353 #[.val (.ref a1), .val (.ref qn), .val (.ref aT), .val (.int (0 : Int32)), .val (.int (0 : Int32)), .val (.ref idn), .val (.int (1 : Int32))] []) _
    exact X40.returnOut hx Bd.returns (hb hby d_prog_56_1_353) hr
  · show Q_si Z _ _ _ _ _ h0 n0 _ T40.heap _
    rw [e40]
    exact ⟨rfl, N40, (((((Keep.refl h0 [a1]).wr W31 (Or.inl (List.mem_of_getElem? (i := 0) rfl))).wr W34 (Or.inl (List.mem_of_getElem? (i := 0) rfl))).wr W37 (Or.inl (List.mem_of_getElem? (i := 0) rfl))).wr W40 (Or.inl (List.mem_of_getElem? (i := 0) rfl))), (((Fw31.other W34 (Or.inr (slot_ne (Or.inr (own_w hw 78 rfl)) (Or.inr (own_w hw 80 rfl)) (by decide) (t := (.object cQC)) (t' := (.object cEC)) (by decide) (by decide)))).other W37 (Or.inr (slot_ne (Or.inr (own_w hw 78 rfl)) (Or.inr (own_w hw 82 rfl)) (by decide) (t := (.object cQC)) (t' := .int) (by decide) (by decide)))).other W40 (Or.inr (slot_ne (Or.inr (own_w hw 78 rfl)) (Or.inr (own_w hw 84 rfl)) (by decide) (t := (.object cQC)) (t' := .int) (by decide) (by decide)))), ((Fw34.other W37 (Or.inr (slot_ne (Or.inr (own_w hw 80 rfl)) (Or.inr (own_w hw 82 rfl)) (by decide) (t := (.object cEC)) (t' := .int) (by decide) (by decide)))).other W40 (Or.inr (slot_ne (Or.inr (own_w hw 80 rfl)) (Or.inr (own_w hw 84 rfl)) (by decide) (t := (.object cEC)) (t' := .int) (by decide) (by decide)))), (Fw37.other W40 (Or.inr (slot_ne (Or.inr (own_w hw 82 rfl)) (Or.inr (own_w hw 84 rfl)) (by decide) (t := .int) (t' := .int) (by decide) (by decide)))), Fw40⟩
theorem pn_si6 : plainName cSK = true := by first | (simp [plainName, overriddenIn]; done) | decide +kernel
theorem pd_si6_0 : parseMethodDescriptor "()V" = some ⟨[], none⟩ := by decide +kernel
theorem pd_si6_1 : parseMethodDescriptor "()Ljava/lang/String;" = some ⟨[], some (.object "java/lang/String")⟩ := by decide +kernel
theorem pd_si6_2 : parseMethodDescriptor dOT = some ⟨[], some (.object cOC)⟩ := by decide +kernel
theorem pd_si6_3 : parseMethodDescriptor "()Z" = some ⟨[], some .boolean⟩ := by decide +kernel
theorem pd_si6_4 : parseMethodDescriptor "()I" = some ⟨[], some .int⟩ := by decide +kernel
theorem ef_si6 (m : MethodId) (a1 : Addr) (qn : Addr) (edn : Addr) (p3 : Int32) : entryFrame m #[(.ref a1), (.ref qn), (.ref edn), (.int p3), (.int (0 : Int32))] 7 = (mkF m 0 #[.val (.ref a1), .val (.ref qn), .val (.ref edn), .val (.int p3), .val (.int (0 : Int32)), .unset, .unset] []) := by first | (simp [entryFrame, mkF, argsToLocals, Value.category]; done) | rfl
set_option maxRecDepth 65536 in
set_option maxHeartbeats 40000000 in
theorem rm_si6 (l : Launch) (Z : State) (a0 : Array Value) (hw : ∀ d ∈ tables_1, d.before a0 Z = true) (ws : List Jvm.Cond) (a1 : Addr) (qn : Addr) (edn : Addr) (p3 : Int32) (u1 u2 u3 u4 : Value) (idn : Addr) (otn : Addr) (aX aS : Addr) (kS : ClassId) (aT : Addr) (h0 : Heap) (n0 : Nat) (O0 : Old Z n0 h0) (E1 : Exa Z h0 a1 cSK) (F1 : Fld Z h0 a1 cSK "quantity" lQC u1) (F2 : Fld Z h0 a1 cSK "end" lEC u2) (F3 : Fld Z h0 a1 cSK "pair" "I" u3) (F4 : Fld Z h0 a1 cSK "other" "I" u4) (g1 : n0 ≤ a1) (HQ : own_Qf Z qn idn otn "RETURN_LOSS" (1 : Int32) (8 : Int32)) (HO : own_Of Z otn (0 : Int32)) (SX : Sta Z Z.heap cOC "ACROSS" lOC (.ref aX)) (ST : Sta Z Z.heap cEC "THROUGH" lEC (.ref aT)) (SS : Sta Z Z.heap cS1 nSM "[I" (.ref aS)) (VS : Arv Z Z.heap aS kS .int (6 : Int32) [(.int (2 : Int32)), (.int (4 : Int32)), (.int (3 : Int32)), (.int (5 : Int32)), (.int (6 : Int32)), (.int (1 : Int32))] (.int (0 : Int32))) (neX : ¬ otn = aX) (neT : ¬ edn = aT) (hp : ¬ p3 < (1 : Int32)) :
    MetFree l (⟨cSK, "<init>", dSI⟩ : MethodName) (head1 (Jvm.Cond.code (⟨cSK, "<init>", dSI⟩ : MethodName) prog_56_method_1_code 7 none :: ws) ({ frames := 4, cells := 2, slots := 3, locals := 54 } : Room)) (fun a U => a = #[(.ref a1), (.ref qn), (.ref edn), (.int p3), (.int (0 : Int32))] ∧ Z.Warmed39 U.vm ∧ U.heap = h0) (fun _ _ _ _ _ => True) (fun _ U o U' => ∃ v L, o = .returned v ∧ Q_si Z a1 qn edn p3 (0 : Int32) h0 n0 v U'.heap L ∧ FrameEnd U o U' L ({ frames := 4, cells := 2, slots := 3, locals := 54 } : Room).cells ({ frames := 4, cells := 2, slots := 3, locals := 54 } : Room).slots) := by
  refine MetFree.of_bodySF (plainFor_of_name pn_si6) hisR ?_
  intro p e s m args below meth c s₁ Bd hml0 hP hK
  obtain ⟨rfl, hZ, hh⟩ := hP
  have hx := Bd.exec
  have hby := Bd.bytes
  have hml : c.maxLocals = 7 := hml0
  have hown : s.vm.findClass cSK = some m.cls := findClass_of_methodNamed Bd.named
  have hnm := (name_of_methodNamed Bd.named Bd.method).1
  have X0 : Stand p l e ({ frames := 4, cells := 2, slots := 3, locals := 54 } : Room) s m #[(.ref a1), (.ref qn), (.ref edn), (.int p3), (.int (0 : Int32))] below meth c s₁ [] 0 0 := Stand.of_body Bd
  have e0 : s₁.heap = h0 := by rw [← hh, Bd.state]; rfl
  have N0 := Fr.nil n0
  have pre0 : ∀ t, Steps p.tables e below (s₁.setTop (mkF m 0 #[.val (.ref a1), .val (.ref qn), .val (.ref edn), .val (.int p3), .val (.int (0 : Int32)), .unset, .unset] [])) t → Steps p.tables e below (s₁.setTop (entryFrame m #[(.ref a1), (.ref qn), (.ref edn), (.int p3), (.int (0 : Int32))] 7)) t := fun t k => castTop (ef_si6 m a1 qn edn p3) k
  generalize s₁.setTop (entryFrame m #[(.ref a1), (.ref qn), (.ref edn), (.int p3), (.int (0 : Int32))] 7) = E0 at pre0 ⊢
  have pre_1 : ∀ t, Sp p e below s₁ (mkF m 1 #[.val (.ref a1), .val (.ref qn), .val (.ref edn), .val (.int p3), .val (.int (0 : Int32)), .unset, .unset] [(.ref a1)]) t → Steps p.tables e below E0 t := by
    intro t k
    refine pre0 t ?_
    show Sp p e below s₁ (mkF m 0 #[.val (.ref a1), .val (.ref qn), .val (.ref edn), .val (.int p3), .val (.int (0 : Int32)), .unset, .unset] []) _
    refine XS.aloadN X0.here hx rfl (hb hby d_prog_56_1_0) rfl rfl ?_
    exact k
  obtain ⟨_, _, ⟨T2, L2, k2, n2⟩, -, X2, ⟨Lc2, hQ2, l2, y2, z2⟩, st2⟩ := X0.specialBack hx (y := (⟨"java/lang/Record", "<init>", "()V"⟩ : MethodName)) rfl hown (mvT hZ (own_w hw 31 rfl)) (mvT hZ (own_w hw 32 rfl)) (mvT hZ (own_w hw 35 rfl)) (by decide) (backOf (W := 0) (rm_rec l Z a0 hw [] a1 h0 n0 O0) hZ (own_w hw 35 rfl) (own_w hw 34 rfl) (by decide) (by decide)) (g := (mkF m 1 #[.val (.ref a1), .val (.ref qn), .val (.ref edn), .val (.int p3), .val (.int (0 : Int32)), .unset, .unset] [(.ref a1)])) rfl (by rw [hml]; rfl) (Steps.refl _) (a := a1) (argsL := []) (rest := []) (lenOf pd_si6_0 rfl) rfl (by show 2 * 0 + _ ≤ _; exact Nat.le_of_eq rfl) (hb hby d_prog_56_1_1) (fun _ _ => ⟨rfl, e0, (by decide : 0 + 0 ≤ _), (by decide : 0 + 0 ≤ _)⟩)
  dsimp only [Pt.U, Pt.locs, Pt.cells, Pt.slots] at X2 l2 y2 z2 st2 hQ2
  subst l2 y2 z2
  obtain ⟨rfl, N2q, e2⟩ := hQ2
  have N2 := Fr.app N0 N2q
  have pre_3 : ∀ t, Sp p e below T2 (mkF m 4 #[.val (.ref a1), .val (.ref qn), .val (.ref edn), .val (.int p3), .val (.int (0 : Int32)), .unset, .unset] []) t → Steps p.tables e below E0 t := fun t k => pre_1 t (st2.trans k)
  have pre_4 : ∀ t, Sp p e below T2 (mkF m 5 #[.val (.ref a1), .val (.ref qn), .val (.ref edn), .val (.int p3), .val (.int (0 : Int32)), .unset, .unset] [(.ref qn)]) t → Steps p.tables e below E0 t := by
    intro t k
    refine pre_3 t ?_
    show Sp p e below T2 (mkF m 4 #[.val (.ref a1), .val (.ref qn), .val (.ref edn), .val (.int p3), .val (.int (0 : Int32)), .unset, .unset] []) _
    refine XS.aloadN X2.here hx rfl (hb hby d_prog_56_1_4) rfl rfl ?_
    exact k
  obtain ⟨cq5, kq5, qa5, qb5, qc5⟩ := isOf hZ e2 (HQ.2.1.ext O0.2)
  obtain ⟨_, _, ⟨T5, L5, k5, n5⟩, -, X5, ⟨Lc5, hQ5, l5, y5, z5⟩, st5⟩ := X2.virtualBack hx (y := (⟨cQC, "identifier", "()Ljava/lang/String;"⟩ : MethodName)) (z := (⟨cQC, "identifier", "()Ljava/lang/String;"⟩ : MethodName)) hown (mvT hZ (own_w hw 39 rfl)) (mvT hZ (own_w hw 40 rfl)) (notFace_of_selects (args := #[]) (mvT hZ (own_w hw 42 rfl))) (mvT hZ (own_w hw 42 rfl)) (mvT hZ (own_w hw 41 rfl)) (by decide) (backOf (W := 0) (rm_idm l Z a0 hw [] qn idn h0 n0 O0 (HQ.2.2.1.ext O0.2)) hZ (own_w hw 43 rfl) (own_w hw 20 rfl) (by decide) (by decide)) qa5 qc5 (g := (mkF m 5 #[.val (.ref a1), .val (.ref qn), .val (.ref edn), .val (.int p3), .val (.int (0 : Int32)), .unset, .unset] [(.ref qn)])) rfl (by rw [hml]; rfl) (Steps.refl _) (argsL := []) (rest := []) (lenOf pd_si6_1 rfl) rfl (by show 2 * 0 + _ ≤ _; exact Nat.le_of_eq rfl) (hb hby d_prog_56_1_5) (fun _ _ => ⟨rfl, e2, (by decide : 0 + 0 ≤ _), (by decide : 0 + 0 ≤ _)⟩)
  dsimp only [Pt.U, Pt.locs, Pt.cells, Pt.slots] at X5 l5 y5 z5 st5 hQ5
  subst l5 y5 z5
  obtain ⟨rfl, N5q, e5⟩ := hQ5
  have N5 := Fr.app N2 N5q
  have pre_6 : ∀ t, Sp p e below T5 (mkF m 8 #[.val (.ref a1), .val (.ref qn), .val (.ref edn), .val (.int p3), .val (.int (0 : Int32)), .unset, .unset] [(.ref idn)]) t → Steps p.tables e below E0 t := fun t k => pre_4 t (st5.trans k)
  have pre_7 : ∀ t, Sp p e below T5 (mkF m 11 #[.val (.ref a1), .val (.ref qn), .val (.ref edn), .val (.int p3), .val (.int (0 : Int32)), .val (.ref idn), .unset] [(.ref qn)]) t → Steps p.tables e below E0 t := by
    intro t k
    refine pre_6 t ?_
    show Sp p e below T5 (mkF m 8 #[.val (.ref a1), .val (.ref qn), .val (.ref edn), .val (.int p3), .val (.int (0 : Int32)), .unset, .unset] [(.ref idn)]) _
    refine XS.astore X5.here hx rfl (hb hby d_prog_56_1_8) rfl rfl (l' := #[.val (.ref a1), .val (.ref qn), .val (.ref edn), .val (.int p3), .val (.int (0 : Int32)), .val (.ref idn), .unset]) rfl ?_
    refine XS.aloadN X5.here hx rfl (hb hby d_prog_56_1_10) rfl rfl ?_
    exact k
  obtain ⟨cq8, kq8, qa8, qb8, qc8⟩ := isOf hZ e5 (HQ.2.1.ext O0.2)
  obtain ⟨_, _, ⟨T8, L8, k8, n8⟩, -, X8, ⟨Lc8, hQ8, l8, y8, z8⟩, st8⟩ := X5.virtualBack hx (y := (⟨cQC, "others", dOT⟩ : MethodName)) (z := (⟨cQC, "others", dOT⟩ : MethodName)) hown (mvT hZ (own_w hw 46 rfl)) (mvT hZ (own_w hw 47 rfl)) (notFace_of_selects (args := #[]) (mvT hZ (own_w hw 49 rfl))) (mvT hZ (own_w hw 49 rfl)) (mvT hZ (own_w hw 48 rfl)) (by decide) (backOf (W := 0) (rm_otm l Z a0 hw [] qn otn h0 n0 O0 (HQ.2.2.2.1.ext O0.2)) hZ (own_w hw 50 rfl) (own_w hw 20 rfl) (by decide) (by decide)) qa8 qc8 (g := (mkF m 11 #[.val (.ref a1), .val (.ref qn), .val (.ref edn), .val (.int p3), .val (.int (0 : Int32)), .val (.ref idn), .unset] [(.ref qn)])) rfl (by rw [hml]; rfl) (Steps.refl _) (argsL := []) (rest := []) (lenOf pd_si6_2 rfl) rfl (by show 2 * 0 + _ ≤ _; exact Nat.le_of_eq rfl) (hb hby d_prog_56_1_11) (fun _ _ => ⟨rfl, e5, (by decide : 0 + 0 ≤ _), (by decide : 0 + 0 ≤ _)⟩)
  dsimp only [Pt.U, Pt.locs, Pt.cells, Pt.slots] at X8 l8 y8 z8 st8 hQ8
  subst l8 y8 z8
  obtain ⟨rfl, N8q, e8⟩ := hQ8
  have N8 := Fr.app N5 N8q
  have pre_9 : ∀ t, Sp p e below T8 (mkF m 14 #[.val (.ref a1), .val (.ref qn), .val (.ref edn), .val (.int p3), .val (.int (0 : Int32)), .val (.ref idn), .unset] [(.ref otn)]) t → Steps p.tables e below E0 t := fun t k => pre_7 t (st8.trans k)
  obtain ⟨T10, X10, e10, st10⟩ := getS X8 hx hZ hown (host := "") (own_w hw 55 rfl) Via.refl e8 (SX.ext O0.2) (g := (mkF m 14 #[.val (.ref a1), .val (.ref qn), .val (.ref edn), .val (.int p3), .val (.int (0 : Int32)), .val (.ref idn), .unset] [(.ref otn)])) rfl (hb hby d_prog_56_1_14)
  have pre_11 : ∀ t, Sp p e below T10 (mkF m 17 #[.val (.ref a1), .val (.ref qn), .val (.ref edn), .val (.int p3), .val (.int (0 : Int32)), .val (.ref idn), .unset] [(.ref aX), (.ref otn)]) t → Steps p.tables e below E0 t := fun t k => pre_9 t (st10 t k)
  have pre_12 : ∀ t, Sp p e below T10 (mkF m 87 #[.val (.ref a1), .val (.ref qn), .val (.ref edn), .val (.int p3), .val (.int (0 : Int32)), .val (.ref idn), .val (.int (0 : Int32))] [(.ref qn)]) t → Steps p.tables e below E0 t := by
    intro t k
    refine pre_11 t ?_
    show Sp p e below T10 (mkF m 17 #[.val (.ref a1), .val (.ref qn), .val (.ref edn), .val (.int p3), .val (.int (0 : Int32)), .val (.ref idn), .unset] [(.ref aX), (.ref otn)]) _
    refine XT.acmpYes X10.here hx rfl (pc0 := 17) (pc' := 24) rfl (hb hby d_prog_56_1_17) rfl rfl rfl (XT.aa_ne_t (fun q => neX (Value.ref.inj q))) (by decide) (by decide) ?_
    refine XS.iconst X10.here hx rfl (hb hby d_prog_56_1_24) ?_
    refine XS.istore X10.here hx rfl (hb hby d_prog_56_1_25) rfl (l' := #[.val (.ref a1), .val (.ref qn), .val (.ref edn), .val (.int p3), .val (.int (0 : Int32)), .val (.ref idn), .val (.int (0 : Int32))]) rfl ?_
    refine XS.iload X10.here hx rfl (hb hby d_prog_56_1_27) rfl ?_
    show Sp p e below T10 (mkF m 29 #[.val (.ref a1), .val (.ref qn), .val (.ref edn), .val (.int p3), .val (.int (0 : Int32)), .val (.ref idn), .val (.int (0 : Int32))] [(.int (0 : Int32))]) _
    refine XS.ifYes X10.here hx rfl (pc0 := 29) (pc' := 62) rfl (hb hby d_prog_56_1_29) rfl (XT.i0_eq_t (by decide)) (by decide) (by decide) ?_
    refine XS.iload X10.here hx rfl (hb hby d_prog_56_1_62) rfl ?_
    refine XS.ifNo X10.here hx rfl (hb hby d_prog_56_1_64) rfl (XT.i0_ne_f (by decide)) ?_
    refine XS.iloadN X10.here hx rfl (hb hby d_prog_56_1_67) rfl ?_
    refine XS.iconst X10.here hx rfl (hb hby d_prog_56_1_68) ?_
    refine XS.icmpYes X10.here hx rfl (pc0 := 69) (pc' := 86) rfl (hb hby d_prog_56_1_69) rfl (XT.ii_ge_t hp) (by decide) (by decide) ?_
    refine XS.aloadN X10.here hx rfl (hb hby d_prog_56_1_86) rfl rfl ?_
    exact k
  obtain ⟨cq13, kq13, qa13, qb13, qc13⟩ := isOf hZ e10 (HQ.2.1.ext O0.2)
  obtain ⟨_, _, ⟨T13, L13, k13, n13⟩, -, X13, ⟨Lc13, hQ13, l13, y13, z13⟩, st13⟩ := X10.virtualBack hx (y := (⟨cQC, "atAnEnd", "()Z"⟩ : MethodName)) (z := (⟨cQC, "atAnEnd", "()Z"⟩ : MethodName)) hown (mvT hZ (own_w hw 57 rfl)) (mvT hZ (own_w hw 58 rfl)) (notFace_of_selects (args := #[]) (mvT hZ (own_w hw 60 rfl))) (mvT hZ (own_w hw 60 rfl)) (mvT hZ (own_w hw 59 rfl)) (by decide) (backOf (W := 0) (rm_atm1 l Z a0 hw [] qn  h0 n0 O0 (HQ.2.2.2.2.1.ext O0.2)) hZ (own_w hw 61 rfl) (own_w hw 20 rfl) (by decide) (by decide)) qa13 qc13 (g := (mkF m 87 #[.val (.ref a1), .val (.ref qn), .val (.ref edn), .val (.int p3), .val (.int (0 : Int32)), .val (.ref idn), .val (.int (0 : Int32))] [(.ref qn)])) rfl (by rw [hml]; rfl) (Steps.refl _) (argsL := []) (rest := []) (lenOf pd_si6_3 rfl) rfl (by show 2 * 0 + _ ≤ _; exact Nat.le_of_eq rfl) (hb hby d_prog_56_1_87) (fun _ _ => ⟨rfl, e10, (by decide : 0 + 0 ≤ _), (by decide : 0 + 0 ≤ _)⟩)
  dsimp only [Pt.U, Pt.locs, Pt.cells, Pt.slots] at X13 l13 y13 z13 st13 hQ13
  subst l13 y13 z13
  obtain ⟨rfl, N13q, e13⟩ := hQ13
  have N13 := Fr.app N8 N13q
  have pre_14 : ∀ t, Sp p e below T13 (mkF m 90 #[.val (.ref a1), .val (.ref qn), .val (.ref edn), .val (.int p3), .val (.int (0 : Int32)), .val (.ref idn), .val (.int (0 : Int32))] [(.int (1 : Int32))]) t → Steps p.tables e below E0 t := fun t k => pre_12 t (st13.trans k)
  have pre_15 : ∀ t, Sp p e below T13 (mkF m 94 #[.val (.ref a1), .val (.ref qn), .val (.ref edn), .val (.int p3), .val (.int (0 : Int32)), .val (.ref idn), .val (.int (0 : Int32))] [(.ref edn)]) t → Steps p.tables e below E0 t := by
    intro t k
    refine pre_14 t ?_
    show Sp p e below T13 (mkF m 90 #[.val (.ref a1), .val (.ref qn), .val (.ref edn), .val (.int p3), .val (.int (0 : Int32)), .val (.ref idn), .val (.int (0 : Int32))] [(.int (1 : Int32))]) _
    refine XS.ifNo X13.here hx rfl (hb hby d_prog_56_1_90) rfl (XT.i0_eq_f (by decide)) ?_
    show Sp p e below T13 (mkF m 93 #[.val (.ref a1), .val (.ref qn), .val (.ref edn), .val (.int p3), .val (.int (0 : Int32)), .val (.ref idn), .val (.int (0 : Int32))] []) _
    refine XS.aloadN X13.here hx rfl (hb hby d_prog_56_1_93) rfl rfl ?_
    exact k
  obtain ⟨T16, X16, e16, st16⟩ := getS X13 hx hZ hown (host := "") (own_w hw 64 rfl) Via.refl e13 (ST.ext O0.2) (g := (mkF m 94 #[.val (.ref a1), .val (.ref qn), .val (.ref edn), .val (.int p3), .val (.int (0 : Int32)), .val (.ref idn), .val (.int (0 : Int32))] [(.ref edn)])) rfl (hb hby d_prog_56_1_94)
  have pre_17 : ∀ t, Sp p e below T16 (mkF m 97 #[.val (.ref a1), .val (.ref qn), .val (.ref edn), .val (.int p3), .val (.int (0 : Int32)), .val (.ref idn), .val (.int (0 : Int32))] [(.ref aT), (.ref edn)]) t → Steps p.tables e below E0 t := fun t k => pre_15 t (st16 t k)
  have pre_18 : ∀ t, Sp p e below T16 (mkF m 116 #[.val (.ref a1), .val (.ref qn), .val (.ref edn), .val (.int p3), .val (.int (0 : Int32)), .val (.ref idn), .val (.int (0 : Int32))] [(.ref qn)]) t → Steps p.tables e below E0 t := by
    intro t k
    refine pre_17 t ?_
    show Sp p e below T16 (mkF m 97 #[.val (.ref a1), .val (.ref qn), .val (.ref edn), .val (.int p3), .val (.int (0 : Int32)), .val (.ref idn), .val (.int (0 : Int32))] [(.ref aT), (.ref edn)]) _
    refine XT.acmpYes X16.here hx rfl (pc0 := 97) (pc' := 115) rfl (hb hby d_prog_56_1_97) rfl rfl rfl (XT.aa_ne_t (fun q => neT (Value.ref.inj q))) (by decide) (by decide) ?_
    refine XS.aloadN X16.here hx rfl (hb hby d_prog_56_1_115) rfl rfl ?_
    exact k
  obtain ⟨cq19, kq19, qa19, qb19, qc19⟩ := isOf hZ e16 (HQ.2.1.ext O0.2)
  obtain ⟨_, _, ⟨T19, L19, k19, n19⟩, -, X19, ⟨Lc19, hQ19, l19, y19, z19⟩, st19⟩ := X16.virtualBack hx (y := (⟨cQC, "atAnEnd", "()Z"⟩ : MethodName)) (z := (⟨cQC, "atAnEnd", "()Z"⟩ : MethodName)) hown (mvT hZ (own_w hw 57 rfl)) (mvT hZ (own_w hw 58 rfl)) (notFace_of_selects (args := #[]) (mvT hZ (own_w hw 60 rfl))) (mvT hZ (own_w hw 60 rfl)) (mvT hZ (own_w hw 59 rfl)) (by decide) (backOf (W := 0) (rm_atm1 l Z a0 hw [] qn  h0 n0 O0 (HQ.2.2.2.2.1.ext O0.2)) hZ (own_w hw 61 rfl) (own_w hw 20 rfl) (by decide) (by decide)) qa19 qc19 (g := (mkF m 116 #[.val (.ref a1), .val (.ref qn), .val (.ref edn), .val (.int p3), .val (.int (0 : Int32)), .val (.ref idn), .val (.int (0 : Int32))] [(.ref qn)])) rfl (by rw [hml]; rfl) (Steps.refl _) (argsL := []) (rest := []) (lenOf pd_si6_3 rfl) rfl (by show 2 * 0 + _ ≤ _; exact Nat.le_of_eq rfl) (hb hby d_prog_56_1_116) (fun _ _ => ⟨rfl, e16, (by decide : 0 + 0 ≤ _), (by decide : 0 + 0 ≤ _)⟩)
  dsimp only [Pt.U, Pt.locs, Pt.cells, Pt.slots] at X19 l19 y19 z19 st19 hQ19
  subst l19 y19 z19
  obtain ⟨rfl, N19q, e19⟩ := hQ19
  have N19 := Fr.app N13 N19q
  have pre_20 : ∀ t, Sp p e below T19 (mkF m 119 #[.val (.ref a1), .val (.ref qn), .val (.ref edn), .val (.int p3), .val (.int (0 : Int32)), .val (.ref idn), .val (.int (0 : Int32))] [(.int (1 : Int32))]) t → Steps p.tables e below E0 t := fun t k => pre_18 t (st19.trans k)
  have pre_21 : ∀ t, Sp p e below T19 (mkF m 148 #[.val (.ref a1), .val (.ref qn), .val (.ref edn), .val (.int p3), .val (.int (0 : Int32)), .val (.ref idn), .val (.int (0 : Int32))] []) t → Steps p.tables e below E0 t := by
    intro t k
    refine pre_20 t ?_
    show Sp p e below T19 (mkF m 119 #[.val (.ref a1), .val (.ref qn), .val (.ref edn), .val (.int p3), .val (.int (0 : Int32)), .val (.ref idn), .val (.int (0 : Int32))] [(.int (1 : Int32))]) _
    refine XS.ifYes X19.here hx rfl (pc0 := 119) (pc' := 148) rfl (hb hby d_prog_56_1_119) rfl (XT.i0_ne_t (by decide)) (by decide) (by decide) ?_
    exact k
  obtain ⟨T22, X22, e22, st22⟩ := getS X19 hx hZ hown (host := "") (own_w hw 65 rfl) Via.refl e19 (SS.ext O0.2) (g := (mkF m 148 #[.val (.ref a1), .val (.ref qn), .val (.ref edn), .val (.int p3), .val (.int (0 : Int32)), .val (.ref idn), .val (.int (0 : Int32))] [])) rfl (hb hby d_prog_56_1_148)
  have pre_23 : ∀ t, Sp p e below T22 (mkF m 151 #[.val (.ref a1), .val (.ref qn), .val (.ref edn), .val (.int p3), .val (.int (0 : Int32)), .val (.ref idn), .val (.int (0 : Int32))] [(.ref aS)]) t → Steps p.tables e below E0 t := fun t k => pre_21 t (st22 t k)
  have pre_24 : ∀ t, Sp p e below T22 (mkF m 152 #[.val (.ref a1), .val (.ref qn), .val (.ref edn), .val (.int p3), .val (.int (0 : Int32)), .val (.ref idn), .val (.int (0 : Int32))] [(.ref qn), (.ref aS)]) t → Steps p.tables e below E0 t := by
    intro t k
    refine pre_23 t ?_
    show Sp p e below T22 (mkF m 151 #[.val (.ref a1), .val (.ref qn), .val (.ref edn), .val (.int p3), .val (.int (0 : Int32)), .val (.ref idn), .val (.int (0 : Int32))] [(.ref aS)]) _
    refine XS.aloadN X22.here hx rfl (hb hby d_prog_56_1_151) rfl rfl ?_
    exact k
  obtain ⟨cq25, kq25, qa25, qb25, qc25⟩ := isOf hZ e22 (HQ.2.1.ext O0.2)
  obtain ⟨_, _, ⟨T25, L25, k25, n25⟩, -, X25, ⟨Lc25, hQ25, l25, y25, z25⟩, st25⟩ := X22.virtualBack hx (y := (⟨cQC, "others", dOT⟩ : MethodName)) (z := (⟨cQC, "others", dOT⟩ : MethodName)) hown (mvT hZ (own_w hw 46 rfl)) (mvT hZ (own_w hw 47 rfl)) (notFace_of_selects (args := #[]) (mvT hZ (own_w hw 49 rfl))) (mvT hZ (own_w hw 49 rfl)) (mvT hZ (own_w hw 48 rfl)) (by decide) (backOf (W := 1) (rm_otm l Z a0 hw [] qn otn h0 n0 O0 (HQ.2.2.2.1.ext O0.2)) hZ (own_w hw 50 rfl) (own_w hw 20 rfl) (by decide) (by decide)) qa25 qc25 (g := (mkF m 152 #[.val (.ref a1), .val (.ref qn), .val (.ref edn), .val (.int p3), .val (.int (0 : Int32)), .val (.ref idn), .val (.int (0 : Int32))] [(.ref qn), (.ref aS)])) rfl (by rw [hml]; rfl) (Steps.refl _) (argsL := []) (rest := [(.ref aS)]) (lenOf pd_si6_2 rfl) rfl (by show 2 * 0 + _ ≤ _; exact Nat.le_of_eq rfl) (hb hby d_prog_56_1_152) (fun _ _ => ⟨rfl, e22, (by decide : 0 + 0 ≤ _), (by decide : 0 + 0 ≤ _)⟩)
  dsimp only [Pt.U, Pt.locs, Pt.cells, Pt.slots] at X25 l25 y25 z25 st25 hQ25
  subst l25 y25 z25
  obtain ⟨rfl, N25q, e25⟩ := hQ25
  have N25 := Fr.app N19 N25q
  have pre_26 : ∀ t, Sp p e below T25 (mkF m 155 #[.val (.ref a1), .val (.ref qn), .val (.ref edn), .val (.int p3), .val (.int (0 : Int32)), .val (.ref idn), .val (.int (0 : Int32))] [(.ref otn), (.ref aS)]) t → Steps p.tables e below E0 t := fun t k => pre_24 t (st25.trans k)
  obtain ⟨cq27, kq27, qa27, qb27, qc27⟩ := isOf hZ e25 (HO.1.ext O0.2)
  obtain ⟨_, _, ⟨T27, L27, k27, n27⟩, -, X27, ⟨Lc27, hQ27, l27, y27, z27⟩, st27⟩ := X25.virtualBackUp hx (x := (⟨cOC, "ordinal", "()I"⟩ : MethodName)) (y := (⟨cEN, "ordinal", "()I"⟩ : MethodName)) hown (mvT hZ (own_w hw 68 rfl)) (mvT hZ (own_w hw 69 rfl)) (mvT hZ (own_w hw 70 rfl)) (by decide) (mvT hZ (own_w hw 72 rfl)) (mvT hZ (own_w hw 71 rfl)) (backOf (W := 1) (rm_ord l Z a0 hw [] otn (0 : Int32) h0 n0 O0 (HO.2.ext O0.2)) hZ (own_w hw 74 rfl) (own_w hw 73 rfl) (by decide) (by decide)) qa27 qc27 (g := (mkF m 155 #[.val (.ref a1), .val (.ref qn), .val (.ref edn), .val (.int p3), .val (.int (0 : Int32)), .val (.ref idn), .val (.int (0 : Int32))] [(.ref otn), (.ref aS)])) rfl (by rw [hml]; rfl) (Steps.refl _) (argsL := []) (rest := [(.ref aS)]) (lenOf pd_si6_4 rfl) rfl (by show 2 * 0 + _ ≤ _; exact Nat.le_of_eq rfl) (hb hby d_prog_56_1_155) (fun _ _ => ⟨rfl, e25, (by decide : 0 + 0 ≤ _), (by decide : 0 + 0 ≤ _)⟩)
  dsimp only [Pt.U, Pt.locs, Pt.cells, Pt.slots] at X27 l27 y27 z27 st27 hQ27
  subst l27 y27 z27
  obtain ⟨rfl, N27q, e27⟩ := hQ27
  have N27 := Fr.app N25 N27q
  have pre_28 : ∀ t, Sp p e below T27 (mkF m 158 #[.val (.ref a1), .val (.ref qn), .val (.ref edn), .val (.int p3), .val (.int (0 : Int32)), .val (.ref idn), .val (.int (0 : Int32))] [(.int (0 : Int32)), (.ref aS)]) t → Steps p.tables e below E0 t := fun t k => pre_26 t (st27.trans k)
  have pre_30 : ∀ t, Sp p e below T27 (mkF m 334 #[.val (.ref a1), .val (.ref qn), .val (.ref edn), .val (.int p3), .val (.int (0 : Int32)), .val (.ref idn), .val (.int (0 : Int32))] [(.ref qn), (.ref a1)]) t → Steps p.tables e below E0 t := by
    intro t k
    refine pre_28 t ?_
    obtain ⟨cl29, Ar29, -, S29, -, H29, -⟩ := id (VS.ext O0.2)
    have hin29 : ¬ ((0 : Int32) < 0 ∨ cl29.slots.size ≤ ((0 : Int32)).toNatClampNeg) := inb_of S29 (by decide)
    refine X27.iaload hx (j := (0 : Int32)) (v := (.int (2 : Int32))) (by rw [e27]; exact Ar29.1) (State.isArrayOf_alike hZ.alike Ar29.2.1) Ar29.2.2 hin29 (H29.at hin29 rfl) (g := (mkF m 158 #[.val (.ref a1), .val (.ref qn), .val (.ref edn), .val (.int p3), .val (.int (0 : Int32)), .val (.ref idn), .val (.int (0 : Int32))] [(.int (0 : Int32)), (.ref aS)])) rfl rfl (hb hby d_prog_56_1_158) _ ?_
    refine XS.tswIn X27.here hx rfl (pc0 := 159) (pc' := 199) rfl (hb hby d_prog_56_1_159) rfl (by decide) (o := 40) rfl (by decide) (by decide) ?_
    refine XS.iload X27.here hx rfl (hb hby d_prog_56_1_199) rfl ?_
    show Sp p e below T27 (mkF m 201 #[.val (.ref a1), .val (.ref qn), .val (.ref edn), .val (.int p3), .val (.int (0 : Int32)), .val (.ref idn), .val (.int (0 : Int32))] [(.int (0 : Int32))]) _
    refine XS.ifYes X27.here hx rfl (pc0 := 201) (pc' := 332) rfl (hb hby d_prog_56_1_201) rfl (XT.i0_eq_t (by decide)) (by decide) (by decide) ?_
    refine XS.aloadN X27.here hx rfl (hb hby d_prog_56_1_332) rfl rfl ?_
    refine XS.aloadN X27.here hx rfl (hb hby d_prog_56_1_333) rfl rfl ?_
    exact k
  obtain ⟨T31, h31, X31, e31, W31, st31⟩ := putF X27 hx hZ hown (host := "") (Or.inl (own_w hw 77 rfl)) Via.refl e27 F1 E1 (Or.inr ⟨(own_w hw 78 rfl), rfl, hnm⟩) (own_w hw 14 rfl) (ty := (.object cQC)) (by decide) rfl rfl (g := (mkF m 334 #[.val (.ref a1), .val (.ref qn), .val (.ref edn), .val (.int p3), .val (.int (0 : Int32)), .val (.ref idn), .val (.int (0 : Int32))] [(.ref qn), (.ref a1)])) rfl rfl (hb hby d_prog_56_1_334)
  have Fw31 := F1.same W31
  have N31 := Fr.snoc X31 N27 g1
  have O31 : Old Z n0 h31 := O0.wr W31 g1
  have pre_32 : ∀ t, Sp p e below T31 (mkF m 337 #[.val (.ref a1), .val (.ref qn), .val (.ref edn), .val (.int p3), .val (.int (0 : Int32)), .val (.ref idn), .val (.int (0 : Int32))] []) t → Steps p.tables e below E0 t := fun t k => pre_30 t (st31 t k)
  have pre_33 : ∀ t, Sp p e below T31 (mkF m 339 #[.val (.ref a1), .val (.ref qn), .val (.ref edn), .val (.int p3), .val (.int (0 : Int32)), .val (.ref idn), .val (.int (0 : Int32))] [(.ref edn), (.ref a1)]) t → Steps p.tables e below E0 t := by
    intro t k
    refine pre_32 t ?_
    show Sp p e below T31 (mkF m 337 #[.val (.ref a1), .val (.ref qn), .val (.ref edn), .val (.int p3), .val (.int (0 : Int32)), .val (.ref idn), .val (.int (0 : Int32))] []) _
    refine XS.aloadN X31.here hx rfl (hb hby d_prog_56_1_337) rfl rfl ?_
    refine XS.aloadN X31.here hx rfl (hb hby d_prog_56_1_338) rfl rfl ?_
    exact k
  obtain ⟨T34, h34, X34, e34, W34, st34⟩ := putF X31 hx hZ hown (host := "") (Or.inl (own_w hw 79 rfl)) Via.refl e31 (F2.other W31 (Or.inr (slot_ne (Or.inr (own_w hw 80 rfl)) (Or.inr (own_w hw 78 rfl)) (by decide) (t := (.object cEC)) (t' := (.object cQC)) (by decide) (by decide)))) (E1.wr W31) (Or.inr ⟨(own_w hw 80 rfl), rfl, hnm⟩) (own_w hw 14 rfl) (ty := (.object cEC)) (by decide) rfl rfl (g := (mkF m 339 #[.val (.ref a1), .val (.ref qn), .val (.ref edn), .val (.int p3), .val (.int (0 : Int32)), .val (.ref idn), .val (.int (0 : Int32))] [(.ref edn), (.ref a1)])) rfl rfl (hb hby d_prog_56_1_339)
  have Fw34 := (F2.other W31 (Or.inr (slot_ne (Or.inr (own_w hw 80 rfl)) (Or.inr (own_w hw 78 rfl)) (by decide) (t := (.object cEC)) (t' := (.object cQC)) (by decide) (by decide)))).same W34
  have N34 := Fr.snoc X34 N31 g1
  have O34 : Old Z n0 h34 := O31.wr W34 g1
  have pre_35 : ∀ t, Sp p e below T34 (mkF m 342 #[.val (.ref a1), .val (.ref qn), .val (.ref edn), .val (.int p3), .val (.int (0 : Int32)), .val (.ref idn), .val (.int (0 : Int32))] []) t → Steps p.tables e below E0 t := fun t k => pre_33 t (st34 t k)
  have pre_36 : ∀ t, Sp p e below T34 (mkF m 344 #[.val (.ref a1), .val (.ref qn), .val (.ref edn), .val (.int p3), .val (.int (0 : Int32)), .val (.ref idn), .val (.int (0 : Int32))] [(.int p3), (.ref a1)]) t → Steps p.tables e below E0 t := by
    intro t k
    refine pre_35 t ?_
    show Sp p e below T34 (mkF m 342 #[.val (.ref a1), .val (.ref qn), .val (.ref edn), .val (.int p3), .val (.int (0 : Int32)), .val (.ref idn), .val (.int (0 : Int32))] []) _
    refine XS.aloadN X34.here hx rfl (hb hby d_prog_56_1_342) rfl rfl ?_
    refine XS.iloadN X34.here hx rfl (hb hby d_prog_56_1_343) rfl ?_
    exact k
  obtain ⟨T37, h37, X37, e37, W37, st37⟩ := putF X34 hx hZ hown (host := "") (Or.inl (own_w hw 81 rfl)) Via.refl e34 ((F3.other W31 (Or.inr (slot_ne (Or.inr (own_w hw 82 rfl)) (Or.inr (own_w hw 78 rfl)) (by decide) (t := .int) (t' := (.object cQC)) (by decide) (by decide)))).other W34 (Or.inr (slot_ne (Or.inr (own_w hw 82 rfl)) (Or.inr (own_w hw 80 rfl)) (by decide) (t := .int) (t' := (.object cEC)) (by decide) (by decide)))) ((E1.wr W31).wr W34) (Or.inr ⟨(own_w hw 82 rfl), rfl, hnm⟩) (own_w hw 14 rfl) (ty := .int) (by decide) rfl rfl (g := (mkF m 344 #[.val (.ref a1), .val (.ref qn), .val (.ref edn), .val (.int p3), .val (.int (0 : Int32)), .val (.ref idn), .val (.int (0 : Int32))] [(.int p3), (.ref a1)])) rfl rfl (hb hby d_prog_56_1_344)
  have Fw37 := ((F3.other W31 (Or.inr (slot_ne (Or.inr (own_w hw 82 rfl)) (Or.inr (own_w hw 78 rfl)) (by decide) (t := .int) (t' := (.object cQC)) (by decide) (by decide)))).other W34 (Or.inr (slot_ne (Or.inr (own_w hw 82 rfl)) (Or.inr (own_w hw 80 rfl)) (by decide) (t := .int) (t' := (.object cEC)) (by decide) (by decide)))).same W37
  have N37 := Fr.snoc X37 N34 g1
  have O37 : Old Z n0 h37 := O34.wr W37 g1
  have pre_38 : ∀ t, Sp p e below T37 (mkF m 347 #[.val (.ref a1), .val (.ref qn), .val (.ref edn), .val (.int p3), .val (.int (0 : Int32)), .val (.ref idn), .val (.int (0 : Int32))] []) t → Steps p.tables e below E0 t := fun t k => pre_36 t (st37 t k)
  have pre_39 : ∀ t, Sp p e below T37 (mkF m 350 #[.val (.ref a1), .val (.ref qn), .val (.ref edn), .val (.int p3), .val (.int (0 : Int32)), .val (.ref idn), .val (.int (0 : Int32))] [(.int (0 : Int32)), (.ref a1)]) t → Steps p.tables e below E0 t := by
    intro t k
    refine pre_38 t ?_
    show Sp p e below T37 (mkF m 347 #[.val (.ref a1), .val (.ref qn), .val (.ref edn), .val (.int p3), .val (.int (0 : Int32)), .val (.ref idn), .val (.int (0 : Int32))] []) _
    refine XS.aloadN X37.here hx rfl (hb hby d_prog_56_1_347) rfl rfl ?_
    show Sp p e below T37 (mkF m 348 #[.val (.ref a1), .val (.ref qn), .val (.ref edn), .val (.int p3), .val (.int (0 : Int32)), .val (.ref idn), .val (.int (0 : Int32))] [(.ref a1)]) _
    refine XS.iload X37.here hx rfl (hb hby d_prog_56_1_348) rfl ?_
    exact k
  obtain ⟨T40, h40, X40, e40, W40, st40⟩ := putF X37 hx hZ hown (host := "") (Or.inl (own_w hw 83 rfl)) Via.refl e37 (((F4.other W31 (Or.inr (slot_ne (Or.inr (own_w hw 84 rfl)) (Or.inr (own_w hw 78 rfl)) (by decide) (t := .int) (t' := (.object cQC)) (by decide) (by decide)))).other W34 (Or.inr (slot_ne (Or.inr (own_w hw 84 rfl)) (Or.inr (own_w hw 80 rfl)) (by decide) (t := .int) (t' := (.object cEC)) (by decide) (by decide)))).other W37 (Or.inr (slot_ne (Or.inr (own_w hw 84 rfl)) (Or.inr (own_w hw 82 rfl)) (by decide) (t := .int) (t' := .int) (by decide) (by decide)))) (((E1.wr W31).wr W34).wr W37) (Or.inr ⟨(own_w hw 84 rfl), rfl, hnm⟩) (own_w hw 14 rfl) (ty := .int) (by decide) rfl rfl (g := (mkF m 350 #[.val (.ref a1), .val (.ref qn), .val (.ref edn), .val (.int p3), .val (.int (0 : Int32)), .val (.ref idn), .val (.int (0 : Int32))] [(.int (0 : Int32)), (.ref a1)])) rfl rfl (hb hby d_prog_56_1_350)
  have Fw40 := (((F4.other W31 (Or.inr (slot_ne (Or.inr (own_w hw 84 rfl)) (Or.inr (own_w hw 78 rfl)) (by decide) (t := .int) (t' := (.object cQC)) (by decide) (by decide)))).other W34 (Or.inr (slot_ne (Or.inr (own_w hw 84 rfl)) (Or.inr (own_w hw 80 rfl)) (by decide) (t := .int) (t' := (.object cEC)) (by decide) (by decide)))).other W37 (Or.inr (slot_ne (Or.inr (own_w hw 84 rfl)) (Or.inr (own_w hw 82 rfl)) (by decide) (t := .int) (t' := .int) (by decide) (by decide)))).same W40
  have N40 := Fr.snoc X40 N37 g1
  have O40 : Old Z n0 h40 := O37.wr W40 g1
  have pre_41 : ∀ t, Sp p e below T40 (mkF m 353 #[.val (.ref a1), .val (.ref qn), .val (.ref edn), .val (.int p3), .val (.int (0 : Int32)), .val (.ref idn), .val (.int (0 : Int32))] []) t → Steps p.tables e below E0 t := fun t k => pre_39 t (st40 t k)
  obtain ⟨fs, hr, hrun, hended, hW, hsame⟩ := X40.leave (v := none) (fun _ => rfl)
  refine ⟨_, _, pre_41 _ ?_, hrun, hended, _, _, rfl, ?_, ⟨_, rfl⟩, hW, hsame.mono (by decide) (by decide)⟩
  · show Sp p e below T40 (mkF m 353 #[.val (.ref a1), .val (.ref qn), .val (.ref edn), .val (.int p3), .val (.int (0 : Int32)), .val (.ref idn), .val (.int (0 : Int32))] []) _
    exact X40.returnOut hx Bd.returns (hb hby d_prog_56_1_353) hr
  · show Q_si Z _ _ _ _ _ h0 n0 _ T40.heap _
    rw [e40]
    exact ⟨rfl, N40, (((((Keep.refl h0 [a1]).wr W31 (Or.inl (List.mem_of_getElem? (i := 0) rfl))).wr W34 (Or.inl (List.mem_of_getElem? (i := 0) rfl))).wr W37 (Or.inl (List.mem_of_getElem? (i := 0) rfl))).wr W40 (Or.inl (List.mem_of_getElem? (i := 0) rfl))), (((Fw31.other W34 (Or.inr (slot_ne (Or.inr (own_w hw 78 rfl)) (Or.inr (own_w hw 80 rfl)) (by decide) (t := (.object cQC)) (t' := (.object cEC)) (by decide) (by decide)))).other W37 (Or.inr (slot_ne (Or.inr (own_w hw 78 rfl)) (Or.inr (own_w hw 82 rfl)) (by decide) (t := (.object cQC)) (t' := .int) (by decide) (by decide)))).other W40 (Or.inr (slot_ne (Or.inr (own_w hw 78 rfl)) (Or.inr (own_w hw 84 rfl)) (by decide) (t := (.object cQC)) (t' := .int) (by decide) (by decide)))), ((Fw34.other W37 (Or.inr (slot_ne (Or.inr (own_w hw 80 rfl)) (Or.inr (own_w hw 82 rfl)) (by decide) (t := (.object cEC)) (t' := .int) (by decide) (by decide)))).other W40 (Or.inr (slot_ne (Or.inr (own_w hw 80 rfl)) (Or.inr (own_w hw 84 rfl)) (by decide) (t := (.object cEC)) (t' := .int) (by decide) (by decide)))), (Fw37.other W40 (Or.inr (slot_ne (Or.inr (own_w hw 82 rfl)) (Or.inr (own_w hw 84 rfl)) (by decide) (t := .int) (t' := .int) (by decide) (by decide)))), Fw40⟩
theorem pn_si7 : plainName cSK = true := by first | (simp [plainName, overriddenIn]; done) | decide +kernel
theorem pd_si7_0 : parseMethodDescriptor "()V" = some ⟨[], none⟩ := by decide +kernel
theorem pd_si7_1 : parseMethodDescriptor "()Ljava/lang/String;" = some ⟨[], some (.object "java/lang/String")⟩ := by decide +kernel
theorem pd_si7_2 : parseMethodDescriptor dOT = some ⟨[], some (.object cOC)⟩ := by decide +kernel
theorem pd_si7_3 : parseMethodDescriptor "()Z" = some ⟨[], some .boolean⟩ := by decide +kernel
theorem pd_si7_4 : parseMethodDescriptor "()I" = some ⟨[], some .int⟩ := by decide +kernel
theorem ef_si7 (m : MethodId) (a1 : Addr) (qn : Addr) (edn : Addr) (p3 : Int32) (p4 : Int32) : entryFrame m #[(.ref a1), (.ref qn), (.ref edn), (.int p3), (.int p4)] 7 = (mkF m 0 #[.val (.ref a1), .val (.ref qn), .val (.ref edn), .val (.int p3), .val (.int p4), .unset, .unset] []) := by first | (simp [entryFrame, mkF, argsToLocals, Value.category]; done) | rfl
set_option maxRecDepth 65536 in
set_option maxHeartbeats 40000000 in
theorem rm_si7 (l : Launch) (Z : State) (a0 : Array Value) (hw : ∀ d ∈ tables_1, d.before a0 Z = true) (ws : List Jvm.Cond) (a1 : Addr) (qn : Addr) (edn : Addr) (p3 : Int32) (p4 : Int32) (u1 u2 u3 u4 : Value) (idn : Addr) (otn : Addr) (aX aS : Addr) (kS : ClassId) (aT : Addr) (h0 : Heap) (n0 : Nat) (O0 : Old Z n0 h0) (E1 : Exa Z h0 a1 cSK) (F1 : Fld Z h0 a1 cSK "quantity" lQC u1) (F2 : Fld Z h0 a1 cSK "end" lEC u2) (F3 : Fld Z h0 a1 cSK "pair" "I" u3) (F4 : Fld Z h0 a1 cSK "other" "I" u4) (g1 : n0 ≤ a1) (HQ : own_Qf Z qn idn otn "ACR" (1 : Int32) (4 : Int32)) (HO : own_Of Z otn (3 : Int32)) (SX : Sta Z Z.heap cOC "ACROSS" lOC (.ref aX)) (ST : Sta Z Z.heap cEC "THROUGH" lEC (.ref aT)) (SS : Sta Z Z.heap cS1 nSM "[I" (.ref aS)) (VS : Arv Z Z.heap aS kS .int (6 : Int32) [(.int (2 : Int32)), (.int (4 : Int32)), (.int (3 : Int32)), (.int (5 : Int32)), (.int (6 : Int32)), (.int (1 : Int32))] (.int (0 : Int32))) (neX : ¬ otn = aX) (neT : ¬ edn = aT) (hp : ¬ p3 < (1 : Int32)) (hq : ¬ p4 < (1 : Int32)) (hr : ¬ p4 = p3) :
    MetFree l (⟨cSK, "<init>", dSI⟩ : MethodName) (head1 (Jvm.Cond.code (⟨cSK, "<init>", dSI⟩ : MethodName) prog_56_method_1_code 7 none :: ws) ({ frames := 4, cells := 2, slots := 3, locals := 54 } : Room)) (fun a U => a = #[(.ref a1), (.ref qn), (.ref edn), (.int p3), (.int p4)] ∧ Z.Warmed39 U.vm ∧ U.heap = h0) (fun _ _ _ _ _ => True) (fun _ U o U' => ∃ v L, o = .returned v ∧ Q_si Z a1 qn edn p3 p4 h0 n0 v U'.heap L ∧ FrameEnd U o U' L ({ frames := 4, cells := 2, slots := 3, locals := 54 } : Room).cells ({ frames := 4, cells := 2, slots := 3, locals := 54 } : Room).slots) := by
  refine MetFree.of_bodySF (plainFor_of_name pn_si7) hisR ?_
  intro p e s m args below meth c s₁ Bd hml0 hP hK
  obtain ⟨rfl, hZ, hh⟩ := hP
  have hx := Bd.exec
  have hby := Bd.bytes
  have hml : c.maxLocals = 7 := hml0
  have hown : s.vm.findClass cSK = some m.cls := findClass_of_methodNamed Bd.named
  have hnm := (name_of_methodNamed Bd.named Bd.method).1
  have X0 : Stand p l e ({ frames := 4, cells := 2, slots := 3, locals := 54 } : Room) s m #[(.ref a1), (.ref qn), (.ref edn), (.int p3), (.int p4)] below meth c s₁ [] 0 0 := Stand.of_body Bd
  have e0 : s₁.heap = h0 := by rw [← hh, Bd.state]; rfl
  have N0 := Fr.nil n0
  have pre0 : ∀ t, Steps p.tables e below (s₁.setTop (mkF m 0 #[.val (.ref a1), .val (.ref qn), .val (.ref edn), .val (.int p3), .val (.int p4), .unset, .unset] [])) t → Steps p.tables e below (s₁.setTop (entryFrame m #[(.ref a1), (.ref qn), (.ref edn), (.int p3), (.int p4)] 7)) t := fun t k => castTop (ef_si7 m a1 qn edn p3 p4) k
  generalize s₁.setTop (entryFrame m #[(.ref a1), (.ref qn), (.ref edn), (.int p3), (.int p4)] 7) = E0 at pre0 ⊢
  have pre_1 : ∀ t, Sp p e below s₁ (mkF m 1 #[.val (.ref a1), .val (.ref qn), .val (.ref edn), .val (.int p3), .val (.int p4), .unset, .unset] [(.ref a1)]) t → Steps p.tables e below E0 t := by
    intro t k
    refine pre0 t ?_
    show Sp p e below s₁ (mkF m 0 #[.val (.ref a1), .val (.ref qn), .val (.ref edn), .val (.int p3), .val (.int p4), .unset, .unset] []) _
    refine XS.aloadN X0.here hx rfl (hb hby d_prog_56_1_0) rfl rfl ?_
    exact k
  obtain ⟨_, _, ⟨T2, L2, k2, n2⟩, -, X2, ⟨Lc2, hQ2, l2, y2, z2⟩, st2⟩ := X0.specialBack hx (y := (⟨"java/lang/Record", "<init>", "()V"⟩ : MethodName)) rfl hown (mvT hZ (own_w hw 31 rfl)) (mvT hZ (own_w hw 32 rfl)) (mvT hZ (own_w hw 35 rfl)) (by decide) (backOf (W := 0) (rm_rec l Z a0 hw [] a1 h0 n0 O0) hZ (own_w hw 35 rfl) (own_w hw 34 rfl) (by decide) (by decide)) (g := (mkF m 1 #[.val (.ref a1), .val (.ref qn), .val (.ref edn), .val (.int p3), .val (.int p4), .unset, .unset] [(.ref a1)])) rfl (by rw [hml]; rfl) (Steps.refl _) (a := a1) (argsL := []) (rest := []) (lenOf pd_si7_0 rfl) rfl (by show 2 * 0 + _ ≤ _; exact Nat.le_of_eq rfl) (hb hby d_prog_56_1_1) (fun _ _ => ⟨rfl, e0, (by decide : 0 + 0 ≤ _), (by decide : 0 + 0 ≤ _)⟩)
  dsimp only [Pt.U, Pt.locs, Pt.cells, Pt.slots] at X2 l2 y2 z2 st2 hQ2
  subst l2 y2 z2
  obtain ⟨rfl, N2q, e2⟩ := hQ2
  have N2 := Fr.app N0 N2q
  have pre_3 : ∀ t, Sp p e below T2 (mkF m 4 #[.val (.ref a1), .val (.ref qn), .val (.ref edn), .val (.int p3), .val (.int p4), .unset, .unset] []) t → Steps p.tables e below E0 t := fun t k => pre_1 t (st2.trans k)
  have pre_4 : ∀ t, Sp p e below T2 (mkF m 5 #[.val (.ref a1), .val (.ref qn), .val (.ref edn), .val (.int p3), .val (.int p4), .unset, .unset] [(.ref qn)]) t → Steps p.tables e below E0 t := by
    intro t k
    refine pre_3 t ?_
    show Sp p e below T2 (mkF m 4 #[.val (.ref a1), .val (.ref qn), .val (.ref edn), .val (.int p3), .val (.int p4), .unset, .unset] []) _
    refine XS.aloadN X2.here hx rfl (hb hby d_prog_56_1_4) rfl rfl ?_
    exact k
  obtain ⟨cq5, kq5, qa5, qb5, qc5⟩ := isOf hZ e2 (HQ.2.1.ext O0.2)
  obtain ⟨_, _, ⟨T5, L5, k5, n5⟩, -, X5, ⟨Lc5, hQ5, l5, y5, z5⟩, st5⟩ := X2.virtualBack hx (y := (⟨cQC, "identifier", "()Ljava/lang/String;"⟩ : MethodName)) (z := (⟨cQC, "identifier", "()Ljava/lang/String;"⟩ : MethodName)) hown (mvT hZ (own_w hw 39 rfl)) (mvT hZ (own_w hw 40 rfl)) (notFace_of_selects (args := #[]) (mvT hZ (own_w hw 42 rfl))) (mvT hZ (own_w hw 42 rfl)) (mvT hZ (own_w hw 41 rfl)) (by decide) (backOf (W := 0) (rm_idm l Z a0 hw [] qn idn h0 n0 O0 (HQ.2.2.1.ext O0.2)) hZ (own_w hw 43 rfl) (own_w hw 20 rfl) (by decide) (by decide)) qa5 qc5 (g := (mkF m 5 #[.val (.ref a1), .val (.ref qn), .val (.ref edn), .val (.int p3), .val (.int p4), .unset, .unset] [(.ref qn)])) rfl (by rw [hml]; rfl) (Steps.refl _) (argsL := []) (rest := []) (lenOf pd_si7_1 rfl) rfl (by show 2 * 0 + _ ≤ _; exact Nat.le_of_eq rfl) (hb hby d_prog_56_1_5) (fun _ _ => ⟨rfl, e2, (by decide : 0 + 0 ≤ _), (by decide : 0 + 0 ≤ _)⟩)
  dsimp only [Pt.U, Pt.locs, Pt.cells, Pt.slots] at X5 l5 y5 z5 st5 hQ5
  subst l5 y5 z5
  obtain ⟨rfl, N5q, e5⟩ := hQ5
  have N5 := Fr.app N2 N5q
  have pre_6 : ∀ t, Sp p e below T5 (mkF m 8 #[.val (.ref a1), .val (.ref qn), .val (.ref edn), .val (.int p3), .val (.int p4), .unset, .unset] [(.ref idn)]) t → Steps p.tables e below E0 t := fun t k => pre_4 t (st5.trans k)
  have pre_7 : ∀ t, Sp p e below T5 (mkF m 11 #[.val (.ref a1), .val (.ref qn), .val (.ref edn), .val (.int p3), .val (.int p4), .val (.ref idn), .unset] [(.ref qn)]) t → Steps p.tables e below E0 t := by
    intro t k
    refine pre_6 t ?_
    show Sp p e below T5 (mkF m 8 #[.val (.ref a1), .val (.ref qn), .val (.ref edn), .val (.int p3), .val (.int p4), .unset, .unset] [(.ref idn)]) _
    refine XS.astore X5.here hx rfl (hb hby d_prog_56_1_8) rfl rfl (l' := #[.val (.ref a1), .val (.ref qn), .val (.ref edn), .val (.int p3), .val (.int p4), .val (.ref idn), .unset]) rfl ?_
    refine XS.aloadN X5.here hx rfl (hb hby d_prog_56_1_10) rfl rfl ?_
    exact k
  obtain ⟨cq8, kq8, qa8, qb8, qc8⟩ := isOf hZ e5 (HQ.2.1.ext O0.2)
  obtain ⟨_, _, ⟨T8, L8, k8, n8⟩, -, X8, ⟨Lc8, hQ8, l8, y8, z8⟩, st8⟩ := X5.virtualBack hx (y := (⟨cQC, "others", dOT⟩ : MethodName)) (z := (⟨cQC, "others", dOT⟩ : MethodName)) hown (mvT hZ (own_w hw 46 rfl)) (mvT hZ (own_w hw 47 rfl)) (notFace_of_selects (args := #[]) (mvT hZ (own_w hw 49 rfl))) (mvT hZ (own_w hw 49 rfl)) (mvT hZ (own_w hw 48 rfl)) (by decide) (backOf (W := 0) (rm_otm l Z a0 hw [] qn otn h0 n0 O0 (HQ.2.2.2.1.ext O0.2)) hZ (own_w hw 50 rfl) (own_w hw 20 rfl) (by decide) (by decide)) qa8 qc8 (g := (mkF m 11 #[.val (.ref a1), .val (.ref qn), .val (.ref edn), .val (.int p3), .val (.int p4), .val (.ref idn), .unset] [(.ref qn)])) rfl (by rw [hml]; rfl) (Steps.refl _) (argsL := []) (rest := []) (lenOf pd_si7_2 rfl) rfl (by show 2 * 0 + _ ≤ _; exact Nat.le_of_eq rfl) (hb hby d_prog_56_1_11) (fun _ _ => ⟨rfl, e5, (by decide : 0 + 0 ≤ _), (by decide : 0 + 0 ≤ _)⟩)
  dsimp only [Pt.U, Pt.locs, Pt.cells, Pt.slots] at X8 l8 y8 z8 st8 hQ8
  subst l8 y8 z8
  obtain ⟨rfl, N8q, e8⟩ := hQ8
  have N8 := Fr.app N5 N8q
  have pre_9 : ∀ t, Sp p e below T8 (mkF m 14 #[.val (.ref a1), .val (.ref qn), .val (.ref edn), .val (.int p3), .val (.int p4), .val (.ref idn), .unset] [(.ref otn)]) t → Steps p.tables e below E0 t := fun t k => pre_7 t (st8.trans k)
  obtain ⟨T10, X10, e10, st10⟩ := getS X8 hx hZ hown (host := "") (own_w hw 55 rfl) Via.refl e8 (SX.ext O0.2) (g := (mkF m 14 #[.val (.ref a1), .val (.ref qn), .val (.ref edn), .val (.int p3), .val (.int p4), .val (.ref idn), .unset] [(.ref otn)])) rfl (hb hby d_prog_56_1_14)
  have pre_11 : ∀ t, Sp p e below T10 (mkF m 17 #[.val (.ref a1), .val (.ref qn), .val (.ref edn), .val (.int p3), .val (.int p4), .val (.ref idn), .unset] [(.ref aX), (.ref otn)]) t → Steps p.tables e below E0 t := fun t k => pre_9 t (st10 t k)
  have pre_12 : ∀ t, Sp p e below T10 (mkF m 87 #[.val (.ref a1), .val (.ref qn), .val (.ref edn), .val (.int p3), .val (.int p4), .val (.ref idn), .val (.int (0 : Int32))] [(.ref qn)]) t → Steps p.tables e below E0 t := by
    intro t k
    refine pre_11 t ?_
    show Sp p e below T10 (mkF m 17 #[.val (.ref a1), .val (.ref qn), .val (.ref edn), .val (.int p3), .val (.int p4), .val (.ref idn), .unset] [(.ref aX), (.ref otn)]) _
    refine XT.acmpYes X10.here hx rfl (pc0 := 17) (pc' := 24) rfl (hb hby d_prog_56_1_17) rfl rfl rfl (XT.aa_ne_t (fun q => neX (Value.ref.inj q))) (by decide) (by decide) ?_
    refine XS.iconst X10.here hx rfl (hb hby d_prog_56_1_24) ?_
    refine XS.istore X10.here hx rfl (hb hby d_prog_56_1_25) rfl (l' := #[.val (.ref a1), .val (.ref qn), .val (.ref edn), .val (.int p3), .val (.int p4), .val (.ref idn), .val (.int (0 : Int32))]) rfl ?_
    refine XS.iload X10.here hx rfl (hb hby d_prog_56_1_27) rfl ?_
    show Sp p e below T10 (mkF m 29 #[.val (.ref a1), .val (.ref qn), .val (.ref edn), .val (.int p3), .val (.int p4), .val (.ref idn), .val (.int (0 : Int32))] [(.int (0 : Int32))]) _
    refine XS.ifYes X10.here hx rfl (pc0 := 29) (pc' := 62) rfl (hb hby d_prog_56_1_29) rfl (XT.i0_eq_t (by decide)) (by decide) (by decide) ?_
    refine XS.iload X10.here hx rfl (hb hby d_prog_56_1_62) rfl ?_
    refine XS.ifNo X10.here hx rfl (hb hby d_prog_56_1_64) rfl (XT.i0_ne_f (by decide)) ?_
    refine XS.iloadN X10.here hx rfl (hb hby d_prog_56_1_67) rfl ?_
    refine XS.iconst X10.here hx rfl (hb hby d_prog_56_1_68) ?_
    refine XS.icmpYes X10.here hx rfl (pc0 := 69) (pc' := 86) rfl (hb hby d_prog_56_1_69) rfl (XT.ii_ge_t hp) (by decide) (by decide) ?_
    refine XS.aloadN X10.here hx rfl (hb hby d_prog_56_1_86) rfl rfl ?_
    exact k
  obtain ⟨cq13, kq13, qa13, qb13, qc13⟩ := isOf hZ e10 (HQ.2.1.ext O0.2)
  obtain ⟨_, _, ⟨T13, L13, k13, n13⟩, -, X13, ⟨Lc13, hQ13, l13, y13, z13⟩, st13⟩ := X10.virtualBack hx (y := (⟨cQC, "atAnEnd", "()Z"⟩ : MethodName)) (z := (⟨cQC, "atAnEnd", "()Z"⟩ : MethodName)) hown (mvT hZ (own_w hw 57 rfl)) (mvT hZ (own_w hw 58 rfl)) (notFace_of_selects (args := #[]) (mvT hZ (own_w hw 60 rfl))) (mvT hZ (own_w hw 60 rfl)) (mvT hZ (own_w hw 59 rfl)) (by decide) (backOf (W := 0) (rm_atm1 l Z a0 hw [] qn  h0 n0 O0 (HQ.2.2.2.2.1.ext O0.2)) hZ (own_w hw 61 rfl) (own_w hw 20 rfl) (by decide) (by decide)) qa13 qc13 (g := (mkF m 87 #[.val (.ref a1), .val (.ref qn), .val (.ref edn), .val (.int p3), .val (.int p4), .val (.ref idn), .val (.int (0 : Int32))] [(.ref qn)])) rfl (by rw [hml]; rfl) (Steps.refl _) (argsL := []) (rest := []) (lenOf pd_si7_3 rfl) rfl (by show 2 * 0 + _ ≤ _; exact Nat.le_of_eq rfl) (hb hby d_prog_56_1_87) (fun _ _ => ⟨rfl, e10, (by decide : 0 + 0 ≤ _), (by decide : 0 + 0 ≤ _)⟩)
  dsimp only [Pt.U, Pt.locs, Pt.cells, Pt.slots] at X13 l13 y13 z13 st13 hQ13
  subst l13 y13 z13
  obtain ⟨rfl, N13q, e13⟩ := hQ13
  have N13 := Fr.app N8 N13q
  have pre_14 : ∀ t, Sp p e below T13 (mkF m 90 #[.val (.ref a1), .val (.ref qn), .val (.ref edn), .val (.int p3), .val (.int p4), .val (.ref idn), .val (.int (0 : Int32))] [(.int (1 : Int32))]) t → Steps p.tables e below E0 t := fun t k => pre_12 t (st13.trans k)
  have pre_15 : ∀ t, Sp p e below T13 (mkF m 94 #[.val (.ref a1), .val (.ref qn), .val (.ref edn), .val (.int p3), .val (.int p4), .val (.ref idn), .val (.int (0 : Int32))] [(.ref edn)]) t → Steps p.tables e below E0 t := by
    intro t k
    refine pre_14 t ?_
    show Sp p e below T13 (mkF m 90 #[.val (.ref a1), .val (.ref qn), .val (.ref edn), .val (.int p3), .val (.int p4), .val (.ref idn), .val (.int (0 : Int32))] [(.int (1 : Int32))]) _
    refine XS.ifNo X13.here hx rfl (hb hby d_prog_56_1_90) rfl (XT.i0_eq_f (by decide)) ?_
    show Sp p e below T13 (mkF m 93 #[.val (.ref a1), .val (.ref qn), .val (.ref edn), .val (.int p3), .val (.int p4), .val (.ref idn), .val (.int (0 : Int32))] []) _
    refine XS.aloadN X13.here hx rfl (hb hby d_prog_56_1_93) rfl rfl ?_
    exact k
  obtain ⟨T16, X16, e16, st16⟩ := getS X13 hx hZ hown (host := "") (own_w hw 64 rfl) Via.refl e13 (ST.ext O0.2) (g := (mkF m 94 #[.val (.ref a1), .val (.ref qn), .val (.ref edn), .val (.int p3), .val (.int p4), .val (.ref idn), .val (.int (0 : Int32))] [(.ref edn)])) rfl (hb hby d_prog_56_1_94)
  have pre_17 : ∀ t, Sp p e below T16 (mkF m 97 #[.val (.ref a1), .val (.ref qn), .val (.ref edn), .val (.int p3), .val (.int p4), .val (.ref idn), .val (.int (0 : Int32))] [(.ref aT), (.ref edn)]) t → Steps p.tables e below E0 t := fun t k => pre_15 t (st16 t k)
  have pre_18 : ∀ t, Sp p e below T16 (mkF m 116 #[.val (.ref a1), .val (.ref qn), .val (.ref edn), .val (.int p3), .val (.int p4), .val (.ref idn), .val (.int (0 : Int32))] [(.ref qn)]) t → Steps p.tables e below E0 t := by
    intro t k
    refine pre_17 t ?_
    show Sp p e below T16 (mkF m 97 #[.val (.ref a1), .val (.ref qn), .val (.ref edn), .val (.int p3), .val (.int p4), .val (.ref idn), .val (.int (0 : Int32))] [(.ref aT), (.ref edn)]) _
    refine XT.acmpYes X16.here hx rfl (pc0 := 97) (pc' := 115) rfl (hb hby d_prog_56_1_97) rfl rfl rfl (XT.aa_ne_t (fun q => neT (Value.ref.inj q))) (by decide) (by decide) ?_
    refine XS.aloadN X16.here hx rfl (hb hby d_prog_56_1_115) rfl rfl ?_
    exact k
  obtain ⟨cq19, kq19, qa19, qb19, qc19⟩ := isOf hZ e16 (HQ.2.1.ext O0.2)
  obtain ⟨_, _, ⟨T19, L19, k19, n19⟩, -, X19, ⟨Lc19, hQ19, l19, y19, z19⟩, st19⟩ := X16.virtualBack hx (y := (⟨cQC, "atAnEnd", "()Z"⟩ : MethodName)) (z := (⟨cQC, "atAnEnd", "()Z"⟩ : MethodName)) hown (mvT hZ (own_w hw 57 rfl)) (mvT hZ (own_w hw 58 rfl)) (notFace_of_selects (args := #[]) (mvT hZ (own_w hw 60 rfl))) (mvT hZ (own_w hw 60 rfl)) (mvT hZ (own_w hw 59 rfl)) (by decide) (backOf (W := 0) (rm_atm1 l Z a0 hw [] qn  h0 n0 O0 (HQ.2.2.2.2.1.ext O0.2)) hZ (own_w hw 61 rfl) (own_w hw 20 rfl) (by decide) (by decide)) qa19 qc19 (g := (mkF m 116 #[.val (.ref a1), .val (.ref qn), .val (.ref edn), .val (.int p3), .val (.int p4), .val (.ref idn), .val (.int (0 : Int32))] [(.ref qn)])) rfl (by rw [hml]; rfl) (Steps.refl _) (argsL := []) (rest := []) (lenOf pd_si7_3 rfl) rfl (by show 2 * 0 + _ ≤ _; exact Nat.le_of_eq rfl) (hb hby d_prog_56_1_116) (fun _ _ => ⟨rfl, e16, (by decide : 0 + 0 ≤ _), (by decide : 0 + 0 ≤ _)⟩)
  dsimp only [Pt.U, Pt.locs, Pt.cells, Pt.slots] at X19 l19 y19 z19 st19 hQ19
  subst l19 y19 z19
  obtain ⟨rfl, N19q, e19⟩ := hQ19
  have N19 := Fr.app N13 N19q
  have pre_20 : ∀ t, Sp p e below T19 (mkF m 119 #[.val (.ref a1), .val (.ref qn), .val (.ref edn), .val (.int p3), .val (.int p4), .val (.ref idn), .val (.int (0 : Int32))] [(.int (1 : Int32))]) t → Steps p.tables e below E0 t := fun t k => pre_18 t (st19.trans k)
  have pre_21 : ∀ t, Sp p e below T19 (mkF m 148 #[.val (.ref a1), .val (.ref qn), .val (.ref edn), .val (.int p3), .val (.int p4), .val (.ref idn), .val (.int (0 : Int32))] []) t → Steps p.tables e below E0 t := by
    intro t k
    refine pre_20 t ?_
    show Sp p e below T19 (mkF m 119 #[.val (.ref a1), .val (.ref qn), .val (.ref edn), .val (.int p3), .val (.int p4), .val (.ref idn), .val (.int (0 : Int32))] [(.int (1 : Int32))]) _
    refine XS.ifYes X19.here hx rfl (pc0 := 119) (pc' := 148) rfl (hb hby d_prog_56_1_119) rfl (XT.i0_ne_t (by decide)) (by decide) (by decide) ?_
    exact k
  obtain ⟨T22, X22, e22, st22⟩ := getS X19 hx hZ hown (host := "") (own_w hw 65 rfl) Via.refl e19 (SS.ext O0.2) (g := (mkF m 148 #[.val (.ref a1), .val (.ref qn), .val (.ref edn), .val (.int p3), .val (.int p4), .val (.ref idn), .val (.int (0 : Int32))] [])) rfl (hb hby d_prog_56_1_148)
  have pre_23 : ∀ t, Sp p e below T22 (mkF m 151 #[.val (.ref a1), .val (.ref qn), .val (.ref edn), .val (.int p3), .val (.int p4), .val (.ref idn), .val (.int (0 : Int32))] [(.ref aS)]) t → Steps p.tables e below E0 t := fun t k => pre_21 t (st22 t k)
  have pre_24 : ∀ t, Sp p e below T22 (mkF m 152 #[.val (.ref a1), .val (.ref qn), .val (.ref edn), .val (.int p3), .val (.int p4), .val (.ref idn), .val (.int (0 : Int32))] [(.ref qn), (.ref aS)]) t → Steps p.tables e below E0 t := by
    intro t k
    refine pre_23 t ?_
    show Sp p e below T22 (mkF m 151 #[.val (.ref a1), .val (.ref qn), .val (.ref edn), .val (.int p3), .val (.int p4), .val (.ref idn), .val (.int (0 : Int32))] [(.ref aS)]) _
    refine XS.aloadN X22.here hx rfl (hb hby d_prog_56_1_151) rfl rfl ?_
    exact k
  obtain ⟨cq25, kq25, qa25, qb25, qc25⟩ := isOf hZ e22 (HQ.2.1.ext O0.2)
  obtain ⟨_, _, ⟨T25, L25, k25, n25⟩, -, X25, ⟨Lc25, hQ25, l25, y25, z25⟩, st25⟩ := X22.virtualBack hx (y := (⟨cQC, "others", dOT⟩ : MethodName)) (z := (⟨cQC, "others", dOT⟩ : MethodName)) hown (mvT hZ (own_w hw 46 rfl)) (mvT hZ (own_w hw 47 rfl)) (notFace_of_selects (args := #[]) (mvT hZ (own_w hw 49 rfl))) (mvT hZ (own_w hw 49 rfl)) (mvT hZ (own_w hw 48 rfl)) (by decide) (backOf (W := 1) (rm_otm l Z a0 hw [] qn otn h0 n0 O0 (HQ.2.2.2.1.ext O0.2)) hZ (own_w hw 50 rfl) (own_w hw 20 rfl) (by decide) (by decide)) qa25 qc25 (g := (mkF m 152 #[.val (.ref a1), .val (.ref qn), .val (.ref edn), .val (.int p3), .val (.int p4), .val (.ref idn), .val (.int (0 : Int32))] [(.ref qn), (.ref aS)])) rfl (by rw [hml]; rfl) (Steps.refl _) (argsL := []) (rest := [(.ref aS)]) (lenOf pd_si7_2 rfl) rfl (by show 2 * 0 + _ ≤ _; exact Nat.le_of_eq rfl) (hb hby d_prog_56_1_152) (fun _ _ => ⟨rfl, e22, (by decide : 0 + 0 ≤ _), (by decide : 0 + 0 ≤ _)⟩)
  dsimp only [Pt.U, Pt.locs, Pt.cells, Pt.slots] at X25 l25 y25 z25 st25 hQ25
  subst l25 y25 z25
  obtain ⟨rfl, N25q, e25⟩ := hQ25
  have N25 := Fr.app N19 N25q
  have pre_26 : ∀ t, Sp p e below T25 (mkF m 155 #[.val (.ref a1), .val (.ref qn), .val (.ref edn), .val (.int p3), .val (.int p4), .val (.ref idn), .val (.int (0 : Int32))] [(.ref otn), (.ref aS)]) t → Steps p.tables e below E0 t := fun t k => pre_24 t (st25.trans k)
  obtain ⟨cq27, kq27, qa27, qb27, qc27⟩ := isOf hZ e25 (HO.1.ext O0.2)
  obtain ⟨_, _, ⟨T27, L27, k27, n27⟩, -, X27, ⟨Lc27, hQ27, l27, y27, z27⟩, st27⟩ := X25.virtualBackUp hx (x := (⟨cOC, "ordinal", "()I"⟩ : MethodName)) (y := (⟨cEN, "ordinal", "()I"⟩ : MethodName)) hown (mvT hZ (own_w hw 68 rfl)) (mvT hZ (own_w hw 69 rfl)) (mvT hZ (own_w hw 70 rfl)) (by decide) (mvT hZ (own_w hw 72 rfl)) (mvT hZ (own_w hw 71 rfl)) (backOf (W := 1) (rm_ord l Z a0 hw [] otn (3 : Int32) h0 n0 O0 (HO.2.ext O0.2)) hZ (own_w hw 74 rfl) (own_w hw 73 rfl) (by decide) (by decide)) qa27 qc27 (g := (mkF m 155 #[.val (.ref a1), .val (.ref qn), .val (.ref edn), .val (.int p3), .val (.int p4), .val (.ref idn), .val (.int (0 : Int32))] [(.ref otn), (.ref aS)])) rfl (by rw [hml]; rfl) (Steps.refl _) (argsL := []) (rest := [(.ref aS)]) (lenOf pd_si7_4 rfl) rfl (by show 2 * 0 + _ ≤ _; exact Nat.le_of_eq rfl) (hb hby d_prog_56_1_155) (fun _ _ => ⟨rfl, e25, (by decide : 0 + 0 ≤ _), (by decide : 0 + 0 ≤ _)⟩)
  dsimp only [Pt.U, Pt.locs, Pt.cells, Pt.slots] at X27 l27 y27 z27 st27 hQ27
  subst l27 y27 z27
  obtain ⟨rfl, N27q, e27⟩ := hQ27
  have N27 := Fr.app N25 N27q
  have pre_28 : ∀ t, Sp p e below T27 (mkF m 158 #[.val (.ref a1), .val (.ref qn), .val (.ref edn), .val (.int p3), .val (.int p4), .val (.ref idn), .val (.int (0 : Int32))] [(.int (3 : Int32)), (.ref aS)]) t → Steps p.tables e below E0 t := fun t k => pre_26 t (st27.trans k)
  have pre_30 : ∀ t, Sp p e below T27 (mkF m 334 #[.val (.ref a1), .val (.ref qn), .val (.ref edn), .val (.int p3), .val (.int p4), .val (.ref idn), .val (.int (0 : Int32))] [(.ref qn), (.ref a1)]) t → Steps p.tables e below E0 t := by
    intro t k
    refine pre_28 t ?_
    obtain ⟨cl29, Ar29, -, S29, -, H29, -⟩ := id (VS.ext O0.2)
    have hin29 : ¬ ((3 : Int32) < 0 ∨ cl29.slots.size ≤ ((3 : Int32)).toNatClampNeg) := inb_of S29 (by decide)
    refine X27.iaload hx (j := (3 : Int32)) (v := (.int (5 : Int32))) (by rw [e27]; exact Ar29.1) (State.isArrayOf_alike hZ.alike Ar29.2.1) Ar29.2.2 hin29 (H29.at hin29 rfl) (g := (mkF m 158 #[.val (.ref a1), .val (.ref qn), .val (.ref edn), .val (.int p3), .val (.int p4), .val (.ref idn), .val (.int (0 : Int32))] [(.int (3 : Int32)), (.ref aS)])) rfl rfl (hb hby d_prog_56_1_158) _ ?_
    refine XS.tswIn X27.here hx rfl (pc0 := 159) (pc' := 248) rfl (hb hby d_prog_56_1_159) rfl (by decide) (o := 89) rfl (by decide) (by decide) ?_
    refine XS.iload X27.here hx rfl (hb hby d_prog_56_1_248) rfl ?_
    show Sp p e below T27 (mkF m 250 #[.val (.ref a1), .val (.ref qn), .val (.ref edn), .val (.int p3), .val (.int p4), .val (.ref idn), .val (.int (0 : Int32))] [(.int p4)]) _
    refine XS.iconst X27.here hx rfl (hb hby d_prog_56_1_250) ?_
    refine XS.icmpNo X27.here hx rfl (hb hby d_prog_56_1_251) rfl (XT.ii_lt_f hq) ?_
    refine XS.iload X27.here hx rfl (hb hby d_prog_56_1_254) rfl ?_
    refine XS.iloadN X27.here hx rfl (hb hby d_prog_56_1_256) rfl ?_
    refine XS.icmpYes X27.here hx rfl (pc0 := 257) (pc' := 332) rfl (hb hby d_prog_56_1_257) rfl (XT.ii_ne_t hr) (by decide) (by decide) ?_
    refine XS.aloadN X27.here hx rfl (hb hby d_prog_56_1_332) rfl rfl ?_
    refine XS.aloadN X27.here hx rfl (hb hby d_prog_56_1_333) rfl rfl ?_
    exact k
  obtain ⟨T31, h31, X31, e31, W31, st31⟩ := putF X27 hx hZ hown (host := "") (Or.inl (own_w hw 77 rfl)) Via.refl e27 F1 E1 (Or.inr ⟨(own_w hw 78 rfl), rfl, hnm⟩) (own_w hw 14 rfl) (ty := (.object cQC)) (by decide) rfl rfl (g := (mkF m 334 #[.val (.ref a1), .val (.ref qn), .val (.ref edn), .val (.int p3), .val (.int p4), .val (.ref idn), .val (.int (0 : Int32))] [(.ref qn), (.ref a1)])) rfl rfl (hb hby d_prog_56_1_334)
  have Fw31 := F1.same W31
  have N31 := Fr.snoc X31 N27 g1
  have O31 : Old Z n0 h31 := O0.wr W31 g1
  have pre_32 : ∀ t, Sp p e below T31 (mkF m 337 #[.val (.ref a1), .val (.ref qn), .val (.ref edn), .val (.int p3), .val (.int p4), .val (.ref idn), .val (.int (0 : Int32))] []) t → Steps p.tables e below E0 t := fun t k => pre_30 t (st31 t k)
  have pre_33 : ∀ t, Sp p e below T31 (mkF m 339 #[.val (.ref a1), .val (.ref qn), .val (.ref edn), .val (.int p3), .val (.int p4), .val (.ref idn), .val (.int (0 : Int32))] [(.ref edn), (.ref a1)]) t → Steps p.tables e below E0 t := by
    intro t k
    refine pre_32 t ?_
    show Sp p e below T31 (mkF m 337 #[.val (.ref a1), .val (.ref qn), .val (.ref edn), .val (.int p3), .val (.int p4), .val (.ref idn), .val (.int (0 : Int32))] []) _
    refine XS.aloadN X31.here hx rfl (hb hby d_prog_56_1_337) rfl rfl ?_
    show Sp p e below T31 (mkF m 338 #[.val (.ref a1), .val (.ref qn), .val (.ref edn), .val (.int p3), .val (.int p4), .val (.ref idn), .val (.int (0 : Int32))] [(.ref a1)]) _
    refine XS.aloadN X31.here hx rfl (hb hby d_prog_56_1_338) rfl rfl ?_
    exact k
  obtain ⟨T34, h34, X34, e34, W34, st34⟩ := putF X31 hx hZ hown (host := "") (Or.inl (own_w hw 79 rfl)) Via.refl e31 (F2.other W31 (Or.inr (slot_ne (Or.inr (own_w hw 80 rfl)) (Or.inr (own_w hw 78 rfl)) (by decide) (t := (.object cEC)) (t' := (.object cQC)) (by decide) (by decide)))) (E1.wr W31) (Or.inr ⟨(own_w hw 80 rfl), rfl, hnm⟩) (own_w hw 14 rfl) (ty := (.object cEC)) (by decide) rfl rfl (g := (mkF m 339 #[.val (.ref a1), .val (.ref qn), .val (.ref edn), .val (.int p3), .val (.int p4), .val (.ref idn), .val (.int (0 : Int32))] [(.ref edn), (.ref a1)])) rfl rfl (hb hby d_prog_56_1_339)
  have Fw34 := (F2.other W31 (Or.inr (slot_ne (Or.inr (own_w hw 80 rfl)) (Or.inr (own_w hw 78 rfl)) (by decide) (t := (.object cEC)) (t' := (.object cQC)) (by decide) (by decide)))).same W34
  have N34 := Fr.snoc X34 N31 g1
  have O34 : Old Z n0 h34 := O31.wr W34 g1
  have pre_35 : ∀ t, Sp p e below T34 (mkF m 342 #[.val (.ref a1), .val (.ref qn), .val (.ref edn), .val (.int p3), .val (.int p4), .val (.ref idn), .val (.int (0 : Int32))] []) t → Steps p.tables e below E0 t := fun t k => pre_33 t (st34 t k)
  have pre_36 : ∀ t, Sp p e below T34 (mkF m 344 #[.val (.ref a1), .val (.ref qn), .val (.ref edn), .val (.int p3), .val (.int p4), .val (.ref idn), .val (.int (0 : Int32))] [(.int p3), (.ref a1)]) t → Steps p.tables e below E0 t := by
    intro t k
    refine pre_35 t ?_
    show Sp p e below T34 (mkF m 342 #[.val (.ref a1), .val (.ref qn), .val (.ref edn), .val (.int p3), .val (.int p4), .val (.ref idn), .val (.int (0 : Int32))] []) _
    refine XS.aloadN X34.here hx rfl (hb hby d_prog_56_1_342) rfl rfl ?_
    refine XS.iloadN X34.here hx rfl (hb hby d_prog_56_1_343) rfl ?_
    exact k
  obtain ⟨T37, h37, X37, e37, W37, st37⟩ := putF X34 hx hZ hown (host := "") (Or.inl (own_w hw 81 rfl)) Via.refl e34 ((F3.other W31 (Or.inr (slot_ne (Or.inr (own_w hw 82 rfl)) (Or.inr (own_w hw 78 rfl)) (by decide) (t := .int) (t' := (.object cQC)) (by decide) (by decide)))).other W34 (Or.inr (slot_ne (Or.inr (own_w hw 82 rfl)) (Or.inr (own_w hw 80 rfl)) (by decide) (t := .int) (t' := (.object cEC)) (by decide) (by decide)))) ((E1.wr W31).wr W34) (Or.inr ⟨(own_w hw 82 rfl), rfl, hnm⟩) (own_w hw 14 rfl) (ty := .int) (by decide) rfl rfl (g := (mkF m 344 #[.val (.ref a1), .val (.ref qn), .val (.ref edn), .val (.int p3), .val (.int p4), .val (.ref idn), .val (.int (0 : Int32))] [(.int p3), (.ref a1)])) rfl rfl (hb hby d_prog_56_1_344)
  have Fw37 := ((F3.other W31 (Or.inr (slot_ne (Or.inr (own_w hw 82 rfl)) (Or.inr (own_w hw 78 rfl)) (by decide) (t := .int) (t' := (.object cQC)) (by decide) (by decide)))).other W34 (Or.inr (slot_ne (Or.inr (own_w hw 82 rfl)) (Or.inr (own_w hw 80 rfl)) (by decide) (t := .int) (t' := (.object cEC)) (by decide) (by decide)))).same W37
  have N37 := Fr.snoc X37 N34 g1
  have O37 : Old Z n0 h37 := O34.wr W37 g1
  have pre_38 : ∀ t, Sp p e below T37 (mkF m 347 #[.val (.ref a1), .val (.ref qn), .val (.ref edn), .val (.int p3), .val (.int p4), .val (.ref idn), .val (.int (0 : Int32))] []) t → Steps p.tables e below E0 t := fun t k => pre_36 t (st37 t k)
  have pre_39 : ∀ t, Sp p e below T37 (mkF m 350 #[.val (.ref a1), .val (.ref qn), .val (.ref edn), .val (.int p3), .val (.int p4), .val (.ref idn), .val (.int (0 : Int32))] [(.int p4), (.ref a1)]) t → Steps p.tables e below E0 t := by
    intro t k
    refine pre_38 t ?_
    show Sp p e below T37 (mkF m 347 #[.val (.ref a1), .val (.ref qn), .val (.ref edn), .val (.int p3), .val (.int p4), .val (.ref idn), .val (.int (0 : Int32))] []) _
    refine XS.aloadN X37.here hx rfl (hb hby d_prog_56_1_347) rfl rfl ?_
    refine XS.iload X37.here hx rfl (hb hby d_prog_56_1_348) rfl ?_
    exact k
  obtain ⟨T40, h40, X40, e40, W40, st40⟩ := putF X37 hx hZ hown (host := "") (Or.inl (own_w hw 83 rfl)) Via.refl e37 (((F4.other W31 (Or.inr (slot_ne (Or.inr (own_w hw 84 rfl)) (Or.inr (own_w hw 78 rfl)) (by decide) (t := .int) (t' := (.object cQC)) (by decide) (by decide)))).other W34 (Or.inr (slot_ne (Or.inr (own_w hw 84 rfl)) (Or.inr (own_w hw 80 rfl)) (by decide) (t := .int) (t' := (.object cEC)) (by decide) (by decide)))).other W37 (Or.inr (slot_ne (Or.inr (own_w hw 84 rfl)) (Or.inr (own_w hw 82 rfl)) (by decide) (t := .int) (t' := .int) (by decide) (by decide)))) (((E1.wr W31).wr W34).wr W37) (Or.inr ⟨(own_w hw 84 rfl), rfl, hnm⟩) (own_w hw 14 rfl) (ty := .int) (by decide) rfl rfl (g := (mkF m 350 #[.val (.ref a1), .val (.ref qn), .val (.ref edn), .val (.int p3), .val (.int p4), .val (.ref idn), .val (.int (0 : Int32))] [(.int p4), (.ref a1)])) rfl rfl (hb hby d_prog_56_1_350)
  have Fw40 := (((F4.other W31 (Or.inr (slot_ne (Or.inr (own_w hw 84 rfl)) (Or.inr (own_w hw 78 rfl)) (by decide) (t := .int) (t' := (.object cQC)) (by decide) (by decide)))).other W34 (Or.inr (slot_ne (Or.inr (own_w hw 84 rfl)) (Or.inr (own_w hw 80 rfl)) (by decide) (t := .int) (t' := (.object cEC)) (by decide) (by decide)))).other W37 (Or.inr (slot_ne (Or.inr (own_w hw 84 rfl)) (Or.inr (own_w hw 82 rfl)) (by decide) (t := .int) (t' := .int) (by decide) (by decide)))).same W40
  have N40 := Fr.snoc X40 N37 g1
  have O40 : Old Z n0 h40 := O37.wr W40 g1
  have pre_41 : ∀ t, Sp p e below T40 (mkF m 353 #[.val (.ref a1), .val (.ref qn), .val (.ref edn), .val (.int p3), .val (.int p4), .val (.ref idn), .val (.int (0 : Int32))] []) t → Steps p.tables e below E0 t := fun t k => pre_39 t (st40 t k)
  obtain ⟨fs, hr, hrun, hended, hW, hsame⟩ := X40.leave (v := none) (fun _ => rfl)
  refine ⟨_, _, pre_41 _ ?_, hrun, hended, _, _, rfl, ?_, ⟨_, rfl⟩, hW, hsame.mono (by decide) (by decide)⟩
  · show Sp p e below T40 (mkF m 353 #[.val (.ref a1), .val (.ref qn), .val (.ref edn), .val (.int p3), .val (.int p4), .val (.ref idn), .val (.int (0 : Int32))] []) _
    exact X40.returnOut hx Bd.returns (hb hby d_prog_56_1_353) hr
  · show Q_si Z _ _ _ _ _ h0 n0 _ T40.heap _
    rw [e40]
    exact ⟨rfl, N40, (((((Keep.refl h0 [a1]).wr W31 (Or.inl (List.mem_of_getElem? (i := 0) rfl))).wr W34 (Or.inl (List.mem_of_getElem? (i := 0) rfl))).wr W37 (Or.inl (List.mem_of_getElem? (i := 0) rfl))).wr W40 (Or.inl (List.mem_of_getElem? (i := 0) rfl))), (((Fw31.other W34 (Or.inr (slot_ne (Or.inr (own_w hw 78 rfl)) (Or.inr (own_w hw 80 rfl)) (by decide) (t := (.object cQC)) (t' := (.object cEC)) (by decide) (by decide)))).other W37 (Or.inr (slot_ne (Or.inr (own_w hw 78 rfl)) (Or.inr (own_w hw 82 rfl)) (by decide) (t := (.object cQC)) (t' := .int) (by decide) (by decide)))).other W40 (Or.inr (slot_ne (Or.inr (own_w hw 78 rfl)) (Or.inr (own_w hw 84 rfl)) (by decide) (t := (.object cQC)) (t' := .int) (by decide) (by decide)))), ((Fw34.other W37 (Or.inr (slot_ne (Or.inr (own_w hw 80 rfl)) (Or.inr (own_w hw 82 rfl)) (by decide) (t := (.object cEC)) (t' := .int) (by decide) (by decide)))).other W40 (Or.inr (slot_ne (Or.inr (own_w hw 80 rfl)) (Or.inr (own_w hw 84 rfl)) (by decide) (t := (.object cEC)) (t' := .int) (by decide) (by decide)))), (Fw37.other W40 (Or.inr (slot_ne (Or.inr (own_w hw 82 rfl)) (Or.inr (own_w hw 84 rfl)) (by decide) (t := .int) (t' := .int) (by decide) (by decide)))), Fw40⟩
def own_W (Z : State) (qa ia oa ea : Int32 → Addr) (aS : Addr) (kS : ClassId) (aV cA cB : Addr) (kV : ClassId) : Prop := (own_Qf Z (qa (0 : Int32)) (ia (0 : Int32)) (oa (0 : Int32)) "INSERTION_LOSS" (0 : Int32) (0 : Int32) ∧ own_Qf Z (qa (1 : Int32)) (ia (1 : Int32)) (oa (1 : Int32)) "NEXT" (1 : Int32) (1 : Int32) ∧ own_Qf Z (qa (2 : Int32)) (ia (2 : Int32)) (oa (3 : Int32)) "FEXT" (1 : Int32) (2 : Int32) ∧ own_Qf Z (qa (3 : Int32)) (ia (3 : Int32)) (oa (2 : Int32)) "PSNEXT" (1 : Int32) (3 : Int32) ∧ own_Qf Z (qa (4 : Int32)) (ia (4 : Int32)) (oa (4 : Int32)) "RESISTANCE" (0 : Int32) (12 : Int32) ∧ own_Qf Z (qa (5 : Int32)) (ia (5 : Int32)) (oa (5 : Int32)) "DELAY_SKEW" (0 : Int32) (11 : Int32) ∧ own_Qf Z (qa (6 : Int32)) (ia (6 : Int32)) (oa (0 : Int32)) "RETURN_LOSS" (1 : Int32) (8 : Int32) ∧ own_Qf Z (qa (7 : Int32)) (ia (7 : Int32)) (oa (3 : Int32)) "ACR" (1 : Int32) (4 : Int32)) ∧ (own_Of Z (oa (0 : Int32)) (0 : Int32) ∧ own_Of Z (oa (1 : Int32)) (1 : Int32) ∧ own_Of Z (oa (2 : Int32)) (2 : Int32) ∧ own_Of Z (oa (3 : Int32)) (3 : Int32) ∧ own_Of Z (oa (4 : Int32)) (4 : Int32) ∧ own_Of Z (oa (5 : Int32)) (5 : Int32)) ∧ (own_Ef Z (ea (0 : Int32)) "THROUGH" (0 : Int32) ∧ own_Ef Z (ea (1 : Int32)) "NEAR" (1 : Int32) ∧ own_Ef Z (ea (2 : Int32)) "FAR" (2 : Int32)) ∧ Sta Z Z.heap cOC "ACROSS" lOC (.ref (oa (5 : Int32))) ∧ Sta Z Z.heap cS1 nSM "[I" (.ref aS) ∧ Arv Z Z.heap aS kS .int (6 : Int32) [(.int (2 : Int32)), (.int (4 : Int32)), (.int (3 : Int32)), (.int (5 : Int32)), (.int (6 : Int32)), (.int (1 : Int32))] (.int (0 : Int32)) ∧ ((Sta Z Z.heap cCC "$VALUES" aCC (.ref aV)) ∧ (Exa Z Z.heap aV aCC) ∧ (Arv Z Z.heap aV kV (.object cCC) (2 : Int32) [(.ref cA), (.ref cB)] .null) ∧ (Exa Z Z.heap cA cCC) ∧ (Fld Z Z.heap cA cEN "ordinal" "I" (.int (0 : Int32))) ∧ (Exa Z Z.heap cB cCC) ∧ (Fld Z Z.heap cB cEN "ordinal" "I" (.int (1 : Int32))))
theorem own_ok_k {a b c d : Int32} (h : own_ok a b c d) : a = (0 : Int32) ∨ a = (1 : Int32) ∨ a = (2 : Int32) ∨ a = (3 : Int32) ∨ a = (4 : Int32) ∨ a = (5 : Int32) ∨ a = (6 : Int32) ∨ a = (7 : Int32) := by
  rcases h with h | h | h | h | h | h | h | h <;> simp [h.1]
theorem own_ok_e {a b c d : Int32} (h : own_ok a b c d) : b = (0 : Int32) ∨ b = (1 : Int32) ∨ b = (2 : Int32) := by
  rcases h with h | h | h | h | h | h | h | h <;> first | exact Or.inl h.2.1 | exact Or.inr h.2.1
def own_ord (k : Int32) : Int32 := if k = (4 : Int32) then (12 : Int32) else if k = (5 : Int32) then (11 : Int32) else if k = (6 : Int32) then (8 : Int32) else if k = (7 : Int32) then (4 : Int32) else k
theorem own_qinj {Z : State} {qa ia oa ea : Int32 → Addr} {aS : Addr} {kS : ClassId} {aV cA cB : Addr} {kV : ClassId} (HW : own_W Z qa ia oa ea aS kS aV cA cB kV) {a b c d a' b' c' d' : Int32} (h : own_ok a b c d) (h' : own_ok a' b' c' d') : qa a = qa a' ↔ a = a' := by
  obtain ⟨⟨HQ0, HQ1, HQ2, HQ3, HQ4, HQ5, HQ6, HQ7⟩, -⟩ := HW
  have F : ∀ k, (k = (0 : Int32) ∨ k = (1 : Int32) ∨ k = (2 : Int32) ∨ k = (3 : Int32) ∨ k = (4 : Int32) ∨ k = (5 : Int32) ∨ k = (6 : Int32) ∨ k = (7 : Int32)) → Fld Z Z.heap (qa k) cEN "ordinal" "I" (.int (own_ord k)) := by
    intro k hk
    rcases hk with rfl | rfl | rfl | rfl | rfl | rfl | rfl | rfl
    · exact HQ0.2.2.2.2.2
    · exact HQ1.2.2.2.2.2
    · exact HQ2.2.2.2.2.2
    · exact HQ3.2.2.2.2.2
    · exact HQ4.2.2.2.2.2
    · exact HQ5.2.2.2.2.2
    · exact HQ6.2.2.2.2.2
    · exact HQ7.2.2.2.2.2
  refine ⟨fun e => ?_, fun e => by rw [e]⟩
  have F1 := F a (own_ok_k h)
  have F2 := F a' (own_ok_k h')
  rw [e] at F1
  have o := own_val F1 F2
  rcases own_ok_k h with rfl | rfl | rfl | rfl | rfl | rfl | rfl | rfl <;> rcases own_ok_k h' with rfl | rfl | rfl | rfl | rfl | rfl | rfl | rfl <;> first | rfl | exact absurd o (by decide)
theorem own_einj {Z : State} {qa ia oa ea : Int32 → Addr} {aS : Addr} {kS : ClassId} {aV cA cB : Addr} {kV : ClassId} (HW : own_W Z qa ia oa ea aS kS aV cA cB kV) {a b c d a' b' c' d' : Int32} (h : own_ok a b c d) (h' : own_ok a' b' c' d') : ea b = ea b' ↔ b = b' := by
  obtain ⟨-, -, ⟨HE0, HE1, HE2⟩, -⟩ := HW
  have F : ∀ k, (k = (0 : Int32) ∨ k = (1 : Int32) ∨ k = (2 : Int32)) → Fld Z Z.heap (ea k) cEN "ordinal" "I" (.int k) := by
    intro k hk
    rcases hk with rfl | rfl | rfl
    · exact HE0.2.2
    · exact HE1.2.2
    · exact HE2.2.2
  refine ⟨fun e => ?_, fun e => by rw [e]⟩
  have F1 := F b (own_ok_e h)
  have F2 := F b' (own_ok_e h')
  rw [e] at F1
  exact own_val F1 F2
theorem own_sw {q1 q2 e1 e2 : Addr} {a b c d X Y W : Int32} (hq : q1 = q2 ↔ a = b) (he : e1 = e2 ↔ c = d) : (if q1 = q2 then (if e1 = e2 then X else Y) else W) = (if a = b then (if c = d then X else Y) else W) := by
  simp only [hq, he]

theorem own_rootI {Z : State} {a0 : Array Value} {O K : String} {n : Nat} (w : (Jvm.Cond.noSuperclass O).before a0 Z = true) (wk : (Jvm.Cond.instantiable K n).before a0 Z = true) (hn : O ≠ K) : NS Z O K := by
  obtain ⟨c, k, h1, h2, h3, -, -⟩ := Cond.noSuperclass_spec w
  obtain ⟨t, k2, g1, -⟩ := Cond.instantiable_spec wk
  have ne := ids_ne h1 g1 hn
  refine ⟨c, t, h1, g1, fun fuel => ?_⟩
  cases fuel with
  | zero => rfl
  | succ f => simp [Vm.isSubclassAux, ne, h2, h3]
theorem own_noI {Z : State} {a0 : Array Value} {C S K : String} {m : Nat} (w : (Jvm.Cond.superclass C S).before a0 Z = true) (wk : (Jvm.Cond.instantiable K m).before a0 Z = true) (n : NS Z C K) (hn : C ≠ K) : ∃ c t, Z.vm.findClass C = some c ∧ Z.vm.findClass K = some t ∧ Z.vm.assignable c t = false := by
  obtain ⟨c, t, h0, g0, n3⟩ := n
  obtain ⟨p, k, kp, h1, h2, h3, h4, h5, -, h7⟩ := Cond.superclass_spec h0 w
  obtain ⟨t', k', g1, g2, g5, g7, -⟩ := Cond.instantiable_spec wk
  cases g0.symm.trans g1
  have g8 : k'.isInterface = false := by cases hq : k'.isInterface <;> simp [hq] at g7 ⊢
  have ne := ids_ne h0 g0 hn
  refine ⟨c, t, h0, g0, ?_⟩
  show Z.vm.assignableAux (255 + 1) c t = false
  simp [Vm.assignableAux, ne, h2, g2, h5, g5, g8, Vm.isSubclass, n3]

theorem own_no {Z : State} {a0 : Array Value} (hw : ∀ d ∈ tables_1, d.before a0 Z = true) : ∃ c t, Z.vm.findClass cIN = some c ∧ Z.vm.findClass cSK = some t ∧ Z.vm.assignable c t = false := own_noI (own_w hw 99 rfl) (own_w hw 14 rfl) (NS.step (own_w hw 99 rfl) (NS.step (own_w hw 100 rfl) (own_rootI (own_w hw 101 rfl) (own_w hw 14 rfl) (by decide)) (by decide)) (by decide)) (by decide)
theorem rm_qua (l : Launch) (Z : State) (a0 : Array Value) (hw : ∀ d ∈ tables_1, d.before a0 Z = true) (ws : List Jvm.Cond) (f0 f1 f2 f3 : Int32) (qa ia oa ea : Int32 → Addr) (aS : Addr) (kS : ClassId) (aV cA cB : Addr) (kV : ClassId) (h0 : Heap) (n0 : Nat) (O0 : Old Z n0 h0) (hok : own_ok f0 f1 f2 f3) (HW : own_W Z qa ia oa ea aS kS aV cA cB kV) :
    MetFree l (⟨cLW, "quantity", dQM⟩ : MethodName) (head1 (Jvm.Cond.code (⟨cLW, "quantity", dQM⟩ : MethodName) method_4_code 1 (some (.object cQC)) :: ws) ({ frames := 0, cells := 0, slots := 0, locals := 0 } : Room)) (fun a U => a = #[(.int f0)] ∧ Z.Warmed39 U.vm ∧ U.heap = h0) (fun _ _ _ _ _ => True) (fun _ U o U' => ∃ v L, o = .returned v ∧ Q_qu Z (qa f0) h0 n0 v U'.heap L ∧ FrameEnd U o U' L ({ frames := 0, cells := 0, slots := 0, locals := 0 } : Room).cells ({ frames := 0, cells := 0, slots := 0, locals := 0 } : Room).slots) := by
  obtain ⟨⟨HQ0, HQ1, HQ2, HQ3, HQ4, HQ5, HQ6, HQ7⟩, ⟨HO0, HO1, HO2, HO3, HO4, HO5⟩, ⟨HE0, HE1, HE2⟩, SX, SS, VS, ⟨SV, EV, VV, EA, FA, EB, FB⟩⟩ := HW
  rcases own_ok_k hok with rfl | rfl | rfl | rfl | rfl | rfl | rfl | rfl
  · exact rm_qu0 l Z a0 hw ws (qa (0 : Int32)) h0 n0 O0 HQ0.1
  · exact rm_qu1 l Z a0 hw ws (qa (1 : Int32)) h0 n0 O0 HQ1.1
  · exact rm_qu2 l Z a0 hw ws (qa (2 : Int32)) h0 n0 O0 HQ2.1
  · exact rm_qu3 l Z a0 hw ws (qa (3 : Int32)) h0 n0 O0 HQ3.1
  · exact rm_qu4 l Z a0 hw ws (qa (4 : Int32)) h0 n0 O0 HQ4.1
  · exact rm_qu5 l Z a0 hw ws (qa (5 : Int32)) h0 n0 O0 HQ5.1
  · exact rm_qu6 l Z a0 hw ws (qa (6 : Int32)) h0 n0 O0 HQ6.1
  · exact rm_qu7 l Z a0 hw ws (qa (7 : Int32)) h0 n0 O0 HQ7.1
theorem rm_ena (l : Launch) (Z : State) (a0 : Array Value) (hw : ∀ d ∈ tables_1, d.before a0 Z = true) (ws : List Jvm.Cond) (f0 f1 f2 f3 : Int32) (qa ia oa ea : Int32 → Addr) (aS : Addr) (kS : ClassId) (aV cA cB : Addr) (kV : ClassId) (h0 : Heap) (n0 : Nat) (O0 : Old Z n0 h0) (hok : own_ok f0 f1 f2 f3) (HW : own_W Z qa ia oa ea aS kS aV cA cB kV) :
    MetFree l (⟨cLW, "end", dEM⟩ : MethodName) (head1 (Jvm.Cond.code (⟨cLW, "end", dEM⟩ : MethodName) method_5_code 1 (some (.object cEC)) :: ws) ({ frames := 0, cells := 0, slots := 0, locals := 0 } : Room)) (fun a U => a = #[(.int f1)] ∧ Z.Warmed39 U.vm ∧ U.heap = h0) (fun _ _ _ _ _ => True) (fun _ U o U' => ∃ v L, o = .returned v ∧ Q_qu Z (ea f1) h0 n0 v U'.heap L ∧ FrameEnd U o U' L ({ frames := 0, cells := 0, slots := 0, locals := 0 } : Room).cells ({ frames := 0, cells := 0, slots := 0, locals := 0 } : Room).slots) := by
  obtain ⟨⟨HQ0, HQ1, HQ2, HQ3, HQ4, HQ5, HQ6, HQ7⟩, ⟨HO0, HO1, HO2, HO3, HO4, HO5⟩, ⟨HE0, HE1, HE2⟩, SX, SS, VS, ⟨SV, EV, VV, EA, FA, EB, FB⟩⟩ := HW
  rcases own_ok_e hok with rfl | rfl | rfl
  · exact rm_en0 l Z a0 hw ws (ea (0 : Int32)) h0 n0 O0 HE0.1
  · exact rm_en1 l Z a0 hw ws (ea (1 : Int32)) h0 n0 O0 HE1.1
  · exact rm_en2 l Z a0 hw ws (ea (2 : Int32)) h0 n0 O0 HE2.1
theorem rm_sia (l : Launch) (Z : State) (a0 : Array Value) (hw : ∀ d ∈ tables_1, d.before a0 Z = true) (ws : List Jvm.Cond) (a1 : Addr) (f0 f1 f2 f3 : Int32) (u1 u2 u3 u4 : Value) (qa ia oa ea : Int32 → Addr) (aS : Addr) (kS : ClassId) (aV cA cB : Addr) (kV : ClassId) (h0 : Heap) (n0 : Nat) (O0 : Old Z n0 h0) (E1 : Exa Z h0 a1 cSK) (F1 : Fld Z h0 a1 cSK "quantity" lQC u1) (F2 : Fld Z h0 a1 cSK "end" lEC u2) (F3 : Fld Z h0 a1 cSK "pair" "I" u3) (F4 : Fld Z h0 a1 cSK "other" "I" u4) (g1 : n0 ≤ a1) (hok : own_ok f0 f1 f2 f3) (HW : own_W Z qa ia oa ea aS kS aV cA cB kV) :
    MetFree l (⟨cSK, "<init>", dSI⟩ : MethodName) (head1 (Jvm.Cond.code (⟨cSK, "<init>", dSI⟩ : MethodName) prog_56_method_1_code 7 none :: ws) ({ frames := 4, cells := 2, slots := 3, locals := 54 } : Room)) (fun a U => a = #[(.ref a1), (.ref (qa f0)), (.ref (ea f1)), (.int f2), (.int f3)] ∧ Z.Warmed39 U.vm ∧ U.heap = h0) (fun _ _ _ _ _ => True) (fun _ U o U' => ∃ v L, o = .returned v ∧ Q_si Z a1 (qa f0) (ea f1) f2 f3 h0 n0 v U'.heap L ∧ FrameEnd U o U' L ({ frames := 4, cells := 2, slots := 3, locals := 54 } : Room).cells ({ frames := 4, cells := 2, slots := 3, locals := 54 } : Room).slots) := by
  obtain ⟨⟨HQ0, HQ1, HQ2, HQ3, HQ4, HQ5, HQ6, HQ7⟩, ⟨HO0, HO1, HO2, HO3, HO4, HO5⟩, ⟨HE0, HE1, HE2⟩, SX, SS, VS, ⟨SV, EV, VV, EA, FA, EB, FB⟩⟩ := HW
  rcases hok with ⟨h0q, h1q, hc, h3q⟩ | ⟨h0q, h1q, hc⟩ | ⟨h0q, h1q, hc⟩ | ⟨h0q, h1q, hc, h3q⟩ | ⟨h0q, h1q, hc, h3q⟩ | ⟨h0q, h1q, h2q, h3q⟩ | ⟨h0q, h1q, hc, h3q⟩ | ⟨h0q, h1q, hc⟩
  · subst h0q; subst h3q; subst h1q; exact rm_si0 l Z a0 hw ws a1 (qa (0 : Int32)) (ea (0 : Int32)) f2 u1 u2 u3 u4 (ia (0 : Int32)) (oa (0 : Int32)) (oa (5 : Int32)) aS kS h0 n0 O0 E1 F1 F2 F3 F4 g1 HQ0 HO0 SX HE0.1 SS VS (own_neO HO0.2 HO5.2 (by decide)) hc
  · subst h0q; rcases h1q with rfl | rfl
    · exact rm_si1 l Z a0 hw ws a1 (qa (1 : Int32)) (ea (1 : Int32)) f2 f3 u1 u2 u3 u4 (ia (1 : Int32)) (oa (1 : Int32)) (oa (5 : Int32)) aS kS (ea (0 : Int32)) h0 n0 O0 E1 F1 F2 F3 F4 g1 HQ1 HO1 SX HE0.1 SS VS (own_neO HO1.2 HO5.2 (by decide)) (own_neO HE1.2.2 HE0.2.2 (by decide)) hc.1 hc.2
    · exact rm_si1 l Z a0 hw ws a1 (qa (1 : Int32)) (ea (2 : Int32)) f2 f3 u1 u2 u3 u4 (ia (1 : Int32)) (oa (1 : Int32)) (oa (5 : Int32)) aS kS (ea (0 : Int32)) h0 n0 O0 E1 F1 F2 F3 F4 g1 HQ1 HO1 SX HE0.1 SS VS (own_neO HO1.2 HO5.2 (by decide)) (own_neO HE2.2.2 HE0.2.2 (by decide)) hc.1 hc.2
  · subst h0q; rcases h1q with rfl | rfl
    · exact rm_si2 l Z a0 hw ws a1 (qa (2 : Int32)) (ea (1 : Int32)) f2 f3 u1 u2 u3 u4 (ia (2 : Int32)) (oa (3 : Int32)) (oa (5 : Int32)) aS kS (ea (0 : Int32)) h0 n0 O0 E1 F1 F2 F3 F4 g1 HQ2 HO3 SX HE0.1 SS VS (own_neO HO3.2 HO5.2 (by decide)) (own_neO HE1.2.2 HE0.2.2 (by decide)) hc.1 hc.2.1 hc.2.2
    · exact rm_si2 l Z a0 hw ws a1 (qa (2 : Int32)) (ea (2 : Int32)) f2 f3 u1 u2 u3 u4 (ia (2 : Int32)) (oa (3 : Int32)) (oa (5 : Int32)) aS kS (ea (0 : Int32)) h0 n0 O0 E1 F1 F2 F3 F4 g1 HQ2 HO3 SX HE0.1 SS VS (own_neO HO3.2 HO5.2 (by decide)) (own_neO HE2.2.2 HE0.2.2 (by decide)) hc.1 hc.2.1 hc.2.2
  · subst h0q; subst h3q; rcases h1q with rfl | rfl
    · exact rm_si3 l Z a0 hw ws a1 (qa (3 : Int32)) (ea (1 : Int32)) f2 u1 u2 u3 u4 (ia (3 : Int32)) (oa (2 : Int32)) (oa (5 : Int32)) aS kS (ea (0 : Int32)) h0 n0 O0 E1 F1 F2 F3 F4 g1 HQ3 HO2 SX HE0.1 SS VS (own_neO HO2.2 HO5.2 (by decide)) (own_neO HE1.2.2 HE0.2.2 (by decide)) hc
    · exact rm_si3 l Z a0 hw ws a1 (qa (3 : Int32)) (ea (2 : Int32)) f2 u1 u2 u3 u4 (ia (3 : Int32)) (oa (2 : Int32)) (oa (5 : Int32)) aS kS (ea (0 : Int32)) h0 n0 O0 E1 F1 F2 F3 F4 g1 HQ3 HO2 SX HE0.1 SS VS (own_neO HO2.2 HO5.2 (by decide)) (own_neO HE2.2.2 HE0.2.2 (by decide)) hc
  · subst h0q; subst h1q; rcases h3q with rfl | rfl
    · exact rm_si4_1 l Z a0 hw ws a1 (qa (4 : Int32)) (ea (0 : Int32)) f2 u1 u2 u3 u4 (ia (4 : Int32)) (oa (4 : Int32)) (oa (5 : Int32)) aS kS aV cA cB kV h0 n0 O0 E1 F1 F2 F3 F4 g1 HQ4 HO4 SX HE0.1 SS VS (own_neO HO4.2 HO5.2 (by decide)) SV EV VV EA FA EB FB hc
    · exact rm_si4_2 l Z a0 hw ws a1 (qa (4 : Int32)) (ea (0 : Int32)) f2 u1 u2 u3 u4 (ia (4 : Int32)) (oa (4 : Int32)) (oa (5 : Int32)) aS kS aV cA cB kV h0 n0 O0 E1 F1 F2 F3 F4 g1 HQ4 HO4 SX HE0.1 SS VS (own_neO HO4.2 HO5.2 (by decide)) SV EV VV EA FA EB FB hc
  · subst h0q; subst h2q; subst h3q; subst h1q; exact rm_si5 l Z a0 hw ws a1 (qa (5 : Int32)) (ea (0 : Int32)) u1 u2 u3 u4 (ia (5 : Int32)) (oa (5 : Int32)) aS kS h0 n0 O0 E1 F1 F2 F3 F4 g1 HQ5 HO5 SX HE0.1 SS VS
  · subst h0q; subst h3q; rcases h1q with rfl | rfl
    · exact rm_si6 l Z a0 hw ws a1 (qa (6 : Int32)) (ea (1 : Int32)) f2 u1 u2 u3 u4 (ia (6 : Int32)) (oa (0 : Int32)) (oa (5 : Int32)) aS kS (ea (0 : Int32)) h0 n0 O0 E1 F1 F2 F3 F4 g1 HQ6 HO0 SX HE0.1 SS VS (own_neO HO0.2 HO5.2 (by decide)) (own_neO HE1.2.2 HE0.2.2 (by decide)) hc
    · exact rm_si6 l Z a0 hw ws a1 (qa (6 : Int32)) (ea (2 : Int32)) f2 u1 u2 u3 u4 (ia (6 : Int32)) (oa (0 : Int32)) (oa (5 : Int32)) aS kS (ea (0 : Int32)) h0 n0 O0 E1 F1 F2 F3 F4 g1 HQ6 HO0 SX HE0.1 SS VS (own_neO HO0.2 HO5.2 (by decide)) (own_neO HE2.2.2 HE0.2.2 (by decide)) hc
  · subst h0q; rcases h1q with rfl | rfl
    · exact rm_si7 l Z a0 hw ws a1 (qa (7 : Int32)) (ea (1 : Int32)) f2 f3 u1 u2 u3 u4 (ia (7 : Int32)) (oa (3 : Int32)) (oa (5 : Int32)) aS kS (ea (0 : Int32)) h0 n0 O0 E1 F1 F2 F3 F4 g1 HQ7 HO3 SX HE0.1 SS VS (own_neO HO3.2 HO5.2 (by decide)) (own_neO HE1.2.2 HE0.2.2 (by decide)) hc.1 hc.2.1 hc.2.2
    · exact rm_si7 l Z a0 hw ws a1 (qa (7 : Int32)) (ea (2 : Int32)) f2 f3 u1 u2 u3 u4 (ia (7 : Int32)) (oa (3 : Int32)) (oa (5 : Int32)) aS kS (ea (0 : Int32)) h0 n0 O0 E1 F1 F2 F3 F4 g1 HQ7 HO3 SX HE0.1 SS VS (own_neO HO3.2 HO5.2 (by decide)) (own_neO HE2.2.2 HE0.2.2 (by decide)) hc.1 hc.2.1 hc.2.2
theorem d_method_6_0 : decode method_6_code 0 = .ok (.new 18, 3) := by decide +kernel
theorem d_method_6_3 : decode method_6_code 3 = .ok (.dup, 1) := by decide +kernel
theorem d_method_6_4 : decode method_6_code 4 = .ok (.aload_n 0, 1) := by decide +kernel
theorem d_method_6_5 : decode method_6_code 5 = .ok (.iconst 0, 1) := by decide +kernel
theorem d_method_6_6 : decode method_6_code 6 = .ok (.iaload, 1) := by decide +kernel
theorem d_method_6_7 : decode method_6_code 7 = .ok (.invokestatic 79, 3) := by decide +kernel
theorem d_method_6_10 : decode method_6_code 10 = .ok (.aload_n 0, 1) := by decide +kernel
theorem d_method_6_11 : decode method_6_code 11 = .ok (.iconst 1, 1) := by decide +kernel
theorem d_method_6_12 : decode method_6_code 12 = .ok (.iaload, 1) := by decide +kernel
theorem d_method_6_13 : decode method_6_code 13 = .ok (.invokestatic 83, 3) := by decide +kernel
theorem d_method_6_16 : decode method_6_code 16 = .ok (.aload_n 0, 1) := by decide +kernel
theorem d_method_6_17 : decode method_6_code 17 = .ok (.iconst 2, 1) := by decide +kernel
theorem d_method_6_18 : decode method_6_code 18 = .ok (.iaload, 1) := by decide +kernel
theorem d_method_6_19 : decode method_6_code 19 = .ok (.aload_n 0, 1) := by decide +kernel
theorem d_method_6_20 : decode method_6_code 20 = .ok (.iconst 3, 1) := by decide +kernel
theorem d_method_6_21 : decode method_6_code 21 = .ok (.iaload, 1) := by decide +kernel
theorem d_method_6_22 : decode method_6_code 22 = .ok (.invokespecial 87, 3) := by decide +kernel
theorem d_method_6_25 : decode method_6_code 25 = .ok (.areturn, 1) := by decide +kernel
theorem pn_make : plainName cLW = true := by first | (simp [plainName, overriddenIn]; done) | decide +kernel
theorem pd_make_0 : parseMethodDescriptor dQM = some ⟨[.int], some (.object cQC)⟩ := by decide +kernel
theorem pd_make_1 : parseMethodDescriptor dEM = some ⟨[.int], some (.object cEC)⟩ := by decide +kernel
theorem pd_make_2 : parseMethodDescriptor dSI = some ⟨[(.object cQC), (.object cEC), .int, .int], none⟩ := by decide +kernel
theorem ef_make (m : MethodId) (a1 : Addr) : entryFrame m #[(.ref a1)] 1 = (mkF m 0 #[.val (.ref a1)] []) := by first | (simp [entryFrame, mkF, argsToLocals, Value.category]; done) | rfl
def Q_make (Z : State) (a1 : Addr) (kF : ClassId) (f0 f1 f2 f3 : Int32) (qa ia oa ea : Int32 → Addr) (aS : Addr) (kS : ClassId) (aV cA cB : Addr) (kV : ClassId) (h0 : Heap) (n0 : Nat) (v : Option Value) (h : Heap) (L : List Loc) : Prop := ∃ b, v = some (.ref b) ∧ Fr n0 L ∧ Keep h0 h [] ∧ h0.size ≤ b ∧ Exa Z h b cSK ∧ Fld Z h b cSK "quantity" lQC (.ref (qa f0)) ∧ Fld Z h b cSK "end" lEC (.ref (ea f1)) ∧ Fld Z h b cSK "pair" "I" (.int f2) ∧ Fld Z h b cSK "other" "I" (.int f3)
set_option maxRecDepth 65536 in
set_option maxHeartbeats 40000000 in
theorem rm_make (l : Launch) (Z : State) (a0 : Array Value) (hw : ∀ d ∈ tables_1, d.before a0 Z = true) (ws : List Jvm.Cond) (a1 : Addr) (kF : ClassId) (f0 f1 f2 f3 : Int32) (qa ia oa ea : Int32 → Addr) (aS : Addr) (kS : ClassId) (aV cA cB : Addr) (kV : ClassId) (h0 : Heap) (n0 : Nat) (O0 : Old Z n0 h0) (VF : Arv Z h0 a1 kF .int (4 : Int32) [(.int f0), (.int f1), (.int f2), (.int f3)] (.int (0 : Int32))) (hok : own_ok f0 f1 f2 f3) (HW : own_W Z qa ia oa ea aS kS aV cA cB kV) :
    MetFree l (⟨cLW, "make", dMK⟩ : MethodName) (head1 (Jvm.Cond.code (⟨cLW, "make", dMK⟩ : MethodName) method_6_code 1 (some (.object cSK)) :: ws) ({ frames := 5, cells := 3, slots := 7, locals := 80 } : Room)) (fun a U => a = #[(.ref a1)] ∧ Z.Warmed39 U.vm ∧ U.heap = h0) (fun _ _ _ _ _ => True) (fun _ U o U' => ∃ v L, o = .returned v ∧ Q_make Z a1 kF f0 f1 f2 f3 qa ia oa ea aS kS aV cA cB kV h0 n0 v U'.heap L ∧ FrameEnd U o U' L ({ frames := 5, cells := 3, slots := 7, locals := 80 } : Room).cells ({ frames := 5, cells := 3, slots := 7, locals := 80 } : Room).slots) := by
  refine MetFree.of_bodySF (plainFor_of_name pn_make) hisR ?_
  intro p e s m args below meth c s₁ Bd hml0 hP hK
  obtain ⟨rfl, hZ, hh⟩ := hP
  have hx := Bd.exec
  have hby := Bd.bytes
  have hml : c.maxLocals = 1 := hml0
  have hown : s.vm.findClass cLW = some m.cls := findClass_of_methodNamed Bd.named
  have hnm := (name_of_methodNamed Bd.named Bd.method).1
  have X0 : Stand p l e ({ frames := 5, cells := 3, slots := 7, locals := 80 } : Room) s m #[(.ref a1)] below meth c s₁ [] 0 0 := Stand.of_body Bd
  have e0 : s₁.heap = h0 := by rw [← hh, Bd.state]; rfl
  have N0 := Fr.nil n0
  have pre0 : ∀ t, Steps p.tables e below (s₁.setTop (mkF m 0 #[.val (.ref a1)] [])) t → Steps p.tables e below (s₁.setTop (entryFrame m #[(.ref a1)] 1)) t := fun t k => castTop (ef_make m a1) k
  generalize s₁.setTop (entryFrame m #[(.ref a1)] 1) = E0 at pre0 ⊢
  obtain ⟨T1, h1, X1, e1, E1, A1, D1, -, st1⟩ := newO X0 hx hZ hown (own_w hw 13 rfl) (own_w hw 14 rfl) (own_w hw 15 rfl) e0 (g := (mkF m 0 #[.val (.ref a1)] [])) rfl (hb hby d_method_6_0) (by decide) (by decide)
  obtain ⟨b1, g1⟩ : ∃ z, z = h0.size := ⟨_, rfl⟩
  rw [← g1] at A1 D1 st1
  have O1 : Old Z n0 h1 := O0.ext E1
  have F2 : Fld Z h1 b1 cSK "quantity" lQC .null := D1 (Or.inr (own_w hw 78 rfl)) (ty := (.object cQC)) (by decide)
  have F3 : Fld Z h1 b1 cSK "end" lEC .null := D1 (Or.inr (own_w hw 80 rfl)) (ty := (.object cEC)) (by decide)
  have F4 : Fld Z h1 b1 cSK "pair" "I" (.int (0 : Int32)) := D1 (Or.inr (own_w hw 82 rfl)) (ty := .int) (by decide)
  have F5 : Fld Z h1 b1 cSK "other" "I" (.int (0 : Int32)) := D1 (Or.inr (own_w hw 84 rfl)) (ty := .int) (by decide)
  have pre_6 : ∀ t, Sp p e below T1 (mkF m 3 #[.val (.ref a1)] [(.ref b1)]) t → Steps p.tables e below E0 t := fun t k => pre0 t (st1 t k)
  have pre_8 : ∀ t, Sp p e below T1 (mkF m 7 #[.val (.ref a1)] [(.int f0), (.ref b1), (.ref b1)]) t → Steps p.tables e below E0 t := by
    intro t k
    refine pre_6 t ?_
    show Sp p e below T1 (mkF m 3 #[.val (.ref a1)] [(.ref b1)]) _
    refine XS.dup X1.here hx rfl (hb hby d_method_6_3) rfl rfl ?_
    refine XS.aloadN X1.here hx rfl (hb hby d_method_6_4) rfl rfl ?_
    refine XS.iconst X1.here hx rfl (hb hby d_method_6_5) ?_
    obtain ⟨cl7, Ar7, -, S7, -, H7, -⟩ := id (VF.ext E1)
    have hin7 : ¬ ((0 : Int32) < 0 ∨ cl7.slots.size ≤ ((0 : Int32)).toNatClampNeg) := inb_of S7 (by decide)
    refine X1.iaload hx (j := (0 : Int32)) (v := (.int f0)) (by rw [e1]; exact Ar7.1) (State.isArrayOf_alike hZ.alike Ar7.2.1) Ar7.2.2 hin7 (H7.at hin7 rfl) (g := (mkF m 6 #[.val (.ref a1)] [(.int (0 : Int32)), (.ref a1), (.ref b1), (.ref b1)])) rfl rfl (hb hby d_method_6_6) _ ?_
    exact k
  obtain ⟨_, _, ⟨T9, L9, k9, n9⟩, -, X9, ⟨Lc9, hQ9, l9, y9, z9⟩, st9⟩ := Jvm.LawKit.callS X1 hx (y := (⟨cLW, "quantity", dQM⟩ : MethodName)) hown (mvT hZ (own_w hw 16 rfl)) (mvT hZ (own_w hw 17 rfl)) (mvT hZ (own_w hw 2 rfl)) (mvT hZ (own_w hw 18 rfl)) (by decide) (backOf (W := 2) (rm_qua l Z a0 hw [] f0 f1 f2 f3 qa ia oa ea aS kS aV cA cB kV h1 n0 O1 hok HW) hZ (own_w hw 18 rfl) (own_w hw 2 rfl) (by decide) (by decide)) (g := (mkF m 7 #[.val (.ref a1)] [(.int f0), (.ref b1), (.ref b1)])) rfl (by rw [hml]; rfl) (argsL := [(.int f0)]) (rest := [(.ref b1), (.ref b1)]) (lenOf pd_make_0 rfl) rfl (by show 2 * 0 + _ ≤ _; exact Nat.le_of_eq rfl) (hb hby d_method_6_7) (fun _ _ => ⟨rfl, e1, (by decide : 1 + 0 ≤ _), (by decide : 4 + 0 ≤ _)⟩)
  dsimp only [Pt.U, Pt.locs, Pt.cells, Pt.slots] at X9 l9 y9 z9 st9 hQ9
  subst l9 y9 z9
  obtain ⟨rfl, N9q, e9⟩ := hQ9
  have N9 := Fr.app N0 N9q
  have pre_10 : ∀ t, Sp p e below T9 (mkF m 10 #[.val (.ref a1)] [(.ref (qa f0)), (.ref b1), (.ref b1)]) t → Steps p.tables e below E0 t := fun t k => pre_8 t (st9 t k)
  have pre_12 : ∀ t, Sp p e below T9 (mkF m 13 #[.val (.ref a1)] [(.int f1), (.ref (qa f0)), (.ref b1), (.ref b1)]) t → Steps p.tables e below E0 t := by
    intro t k
    refine pre_10 t ?_
    show Sp p e below T9 (mkF m 10 #[.val (.ref a1)] [(.ref (qa f0)), (.ref b1), (.ref b1)]) _
    refine XS.aloadN X9.here hx rfl (hb hby d_method_6_10) rfl rfl ?_
    refine XS.iconst X9.here hx rfl (hb hby d_method_6_11) ?_
    obtain ⟨cl11, Ar11, -, S11, -, H11, -⟩ := id (VF.ext E1)
    have hin11 : ¬ ((1 : Int32) < 0 ∨ cl11.slots.size ≤ ((1 : Int32)).toNatClampNeg) := inb_of S11 (by decide)
    refine X9.iaload hx (j := (1 : Int32)) (v := (.int f1)) (by rw [e9]; exact Ar11.1) (State.isArrayOf_alike hZ.alike Ar11.2.1) Ar11.2.2 hin11 (H11.at hin11 rfl) (g := (mkF m 12 #[.val (.ref a1)] [(.int (1 : Int32)), (.ref a1), (.ref (qa f0)), (.ref b1), (.ref b1)])) rfl rfl (hb hby d_method_6_12) _ ?_
    exact k
  obtain ⟨_, _, ⟨T13, L13, k13, n13⟩, -, X13, ⟨Lc13, hQ13, l13, y13, z13⟩, st13⟩ := Jvm.LawKit.callS X9 hx (y := (⟨cLW, "end", dEM⟩ : MethodName)) hown (mvT hZ (own_w hw 22 rfl)) (mvT hZ (own_w hw 23 rfl)) (mvT hZ (own_w hw 2 rfl)) (mvT hZ (own_w hw 24 rfl)) (by decide) (backOf (W := 3) (rm_ena l Z a0 hw [] f0 f1 f2 f3 qa ia oa ea aS kS aV cA cB kV h1 n0 O1 hok HW) hZ (own_w hw 24 rfl) (own_w hw 2 rfl) (by decide) (by decide)) (g := (mkF m 13 #[.val (.ref a1)] [(.int f1), (.ref (qa f0)), (.ref b1), (.ref b1)])) rfl (by rw [hml]; rfl) (argsL := [(.int f1)]) (rest := [(.ref (qa f0)), (.ref b1), (.ref b1)]) (lenOf pd_make_1 rfl) rfl (by show 2 * 0 + _ ≤ _; exact Nat.le_of_eq rfl) (hb hby d_method_6_13) (fun _ _ => ⟨rfl, e9, (by decide : 1 + 0 ≤ _), (by decide : 4 + 0 ≤ _)⟩)
  dsimp only [Pt.U, Pt.locs, Pt.cells, Pt.slots] at X13 l13 y13 z13 st13 hQ13
  subst l13 y13 z13
  obtain ⟨rfl, N13q, e13⟩ := hQ13
  have N13 := Fr.app N9 N13q
  have pre_14 : ∀ t, Sp p e below T13 (mkF m 16 #[.val (.ref a1)] [(.ref (ea f1)), (.ref (qa f0)), (.ref b1), (.ref b1)]) t → Steps p.tables e below E0 t := fun t k => pre_12 t (st13 t k)
  have pre_17 : ∀ t, Sp p e below T13 (mkF m 22 #[.val (.ref a1)] [(.int f3), (.int f2), (.ref (ea f1)), (.ref (qa f0)), (.ref b1), (.ref b1)]) t → Steps p.tables e below E0 t := by
    intro t k
    refine pre_14 t ?_
    show Sp p e below T13 (mkF m 16 #[.val (.ref a1)] [(.ref (ea f1)), (.ref (qa f0)), (.ref b1), (.ref b1)]) _
    refine XS.aloadN X13.here hx rfl (hb hby d_method_6_16) rfl rfl ?_
    show Sp p e below T13 (mkF m 17 #[.val (.ref a1)] [(.ref a1), (.ref (ea f1)), (.ref (qa f0)), (.ref b1), (.ref b1)]) _
    refine XS.iconst X13.here hx rfl (hb hby d_method_6_17) ?_
    obtain ⟨cl15, Ar15, -, S15, -, H15, -⟩ := id (VF.ext E1)
    have hin15 : ¬ ((2 : Int32) < 0 ∨ cl15.slots.size ≤ ((2 : Int32)).toNatClampNeg) := inb_of S15 (by decide)
    refine X13.iaload hx (j := (2 : Int32)) (v := (.int f2)) (by rw [e13]; exact Ar15.1) (State.isArrayOf_alike hZ.alike Ar15.2.1) Ar15.2.2 hin15 (H15.at hin15 rfl) (g := (mkF m 18 #[.val (.ref a1)] [(.int (2 : Int32)), (.ref a1), (.ref (ea f1)), (.ref (qa f0)), (.ref b1), (.ref b1)])) rfl rfl (hb hby d_method_6_18) _ ?_
    refine XS.aloadN X13.here hx rfl (hb hby d_method_6_19) rfl rfl ?_
    refine XS.iconst X13.here hx rfl (hb hby d_method_6_20) ?_
    obtain ⟨cl16, Ar16, -, S16, -, H16, -⟩ := id (VF.ext E1)
    have hin16 : ¬ ((3 : Int32) < 0 ∨ cl16.slots.size ≤ ((3 : Int32)).toNatClampNeg) := inb_of S16 (by decide)
    refine X13.iaload hx (j := (3 : Int32)) (v := (.int f3)) (by rw [e13]; exact Ar16.1) (State.isArrayOf_alike hZ.alike Ar16.2.1) Ar16.2.2 hin16 (H16.at hin16 rfl) (g := (mkF m 21 #[.val (.ref a1)] [(.int (3 : Int32)), (.ref a1), (.int f2), (.ref (ea f1)), (.ref (qa f0)), (.ref b1), (.ref b1)])) rfl rfl (hb hby d_method_6_21) _ ?_
    exact k
  obtain ⟨_, _, ⟨T18, L18, k18, n18⟩, -, X18, ⟨Lc18, hQ18, l18, y18, z18⟩, st18⟩ := X13.specialBack hx (y := (⟨cSK, "<init>", dSI⟩ : MethodName)) rfl hown (mvT hZ (own_w hw 28 rfl)) (mvT hZ (own_w hw 29 rfl)) (mvT hZ (own_w hw 30 rfl)) (by decide) (backOf (W := 1) (rm_sia l Z a0 hw [] b1 f0 f1 f2 f3 .null .null (.int (0 : Int32)) (.int (0 : Int32)) qa ia oa ea aS kS aV cA cB kV h1 n0 O1 A1 F2 F3 F4 F5 (Nat.le_trans (own_le O0) (Nat.le_of_eq g1.symm)) hok HW) hZ (own_w hw 30 rfl) (own_w hw 15 rfl) (by decide) (by decide)) (g := (mkF m 22 #[.val (.ref a1)] [(.int f3), (.int f2), (.ref (ea f1)), (.ref (qa f0)), (.ref b1), (.ref b1)])) rfl (by rw [hml]; rfl) (Steps.refl _) (a := b1) (argsL := [(.ref (qa f0)), (.ref (ea f1)), (.int f2), (.int f3)]) (rest := [(.ref b1)]) (lenOf pd_make_2 rfl) rfl (by show 2 * 0 + _ ≤ _; exact Nat.le_of_eq rfl) (hb hby d_method_6_22) (fun _ _ => ⟨rfl, e13, (by decide : 1 + 2 ≤ _), (by decide : 4 + 3 ≤ _)⟩)
  dsimp only [Pt.U, Pt.locs, Pt.cells, Pt.slots] at X18 l18 y18 z18 st18 hQ18
  subst l18 y18 z18
  obtain ⟨rfl, N18q, K18, Fa18, Fb18, Fc18, Fd18⟩ := hQ18
  have N18 := Fr.app N13 N18q
  have O18 : Old Z n0 T18.heap := O1.keep K18 (allS (Nat.le_trans (own_le O0) (Nat.le_of_eq g1.symm)) all0)
  have pre_19 : ∀ t, Sp p e below T18 (mkF m 25 #[.val (.ref a1)] [(.ref b1)]) t → Steps p.tables e below E0 t := fun t k => pre_17 t (st18.trans k)
  obtain ⟨fs, hr, hrun, hended, hW, hsame⟩ := X18.leave (v := some (.ref b1)) (fun h => by rw [Bd.returns] at h; cases h)
  refine ⟨_, _, pre_19 _ ?_, hrun, hended, _, _, rfl, ?_, ⟨_, rfl⟩, hW, hsame.mono (by decide) (by decide)⟩
  · show Sp p e below T18 (mkF m 25 #[.val (.ref a1)] [(.ref b1)]) _
    exact retOut X18 hx (t := (.object cSK)) Bd.returns rfl (Or.inr (Or.inr (Or.inr (Or.inr ⟨rfl, rfl, rfl⟩)))) (hb hby d_method_6_25) hr
  · show Q_make Z _ _ _ _ _ _ _ _ _ _ _ _ _ _ _ _ h0 n0 _ T18.heap _
    exact ⟨b1, rfl, N18, (((Keep.refl h0 []).ext E1).trans K18 (allS (Or.inr (Nat.le_trans (Keep.refl h0 []).1 (Nat.le_of_eq g1.symm))) all0)), (Nat.le_trans (Keep.refl h0 []).1 (Nat.le_of_eq g1.symm)), (A1.keep K18), Fa18, Fb18, Fc18, Fd18⟩
theorem d_prog_56_7_0 : decode prog_56_method_7_code 0 = .ok (.aload_n 1, 1) := by decide +kernel
theorem d_prog_56_7_1 : decode prog_56_method_7_code 1 = .ok (.instanceof 26, 3) := by decide +kernel
theorem d_prog_56_7_4 : decode prog_56_method_7_code 4 = .ok (.ifCond .eq 56, 3) := by decide +kernel
theorem d_prog_56_7_7 : decode prog_56_method_7_code 7 = .ok (.aload_n 1, 1) := by decide +kernel
theorem d_prog_56_7_8 : decode prog_56_method_7_code 8 = .ok (.checkcast 26, 3) := by decide +kernel
theorem d_prog_56_7_11 : decode prog_56_method_7_code 11 = .ok (.astore_n 2, 1) := by decide +kernel
theorem d_prog_56_7_12 : decode prog_56_method_7_code 12 = .ok (.aload_n 0, 1) := by decide +kernel
theorem d_prog_56_7_13 : decode prog_56_method_7_code 13 = .ok (.getfield 94, 3) := by decide +kernel
theorem d_prog_56_7_16 : decode prog_56_method_7_code 16 = .ok (.aload_n 2, 1) := by decide +kernel
theorem d_prog_56_7_17 : decode prog_56_method_7_code 17 = .ok (.getfield 94, 3) := by decide +kernel
theorem d_prog_56_7_20 : decode prog_56_method_7_code 20 = .ok (.if_acmp .ne 40, 3) := by decide +kernel
theorem d_prog_56_7_23 : decode prog_56_method_7_code 23 = .ok (.aload_n 0, 1) := by decide +kernel
theorem d_prog_56_7_24 : decode prog_56_method_7_code 24 = .ok (.getfield 98, 3) := by decide +kernel
theorem d_prog_56_7_27 : decode prog_56_method_7_code 27 = .ok (.aload_n 2, 1) := by decide +kernel
theorem d_prog_56_7_28 : decode prog_56_method_7_code 28 = .ok (.getfield 98, 3) := by decide +kernel
theorem d_prog_56_7_31 : decode prog_56_method_7_code 31 = .ok (.if_acmp .ne 29, 3) := by decide +kernel
theorem d_prog_56_7_34 : decode prog_56_method_7_code 34 = .ok (.aload_n 0, 1) := by decide +kernel
theorem d_prog_56_7_35 : decode prog_56_method_7_code 35 = .ok (.getfield 101, 3) := by decide +kernel
theorem d_prog_56_7_38 : decode prog_56_method_7_code 38 = .ok (.aload_n 2, 1) := by decide +kernel
theorem d_prog_56_7_39 : decode prog_56_method_7_code 39 = .ok (.getfield 101, 3) := by decide +kernel
theorem d_prog_56_7_42 : decode prog_56_method_7_code 42 = .ok (.if_icmp .ne 18, 3) := by decide +kernel
theorem d_prog_56_7_45 : decode prog_56_method_7_code 45 = .ok (.aload_n 0, 1) := by decide +kernel
theorem d_prog_56_7_46 : decode prog_56_method_7_code 46 = .ok (.getfield 105, 3) := by decide +kernel
theorem d_prog_56_7_49 : decode prog_56_method_7_code 49 = .ok (.aload_n 2, 1) := by decide +kernel
theorem d_prog_56_7_50 : decode prog_56_method_7_code 50 = .ok (.getfield 105, 3) := by decide +kernel
theorem d_prog_56_7_53 : decode prog_56_method_7_code 53 = .ok (.if_icmp .ne 7, 3) := by decide +kernel
theorem d_prog_56_7_56 : decode prog_56_method_7_code 56 = .ok (.iconst 1, 1) := by decide +kernel
theorem d_prog_56_7_57 : decode prog_56_method_7_code 57 = .ok (.goto 4, 3) := by decide +kernel
theorem d_prog_56_7_60 : decode prog_56_method_7_code 60 = .ok (.iconst 0, 1) := by decide +kernel
theorem d_prog_56_7_61 : decode prog_56_method_7_code 61 = .ok (.ireturn, 1) := by decide +kernel
theorem pn_eqa : plainName cSK = true := by first | (simp [plainName, overriddenIn]; done) | decide +kernel
theorem ef_eqa (m : MethodId) (a1 : Addr) (a2 : Addr) : entryFrame m #[(.ref a1), (.ref a2)] 3 = (mkF m 0 #[.val (.ref a1), .val (.ref a2), .unset] []) := by first | (simp [entryFrame, mkF, argsToLocals, Value.category]; done) | rfl
def Q_eqa (Z : State) (a1 : Addr) (a2 : Addr) (xq1 xe1 xq2 xe2 : Addr) (xx1 xy1 xx2 xy2 : Int32) (h0 : Heap) (n0 : Nat) (v : Option Value) (h : Heap) (L : List Loc) : Prop := v = some (.int (if xq1 = xq2 then (if xe1 = xe2 then (if xx1 = xx2 then (if xy1 = xy2 then (1 : Int32) else (0 : Int32)) else (0 : Int32)) else (0 : Int32)) else (0 : Int32))) ∧ Fr n0 L ∧ h = h0
set_option maxRecDepth 65536 in
set_option maxHeartbeats 40000000 in
theorem rm_eqa (l : Launch) (Z : State) (a0 : Array Value) (hw : ∀ d ∈ tables_1, d.before a0 Z = true) (ws : List Jvm.Cond) (a1 : Addr) (a2 : Addr) (xq1 xe1 xq2 xe2 : Addr) (xx1 xy1 xx2 xy2 : Int32) (h0 : Heap) (n0 : Nat) (O0 : Old Z n0 h0) (E2 : Exa Z h0 a2 cSK) (G0 : Fld Z h0 a1 cSK "quantity" lQC (.ref xq1)) (G1 : Fld Z h0 a1 cSK "end" lEC (.ref xe1)) (G2 : Fld Z h0 a1 cSK "pair" "I" (.int xx1)) (G3 : Fld Z h0 a1 cSK "other" "I" (.int xy1)) (H0 : Fld Z h0 a2 cSK "quantity" lQC (.ref xq2)) (H1 : Fld Z h0 a2 cSK "end" lEC (.ref xe2)) (H2 : Fld Z h0 a2 cSK "pair" "I" (.int xx2)) (H3 : Fld Z h0 a2 cSK "other" "I" (.int xy2)) :
    MetFree l (⟨cSK, "equals", "(Ljava/lang/Object;)Z"⟩ : MethodName) (head1 (Jvm.Cond.code (⟨cSK, "equals", "(Ljava/lang/Object;)Z"⟩ : MethodName) prog_56_method_7_code 3 (some .boolean) :: ws) ({ frames := 0, cells := 0, slots := 0, locals := 0 } : Room)) (fun a U => a = #[(.ref a1), (.ref a2)] ∧ Z.Warmed39 U.vm ∧ U.heap = h0) (fun _ _ _ _ _ => True) (fun _ U o U' => ∃ v L, o = .returned v ∧ Q_eqa Z a1 a2 xq1 xe1 xq2 xe2 xx1 xy1 xx2 xy2 h0 n0 v U'.heap L ∧ FrameEnd U o U' L ({ frames := 0, cells := 0, slots := 0, locals := 0 } : Room).cells ({ frames := 0, cells := 0, slots := 0, locals := 0 } : Room).slots) := by
  refine MetFree.of_bodySF (plainFor_of_name pn_eqa) hisR ?_
  intro p e s m args below meth c s₁ Bd hml0 hP hK
  obtain ⟨rfl, hZ, hh⟩ := hP
  have hx := Bd.exec
  have hby := Bd.bytes
  have hml : c.maxLocals = 3 := hml0
  have hown : s.vm.findClass cSK = some m.cls := findClass_of_methodNamed Bd.named
  have hnm := (name_of_methodNamed Bd.named Bd.method).1
  have X0 : Stand p l e ({ frames := 0, cells := 0, slots := 0, locals := 0 } : Room) s m #[(.ref a1), (.ref a2)] below meth c s₁ [] 0 0 := Stand.of_body Bd
  have e0 : s₁.heap = h0 := by rw [← hh, Bd.state]; rfl
  have N0 := Fr.nil n0
  have pre0 : ∀ t, Steps p.tables e below (s₁.setTop (mkF m 0 #[.val (.ref a1), .val (.ref a2), .unset] [])) t → Steps p.tables e below (s₁.setTop (entryFrame m #[(.ref a1), (.ref a2)] 3)) t := fun t k => castTop (ef_eqa m a1 a2) k
  generalize s₁.setTop (entryFrame m #[(.ref a1), (.ref a2)] 3) = E0 at pre0 ⊢
  have pre_1 : ∀ t, Sp p e below s₁ (mkF m 1 #[.val (.ref a1), .val (.ref a2), .unset] [(.ref a2)]) t → Steps p.tables e below E0 t := by
    intro t k
    refine pre0 t ?_
    show Sp p e below s₁ (mkF m 0 #[.val (.ref a1), .val (.ref a2), .unset] []) _
    refine XS.aloadN X0.here hx rfl (hb hby d_prog_56_7_0) rfl rfl ?_
    exact k
  obtain ⟨T2, X2, e2, st2⟩ := instY X0 hx hZ hown (own_w hw 90 rfl) e0 (Ins.self E2) (g := (mkF m 1 #[.val (.ref a1), .val (.ref a2), .unset] [(.ref a2)])) rfl rfl (hb hby d_prog_56_7_1)
  have pre_3 : ∀ t, Sp p e below T2 (mkF m 4 #[.val (.ref a1), .val (.ref a2), .unset] [(.int (1 : Int32))]) t → Steps p.tables e below E0 t := fun t k => pre_1 t (st2 t k)
  have pre_4 : ∀ t, Sp p e below T2 (mkF m 8 #[.val (.ref a1), .val (.ref a2), .unset] [(.ref a2)]) t → Steps p.tables e below E0 t := by
    intro t k
    refine pre_3 t ?_
    show Sp p e below T2 (mkF m 4 #[.val (.ref a1), .val (.ref a2), .unset] [(.int (1 : Int32))]) _
    refine XS.ifNo X2.here hx rfl (hb hby d_prog_56_7_4) rfl (XT.i0_eq_f (by decide)) ?_
    refine XS.aloadN X2.here hx rfl (hb hby d_prog_56_7_7) rfl rfl ?_
    exact k
  obtain ⟨T5, X5, e5, st5⟩ := castY X2 hx hZ hown (own_w hw 90 rfl) e2 (Ins.self E2) (g := (mkF m 8 #[.val (.ref a1), .val (.ref a2), .unset] [(.ref a2)])) rfl rfl (hb hby d_prog_56_7_8)
  have pre_6 : ∀ t, Sp p e below T5 (mkF m 11 #[.val (.ref a1), .val (.ref a2), .unset] [(.ref a2)]) t → Steps p.tables e below E0 t := fun t k => pre_4 t (st5 t k)
  have pre_7 : ∀ t, Sp p e below T5 (mkF m 13 #[.val (.ref a1), .val (.ref a2), .val (.ref a2)] [(.ref a1)]) t → Steps p.tables e below E0 t := by
    intro t k
    refine pre_6 t ?_
    show Sp p e below T5 (mkF m 11 #[.val (.ref a1), .val (.ref a2), .unset] [(.ref a2)]) _
    refine XS.astoreN X5.here hx rfl (hb hby d_prog_56_7_11) rfl rfl (l' := #[.val (.ref a1), .val (.ref a2), .val (.ref a2)]) rfl ?_
    refine XS.aloadN X5.here hx rfl (hb hby d_prog_56_7_12) rfl rfl ?_
    exact k
  obtain ⟨T8, X8, e8, st8⟩ := getF X5 hx hZ hown (host := "") (Or.inl (own_w hw 77 rfl)) Via.refl e5 G0 (g := (mkF m 13 #[.val (.ref a1), .val (.ref a2), .val (.ref a2)] [(.ref a1)])) rfl rfl (hb hby d_prog_56_7_13)
  have pre_9 : ∀ t, Sp p e below T8 (mkF m 16 #[.val (.ref a1), .val (.ref a2), .val (.ref a2)] [(.ref xq1)]) t → Steps p.tables e below E0 t := fun t k => pre_7 t (st8 t k)
  have pre_10 : ∀ t, Sp p e below T8 (mkF m 17 #[.val (.ref a1), .val (.ref a2), .val (.ref a2)] [(.ref a2), (.ref xq1)]) t → Steps p.tables e below E0 t := by
    intro t k
    refine pre_9 t ?_
    show Sp p e below T8 (mkF m 16 #[.val (.ref a1), .val (.ref a2), .val (.ref a2)] [(.ref xq1)]) _
    refine XS.aloadN X8.here hx rfl (hb hby d_prog_56_7_16) rfl rfl ?_
    exact k
  obtain ⟨T11, X11, e11, st11⟩ := getF X8 hx hZ hown (host := "") (Or.inl (own_w hw 77 rfl)) Via.refl e8 H0 (g := (mkF m 17 #[.val (.ref a1), .val (.ref a2), .val (.ref a2)] [(.ref a2), (.ref xq1)])) rfl rfl (hb hby d_prog_56_7_17)
  have pre_12 : ∀ t, Sp p e below T11 (mkF m 20 #[.val (.ref a1), .val (.ref a2), .val (.ref a2)] [(.ref xq2), (.ref xq1)]) t → Steps p.tables e below E0 t := fun t k => pre_10 t (st11 t k)
  by_cases hc13 : xq1 = xq2
  · skip
    have pre_14 : ∀ t, Sp p e below T11 (mkF m 24 #[.val (.ref a1), .val (.ref a2), .val (.ref a2)] [(.ref a1)]) t → Steps p.tables e below E0 t := by
      intro t k
      refine pre_12 t ?_
      show Sp p e below T11 (mkF m 20 #[.val (.ref a1), .val (.ref a2), .val (.ref a2)] [(.ref xq2), (.ref xq1)]) _
      refine XT.acmpNo X11.here hx rfl (hb hby d_prog_56_7_20) rfl rfl rfl (XT.aa_ne_f (congrArg Value.ref hc13)) ?_
      refine XS.aloadN X11.here hx rfl (hb hby d_prog_56_7_23) rfl rfl ?_
      show Sp p e below T11 (mkF m 24 #[.val (.ref a1), .val (.ref a2), .val (.ref a2)] [(.ref a1)]) _
      exact k
    obtain ⟨T15, X15, e15, st15⟩ := getF X11 hx hZ hown (host := "") (Or.inl (own_w hw 79 rfl)) Via.refl e11 G1 (g := (mkF m 24 #[.val (.ref a1), .val (.ref a2), .val (.ref a2)] [(.ref a1)])) rfl rfl (hb hby d_prog_56_7_24)
    have pre_16 : ∀ t, Sp p e below T15 (mkF m 27 #[.val (.ref a1), .val (.ref a2), .val (.ref a2)] [(.ref xe1)]) t → Steps p.tables e below E0 t := fun t k => pre_14 t (st15 t k)
    have pre_17 : ∀ t, Sp p e below T15 (mkF m 28 #[.val (.ref a1), .val (.ref a2), .val (.ref a2)] [(.ref a2), (.ref xe1)]) t → Steps p.tables e below E0 t := by
      intro t k
      refine pre_16 t ?_
      show Sp p e below T15 (mkF m 27 #[.val (.ref a1), .val (.ref a2), .val (.ref a2)] [(.ref xe1)]) _
      refine XS.aloadN X15.here hx rfl (hb hby d_prog_56_7_27) rfl rfl ?_
      exact k
    obtain ⟨T18, X18, e18, st18⟩ := getF X15 hx hZ hown (host := "") (Or.inl (own_w hw 79 rfl)) Via.refl e15 H1 (g := (mkF m 28 #[.val (.ref a1), .val (.ref a2), .val (.ref a2)] [(.ref a2), (.ref xe1)])) rfl rfl (hb hby d_prog_56_7_28)
    have pre_19 : ∀ t, Sp p e below T18 (mkF m 31 #[.val (.ref a1), .val (.ref a2), .val (.ref a2)] [(.ref xe2), (.ref xe1)]) t → Steps p.tables e below E0 t := fun t k => pre_17 t (st18 t k)
    by_cases hc20 : xe1 = xe2
    · skip
      have pre_21 : ∀ t, Sp p e below T18 (mkF m 35 #[.val (.ref a1), .val (.ref a2), .val (.ref a2)] [(.ref a1)]) t → Steps p.tables e below E0 t := by
        intro t k
        refine pre_19 t ?_
        show Sp p e below T18 (mkF m 31 #[.val (.ref a1), .val (.ref a2), .val (.ref a2)] [(.ref xe2), (.ref xe1)]) _
        refine XT.acmpNo X18.here hx rfl (hb hby d_prog_56_7_31) rfl rfl rfl (XT.aa_ne_f (congrArg Value.ref hc20)) ?_
        refine XS.aloadN X18.here hx rfl (hb hby d_prog_56_7_34) rfl rfl ?_
        exact k
      obtain ⟨T22, X22, e22, st22⟩ := getF X18 hx hZ hown (host := "") (Or.inl (own_w hw 81 rfl)) Via.refl e18 G2 (g := (mkF m 35 #[.val (.ref a1), .val (.ref a2), .val (.ref a2)] [(.ref a1)])) rfl rfl (hb hby d_prog_56_7_35)
      have pre_23 : ∀ t, Sp p e below T22 (mkF m 38 #[.val (.ref a1), .val (.ref a2), .val (.ref a2)] [(.int xx1)]) t → Steps p.tables e below E0 t := fun t k => pre_21 t (st22 t k)
      have pre_24 : ∀ t, Sp p e below T22 (mkF m 39 #[.val (.ref a1), .val (.ref a2), .val (.ref a2)] [(.ref a2), (.int xx1)]) t → Steps p.tables e below E0 t := by
        intro t k
        refine pre_23 t ?_
        show Sp p e below T22 (mkF m 38 #[.val (.ref a1), .val (.ref a2), .val (.ref a2)] [(.int xx1)]) _
        refine XS.aloadN X22.here hx rfl (hb hby d_prog_56_7_38) rfl rfl ?_
        exact k
      obtain ⟨T25, X25, e25, st25⟩ := getF X22 hx hZ hown (host := "") (Or.inl (own_w hw 81 rfl)) Via.refl e22 H2 (g := (mkF m 39 #[.val (.ref a1), .val (.ref a2), .val (.ref a2)] [(.ref a2), (.int xx1)])) rfl rfl (hb hby d_prog_56_7_39)
      have pre_26 : ∀ t, Sp p e below T25 (mkF m 42 #[.val (.ref a1), .val (.ref a2), .val (.ref a2)] [(.int xx2), (.int xx1)]) t → Steps p.tables e below E0 t := fun t k => pre_24 t (st25 t k)
      by_cases hc27 : xx1 = xx2
      · skip
        have pre_28 : ∀ t, Sp p e below T25 (mkF m 46 #[.val (.ref a1), .val (.ref a2), .val (.ref a2)] [(.ref a1)]) t → Steps p.tables e below E0 t := by
          intro t k
          refine pre_26 t ?_
          show Sp p e below T25 (mkF m 42 #[.val (.ref a1), .val (.ref a2), .val (.ref a2)] [(.int xx2), (.int xx1)]) _
          refine XS.icmpNo X25.here hx rfl (hb hby d_prog_56_7_42) rfl (XT.ii_ne_f hc27) ?_
          refine XS.aloadN X25.here hx rfl (hb hby d_prog_56_7_45) rfl rfl ?_
          exact k
        obtain ⟨T29, X29, e29, st29⟩ := getF X25 hx hZ hown (host := "") (Or.inl (own_w hw 83 rfl)) Via.refl e25 G3 (g := (mkF m 46 #[.val (.ref a1), .val (.ref a2), .val (.ref a2)] [(.ref a1)])) rfl rfl (hb hby d_prog_56_7_46)
        have pre_30 : ∀ t, Sp p e below T29 (mkF m 49 #[.val (.ref a1), .val (.ref a2), .val (.ref a2)] [(.int xy1)]) t → Steps p.tables e below E0 t := fun t k => pre_28 t (st29 t k)
        have pre_31 : ∀ t, Sp p e below T29 (mkF m 50 #[.val (.ref a1), .val (.ref a2), .val (.ref a2)] [(.ref a2), (.int xy1)]) t → Steps p.tables e below E0 t := by
          intro t k
          refine pre_30 t ?_
          show Sp p e below T29 (mkF m 49 #[.val (.ref a1), .val (.ref a2), .val (.ref a2)] [(.int xy1)]) _
          refine XS.aloadN X29.here hx rfl (hb hby d_prog_56_7_49) rfl rfl ?_
          exact k
        obtain ⟨T32, X32, e32, st32⟩ := getF X29 hx hZ hown (host := "") (Or.inl (own_w hw 83 rfl)) Via.refl e29 H3 (g := (mkF m 50 #[.val (.ref a1), .val (.ref a2), .val (.ref a2)] [(.ref a2), (.int xy1)])) rfl rfl (hb hby d_prog_56_7_50)
        have pre_33 : ∀ t, Sp p e below T32 (mkF m 53 #[.val (.ref a1), .val (.ref a2), .val (.ref a2)] [(.int xy2), (.int xy1)]) t → Steps p.tables e below E0 t := fun t k => pre_31 t (st32 t k)
        by_cases hc34 : xy1 = xy2
        · skip
          have pre_35 : ∀ t, Sp p e below T32 (mkF m 61 #[.val (.ref a1), .val (.ref a2), .val (.ref a2)] [(.int (1 : Int32))]) t → Steps p.tables e below E0 t := by
            intro t k
            refine pre_33 t ?_
            show Sp p e below T32 (mkF m 53 #[.val (.ref a1), .val (.ref a2), .val (.ref a2)] [(.int xy2), (.int xy1)]) _
            refine XS.icmpNo X32.here hx rfl (hb hby d_prog_56_7_53) rfl (XT.ii_ne_f hc34) ?_
            show Sp p e below T32 (mkF m 56 #[.val (.ref a1), .val (.ref a2), .val (.ref a2)] []) _
            refine XS.iconst X32.here hx rfl (hb hby d_prog_56_7_56) ?_
            refine XS.goto X32.here hx rfl (pc0 := 57) (pc' := 61) rfl (hb hby d_prog_56_7_57) (by decide) (by decide) ?_
            exact k
          obtain ⟨fs, hr, hrun, hended, hW, hsame⟩ := X32.leave (v := some (.int (1 : Int32))) (fun h => by rw [Bd.returns] at h; cases h)
          refine ⟨_, _, pre_35 _ ?_, hrun, hended, _, _, rfl, ?_, ⟨_, rfl⟩, hW, hsame.mono (by decide) (by decide)⟩
          · show Sp p e below T32 (mkF m 61 #[.val (.ref a1), .val (.ref a2), .val (.ref a2)] [(.int (1 : Int32))]) _
            exact retN X32 hx (t := .boolean) Bd.returns (by simp) (hb hby d_prog_56_7_61) hr
          · show Q_eqa Z _ _ _ _ _ _ _ _ _ _ h0 n0 _ T32.heap _
            rw [e32]
            exact ⟨by simp [hc13, hc20, hc27, hc34], N0, rfl⟩
        · skip
          have pre_36 : ∀ t, Sp p e below T32 (mkF m 61 #[.val (.ref a1), .val (.ref a2), .val (.ref a2)] [(.int (0 : Int32))]) t → Steps p.tables e below E0 t := by
            intro t k
            refine pre_33 t ?_
            show Sp p e below T32 (mkF m 53 #[.val (.ref a1), .val (.ref a2), .val (.ref a2)] [(.int xy2), (.int xy1)]) _
            refine XS.icmpYes X32.here hx rfl (pc0 := 53) (pc' := 60) rfl (hb hby d_prog_56_7_53) rfl (XT.ii_ne_t hc34) (by decide) (by decide) ?_
            show Sp p e below T32 (mkF m 60 #[.val (.ref a1), .val (.ref a2), .val (.ref a2)] []) _
            refine XS.iconst X32.here hx rfl (hb hby d_prog_56_7_60) ?_
            exact k
          obtain ⟨fs, hr, hrun, hended, hW, hsame⟩ := X32.leave (v := some (.int (0 : Int32))) (fun h => by rw [Bd.returns] at h; cases h)
          refine ⟨_, _, pre_36 _ ?_, hrun, hended, _, _, rfl, ?_, ⟨_, rfl⟩, hW, hsame.mono (by decide) (by decide)⟩
          · show Sp p e below T32 (mkF m 61 #[.val (.ref a1), .val (.ref a2), .val (.ref a2)] [(.int (0 : Int32))]) _
            exact retN X32 hx (t := .boolean) Bd.returns (by simp) (hb hby d_prog_56_7_61) hr
          · show Q_eqa Z _ _ _ _ _ _ _ _ _ _ h0 n0 _ T32.heap _
            rw [e32]
            exact ⟨by simp [hc13, hc20, hc27, hc34], N0, rfl⟩
      · skip
        have pre_37 : ∀ t, Sp p e below T25 (mkF m 61 #[.val (.ref a1), .val (.ref a2), .val (.ref a2)] [(.int (0 : Int32))]) t → Steps p.tables e below E0 t := by
          intro t k
          refine pre_26 t ?_
          show Sp p e below T25 (mkF m 42 #[.val (.ref a1), .val (.ref a2), .val (.ref a2)] [(.int xx2), (.int xx1)]) _
          refine XS.icmpYes X25.here hx rfl (pc0 := 42) (pc' := 60) rfl (hb hby d_prog_56_7_42) rfl (XT.ii_ne_t hc27) (by decide) (by decide) ?_
          refine XS.iconst X25.here hx rfl (hb hby d_prog_56_7_60) ?_
          exact k
        obtain ⟨fs, hr, hrun, hended, hW, hsame⟩ := X25.leave (v := some (.int (0 : Int32))) (fun h => by rw [Bd.returns] at h; cases h)
        refine ⟨_, _, pre_37 _ ?_, hrun, hended, _, _, rfl, ?_, ⟨_, rfl⟩, hW, hsame.mono (by decide) (by decide)⟩
        · show Sp p e below T25 (mkF m 61 #[.val (.ref a1), .val (.ref a2), .val (.ref a2)] [(.int (0 : Int32))]) _
          exact retN X25 hx (t := .boolean) Bd.returns (by simp) (hb hby d_prog_56_7_61) hr
        · show Q_eqa Z _ _ _ _ _ _ _ _ _ _ h0 n0 _ T25.heap _
          rw [e25]
          exact ⟨by simp [hc13, hc20, hc27], N0, rfl⟩
    · skip
      have pre_38 : ∀ t, Sp p e below T18 (mkF m 61 #[.val (.ref a1), .val (.ref a2), .val (.ref a2)] [(.int (0 : Int32))]) t → Steps p.tables e below E0 t := by
        intro t k
        refine pre_19 t ?_
        show Sp p e below T18 (mkF m 31 #[.val (.ref a1), .val (.ref a2), .val (.ref a2)] [(.ref xe2), (.ref xe1)]) _
        refine XT.acmpYes X18.here hx rfl (pc0 := 31) (pc' := 60) rfl (hb hby d_prog_56_7_31) rfl rfl rfl (XT.aa_ne_t (fun q => hc20 (Value.ref.inj q))) (by decide) (by decide) ?_
        refine XS.iconst X18.here hx rfl (hb hby d_prog_56_7_60) ?_
        exact k
      obtain ⟨fs, hr, hrun, hended, hW, hsame⟩ := X18.leave (v := some (.int (0 : Int32))) (fun h => by rw [Bd.returns] at h; cases h)
      refine ⟨_, _, pre_38 _ ?_, hrun, hended, _, _, rfl, ?_, ⟨_, rfl⟩, hW, hsame.mono (by decide) (by decide)⟩
      · show Sp p e below T18 (mkF m 61 #[.val (.ref a1), .val (.ref a2), .val (.ref a2)] [(.int (0 : Int32))]) _
        exact retN X18 hx (t := .boolean) Bd.returns (by simp) (hb hby d_prog_56_7_61) hr
      · show Q_eqa Z _ _ _ _ _ _ _ _ _ _ h0 n0 _ T18.heap _
        rw [e18]
        exact ⟨by simp [hc13, hc20], N0, rfl⟩
  · skip
    have pre_39 : ∀ t, Sp p e below T11 (mkF m 61 #[.val (.ref a1), .val (.ref a2), .val (.ref a2)] [(.int (0 : Int32))]) t → Steps p.tables e below E0 t := by
      intro t k
      refine pre_12 t ?_
      show Sp p e below T11 (mkF m 20 #[.val (.ref a1), .val (.ref a2), .val (.ref a2)] [(.ref xq2), (.ref xq1)]) _
      refine XT.acmpYes X11.here hx rfl (pc0 := 20) (pc' := 60) rfl (hb hby d_prog_56_7_20) rfl rfl rfl (XT.aa_ne_t (fun q => hc13 (Value.ref.inj q))) (by decide) (by decide) ?_
      refine XS.iconst X11.here hx rfl (hb hby d_prog_56_7_60) ?_
      show Sp p e below T11 (mkF m 61 #[.val (.ref a1), .val (.ref a2), .val (.ref a2)] [(.int (0 : Int32))]) _
      exact k
    obtain ⟨fs, hr, hrun, hended, hW, hsame⟩ := X11.leave (v := some (.int (0 : Int32))) (fun h => by rw [Bd.returns] at h; cases h)
    refine ⟨_, _, pre_39 _ ?_, hrun, hended, _, _, rfl, ?_, ⟨_, rfl⟩, hW, hsame.mono (by decide) (by decide)⟩
    · show Sp p e below T11 (mkF m 61 #[.val (.ref a1), .val (.ref a2), .val (.ref a2)] [(.int (0 : Int32))]) _
      exact retN X11 hx (t := .boolean) Bd.returns (by simp) (hb hby d_prog_56_7_61) hr
    · show Q_eqa Z _ _ _ _ _ _ _ _ _ _ h0 n0 _ T11.heap _
      rw [e11]
      exact ⟨by simp [hc13], N0, rfl⟩
theorem pn_eqs : plainName cSK = true := by first | (simp [plainName, overriddenIn]; done) | decide +kernel
theorem ef_eqs (m : MethodId) (a1 : Addr) : entryFrame m #[(.ref a1), (.ref a1)] 3 = (mkF m 0 #[.val (.ref a1), .val (.ref a1), .unset] []) := by first | (simp [entryFrame, mkF, argsToLocals, Value.category]; done) | rfl
def Q_eqs (Z : State) (a1 : Addr) (xq1 xe1 : Addr) (xx1 xy1 : Int32) (h0 : Heap) (n0 : Nat) (v : Option Value) (h : Heap) (L : List Loc) : Prop := v = some (.int (1 : Int32)) ∧ Fr n0 L ∧ h = h0
set_option maxRecDepth 65536 in
set_option maxHeartbeats 40000000 in
theorem rm_eqs (l : Launch) (Z : State) (a0 : Array Value) (hw : ∀ d ∈ tables_1, d.before a0 Z = true) (ws : List Jvm.Cond) (a1 : Addr) (xq1 xe1 : Addr) (xx1 xy1 : Int32) (h0 : Heap) (n0 : Nat) (O0 : Old Z n0 h0) (E2 : Exa Z h0 a1 cSK) (G0 : Fld Z h0 a1 cSK "quantity" lQC (.ref xq1)) (G1 : Fld Z h0 a1 cSK "end" lEC (.ref xe1)) (G2 : Fld Z h0 a1 cSK "pair" "I" (.int xx1)) (G3 : Fld Z h0 a1 cSK "other" "I" (.int xy1)) :
    MetFree l (⟨cSK, "equals", "(Ljava/lang/Object;)Z"⟩ : MethodName) (head1 (Jvm.Cond.code (⟨cSK, "equals", "(Ljava/lang/Object;)Z"⟩ : MethodName) prog_56_method_7_code 3 (some .boolean) :: ws) ({ frames := 0, cells := 0, slots := 0, locals := 0 } : Room)) (fun a U => a = #[(.ref a1), (.ref a1)] ∧ Z.Warmed39 U.vm ∧ U.heap = h0) (fun _ _ _ _ _ => True) (fun _ U o U' => ∃ v L, o = .returned v ∧ Q_eqs Z a1 xq1 xe1 xx1 xy1 h0 n0 v U'.heap L ∧ FrameEnd U o U' L ({ frames := 0, cells := 0, slots := 0, locals := 0 } : Room).cells ({ frames := 0, cells := 0, slots := 0, locals := 0 } : Room).slots) := by
  refine MetFree.of_bodySF (plainFor_of_name pn_eqs) hisR ?_
  intro p e s m args below meth c s₁ Bd hml0 hP hK
  obtain ⟨rfl, hZ, hh⟩ := hP
  have hx := Bd.exec
  have hby := Bd.bytes
  have hml : c.maxLocals = 3 := hml0
  have hown : s.vm.findClass cSK = some m.cls := findClass_of_methodNamed Bd.named
  have hnm := (name_of_methodNamed Bd.named Bd.method).1
  have X0 : Stand p l e ({ frames := 0, cells := 0, slots := 0, locals := 0 } : Room) s m #[(.ref a1), (.ref a1)] below meth c s₁ [] 0 0 := Stand.of_body Bd
  have e0 : s₁.heap = h0 := by rw [← hh, Bd.state]; rfl
  have N0 := Fr.nil n0
  have pre0 : ∀ t, Steps p.tables e below (s₁.setTop (mkF m 0 #[.val (.ref a1), .val (.ref a1), .unset] [])) t → Steps p.tables e below (s₁.setTop (entryFrame m #[(.ref a1), (.ref a1)] 3)) t := fun t k => castTop (ef_eqs m a1) k
  generalize s₁.setTop (entryFrame m #[(.ref a1), (.ref a1)] 3) = E0 at pre0 ⊢
  have pre_1 : ∀ t, Sp p e below s₁ (mkF m 1 #[.val (.ref a1), .val (.ref a1), .unset] [(.ref a1)]) t → Steps p.tables e below E0 t := by
    intro t k
    refine pre0 t ?_
    show Sp p e below s₁ (mkF m 0 #[.val (.ref a1), .val (.ref a1), .unset] []) _
    refine XS.aloadN X0.here hx rfl (hb hby d_prog_56_7_0) rfl rfl ?_
    exact k
  obtain ⟨T2, X2, e2, st2⟩ := instY X0 hx hZ hown (own_w hw 90 rfl) e0 (Ins.self E2) (g := (mkF m 1 #[.val (.ref a1), .val (.ref a1), .unset] [(.ref a1)])) rfl rfl (hb hby d_prog_56_7_1)
  have pre_3 : ∀ t, Sp p e below T2 (mkF m 4 #[.val (.ref a1), .val (.ref a1), .unset] [(.int (1 : Int32))]) t → Steps p.tables e below E0 t := fun t k => pre_1 t (st2 t k)
  have pre_4 : ∀ t, Sp p e below T2 (mkF m 8 #[.val (.ref a1), .val (.ref a1), .unset] [(.ref a1)]) t → Steps p.tables e below E0 t := by
    intro t k
    refine pre_3 t ?_
    show Sp p e below T2 (mkF m 4 #[.val (.ref a1), .val (.ref a1), .unset] [(.int (1 : Int32))]) _
    refine XS.ifNo X2.here hx rfl (hb hby d_prog_56_7_4) rfl (XT.i0_eq_f (by decide)) ?_
    refine XS.aloadN X2.here hx rfl (hb hby d_prog_56_7_7) rfl rfl ?_
    exact k
  obtain ⟨T5, X5, e5, st5⟩ := castY X2 hx hZ hown (own_w hw 90 rfl) e2 (Ins.self E2) (g := (mkF m 8 #[.val (.ref a1), .val (.ref a1), .unset] [(.ref a1)])) rfl rfl (hb hby d_prog_56_7_8)
  have pre_6 : ∀ t, Sp p e below T5 (mkF m 11 #[.val (.ref a1), .val (.ref a1), .unset] [(.ref a1)]) t → Steps p.tables e below E0 t := fun t k => pre_4 t (st5 t k)
  have pre_7 : ∀ t, Sp p e below T5 (mkF m 13 #[.val (.ref a1), .val (.ref a1), .val (.ref a1)] [(.ref a1)]) t → Steps p.tables e below E0 t := by
    intro t k
    refine pre_6 t ?_
    show Sp p e below T5 (mkF m 11 #[.val (.ref a1), .val (.ref a1), .unset] [(.ref a1)]) _
    refine XS.astoreN X5.here hx rfl (hb hby d_prog_56_7_11) rfl rfl (l' := #[.val (.ref a1), .val (.ref a1), .val (.ref a1)]) rfl ?_
    refine XS.aloadN X5.here hx rfl (hb hby d_prog_56_7_12) rfl rfl ?_
    exact k
  obtain ⟨T8, X8, e8, st8⟩ := getF X5 hx hZ hown (host := "") (Or.inl (own_w hw 77 rfl)) Via.refl e5 G0 (g := (mkF m 13 #[.val (.ref a1), .val (.ref a1), .val (.ref a1)] [(.ref a1)])) rfl rfl (hb hby d_prog_56_7_13)
  have pre_9 : ∀ t, Sp p e below T8 (mkF m 16 #[.val (.ref a1), .val (.ref a1), .val (.ref a1)] [(.ref xq1)]) t → Steps p.tables e below E0 t := fun t k => pre_7 t (st8 t k)
  have pre_10 : ∀ t, Sp p e below T8 (mkF m 17 #[.val (.ref a1), .val (.ref a1), .val (.ref a1)] [(.ref a1), (.ref xq1)]) t → Steps p.tables e below E0 t := by
    intro t k
    refine pre_9 t ?_
    show Sp p e below T8 (mkF m 16 #[.val (.ref a1), .val (.ref a1), .val (.ref a1)] [(.ref xq1)]) _
    refine XS.aloadN X8.here hx rfl (hb hby d_prog_56_7_16) rfl rfl ?_
    exact k
  obtain ⟨T11, X11, e11, st11⟩ := getF X8 hx hZ hown (host := "") (Or.inl (own_w hw 77 rfl)) Via.refl e8 G0 (g := (mkF m 17 #[.val (.ref a1), .val (.ref a1), .val (.ref a1)] [(.ref a1), (.ref xq1)])) rfl rfl (hb hby d_prog_56_7_17)
  have pre_12 : ∀ t, Sp p e below T11 (mkF m 20 #[.val (.ref a1), .val (.ref a1), .val (.ref a1)] [(.ref xq1), (.ref xq1)]) t → Steps p.tables e below E0 t := fun t k => pre_10 t (st11 t k)
  have pre_13 : ∀ t, Sp p e below T11 (mkF m 24 #[.val (.ref a1), .val (.ref a1), .val (.ref a1)] [(.ref a1)]) t → Steps p.tables e below E0 t := by
    intro t k
    refine pre_12 t ?_
    show Sp p e below T11 (mkF m 20 #[.val (.ref a1), .val (.ref a1), .val (.ref a1)] [(.ref xq1), (.ref xq1)]) _
    refine XT.acmpNo X11.here hx rfl (hb hby d_prog_56_7_20) rfl rfl rfl (XT.aa_ne_f rfl) ?_
    refine XS.aloadN X11.here hx rfl (hb hby d_prog_56_7_23) rfl rfl ?_
    show Sp p e below T11 (mkF m 24 #[.val (.ref a1), .val (.ref a1), .val (.ref a1)] [(.ref a1)]) _
    exact k
  obtain ⟨T14, X14, e14, st14⟩ := getF X11 hx hZ hown (host := "") (Or.inl (own_w hw 79 rfl)) Via.refl e11 G1 (g := (mkF m 24 #[.val (.ref a1), .val (.ref a1), .val (.ref a1)] [(.ref a1)])) rfl rfl (hb hby d_prog_56_7_24)
  have pre_15 : ∀ t, Sp p e below T14 (mkF m 27 #[.val (.ref a1), .val (.ref a1), .val (.ref a1)] [(.ref xe1)]) t → Steps p.tables e below E0 t := fun t k => pre_13 t (st14 t k)
  have pre_16 : ∀ t, Sp p e below T14 (mkF m 28 #[.val (.ref a1), .val (.ref a1), .val (.ref a1)] [(.ref a1), (.ref xe1)]) t → Steps p.tables e below E0 t := by
    intro t k
    refine pre_15 t ?_
    show Sp p e below T14 (mkF m 27 #[.val (.ref a1), .val (.ref a1), .val (.ref a1)] [(.ref xe1)]) _
    refine XS.aloadN X14.here hx rfl (hb hby d_prog_56_7_27) rfl rfl ?_
    exact k
  obtain ⟨T17, X17, e17, st17⟩ := getF X14 hx hZ hown (host := "") (Or.inl (own_w hw 79 rfl)) Via.refl e14 G1 (g := (mkF m 28 #[.val (.ref a1), .val (.ref a1), .val (.ref a1)] [(.ref a1), (.ref xe1)])) rfl rfl (hb hby d_prog_56_7_28)
  have pre_18 : ∀ t, Sp p e below T17 (mkF m 31 #[.val (.ref a1), .val (.ref a1), .val (.ref a1)] [(.ref xe1), (.ref xe1)]) t → Steps p.tables e below E0 t := fun t k => pre_16 t (st17 t k)
  have pre_19 : ∀ t, Sp p e below T17 (mkF m 35 #[.val (.ref a1), .val (.ref a1), .val (.ref a1)] [(.ref a1)]) t → Steps p.tables e below E0 t := by
    intro t k
    refine pre_18 t ?_
    show Sp p e below T17 (mkF m 31 #[.val (.ref a1), .val (.ref a1), .val (.ref a1)] [(.ref xe1), (.ref xe1)]) _
    refine XT.acmpNo X17.here hx rfl (hb hby d_prog_56_7_31) rfl rfl rfl (XT.aa_ne_f rfl) ?_
    refine XS.aloadN X17.here hx rfl (hb hby d_prog_56_7_34) rfl rfl ?_
    exact k
  obtain ⟨T20, X20, e20, st20⟩ := getF X17 hx hZ hown (host := "") (Or.inl (own_w hw 81 rfl)) Via.refl e17 G2 (g := (mkF m 35 #[.val (.ref a1), .val (.ref a1), .val (.ref a1)] [(.ref a1)])) rfl rfl (hb hby d_prog_56_7_35)
  have pre_21 : ∀ t, Sp p e below T20 (mkF m 38 #[.val (.ref a1), .val (.ref a1), .val (.ref a1)] [(.int xx1)]) t → Steps p.tables e below E0 t := fun t k => pre_19 t (st20 t k)
  have pre_22 : ∀ t, Sp p e below T20 (mkF m 39 #[.val (.ref a1), .val (.ref a1), .val (.ref a1)] [(.ref a1), (.int xx1)]) t → Steps p.tables e below E0 t := by
    intro t k
    refine pre_21 t ?_
    show Sp p e below T20 (mkF m 38 #[.val (.ref a1), .val (.ref a1), .val (.ref a1)] [(.int xx1)]) _
    refine XS.aloadN X20.here hx rfl (hb hby d_prog_56_7_38) rfl rfl ?_
    exact k
  obtain ⟨T23, X23, e23, st23⟩ := getF X20 hx hZ hown (host := "") (Or.inl (own_w hw 81 rfl)) Via.refl e20 G2 (g := (mkF m 39 #[.val (.ref a1), .val (.ref a1), .val (.ref a1)] [(.ref a1), (.int xx1)])) rfl rfl (hb hby d_prog_56_7_39)
  have pre_24 : ∀ t, Sp p e below T23 (mkF m 42 #[.val (.ref a1), .val (.ref a1), .val (.ref a1)] [(.int xx1), (.int xx1)]) t → Steps p.tables e below E0 t := fun t k => pre_22 t (st23 t k)
  have pre_25 : ∀ t, Sp p e below T23 (mkF m 46 #[.val (.ref a1), .val (.ref a1), .val (.ref a1)] [(.ref a1)]) t → Steps p.tables e below E0 t := by
    intro t k
    refine pre_24 t ?_
    show Sp p e below T23 (mkF m 42 #[.val (.ref a1), .val (.ref a1), .val (.ref a1)] [(.int xx1), (.int xx1)]) _
    refine XS.icmpNo X23.here hx rfl (hb hby d_prog_56_7_42) rfl (XT.ii_ne_f rfl) ?_
    refine XS.aloadN X23.here hx rfl (hb hby d_prog_56_7_45) rfl rfl ?_
    exact k
  obtain ⟨T26, X26, e26, st26⟩ := getF X23 hx hZ hown (host := "") (Or.inl (own_w hw 83 rfl)) Via.refl e23 G3 (g := (mkF m 46 #[.val (.ref a1), .val (.ref a1), .val (.ref a1)] [(.ref a1)])) rfl rfl (hb hby d_prog_56_7_46)
  have pre_27 : ∀ t, Sp p e below T26 (mkF m 49 #[.val (.ref a1), .val (.ref a1), .val (.ref a1)] [(.int xy1)]) t → Steps p.tables e below E0 t := fun t k => pre_25 t (st26 t k)
  have pre_28 : ∀ t, Sp p e below T26 (mkF m 50 #[.val (.ref a1), .val (.ref a1), .val (.ref a1)] [(.ref a1), (.int xy1)]) t → Steps p.tables e below E0 t := by
    intro t k
    refine pre_27 t ?_
    show Sp p e below T26 (mkF m 49 #[.val (.ref a1), .val (.ref a1), .val (.ref a1)] [(.int xy1)]) _
    refine XS.aloadN X26.here hx rfl (hb hby d_prog_56_7_49) rfl rfl ?_
    exact k
  obtain ⟨T29, X29, e29, st29⟩ := getF X26 hx hZ hown (host := "") (Or.inl (own_w hw 83 rfl)) Via.refl e26 G3 (g := (mkF m 50 #[.val (.ref a1), .val (.ref a1), .val (.ref a1)] [(.ref a1), (.int xy1)])) rfl rfl (hb hby d_prog_56_7_50)
  have pre_30 : ∀ t, Sp p e below T29 (mkF m 53 #[.val (.ref a1), .val (.ref a1), .val (.ref a1)] [(.int xy1), (.int xy1)]) t → Steps p.tables e below E0 t := fun t k => pre_28 t (st29 t k)
  have pre_31 : ∀ t, Sp p e below T29 (mkF m 61 #[.val (.ref a1), .val (.ref a1), .val (.ref a1)] [(.int (1 : Int32))]) t → Steps p.tables e below E0 t := by
    intro t k
    refine pre_30 t ?_
    show Sp p e below T29 (mkF m 53 #[.val (.ref a1), .val (.ref a1), .val (.ref a1)] [(.int xy1), (.int xy1)]) _
    refine XS.icmpNo X29.here hx rfl (hb hby d_prog_56_7_53) rfl (XT.ii_ne_f rfl) ?_
    show Sp p e below T29 (mkF m 56 #[.val (.ref a1), .val (.ref a1), .val (.ref a1)] []) _
    refine XS.iconst X29.here hx rfl (hb hby d_prog_56_7_56) ?_
    refine XS.goto X29.here hx rfl (pc0 := 57) (pc' := 61) rfl (hb hby d_prog_56_7_57) (by decide) (by decide) ?_
    exact k
  obtain ⟨fs, hr, hrun, hended, hW, hsame⟩ := X29.leave (v := some (.int (1 : Int32))) (fun h => by rw [Bd.returns] at h; cases h)
  refine ⟨_, _, pre_31 _ ?_, hrun, hended, _, _, rfl, ?_, ⟨_, rfl⟩, hW, hsame.mono (by decide) (by decide)⟩
  · show Sp p e below T29 (mkF m 61 #[.val (.ref a1), .val (.ref a1), .val (.ref a1)] [(.int (1 : Int32))]) _
    exact retN X29 hx (t := .boolean) Bd.returns (by simp) (hb hby d_prog_56_7_61) hr
  · show Q_eqs Z _ _ _ _ _ h0 n0 _ T29.heap _
    rw [e29]
    exact ⟨rfl, N0, rfl⟩
theorem pn_eqn : plainName cSK = true := by first | (simp [plainName, overriddenIn]; done) | decide +kernel
theorem ef_eqn (m : MethodId) (a1 : Addr) : entryFrame m #[(.ref a1), .null] 3 = (mkF m 0 #[.val (.ref a1), .val .null, .unset] []) := by first | (simp [entryFrame, mkF, argsToLocals, Value.category]; done) | rfl
def Q_eqn (Z : State) (a1 : Addr)  (h0 : Heap) (n0 : Nat) (v : Option Value) (h : Heap) (L : List Loc) : Prop := v = some (.int (0 : Int32)) ∧ Fr n0 L ∧ h = h0
set_option maxRecDepth 65536 in
set_option maxHeartbeats 40000000 in
theorem rm_eqn (l : Launch) (Z : State) (a0 : Array Value) (hw : ∀ d ∈ tables_1, d.before a0 Z = true) (ws : List Jvm.Cond) (a1 : Addr)  (h0 : Heap) (n0 : Nat) (O0 : Old Z n0 h0)  :
    MetFree l (⟨cSK, "equals", "(Ljava/lang/Object;)Z"⟩ : MethodName) (head1 (Jvm.Cond.code (⟨cSK, "equals", "(Ljava/lang/Object;)Z"⟩ : MethodName) prog_56_method_7_code 3 (some .boolean) :: ws) ({ frames := 0, cells := 0, slots := 0, locals := 0 } : Room)) (fun a U => a = #[(.ref a1), .null] ∧ Z.Warmed39 U.vm ∧ U.heap = h0) (fun _ _ _ _ _ => True) (fun _ U o U' => ∃ v L, o = .returned v ∧ Q_eqn Z a1  h0 n0 v U'.heap L ∧ FrameEnd U o U' L ({ frames := 0, cells := 0, slots := 0, locals := 0 } : Room).cells ({ frames := 0, cells := 0, slots := 0, locals := 0 } : Room).slots) := by
  refine MetFree.of_bodySF (plainFor_of_name pn_eqn) hisR ?_
  intro p e s m args below meth c s₁ Bd hml0 hP hK
  obtain ⟨rfl, hZ, hh⟩ := hP
  have hx := Bd.exec
  have hby := Bd.bytes
  have hml : c.maxLocals = 3 := hml0
  have hown : s.vm.findClass cSK = some m.cls := findClass_of_methodNamed Bd.named
  have hnm := (name_of_methodNamed Bd.named Bd.method).1
  have X0 : Stand p l e ({ frames := 0, cells := 0, slots := 0, locals := 0 } : Room) s m #[(.ref a1), .null] below meth c s₁ [] 0 0 := Stand.of_body Bd
  have e0 : s₁.heap = h0 := by rw [← hh, Bd.state]; rfl
  have N0 := Fr.nil n0
  have pre0 : ∀ t, Steps p.tables e below (s₁.setTop (mkF m 0 #[.val (.ref a1), .val .null, .unset] [])) t → Steps p.tables e below (s₁.setTop (entryFrame m #[(.ref a1), .null] 3)) t := fun t k => castTop (ef_eqn m a1) k
  generalize s₁.setTop (entryFrame m #[(.ref a1), .null] 3) = E0 at pre0 ⊢
  have pre_1 : ∀ t, Sp p e below s₁ (mkF m 1 #[.val (.ref a1), .val .null, .unset] [.null]) t → Steps p.tables e below E0 t := by
    intro t k
    refine pre0 t ?_
    show Sp p e below s₁ (mkF m 0 #[.val (.ref a1), .val .null, .unset] []) _
    refine XS.aloadN X0.here hx rfl (hb hby d_prog_56_7_0) rfl rfl ?_
    exact k
  have pre_2 : ∀ t, Sp p e below s₁ (mkF m 61 #[.val (.ref a1), .val .null, .unset] [(.int (0 : Int32))]) t → Steps p.tables e below E0 t := by
    intro t k
    refine pre_1 t ?_
    show Sp p e below s₁ (mkF m 1 #[.val (.ref a1), .val .null, .unset] [.null]) _
    refine Stand.instanceofNull X0 hx (g := (mkF m 1 #[.val (.ref a1), .val .null, .unset] [.null])) rfl (rest := []) rfl (hb hby d_prog_56_7_1) _ ?_
    refine XS.ifYes X0.here hx rfl (pc0 := 4) (pc' := 60) rfl (hb hby d_prog_56_7_4) rfl (XT.i0_eq_t (by decide)) (by decide) (by decide) ?_
    refine XS.iconst X0.here hx rfl (hb hby d_prog_56_7_60) ?_
    exact k
  obtain ⟨fs, hr, hrun, hended, hW, hsame⟩ := X0.leave (v := some (.int (0 : Int32))) (fun h => by rw [Bd.returns] at h; cases h)
  refine ⟨_, _, pre_2 _ ?_, hrun, hended, _, _, rfl, ?_, ⟨_, rfl⟩, hW, hsame.mono (by decide) (by decide)⟩
  · show Sp p e below s₁ (mkF m 61 #[.val (.ref a1), .val .null, .unset] [(.int (0 : Int32))]) _
    exact retN X0 hx (t := .boolean) Bd.returns (by simp) (hb hby d_prog_56_7_61) hr
  · show Q_eqn Z _ h0 n0 _ s₁.heap _
    rw [e0]
    exact ⟨rfl, N0, rfl⟩
theorem pn_eqi : plainName cSK = true := by first | (simp [plainName, overriddenIn]; done) | decide +kernel
theorem ef_eqi (m : MethodId) (a1 : Addr) (a2 : Addr) : entryFrame m #[(.ref a1), (.ref a2)] 3 = (mkF m 0 #[.val (.ref a1), .val (.ref a2), .unset] []) := by first | (simp [entryFrame, mkF, argsToLocals, Value.category]; done) | rfl
def Q_eqi (Z : State) (a1 : Addr) (a2 : Addr)  (h0 : Heap) (n0 : Nat) (v : Option Value) (h : Heap) (L : List Loc) : Prop := v = some (.int (0 : Int32)) ∧ Fr n0 L ∧ h = h0
set_option maxRecDepth 65536 in
set_option maxHeartbeats 40000000 in
theorem rm_eqi (l : Launch) (Z : State) (a0 : Array Value) (hw : ∀ d ∈ tables_1, d.before a0 Z = true) (ws : List Jvm.Cond) (a1 : Addr) (a2 : Addr)  (h0 : Heap) (n0 : Nat) (O0 : Old Z n0 h0) (E2 : Exa Z h0 a2 cIN) :
    MetFree l (⟨cSK, "equals", "(Ljava/lang/Object;)Z"⟩ : MethodName) (head1 (Jvm.Cond.code (⟨cSK, "equals", "(Ljava/lang/Object;)Z"⟩ : MethodName) prog_56_method_7_code 3 (some .boolean) :: ws) ({ frames := 0, cells := 0, slots := 0, locals := 0 } : Room)) (fun a U => a = #[(.ref a1), (.ref a2)] ∧ Z.Warmed39 U.vm ∧ U.heap = h0) (fun _ _ _ _ _ => True) (fun _ U o U' => ∃ v L, o = .returned v ∧ Q_eqi Z a1 a2  h0 n0 v U'.heap L ∧ FrameEnd U o U' L ({ frames := 0, cells := 0, slots := 0, locals := 0 } : Room).cells ({ frames := 0, cells := 0, slots := 0, locals := 0 } : Room).slots) := by
  refine MetFree.of_bodySF (plainFor_of_name pn_eqi) hisR ?_
  intro p e s m args below meth c s₁ Bd hml0 hP hK
  obtain ⟨rfl, hZ, hh⟩ := hP
  have hx := Bd.exec
  have hby := Bd.bytes
  have hml : c.maxLocals = 3 := hml0
  have hown : s.vm.findClass cSK = some m.cls := findClass_of_methodNamed Bd.named
  have hnm := (name_of_methodNamed Bd.named Bd.method).1
  have X0 : Stand p l e ({ frames := 0, cells := 0, slots := 0, locals := 0 } : Room) s m #[(.ref a1), (.ref a2)] below meth c s₁ [] 0 0 := Stand.of_body Bd
  have e0 : s₁.heap = h0 := by rw [← hh, Bd.state]; rfl
  have N0 := Fr.nil n0
  have pre0 : ∀ t, Steps p.tables e below (s₁.setTop (mkF m 0 #[.val (.ref a1), .val (.ref a2), .unset] [])) t → Steps p.tables e below (s₁.setTop (entryFrame m #[(.ref a1), (.ref a2)] 3)) t := fun t k => castTop (ef_eqi m a1 a2) k
  generalize s₁.setTop (entryFrame m #[(.ref a1), (.ref a2)] 3) = E0 at pre0 ⊢
  have pre_1 : ∀ t, Sp p e below s₁ (mkF m 1 #[.val (.ref a1), .val (.ref a2), .unset] [(.ref a2)]) t → Steps p.tables e below E0 t := by
    intro t k
    refine pre0 t ?_
    show Sp p e below s₁ (mkF m 0 #[.val (.ref a1), .val (.ref a2), .unset] []) _
    refine XS.aloadN X0.here hx rfl (hb hby d_prog_56_7_0) rfl rfl ?_
    exact k
  obtain ⟨T2, X2, e2, st2⟩ := instNo X0 hx hZ hown (own_w hw 90 rfl) e0 E2 (own_no hw) (g := (mkF m 1 #[.val (.ref a1), .val (.ref a2), .unset] [(.ref a2)])) rfl rfl (hb hby d_prog_56_7_1)
  have pre_3 : ∀ t, Sp p e below T2 (mkF m 4 #[.val (.ref a1), .val (.ref a2), .unset] [(.int (0 : Int32))]) t → Steps p.tables e below E0 t := fun t k => pre_1 t (st2 t k)
  have pre_4 : ∀ t, Sp p e below T2 (mkF m 61 #[.val (.ref a1), .val (.ref a2), .unset] [(.int (0 : Int32))]) t → Steps p.tables e below E0 t := by
    intro t k
    refine pre_3 t ?_
    show Sp p e below T2 (mkF m 4 #[.val (.ref a1), .val (.ref a2), .unset] [(.int (0 : Int32))]) _
    refine XS.ifYes X2.here hx rfl (pc0 := 4) (pc' := 60) rfl (hb hby d_prog_56_7_4) rfl (XT.i0_eq_t (by decide)) (by decide) (by decide) ?_
    refine XS.iconst X2.here hx rfl (hb hby d_prog_56_7_60) ?_
    exact k
  obtain ⟨fs, hr, hrun, hended, hW, hsame⟩ := X2.leave (v := some (.int (0 : Int32))) (fun h => by rw [Bd.returns] at h; cases h)
  refine ⟨_, _, pre_4 _ ?_, hrun, hended, _, _, rfl, ?_, ⟨_, rfl⟩, hW, hsame.mono (by decide) (by decide)⟩
  · show Sp p e below T2 (mkF m 61 #[.val (.ref a1), .val (.ref a2), .unset] [(.int (0 : Int32))]) _
    exact retN X2 hx (t := .boolean) Bd.returns (by simp) (hb hby d_prog_56_7_61) hr
  · show Q_eqi Z _ _ h0 n0 _ T2.heap _
    rw [e2]
    exact ⟨rfl, N0, rfl⟩
theorem d_jdk_18_1_0 : decode jdk_18_method_1_code 0 = .ok (.aload_n 0, 1) := by decide +kernel
theorem d_jdk_18_1_1 : decode jdk_18_method_1_code 1 = .ok (.invokespecial 1, 3) := by decide +kernel
theorem d_jdk_18_1_4 : decode jdk_18_method_1_code 4 = .ok (.return_, 1) := by decide +kernel
theorem pn_nui : plainName "java/lang/Number" = true := by first | (simp [plainName, overriddenIn]; done) | decide +kernel
theorem ef_nui (m : MethodId) (a1 : Addr) : entryFrame m #[(.ref a1)] 1 = (mkF m 0 #[.val (.ref a1)] []) := by first | (simp [entryFrame, mkF, argsToLocals, Value.category]; done) | rfl
def Q_nui (Z : State) (a1 : Addr)  (h0 : Heap) (n0 : Nat) (v : Option Value) (h : Heap) (L : List Loc) : Prop := v = none ∧ Fr n0 L ∧ h = h0
set_option maxRecDepth 65536 in
set_option maxHeartbeats 40000000 in
theorem rm_nui (l : Launch) (Z : State) (a0 : Array Value) (hw : ∀ d ∈ tables_1, d.before a0 Z = true) (ws : List Jvm.Cond) (a1 : Addr)  (h0 : Heap) (n0 : Nat) (O0 : Old Z n0 h0)  :
    MetFree l (⟨"java/lang/Number", "<init>", "()V"⟩ : MethodName) (head1 (Jvm.Cond.code (⟨"java/lang/Number", "<init>", "()V"⟩ : MethodName) jdk_18_method_1_code 1 none :: ws) ({ frames := 1, cells := 0, slots := 0, locals := 12 } : Room)) (fun a U => a = #[(.ref a1)] ∧ Z.Warmed39 U.vm ∧ U.heap = h0) (fun _ _ _ _ _ => True) (fun _ U o U' => ∃ v L, o = .returned v ∧ Q_nui Z a1  h0 n0 v U'.heap L ∧ FrameEnd U o U' L ({ frames := 1, cells := 0, slots := 0, locals := 12 } : Room).cells ({ frames := 1, cells := 0, slots := 0, locals := 12 } : Room).slots) := by
  refine MetFree.of_bodySF (plainFor_of_name pn_nui) hisR ?_
  intro p e s m args below meth c s₁ Bd hml0 hP hK
  obtain ⟨rfl, hZ, hh⟩ := hP
  have hx := Bd.exec
  have hby := Bd.bytes
  have hml : c.maxLocals = 1 := hml0
  have hown : s.vm.findClass "java/lang/Number" = some m.cls := findClass_of_methodNamed Bd.named
  have hnm := (name_of_methodNamed Bd.named Bd.method).1
  have X0 : Stand p l e ({ frames := 1, cells := 0, slots := 0, locals := 12 } : Room) s m #[(.ref a1)] below meth c s₁ [] 0 0 := Stand.of_body Bd
  have e0 : s₁.heap = h0 := by rw [← hh, Bd.state]; rfl
  have N0 := Fr.nil n0
  have pre0 : ∀ t, Steps p.tables e below (s₁.setTop (mkF m 0 #[.val (.ref a1)] [])) t → Steps p.tables e below (s₁.setTop (entryFrame m #[(.ref a1)] 1)) t := fun t k => castTop (ef_nui m a1) k
  generalize s₁.setTop (entryFrame m #[(.ref a1)] 1) = E0 at pre0 ⊢
  have pre_1 : ∀ t, Sp p e below s₁ (mkF m 1 #[.val (.ref a1)] [(.ref a1)]) t → Steps p.tables e below E0 t := by
    intro t k
    refine pre0 t ?_
    show Sp p e below s₁ (mkF m 0 #[.val (.ref a1)] []) _
    refine XS.aloadN X0.here hx rfl (hb hby d_jdk_18_1_0) rfl rfl ?_
    exact k
  obtain ⟨T2, X2, e2, st2⟩ := initO X0 hx hZ hown (own_w hw 171 rfl) (own_w hw 37 rfl) (own_w hw 38 rfl) e0 (g := (mkF m 1 #[.val (.ref a1)] [(.ref a1)])) rfl (by rw [hml]; rfl) rfl (hb hby d_jdk_18_1_1) (by decide) (W := 0) (by show 2 * 0 + _ ≤ _; exact Nat.le_of_eq rfl) (by decide)
  have pre_3 : ∀ t, Sp p e below T2 (mkF m 4 #[.val (.ref a1)] []) t → Steps p.tables e below E0 t := fun t k => pre_1 t (st2 t k)
  obtain ⟨fs, hr, hrun, hended, hW, hsame⟩ := X2.leave (v := none) (fun _ => rfl)
  refine ⟨_, _, pre_3 _ ?_, hrun, hended, _, _, rfl, ?_, ⟨_, rfl⟩, hW, hsame.mono (by decide) (by decide)⟩
  · show Sp p e below T2 (mkF m 4 #[.val (.ref a1)] []) _
    exact X2.returnOut hx Bd.returns (hb hby d_jdk_18_1_4) hr
  · show Q_nui Z _ h0 n0 _ T2.heap _
    rw [e2]
    exact ⟨rfl, N0, rfl⟩
theorem d_jdk_33_23_0 : decode jdk_33_method_23_code 0 = .ok (.aload_n 0, 1) := by decide +kernel
theorem d_jdk_33_23_1 : decode jdk_33_method_23_code 1 = .ok (.invokespecial 202, 3) := by decide +kernel
theorem d_jdk_33_23_4 : decode jdk_33_method_23_code 4 = .ok (.aload_n 0, 1) := by decide +kernel
theorem d_jdk_33_23_5 : decode jdk_33_method_23_code 5 = .ok (.iload_n 1, 1) := by decide +kernel
theorem d_jdk_33_23_6 : decode jdk_33_method_23_code 6 = .ok (.putfield 205, 3) := by decide +kernel
theorem d_jdk_33_23_9 : decode jdk_33_method_23_code 9 = .ok (.return_, 1) := by decide +kernel
theorem pn_inti : plainName cIN = true := by first | (simp [plainName, overriddenIn]; done) | decide +kernel
theorem pd_inti_0 : parseMethodDescriptor "()V" = some ⟨[], none⟩ := by decide +kernel
theorem ef_inti (m : MethodId) (a1 : Addr) (p2 : Int32) : entryFrame m #[(.ref a1), (.int p2)] 2 = (mkF m 0 #[.val (.ref a1), .val (.int p2)] []) := by first | (simp [entryFrame, mkF, argsToLocals, Value.category]; done) | rfl
def Q_inti (Z : State) (a1 : Addr) (p2 : Int32) (u1 : Value) (h0 : Heap) (n0 : Nat) (v : Option Value) (h : Heap) (L : List Loc) : Prop := v = none ∧ Fr n0 L ∧ Keep h0 h [a1]
set_option maxRecDepth 65536 in
set_option maxHeartbeats 40000000 in
theorem rm_inti (l : Launch) (Z : State) (a0 : Array Value) (hw : ∀ d ∈ tables_1, d.before a0 Z = true) (ws : List Jvm.Cond) (a1 : Addr) (p2 : Int32) (u1 : Value) (h0 : Heap) (n0 : Nat) (O0 : Old Z n0 h0) (E1 : Exa Z h0 a1 cIN) (F1 : Fld Z h0 a1 cIN "value" "I" u1) (g1 : n0 ≤ a1) :
    MetFree l (⟨cIN, "<init>", "(I)V"⟩ : MethodName) (head1 (Jvm.Cond.code (⟨cIN, "<init>", "(I)V"⟩ : MethodName) jdk_33_method_23_code 2 none :: ws) ({ frames := 2, cells := 0, slots := 0, locals := 24 } : Room)) (fun a U => a = #[(.ref a1), (.int p2)] ∧ Z.Warmed39 U.vm ∧ U.heap = h0) (fun _ _ _ _ _ => True) (fun _ U o U' => ∃ v L, o = .returned v ∧ Q_inti Z a1 p2 u1 h0 n0 v U'.heap L ∧ FrameEnd U o U' L ({ frames := 2, cells := 0, slots := 0, locals := 24 } : Room).cells ({ frames := 2, cells := 0, slots := 0, locals := 24 } : Room).slots) := by
  refine MetFree.of_bodySF (plainFor_of_name pn_inti) hisR ?_
  intro p e s m args below meth c s₁ Bd hml0 hP hK
  obtain ⟨rfl, hZ, hh⟩ := hP
  have hx := Bd.exec
  have hby := Bd.bytes
  have hml : c.maxLocals = 2 := hml0
  have hown : s.vm.findClass cIN = some m.cls := findClass_of_methodNamed Bd.named
  have hnm := (name_of_methodNamed Bd.named Bd.method).1
  have X0 : Stand p l e ({ frames := 2, cells := 0, slots := 0, locals := 24 } : Room) s m #[(.ref a1), (.int p2)] below meth c s₁ [] 0 0 := Stand.of_body Bd
  have e0 : s₁.heap = h0 := by rw [← hh, Bd.state]; rfl
  have N0 := Fr.nil n0
  have pre0 : ∀ t, Steps p.tables e below (s₁.setTop (mkF m 0 #[.val (.ref a1), .val (.int p2)] [])) t → Steps p.tables e below (s₁.setTop (entryFrame m #[(.ref a1), (.int p2)] 2)) t := fun t k => castTop (ef_inti m a1 p2) k
  generalize s₁.setTop (entryFrame m #[(.ref a1), (.int p2)] 2) = E0 at pre0 ⊢
  have pre_1 : ∀ t, Sp p e below s₁ (mkF m 1 #[.val (.ref a1), .val (.int p2)] [(.ref a1)]) t → Steps p.tables e below E0 t := by
    intro t k
    refine pre0 t ?_
    show Sp p e below s₁ (mkF m 0 #[.val (.ref a1), .val (.int p2)] []) _
    refine XS.aloadN X0.here hx rfl (hb hby d_jdk_33_23_0) rfl rfl ?_
    exact k
  obtain ⟨_, _, ⟨T2, L2, k2, n2⟩, -, X2, ⟨Lc2, hQ2, l2, y2, z2⟩, st2⟩ := X0.specialBack hx (y := (⟨"java/lang/Number", "<init>", "()V"⟩ : MethodName)) rfl hown (mvT hZ (own_w hw 165 rfl)) (mvT hZ (own_w hw 166 rfl)) (mvT hZ (own_w hw 170 rfl)) (by decide) (backOf (W := 0) (rm_nui l Z a0 hw [] a1 h0 n0 O0) hZ (own_w hw 170 rfl) (own_w hw 169 rfl) (by decide) (by decide)) (g := (mkF m 1 #[.val (.ref a1), .val (.int p2)] [(.ref a1)])) rfl (by rw [hml]; rfl) (Steps.refl _) (a := a1) (argsL := []) (rest := []) (lenOf pd_inti_0 rfl) rfl (by show 2 * 0 + _ ≤ _; exact Nat.le_of_eq rfl) (hb hby d_jdk_33_23_1) (fun _ _ => ⟨rfl, e0, (by decide : 0 + 0 ≤ _), (by decide : 0 + 0 ≤ _)⟩)
  dsimp only [Pt.U, Pt.locs, Pt.cells, Pt.slots] at X2 l2 y2 z2 st2 hQ2
  subst l2 y2 z2
  obtain ⟨rfl, N2q, e2⟩ := hQ2
  have N2 := Fr.app N0 N2q
  have pre_3 : ∀ t, Sp p e below T2 (mkF m 4 #[.val (.ref a1), .val (.int p2)] []) t → Steps p.tables e below E0 t := fun t k => pre_1 t (st2.trans k)
  have pre_4 : ∀ t, Sp p e below T2 (mkF m 6 #[.val (.ref a1), .val (.int p2)] [(.int p2), (.ref a1)]) t → Steps p.tables e below E0 t := by
    intro t k
    refine pre_3 t ?_
    show Sp p e below T2 (mkF m 4 #[.val (.ref a1), .val (.int p2)] []) _
    refine XS.aloadN X2.here hx rfl (hb hby d_jdk_33_23_4) rfl rfl ?_
    refine XS.iloadN X2.here hx rfl (hb hby d_jdk_33_23_5) rfl ?_
    exact k
  obtain ⟨T5, h5, X5, e5, W5, st5⟩ := putF X2 hx hZ hown (host := "") (Or.inl (own_w hw 172 rfl)) Via.refl e2 F1 E1 (Or.inr ⟨(own_w hw 173 rfl), rfl, hnm⟩) (own_w hw 160 rfl) (ty := .int) (by decide) rfl rfl (g := (mkF m 6 #[.val (.ref a1), .val (.int p2)] [(.int p2), (.ref a1)])) rfl rfl (hb hby d_jdk_33_23_6)
  have Fw5 := F1.same W5
  have N5 := Fr.snoc X5 N2 g1
  have O5 : Old Z n0 h5 := O0.wr W5 g1
  have pre_6 : ∀ t, Sp p e below T5 (mkF m 9 #[.val (.ref a1), .val (.int p2)] []) t → Steps p.tables e below E0 t := fun t k => pre_4 t (st5 t k)
  obtain ⟨fs, hr, hrun, hended, hW, hsame⟩ := X5.leave (v := none) (fun _ => rfl)
  refine ⟨_, _, pre_6 _ ?_, hrun, hended, _, _, rfl, ?_, ⟨_, rfl⟩, hW, hsame.mono (by decide) (by decide)⟩
  · show Sp p e below T5 (mkF m 9 #[.val (.ref a1), .val (.int p2)] []) _
    exact X5.returnOut hx Bd.returns (hb hby d_jdk_33_23_9) hr
  · show Q_inti Z _ _ _ h0 n0 _ T5.heap _
    rw [e5]
    exact ⟨rfl, N5, ((Keep.refl h0 [a1]).wr W5 (Or.inl (List.mem_of_getElem? (i := 0) rfl)))⟩
theorem d_jdk_33_22_0 : decode jdk_33_method_22_code 0 = .ok (.iload_n 0, 1) := by decide +kernel
theorem d_jdk_33_22_1 : decode jdk_33_method_22_code 1 = .ok (.bipush (-128), 2) := by decide +kernel
theorem d_jdk_33_22_3 : decode jdk_33_method_22_code 3 = .ok (.if_icmp .lt 20, 3) := by decide +kernel
theorem d_jdk_33_22_6 : decode jdk_33_method_22_code 6 = .ok (.iload_n 0, 1) := by decide +kernel
theorem d_jdk_33_22_7 : decode jdk_33_method_22_code 7 = .ok (.getstatic 191, 3) := by decide +kernel
theorem d_jdk_33_22_10 : decode jdk_33_method_22_code 10 = .ok (.if_icmp .gt 13, 3) := by decide +kernel
theorem d_jdk_33_22_13 : decode jdk_33_method_22_code 13 = .ok (.getstatic 195, 3) := by decide +kernel
theorem d_jdk_33_22_16 : decode jdk_33_method_22_code 16 = .ok (.iload_n 0, 1) := by decide +kernel
theorem d_jdk_33_22_17 : decode jdk_33_method_22_code 17 = .ok (.sipush 128, 3) := by decide +kernel
theorem d_jdk_33_22_20 : decode jdk_33_method_22_code 20 = .ok (.iadd, 1) := by decide +kernel
theorem d_jdk_33_22_21 : decode jdk_33_method_22_code 21 = .ok (.aaload, 1) := by decide +kernel
theorem d_jdk_33_22_22 : decode jdk_33_method_22_code 22 = .ok (.areturn, 1) := by decide +kernel
theorem d_jdk_33_22_23 : decode jdk_33_method_22_code 23 = .ok (.new 1, 3) := by decide +kernel
theorem d_jdk_33_22_26 : decode jdk_33_method_22_code 26 = .ok (.dup, 1) := by decide +kernel
theorem d_jdk_33_22_27 : decode jdk_33_method_22_code 27 = .ok (.iload_n 0, 1) := by decide +kernel
theorem d_jdk_33_22_28 : decode jdk_33_method_22_code 28 = .ok (.invokespecial 199, 3) := by decide +kernel
theorem d_jdk_33_22_31 : decode jdk_33_method_22_code 31 = .ok (.areturn, 1) := by decide +kernel
theorem pn_iv : plainName cIN = true := by first | (simp [plainName, overriddenIn]; done) | decide +kernel
theorem pd_iv_0 : parseMethodDescriptor "(I)V" = some ⟨[.int], none⟩ := by decide +kernel
theorem ef_iv (m : MethodId) (p1 : Int32) : entryFrame m #[(.int p1)] 1 = (mkF m 0 #[.val (.int p1)] []) := by first | (simp [entryFrame, mkF, argsToLocals, Value.category]; done) | rfl
def Q_iv (Z : State) (p1 : Int32) (aK : Addr) (clC : Cell) (h0 : Heap) (n0 : Nat) (v : Option Value) (h : Heap) (L : List Loc) : Prop := ∃ b, v = some (.ref b) ∧ Fr n0 L ∧ Keep h0 h [] ∧ Exa Z h b cIN
set_option maxRecDepth 65536 in
set_option maxHeartbeats 40000000 in
theorem rm_iv (l : Launch) (Z : State) (a0 : Array Value) (hw : ∀ d ∈ tables_1, d.before a0 Z = true) (ws : List Jvm.Cond) (p1 : Int32) (aK : Addr) (clC : Cell) (h0 : Heap) (n0 : Nat) (O0 : Old Z n0 h0) (SH : Sta Z Z.heap cIC "high" "I" (.int (127 : Int32))) (SK : Sta Z Z.heap cIC "cache" "[Ljava/lang/Integer;" (.ref aK)) (ArC : Arr Z Z.heap aK clC (.object cIN)) (HC : ∀ x : Int32, ¬ x < (-128 : Int32) → ¬ (127 : Int32) < x → ∃ y, ¬ ((x + (128 : Int32)) < 0 ∨ clC.slots.size ≤ (x + (128 : Int32)).toNatClampNeg) ∧ clC.slots[(x + (128 : Int32)).toNatClampNeg]? = some (.ref y) ∧ Exa Z Z.heap y cIN) :
    MetFree l (⟨cIN, "valueOf", "(I)Ljava/lang/Integer;"⟩ : MethodName) (head1 (Jvm.Cond.code (⟨cIN, "valueOf", "(I)Ljava/lang/Integer;"⟩ : MethodName) jdk_33_method_22_code 1 (some (.object cIN)) :: ws) ({ frames := 3, cells := 1, slots := 1, locals := 38 } : Room)) (fun a U => a = #[(.int p1)] ∧ Z.Warmed39 U.vm ∧ U.heap = h0) (fun _ _ _ _ _ => True) (fun _ U o U' => ∃ v L, o = .returned v ∧ Q_iv Z p1 aK clC h0 n0 v U'.heap L ∧ FrameEnd U o U' L ({ frames := 3, cells := 1, slots := 1, locals := 38 } : Room).cells ({ frames := 3, cells := 1, slots := 1, locals := 38 } : Room).slots) := by
  refine MetFree.of_bodySF (plainFor_of_name pn_iv) hisR ?_
  intro p e s m args below meth c s₁ Bd hml0 hP hK
  obtain ⟨rfl, hZ, hh⟩ := hP
  have hx := Bd.exec
  have hby := Bd.bytes
  have hml : c.maxLocals = 1 := hml0
  have hown : s.vm.findClass cIN = some m.cls := findClass_of_methodNamed Bd.named
  have hnm := (name_of_methodNamed Bd.named Bd.method).1
  have X0 : Stand p l e ({ frames := 3, cells := 1, slots := 1, locals := 38 } : Room) s m #[(.int p1)] below meth c s₁ [] 0 0 := Stand.of_body Bd
  have e0 : s₁.heap = h0 := by rw [← hh, Bd.state]; rfl
  have N0 := Fr.nil n0
  have pre0 : ∀ t, Steps p.tables e below (s₁.setTop (mkF m 0 #[.val (.int p1)] [])) t → Steps p.tables e below (s₁.setTop (entryFrame m #[(.int p1)] 1)) t := fun t k => castTop (ef_iv m p1) k
  generalize s₁.setTop (entryFrame m #[(.int p1)] 1) = E0 at pre0 ⊢
  have pre_1 : ∀ t, Sp p e below s₁ (mkF m 3 #[.val (.int p1)] [(.int (-128 : Int32)), (.int p1)]) t → Steps p.tables e below E0 t := by
    intro t k
    refine pre0 t ?_
    show Sp p e below s₁ (mkF m 0 #[.val (.int p1)] []) _
    refine XS.iloadN X0.here hx rfl (hb hby d_jdk_33_22_0) rfl ?_
    refine XS.bipush X0.here hx rfl (hb hby d_jdk_33_22_1) ?_
    exact k
  by_cases hc2 : p1 < (-128 : Int32)
  · skip
    have pre_3 : ∀ t, Sp p e below s₁ (mkF m 23 #[.val (.int p1)] []) t → Steps p.tables e below E0 t := by
      intro t k
      refine pre_1 t ?_
      show Sp p e below s₁ (mkF m 3 #[.val (.int p1)] [(.int (-128 : Int32)), (.int p1)]) _
      refine XS.icmpYes X0.here hx rfl (pc0 := 3) (pc' := 23) rfl (hb hby d_jdk_33_22_3) rfl (XT.ii_lt_t hc2) (by decide) (by decide) ?_
      exact k
    obtain ⟨T4, h4, X4, e4, E4, A4, D4, -, st4⟩ := newO X0 hx hZ hown (own_w hw 159 rfl) (own_w hw 160 rfl) (own_w hw 94 rfl) e0 (g := (mkF m 23 #[.val (.int p1)] [])) rfl (hb hby d_jdk_33_22_23) (by decide) (by decide)
    obtain ⟨b4, g4⟩ : ∃ z, z = h0.size := ⟨_, rfl⟩
    rw [← g4] at A4 D4 st4
    have O4 : Old Z n0 h4 := O0.ext E4
    have F5 : Fld Z h4 b4 cIN "value" "I" (.int (0 : Int32)) := D4 (Or.inr (own_w hw 173 rfl)) (ty := .int) (by decide)
    have pre_6 : ∀ t, Sp p e below T4 (mkF m 26 #[.val (.int p1)] [(.ref b4)]) t → Steps p.tables e below E0 t := fun t k => pre_3 t (st4 t k)
    have pre_7 : ∀ t, Sp p e below T4 (mkF m 28 #[.val (.int p1)] [(.int p1), (.ref b4), (.ref b4)]) t → Steps p.tables e below E0 t := by
      intro t k
      refine pre_6 t ?_
      show Sp p e below T4 (mkF m 26 #[.val (.int p1)] [(.ref b4)]) _
      refine XS.dup X4.here hx rfl (hb hby d_jdk_33_22_26) rfl rfl ?_
      refine XS.iloadN X4.here hx rfl (hb hby d_jdk_33_22_27) rfl ?_
      exact k
    obtain ⟨_, _, ⟨T8, L8, k8, n8⟩, -, X8, ⟨Lc8, hQ8, l8, y8, z8⟩, st8⟩ := X4.specialBack hx (y := (⟨cIN, "<init>", "(I)V"⟩ : MethodName)) rfl hown (mvT hZ (own_w hw 161 rfl)) (mvT hZ (own_w hw 162 rfl)) (mvT hZ (own_w hw 164 rfl)) (by decide) (backOf (W := 1) (rm_inti l Z a0 hw [] b4 p1 (.int (0 : Int32)) h4 n0 O4 A4 F5 (Nat.le_trans (own_le O0) (Nat.le_of_eq g4.symm))) hZ (own_w hw 164 rfl) (own_w hw 94 rfl) (by decide) (by decide)) (g := (mkF m 28 #[.val (.int p1)] [(.int p1), (.ref b4), (.ref b4)])) rfl (by rw [hml]; rfl) (Steps.refl _) (a := b4) (argsL := [(.int p1)]) (rest := [(.ref b4)]) (lenOf pd_iv_0 rfl) rfl (by show 2 * 0 + _ ≤ _; exact Nat.le_of_eq rfl) (hb hby d_jdk_33_22_28) (fun _ _ => ⟨rfl, e4, (by decide : 1 + 0 ≤ _), (by decide : 1 + 0 ≤ _)⟩)
    dsimp only [Pt.U, Pt.locs, Pt.cells, Pt.slots] at X8 l8 y8 z8 st8 hQ8
    subst l8 y8 z8
    obtain ⟨rfl, N8q, K8⟩ := hQ8
    have N8 := Fr.app N0 N8q
    have O8 : Old Z n0 T8.heap := O4.keep K8 (allS (Nat.le_trans (own_le O0) (Nat.le_of_eq g4.symm)) all0)
    have pre_9 : ∀ t, Sp p e below T8 (mkF m 31 #[.val (.int p1)] [(.ref b4)]) t → Steps p.tables e below E0 t := fun t k => pre_7 t (st8.trans k)
    obtain ⟨fs, hr, hrun, hended, hW, hsame⟩ := X8.leave (v := some (.ref b4)) (fun h => by rw [Bd.returns] at h; cases h)
    refine ⟨_, _, pre_9 _ ?_, hrun, hended, _, _, rfl, ?_, ⟨_, rfl⟩, hW, hsame.mono (by decide) (by decide)⟩
    · show Sp p e below T8 (mkF m 31 #[.val (.int p1)] [(.ref b4)]) _
      exact retOut X8 hx (t := (.object cIN)) Bd.returns rfl (Or.inr (Or.inr (Or.inr (Or.inr ⟨rfl, rfl, rfl⟩)))) (hb hby d_jdk_33_22_31) hr
    · show Q_iv Z _ _ _ h0 n0 _ T8.heap _
      exact ⟨b4, rfl, N8, (((Keep.refl h0 []).ext E4).trans K8 (allS (Or.inr (Nat.le_trans (Keep.refl h0 []).1 (Nat.le_of_eq g4.symm))) all0)), (A4.keep K8)⟩
  · skip
    have pre_10 : ∀ t, Sp p e below s₁ (mkF m 7 #[.val (.int p1)] [(.int p1)]) t → Steps p.tables e below E0 t := by
      intro t k
      refine pre_1 t ?_
      show Sp p e below s₁ (mkF m 3 #[.val (.int p1)] [(.int (-128 : Int32)), (.int p1)]) _
      refine XS.icmpNo X0.here hx rfl (hb hby d_jdk_33_22_3) rfl (XT.ii_lt_f hc2) ?_
      refine XS.iloadN X0.here hx rfl (hb hby d_jdk_33_22_6) rfl ?_
      exact k
    obtain ⟨T11, X11, e11, st11⟩ := getS X0 hx hZ hown (host := "") (own_w hw 96 rfl) Via.refl e0 (SH.ext O0.2) (g := (mkF m 7 #[.val (.int p1)] [(.int p1)])) rfl (hb hby d_jdk_33_22_7)
    have pre_12 : ∀ t, Sp p e below T11 (mkF m 10 #[.val (.int p1)] [(.int (127 : Int32)), (.int p1)]) t → Steps p.tables e below E0 t := fun t k => pre_10 t (st11 t k)
    by_cases hc13 : (127 : Int32) < p1
    · skip
      have pre_14 : ∀ t, Sp p e below T11 (mkF m 23 #[.val (.int p1)] []) t → Steps p.tables e below E0 t := by
        intro t k
        refine pre_12 t ?_
        show Sp p e below T11 (mkF m 10 #[.val (.int p1)] [(.int (127 : Int32)), (.int p1)]) _
        refine XS.icmpYes X11.here hx rfl (pc0 := 10) (pc' := 23) rfl (hb hby d_jdk_33_22_10) rfl (XT.ii_gt_t hc13) (by decide) (by decide) ?_
        exact k
      obtain ⟨T15, h15, X15, e15, E15, A15, D15, -, st15⟩ := newO X11 hx hZ hown (own_w hw 159 rfl) (own_w hw 160 rfl) (own_w hw 94 rfl) e11 (g := (mkF m 23 #[.val (.int p1)] [])) rfl (hb hby d_jdk_33_22_23) (by decide) (by decide)
      obtain ⟨b15, g15⟩ : ∃ z, z = h0.size := ⟨_, rfl⟩
      rw [← g15] at A15 D15 st15
      have O15 : Old Z n0 h15 := O0.ext E15
      have F16 : Fld Z h15 b15 cIN "value" "I" (.int (0 : Int32)) := D15 (Or.inr (own_w hw 173 rfl)) (ty := .int) (by decide)
      have pre_17 : ∀ t, Sp p e below T15 (mkF m 26 #[.val (.int p1)] [(.ref b15)]) t → Steps p.tables e below E0 t := fun t k => pre_14 t (st15 t k)
      have pre_18 : ∀ t, Sp p e below T15 (mkF m 28 #[.val (.int p1)] [(.int p1), (.ref b15), (.ref b15)]) t → Steps p.tables e below E0 t := by
        intro t k
        refine pre_17 t ?_
        show Sp p e below T15 (mkF m 26 #[.val (.int p1)] [(.ref b15)]) _
        refine XS.dup X15.here hx rfl (hb hby d_jdk_33_22_26) rfl rfl ?_
        refine XS.iloadN X15.here hx rfl (hb hby d_jdk_33_22_27) rfl ?_
        exact k
      obtain ⟨_, _, ⟨T19, L19, k19, n19⟩, -, X19, ⟨Lc19, hQ19, l19, y19, z19⟩, st19⟩ := X15.specialBack hx (y := (⟨cIN, "<init>", "(I)V"⟩ : MethodName)) rfl hown (mvT hZ (own_w hw 161 rfl)) (mvT hZ (own_w hw 162 rfl)) (mvT hZ (own_w hw 164 rfl)) (by decide) (backOf (W := 1) (rm_inti l Z a0 hw [] b15 p1 (.int (0 : Int32)) h15 n0 O15 A15 F16 (Nat.le_trans (own_le O0) (Nat.le_of_eq g15.symm))) hZ (own_w hw 164 rfl) (own_w hw 94 rfl) (by decide) (by decide)) (g := (mkF m 28 #[.val (.int p1)] [(.int p1), (.ref b15), (.ref b15)])) rfl (by rw [hml]; rfl) (Steps.refl _) (a := b15) (argsL := [(.int p1)]) (rest := [(.ref b15)]) (lenOf pd_iv_0 rfl) rfl (by show 2 * 0 + _ ≤ _; exact Nat.le_of_eq rfl) (hb hby d_jdk_33_22_28) (fun _ _ => ⟨rfl, e15, (by decide : 1 + 0 ≤ _), (by decide : 1 + 0 ≤ _)⟩)
      dsimp only [Pt.U, Pt.locs, Pt.cells, Pt.slots] at X19 l19 y19 z19 st19 hQ19
      subst l19 y19 z19
      obtain ⟨rfl, N19q, K19⟩ := hQ19
      have N19 := Fr.app N0 N19q
      have O19 : Old Z n0 T19.heap := O15.keep K19 (allS (Nat.le_trans (own_le O0) (Nat.le_of_eq g15.symm)) all0)
      have pre_20 : ∀ t, Sp p e below T19 (mkF m 31 #[.val (.int p1)] [(.ref b15)]) t → Steps p.tables e below E0 t := fun t k => pre_18 t (st19.trans k)
      obtain ⟨fs, hr, hrun, hended, hW, hsame⟩ := X19.leave (v := some (.ref b15)) (fun h => by rw [Bd.returns] at h; cases h)
      refine ⟨_, _, pre_20 _ ?_, hrun, hended, _, _, rfl, ?_, ⟨_, rfl⟩, hW, hsame.mono (by decide) (by decide)⟩
      · show Sp p e below T19 (mkF m 31 #[.val (.int p1)] [(.ref b15)]) _
        exact retOut X19 hx (t := (.object cIN)) Bd.returns rfl (Or.inr (Or.inr (Or.inr (Or.inr ⟨rfl, rfl, rfl⟩)))) (hb hby d_jdk_33_22_31) hr
      · show Q_iv Z _ _ _ h0 n0 _ T19.heap _
        exact ⟨b15, rfl, N19, (((Keep.refl h0 []).ext E15).trans K19 (allS (Or.inr (Nat.le_trans (Keep.refl h0 []).1 (Nat.le_of_eq g15.symm))) all0)), (A15.keep K19)⟩
    · skip
      have pre_21 : ∀ t, Sp p e below T11 (mkF m 13 #[.val (.int p1)] []) t → Steps p.tables e below E0 t := by
        intro t k
        refine pre_12 t ?_
        show Sp p e below T11 (mkF m 10 #[.val (.int p1)] [(.int (127 : Int32)), (.int p1)]) _
        refine XS.icmpNo X11.here hx rfl (hb hby d_jdk_33_22_10) rfl (XT.ii_gt_f hc13) ?_
        exact k
      obtain ⟨T22, X22, e22, st22⟩ := getS X11 hx hZ hown (host := "") (own_w hw 98 rfl) Via.refl e11 (SK.ext O0.2) (g := (mkF m 13 #[.val (.int p1)] [])) rfl (hb hby d_jdk_33_22_13)
      have pre_23 : ∀ t, Sp p e below T22 (mkF m 16 #[.val (.int p1)] [(.ref aK)]) t → Steps p.tables e below E0 t := fun t k => pre_21 t (st22 t k)
      have pre_24 : ∀ t, Sp p e below T22 (mkF m 21 #[.val (.int p1)] [(.int (p1 + (128 : Int32))), (.ref aK)]) t → Steps p.tables e below E0 t := by
        intro t k
        refine pre_23 t ?_
        show Sp p e below T22 (mkF m 16 #[.val (.int p1)] [(.ref aK)]) _
        refine XS.iloadN X22.here hx rfl (hb hby d_jdk_33_22_16) rfl ?_
        refine XS.sipush X22.here hx rfl (hb hby d_jdk_33_22_17) ?_
        refine XS.iadd X22.here hx rfl (hb hby d_jdk_33_22_20) rfl ?_
        show Sp p e below T22 (mkF m 21 #[.val (.int p1)] [(.int (p1 + (128 : Int32))), (.ref aK)]) _
        exact k
      obtain ⟨x25, hin25, hat25, Ex25⟩ := HC p1 hc2 hc13
      have pre_26 : ∀ t, Sp p e below T22 (mkF m 22 #[.val (.int p1)] [(.ref x25)]) t → Steps p.tables e below E0 t := by
        intro t k
        refine pre_24 t ?_
        show Sp p e below T22 (mkF m 21 #[.val (.int p1)] [(.int (p1 + (128 : Int32))), (.ref aK)]) _
        refine X22.aaload hx (j := (p1 + (128 : Int32))) (v := (.ref x25)) (cell := clC) (by rw [e22]; exact (ArC.ext O0.2).1) (State.isArrayOf_alike hZ.alike ArC.2.1) rfl ArC.2.2 hin25 hat25 (g := (mkF m 21 #[.val (.int p1)] [(.int (p1 + (128 : Int32))), (.ref aK)])) rfl rfl (hb hby d_jdk_33_22_21) _ ?_
        exact k
      obtain ⟨fs, hr, hrun, hended, hW, hsame⟩ := X22.leave (v := some (.ref x25)) (fun h => by rw [Bd.returns] at h; cases h)
      refine ⟨_, _, pre_26 _ ?_, hrun, hended, _, _, rfl, ?_, ⟨_, rfl⟩, hW, hsame.mono (by decide) (by decide)⟩
      · show Sp p e below T22 (mkF m 22 #[.val (.int p1)] [(.ref x25)]) _
        exact retOut X22 hx (t := (.object cIN)) Bd.returns rfl (Or.inr (Or.inr (Or.inr (Or.inr ⟨rfl, rfl, rfl⟩)))) (hb hby d_jdk_33_22_22) hr
      · show Q_iv Z _ _ _ h0 n0 _ T22.heap _
        rw [e22]
        exact ⟨x25, rfl, N0, (Keep.refl h0 []), (Ex25.ext O0.2)⟩
theorem pn_law : plainName cLW = true := by first | (simp [plainName, overriddenIn]; done) | decide +kernel
theorem pd_law_0 : parseMethodDescriptor "(IIII)[I" = some ⟨[.int, .int, .int, .int], some (.array .int)⟩ := by decide +kernel
theorem pd_law_1 : parseMethodDescriptor dMK = some ⟨[(.array .int)], some (.object cSK)⟩ := by decide +kernel
theorem pd_law_2 : parseMethodDescriptor "(Ljava/lang/Object;)Z" = some ⟨[(.object "java/lang/Object")], some .boolean⟩ := by decide +kernel
theorem pd_law_3 : parseMethodDescriptor "(I)Ljava/lang/Integer;" = some ⟨[.int], some (.object cIN)⟩ := by decide +kernel
theorem ef_law (m : MethodId) (p1 : Int32) (p2 : Int32) (p3 : Int32) (p4 : Int32) (p5 : Int32) (p6 : Int32) : entryFrame m #[(.int p1), (.int p2), (.int p3), (.int p4), (.int p5), (.int p6)] maxLocals = (mkF m 0 #[.val (.int p1), .val (.int p2), .val (.int p3), .val (.int p4), .val (.int p5), .val (.int p6), .unset, .unset, .unset, .unset, .unset, .unset, .unset, .unset, .unset, .unset, .unset, .unset, .unset, .unset] []) := by first | (simp [entryFrame, mkF, argsToLocals, Value.category, maxLocals]; done) | rfl
def Q_law (Z : State) (p1 : Int32) (p2 : Int32) (p3 : Int32) (p4 : Int32) (p5 : Int32) (p6 : Int32) (qa ia oa ea : Int32 → Addr) (aS : Addr) (kS : ClassId) (aV cA cB : Addr) (kV : ClassId) (aK : Addr) (clC : Cell) (h0 : Heap) (n0 : Nat) (v : Option Value) (h : Heap) (L : List Loc) : Prop := v = some (.int 1) ∧ Fr n0 L
set_option maxRecDepth 65536 in
set_option maxHeartbeats 40000000 in
theorem rm_law (l : Launch) (Z : State) (a0 : Array Value) (hw : ∀ d ∈ tables_1, d.before a0 Z = true) (ws : List Jvm.Cond) (p1 : Int32) (p2 : Int32) (p3 : Int32) (p4 : Int32) (p5 : Int32) (p6 : Int32) (qa ia oa ea : Int32 → Addr) (aS : Addr) (kS : ClassId) (aV cA cB : Addr) (kV : ClassId) (aK : Addr) (clC : Cell) (h0 : Heap) (n0 : Nat) (O0 : Old Z n0 h0) (HW : own_W Z qa ia oa ea aS kS aV cA cB kV) (SH : Sta Z Z.heap cIC "high" "I" (.int (127 : Int32))) (SK : Sta Z Z.heap cIC "cache" "[Ljava/lang/Integer;" (.ref aK)) (ArC : Arr Z Z.heap aK clC (.object cIN)) (HC : ∀ x : Int32, ¬ x < (-128 : Int32) → ¬ (127 : Int32) < x → ∃ y, ¬ ((x + (128 : Int32)) < 0 ∨ clC.slots.size ≤ (x + (128 : Int32)).toNatClampNeg) ∧ clC.slots[(x + (128 : Int32)).toNatClampNeg]? = some (.ref y) ∧ Exa Z Z.heap y cIN) :
    MetFree l x (head1 (Jvm.Cond.code x code maxLocals ret :: ws) room_1) (fun a U => a = #[(.int p1), (.int p2), (.int p3), (.int p4), (.int p5), (.int p6)] ∧ Z.Warmed39 U.vm ∧ U.heap = h0) (fun _ _ _ _ _ => True) (fun _ U o U' => ∃ v L, o = .returned v ∧ Q_law Z p1 p2 p3 p4 p5 p6 qa ia oa ea aS kS aV cA cB kV aK clC h0 n0 v U'.heap L ∧ FrameEnd U o U' L room_1.cells room_1.slots) := by
  refine MetFree.of_bodySF (plainFor_of_name pn_law) hisR ?_
  intro p e s m args below meth c s₁ Bd hml0 hP hK
  obtain ⟨rfl, hZ, hh⟩ := hP
  have hx := Bd.exec
  have hby := Bd.bytes
  have hml : c.maxLocals = 20 := hml0
  have hown : s.vm.findClass cLW = some m.cls := findClass_of_methodNamed Bd.named
  have hnm := (name_of_methodNamed Bd.named Bd.method).1
  have X0 : Stand p l e room_1 s m #[(.int p1), (.int p2), (.int p3), (.int p4), (.int p5), (.int p6)] below meth c s₁ [] 0 0 := Stand.of_body Bd
  have e0 : s₁.heap = h0 := by rw [← hh, Bd.state]; rfl
  have N0 := Fr.nil n0
  have pre0 : ∀ t, Steps p.tables e below (s₁.setTop (mkF m 0 #[.val (.int p1), .val (.int p2), .val (.int p3), .val (.int p4), .val (.int p5), .val (.int p6), .unset, .unset, .unset, .unset, .unset, .unset, .unset, .unset, .unset, .unset, .unset, .unset, .unset, .unset] [])) t → Steps p.tables e below (s₁.setTop (entryFrame m #[(.int p1), (.int p2), (.int p3), (.int p4), (.int p5), (.int p6)] maxLocals)) t := fun t k => castTop (ef_law m p1 p2 p3 p4 p5 p6) k
  generalize s₁.setTop (entryFrame m #[(.int p1), (.int p2), (.int p3), (.int p4), (.int p5), (.int p6)] maxLocals) = E0 at pre0 ⊢
  have pre_1 : ∀ t, Sp p e below s₁ (mkF m 4 #[.val (.int p1), .val (.int p2), .val (.int p3), .val (.int p4), .val (.int p5), .val (.int p6), .unset, .unset, .unset, .unset, .unset, .unset, .unset, .unset, .unset, .unset, .unset, .unset, .unset, .unset] [(.int p4), (.int p3), (.int p2), (.int p1)]) t → Steps p.tables e below E0 t := by
    intro t k
    refine pre0 t ?_
    show Sp p e below s₁ (mkF m 0 #[.val (.int p1), .val (.int p2), .val (.int p3), .val (.int p4), .val (.int p5), .val (.int p6), .unset, .unset, .unset, .unset, .unset, .unset, .unset, .unset, .unset, .unset, .unset, .unset, .unset, .unset] []) _
    refine XS.iloadN X0.here hx rfl (hb hby at_0) rfl ?_
    refine XS.iloadN X0.here hx rfl (hb hby at_1) rfl ?_
    refine XS.iloadN X0.here hx rfl (hb hby at_2) rfl ?_
    refine XS.iloadN X0.here hx rfl (hb hby at_3) rfl ?_
    exact k
  obtain ⟨_, _, ⟨T2, L2, k2, n2⟩, -, X2, ⟨Lc2, hQ2, l2, y2, z2⟩, st2⟩ := Jvm.LawKit.callS X0 hx (y := (⟨cLW, "fields", "(IIII)[I"⟩ : MethodName)) hown (mvT hZ (own_w hw 0 rfl)) (mvT hZ (own_w hw 1 rfl)) (mvT hZ (own_w hw 2 rfl)) (mvT hZ (own_w hw 3 rfl)) (by decide) (backOf (W := 0) (rm_fields l Z a0 hw [] p1 p2 p3 p4 h0 n0 O0) hZ (own_w hw 3 rfl) (own_w hw 2 rfl) (by decide) (by decide)) (g := (mkF m 4 #[.val (.int p1), .val (.int p2), .val (.int p3), .val (.int p4), .val (.int p5), .val (.int p6), .unset, .unset, .unset, .unset, .unset, .unset, .unset, .unset, .unset, .unset, .unset, .unset, .unset, .unset] [(.int p4), (.int p3), (.int p2), (.int p1)])) rfl (by rw [hml]; rfl) (argsL := [(.int p1), (.int p2), (.int p3), (.int p4)]) (rest := []) (lenOf pd_law_0 rfl) rfl (by show 2 * 0 + _ ≤ _; exact Nat.le_of_eq rfl) (hb hby at_4) (fun _ _ => ⟨rfl, e0, (by decide : 0 + 1 ≤ _), (by decide : 0 + 4 ≤ _)⟩)
  dsimp only [Pt.U, Pt.locs, Pt.cells, Pt.slots] at X2 l2 y2 z2 st2 hQ2
  subst l2 y2 z2
  obtain ⟨b2, cA2, fa2, fb2, fc2, fd2, rfl, N2q, K2, sb2, Vb2, ok2⟩ := hQ2
  have N2 := Fr.app N0 N2q
  have O2 : Old Z n0 T2.heap := O0.keep K2 all0
  have pre_3 : ∀ t, Sp p e below T2 (mkF m 7 #[.val (.int p1), .val (.int p2), .val (.int p3), .val (.int p4), .val (.int p5), .val (.int p6), .unset, .unset, .unset, .unset, .unset, .unset, .unset, .unset, .unset, .unset, .unset, .unset, .unset, .unset] [(.ref b2)]) t → Steps p.tables e below E0 t := fun t k => pre_1 t (st2 t k)
  have pre_4 : ∀ t, Sp p e below T2 (mkF m 13 #[.val (.int p1), .val (.int p2), .val (.int p3), .val (.int p4), .val (.int p5), .val (.int p6), .val (.ref b2), .unset, .unset, .unset, .unset, .unset, .unset, .unset, .unset, .unset, .unset, .unset, .unset, .unset] [(.int (p6 &&& (1 : Int32)))]) t → Steps p.tables e below E0 t := by
    intro t k
    refine pre_3 t ?_
    show Sp p e below T2 (mkF m 7 #[.val (.int p1), .val (.int p2), .val (.int p3), .val (.int p4), .val (.int p5), .val (.int p6), .unset, .unset, .unset, .unset, .unset, .unset, .unset, .unset, .unset, .unset, .unset, .unset, .unset, .unset] [(.ref b2)]) _
    refine XS.astore X2.here hx rfl (hb hby at_7) rfl rfl (l' := #[.val (.int p1), .val (.int p2), .val (.int p3), .val (.int p4), .val (.int p5), .val (.int p6), .val (.ref b2), .unset, .unset, .unset, .unset, .unset, .unset, .unset, .unset, .unset, .unset, .unset, .unset, .unset]) rfl ?_
    refine XS.iload X2.here hx rfl (hb hby at_9) rfl ?_
    refine XS.iconst X2.here hx rfl (hb hby at_11) ?_
    refine XS.iand X2.here hx rfl (hb hby at_12) rfl ?_
    show Sp p e below T2 (mkF m 13 #[.val (.int p1), .val (.int p2), .val (.int p3), .val (.int p4), .val (.int p5), .val (.int p6), .val (.ref b2), .unset, .unset, .unset, .unset, .unset, .unset, .unset, .unset, .unset, .unset, .unset, .unset, .unset] [(.int (p6 &&& (1 : Int32)))]) _
    exact k
  have pre_6 : ∀ t, Sp p e below T2 (mkF m 24 #[.val (.int p1), .val (.int p2), .val (.int p3), .val (.int p4), .val (.int p5), .val (.int p6), .val (.ref b2), .unset, .unset, .unset, .unset, .unset, .unset, .unset, .unset, .unset, .unset, .unset, .unset, .unset] [(.int (if (p6 &&& (1 : Int32)) = (0 : Int32) then p1 else (p1 ^^^ p5)))]) t → Steps p.tables e below E0 t := by
    intro t k
    refine pre_4 t ?_
    by_cases hm5 : (p6 &&& (1 : Int32)) = (0 : Int32)
    · skip
      show Sp p e below T2 (mkF m 13 #[.val (.int p1), .val (.int p2), .val (.int p3), .val (.int p4), .val (.int p5), .val (.int p6), .val (.ref b2), .unset, .unset, .unset, .unset, .unset, .unset, .unset, .unset, .unset, .unset, .unset, .unset, .unset] [(.int (p6 &&& (1 : Int32)))]) _
      refine XS.ifYes X2.here hx rfl (pc0 := 13) (pc' := 23) rfl (hb hby at_13) rfl (XT.i0_eq_t hm5) (by decide) (by decide) ?_
      refine XS.iloadN X2.here hx rfl (hb hby at_23) rfl ?_
      first | exact k | (simp only [if_pos hm5] at k; exact k)
    · skip
      show Sp p e below T2 (mkF m 13 #[.val (.int p1), .val (.int p2), .val (.int p3), .val (.int p4), .val (.int p5), .val (.int p6), .val (.ref b2), .unset, .unset, .unset, .unset, .unset, .unset, .unset, .unset, .unset, .unset, .unset, .unset, .unset] [(.int (p6 &&& (1 : Int32)))]) _
      refine XS.ifNo X2.here hx rfl (hb hby at_13) rfl (XT.i0_eq_f hm5) ?_
      refine XS.iloadN X2.here hx rfl (hb hby at_16) rfl ?_
      refine XS.iload X2.here hx rfl (hb hby at_17) rfl ?_
      refine XT.ixor X2.here hx rfl (hb hby at_19) rfl ?_
      refine XS.goto X2.here hx rfl (pc0 := 20) (pc' := 24) rfl (hb hby at_20) (by decide) (by decide) ?_
      first | exact k | (simp only [if_neg hm5] at k; exact k)
  have pre_7 : ∀ t, Sp p e below T2 (mkF m 30 #[.val (.int p1), .val (.int p2), .val (.int p3), .val (.int p4), .val (.int p5), .val (.int p6), .val (.ref b2), .val (.int (if (p6 &&& (1 : Int32)) = (0 : Int32) then p1 else (p1 ^^^ p5))), .unset, .unset, .unset, .unset, .unset, .unset, .unset, .unset, .unset, .unset, .unset, .unset] [(.int (p6 &&& (2 : Int32)))]) t → Steps p.tables e below E0 t := by
    intro t k
    refine pre_6 t ?_
    show Sp p e below T2 (mkF m 24 #[.val (.int p1), .val (.int p2), .val (.int p3), .val (.int p4), .val (.int p5), .val (.int p6), .val (.ref b2), .unset, .unset, .unset, .unset, .unset, .unset, .unset, .unset, .unset, .unset, .unset, .unset, .unset] [(.int (if (p6 &&& (1 : Int32)) = (0 : Int32) then p1 else (p1 ^^^ p5)))]) _
    refine XS.istore X2.here hx rfl (hb hby at_24) rfl (l' := #[.val (.int p1), .val (.int p2), .val (.int p3), .val (.int p4), .val (.int p5), .val (.int p6), .val (.ref b2), .val (.int (if (p6 &&& (1 : Int32)) = (0 : Int32) then p1 else (p1 ^^^ p5))), .unset, .unset, .unset, .unset, .unset, .unset, .unset, .unset, .unset, .unset, .unset, .unset]) rfl ?_
    refine XS.iload X2.here hx rfl (hb hby at_26) rfl ?_
    refine XS.iconst X2.here hx rfl (hb hby at_28) ?_
    refine XS.iand X2.here hx rfl (hb hby at_29) rfl ?_
    exact k
  have pre_9 : ∀ t, Sp p e below T2 (mkF m 40 #[.val (.int p1), .val (.int p2), .val (.int p3), .val (.int p4), .val (.int p5), .val (.int p6), .val (.ref b2), .val (.int (if (p6 &&& (1 : Int32)) = (0 : Int32) then p1 else (p1 ^^^ p5))), .unset, .unset, .unset, .unset, .unset, .unset, .unset, .unset, .unset, .unset, .unset, .unset] [(.int (if (p6 &&& (2 : Int32)) = (0 : Int32) then p2 else (p2 ^^^ (1 : Int32))))]) t → Steps p.tables e below E0 t := by
    intro t k
    refine pre_7 t ?_
    by_cases hm8 : (p6 &&& (2 : Int32)) = (0 : Int32)
    · skip
      show Sp p e below T2 (mkF m 30 #[.val (.int p1), .val (.int p2), .val (.int p3), .val (.int p4), .val (.int p5), .val (.int p6), .val (.ref b2), .val (.int (if (p6 &&& (1 : Int32)) = (0 : Int32) then p1 else (p1 ^^^ p5))), .unset, .unset, .unset, .unset, .unset, .unset, .unset, .unset, .unset, .unset, .unset, .unset] [(.int (p6 &&& (2 : Int32)))]) _
      refine XS.ifYes X2.here hx rfl (pc0 := 30) (pc' := 39) rfl (hb hby at_30) rfl (XT.i0_eq_t hm8) (by decide) (by decide) ?_
      refine XS.iloadN X2.here hx rfl (hb hby at_39) rfl ?_
      first | exact k | (simp only [if_pos hm8] at k; exact k)
    · skip
      show Sp p e below T2 (mkF m 30 #[.val (.int p1), .val (.int p2), .val (.int p3), .val (.int p4), .val (.int p5), .val (.int p6), .val (.ref b2), .val (.int (if (p6 &&& (1 : Int32)) = (0 : Int32) then p1 else (p1 ^^^ p5))), .unset, .unset, .unset, .unset, .unset, .unset, .unset, .unset, .unset, .unset, .unset, .unset] [(.int (p6 &&& (2 : Int32)))]) _
      refine XS.ifNo X2.here hx rfl (hb hby at_30) rfl (XT.i0_eq_f hm8) ?_
      refine XS.iloadN X2.here hx rfl (hb hby at_33) rfl ?_
      refine XS.iconst X2.here hx rfl (hb hby at_34) ?_
      refine XT.ixor X2.here hx rfl (hb hby at_35) rfl ?_
      show Sp p e below T2 (mkF m 36 #[.val (.int p1), .val (.int p2), .val (.int p3), .val (.int p4), .val (.int p5), .val (.int p6), .val (.ref b2), .val (.int (if (p6 &&& (1 : Int32)) = (0 : Int32) then p1 else (p1 ^^^ p5))), .unset, .unset, .unset, .unset, .unset, .unset, .unset, .unset, .unset, .unset, .unset, .unset] [(.int (p2 ^^^ (1 : Int32)))]) _
      refine XS.goto X2.here hx rfl (pc0 := 36) (pc' := 40) rfl (hb hby at_36) (by decide) (by decide) ?_
      first | exact k | (simp only [if_neg hm8] at k; exact k)
  have pre_10 : ∀ t, Sp p e below T2 (mkF m 46 #[.val (.int p1), .val (.int p2), .val (.int p3), .val (.int p4), .val (.int p5), .val (.int p6), .val (.ref b2), .val (.int (if (p6 &&& (1 : Int32)) = (0 : Int32) then p1 else (p1 ^^^ p5))), .val (.int (if (p6 &&& (2 : Int32)) = (0 : Int32) then p2 else (p2 ^^^ (1 : Int32)))), .unset, .unset, .unset, .unset, .unset, .unset, .unset, .unset, .unset, .unset, .unset] [(.int (p6 &&& (4 : Int32)))]) t → Steps p.tables e below E0 t := by
    intro t k
    refine pre_9 t ?_
    show Sp p e below T2 (mkF m 40 #[.val (.int p1), .val (.int p2), .val (.int p3), .val (.int p4), .val (.int p5), .val (.int p6), .val (.ref b2), .val (.int (if (p6 &&& (1 : Int32)) = (0 : Int32) then p1 else (p1 ^^^ p5))), .unset, .unset, .unset, .unset, .unset, .unset, .unset, .unset, .unset, .unset, .unset, .unset] [(.int (if (p6 &&& (2 : Int32)) = (0 : Int32) then p2 else (p2 ^^^ (1 : Int32))))]) _
    refine XS.istore X2.here hx rfl (hb hby at_40) rfl (l' := #[.val (.int p1), .val (.int p2), .val (.int p3), .val (.int p4), .val (.int p5), .val (.int p6), .val (.ref b2), .val (.int (if (p6 &&& (1 : Int32)) = (0 : Int32) then p1 else (p1 ^^^ p5))), .val (.int (if (p6 &&& (2 : Int32)) = (0 : Int32) then p2 else (p2 ^^^ (1 : Int32)))), .unset, .unset, .unset, .unset, .unset, .unset, .unset, .unset, .unset, .unset, .unset]) rfl ?_
    refine XS.iload X2.here hx rfl (hb hby at_42) rfl ?_
    refine XS.iconst X2.here hx rfl (hb hby at_44) ?_
    refine XS.iand X2.here hx rfl (hb hby at_45) rfl ?_
    show Sp p e below T2 (mkF m 46 #[.val (.int p1), .val (.int p2), .val (.int p3), .val (.int p4), .val (.int p5), .val (.int p6), .val (.ref b2), .val (.int (if (p6 &&& (1 : Int32)) = (0 : Int32) then p1 else (p1 ^^^ p5))), .val (.int (if (p6 &&& (2 : Int32)) = (0 : Int32) then p2 else (p2 ^^^ (1 : Int32)))), .unset, .unset, .unset, .unset, .unset, .unset, .unset, .unset, .unset, .unset, .unset] [(.int (p6 &&& (4 : Int32)))]) _
    exact k
  have pre_12 : ∀ t, Sp p e below T2 (mkF m 57 #[.val (.int p1), .val (.int p2), .val (.int p3), .val (.int p4), .val (.int p5), .val (.int p6), .val (.ref b2), .val (.int (if (p6 &&& (1 : Int32)) = (0 : Int32) then p1 else (p1 ^^^ p5))), .val (.int (if (p6 &&& (2 : Int32)) = (0 : Int32) then p2 else (p2 ^^^ (1 : Int32)))), .unset, .unset, .unset, .unset, .unset, .unset, .unset, .unset, .unset, .unset, .unset] [(.int (if (p6 &&& (4 : Int32)) = (0 : Int32) then p3 else (p3 ^^^ p5)))]) t → Steps p.tables e below E0 t := by
    intro t k
    refine pre_10 t ?_
    by_cases hm11 : (p6 &&& (4 : Int32)) = (0 : Int32)
    · skip
      show Sp p e below T2 (mkF m 46 #[.val (.int p1), .val (.int p2), .val (.int p3), .val (.int p4), .val (.int p5), .val (.int p6), .val (.ref b2), .val (.int (if (p6 &&& (1 : Int32)) = (0 : Int32) then p1 else (p1 ^^^ p5))), .val (.int (if (p6 &&& (2 : Int32)) = (0 : Int32) then p2 else (p2 ^^^ (1 : Int32)))), .unset, .unset, .unset, .unset, .unset, .unset, .unset, .unset, .unset, .unset, .unset] [(.int (p6 &&& (4 : Int32)))]) _
      refine XS.ifYes X2.here hx rfl (pc0 := 46) (pc' := 56) rfl (hb hby at_46) rfl (XT.i0_eq_t hm11) (by decide) (by decide) ?_
      refine XS.iloadN X2.here hx rfl (hb hby at_56) rfl ?_
      first | exact k | (simp only [if_pos hm11] at k; exact k)
    · skip
      show Sp p e below T2 (mkF m 46 #[.val (.int p1), .val (.int p2), .val (.int p3), .val (.int p4), .val (.int p5), .val (.int p6), .val (.ref b2), .val (.int (if (p6 &&& (1 : Int32)) = (0 : Int32) then p1 else (p1 ^^^ p5))), .val (.int (if (p6 &&& (2 : Int32)) = (0 : Int32) then p2 else (p2 ^^^ (1 : Int32)))), .unset, .unset, .unset, .unset, .unset, .unset, .unset, .unset, .unset, .unset, .unset] [(.int (p6 &&& (4 : Int32)))]) _
      refine XS.ifNo X2.here hx rfl (hb hby at_46) rfl (XT.i0_eq_f hm11) ?_
      refine XS.iloadN X2.here hx rfl (hb hby at_49) rfl ?_
      refine XS.iload X2.here hx rfl (hb hby at_50) rfl ?_
      refine XT.ixor X2.here hx rfl (hb hby at_52) rfl ?_
      refine XS.goto X2.here hx rfl (pc0 := 53) (pc' := 57) rfl (hb hby at_53) (by decide) (by decide) ?_
      first | exact k | (simp only [if_neg hm11] at k; exact k)
  have pre_13 : ∀ t, Sp p e below T2 (mkF m 64 #[.val (.int p1), .val (.int p2), .val (.int p3), .val (.int p4), .val (.int p5), .val (.int p6), .val (.ref b2), .val (.int (if (p6 &&& (1 : Int32)) = (0 : Int32) then p1 else (p1 ^^^ p5))), .val (.int (if (p6 &&& (2 : Int32)) = (0 : Int32) then p2 else (p2 ^^^ (1 : Int32)))), .val (.int (if (p6 &&& (4 : Int32)) = (0 : Int32) then p3 else (p3 ^^^ p5))), .unset, .unset, .unset, .unset, .unset, .unset, .unset, .unset, .unset, .unset] [(.int (p6 &&& (8 : Int32)))]) t → Steps p.tables e below E0 t := by
    intro t k
    refine pre_12 t ?_
    show Sp p e below T2 (mkF m 57 #[.val (.int p1), .val (.int p2), .val (.int p3), .val (.int p4), .val (.int p5), .val (.int p6), .val (.ref b2), .val (.int (if (p6 &&& (1 : Int32)) = (0 : Int32) then p1 else (p1 ^^^ p5))), .val (.int (if (p6 &&& (2 : Int32)) = (0 : Int32) then p2 else (p2 ^^^ (1 : Int32)))), .unset, .unset, .unset, .unset, .unset, .unset, .unset, .unset, .unset, .unset, .unset] [(.int (if (p6 &&& (4 : Int32)) = (0 : Int32) then p3 else (p3 ^^^ p5)))]) _
    refine XS.istore X2.here hx rfl (hb hby at_57) rfl (l' := #[.val (.int p1), .val (.int p2), .val (.int p3), .val (.int p4), .val (.int p5), .val (.int p6), .val (.ref b2), .val (.int (if (p6 &&& (1 : Int32)) = (0 : Int32) then p1 else (p1 ^^^ p5))), .val (.int (if (p6 &&& (2 : Int32)) = (0 : Int32) then p2 else (p2 ^^^ (1 : Int32)))), .val (.int (if (p6 &&& (4 : Int32)) = (0 : Int32) then p3 else (p3 ^^^ p5))), .unset, .unset, .unset, .unset, .unset, .unset, .unset, .unset, .unset, .unset]) rfl ?_
    refine XS.iload X2.here hx rfl (hb hby at_59) rfl ?_
    refine XS.bipush X2.here hx rfl (hb hby at_61) ?_
    refine XS.iand X2.here hx rfl (hb hby at_63) rfl ?_
    exact k
  have pre_15 : ∀ t, Sp p e below T2 (mkF m 75 #[.val (.int p1), .val (.int p2), .val (.int p3), .val (.int p4), .val (.int p5), .val (.int p6), .val (.ref b2), .val (.int (if (p6 &&& (1 : Int32)) = (0 : Int32) then p1 else (p1 ^^^ p5))), .val (.int (if (p6 &&& (2 : Int32)) = (0 : Int32) then p2 else (p2 ^^^ (1 : Int32)))), .val (.int (if (p6 &&& (4 : Int32)) = (0 : Int32) then p3 else (p3 ^^^ p5))), .unset, .unset, .unset, .unset, .unset, .unset, .unset, .unset, .unset, .unset] [(.int (if (p6 &&& (8 : Int32)) = (0 : Int32) then p4 else (p4 ^^^ p5)))]) t → Steps p.tables e below E0 t := by
    intro t k
    refine pre_13 t ?_
    by_cases hm14 : (p6 &&& (8 : Int32)) = (0 : Int32)
    · skip
      show Sp p e below T2 (mkF m 64 #[.val (.int p1), .val (.int p2), .val (.int p3), .val (.int p4), .val (.int p5), .val (.int p6), .val (.ref b2), .val (.int (if (p6 &&& (1 : Int32)) = (0 : Int32) then p1 else (p1 ^^^ p5))), .val (.int (if (p6 &&& (2 : Int32)) = (0 : Int32) then p2 else (p2 ^^^ (1 : Int32)))), .val (.int (if (p6 &&& (4 : Int32)) = (0 : Int32) then p3 else (p3 ^^^ p5))), .unset, .unset, .unset, .unset, .unset, .unset, .unset, .unset, .unset, .unset] [(.int (p6 &&& (8 : Int32)))]) _
      refine XS.ifYes X2.here hx rfl (pc0 := 64) (pc' := 74) rfl (hb hby at_64) rfl (XT.i0_eq_t hm14) (by decide) (by decide) ?_
      refine XS.iloadN X2.here hx rfl (hb hby at_74) rfl ?_
      first | exact k | (simp only [if_pos hm14] at k; exact k)
    · skip
      show Sp p e below T2 (mkF m 64 #[.val (.int p1), .val (.int p2), .val (.int p3), .val (.int p4), .val (.int p5), .val (.int p6), .val (.ref b2), .val (.int (if (p6 &&& (1 : Int32)) = (0 : Int32) then p1 else (p1 ^^^ p5))), .val (.int (if (p6 &&& (2 : Int32)) = (0 : Int32) then p2 else (p2 ^^^ (1 : Int32)))), .val (.int (if (p6 &&& (4 : Int32)) = (0 : Int32) then p3 else (p3 ^^^ p5))), .unset, .unset, .unset, .unset, .unset, .unset, .unset, .unset, .unset, .unset] [(.int (p6 &&& (8 : Int32)))]) _
      refine XS.ifNo X2.here hx rfl (hb hby at_64) rfl (XT.i0_eq_f hm14) ?_
      refine XS.iloadN X2.here hx rfl (hb hby at_67) rfl ?_
      refine XS.iload X2.here hx rfl (hb hby at_68) rfl ?_
      refine XT.ixor X2.here hx rfl (hb hby at_70) rfl ?_
      show Sp p e below T2 (mkF m 71 #[.val (.int p1), .val (.int p2), .val (.int p3), .val (.int p4), .val (.int p5), .val (.int p6), .val (.ref b2), .val (.int (if (p6 &&& (1 : Int32)) = (0 : Int32) then p1 else (p1 ^^^ p5))), .val (.int (if (p6 &&& (2 : Int32)) = (0 : Int32) then p2 else (p2 ^^^ (1 : Int32)))), .val (.int (if (p6 &&& (4 : Int32)) = (0 : Int32) then p3 else (p3 ^^^ p5))), .unset, .unset, .unset, .unset, .unset, .unset, .unset, .unset, .unset, .unset] [(.int (p4 ^^^ p5))]) _
      refine XS.goto X2.here hx rfl (pc0 := 71) (pc' := 75) rfl (hb hby at_71) (by decide) (by decide) ?_
      first | exact k | (simp only [if_neg hm14] at k; exact k)
  have pre_16 : ∀ t, Sp p e below T2 (mkF m 77 #[.val (.int p1), .val (.int p2), .val (.int p3), .val (.int p4), .val (.int p5), .val (.int p6), .val (.ref b2), .val (.int (if (p6 &&& (1 : Int32)) = (0 : Int32) then p1 else (p1 ^^^ p5))), .val (.int (if (p6 &&& (2 : Int32)) = (0 : Int32) then p2 else (p2 ^^^ (1 : Int32)))), .val (.int (if (p6 &&& (4 : Int32)) = (0 : Int32) then p3 else (p3 ^^^ p5))), .val (.int (if (p6 &&& (8 : Int32)) = (0 : Int32) then p4 else (p4 ^^^ p5))), .unset, .unset, .unset, .unset, .unset, .unset, .unset, .unset, .unset] []) t → Steps p.tables e below E0 t := by
    intro t k
    refine pre_15 t ?_
    show Sp p e below T2 (mkF m 75 #[.val (.int p1), .val (.int p2), .val (.int p3), .val (.int p4), .val (.int p5), .val (.int p6), .val (.ref b2), .val (.int (if (p6 &&& (1 : Int32)) = (0 : Int32) then p1 else (p1 ^^^ p5))), .val (.int (if (p6 &&& (2 : Int32)) = (0 : Int32) then p2 else (p2 ^^^ (1 : Int32)))), .val (.int (if (p6 &&& (4 : Int32)) = (0 : Int32) then p3 else (p3 ^^^ p5))), .unset, .unset, .unset, .unset, .unset, .unset, .unset, .unset, .unset, .unset] [(.int (if (p6 &&& (8 : Int32)) = (0 : Int32) then p4 else (p4 ^^^ p5)))]) _
    refine XS.istore X2.here hx rfl (hb hby at_75) rfl (l' := #[.val (.int p1), .val (.int p2), .val (.int p3), .val (.int p4), .val (.int p5), .val (.int p6), .val (.ref b2), .val (.int (if (p6 &&& (1 : Int32)) = (0 : Int32) then p1 else (p1 ^^^ p5))), .val (.int (if (p6 &&& (2 : Int32)) = (0 : Int32) then p2 else (p2 ^^^ (1 : Int32)))), .val (.int (if (p6 &&& (4 : Int32)) = (0 : Int32) then p3 else (p3 ^^^ p5))), .val (.int (if (p6 &&& (8 : Int32)) = (0 : Int32) then p4 else (p4 ^^^ p5))), .unset, .unset, .unset, .unset, .unset, .unset, .unset, .unset, .unset]) rfl ?_
    exact k
  generalize (if (p6 &&& (1 : Int32)) = (0 : Int32) then p1 else (p1 ^^^ p5)) = qq at pre_16
  generalize (if (p6 &&& (2 : Int32)) = (0 : Int32) then p2 else (p2 ^^^ (1 : Int32))) = qe at pre_16
  generalize (if (p6 &&& (4 : Int32)) = (0 : Int32) then p3 else (p3 ^^^ p5)) = qp at pre_16
  generalize (if (p6 &&& (8 : Int32)) = (0 : Int32) then p4 else (p4 ^^^ p5)) = qo at pre_16
  have pre_17 : ∀ t, Sp p e below T2 (mkF m 85 #[.val (.int p1), .val (.int p2), .val (.int p3), .val (.int p4), .val (.int p5), .val (.int p6), .val (.ref b2), .val (.int qq), .val (.int qe), .val (.int qp), .val (.int qo), .unset, .unset, .unset, .unset, .unset, .unset, .unset, .unset, .unset] [(.int qo), (.int qp), (.int qe), (.int qq)]) t → Steps p.tables e below E0 t := by
    intro t k
    refine pre_16 t ?_
    show Sp p e below T2 (mkF m 77 #[.val (.int p1), .val (.int p2), .val (.int p3), .val (.int p4), .val (.int p5), .val (.int p6), .val (.ref b2), .val (.int qq), .val (.int qe), .val (.int qp), .val (.int qo), .unset, .unset, .unset, .unset, .unset, .unset, .unset, .unset, .unset] []) _
    refine XS.iload X2.here hx rfl (hb hby at_77) rfl ?_
    refine XS.iload X2.here hx rfl (hb hby at_79) rfl ?_
    refine XS.iload X2.here hx rfl (hb hby at_81) rfl ?_
    show Sp p e below T2 (mkF m 83 #[.val (.int p1), .val (.int p2), .val (.int p3), .val (.int p4), .val (.int p5), .val (.int p6), .val (.ref b2), .val (.int qq), .val (.int qe), .val (.int qp), .val (.int qo), .unset, .unset, .unset, .unset, .unset, .unset, .unset, .unset, .unset] [(.int qp), (.int qe), (.int qq)]) _
    refine XS.iload X2.here hx rfl (hb hby at_83) rfl ?_
    exact k
  obtain ⟨_, _, ⟨T18, L18, k18, n18⟩, -, X18, ⟨Lc18, hQ18, l18, y18, z18⟩, st18⟩ := Jvm.LawKit.callS X2 hx (y := (⟨cLW, "fields", "(IIII)[I"⟩ : MethodName)) hown (mvT hZ (own_w hw 0 rfl)) (mvT hZ (own_w hw 1 rfl)) (mvT hZ (own_w hw 2 rfl)) (mvT hZ (own_w hw 3 rfl)) (by decide) (backOf (W := 0) (rm_fields l Z a0 hw [] qq qe qp qo T2.heap n0 O2) hZ (own_w hw 3 rfl) (own_w hw 2 rfl) (by decide) (by decide)) (g := (mkF m 85 #[.val (.int p1), .val (.int p2), .val (.int p3), .val (.int p4), .val (.int p5), .val (.int p6), .val (.ref b2), .val (.int qq), .val (.int qe), .val (.int qp), .val (.int qo), .unset, .unset, .unset, .unset, .unset, .unset, .unset, .unset, .unset] [(.int qo), (.int qp), (.int qe), (.int qq)])) rfl (by rw [hml]; rfl) (argsL := [(.int qq), (.int qe), (.int qp), (.int qo)]) (rest := []) (lenOf pd_law_0 rfl) rfl (by show 2 * 0 + _ ≤ _; exact Nat.le_of_eq rfl) (hb hby at_85) (fun _ _ => ⟨rfl, rfl, (by decide : 1 + 1 ≤ _), (by decide : 4 + 4 ≤ _)⟩)
  dsimp only [Pt.U, Pt.locs, Pt.cells, Pt.slots] at X18 l18 y18 z18 st18 hQ18
  subst l18 y18 z18
  obtain ⟨b18, cA18, fa18, fb18, fc18, fd18, rfl, N18q, K18, sb18, Vb18, ok18⟩ := hQ18
  have N18 := Fr.app N2 N18q
  have O18 : Old Z n0 T18.heap := O2.keep K18 all0
  have pre_19 : ∀ t, Sp p e below T18 (mkF m 88 #[.val (.int p1), .val (.int p2), .val (.int p3), .val (.int p4), .val (.int p5), .val (.int p6), .val (.ref b2), .val (.int qq), .val (.int qe), .val (.int qp), .val (.int qo), .unset, .unset, .unset, .unset, .unset, .unset, .unset, .unset, .unset] [(.ref b18)]) t → Steps p.tables e below E0 t := fun t k => pre_17 t (st18 t k)
  have pre_20 : ∀ t, Sp p e below T18 (mkF m 92 #[.val (.int p1), .val (.int p2), .val (.int p3), .val (.int p4), .val (.int p5), .val (.int p6), .val (.ref b2), .val (.int qq), .val (.int qe), .val (.int qp), .val (.int qo), .val (.ref b18), .unset, .unset, .unset, .unset, .unset, .unset, .unset, .unset] [(.ref b2)]) t → Steps p.tables e below E0 t := by
    intro t k
    refine pre_19 t ?_
    show Sp p e below T18 (mkF m 88 #[.val (.int p1), .val (.int p2), .val (.int p3), .val (.int p4), .val (.int p5), .val (.int p6), .val (.ref b2), .val (.int qq), .val (.int qe), .val (.int qp), .val (.int qo), .unset, .unset, .unset, .unset, .unset, .unset, .unset, .unset, .unset] [(.ref b18)]) _
    refine XS.astore X18.here hx rfl (hb hby at_88) rfl rfl (l' := #[.val (.int p1), .val (.int p2), .val (.int p3), .val (.int p4), .val (.int p5), .val (.int p6), .val (.ref b2), .val (.int qq), .val (.int qe), .val (.int qp), .val (.int qo), .val (.ref b18), .unset, .unset, .unset, .unset, .unset, .unset, .unset, .unset]) rfl ?_
    refine XS.aload X18.here hx rfl (hb hby at_90) rfl rfl ?_
    exact k
  obtain ⟨_, _, ⟨T21, L21, k21, n21⟩, -, X21, ⟨Lc21, hQ21, l21, y21, z21⟩, st21⟩ := Jvm.LawKit.callS X18 hx (y := (⟨cLW, "make", dMK⟩ : MethodName)) hown (mvT hZ (own_w hw 10 rfl)) (mvT hZ (own_w hw 11 rfl)) (mvT hZ (own_w hw 2 rfl)) (mvT hZ (own_w hw 12 rfl)) (by decide) (backOf (W := 0) (rm_make l Z a0 hw [] b2 cA2 fa2 fb2 fc2 fd2 qa ia oa ea aS kS aV cA cB kV T18.heap n0 O18 (Vb2.keep K18 nin0) ok2 HW) hZ (own_w hw 12 rfl) (own_w hw 2 rfl) (by decide) (by decide)) (g := (mkF m 92 #[.val (.int p1), .val (.int p2), .val (.int p3), .val (.int p4), .val (.int p5), .val (.int p6), .val (.ref b2), .val (.int qq), .val (.int qe), .val (.int qp), .val (.int qo), .val (.ref b18), .unset, .unset, .unset, .unset, .unset, .unset, .unset, .unset] [(.ref b2)])) rfl (by rw [hml]; rfl) (argsL := [(.ref b2)]) (rest := []) (lenOf pd_law_1 rfl) rfl (by show 2 * 0 + _ ≤ _; exact Nat.le_of_eq rfl) (hb hby at_92) (fun _ _ => ⟨rfl, rfl, (by decide : 2 + 3 ≤ _), (by decide : 8 + 7 ≤ _)⟩)
  dsimp only [Pt.U, Pt.locs, Pt.cells, Pt.slots] at X21 l21 y21 z21 st21 hQ21
  subst l21 y21 z21
  obtain ⟨b21, rfl, N21q, K21, sb21, Eb21, Fa21, Fb21, Fc21, Fd21⟩ := hQ21
  have N21 := Fr.app N18 N21q
  have O21 : Old Z n0 T21.heap := O18.keep K21 all0
  have pre_22 : ∀ t, Sp p e below T21 (mkF m 95 #[.val (.int p1), .val (.int p2), .val (.int p3), .val (.int p4), .val (.int p5), .val (.int p6), .val (.ref b2), .val (.int qq), .val (.int qe), .val (.int qp), .val (.int qo), .val (.ref b18), .unset, .unset, .unset, .unset, .unset, .unset, .unset, .unset] [(.ref b21)]) t → Steps p.tables e below E0 t := fun t k => pre_20 t (st21 t k)
  have pre_23 : ∀ t, Sp p e below T21 (mkF m 99 #[.val (.int p1), .val (.int p2), .val (.int p3), .val (.int p4), .val (.int p5), .val (.int p6), .val (.ref b2), .val (.int qq), .val (.int qe), .val (.int qp), .val (.int qo), .val (.ref b18), .val (.ref b21), .unset, .unset, .unset, .unset, .unset, .unset, .unset] [(.ref b18)]) t → Steps p.tables e below E0 t := by
    intro t k
    refine pre_22 t ?_
    show Sp p e below T21 (mkF m 95 #[.val (.int p1), .val (.int p2), .val (.int p3), .val (.int p4), .val (.int p5), .val (.int p6), .val (.ref b2), .val (.int qq), .val (.int qe), .val (.int qp), .val (.int qo), .val (.ref b18), .unset, .unset, .unset, .unset, .unset, .unset, .unset, .unset] [(.ref b21)]) _
    refine XS.astore X21.here hx rfl (hb hby at_95) rfl rfl (l' := #[.val (.int p1), .val (.int p2), .val (.int p3), .val (.int p4), .val (.int p5), .val (.int p6), .val (.ref b2), .val (.int qq), .val (.int qe), .val (.int qp), .val (.int qo), .val (.ref b18), .val (.ref b21), .unset, .unset, .unset, .unset, .unset, .unset, .unset]) rfl ?_
    refine XS.aload X21.here hx rfl (hb hby at_97) rfl rfl ?_
    exact k
  obtain ⟨_, _, ⟨T24, L24, k24, n24⟩, -, X24, ⟨Lc24, hQ24, l24, y24, z24⟩, st24⟩ := Jvm.LawKit.callS X21 hx (y := (⟨cLW, "make", dMK⟩ : MethodName)) hown (mvT hZ (own_w hw 10 rfl)) (mvT hZ (own_w hw 11 rfl)) (mvT hZ (own_w hw 2 rfl)) (mvT hZ (own_w hw 12 rfl)) (by decide) (backOf (W := 0) (rm_make l Z a0 hw [] b18 cA18 fa18 fb18 fc18 fd18 qa ia oa ea aS kS aV cA cB kV T21.heap n0 O21 (Vb18.keep K21 nin0) ok18 HW) hZ (own_w hw 12 rfl) (own_w hw 2 rfl) (by decide) (by decide)) (g := (mkF m 99 #[.val (.int p1), .val (.int p2), .val (.int p3), .val (.int p4), .val (.int p5), .val (.int p6), .val (.ref b2), .val (.int qq), .val (.int qe), .val (.int qp), .val (.int qo), .val (.ref b18), .val (.ref b21), .unset, .unset, .unset, .unset, .unset, .unset, .unset] [(.ref b18)])) rfl (by rw [hml]; rfl) (argsL := [(.ref b18)]) (rest := []) (lenOf pd_law_1 rfl) rfl (by show 2 * 0 + _ ≤ _; exact Nat.le_of_eq rfl) (hb hby at_99) (fun _ _ => ⟨rfl, rfl, (by decide : 5 + 3 ≤ _), (by decide : 15 + 7 ≤ _)⟩)
  dsimp only [Pt.U, Pt.locs, Pt.cells, Pt.slots] at X24 l24 y24 z24 st24 hQ24
  subst l24 y24 z24
  obtain ⟨b24, rfl, N24q, K24, sb24, Eb24, Fa24, Fb24, Fc24, Fd24⟩ := hQ24
  have N24 := Fr.app N21 N24q
  have O24 : Old Z n0 T24.heap := O21.keep K24 all0
  have pre_25 : ∀ t, Sp p e below T24 (mkF m 102 #[.val (.int p1), .val (.int p2), .val (.int p3), .val (.int p4), .val (.int p5), .val (.int p6), .val (.ref b2), .val (.int qq), .val (.int qe), .val (.int qp), .val (.int qo), .val (.ref b18), .val (.ref b21), .unset, .unset, .unset, .unset, .unset, .unset, .unset] [(.ref b24)]) t → Steps p.tables e below E0 t := fun t k => pre_23 t (st24 t k)
  have pre_28 : ∀ t, Sp p e below T24 (mkF m 112 #[.val (.int p1), .val (.int p2), .val (.int p3), .val (.int p4), .val (.int p5), .val (.int p6), .val (.ref b2), .val (.int qq), .val (.int qe), .val (.int qp), .val (.int qo), .val (.ref b18), .val (.ref b21), .val (.ref b24), .unset, .unset, .unset, .unset, .unset, .unset] [(.int fa18), (.int fa2)]) t → Steps p.tables e below E0 t := by
    intro t k
    refine pre_25 t ?_
    show Sp p e below T24 (mkF m 102 #[.val (.int p1), .val (.int p2), .val (.int p3), .val (.int p4), .val (.int p5), .val (.int p6), .val (.ref b2), .val (.int qq), .val (.int qe), .val (.int qp), .val (.int qo), .val (.ref b18), .val (.ref b21), .unset, .unset, .unset, .unset, .unset, .unset, .unset] [(.ref b24)]) _
    refine XS.astore X24.here hx rfl (hb hby at_102) rfl rfl (l' := #[.val (.int p1), .val (.int p2), .val (.int p3), .val (.int p4), .val (.int p5), .val (.int p6), .val (.ref b2), .val (.int qq), .val (.int qe), .val (.int qp), .val (.int qo), .val (.ref b18), .val (.ref b21), .val (.ref b24), .unset, .unset, .unset, .unset, .unset, .unset]) rfl ?_
    refine XS.aload X24.here hx rfl (hb hby at_104) rfl rfl ?_
    refine XS.iconst X24.here hx rfl (hb hby at_106) ?_
    show Sp p e below T24 (mkF m 107 #[.val (.int p1), .val (.int p2), .val (.int p3), .val (.int p4), .val (.int p5), .val (.int p6), .val (.ref b2), .val (.int qq), .val (.int qe), .val (.int qp), .val (.int qo), .val (.ref b18), .val (.ref b21), .val (.ref b24), .unset, .unset, .unset, .unset, .unset, .unset] [(.int (0 : Int32)), (.ref b2)]) _
    obtain ⟨cl26, Ar26, -, S26, -, H26, -⟩ := id (((Vb2.keep K18 nin0).keep K21 nin0).keep K24 nin0)
    have hin26 : ¬ ((0 : Int32) < 0 ∨ cl26.slots.size ≤ ((0 : Int32)).toNatClampNeg) := inb_of S26 (by decide)
    refine X24.iaload hx (j := (0 : Int32)) (v := (.int fa2)) Ar26.1 (State.isArrayOf_alike hZ.alike Ar26.2.1) Ar26.2.2 hin26 (H26.at hin26 rfl) (g := (mkF m 107 #[.val (.int p1), .val (.int p2), .val (.int p3), .val (.int p4), .val (.int p5), .val (.int p6), .val (.ref b2), .val (.int qq), .val (.int qe), .val (.int qp), .val (.int qo), .val (.ref b18), .val (.ref b21), .val (.ref b24), .unset, .unset, .unset, .unset, .unset, .unset] [(.int (0 : Int32)), (.ref b2)])) rfl rfl (hb hby at_107) _ ?_
    refine XS.aload X24.here hx rfl (hb hby at_108) rfl rfl ?_
    refine XS.iconst X24.here hx rfl (hb hby at_110) ?_
    obtain ⟨cl27, Ar27, -, S27, -, H27, -⟩ := id ((Vb18.keep K21 nin0).keep K24 nin0)
    have hin27 : ¬ ((0 : Int32) < 0 ∨ cl27.slots.size ≤ ((0 : Int32)).toNatClampNeg) := inb_of S27 (by decide)
    refine X24.iaload hx (j := (0 : Int32)) (v := (.int fa18)) Ar27.1 (State.isArrayOf_alike hZ.alike Ar27.2.1) Ar27.2.2 hin27 (H27.at hin27 rfl) (g := (mkF m 111 #[.val (.int p1), .val (.int p2), .val (.int p3), .val (.int p4), .val (.int p5), .val (.int p6), .val (.ref b2), .val (.int qq), .val (.int qe), .val (.int qp), .val (.int qo), .val (.ref b18), .val (.ref b21), .val (.ref b24), .unset, .unset, .unset, .unset, .unset, .unset] [(.int (0 : Int32)), (.ref b18), (.int fa2)])) rfl rfl (hb hby at_111) _ ?_
    exact k
  have pre_39 : ∀ t, Sp p e below T24 (mkF m 153 #[.val (.int p1), .val (.int p2), .val (.int p3), .val (.int p4), .val (.int p5), .val (.int p6), .val (.ref b2), .val (.int qq), .val (.int qe), .val (.int qp), .val (.int qo), .val (.ref b18), .val (.ref b21), .val (.ref b24), .unset, .unset, .unset, .unset, .unset, .unset] [(.int (if fa2 = fa18 then (if fb2 = fb18 then (if fc2 = fc18 then (if fd2 = fd18 then (1 : Int32) else (0 : Int32)) else (0 : Int32)) else (0 : Int32)) else (0 : Int32)))]) t → Steps p.tables e below E0 t := by
    intro t k
    refine pre_28 t ?_
    by_cases hm29 : fa2 = fa18
    · skip
      show Sp p e below T24 (mkF m 112 #[.val (.int p1), .val (.int p2), .val (.int p3), .val (.int p4), .val (.int p5), .val (.int p6), .val (.ref b2), .val (.int qq), .val (.int qe), .val (.int qp), .val (.int qo), .val (.ref b18), .val (.ref b21), .val (.ref b24), .unset, .unset, .unset, .unset, .unset, .unset] [(.int fa18), (.int fa2)]) _
      refine XS.icmpNo X24.here hx rfl (hb hby at_112) rfl (XT.ii_ne_f hm29) ?_
      refine XS.aload X24.here hx rfl (hb hby at_115) rfl rfl ?_
      refine XS.iconst X24.here hx rfl (hb hby at_117) ?_
      obtain ⟨cl30, Ar30, -, S30, -, H30, -⟩ := id (((Vb2.keep K18 nin0).keep K21 nin0).keep K24 nin0)
      have hin30 : ¬ ((1 : Int32) < 0 ∨ cl30.slots.size ≤ ((1 : Int32)).toNatClampNeg) := inb_of S30 (by decide)
      refine X24.iaload hx (j := (1 : Int32)) (v := (.int fb2)) Ar30.1 (State.isArrayOf_alike hZ.alike Ar30.2.1) Ar30.2.2 hin30 (H30.at hin30 rfl) (g := (mkF m 118 #[.val (.int p1), .val (.int p2), .val (.int p3), .val (.int p4), .val (.int p5), .val (.int p6), .val (.ref b2), .val (.int qq), .val (.int qe), .val (.int qp), .val (.int qo), .val (.ref b18), .val (.ref b21), .val (.ref b24), .unset, .unset, .unset, .unset, .unset, .unset] [(.int (1 : Int32)), (.ref b2)])) rfl rfl (hb hby at_118) _ ?_
      show Sp p e below T24 (mkF m 119 #[.val (.int p1), .val (.int p2), .val (.int p3), .val (.int p4), .val (.int p5), .val (.int p6), .val (.ref b2), .val (.int qq), .val (.int qe), .val (.int qp), .val (.int qo), .val (.ref b18), .val (.ref b21), .val (.ref b24), .unset, .unset, .unset, .unset, .unset, .unset] [(.int fb2)]) _
      refine XS.aload X24.here hx rfl (hb hby at_119) rfl rfl ?_
      refine XS.iconst X24.here hx rfl (hb hby at_121) ?_
      obtain ⟨cl31, Ar31, -, S31, -, H31, -⟩ := id ((Vb18.keep K21 nin0).keep K24 nin0)
      have hin31 : ¬ ((1 : Int32) < 0 ∨ cl31.slots.size ≤ ((1 : Int32)).toNatClampNeg) := inb_of S31 (by decide)
      refine X24.iaload hx (j := (1 : Int32)) (v := (.int fb18)) Ar31.1 (State.isArrayOf_alike hZ.alike Ar31.2.1) Ar31.2.2 hin31 (H31.at hin31 rfl) (g := (mkF m 122 #[.val (.int p1), .val (.int p2), .val (.int p3), .val (.int p4), .val (.int p5), .val (.int p6), .val (.ref b2), .val (.int qq), .val (.int qe), .val (.int qp), .val (.int qo), .val (.ref b18), .val (.ref b21), .val (.ref b24), .unset, .unset, .unset, .unset, .unset, .unset] [(.int (1 : Int32)), (.ref b18), (.int fb2)])) rfl rfl (hb hby at_122) _ ?_
      by_cases hm32 : fb2 = fb18
      · skip
        show Sp p e below T24 (mkF m 123 #[.val (.int p1), .val (.int p2), .val (.int p3), .val (.int p4), .val (.int p5), .val (.int p6), .val (.ref b2), .val (.int qq), .val (.int qe), .val (.int qp), .val (.int qo), .val (.ref b18), .val (.ref b21), .val (.ref b24), .unset, .unset, .unset, .unset, .unset, .unset] [(.int fb18), (.int fb2)]) _
        refine XS.icmpNo X24.here hx rfl (hb hby at_123) rfl (XT.ii_ne_f hm32) ?_
        refine XS.aload X24.here hx rfl (hb hby at_126) rfl rfl ?_
        refine XS.iconst X24.here hx rfl (hb hby at_128) ?_
        obtain ⟨cl33, Ar33, -, S33, -, H33, -⟩ := id (((Vb2.keep K18 nin0).keep K21 nin0).keep K24 nin0)
        have hin33 : ¬ ((2 : Int32) < 0 ∨ cl33.slots.size ≤ ((2 : Int32)).toNatClampNeg) := inb_of S33 (by decide)
        refine X24.iaload hx (j := (2 : Int32)) (v := (.int fc2)) Ar33.1 (State.isArrayOf_alike hZ.alike Ar33.2.1) Ar33.2.2 hin33 (H33.at hin33 rfl) (g := (mkF m 129 #[.val (.int p1), .val (.int p2), .val (.int p3), .val (.int p4), .val (.int p5), .val (.int p6), .val (.ref b2), .val (.int qq), .val (.int qe), .val (.int qp), .val (.int qo), .val (.ref b18), .val (.ref b21), .val (.ref b24), .unset, .unset, .unset, .unset, .unset, .unset] [(.int (2 : Int32)), (.ref b2)])) rfl rfl (hb hby at_129) _ ?_
        refine XS.aload X24.here hx rfl (hb hby at_130) rfl rfl ?_
        show Sp p e below T24 (mkF m 132 #[.val (.int p1), .val (.int p2), .val (.int p3), .val (.int p4), .val (.int p5), .val (.int p6), .val (.ref b2), .val (.int qq), .val (.int qe), .val (.int qp), .val (.int qo), .val (.ref b18), .val (.ref b21), .val (.ref b24), .unset, .unset, .unset, .unset, .unset, .unset] [(.ref b18), (.int fc2)]) _
        refine XS.iconst X24.here hx rfl (hb hby at_132) ?_
        obtain ⟨cl34, Ar34, -, S34, -, H34, -⟩ := id ((Vb18.keep K21 nin0).keep K24 nin0)
        have hin34 : ¬ ((2 : Int32) < 0 ∨ cl34.slots.size ≤ ((2 : Int32)).toNatClampNeg) := inb_of S34 (by decide)
        refine X24.iaload hx (j := (2 : Int32)) (v := (.int fc18)) Ar34.1 (State.isArrayOf_alike hZ.alike Ar34.2.1) Ar34.2.2 hin34 (H34.at hin34 rfl) (g := (mkF m 133 #[.val (.int p1), .val (.int p2), .val (.int p3), .val (.int p4), .val (.int p5), .val (.int p6), .val (.ref b2), .val (.int qq), .val (.int qe), .val (.int qp), .val (.int qo), .val (.ref b18), .val (.ref b21), .val (.ref b24), .unset, .unset, .unset, .unset, .unset, .unset] [(.int (2 : Int32)), (.ref b18), (.int fc2)])) rfl rfl (hb hby at_133) _ ?_
        by_cases hm35 : fc2 = fc18
        · skip
          show Sp p e below T24 (mkF m 134 #[.val (.int p1), .val (.int p2), .val (.int p3), .val (.int p4), .val (.int p5), .val (.int p6), .val (.ref b2), .val (.int qq), .val (.int qe), .val (.int qp), .val (.int qo), .val (.ref b18), .val (.ref b21), .val (.ref b24), .unset, .unset, .unset, .unset, .unset, .unset] [(.int fc18), (.int fc2)]) _
          refine XS.icmpNo X24.here hx rfl (hb hby at_134) rfl (XT.ii_ne_f hm35) ?_
          refine XS.aload X24.here hx rfl (hb hby at_137) rfl rfl ?_
          refine XS.iconst X24.here hx rfl (hb hby at_139) ?_
          obtain ⟨cl36, Ar36, -, S36, -, H36, -⟩ := id (((Vb2.keep K18 nin0).keep K21 nin0).keep K24 nin0)
          have hin36 : ¬ ((3 : Int32) < 0 ∨ cl36.slots.size ≤ ((3 : Int32)).toNatClampNeg) := inb_of S36 (by decide)
          refine X24.iaload hx (j := (3 : Int32)) (v := (.int fd2)) Ar36.1 (State.isArrayOf_alike hZ.alike Ar36.2.1) Ar36.2.2 hin36 (H36.at hin36 rfl) (g := (mkF m 140 #[.val (.int p1), .val (.int p2), .val (.int p3), .val (.int p4), .val (.int p5), .val (.int p6), .val (.ref b2), .val (.int qq), .val (.int qe), .val (.int qp), .val (.int qo), .val (.ref b18), .val (.ref b21), .val (.ref b24), .unset, .unset, .unset, .unset, .unset, .unset] [(.int (3 : Int32)), (.ref b2)])) rfl rfl (hb hby at_140) _ ?_
          refine XS.aload X24.here hx rfl (hb hby at_141) rfl rfl ?_
          refine XS.iconst X24.here hx rfl (hb hby at_143) ?_
          show Sp p e below T24 (mkF m 144 #[.val (.int p1), .val (.int p2), .val (.int p3), .val (.int p4), .val (.int p5), .val (.int p6), .val (.ref b2), .val (.int qq), .val (.int qe), .val (.int qp), .val (.int qo), .val (.ref b18), .val (.ref b21), .val (.ref b24), .unset, .unset, .unset, .unset, .unset, .unset] [(.int (3 : Int32)), (.ref b18), (.int fd2)]) _
          obtain ⟨cl37, Ar37, -, S37, -, H37, -⟩ := id ((Vb18.keep K21 nin0).keep K24 nin0)
          have hin37 : ¬ ((3 : Int32) < 0 ∨ cl37.slots.size ≤ ((3 : Int32)).toNatClampNeg) := inb_of S37 (by decide)
          refine X24.iaload hx (j := (3 : Int32)) (v := (.int fd18)) Ar37.1 (State.isArrayOf_alike hZ.alike Ar37.2.1) Ar37.2.2 hin37 (H37.at hin37 rfl) (g := (mkF m 144 #[.val (.int p1), .val (.int p2), .val (.int p3), .val (.int p4), .val (.int p5), .val (.int p6), .val (.ref b2), .val (.int qq), .val (.int qe), .val (.int qp), .val (.int qo), .val (.ref b18), .val (.ref b21), .val (.ref b24), .unset, .unset, .unset, .unset, .unset, .unset] [(.int (3 : Int32)), (.ref b18), (.int fd2)])) rfl rfl (hb hby at_144) _ ?_
          by_cases hm38 : fd2 = fd18
          · skip
            show Sp p e below T24 (mkF m 145 #[.val (.int p1), .val (.int p2), .val (.int p3), .val (.int p4), .val (.int p5), .val (.int p6), .val (.ref b2), .val (.int qq), .val (.int qe), .val (.int qp), .val (.int qo), .val (.ref b18), .val (.ref b21), .val (.ref b24), .unset, .unset, .unset, .unset, .unset, .unset] [(.int fd18), (.int fd2)]) _
            refine XS.icmpNo X24.here hx rfl (hb hby at_145) rfl (XT.ii_ne_f hm38) ?_
            refine XS.iconst X24.here hx rfl (hb hby at_148) ?_
            refine XS.goto X24.here hx rfl (pc0 := 149) (pc' := 153) rfl (hb hby at_149) (by decide) (by decide) ?_
            first | exact k | (simp only [if_pos hm29, if_pos hm32, if_pos hm35, if_pos hm38] at k; exact k)
          · skip
            show Sp p e below T24 (mkF m 145 #[.val (.int p1), .val (.int p2), .val (.int p3), .val (.int p4), .val (.int p5), .val (.int p6), .val (.ref b2), .val (.int qq), .val (.int qe), .val (.int qp), .val (.int qo), .val (.ref b18), .val (.ref b21), .val (.ref b24), .unset, .unset, .unset, .unset, .unset, .unset] [(.int fd18), (.int fd2)]) _
            refine XS.icmpYes X24.here hx rfl (pc0 := 145) (pc' := 152) rfl (hb hby at_145) rfl (XT.ii_ne_t hm38) (by decide) (by decide) ?_
            refine XS.iconst X24.here hx rfl (hb hby at_152) ?_
            first | exact k | (simp only [if_pos hm29, if_pos hm32, if_pos hm35, if_neg hm38] at k; exact k)
        · skip
          show Sp p e below T24 (mkF m 134 #[.val (.int p1), .val (.int p2), .val (.int p3), .val (.int p4), .val (.int p5), .val (.int p6), .val (.ref b2), .val (.int qq), .val (.int qe), .val (.int qp), .val (.int qo), .val (.ref b18), .val (.ref b21), .val (.ref b24), .unset, .unset, .unset, .unset, .unset, .unset] [(.int fc18), (.int fc2)]) _
          refine XS.icmpYes X24.here hx rfl (pc0 := 134) (pc' := 152) rfl (hb hby at_134) rfl (XT.ii_ne_t hm35) (by decide) (by decide) ?_
          refine XS.iconst X24.here hx rfl (hb hby at_152) ?_
          first | exact k | (simp only [if_pos hm29, if_pos hm32, if_neg hm35] at k; exact k)
      · skip
        show Sp p e below T24 (mkF m 123 #[.val (.int p1), .val (.int p2), .val (.int p3), .val (.int p4), .val (.int p5), .val (.int p6), .val (.ref b2), .val (.int qq), .val (.int qe), .val (.int qp), .val (.int qo), .val (.ref b18), .val (.ref b21), .val (.ref b24), .unset, .unset, .unset, .unset, .unset, .unset] [(.int fb18), (.int fb2)]) _
        refine XS.icmpYes X24.here hx rfl (pc0 := 123) (pc' := 152) rfl (hb hby at_123) rfl (XT.ii_ne_t hm32) (by decide) (by decide) ?_
        refine XS.iconst X24.here hx rfl (hb hby at_152) ?_
        first | exact k | (simp only [if_pos hm29, if_neg hm32] at k; exact k)
    · skip
      show Sp p e below T24 (mkF m 112 #[.val (.int p1), .val (.int p2), .val (.int p3), .val (.int p4), .val (.int p5), .val (.int p6), .val (.ref b2), .val (.int qq), .val (.int qe), .val (.int qp), .val (.int qo), .val (.ref b18), .val (.ref b21), .val (.ref b24), .unset, .unset, .unset, .unset, .unset, .unset] [(.int fa18), (.int fa2)]) _
      refine XS.icmpYes X24.here hx rfl (pc0 := 112) (pc' := 152) rfl (hb hby at_112) rfl (XT.ii_ne_t hm29) (by decide) (by decide) ?_
      refine XS.iconst X24.here hx rfl (hb hby at_152) ?_
      first | exact k | (simp only [if_neg hm29] at k; exact k)
  have pre_40 : ∀ t, Sp p e below T24 (mkF m 159 #[.val (.int p1), .val (.int p2), .val (.int p3), .val (.int p4), .val (.int p5), .val (.int p6), .val (.ref b2), .val (.int qq), .val (.int qe), .val (.int qp), .val (.int qo), .val (.ref b18), .val (.ref b21), .val (.ref b24), .val (.int (if fa2 = fa18 then (if fb2 = fb18 then (if fc2 = fc18 then (if fd2 = fd18 then (1 : Int32) else (0 : Int32)) else (0 : Int32)) else (0 : Int32)) else (0 : Int32))), .unset, .unset, .unset, .unset, .unset] [(.ref b24), (.ref b21)]) t → Steps p.tables e below E0 t := by
    intro t k
    refine pre_39 t ?_
    show Sp p e below T24 (mkF m 153 #[.val (.int p1), .val (.int p2), .val (.int p3), .val (.int p4), .val (.int p5), .val (.int p6), .val (.ref b2), .val (.int qq), .val (.int qe), .val (.int qp), .val (.int qo), .val (.ref b18), .val (.ref b21), .val (.ref b24), .unset, .unset, .unset, .unset, .unset, .unset] [(.int (if fa2 = fa18 then (if fb2 = fb18 then (if fc2 = fc18 then (if fd2 = fd18 then (1 : Int32) else (0 : Int32)) else (0 : Int32)) else (0 : Int32)) else (0 : Int32)))]) _
    refine XS.istore X24.here hx rfl (hb hby at_153) rfl (l' := #[.val (.int p1), .val (.int p2), .val (.int p3), .val (.int p4), .val (.int p5), .val (.int p6), .val (.ref b2), .val (.int qq), .val (.int qe), .val (.int qp), .val (.int qo), .val (.ref b18), .val (.ref b21), .val (.ref b24), .val (.int (if fa2 = fa18 then (if fb2 = fb18 then (if fc2 = fc18 then (if fd2 = fd18 then (1 : Int32) else (0 : Int32)) else (0 : Int32)) else (0 : Int32)) else (0 : Int32))), .unset, .unset, .unset, .unset, .unset]) rfl ?_
    refine XS.aload X24.here hx rfl (hb hby at_155) rfl rfl ?_
    refine XS.aload X24.here hx rfl (hb hby at_157) rfl rfl ?_
    exact k
  obtain ⟨cq41, kq41, qa41, qb41, qc41⟩ := isOf hZ rfl (Eb21.keep K24)
  obtain ⟨_, _, ⟨T41, L41, k41, n41⟩, -, X41, ⟨Lc41, hQ41, l41, y41, z41⟩, st41⟩ := X24.virtualBack hx (y := (⟨cSK, "equals", "(Ljava/lang/Object;)Z"⟩ : MethodName)) (z := (⟨cSK, "equals", "(Ljava/lang/Object;)Z"⟩ : MethodName)) hown (mvT hZ (own_w hw 85 rfl)) (mvT hZ (own_w hw 86 rfl)) (notFace_of_selects (args := #[]) (mvT hZ (own_w hw 88 rfl))) (mvT hZ (own_w hw 88 rfl)) (mvT hZ (own_w hw 87 rfl)) (by decide) (backOf (W := 0) (rm_eqa l Z a0 hw [] b21 b24 (qa fa2) (ea fb2) (qa fa18) (ea fb18) fc2 fd2 fc18 fd18 T24.heap n0 O24 Eb24 (Fa21.keep K24 nin0) (Fb21.keep K24 nin0) (Fc21.keep K24 nin0) (Fd21.keep K24 nin0) Fa24 Fb24 Fc24 Fd24) hZ (own_w hw 89 rfl) (own_w hw 15 rfl) (by decide) (by decide)) qa41 qc41 (g := (mkF m 159 #[.val (.int p1), .val (.int p2), .val (.int p3), .val (.int p4), .val (.int p5), .val (.int p6), .val (.ref b2), .val (.int qq), .val (.int qe), .val (.int qp), .val (.int qo), .val (.ref b18), .val (.ref b21), .val (.ref b24), .val (.int (if fa2 = fa18 then (if fb2 = fb18 then (if fc2 = fc18 then (if fd2 = fd18 then (1 : Int32) else (0 : Int32)) else (0 : Int32)) else (0 : Int32)) else (0 : Int32))), .unset, .unset, .unset, .unset, .unset] [(.ref b24), (.ref b21)])) rfl (by rw [hml]; rfl) (Steps.refl _) (argsL := [(.ref b24)]) (rest := []) (lenOf pd_law_2 rfl) rfl (by show 2 * 0 + _ ≤ _; exact Nat.le_of_eq rfl) (hb hby at_159) (fun _ _ => ⟨rfl, rfl, (by decide : 8 + 0 ≤ _), (by decide : 22 + 0 ≤ _)⟩)
  dsimp only [Pt.U, Pt.locs, Pt.cells, Pt.slots] at X41 l41 y41 z41 st41 hQ41
  subst l41 y41 z41
  obtain ⟨hv41, N41q, e41⟩ := hQ41
  rw [own_sw (own_qinj HW ok2 ok18) (own_einj HW ok2 ok18)] at hv41
  subst hv41
  have N41 := Fr.app N24 N41q
  have pre_42 : ∀ t, Sp p e below T41 (mkF m 162 #[.val (.int p1), .val (.int p2), .val (.int p3), .val (.int p4), .val (.int p5), .val (.int p6), .val (.ref b2), .val (.int qq), .val (.int qe), .val (.int qp), .val (.int qo), .val (.ref b18), .val (.ref b21), .val (.ref b24), .val (.int (if fa2 = fa18 then (if fb2 = fb18 then (if fc2 = fc18 then (if fd2 = fd18 then (1 : Int32) else (0 : Int32)) else (0 : Int32)) else (0 : Int32)) else (0 : Int32))), .unset, .unset, .unset, .unset, .unset] [(.int (if fa2 = fa18 then (if fb2 = fb18 then (if fc2 = fc18 then (if fd2 = fd18 then (1 : Int32) else (0 : Int32)) else (0 : Int32)) else (0 : Int32)) else (0 : Int32)))]) t → Steps p.tables e below E0 t := fun t k => pre_40 t (st41.trans k)
  have pre_43 : ∀ t, Sp p e below T41 (mkF m 168 #[.val (.int p1), .val (.int p2), .val (.int p3), .val (.int p4), .val (.int p5), .val (.int p6), .val (.ref b2), .val (.int qq), .val (.int qe), .val (.int qp), .val (.int qo), .val (.ref b18), .val (.ref b21), .val (.ref b24), .val (.int (if fa2 = fa18 then (if fb2 = fb18 then (if fc2 = fc18 then (if fd2 = fd18 then (1 : Int32) else (0 : Int32)) else (0 : Int32)) else (0 : Int32)) else (0 : Int32))), .val (.int (if fa2 = fa18 then (if fb2 = fb18 then (if fc2 = fc18 then (if fd2 = fd18 then (1 : Int32) else (0 : Int32)) else (0 : Int32)) else (0 : Int32)) else (0 : Int32))), .unset, .unset, .unset, .unset] [(.ref b21), (.ref b24)]) t → Steps p.tables e below E0 t := by
    intro t k
    refine pre_42 t ?_
    show Sp p e below T41 (mkF m 162 #[.val (.int p1), .val (.int p2), .val (.int p3), .val (.int p4), .val (.int p5), .val (.int p6), .val (.ref b2), .val (.int qq), .val (.int qe), .val (.int qp), .val (.int qo), .val (.ref b18), .val (.ref b21), .val (.ref b24), .val (.int (if fa2 = fa18 then (if fb2 = fb18 then (if fc2 = fc18 then (if fd2 = fd18 then (1 : Int32) else (0 : Int32)) else (0 : Int32)) else (0 : Int32)) else (0 : Int32))), .unset, .unset, .unset, .unset, .unset] [(.int (if fa2 = fa18 then (if fb2 = fb18 then (if fc2 = fc18 then (if fd2 = fd18 then (1 : Int32) else (0 : Int32)) else (0 : Int32)) else (0 : Int32)) else (0 : Int32)))]) _
    refine XS.istore X41.here hx rfl (hb hby at_162) rfl (l' := #[.val (.int p1), .val (.int p2), .val (.int p3), .val (.int p4), .val (.int p5), .val (.int p6), .val (.ref b2), .val (.int qq), .val (.int qe), .val (.int qp), .val (.int qo), .val (.ref b18), .val (.ref b21), .val (.ref b24), .val (.int (if fa2 = fa18 then (if fb2 = fb18 then (if fc2 = fc18 then (if fd2 = fd18 then (1 : Int32) else (0 : Int32)) else (0 : Int32)) else (0 : Int32)) else (0 : Int32))), .val (.int (if fa2 = fa18 then (if fb2 = fb18 then (if fc2 = fc18 then (if fd2 = fd18 then (1 : Int32) else (0 : Int32)) else (0 : Int32)) else (0 : Int32)) else (0 : Int32))), .unset, .unset, .unset, .unset]) rfl ?_
    show Sp p e below T41 (mkF m 164 #[.val (.int p1), .val (.int p2), .val (.int p3), .val (.int p4), .val (.int p5), .val (.int p6), .val (.ref b2), .val (.int qq), .val (.int qe), .val (.int qp), .val (.int qo), .val (.ref b18), .val (.ref b21), .val (.ref b24), .val (.int (if fa2 = fa18 then (if fb2 = fb18 then (if fc2 = fc18 then (if fd2 = fd18 then (1 : Int32) else (0 : Int32)) else (0 : Int32)) else (0 : Int32)) else (0 : Int32))), .val (.int (if fa2 = fa18 then (if fb2 = fb18 then (if fc2 = fc18 then (if fd2 = fd18 then (1 : Int32) else (0 : Int32)) else (0 : Int32)) else (0 : Int32)) else (0 : Int32))), .unset, .unset, .unset, .unset] []) _
    refine XS.aload X41.here hx rfl (hb hby at_164) rfl rfl ?_
    refine XS.aload X41.here hx rfl (hb hby at_166) rfl rfl ?_
    exact k
  obtain ⟨cq44, kq44, qa44, qb44, qc44⟩ := isOf hZ e41 Eb24
  obtain ⟨_, _, ⟨T44, L44, k44, n44⟩, -, X44, ⟨Lc44, hQ44, l44, y44, z44⟩, st44⟩ := X41.virtualBack hx (y := (⟨cSK, "equals", "(Ljava/lang/Object;)Z"⟩ : MethodName)) (z := (⟨cSK, "equals", "(Ljava/lang/Object;)Z"⟩ : MethodName)) hown (mvT hZ (own_w hw 85 rfl)) (mvT hZ (own_w hw 86 rfl)) (notFace_of_selects (args := #[]) (mvT hZ (own_w hw 88 rfl))) (mvT hZ (own_w hw 88 rfl)) (mvT hZ (own_w hw 87 rfl)) (by decide) (backOf (W := 0) (rm_eqa l Z a0 hw [] b24 b21 (qa fa18) (ea fb18) (qa fa2) (ea fb2) fc18 fd18 fc2 fd2 T24.heap n0 O24 (Eb21.keep K24) Fa24 Fb24 Fc24 Fd24 (Fa21.keep K24 nin0) (Fb21.keep K24 nin0) (Fc21.keep K24 nin0) (Fd21.keep K24 nin0)) hZ (own_w hw 89 rfl) (own_w hw 15 rfl) (by decide) (by decide)) qa44 qc44 (g := (mkF m 168 #[.val (.int p1), .val (.int p2), .val (.int p3), .val (.int p4), .val (.int p5), .val (.int p6), .val (.ref b2), .val (.int qq), .val (.int qe), .val (.int qp), .val (.int qo), .val (.ref b18), .val (.ref b21), .val (.ref b24), .val (.int (if fa2 = fa18 then (if fb2 = fb18 then (if fc2 = fc18 then (if fd2 = fd18 then (1 : Int32) else (0 : Int32)) else (0 : Int32)) else (0 : Int32)) else (0 : Int32))), .val (.int (if fa2 = fa18 then (if fb2 = fb18 then (if fc2 = fc18 then (if fd2 = fd18 then (1 : Int32) else (0 : Int32)) else (0 : Int32)) else (0 : Int32)) else (0 : Int32))), .unset, .unset, .unset, .unset] [(.ref b21), (.ref b24)])) rfl (by rw [hml]; rfl) (Steps.refl _) (argsL := [(.ref b21)]) (rest := []) (lenOf pd_law_2 rfl) rfl (by show 2 * 0 + _ ≤ _; exact Nat.le_of_eq rfl) (hb hby at_168) (fun _ _ => ⟨rfl, e41, (by decide : 8 + 0 ≤ _), (by decide : 22 + 0 ≤ _)⟩)
  dsimp only [Pt.U, Pt.locs, Pt.cells, Pt.slots] at X44 l44 y44 z44 st44 hQ44
  subst l44 y44 z44
  obtain ⟨hv44, N44q, e44⟩ := hQ44
  rw [own_sw (own_qinj HW ok18 ok2) (own_einj HW ok18 ok2)] at hv44
  subst hv44
  have N44 := Fr.app N41 N44q
  have pre_45 : ∀ t, Sp p e below T44 (mkF m 171 #[.val (.int p1), .val (.int p2), .val (.int p3), .val (.int p4), .val (.int p5), .val (.int p6), .val (.ref b2), .val (.int qq), .val (.int qe), .val (.int qp), .val (.int qo), .val (.ref b18), .val (.ref b21), .val (.ref b24), .val (.int (if fa2 = fa18 then (if fb2 = fb18 then (if fc2 = fc18 then (if fd2 = fd18 then (1 : Int32) else (0 : Int32)) else (0 : Int32)) else (0 : Int32)) else (0 : Int32))), .val (.int (if fa2 = fa18 then (if fb2 = fb18 then (if fc2 = fc18 then (if fd2 = fd18 then (1 : Int32) else (0 : Int32)) else (0 : Int32)) else (0 : Int32)) else (0 : Int32))), .unset, .unset, .unset, .unset] [(.int (if fa18 = fa2 then (if fb18 = fb2 then (if fc18 = fc2 then (if fd18 = fd2 then (1 : Int32) else (0 : Int32)) else (0 : Int32)) else (0 : Int32)) else (0 : Int32)))]) t → Steps p.tables e below E0 t := fun t k => pre_43 t (st44.trans k)
  have pre_46 : ∀ t, Sp p e below T44 (mkF m 177 #[.val (.int p1), .val (.int p2), .val (.int p3), .val (.int p4), .val (.int p5), .val (.int p6), .val (.ref b2), .val (.int qq), .val (.int qe), .val (.int qp), .val (.int qo), .val (.ref b18), .val (.ref b21), .val (.ref b24), .val (.int (if fa2 = fa18 then (if fb2 = fb18 then (if fc2 = fc18 then (if fd2 = fd18 then (1 : Int32) else (0 : Int32)) else (0 : Int32)) else (0 : Int32)) else (0 : Int32))), .val (.int (if fa2 = fa18 then (if fb2 = fb18 then (if fc2 = fc18 then (if fd2 = fd18 then (1 : Int32) else (0 : Int32)) else (0 : Int32)) else (0 : Int32)) else (0 : Int32))), .val (.int (if fa18 = fa2 then (if fb18 = fb2 then (if fc18 = fc2 then (if fd18 = fd2 then (1 : Int32) else (0 : Int32)) else (0 : Int32)) else (0 : Int32)) else (0 : Int32))), .unset, .unset, .unset] [(.ref b21), (.ref b21)]) t → Steps p.tables e below E0 t := by
    intro t k
    refine pre_45 t ?_
    show Sp p e below T44 (mkF m 171 #[.val (.int p1), .val (.int p2), .val (.int p3), .val (.int p4), .val (.int p5), .val (.int p6), .val (.ref b2), .val (.int qq), .val (.int qe), .val (.int qp), .val (.int qo), .val (.ref b18), .val (.ref b21), .val (.ref b24), .val (.int (if fa2 = fa18 then (if fb2 = fb18 then (if fc2 = fc18 then (if fd2 = fd18 then (1 : Int32) else (0 : Int32)) else (0 : Int32)) else (0 : Int32)) else (0 : Int32))), .val (.int (if fa2 = fa18 then (if fb2 = fb18 then (if fc2 = fc18 then (if fd2 = fd18 then (1 : Int32) else (0 : Int32)) else (0 : Int32)) else (0 : Int32)) else (0 : Int32))), .unset, .unset, .unset, .unset] [(.int (if fa18 = fa2 then (if fb18 = fb2 then (if fc18 = fc2 then (if fd18 = fd2 then (1 : Int32) else (0 : Int32)) else (0 : Int32)) else (0 : Int32)) else (0 : Int32)))]) _
    refine XS.istore X44.here hx rfl (hb hby at_171) rfl (l' := #[.val (.int p1), .val (.int p2), .val (.int p3), .val (.int p4), .val (.int p5), .val (.int p6), .val (.ref b2), .val (.int qq), .val (.int qe), .val (.int qp), .val (.int qo), .val (.ref b18), .val (.ref b21), .val (.ref b24), .val (.int (if fa2 = fa18 then (if fb2 = fb18 then (if fc2 = fc18 then (if fd2 = fd18 then (1 : Int32) else (0 : Int32)) else (0 : Int32)) else (0 : Int32)) else (0 : Int32))), .val (.int (if fa2 = fa18 then (if fb2 = fb18 then (if fc2 = fc18 then (if fd2 = fd18 then (1 : Int32) else (0 : Int32)) else (0 : Int32)) else (0 : Int32)) else (0 : Int32))), .val (.int (if fa18 = fa2 then (if fb18 = fb2 then (if fc18 = fc2 then (if fd18 = fd2 then (1 : Int32) else (0 : Int32)) else (0 : Int32)) else (0 : Int32)) else (0 : Int32))), .unset, .unset, .unset]) rfl ?_
    refine XS.aload X44.here hx rfl (hb hby at_173) rfl rfl ?_
    refine XS.aload X44.here hx rfl (hb hby at_175) rfl rfl ?_
    exact k
  obtain ⟨cq47, kq47, qa47, qb47, qc47⟩ := isOf hZ e44 (Eb21.keep K24)
  obtain ⟨_, _, ⟨T47, L47, k47, n47⟩, -, X47, ⟨Lc47, hQ47, l47, y47, z47⟩, st47⟩ := X44.virtualBack hx (y := (⟨cSK, "equals", "(Ljava/lang/Object;)Z"⟩ : MethodName)) (z := (⟨cSK, "equals", "(Ljava/lang/Object;)Z"⟩ : MethodName)) hown (mvT hZ (own_w hw 85 rfl)) (mvT hZ (own_w hw 86 rfl)) (notFace_of_selects (args := #[]) (mvT hZ (own_w hw 88 rfl))) (mvT hZ (own_w hw 88 rfl)) (mvT hZ (own_w hw 87 rfl)) (by decide) (backOf (W := 0) (rm_eqs l Z a0 hw [] b21 (qa fa2) (ea fb2) fc2 fd2 T24.heap n0 O24 (Eb21.keep K24) (Fa21.keep K24 nin0) (Fb21.keep K24 nin0) (Fc21.keep K24 nin0) (Fd21.keep K24 nin0)) hZ (own_w hw 89 rfl) (own_w hw 15 rfl) (by decide) (by decide)) qa47 qc47 (g := (mkF m 177 #[.val (.int p1), .val (.int p2), .val (.int p3), .val (.int p4), .val (.int p5), .val (.int p6), .val (.ref b2), .val (.int qq), .val (.int qe), .val (.int qp), .val (.int qo), .val (.ref b18), .val (.ref b21), .val (.ref b24), .val (.int (if fa2 = fa18 then (if fb2 = fb18 then (if fc2 = fc18 then (if fd2 = fd18 then (1 : Int32) else (0 : Int32)) else (0 : Int32)) else (0 : Int32)) else (0 : Int32))), .val (.int (if fa2 = fa18 then (if fb2 = fb18 then (if fc2 = fc18 then (if fd2 = fd18 then (1 : Int32) else (0 : Int32)) else (0 : Int32)) else (0 : Int32)) else (0 : Int32))), .val (.int (if fa18 = fa2 then (if fb18 = fb2 then (if fc18 = fc2 then (if fd18 = fd2 then (1 : Int32) else (0 : Int32)) else (0 : Int32)) else (0 : Int32)) else (0 : Int32))), .unset, .unset, .unset] [(.ref b21), (.ref b21)])) rfl (by rw [hml]; rfl) (Steps.refl _) (argsL := [(.ref b21)]) (rest := []) (lenOf pd_law_2 rfl) rfl (by show 2 * 0 + _ ≤ _; exact Nat.le_of_eq rfl) (hb hby at_177) (fun _ _ => ⟨rfl, e44, (by decide : 8 + 0 ≤ _), (by decide : 22 + 0 ≤ _)⟩)
  dsimp only [Pt.U, Pt.locs, Pt.cells, Pt.slots] at X47 l47 y47 z47 st47 hQ47
  subst l47 y47 z47
  obtain ⟨rfl, N47q, e47⟩ := hQ47
  have N47 := Fr.app N44 N47q
  have pre_48 : ∀ t, Sp p e below T47 (mkF m 180 #[.val (.int p1), .val (.int p2), .val (.int p3), .val (.int p4), .val (.int p5), .val (.int p6), .val (.ref b2), .val (.int qq), .val (.int qe), .val (.int qp), .val (.int qo), .val (.ref b18), .val (.ref b21), .val (.ref b24), .val (.int (if fa2 = fa18 then (if fb2 = fb18 then (if fc2 = fc18 then (if fd2 = fd18 then (1 : Int32) else (0 : Int32)) else (0 : Int32)) else (0 : Int32)) else (0 : Int32))), .val (.int (if fa2 = fa18 then (if fb2 = fb18 then (if fc2 = fc18 then (if fd2 = fd18 then (1 : Int32) else (0 : Int32)) else (0 : Int32)) else (0 : Int32)) else (0 : Int32))), .val (.int (if fa18 = fa2 then (if fb18 = fb2 then (if fc18 = fc2 then (if fd18 = fd2 then (1 : Int32) else (0 : Int32)) else (0 : Int32)) else (0 : Int32)) else (0 : Int32))), .unset, .unset, .unset] [(.int (1 : Int32))]) t → Steps p.tables e below E0 t := fun t k => pre_46 t (st47.trans k)
  have pre_49 : ∀ t, Sp p e below T47 (mkF m 185 #[.val (.int p1), .val (.int p2), .val (.int p3), .val (.int p4), .val (.int p5), .val (.int p6), .val (.ref b2), .val (.int qq), .val (.int qe), .val (.int qp), .val (.int qo), .val (.ref b18), .val (.ref b21), .val (.ref b24), .val (.int (if fa2 = fa18 then (if fb2 = fb18 then (if fc2 = fc18 then (if fd2 = fd18 then (1 : Int32) else (0 : Int32)) else (0 : Int32)) else (0 : Int32)) else (0 : Int32))), .val (.int (if fa2 = fa18 then (if fb2 = fb18 then (if fc2 = fc18 then (if fd2 = fd18 then (1 : Int32) else (0 : Int32)) else (0 : Int32)) else (0 : Int32)) else (0 : Int32))), .val (.int (if fa18 = fa2 then (if fb18 = fb2 then (if fc18 = fc2 then (if fd18 = fd2 then (1 : Int32) else (0 : Int32)) else (0 : Int32)) else (0 : Int32)) else (0 : Int32))), .val (.int (1 : Int32)), .unset, .unset] [.null, (.ref b21)]) t → Steps p.tables e below E0 t := by
    intro t k
    refine pre_48 t ?_
    show Sp p e below T47 (mkF m 180 #[.val (.int p1), .val (.int p2), .val (.int p3), .val (.int p4), .val (.int p5), .val (.int p6), .val (.ref b2), .val (.int qq), .val (.int qe), .val (.int qp), .val (.int qo), .val (.ref b18), .val (.ref b21), .val (.ref b24), .val (.int (if fa2 = fa18 then (if fb2 = fb18 then (if fc2 = fc18 then (if fd2 = fd18 then (1 : Int32) else (0 : Int32)) else (0 : Int32)) else (0 : Int32)) else (0 : Int32))), .val (.int (if fa2 = fa18 then (if fb2 = fb18 then (if fc2 = fc18 then (if fd2 = fd18 then (1 : Int32) else (0 : Int32)) else (0 : Int32)) else (0 : Int32)) else (0 : Int32))), .val (.int (if fa18 = fa2 then (if fb18 = fb2 then (if fc18 = fc2 then (if fd18 = fd2 then (1 : Int32) else (0 : Int32)) else (0 : Int32)) else (0 : Int32)) else (0 : Int32))), .unset, .unset, .unset] [(.int (1 : Int32))]) _
    refine XS.istore X47.here hx rfl (hb hby at_180) rfl (l' := #[.val (.int p1), .val (.int p2), .val (.int p3), .val (.int p4), .val (.int p5), .val (.int p6), .val (.ref b2), .val (.int qq), .val (.int qe), .val (.int qp), .val (.int qo), .val (.ref b18), .val (.ref b21), .val (.ref b24), .val (.int (if fa2 = fa18 then (if fb2 = fb18 then (if fc2 = fc18 then (if fd2 = fd18 then (1 : Int32) else (0 : Int32)) else (0 : Int32)) else (0 : Int32)) else (0 : Int32))), .val (.int (if fa2 = fa18 then (if fb2 = fb18 then (if fc2 = fc18 then (if fd2 = fd18 then (1 : Int32) else (0 : Int32)) else (0 : Int32)) else (0 : Int32)) else (0 : Int32))), .val (.int (if fa18 = fa2 then (if fb18 = fb2 then (if fc18 = fc2 then (if fd18 = fd2 then (1 : Int32) else (0 : Int32)) else (0 : Int32)) else (0 : Int32)) else (0 : Int32))), .val (.int (1 : Int32)), .unset, .unset]) rfl ?_
    refine XS.aload X47.here hx rfl (hb hby at_182) rfl rfl ?_
    refine XS.aconstNull X47.here hx rfl (hb hby at_184) ?_
    show Sp p e below T47 (mkF m 185 #[.val (.int p1), .val (.int p2), .val (.int p3), .val (.int p4), .val (.int p5), .val (.int p6), .val (.ref b2), .val (.int qq), .val (.int qe), .val (.int qp), .val (.int qo), .val (.ref b18), .val (.ref b21), .val (.ref b24), .val (.int (if fa2 = fa18 then (if fb2 = fb18 then (if fc2 = fc18 then (if fd2 = fd18 then (1 : Int32) else (0 : Int32)) else (0 : Int32)) else (0 : Int32)) else (0 : Int32))), .val (.int (if fa2 = fa18 then (if fb2 = fb18 then (if fc2 = fc18 then (if fd2 = fd18 then (1 : Int32) else (0 : Int32)) else (0 : Int32)) else (0 : Int32)) else (0 : Int32))), .val (.int (if fa18 = fa2 then (if fb18 = fb2 then (if fc18 = fc2 then (if fd18 = fd2 then (1 : Int32) else (0 : Int32)) else (0 : Int32)) else (0 : Int32)) else (0 : Int32))), .val (.int (1 : Int32)), .unset, .unset] [.null, (.ref b21)]) _
    exact k
  obtain ⟨cq50, kq50, qa50, qb50, qc50⟩ := isOf hZ e47 (Eb21.keep K24)
  obtain ⟨_, _, ⟨T50, L50, k50, n50⟩, -, X50, ⟨Lc50, hQ50, l50, y50, z50⟩, st50⟩ := X47.virtualBack hx (y := (⟨cSK, "equals", "(Ljava/lang/Object;)Z"⟩ : MethodName)) (z := (⟨cSK, "equals", "(Ljava/lang/Object;)Z"⟩ : MethodName)) hown (mvT hZ (own_w hw 85 rfl)) (mvT hZ (own_w hw 86 rfl)) (notFace_of_selects (args := #[]) (mvT hZ (own_w hw 88 rfl))) (mvT hZ (own_w hw 88 rfl)) (mvT hZ (own_w hw 87 rfl)) (by decide) (backOf (W := 0) (rm_eqn l Z a0 hw [] b21 T24.heap n0 O24) hZ (own_w hw 89 rfl) (own_w hw 15 rfl) (by decide) (by decide)) qa50 qc50 (g := (mkF m 185 #[.val (.int p1), .val (.int p2), .val (.int p3), .val (.int p4), .val (.int p5), .val (.int p6), .val (.ref b2), .val (.int qq), .val (.int qe), .val (.int qp), .val (.int qo), .val (.ref b18), .val (.ref b21), .val (.ref b24), .val (.int (if fa2 = fa18 then (if fb2 = fb18 then (if fc2 = fc18 then (if fd2 = fd18 then (1 : Int32) else (0 : Int32)) else (0 : Int32)) else (0 : Int32)) else (0 : Int32))), .val (.int (if fa2 = fa18 then (if fb2 = fb18 then (if fc2 = fc18 then (if fd2 = fd18 then (1 : Int32) else (0 : Int32)) else (0 : Int32)) else (0 : Int32)) else (0 : Int32))), .val (.int (if fa18 = fa2 then (if fb18 = fb2 then (if fc18 = fc2 then (if fd18 = fd2 then (1 : Int32) else (0 : Int32)) else (0 : Int32)) else (0 : Int32)) else (0 : Int32))), .val (.int (1 : Int32)), .unset, .unset] [.null, (.ref b21)])) rfl (by rw [hml]; rfl) (Steps.refl _) (argsL := [.null]) (rest := []) (lenOf pd_law_2 rfl) rfl (by show 2 * 0 + _ ≤ _; exact Nat.le_of_eq rfl) (hb hby at_185) (fun _ _ => ⟨rfl, e47, (by decide : 8 + 0 ≤ _), (by decide : 22 + 0 ≤ _)⟩)
  dsimp only [Pt.U, Pt.locs, Pt.cells, Pt.slots] at X50 l50 y50 z50 st50 hQ50
  subst l50 y50 z50
  obtain ⟨rfl, N50q, e50⟩ := hQ50
  have N50 := Fr.app N47 N50q
  have pre_51 : ∀ t, Sp p e below T50 (mkF m 188 #[.val (.int p1), .val (.int p2), .val (.int p3), .val (.int p4), .val (.int p5), .val (.int p6), .val (.ref b2), .val (.int qq), .val (.int qe), .val (.int qp), .val (.int qo), .val (.ref b18), .val (.ref b21), .val (.ref b24), .val (.int (if fa2 = fa18 then (if fb2 = fb18 then (if fc2 = fc18 then (if fd2 = fd18 then (1 : Int32) else (0 : Int32)) else (0 : Int32)) else (0 : Int32)) else (0 : Int32))), .val (.int (if fa2 = fa18 then (if fb2 = fb18 then (if fc2 = fc18 then (if fd2 = fd18 then (1 : Int32) else (0 : Int32)) else (0 : Int32)) else (0 : Int32)) else (0 : Int32))), .val (.int (if fa18 = fa2 then (if fb18 = fb2 then (if fc18 = fc2 then (if fd18 = fd2 then (1 : Int32) else (0 : Int32)) else (0 : Int32)) else (0 : Int32)) else (0 : Int32))), .val (.int (1 : Int32)), .unset, .unset] [(.int (0 : Int32))]) t → Steps p.tables e below E0 t := fun t k => pre_49 t (st50.trans k)
  have pre_53 : ∀ t, Sp p e below T50 (mkF m 196 #[.val (.int p1), .val (.int p2), .val (.int p3), .val (.int p4), .val (.int p5), .val (.int p6), .val (.ref b2), .val (.int qq), .val (.int qe), .val (.int qp), .val (.int qo), .val (.ref b18), .val (.ref b21), .val (.ref b24), .val (.int (if fa2 = fa18 then (if fb2 = fb18 then (if fc2 = fc18 then (if fd2 = fd18 then (1 : Int32) else (0 : Int32)) else (0 : Int32)) else (0 : Int32)) else (0 : Int32))), .val (.int (if fa2 = fa18 then (if fb2 = fb18 then (if fc2 = fc18 then (if fd2 = fd18 then (1 : Int32) else (0 : Int32)) else (0 : Int32)) else (0 : Int32)) else (0 : Int32))), .val (.int (if fa18 = fa2 then (if fb18 = fb2 then (if fc18 = fc2 then (if fd18 = fd2 then (1 : Int32) else (0 : Int32)) else (0 : Int32)) else (0 : Int32)) else (0 : Int32))), .val (.int (1 : Int32)), .val (.int (0 : Int32)), .unset] [(.int fc2), (.ref b21)]) t → Steps p.tables e below E0 t := by
    intro t k
    refine pre_51 t ?_
    show Sp p e below T50 (mkF m 188 #[.val (.int p1), .val (.int p2), .val (.int p3), .val (.int p4), .val (.int p5), .val (.int p6), .val (.ref b2), .val (.int qq), .val (.int qe), .val (.int qp), .val (.int qo), .val (.ref b18), .val (.ref b21), .val (.ref b24), .val (.int (if fa2 = fa18 then (if fb2 = fb18 then (if fc2 = fc18 then (if fd2 = fd18 then (1 : Int32) else (0 : Int32)) else (0 : Int32)) else (0 : Int32)) else (0 : Int32))), .val (.int (if fa2 = fa18 then (if fb2 = fb18 then (if fc2 = fc18 then (if fd2 = fd18 then (1 : Int32) else (0 : Int32)) else (0 : Int32)) else (0 : Int32)) else (0 : Int32))), .val (.int (if fa18 = fa2 then (if fb18 = fb2 then (if fc18 = fc2 then (if fd18 = fd2 then (1 : Int32) else (0 : Int32)) else (0 : Int32)) else (0 : Int32)) else (0 : Int32))), .val (.int (1 : Int32)), .unset, .unset] [(.int (0 : Int32))]) _
    refine XS.istore X50.here hx rfl (hb hby at_188) rfl (l' := #[.val (.int p1), .val (.int p2), .val (.int p3), .val (.int p4), .val (.int p5), .val (.int p6), .val (.ref b2), .val (.int qq), .val (.int qe), .val (.int qp), .val (.int qo), .val (.ref b18), .val (.ref b21), .val (.ref b24), .val (.int (if fa2 = fa18 then (if fb2 = fb18 then (if fc2 = fc18 then (if fd2 = fd18 then (1 : Int32) else (0 : Int32)) else (0 : Int32)) else (0 : Int32)) else (0 : Int32))), .val (.int (if fa2 = fa18 then (if fb2 = fb18 then (if fc2 = fc18 then (if fd2 = fd18 then (1 : Int32) else (0 : Int32)) else (0 : Int32)) else (0 : Int32)) else (0 : Int32))), .val (.int (if fa18 = fa2 then (if fb18 = fb2 then (if fc18 = fc2 then (if fd18 = fd2 then (1 : Int32) else (0 : Int32)) else (0 : Int32)) else (0 : Int32)) else (0 : Int32))), .val (.int (1 : Int32)), .val (.int (0 : Int32)), .unset]) rfl ?_
    refine XS.aload X50.here hx rfl (hb hby at_190) rfl rfl ?_
    refine XS.aload X50.here hx rfl (hb hby at_192) rfl rfl ?_
    refine XS.iconst X50.here hx rfl (hb hby at_194) ?_
    obtain ⟨cl52, Ar52, -, S52, -, H52, -⟩ := id (((Vb2.keep K18 nin0).keep K21 nin0).keep K24 nin0)
    have hin52 : ¬ ((2 : Int32) < 0 ∨ cl52.slots.size ≤ ((2 : Int32)).toNatClampNeg) := inb_of S52 (by decide)
    refine X50.iaload hx (j := (2 : Int32)) (v := (.int fc2)) (by rw [e50]; exact Ar52.1) (State.isArrayOf_alike hZ.alike Ar52.2.1) Ar52.2.2 hin52 (H52.at hin52 rfl) (g := (mkF m 195 #[.val (.int p1), .val (.int p2), .val (.int p3), .val (.int p4), .val (.int p5), .val (.int p6), .val (.ref b2), .val (.int qq), .val (.int qe), .val (.int qp), .val (.int qo), .val (.ref b18), .val (.ref b21), .val (.ref b24), .val (.int (if fa2 = fa18 then (if fb2 = fb18 then (if fc2 = fc18 then (if fd2 = fd18 then (1 : Int32) else (0 : Int32)) else (0 : Int32)) else (0 : Int32)) else (0 : Int32))), .val (.int (if fa2 = fa18 then (if fb2 = fb18 then (if fc2 = fc18 then (if fd2 = fd18 then (1 : Int32) else (0 : Int32)) else (0 : Int32)) else (0 : Int32)) else (0 : Int32))), .val (.int (if fa18 = fa2 then (if fb18 = fb2 then (if fc18 = fc2 then (if fd18 = fd2 then (1 : Int32) else (0 : Int32)) else (0 : Int32)) else (0 : Int32)) else (0 : Int32))), .val (.int (1 : Int32)), .val (.int (0 : Int32)), .unset] [(.int (2 : Int32)), (.ref b2), (.ref b21)])) rfl rfl (hb hby at_195) _ ?_
    exact k
  obtain ⟨_, _, ⟨T54, L54, k54, n54⟩, -, X54, ⟨Lc54, hQ54, l54, y54, z54⟩, st54⟩ := Jvm.LawKit.callS X50 hx (y := (⟨cIN, "valueOf", "(I)Ljava/lang/Integer;"⟩ : MethodName)) hown (mvT hZ (own_w hw 92 rfl)) (mvT hZ (own_w hw 93 rfl)) (mvT hZ (own_w hw 94 rfl)) (mvT hZ (own_w hw 95 rfl)) (by decide) (backOf (W := 1) (rm_iv l Z a0 hw [] fc2 aK clC T24.heap n0 O24 SH SK ArC HC) hZ (own_w hw 95 rfl) (own_w hw 94 rfl) (by decide) (by decide)) (g := (mkF m 196 #[.val (.int p1), .val (.int p2), .val (.int p3), .val (.int p4), .val (.int p5), .val (.int p6), .val (.ref b2), .val (.int qq), .val (.int qe), .val (.int qp), .val (.int qo), .val (.ref b18), .val (.ref b21), .val (.ref b24), .val (.int (if fa2 = fa18 then (if fb2 = fb18 then (if fc2 = fc18 then (if fd2 = fd18 then (1 : Int32) else (0 : Int32)) else (0 : Int32)) else (0 : Int32)) else (0 : Int32))), .val (.int (if fa2 = fa18 then (if fb2 = fb18 then (if fc2 = fc18 then (if fd2 = fd18 then (1 : Int32) else (0 : Int32)) else (0 : Int32)) else (0 : Int32)) else (0 : Int32))), .val (.int (if fa18 = fa2 then (if fb18 = fb2 then (if fc18 = fc2 then (if fd18 = fd2 then (1 : Int32) else (0 : Int32)) else (0 : Int32)) else (0 : Int32)) else (0 : Int32))), .val (.int (1 : Int32)), .val (.int (0 : Int32)), .unset] [(.int fc2), (.ref b21)])) rfl (by rw [hml]; rfl) (argsL := [(.int fc2)]) (rest := [(.ref b21)]) (lenOf pd_law_3 rfl) rfl (by show 2 * 0 + _ ≤ _; exact Nat.le_of_eq rfl) (hb hby at_196) (fun _ _ => ⟨rfl, e50, (by decide : 8 + 1 ≤ _), (by decide : 22 + 1 ≤ _)⟩)
  dsimp only [Pt.U, Pt.locs, Pt.cells, Pt.slots] at X54 l54 y54 z54 st54 hQ54
  subst l54 y54 z54
  obtain ⟨b54, rfl, N54q, K54, Eb54⟩ := hQ54
  have N54 := Fr.app N50 N54q
  have O54 : Old Z n0 T54.heap := O24.keep K54 all0
  have pre_55 : ∀ t, Sp p e below T54 (mkF m 199 #[.val (.int p1), .val (.int p2), .val (.int p3), .val (.int p4), .val (.int p5), .val (.int p6), .val (.ref b2), .val (.int qq), .val (.int qe), .val (.int qp), .val (.int qo), .val (.ref b18), .val (.ref b21), .val (.ref b24), .val (.int (if fa2 = fa18 then (if fb2 = fb18 then (if fc2 = fc18 then (if fd2 = fd18 then (1 : Int32) else (0 : Int32)) else (0 : Int32)) else (0 : Int32)) else (0 : Int32))), .val (.int (if fa2 = fa18 then (if fb2 = fb18 then (if fc2 = fc18 then (if fd2 = fd18 then (1 : Int32) else (0 : Int32)) else (0 : Int32)) else (0 : Int32)) else (0 : Int32))), .val (.int (if fa18 = fa2 then (if fb18 = fb2 then (if fc18 = fc2 then (if fd18 = fd2 then (1 : Int32) else (0 : Int32)) else (0 : Int32)) else (0 : Int32)) else (0 : Int32))), .val (.int (1 : Int32)), .val (.int (0 : Int32)), .unset] [(.ref b54), (.ref b21)]) t → Steps p.tables e below E0 t := fun t k => pre_53 t (st54 t k)
  obtain ⟨cq56, kq56, qa56, qb56, qc56⟩ := isOf hZ rfl ((Eb21.keep K24).keep K54)
  obtain ⟨_, _, ⟨T56, L56, k56, n56⟩, -, X56, ⟨Lc56, hQ56, l56, y56, z56⟩, st56⟩ := X54.virtualBack hx (y := (⟨cSK, "equals", "(Ljava/lang/Object;)Z"⟩ : MethodName)) (z := (⟨cSK, "equals", "(Ljava/lang/Object;)Z"⟩ : MethodName)) hown (mvT hZ (own_w hw 85 rfl)) (mvT hZ (own_w hw 86 rfl)) (notFace_of_selects (args := #[]) (mvT hZ (own_w hw 88 rfl))) (mvT hZ (own_w hw 88 rfl)) (mvT hZ (own_w hw 87 rfl)) (by decide) (backOf (W := 0) (rm_eqi l Z a0 hw [] b21 b54 T54.heap n0 O54 Eb54) hZ (own_w hw 89 rfl) (own_w hw 15 rfl) (by decide) (by decide)) qa56 qc56 (g := (mkF m 199 #[.val (.int p1), .val (.int p2), .val (.int p3), .val (.int p4), .val (.int p5), .val (.int p6), .val (.ref b2), .val (.int qq), .val (.int qe), .val (.int qp), .val (.int qo), .val (.ref b18), .val (.ref b21), .val (.ref b24), .val (.int (if fa2 = fa18 then (if fb2 = fb18 then (if fc2 = fc18 then (if fd2 = fd18 then (1 : Int32) else (0 : Int32)) else (0 : Int32)) else (0 : Int32)) else (0 : Int32))), .val (.int (if fa2 = fa18 then (if fb2 = fb18 then (if fc2 = fc18 then (if fd2 = fd18 then (1 : Int32) else (0 : Int32)) else (0 : Int32)) else (0 : Int32)) else (0 : Int32))), .val (.int (if fa18 = fa2 then (if fb18 = fb2 then (if fc18 = fc2 then (if fd18 = fd2 then (1 : Int32) else (0 : Int32)) else (0 : Int32)) else (0 : Int32)) else (0 : Int32))), .val (.int (1 : Int32)), .val (.int (0 : Int32)), .unset] [(.ref b54), (.ref b21)])) rfl (by rw [hml]; rfl) (Steps.refl _) (argsL := [(.ref b54)]) (rest := []) (lenOf pd_law_2 rfl) rfl (by show 2 * 0 + _ ≤ _; exact Nat.le_of_eq rfl) (hb hby at_199) (fun _ _ => ⟨rfl, rfl, (by decide : 9 + 0 ≤ _), (by decide : 23 + 0 ≤ _)⟩)
  dsimp only [Pt.U, Pt.locs, Pt.cells, Pt.slots] at X56 l56 y56 z56 st56 hQ56
  subst l56 y56 z56
  obtain ⟨rfl, N56q, e56⟩ := hQ56
  have N56 := Fr.app N54 N56q
  have pre_57 : ∀ t, Sp p e below T56 (mkF m 202 #[.val (.int p1), .val (.int p2), .val (.int p3), .val (.int p4), .val (.int p5), .val (.int p6), .val (.ref b2), .val (.int qq), .val (.int qe), .val (.int qp), .val (.int qo), .val (.ref b18), .val (.ref b21), .val (.ref b24), .val (.int (if fa2 = fa18 then (if fb2 = fb18 then (if fc2 = fc18 then (if fd2 = fd18 then (1 : Int32) else (0 : Int32)) else (0 : Int32)) else (0 : Int32)) else (0 : Int32))), .val (.int (if fa2 = fa18 then (if fb2 = fb18 then (if fc2 = fc18 then (if fd2 = fd18 then (1 : Int32) else (0 : Int32)) else (0 : Int32)) else (0 : Int32)) else (0 : Int32))), .val (.int (if fa18 = fa2 then (if fb18 = fb2 then (if fc18 = fc2 then (if fd18 = fd2 then (1 : Int32) else (0 : Int32)) else (0 : Int32)) else (0 : Int32)) else (0 : Int32))), .val (.int (1 : Int32)), .val (.int (0 : Int32)), .unset] [(.int (0 : Int32))]) t → Steps p.tables e below E0 t := fun t k => pre_55 t (st56.trans k)
  have pre_58 : ∀ t, Sp p e below T56 (mkF m 208 #[.val (.int p1), .val (.int p2), .val (.int p3), .val (.int p4), .val (.int p5), .val (.int p6), .val (.ref b2), .val (.int qq), .val (.int qe), .val (.int qp), .val (.int qo), .val (.ref b18), .val (.ref b21), .val (.ref b24), .val (.int (if fa2 = fa18 then (if fb2 = fb18 then (if fc2 = fc18 then (if fd2 = fd18 then (1 : Int32) else (0 : Int32)) else (0 : Int32)) else (0 : Int32)) else (0 : Int32))), .val (.int (if fa2 = fa18 then (if fb2 = fb18 then (if fc2 = fc18 then (if fd2 = fd18 then (1 : Int32) else (0 : Int32)) else (0 : Int32)) else (0 : Int32)) else (0 : Int32))), .val (.int (if fa18 = fa2 then (if fb18 = fb2 then (if fc18 = fc2 then (if fd18 = fd2 then (1 : Int32) else (0 : Int32)) else (0 : Int32)) else (0 : Int32)) else (0 : Int32))), .val (.int (1 : Int32)), .val (.int (0 : Int32)), .val (.int (0 : Int32))] [(.int (if fa2 = fa18 then (if fb2 = fb18 then (if fc2 = fc18 then (if fd2 = fd18 then (1 : Int32) else (0 : Int32)) else (0 : Int32)) else (0 : Int32)) else (0 : Int32))), (.int (if fa2 = fa18 then (if fb2 = fb18 then (if fc2 = fc18 then (if fd2 = fd18 then (1 : Int32) else (0 : Int32)) else (0 : Int32)) else (0 : Int32)) else (0 : Int32)))]) t → Steps p.tables e below E0 t := by
    intro t k
    refine pre_57 t ?_
    show Sp p e below T56 (mkF m 202 #[.val (.int p1), .val (.int p2), .val (.int p3), .val (.int p4), .val (.int p5), .val (.int p6), .val (.ref b2), .val (.int qq), .val (.int qe), .val (.int qp), .val (.int qo), .val (.ref b18), .val (.ref b21), .val (.ref b24), .val (.int (if fa2 = fa18 then (if fb2 = fb18 then (if fc2 = fc18 then (if fd2 = fd18 then (1 : Int32) else (0 : Int32)) else (0 : Int32)) else (0 : Int32)) else (0 : Int32))), .val (.int (if fa2 = fa18 then (if fb2 = fb18 then (if fc2 = fc18 then (if fd2 = fd18 then (1 : Int32) else (0 : Int32)) else (0 : Int32)) else (0 : Int32)) else (0 : Int32))), .val (.int (if fa18 = fa2 then (if fb18 = fb2 then (if fc18 = fc2 then (if fd18 = fd2 then (1 : Int32) else (0 : Int32)) else (0 : Int32)) else (0 : Int32)) else (0 : Int32))), .val (.int (1 : Int32)), .val (.int (0 : Int32)), .unset] [(.int (0 : Int32))]) _
    refine XS.istore X56.here hx rfl (hb hby at_202) rfl (l' := #[.val (.int p1), .val (.int p2), .val (.int p3), .val (.int p4), .val (.int p5), .val (.int p6), .val (.ref b2), .val (.int qq), .val (.int qe), .val (.int qp), .val (.int qo), .val (.ref b18), .val (.ref b21), .val (.ref b24), .val (.int (if fa2 = fa18 then (if fb2 = fb18 then (if fc2 = fc18 then (if fd2 = fd18 then (1 : Int32) else (0 : Int32)) else (0 : Int32)) else (0 : Int32)) else (0 : Int32))), .val (.int (if fa2 = fa18 then (if fb2 = fb18 then (if fc2 = fc18 then (if fd2 = fd18 then (1 : Int32) else (0 : Int32)) else (0 : Int32)) else (0 : Int32)) else (0 : Int32))), .val (.int (if fa18 = fa2 then (if fb18 = fb2 then (if fc18 = fc2 then (if fd18 = fd2 then (1 : Int32) else (0 : Int32)) else (0 : Int32)) else (0 : Int32)) else (0 : Int32))), .val (.int (1 : Int32)), .val (.int (0 : Int32)), .val (.int (0 : Int32))]) rfl ?_
    refine XS.iload X56.here hx rfl (hb hby at_204) rfl ?_
    refine XS.iload X56.here hx rfl (hb hby at_206) rfl ?_
    show Sp p e below T56 (mkF m 208 #[.val (.int p1), .val (.int p2), .val (.int p3), .val (.int p4), .val (.int p5), .val (.int p6), .val (.ref b2), .val (.int qq), .val (.int qe), .val (.int qp), .val (.int qo), .val (.ref b18), .val (.ref b21), .val (.ref b24), .val (.int (if fa2 = fa18 then (if fb2 = fb18 then (if fc2 = fc18 then (if fd2 = fd18 then (1 : Int32) else (0 : Int32)) else (0 : Int32)) else (0 : Int32)) else (0 : Int32))), .val (.int (if fa2 = fa18 then (if fb2 = fb18 then (if fc2 = fc18 then (if fd2 = fd18 then (1 : Int32) else (0 : Int32)) else (0 : Int32)) else (0 : Int32)) else (0 : Int32))), .val (.int (if fa18 = fa2 then (if fb18 = fb2 then (if fc18 = fc2 then (if fd18 = fd2 then (1 : Int32) else (0 : Int32)) else (0 : Int32)) else (0 : Int32)) else (0 : Int32))), .val (.int (1 : Int32)), .val (.int (0 : Int32)), .val (.int (0 : Int32))] [(.int (if fa2 = fa18 then (if fb2 = fb18 then (if fc2 = fc18 then (if fd2 = fd18 then (1 : Int32) else (0 : Int32)) else (0 : Int32)) else (0 : Int32)) else (0 : Int32))), (.int (if fa2 = fa18 then (if fb2 = fb18 then (if fc2 = fc18 then (if fd2 = fd18 then (1 : Int32) else (0 : Int32)) else (0 : Int32)) else (0 : Int32)) else (0 : Int32)))]) _
    exact k
  by_cases hc59 : fa2 = fa18
  · skip
    by_cases hc60 : fb2 = fb18
    · skip
      by_cases hc61 : fc2 = fc18
      · skip
        by_cases hc62 : fd2 = fd18
        · skip
          have pre_63 : ∀ t, Sp p e below T56 (mkF m 238 #[.val (.int p1), .val (.int p2), .val (.int p3), .val (.int p4), .val (.int p5), .val (.int p6), .val (.ref b2), .val (.int qq), .val (.int qe), .val (.int qp), .val (.int qo), .val (.ref b18), .val (.ref b21), .val (.ref b24), .val (.int (if fa2 = fa18 then (if fb2 = fb18 then (if fc2 = fc18 then (if fd2 = fd18 then (1 : Int32) else (0 : Int32)) else (0 : Int32)) else (0 : Int32)) else (0 : Int32))), .val (.int (if fa2 = fa18 then (if fb2 = fb18 then (if fc2 = fc18 then (if fd2 = fd18 then (1 : Int32) else (0 : Int32)) else (0 : Int32)) else (0 : Int32)) else (0 : Int32))), .val (.int (if fa18 = fa2 then (if fb18 = fb2 then (if fc18 = fc2 then (if fd18 = fd2 then (1 : Int32) else (0 : Int32)) else (0 : Int32)) else (0 : Int32)) else (0 : Int32))), .val (.int (1 : Int32)), .val (.int (0 : Int32)), .val (.int (0 : Int32))] [(.int (1 : Int32))]) t → Steps p.tables e below E0 t := by
            intro t k
            refine pre_58 t ?_
            show Sp p e below T56 (mkF m 208 #[.val (.int p1), .val (.int p2), .val (.int p3), .val (.int p4), .val (.int p5), .val (.int p6), .val (.ref b2), .val (.int qq), .val (.int qe), .val (.int qp), .val (.int qo), .val (.ref b18), .val (.ref b21), .val (.ref b24), .val (.int (if fa2 = fa18 then (if fb2 = fb18 then (if fc2 = fc18 then (if fd2 = fd18 then (1 : Int32) else (0 : Int32)) else (0 : Int32)) else (0 : Int32)) else (0 : Int32))), .val (.int (if fa2 = fa18 then (if fb2 = fb18 then (if fc2 = fc18 then (if fd2 = fd18 then (1 : Int32) else (0 : Int32)) else (0 : Int32)) else (0 : Int32)) else (0 : Int32))), .val (.int (if fa18 = fa2 then (if fb18 = fb2 then (if fc18 = fc2 then (if fd18 = fd2 then (1 : Int32) else (0 : Int32)) else (0 : Int32)) else (0 : Int32)) else (0 : Int32))), .val (.int (1 : Int32)), .val (.int (0 : Int32)), .val (.int (0 : Int32))] [(.int (if fa2 = fa18 then (if fb2 = fb18 then (if fc2 = fc18 then (if fd2 = fd18 then (1 : Int32) else (0 : Int32)) else (0 : Int32)) else (0 : Int32)) else (0 : Int32))), (.int (if fa2 = fa18 then (if fb2 = fb18 then (if fc2 = fc18 then (if fd2 = fd18 then (1 : Int32) else (0 : Int32)) else (0 : Int32)) else (0 : Int32)) else (0 : Int32)))]) _
            refine XS.icmpNo X56.here hx rfl (hb hby at_208) rfl (XT.ii_ne_f (by simp only [if_pos hc59, if_pos hc60, if_pos hc61, if_pos hc62] <;> decide)) ?_
            refine XS.iload X56.here hx rfl (hb hby at_211) rfl ?_
            refine XS.iload X56.here hx rfl (hb hby at_213) rfl ?_
            refine XS.icmpNo X56.here hx rfl (hb hby at_215) rfl (XT.ii_ne_f (by simp only [if_pos (Eq.symm hc59), if_pos (Eq.symm hc60), if_pos (Eq.symm hc61), if_pos (Eq.symm hc62), if_pos hc59, if_pos hc60, if_pos hc61, if_pos hc62] <;> decide)) ?_
            refine XS.iload X56.here hx rfl (hb hby at_218) rfl ?_
            refine XS.ifNo X56.here hx rfl (hb hby at_220) rfl (XT.i0_eq_f (by decide)) ?_
            refine XS.iload X56.here hx rfl (hb hby at_223) rfl ?_
            refine XS.ifNo X56.here hx rfl (hb hby at_225) rfl (XT.i0_ne_f (by decide)) ?_
            show Sp p e below T56 (mkF m 228 #[.val (.int p1), .val (.int p2), .val (.int p3), .val (.int p4), .val (.int p5), .val (.int p6), .val (.ref b2), .val (.int qq), .val (.int qe), .val (.int qp), .val (.int qo), .val (.ref b18), .val (.ref b21), .val (.ref b24), .val (.int (if fa2 = fa18 then (if fb2 = fb18 then (if fc2 = fc18 then (if fd2 = fd18 then (1 : Int32) else (0 : Int32)) else (0 : Int32)) else (0 : Int32)) else (0 : Int32))), .val (.int (if fa2 = fa18 then (if fb2 = fb18 then (if fc2 = fc18 then (if fd2 = fd18 then (1 : Int32) else (0 : Int32)) else (0 : Int32)) else (0 : Int32)) else (0 : Int32))), .val (.int (if fa18 = fa2 then (if fb18 = fb2 then (if fc18 = fc2 then (if fd18 = fd2 then (1 : Int32) else (0 : Int32)) else (0 : Int32)) else (0 : Int32)) else (0 : Int32))), .val (.int (1 : Int32)), .val (.int (0 : Int32)), .val (.int (0 : Int32))] []) _
            refine XS.iload X56.here hx rfl (hb hby at_228) rfl ?_
            refine XS.ifNo X56.here hx rfl (hb hby at_230) rfl (XT.i0_ne_f (by decide)) ?_
            refine XS.iconst X56.here hx rfl (hb hby at_233) ?_
            refine XS.goto X56.here hx rfl (pc0 := 234) (pc' := 238) rfl (hb hby at_234) (by decide) (by decide) ?_
            exact k
          obtain ⟨fs, hr, hrun, hended, hW, hsame⟩ := X56.leave (v := some (.int (1 : Int32))) (fun h => by rw [Bd.returns] at h; cases h)
          refine ⟨_, _, pre_63 _ ?_, hrun, hended, _, _, rfl, ?_, ⟨_, rfl⟩, hW, hsame.mono (by decide) (by decide)⟩
          · show Sp p e below T56 (mkF m 238 #[.val (.int p1), .val (.int p2), .val (.int p3), .val (.int p4), .val (.int p5), .val (.int p6), .val (.ref b2), .val (.int qq), .val (.int qe), .val (.int qp), .val (.int qo), .val (.ref b18), .val (.ref b21), .val (.ref b24), .val (.int (if fa2 = fa18 then (if fb2 = fb18 then (if fc2 = fc18 then (if fd2 = fd18 then (1 : Int32) else (0 : Int32)) else (0 : Int32)) else (0 : Int32)) else (0 : Int32))), .val (.int (if fa2 = fa18 then (if fb2 = fb18 then (if fc2 = fc18 then (if fd2 = fd18 then (1 : Int32) else (0 : Int32)) else (0 : Int32)) else (0 : Int32)) else (0 : Int32))), .val (.int (if fa18 = fa2 then (if fb18 = fb2 then (if fc18 = fc2 then (if fd18 = fd2 then (1 : Int32) else (0 : Int32)) else (0 : Int32)) else (0 : Int32)) else (0 : Int32))), .val (.int (1 : Int32)), .val (.int (0 : Int32)), .val (.int (0 : Int32))] [(.int (1 : Int32))]) _
            exact retN X56 hx (t := .boolean) Bd.returns (by simp) (hb hby at_238) hr
          · show Q_law Z _ _ _ _ _ _ _ _ _ _ _ _ _ _ _ _ _ _ h0 n0 _ T56.heap _
            rw [e56]
            exact ⟨rfl, N56⟩
        · skip
          have pre_64 : ∀ t, Sp p e below T56 (mkF m 238 #[.val (.int p1), .val (.int p2), .val (.int p3), .val (.int p4), .val (.int p5), .val (.int p6), .val (.ref b2), .val (.int qq), .val (.int qe), .val (.int qp), .val (.int qo), .val (.ref b18), .val (.ref b21), .val (.ref b24), .val (.int (if fa2 = fa18 then (if fb2 = fb18 then (if fc2 = fc18 then (if fd2 = fd18 then (1 : Int32) else (0 : Int32)) else (0 : Int32)) else (0 : Int32)) else (0 : Int32))), .val (.int (if fa2 = fa18 then (if fb2 = fb18 then (if fc2 = fc18 then (if fd2 = fd18 then (1 : Int32) else (0 : Int32)) else (0 : Int32)) else (0 : Int32)) else (0 : Int32))), .val (.int (if fa18 = fa2 then (if fb18 = fb2 then (if fc18 = fc2 then (if fd18 = fd2 then (1 : Int32) else (0 : Int32)) else (0 : Int32)) else (0 : Int32)) else (0 : Int32))), .val (.int (1 : Int32)), .val (.int (0 : Int32)), .val (.int (0 : Int32))] [(.int (1 : Int32))]) t → Steps p.tables e below E0 t := by
            intro t k
            refine pre_58 t ?_
            show Sp p e below T56 (mkF m 208 #[.val (.int p1), .val (.int p2), .val (.int p3), .val (.int p4), .val (.int p5), .val (.int p6), .val (.ref b2), .val (.int qq), .val (.int qe), .val (.int qp), .val (.int qo), .val (.ref b18), .val (.ref b21), .val (.ref b24), .val (.int (if fa2 = fa18 then (if fb2 = fb18 then (if fc2 = fc18 then (if fd2 = fd18 then (1 : Int32) else (0 : Int32)) else (0 : Int32)) else (0 : Int32)) else (0 : Int32))), .val (.int (if fa2 = fa18 then (if fb2 = fb18 then (if fc2 = fc18 then (if fd2 = fd18 then (1 : Int32) else (0 : Int32)) else (0 : Int32)) else (0 : Int32)) else (0 : Int32))), .val (.int (if fa18 = fa2 then (if fb18 = fb2 then (if fc18 = fc2 then (if fd18 = fd2 then (1 : Int32) else (0 : Int32)) else (0 : Int32)) else (0 : Int32)) else (0 : Int32))), .val (.int (1 : Int32)), .val (.int (0 : Int32)), .val (.int (0 : Int32))] [(.int (if fa2 = fa18 then (if fb2 = fb18 then (if fc2 = fc18 then (if fd2 = fd18 then (1 : Int32) else (0 : Int32)) else (0 : Int32)) else (0 : Int32)) else (0 : Int32))), (.int (if fa2 = fa18 then (if fb2 = fb18 then (if fc2 = fc18 then (if fd2 = fd18 then (1 : Int32) else (0 : Int32)) else (0 : Int32)) else (0 : Int32)) else (0 : Int32)))]) _
            refine XS.icmpNo X56.here hx rfl (hb hby at_208) rfl (XT.ii_ne_f (by simp only [if_pos hc59, if_pos hc60, if_pos hc61, if_neg hc62] <;> decide)) ?_
            refine XS.iload X56.here hx rfl (hb hby at_211) rfl ?_
            refine XS.iload X56.here hx rfl (hb hby at_213) rfl ?_
            refine XS.icmpNo X56.here hx rfl (hb hby at_215) rfl (XT.ii_ne_f (by simp only [if_pos (Eq.symm hc59), if_pos (Eq.symm hc60), if_pos (Eq.symm hc61), if_neg (Ne.symm hc62), if_pos hc59, if_pos hc60, if_pos hc61, if_neg hc62] <;> decide)) ?_
            refine XS.iload X56.here hx rfl (hb hby at_218) rfl ?_
            refine XS.ifNo X56.here hx rfl (hb hby at_220) rfl (XT.i0_eq_f (by decide)) ?_
            refine XS.iload X56.here hx rfl (hb hby at_223) rfl ?_
            refine XS.ifNo X56.here hx rfl (hb hby at_225) rfl (XT.i0_ne_f (by decide)) ?_
            show Sp p e below T56 (mkF m 228 #[.val (.int p1), .val (.int p2), .val (.int p3), .val (.int p4), .val (.int p5), .val (.int p6), .val (.ref b2), .val (.int qq), .val (.int qe), .val (.int qp), .val (.int qo), .val (.ref b18), .val (.ref b21), .val (.ref b24), .val (.int (if fa2 = fa18 then (if fb2 = fb18 then (if fc2 = fc18 then (if fd2 = fd18 then (1 : Int32) else (0 : Int32)) else (0 : Int32)) else (0 : Int32)) else (0 : Int32))), .val (.int (if fa2 = fa18 then (if fb2 = fb18 then (if fc2 = fc18 then (if fd2 = fd18 then (1 : Int32) else (0 : Int32)) else (0 : Int32)) else (0 : Int32)) else (0 : Int32))), .val (.int (if fa18 = fa2 then (if fb18 = fb2 then (if fc18 = fc2 then (if fd18 = fd2 then (1 : Int32) else (0 : Int32)) else (0 : Int32)) else (0 : Int32)) else (0 : Int32))), .val (.int (1 : Int32)), .val (.int (0 : Int32)), .val (.int (0 : Int32))] []) _
            refine XS.iload X56.here hx rfl (hb hby at_228) rfl ?_
            refine XS.ifNo X56.here hx rfl (hb hby at_230) rfl (XT.i0_ne_f (by decide)) ?_
            refine XS.iconst X56.here hx rfl (hb hby at_233) ?_
            refine XS.goto X56.here hx rfl (pc0 := 234) (pc' := 238) rfl (hb hby at_234) (by decide) (by decide) ?_
            exact k
          obtain ⟨fs, hr, hrun, hended, hW, hsame⟩ := X56.leave (v := some (.int (1 : Int32))) (fun h => by rw [Bd.returns] at h; cases h)
          refine ⟨_, _, pre_64 _ ?_, hrun, hended, _, _, rfl, ?_, ⟨_, rfl⟩, hW, hsame.mono (by decide) (by decide)⟩
          · show Sp p e below T56 (mkF m 238 #[.val (.int p1), .val (.int p2), .val (.int p3), .val (.int p4), .val (.int p5), .val (.int p6), .val (.ref b2), .val (.int qq), .val (.int qe), .val (.int qp), .val (.int qo), .val (.ref b18), .val (.ref b21), .val (.ref b24), .val (.int (if fa2 = fa18 then (if fb2 = fb18 then (if fc2 = fc18 then (if fd2 = fd18 then (1 : Int32) else (0 : Int32)) else (0 : Int32)) else (0 : Int32)) else (0 : Int32))), .val (.int (if fa2 = fa18 then (if fb2 = fb18 then (if fc2 = fc18 then (if fd2 = fd18 then (1 : Int32) else (0 : Int32)) else (0 : Int32)) else (0 : Int32)) else (0 : Int32))), .val (.int (if fa18 = fa2 then (if fb18 = fb2 then (if fc18 = fc2 then (if fd18 = fd2 then (1 : Int32) else (0 : Int32)) else (0 : Int32)) else (0 : Int32)) else (0 : Int32))), .val (.int (1 : Int32)), .val (.int (0 : Int32)), .val (.int (0 : Int32))] [(.int (1 : Int32))]) _
            exact retN X56 hx (t := .boolean) Bd.returns (by simp) (hb hby at_238) hr
          · show Q_law Z _ _ _ _ _ _ _ _ _ _ _ _ _ _ _ _ _ _ h0 n0 _ T56.heap _
            rw [e56]
            exact ⟨rfl, N56⟩
      · skip
        have pre_65 : ∀ t, Sp p e below T56 (mkF m 238 #[.val (.int p1), .val (.int p2), .val (.int p3), .val (.int p4), .val (.int p5), .val (.int p6), .val (.ref b2), .val (.int qq), .val (.int qe), .val (.int qp), .val (.int qo), .val (.ref b18), .val (.ref b21), .val (.ref b24), .val (.int (if fa2 = fa18 then (if fb2 = fb18 then (if fc2 = fc18 then (if fd2 = fd18 then (1 : Int32) else (0 : Int32)) else (0 : Int32)) else (0 : Int32)) else (0 : Int32))), .val (.int (if fa2 = fa18 then (if fb2 = fb18 then (if fc2 = fc18 then (if fd2 = fd18 then (1 : Int32) else (0 : Int32)) else (0 : Int32)) else (0 : Int32)) else (0 : Int32))), .val (.int (if fa18 = fa2 then (if fb18 = fb2 then (if fc18 = fc2 then (if fd18 = fd2 then (1 : Int32) else (0 : Int32)) else (0 : Int32)) else (0 : Int32)) else (0 : Int32))), .val (.int (1 : Int32)), .val (.int (0 : Int32)), .val (.int (0 : Int32))] [(.int (1 : Int32))]) t → Steps p.tables e below E0 t := by
          intro t k
          refine pre_58 t ?_
          show Sp p e below T56 (mkF m 208 #[.val (.int p1), .val (.int p2), .val (.int p3), .val (.int p4), .val (.int p5), .val (.int p6), .val (.ref b2), .val (.int qq), .val (.int qe), .val (.int qp), .val (.int qo), .val (.ref b18), .val (.ref b21), .val (.ref b24), .val (.int (if fa2 = fa18 then (if fb2 = fb18 then (if fc2 = fc18 then (if fd2 = fd18 then (1 : Int32) else (0 : Int32)) else (0 : Int32)) else (0 : Int32)) else (0 : Int32))), .val (.int (if fa2 = fa18 then (if fb2 = fb18 then (if fc2 = fc18 then (if fd2 = fd18 then (1 : Int32) else (0 : Int32)) else (0 : Int32)) else (0 : Int32)) else (0 : Int32))), .val (.int (if fa18 = fa2 then (if fb18 = fb2 then (if fc18 = fc2 then (if fd18 = fd2 then (1 : Int32) else (0 : Int32)) else (0 : Int32)) else (0 : Int32)) else (0 : Int32))), .val (.int (1 : Int32)), .val (.int (0 : Int32)), .val (.int (0 : Int32))] [(.int (if fa2 = fa18 then (if fb2 = fb18 then (if fc2 = fc18 then (if fd2 = fd18 then (1 : Int32) else (0 : Int32)) else (0 : Int32)) else (0 : Int32)) else (0 : Int32))), (.int (if fa2 = fa18 then (if fb2 = fb18 then (if fc2 = fc18 then (if fd2 = fd18 then (1 : Int32) else (0 : Int32)) else (0 : Int32)) else (0 : Int32)) else (0 : Int32)))]) _
          refine XS.icmpNo X56.here hx rfl (hb hby at_208) rfl (XT.ii_ne_f (by simp only [if_pos hc59, if_pos hc60, if_neg hc61] <;> decide)) ?_
          refine XS.iload X56.here hx rfl (hb hby at_211) rfl ?_
          refine XS.iload X56.here hx rfl (hb hby at_213) rfl ?_
          refine XS.icmpNo X56.here hx rfl (hb hby at_215) rfl (XT.ii_ne_f (by simp only [if_pos (Eq.symm hc59), if_pos (Eq.symm hc60), if_neg (Ne.symm hc61), if_pos hc59, if_pos hc60, if_neg hc61] <;> decide)) ?_
          refine XS.iload X56.here hx rfl (hb hby at_218) rfl ?_
          refine XS.ifNo X56.here hx rfl (hb hby at_220) rfl (XT.i0_eq_f (by decide)) ?_
          refine XS.iload X56.here hx rfl (hb hby at_223) rfl ?_
          refine XS.ifNo X56.here hx rfl (hb hby at_225) rfl (XT.i0_ne_f (by decide)) ?_
          show Sp p e below T56 (mkF m 228 #[.val (.int p1), .val (.int p2), .val (.int p3), .val (.int p4), .val (.int p5), .val (.int p6), .val (.ref b2), .val (.int qq), .val (.int qe), .val (.int qp), .val (.int qo), .val (.ref b18), .val (.ref b21), .val (.ref b24), .val (.int (if fa2 = fa18 then (if fb2 = fb18 then (if fc2 = fc18 then (if fd2 = fd18 then (1 : Int32) else (0 : Int32)) else (0 : Int32)) else (0 : Int32)) else (0 : Int32))), .val (.int (if fa2 = fa18 then (if fb2 = fb18 then (if fc2 = fc18 then (if fd2 = fd18 then (1 : Int32) else (0 : Int32)) else (0 : Int32)) else (0 : Int32)) else (0 : Int32))), .val (.int (if fa18 = fa2 then (if fb18 = fb2 then (if fc18 = fc2 then (if fd18 = fd2 then (1 : Int32) else (0 : Int32)) else (0 : Int32)) else (0 : Int32)) else (0 : Int32))), .val (.int (1 : Int32)), .val (.int (0 : Int32)), .val (.int (0 : Int32))] []) _
          refine XS.iload X56.here hx rfl (hb hby at_228) rfl ?_
          refine XS.ifNo X56.here hx rfl (hb hby at_230) rfl (XT.i0_ne_f (by decide)) ?_
          refine XS.iconst X56.here hx rfl (hb hby at_233) ?_
          refine XS.goto X56.here hx rfl (pc0 := 234) (pc' := 238) rfl (hb hby at_234) (by decide) (by decide) ?_
          exact k
        obtain ⟨fs, hr, hrun, hended, hW, hsame⟩ := X56.leave (v := some (.int (1 : Int32))) (fun h => by rw [Bd.returns] at h; cases h)
        refine ⟨_, _, pre_65 _ ?_, hrun, hended, _, _, rfl, ?_, ⟨_, rfl⟩, hW, hsame.mono (by decide) (by decide)⟩
        · show Sp p e below T56 (mkF m 238 #[.val (.int p1), .val (.int p2), .val (.int p3), .val (.int p4), .val (.int p5), .val (.int p6), .val (.ref b2), .val (.int qq), .val (.int qe), .val (.int qp), .val (.int qo), .val (.ref b18), .val (.ref b21), .val (.ref b24), .val (.int (if fa2 = fa18 then (if fb2 = fb18 then (if fc2 = fc18 then (if fd2 = fd18 then (1 : Int32) else (0 : Int32)) else (0 : Int32)) else (0 : Int32)) else (0 : Int32))), .val (.int (if fa2 = fa18 then (if fb2 = fb18 then (if fc2 = fc18 then (if fd2 = fd18 then (1 : Int32) else (0 : Int32)) else (0 : Int32)) else (0 : Int32)) else (0 : Int32))), .val (.int (if fa18 = fa2 then (if fb18 = fb2 then (if fc18 = fc2 then (if fd18 = fd2 then (1 : Int32) else (0 : Int32)) else (0 : Int32)) else (0 : Int32)) else (0 : Int32))), .val (.int (1 : Int32)), .val (.int (0 : Int32)), .val (.int (0 : Int32))] [(.int (1 : Int32))]) _
          exact retN X56 hx (t := .boolean) Bd.returns (by simp) (hb hby at_238) hr
        · show Q_law Z _ _ _ _ _ _ _ _ _ _ _ _ _ _ _ _ _ _ h0 n0 _ T56.heap _
          rw [e56]
          exact ⟨rfl, N56⟩
    · skip
      have pre_66 : ∀ t, Sp p e below T56 (mkF m 238 #[.val (.int p1), .val (.int p2), .val (.int p3), .val (.int p4), .val (.int p5), .val (.int p6), .val (.ref b2), .val (.int qq), .val (.int qe), .val (.int qp), .val (.int qo), .val (.ref b18), .val (.ref b21), .val (.ref b24), .val (.int (if fa2 = fa18 then (if fb2 = fb18 then (if fc2 = fc18 then (if fd2 = fd18 then (1 : Int32) else (0 : Int32)) else (0 : Int32)) else (0 : Int32)) else (0 : Int32))), .val (.int (if fa2 = fa18 then (if fb2 = fb18 then (if fc2 = fc18 then (if fd2 = fd18 then (1 : Int32) else (0 : Int32)) else (0 : Int32)) else (0 : Int32)) else (0 : Int32))), .val (.int (if fa18 = fa2 then (if fb18 = fb2 then (if fc18 = fc2 then (if fd18 = fd2 then (1 : Int32) else (0 : Int32)) else (0 : Int32)) else (0 : Int32)) else (0 : Int32))), .val (.int (1 : Int32)), .val (.int (0 : Int32)), .val (.int (0 : Int32))] [(.int (1 : Int32))]) t → Steps p.tables e below E0 t := by
        intro t k
        refine pre_58 t ?_
        show Sp p e below T56 (mkF m 208 #[.val (.int p1), .val (.int p2), .val (.int p3), .val (.int p4), .val (.int p5), .val (.int p6), .val (.ref b2), .val (.int qq), .val (.int qe), .val (.int qp), .val (.int qo), .val (.ref b18), .val (.ref b21), .val (.ref b24), .val (.int (if fa2 = fa18 then (if fb2 = fb18 then (if fc2 = fc18 then (if fd2 = fd18 then (1 : Int32) else (0 : Int32)) else (0 : Int32)) else (0 : Int32)) else (0 : Int32))), .val (.int (if fa2 = fa18 then (if fb2 = fb18 then (if fc2 = fc18 then (if fd2 = fd18 then (1 : Int32) else (0 : Int32)) else (0 : Int32)) else (0 : Int32)) else (0 : Int32))), .val (.int (if fa18 = fa2 then (if fb18 = fb2 then (if fc18 = fc2 then (if fd18 = fd2 then (1 : Int32) else (0 : Int32)) else (0 : Int32)) else (0 : Int32)) else (0 : Int32))), .val (.int (1 : Int32)), .val (.int (0 : Int32)), .val (.int (0 : Int32))] [(.int (if fa2 = fa18 then (if fb2 = fb18 then (if fc2 = fc18 then (if fd2 = fd18 then (1 : Int32) else (0 : Int32)) else (0 : Int32)) else (0 : Int32)) else (0 : Int32))), (.int (if fa2 = fa18 then (if fb2 = fb18 then (if fc2 = fc18 then (if fd2 = fd18 then (1 : Int32) else (0 : Int32)) else (0 : Int32)) else (0 : Int32)) else (0 : Int32)))]) _
        refine XS.icmpNo X56.here hx rfl (hb hby at_208) rfl (XT.ii_ne_f (by simp only [if_pos hc59, if_neg hc60] <;> decide)) ?_
        refine XS.iload X56.here hx rfl (hb hby at_211) rfl ?_
        refine XS.iload X56.here hx rfl (hb hby at_213) rfl ?_
        refine XS.icmpNo X56.here hx rfl (hb hby at_215) rfl (XT.ii_ne_f (by simp only [if_pos (Eq.symm hc59), if_neg (Ne.symm hc60), if_pos hc59, if_neg hc60] <;> decide)) ?_
        refine XS.iload X56.here hx rfl (hb hby at_218) rfl ?_
        refine XS.ifNo X56.here hx rfl (hb hby at_220) rfl (XT.i0_eq_f (by decide)) ?_
        refine XS.iload X56.here hx rfl (hb hby at_223) rfl ?_
        refine XS.ifNo X56.here hx rfl (hb hby at_225) rfl (XT.i0_ne_f (by decide)) ?_
        show Sp p e below T56 (mkF m 228 #[.val (.int p1), .val (.int p2), .val (.int p3), .val (.int p4), .val (.int p5), .val (.int p6), .val (.ref b2), .val (.int qq), .val (.int qe), .val (.int qp), .val (.int qo), .val (.ref b18), .val (.ref b21), .val (.ref b24), .val (.int (if fa2 = fa18 then (if fb2 = fb18 then (if fc2 = fc18 then (if fd2 = fd18 then (1 : Int32) else (0 : Int32)) else (0 : Int32)) else (0 : Int32)) else (0 : Int32))), .val (.int (if fa2 = fa18 then (if fb2 = fb18 then (if fc2 = fc18 then (if fd2 = fd18 then (1 : Int32) else (0 : Int32)) else (0 : Int32)) else (0 : Int32)) else (0 : Int32))), .val (.int (if fa18 = fa2 then (if fb18 = fb2 then (if fc18 = fc2 then (if fd18 = fd2 then (1 : Int32) else (0 : Int32)) else (0 : Int32)) else (0 : Int32)) else (0 : Int32))), .val (.int (1 : Int32)), .val (.int (0 : Int32)), .val (.int (0 : Int32))] []) _
        refine XS.iload X56.here hx rfl (hb hby at_228) rfl ?_
        refine XS.ifNo X56.here hx rfl (hb hby at_230) rfl (XT.i0_ne_f (by decide)) ?_
        refine XS.iconst X56.here hx rfl (hb hby at_233) ?_
        refine XS.goto X56.here hx rfl (pc0 := 234) (pc' := 238) rfl (hb hby at_234) (by decide) (by decide) ?_
        exact k
      obtain ⟨fs, hr, hrun, hended, hW, hsame⟩ := X56.leave (v := some (.int (1 : Int32))) (fun h => by rw [Bd.returns] at h; cases h)
      refine ⟨_, _, pre_66 _ ?_, hrun, hended, _, _, rfl, ?_, ⟨_, rfl⟩, hW, hsame.mono (by decide) (by decide)⟩
      · show Sp p e below T56 (mkF m 238 #[.val (.int p1), .val (.int p2), .val (.int p3), .val (.int p4), .val (.int p5), .val (.int p6), .val (.ref b2), .val (.int qq), .val (.int qe), .val (.int qp), .val (.int qo), .val (.ref b18), .val (.ref b21), .val (.ref b24), .val (.int (if fa2 = fa18 then (if fb2 = fb18 then (if fc2 = fc18 then (if fd2 = fd18 then (1 : Int32) else (0 : Int32)) else (0 : Int32)) else (0 : Int32)) else (0 : Int32))), .val (.int (if fa2 = fa18 then (if fb2 = fb18 then (if fc2 = fc18 then (if fd2 = fd18 then (1 : Int32) else (0 : Int32)) else (0 : Int32)) else (0 : Int32)) else (0 : Int32))), .val (.int (if fa18 = fa2 then (if fb18 = fb2 then (if fc18 = fc2 then (if fd18 = fd2 then (1 : Int32) else (0 : Int32)) else (0 : Int32)) else (0 : Int32)) else (0 : Int32))), .val (.int (1 : Int32)), .val (.int (0 : Int32)), .val (.int (0 : Int32))] [(.int (1 : Int32))]) _
        exact retN X56 hx (t := .boolean) Bd.returns (by simp) (hb hby at_238) hr
      · show Q_law Z _ _ _ _ _ _ _ _ _ _ _ _ _ _ _ _ _ _ h0 n0 _ T56.heap _
        rw [e56]
        exact ⟨rfl, N56⟩
  · skip
    have pre_67 : ∀ t, Sp p e below T56 (mkF m 238 #[.val (.int p1), .val (.int p2), .val (.int p3), .val (.int p4), .val (.int p5), .val (.int p6), .val (.ref b2), .val (.int qq), .val (.int qe), .val (.int qp), .val (.int qo), .val (.ref b18), .val (.ref b21), .val (.ref b24), .val (.int (if fa2 = fa18 then (if fb2 = fb18 then (if fc2 = fc18 then (if fd2 = fd18 then (1 : Int32) else (0 : Int32)) else (0 : Int32)) else (0 : Int32)) else (0 : Int32))), .val (.int (if fa2 = fa18 then (if fb2 = fb18 then (if fc2 = fc18 then (if fd2 = fd18 then (1 : Int32) else (0 : Int32)) else (0 : Int32)) else (0 : Int32)) else (0 : Int32))), .val (.int (if fa18 = fa2 then (if fb18 = fb2 then (if fc18 = fc2 then (if fd18 = fd2 then (1 : Int32) else (0 : Int32)) else (0 : Int32)) else (0 : Int32)) else (0 : Int32))), .val (.int (1 : Int32)), .val (.int (0 : Int32)), .val (.int (0 : Int32))] [(.int (1 : Int32))]) t → Steps p.tables e below E0 t := by
      intro t k
      refine pre_58 t ?_
      show Sp p e below T56 (mkF m 208 #[.val (.int p1), .val (.int p2), .val (.int p3), .val (.int p4), .val (.int p5), .val (.int p6), .val (.ref b2), .val (.int qq), .val (.int qe), .val (.int qp), .val (.int qo), .val (.ref b18), .val (.ref b21), .val (.ref b24), .val (.int (if fa2 = fa18 then (if fb2 = fb18 then (if fc2 = fc18 then (if fd2 = fd18 then (1 : Int32) else (0 : Int32)) else (0 : Int32)) else (0 : Int32)) else (0 : Int32))), .val (.int (if fa2 = fa18 then (if fb2 = fb18 then (if fc2 = fc18 then (if fd2 = fd18 then (1 : Int32) else (0 : Int32)) else (0 : Int32)) else (0 : Int32)) else (0 : Int32))), .val (.int (if fa18 = fa2 then (if fb18 = fb2 then (if fc18 = fc2 then (if fd18 = fd2 then (1 : Int32) else (0 : Int32)) else (0 : Int32)) else (0 : Int32)) else (0 : Int32))), .val (.int (1 : Int32)), .val (.int (0 : Int32)), .val (.int (0 : Int32))] [(.int (if fa2 = fa18 then (if fb2 = fb18 then (if fc2 = fc18 then (if fd2 = fd18 then (1 : Int32) else (0 : Int32)) else (0 : Int32)) else (0 : Int32)) else (0 : Int32))), (.int (if fa2 = fa18 then (if fb2 = fb18 then (if fc2 = fc18 then (if fd2 = fd18 then (1 : Int32) else (0 : Int32)) else (0 : Int32)) else (0 : Int32)) else (0 : Int32)))]) _
      refine XS.icmpNo X56.here hx rfl (hb hby at_208) rfl (XT.ii_ne_f (by simp only [if_neg hc59] <;> decide)) ?_
      refine XS.iload X56.here hx rfl (hb hby at_211) rfl ?_
      refine XS.iload X56.here hx rfl (hb hby at_213) rfl ?_
      refine XS.icmpNo X56.here hx rfl (hb hby at_215) rfl (XT.ii_ne_f (by simp only [if_neg (Ne.symm hc59), if_neg hc59] <;> decide)) ?_
      refine XS.iload X56.here hx rfl (hb hby at_218) rfl ?_
      refine XS.ifNo X56.here hx rfl (hb hby at_220) rfl (XT.i0_eq_f (by decide)) ?_
      refine XS.iload X56.here hx rfl (hb hby at_223) rfl ?_
      refine XS.ifNo X56.here hx rfl (hb hby at_225) rfl (XT.i0_ne_f (by decide)) ?_
      show Sp p e below T56 (mkF m 228 #[.val (.int p1), .val (.int p2), .val (.int p3), .val (.int p4), .val (.int p5), .val (.int p6), .val (.ref b2), .val (.int qq), .val (.int qe), .val (.int qp), .val (.int qo), .val (.ref b18), .val (.ref b21), .val (.ref b24), .val (.int (if fa2 = fa18 then (if fb2 = fb18 then (if fc2 = fc18 then (if fd2 = fd18 then (1 : Int32) else (0 : Int32)) else (0 : Int32)) else (0 : Int32)) else (0 : Int32))), .val (.int (if fa2 = fa18 then (if fb2 = fb18 then (if fc2 = fc18 then (if fd2 = fd18 then (1 : Int32) else (0 : Int32)) else (0 : Int32)) else (0 : Int32)) else (0 : Int32))), .val (.int (if fa18 = fa2 then (if fb18 = fb2 then (if fc18 = fc2 then (if fd18 = fd2 then (1 : Int32) else (0 : Int32)) else (0 : Int32)) else (0 : Int32)) else (0 : Int32))), .val (.int (1 : Int32)), .val (.int (0 : Int32)), .val (.int (0 : Int32))] []) _
      refine XS.iload X56.here hx rfl (hb hby at_228) rfl ?_
      refine XS.ifNo X56.here hx rfl (hb hby at_230) rfl (XT.i0_ne_f (by decide)) ?_
      refine XS.iconst X56.here hx rfl (hb hby at_233) ?_
      refine XS.goto X56.here hx rfl (pc0 := 234) (pc' := 238) rfl (hb hby at_234) (by decide) (by decide) ?_
      exact k
    obtain ⟨fs, hr, hrun, hended, hW, hsame⟩ := X56.leave (v := some (.int (1 : Int32))) (fun h => by rw [Bd.returns] at h; cases h)
    refine ⟨_, _, pre_67 _ ?_, hrun, hended, _, _, rfl, ?_, ⟨_, rfl⟩, hW, hsame.mono (by decide) (by decide)⟩
    · show Sp p e below T56 (mkF m 238 #[.val (.int p1), .val (.int p2), .val (.int p3), .val (.int p4), .val (.int p5), .val (.int p6), .val (.ref b2), .val (.int qq), .val (.int qe), .val (.int qp), .val (.int qo), .val (.ref b18), .val (.ref b21), .val (.ref b24), .val (.int (if fa2 = fa18 then (if fb2 = fb18 then (if fc2 = fc18 then (if fd2 = fd18 then (1 : Int32) else (0 : Int32)) else (0 : Int32)) else (0 : Int32)) else (0 : Int32))), .val (.int (if fa2 = fa18 then (if fb2 = fb18 then (if fc2 = fc18 then (if fd2 = fd18 then (1 : Int32) else (0 : Int32)) else (0 : Int32)) else (0 : Int32)) else (0 : Int32))), .val (.int (if fa18 = fa2 then (if fb18 = fb2 then (if fc18 = fc2 then (if fd18 = fd2 then (1 : Int32) else (0 : Int32)) else (0 : Int32)) else (0 : Int32)) else (0 : Int32))), .val (.int (1 : Int32)), .val (.int (0 : Int32)), .val (.int (0 : Int32))] [(.int (1 : Int32))]) _
      exact retN X56 hx (t := .boolean) Bd.returns (by simp) (hb hby at_238) hr
    · show Q_law Z _ _ _ _ _ _ _ _ _ _ _ _ _ _ _ _ _ _ h0 n0 _ T56.heap _
      rw [e56]
      exact ⟨rfl, N56⟩
set_option maxRecDepth 65536 in
set_option maxHeartbeats 40000000 in
theorem comes_1 {Post : Tables → Env → Array Value → State → Outcome → State → Prop} (hpost : ∀ tb e args s v u, (limb_1_1.after args s (.returned v) u = true ∧ limb_1_2.after args s (.returned v) u = true ∧ True) → FrameEnd s (.returned v) u (Jvm.fieldLocs frame_1_writes args s ++ Jvm.arrayLocs frame_1_arrays args s ++ Jvm.staticLocs frame_1_statics s) 32 128 → Post tb e args s (.returned v) u) :
    ArmFor flags0 classFile x code maxLocals ret World_1 tables_1 room_1 Calls_1 rest_1 Pre_1 Post := by
  intro l hfl _ _ p e ha hc hk s m args below hf hA hF happ hP
  obtain ⟨hcalls, hrest, hpre⟩ := hP
  obtain ⟨-, -, -, hnamed, -, -, -, hat⟩ := (Spec.applies_iff hf).mp happ
  obtain ⟨hg, hn⟩ := and_e (Cond.before_iff.mp (show (Jvm.Cond.and given_1 narrow_1).before args s = true from hpre))
  obtain ⟨hg0, hgs⟩ := and_e hg
  obtain ⟨w0, w1, w2, w3, w4, w5, rfl⟩ : ∃ w0 w1 w2 w3 w4 w5 : Value, args = #[w0, w1, w2, w3, w4, w5] := by
    have hs : args.size = 6 := by simpa [Cond.value, given_1] using hg0
    obtain ⟨L⟩ := args
    match L, hs with
    | [w0, w1, w2, w3, w4, w5], _ => exact ⟨w0, w1, w2, w3, w4, w5, rfl⟩
  have hw := fun d (hd : d ∈ tables_1) => atoms_spec (ws := Jvm.Cond.code x code maxLocals ret :: tables_1) hat d (List.mem_cons_of_mem _ hd)
  have hfit : Fit s := fun {y c} hc i hi => by
    obtain ⟨ha, rfl⟩ := Array.getElem?_eq_some_iff.mp hc
    have q := List.all_eq_true.mp ((Array.all_eq_true_iff_forall_mem.mp hF) _ (Array.getElem_mem ha)) i (List.mem_range.mpr hi)
    simpa [Array.getElem?_eq_getElem hi] using q
  obtain ⟨ha0, hgs0⟩ := and_e hgs
  obtain ⟨i0, ei0⟩ := is_v ha0
  obtain rfl : w0 = (.int i0) := Option.some.inj ei0
  obtain ⟨ha1, hgs1⟩ := and_e hgs0
  obtain ⟨i1, ei1⟩ := is_v ha1
  obtain rfl : w1 = (.int i1) := Option.some.inj ei1
  obtain ⟨ha2, hgs2⟩ := and_e hgs1
  obtain ⟨i2, ei2⟩ := is_v ha2
  obtain rfl : w2 = (.int i2) := Option.some.inj ei2
  obtain ⟨ha3, hgs3⟩ := and_e hgs2
  obtain ⟨i3, ei3⟩ := is_v ha3
  obtain rfl : w3 = (.int i3) := Option.some.inj ei3
  obtain ⟨ha4, hgs4⟩ := and_e hgs3
  obtain ⟨i4, ei4⟩ := is_v ha4
  obtain rfl : w4 = (.int i4) := Option.some.inj ei4
  obtain ⟨i5, ei5⟩ := is_v hgs4
  obtain rfl : w5 = (.int i5) := Option.some.inj ei5
  obtain ⟨hsets, hown0⟩ := atoms_of _ (rest_1_c_eq ▸ (show rest_1_c.before _ s = true from hrest))
  obtain ⟨hn0, hr0⟩ := and_e hn
  obtain ⟨hn1, hr1⟩ := and_e hr0
  obtain ⟨hn2, hr2⟩ := and_e hr1
  obtain ⟨hn3, hr3⟩ := and_e hr2
  obtain ⟨hn4, hr4⟩ := and_e hr3
  obtain ⟨hn5, hr5⟩ := and_e hr4
  obtain ⟨hn6, hr6⟩ := and_e hr5
  obtain ⟨hn7, hr7⟩ := and_e hr6
  obtain ⟨hn8, hr8⟩ := and_e hr7
  obtain ⟨hn9, hr9⟩ := and_e hr8
  obtain ⟨hn10, hr10⟩ := and_e hr9
  obtain ⟨hn11, hr11⟩ := and_e hr10
  obtain ⟨hn12, hr12⟩ := and_e hr11
  obtain ⟨hn13, hr13⟩ := and_e hr12
  obtain ⟨hn14, hr14⟩ := and_e hr13
  obtain ⟨hn15, hr15⟩ := and_e hr14
  obtain ⟨hn16, hr16⟩ := and_e hr15
  obtain ⟨hn17, hr17⟩ := and_e hr16
  obtain ⟨hn18, hr18⟩ := and_e hr17
  obtain ⟨hn19, hr19⟩ := and_e hr18
  obtain ⟨hn20, hr20⟩ := and_e hr19
  obtain ⟨hn21, hr21⟩ := and_e hr20
  obtain ⟨hn22, hr22⟩ := and_e hr21
  obtain ⟨hn23, hr23⟩ := and_e hr22
  obtain ⟨hn24, hr24⟩ := and_e hr23
  obtain ⟨hn25, hr25⟩ := and_e hr24
  obtain ⟨hn26, hr26⟩ := and_e hr25
  obtain ⟨hn27, hr27⟩ := and_e hr26
  obtain ⟨hn28, hr28⟩ := and_e hr27
  obtain ⟨hn29, hr29⟩ := and_e hr28
  obtain ⟨hn30, hr30⟩ := and_e hr29
  obtain ⟨hn31, hr31⟩ := and_e hr30
  obtain ⟨hn32, hr32⟩ := and_e hr31
  obtain ⟨hn33, hr33⟩ := and_e hr32
  obtain ⟨hn34, hr34⟩ := and_e hr33
  obtain ⟨hn35, hr35⟩ := and_e hr34
  obtain ⟨hn36, hr36⟩ := and_e hr35
  obtain ⟨hn37, hr37⟩ := and_e hr36
  obtain ⟨hn38, hr38⟩ := and_e hr37
  obtain ⟨hn39, hr39⟩ := and_e hr38
  obtain ⟨hn40, hr40⟩ := and_e hr39
  obtain ⟨hn41, hr41⟩ := and_e hr40
  obtain ⟨hn42, hr42⟩ := and_e hr41
  obtain ⟨hn43, hr43⟩ := and_e hr42
  obtain ⟨hn44, hr44⟩ := and_e hr43
  obtain ⟨hn45, hr45⟩ := and_e hr44
  obtain ⟨hn46, hr46⟩ := and_e hr45
  obtain ⟨hn47, hr47⟩ := and_e hr46
  obtain ⟨hn48, hr48⟩ := and_e hr47
  obtain ⟨hn49, hr49⟩ := and_e hr48
  obtain ⟨hn50, hr50⟩ := and_e hr49
  obtain ⟨hn51, hr51⟩ := and_e hr50
  obtain ⟨hn52, hr52⟩ := and_e hr51
  obtain ⟨hn53, hr53⟩ := and_e hr52
  obtain ⟨hn54, hr54⟩ := and_e hr53
  obtain ⟨hn55, hr55⟩ := and_e hr54
  obtain ⟨hn56, hr56⟩ := and_e hr55
  obtain ⟨hn57, hr57⟩ := and_e hr56
  obtain ⟨hn58, hr58⟩ := and_e hr57
  obtain ⟨hn59, hr59⟩ := and_e hr58
  obtain ⟨hn60, hr60⟩ := and_e hr59
  obtain ⟨hn61, hr61⟩ := and_e hr60
  obtain ⟨hn62, hr62⟩ := and_e hr61
  obtain ⟨hn63, hr63⟩ := and_e hr62
  obtain ⟨hn64, hr64⟩ := and_e hr63
  obtain ⟨hn65, hr65⟩ := and_e hr64
  obtain ⟨hn66, hr66⟩ := and_e hr65
  obtain ⟨hn67, hr67⟩ := and_e hr66
  obtain ⟨hn68, hr68⟩ := and_e hr67
  obtain ⟨hn69, hr69⟩ := and_e hr68
  obtain ⟨hn70, hr70⟩ := and_e hr69
  obtain ⟨hn71, hr71⟩ := and_e hr70
  obtain ⟨hn72, hr72⟩ := and_e hr71
  obtain ⟨hn73, hr73⟩ := and_e hr72
  have hn74 := hr73
  obtain ⟨aQ0, evQ0⟩ := exa_v hn0
  have SQ0 := Sta.start evQ0 (Or.inr ⟨(own_w hw 20 rfl), (own_w hw 21 rfl)⟩)
  have XQ0 := Exa.start evQ0 hn0
  obtain ⟨aE0, evE0⟩ := exa_v hn1
  have SE0 := Sta.start evE0 (Or.inr ⟨(own_w hw 26 rfl), (own_w hw 27 rfl)⟩)
  have XE0 := Exa.start evE0 hn1
  obtain ⟨iQ0, eviQ0⟩ := exa_v hn2
  have FiQ0 := Fld.start ((fld_at evQ0).symm.trans eviQ0)
  obtain ⟨aO0, evO0⟩ := exa_v hn3
  have SO0 := Sta.start evO0 (Or.inr ⟨(own_w hw 53 rfl), (own_w hw 54 rfl)⟩)
  have XO0 := Exa.start evO0 hn3
  have FtQ0 := Fld.start ((fld_at evQ0).symm.trans (own_eqr hn4 evO0))
  obtain ⟨aO5, evO5⟩ := exa_v hn5
  have SO5 := Sta.start evO5 (Or.inr ⟨(own_w hw 53 rfl), (own_w hw 56 rfl)⟩)
  have XO5 := Exa.start evO5 hn5
  have FoO0 := Fld.start ((fld_at evO0).symm.trans (own_eqc hn6))
  have FoO5 := Fld.start ((fld_at evO5).symm.trans (own_eqc hn7))
  have FeQ0 := Fld.start ((fld_at evQ0).symm.trans (own_eqc hn8))
  obtain ⟨aSM, evSM⟩ := arr_v hn9
  have SSM := Sta.start evSM (Or.inr ⟨(own_w hw 66 rfl), (own_w hw 67 rfl)⟩)
  obtain ⟨clSM, ArSM⟩ := Arr.start evSM hn9
  have qSM := own_len evSM (ArSM.fin (Vm.Alike.refl _)) (own_eqc hn10)
  obtain ⟨aQ4, evQ4⟩ := exa_v hn11
  have SQ4 := Sta.start evQ4 (Or.inr ⟨(own_w hw 20 rfl), (own_w hw 103 rfl)⟩)
  have XQ4 := Exa.start evQ4 hn11
  obtain ⟨iQ4, eviQ4⟩ := exa_v hn12
  have FiQ4 := Fld.start ((fld_at evQ4).symm.trans eviQ4)
  obtain ⟨aO4, evO4⟩ := exa_v hn13
  have SO4 := Sta.start evO4 (Or.inr ⟨(own_w hw 53 rfl), (own_w hw 104 rfl)⟩)
  have XO4 := Exa.start evO4 hn13
  have FtQ4 := Fld.start ((fld_at evQ4).symm.trans (own_eqr hn14 evO4))
  have FoO4 := Fld.start ((fld_at evO4).symm.trans (own_eqc hn15))
  have FeQ4 := Fld.start ((fld_at evQ4).symm.trans (own_eqc hn16))
  obtain ⟨aVA, evVA⟩ := arr_v hn17
  have SVA := Sta.start evVA (Or.inl (own_w hw 123 rfl))
  obtain ⟨clVA, ArVA⟩ := Arr.start evVA hn17
  have XVA := Exa.start evVA hn18
  have qVA := own_len evVA (ArVA.fin (Vm.Alike.refl _)) (own_eqc hn19)
  obtain ⟨aA, evA⟩ := exa_v hn20
  have SA := Sta.start evA (Or.inr ⟨(own_w hw 107 rfl), (own_w hw 121 rfl)⟩)
  have XA := Exa.start evA hn20
  obtain ⟨aB, evB⟩ := exa_v hn22
  have SB := Sta.start evB (Or.inr ⟨(own_w hw 107 rfl), (own_w hw 122 rfl)⟩)
  have XB := Exa.start evB hn22
  have FoA := Fld.start ((fld_at evA).symm.trans (own_eqc hn24))
  have FoB := Fld.start ((fld_at evB).symm.trans (own_eqc hn25))
  obtain ⟨aQ5, evQ5⟩ := exa_v hn26
  have SQ5 := Sta.start evQ5 (Or.inr ⟨(own_w hw 20 rfl), (own_w hw 158 rfl)⟩)
  have XQ5 := Exa.start evQ5 hn26
  obtain ⟨iQ5, eviQ5⟩ := exa_v hn27
  have FiQ5 := Fld.start ((fld_at evQ5).symm.trans eviQ5)
  have FtQ5 := Fld.start ((fld_at evQ5).symm.trans (own_eqr hn28 evO5))
  have FeQ5 := Fld.start ((fld_at evQ5).symm.trans (own_eqc hn29))
  have FoQ5 := Fld.start ((fld_at evQ5).symm.trans (own_eqc hn30))
  have FoQ0 := Fld.start ((fld_at evQ0).symm.trans (own_eqc hn31))
  obtain ⟨aQ7, evQ7⟩ := exa_v hn32
  have SQ7 := Sta.start evQ7 (Or.inr ⟨(own_w hw 20 rfl), (own_w hw 175 rfl)⟩)
  have XQ7 := Exa.start evQ7 hn32
  obtain ⟨aE1, evE1⟩ := exa_v hn33
  have SE1 := Sta.start evE1 (Or.inr ⟨(own_w hw 26 rfl), (own_w hw 177 rfl)⟩)
  have XE1 := Exa.start evE1 hn33
  obtain ⟨iQ7, eviQ7⟩ := exa_v hn34
  have FiQ7 := Fld.start ((fld_at evQ7).symm.trans eviQ7)
  obtain ⟨aO3, evO3⟩ := exa_v hn35
  have SO3 := Sta.start evO3 (Or.inr ⟨(own_w hw 53 rfl), (own_w hw 178 rfl)⟩)
  have XO3 := Exa.start evO3 hn35
  have FtQ7 := Fld.start ((fld_at evQ7).symm.trans (own_eqr hn36 evO3))
  have FoO3 := Fld.start ((fld_at evO3).symm.trans (own_eqc hn37))
  have FeQ7 := Fld.start ((fld_at evQ7).symm.trans (own_eqc hn38))
  have FoE1 := Fld.start ((fld_at evE1).symm.trans (own_eqc hn39))
  have FoE0 := Fld.start ((fld_at evE0).symm.trans (own_eqc hn40))
  obtain ⟨aQ2, evQ2⟩ := exa_v hn41
  have SQ2 := Sta.start evQ2 (Or.inr ⟨(own_w hw 20 rfl), (own_w hw 180 rfl)⟩)
  have XQ2 := Exa.start evQ2 hn41
  obtain ⟨iQ2, eviQ2⟩ := exa_v hn42
  have FiQ2 := Fld.start ((fld_at evQ2).symm.trans eviQ2)
  have FtQ2 := Fld.start ((fld_at evQ2).symm.trans (own_eqr hn43 evO3))
  have FeQ2 := Fld.start ((fld_at evQ2).symm.trans (own_eqc hn44))
  obtain ⟨aE2, evE2⟩ := exa_v hn45
  have SE2 := Sta.start evE2 (Or.inr ⟨(own_w hw 26 rfl), (own_w hw 182 rfl)⟩)
  have XE2 := Exa.start evE2 hn45
  have FoE2 := Fld.start ((fld_at evE2).symm.trans (own_eqc hn46))
  have FoQ4 := Fld.start ((fld_at evQ4).symm.trans (own_eqc hn47))
  have FoQ2 := Fld.start ((fld_at evQ2).symm.trans (own_eqc hn48))
  obtain ⟨aQ6, evQ6⟩ := exa_v hn49
  have SQ6 := Sta.start evQ6 (Or.inr ⟨(own_w hw 20 rfl), (own_w hw 184 rfl)⟩)
  have XQ6 := Exa.start evQ6 hn49
  obtain ⟨iQ6, eviQ6⟩ := exa_v hn50
  have FiQ6 := Fld.start ((fld_at evQ6).symm.trans eviQ6)
  have FtQ6 := Fld.start ((fld_at evQ6).symm.trans (own_eqr hn51 evO0))
  have FeQ6 := Fld.start ((fld_at evQ6).symm.trans (own_eqc hn52))
  obtain ⟨aQ3, evQ3⟩ := exa_v hn53
  have SQ3 := Sta.start evQ3 (Or.inr ⟨(own_w hw 20 rfl), (own_w hw 186 rfl)⟩)
  have XQ3 := Exa.start evQ3 hn53
  obtain ⟨iQ3, eviQ3⟩ := exa_v hn54
  have FiQ3 := Fld.start ((fld_at evQ3).symm.trans eviQ3)
  obtain ⟨aO2, evO2⟩ := exa_v hn55
  have SO2 := Sta.start evO2 (Or.inr ⟨(own_w hw 53 rfl), (own_w hw 187 rfl)⟩)
  have XO2 := Exa.start evO2 hn55
  have FtQ3 := Fld.start ((fld_at evQ3).symm.trans (own_eqr hn56 evO2))
  have FoO2 := Fld.start ((fld_at evO2).symm.trans (own_eqc hn57))
  have FeQ3 := Fld.start ((fld_at evQ3).symm.trans (own_eqc hn58))
  have FoQ6 := Fld.start ((fld_at evQ6).symm.trans (own_eqc hn59))
  have FoQ3 := Fld.start ((fld_at evQ3).symm.trans (own_eqc hn60))
  have FoQ7 := Fld.start ((fld_at evQ7).symm.trans (own_eqc hn61))
  obtain ⟨aQ1, evQ1⟩ := exa_v hn62
  have SQ1 := Sta.start evQ1 (Or.inr ⟨(own_w hw 20 rfl), (own_w hw 193 rfl)⟩)
  have XQ1 := Exa.start evQ1 hn62
  obtain ⟨iQ1, eviQ1⟩ := exa_v hn63
  have FiQ1 := Fld.start ((fld_at evQ1).symm.trans eviQ1)
  obtain ⟨aO1, evO1⟩ := exa_v hn64
  have SO1 := Sta.start evO1 (Or.inr ⟨(own_w hw 53 rfl), (own_w hw 194 rfl)⟩)
  have XO1 := Exa.start evO1 hn64
  have FtQ1 := Fld.start ((fld_at evQ1).symm.trans (own_eqr hn65 evO1))
  have FoO1 := Fld.start ((fld_at evO1).symm.trans (own_eqc hn66))
  have FeQ1 := Fld.start ((fld_at evQ1).symm.trans (own_eqc hn67))
  have FoQ1 := Fld.start ((fld_at evQ1).symm.trans (own_eqc hn68))
  have VS : Arv s s.heap aSM clSM.cls .int (6 : Int32) [(.int (2 : Int32)), (.int (4 : Int32)), (.int (3 : Int32)), (.int (5 : Int32)), (.int (6 : Int32)), (.int (1 : Int32))] (.int (0 : Int32)) := Arv.start hfit ArSM qSM.1 qSM.2 (by decide) rfl ⟨(elem_in (own_eqc hn69) evSM (Term.int_eval _) ArSM.1).2, (elem_in (own_eqc hn70) evSM (Term.int_eval _) ArSM.1).2, (elem_in (own_eqc hn71) evSM (Term.int_eval _) ArSM.1).2, (elem_in (own_eqc hn72) evSM (Term.int_eval _) ArSM.1).2, (elem_in (own_eqc hn73) evSM (Term.int_eval _) ArSM.1).2, (elem_in (own_eqc hn74) evSM (Term.int_eval _) ArSM.1).2, trivial⟩
  have VV : Arv s s.heap aVA clVA.cls (.object cCC) (2 : Int32) [(.ref aA), (.ref aB)] .null := Arv.start hfit ArVA qVA.1 qVA.2 (by decide) rfl ⟨(elem_in (own_eqr hn21 evA) evVA (Term.int_eval _) ArVA.1).2, (elem_in (own_eqr hn23 evB) evVA (Term.int_eval _) ArVA.1).2, trivial⟩
  have HW : own_W s (fun k : Int32 => if k = (0 : Int32) then aQ0 else if k = (1 : Int32) then aQ1 else if k = (2 : Int32) then aQ2 else if k = (3 : Int32) then aQ3 else if k = (4 : Int32) then aQ4 else if k = (5 : Int32) then aQ5 else if k = (6 : Int32) then aQ6 else aQ7) (fun k : Int32 => if k = (0 : Int32) then iQ0 else if k = (1 : Int32) then iQ1 else if k = (2 : Int32) then iQ2 else if k = (3 : Int32) then iQ3 else if k = (4 : Int32) then iQ4 else if k = (5 : Int32) then iQ5 else if k = (6 : Int32) then iQ6 else iQ7) (fun k : Int32 => if k = (0 : Int32) then aO0 else if k = (1 : Int32) then aO1 else if k = (2 : Int32) then aO2 else if k = (3 : Int32) then aO3 else if k = (4 : Int32) then aO4 else aO5) (fun k : Int32 => if k = (0 : Int32) then aE0 else if k = (1 : Int32) then aE1 else aE2) aSM clSM.cls aVA aA aB clVA.cls := ⟨⟨⟨SQ0, XQ0, FiQ0, FtQ0, FeQ0, FoQ0⟩, ⟨SQ1, XQ1, FiQ1, FtQ1, FeQ1, FoQ1⟩, ⟨SQ2, XQ2, FiQ2, FtQ2, FeQ2, FoQ2⟩, ⟨SQ3, XQ3, FiQ3, FtQ3, FeQ3, FoQ3⟩, ⟨SQ4, XQ4, FiQ4, FtQ4, FeQ4, FoQ4⟩, ⟨SQ5, XQ5, FiQ5, FtQ5, FeQ5, FoQ5⟩, ⟨SQ6, XQ6, FiQ6, FtQ6, FeQ6, FoQ6⟩, ⟨SQ7, XQ7, FiQ7, FtQ7, FeQ7, FoQ7⟩⟩, ⟨⟨XO0, FoO0⟩, ⟨XO1, FoO1⟩, ⟨XO2, FoO2⟩, ⟨XO3, FoO3⟩, ⟨XO4, FoO4⟩, ⟨XO5, FoO5⟩⟩, ⟨⟨SE0, XE0, FoE0⟩, ⟨SE1, XE1, FoE1⟩, ⟨SE2, XE2, FoE2⟩⟩, SO5, SSM, VS, ⟨SVA, XVA, VV, XA, FoA, XB, FoB⟩⟩
  have SH := Sta.start (own_eqc (Cond.before_iff.mp (hsets _ (List.mem_of_getElem? (i := 3) rfl)))) (Or.inl (hsets _ (List.mem_of_getElem? (i := 1) rfl)))
  obtain ⟨aIK, evIK⟩ := arr_v (Cond.before_iff.mp (hsets _ (List.mem_of_getElem? (i := 4) rfl)))
  have SK := Sta.start evIK (Or.inr ⟨(own_w hw 97 rfl), (hsets _ (List.mem_of_getElem? (i := 2) rfl))⟩)
  obtain ⟨clIK, ArC⟩ := Arr.start evIK (Cond.before_iff.mp (hsets _ (List.mem_of_getElem? (i := 4) rfl)))
  have qIK := own_len evIK (ArC.fin (Vm.Alike.refl _)) (own_eqc (Cond.before_iff.mp (hsets _ (List.mem_of_getElem? (i := 6) rfl))))
  have HC := own_cache evIK (fun _ => evIK) ArC qIK.1 qIK.2 (Cond.before_iff.mp (hsets _ (List.mem_of_getElem? (i := 7) rfl)))
  obtain ⟨n, o, h1, h2, h3, _, L, rfl, ⟨rfl, N⟩, hq⟩ := rm_law l s _ hw tables_1 i0 i1 i2 i3 i4 i5 (fun k : Int32 => if k = (0 : Int32) then aQ0 else if k = (1 : Int32) then aQ1 else if k = (2 : Int32) then aQ2 else if k = (3 : Int32) then aQ3 else if k = (4 : Int32) then aQ4 else if k = (5 : Int32) then aQ5 else if k = (6 : Int32) then aQ6 else aQ7) (fun k : Int32 => if k = (0 : Int32) then iQ0 else if k = (1 : Int32) then iQ1 else if k = (2 : Int32) then iQ2 else if k = (3 : Int32) then iQ3 else if k = (4 : Int32) then iQ4 else if k = (5 : Int32) then iQ5 else if k = (6 : Int32) then iQ6 else iQ7) (fun k : Int32 => if k = (0 : Int32) then aO0 else if k = (1 : Int32) then aO1 else if k = (2 : Int32) then aO2 else if k = (3 : Int32) then aO3 else if k = (4 : Int32) then aO4 else aO5) (fun k : Int32 => if k = (0 : Int32) then aE0 else if k = (1 : Int32) then aE1 else aE2) aSM clSM.cls aVA aA aB clVA.cls aIK clIK s.heap s.heap.size (Old.start s) HW SH SK ArC HC p e ha hc hk s m _ below hf ((Spec.applies_iff_loose hf).mp happ).1 ⟨rfl, State.Warmed39.refl s, rfl⟩ trivial
  refine ⟨n, _, h1, h2, h3, hpost _ _ _ _ _ _ ⟨Cond.after_iff.mpr rfl, Cond.after_iff.mpr (eq_i res_at (Term.int_eval (1)) rfl), trivial⟩ ⟨hq.1, hq.2.1, (hq.2.2.sift fun y hy => Or.inr (N y hy)).mono (by decide) (by decide)⟩⟩
theorem main_1_1 : Claimed_1_1 := comes_1 fun _ _ _ _ _ _ h hF => ⟨h.1, hF⟩
theorem main_1_2 : Claimed_1_2 := comes_1 fun _ _ _ _ _ _ h hF => ⟨h.2.1, hF⟩
end Jvm.Pilot.@@N@@
namespace Jvm.Pilot.@@N@@
open Jvm Jvm.ClassFile Sem Op Lib Jvm.Free Jvm.Stand Jvm.Pilot.@@N@@.Jvm.D
/-! MADE BY PROGRAM (witnessworld.py) out of the Statement's table words and the real class files: 29 classes; the members and pool entries that the words name. The judged class is class 1, her method 1. -/
namespace start1
open Jvm.ClassFile
def u (s : String) : CpInfo := .utf8 (stringToUtf16 s)
/-- a pool by its gaps: so many unusable entries, then the entry; so many at the end -/
def gap : Nat → List CpInfo → List CpInfo
  | 0, r => r
  | n + 1, r => .unusable :: gap n r
def poolList (es : List (Nat × CpInfo)) (last : Nat) : List CpInfo := es.foldr (fun e r => gap e.1 (e.2 :: r)) (gap last [])
def pool (es : List (Nat × CpInfo)) (last : Nat) : Array CpInfo := ⟨poolList es last⟩
def fileOf (pool : Array CpInfo) (this : Nat) (attrs : Array Attribute := #[]) (ms : Array MethodInfo := #[]) (fl : Nat := 33) (sup : Nat := 0) (ifs : Array Nat := #[]) (fds : Array FieldInfo := #[]) : ClassFile where
  minorVersion := 0
  majorVersion := 65
  constantPool := pool
  accessFlags := fl
  thisClass := this
  superClass := sup
  interfaces := ifs
  fields := fds
  methods := ms
  attributes := attrs
def plain (name : String) (sup : Option ClassId) : Class where
  name := name
  kind := .ordinary
  loader := none
  accessFlags := 33
  super := sup
  interfaces := #[]
  cf := none
  fields := #[]
  methods := #[]
  instanceTypes := #[]
  staticTypes := #[]
  resolved := #[]
  callSites := []
  init := .initialized
  statics := none
  mirror := none

def pool0 : Array CpInfo := pool [(5, u "<init>"), (0, u "()V"), (1, .class_ 10), (1, u "java/lang/Object"), (85, u "clone"), (0, u "()Ljava/lang/Object;")] 26

def k0c0 : Code := { maxStack := 0, maxLocals := 1, code := object_method_1_code, exceptionTable := #[], attributes := #[] }
def k0m0 : Method := { name := "<init>", desc := "()V", sig := { parameters := [], returnType := none }, accessFlags := 1, code := some k0c0 }
def k0m1 : Method := { name := "clone", desc := "()Ljava/lang/Object;", sig := { parameters := [], returnType := some (.object "java/lang/Object") }, accessFlags := 260, code := none }
/-- java/lang/Object -/
def k0 : Class := { plain "java/lang/Object" none with
  accessFlags := 33
  interfaces := #[]
  cf := some (fileOf pool0 8 #[] #[{ accessFlags := 1, nameIndex := 5, descriptorIndex := 6, attributes := #[] }, { accessFlags := 260, nameIndex := 96, descriptorIndex := 97, attributes := #[] }] 33 0 #[] #[])
  fields := #[]
  methods := #[k0m0, k0m1]
  instanceTypes := #[]
  staticTypes := #[]
  resolved := Array.replicate 124 none
  statics := none }

def pool1 : Array CpInfo := pool [(2, .class_ 4), (1, u "java/lang/Object"), (0, u "<init>"), (0, u "()V"), (0, .methodref 8 9), (0, .class_ 10), (0, .nameAndType 11 12), (0, u "com/example/twistgauge/twistgauge/measurement/SeriesKeyEqualsPinLaw"), (0, u "fields"), (0, u "(IIII)[I"), (0, .methodref 8 14), (0, .nameAndType 15 16), (0, u "make"), (0, u "([I)Lcom/example/twistgauge/twistgauge/measurement/SeriesKey;"), (0, .methodref 18 19), (0, .class_ 20), (0, .nameAndType 21 22), (0, u "com/example/twistgauge/twistgauge/measurement/SeriesKey"), (0, u "equals"), (0, u "(Ljava/lang/Object;)Z"), (0, .methodref 24 25), (0, .class_ 26), (0, .nameAndType 27 28), (0, u "java/lang/Integer"), (0, u "valueOf"), (0, u "(I)Ljava/lang/Integer;"), (0, .integer 2147483647), (0, .methodref 31 32), (0, .class_ 33), (0, .nameAndType 34 35), (0, u "java/lang/Math"), (0, u "max"), (0, u "(II)I"), (0, .integer 2147483646), (0, .methodref 31 38), (0, .nameAndType 39 35), (0, u "min"), (0, .fieldref 41 42), (0, .class_ 43), (0, .nameAndType 44 45), (0, u "com/example/twistgauge/twistgauge/measurement/Quantity"), (0, u "INSERTION_LOSS"), (0, u "Lcom/example/twistgauge/twistgauge/measurement/Quantity;"), (0, .fieldref 41 47), (0, .nameAndType 48 45), (0, u "NEXT"), (0, .fieldref 41 50), (0, .nameAndType 51 45), (0, u "FEXT"), (0, .fieldref 41 53), (0, .nameAndType 54 45), (0, u "PSNEXT"), (0, .fieldref 41 56), (0, .nameAndType 57 45), (0, u "RESISTANCE"), (0, .fieldref 41 59), (0, .nameAndType 60 45), (0, u "DELAY_SKEW"), (0, .fieldref 41 62), (0, .nameAndType 63 45), (0, u "RETURN_LOSS"), (0, .fieldref 41 65), (0, .nameAndType 66 45), (0, u "ACR"), (0, .fieldref 68 69), (0, .class_ 70), (0, .nameAndType 71 72), (0, u "com/example/twistgauge/twistgauge/measurement/End"), (0, u "THROUGH"), (0, u "Lcom/example/twistgauge/twistgauge/measurement/End;"), (0, .fieldref 68 74), (0, .nameAndType 75 72), (0, u "NEAR"), (0, .fieldref 68 77), (0, .nameAndType 78 72), (0, u "FAR"), (0, .methodref 8 80), (0, .nameAndType 81 82), (0, u "quantity"), (0, u "(I)Lcom/example/twistgauge/twistgauge/measurement/Quantity;"), (0, .methodref 8 84), (0, .nameAndType 85 86), (0, u "end"), (0, u "(I)Lcom/example/twistgauge/twistgauge/measurement/End;"), (0, .methodref 18 88), (0, .nameAndType 5 89), (0, u "(Lcom/example/twistgauge/twistgauge/measurement/Quantity;Lcom/example/twistgauge/twistgauge/measurement/End;II)V"), (2, u "law"), (0, u "(IIIIII)Z")] 5

def k1m0 : Method := { name := "<init>", desc := "()V", sig := { parameters := [], returnType := none }, accessFlags := 1, code := none }
def k1c1 : Code := { maxStack := 4, maxLocals := 20, code := code, exceptionTable := #[], attributes := #[] }
def k1m1 : Method := { name := "law", desc := "(IIIIII)Z", sig := { parameters := [.int, .int, .int, .int, .int, .int], returnType := some .boolean }, accessFlags := 9, code := some k1c1 }
def k1c2 : Code := { maxStack := 4, maxLocals := 9, code := method_3_code, exceptionTable := #[], attributes := #[] }
def k1m2 : Method := { name := "fields", desc := "(IIII)[I", sig := { parameters := [.int, .int, .int, .int], returnType := some (.array .int) }, accessFlags := 10, code := some k1c2 }
def k1c3 : Code := { maxStack := 2, maxLocals := 1, code := method_4_code, exceptionTable := #[], attributes := #[] }
def k1m3 : Method := { name := "quantity", desc := "(I)Lcom/example/twistgauge/twistgauge/measurement/Quantity;", sig := { parameters := [.int], returnType := some (.object "com/example/twistgauge/twistgauge/measurement/Quantity") }, accessFlags := 10, code := some k1c3 }
def k1c4 : Code := { maxStack := 2, maxLocals := 1, code := method_5_code, exceptionTable := #[], attributes := #[] }
def k1m4 : Method := { name := "end", desc := "(I)Lcom/example/twistgauge/twistgauge/measurement/End;", sig := { parameters := [.int], returnType := some (.object "com/example/twistgauge/twistgauge/measurement/End") }, accessFlags := 10, code := some k1c4 }
def k1c5 : Code := { maxStack := 7, maxLocals := 1, code := method_6_code, exceptionTable := #[], attributes := #[] }
def k1m5 : Method := { name := "make", desc := "([I)Lcom/example/twistgauge/twistgauge/measurement/SeriesKey;", sig := { parameters := [(.array .int)], returnType := some (.object "com/example/twistgauge/twistgauge/measurement/SeriesKey") }, accessFlags := 10, code := some k1c5 }
/-- com/example/twistgauge/twistgauge/measurement/SeriesKeyEqualsPinLaw -/
def k1 : Class := { plain "com/example/twistgauge/twistgauge/measurement/SeriesKeyEqualsPinLaw" (some 0) with
  accessFlags := 49
  interfaces := #[]
  cf := some (fileOf pool1 8 #[] #[{ accessFlags := 1, nameIndex := 5, descriptorIndex := 6, attributes := #[] }, { accessFlags := 9, nameIndex := 92, descriptorIndex := 93, attributes := #[] }, { accessFlags := 10, nameIndex := 11, descriptorIndex := 12, attributes := #[] }, { accessFlags := 10, nameIndex := 81, descriptorIndex := 82, attributes := #[] }, { accessFlags := 10, nameIndex := 85, descriptorIndex := 86, attributes := #[] }, { accessFlags := 10, nameIndex := 15, descriptorIndex := 16, attributes := #[] }] 49 2 #[] #[])
  fields := #[]
  methods := #[k1m0, k1m1, k1m2, k1m3, k1m4, k1m5]
  instanceTypes := #[]
  staticTypes := #[]
  resolved := Array.replicate 99 none
  statics := none }

def pool2 : Array CpInfo := pool [(1, .class_ 2), (0, u "java/lang/Math"), (1, .class_ 6), (1, u "java/lang/Object"), (0, u "<init>"), (0, u "()V"), (89, .class_ 100), (1, u "java/lang/Math$RandomNumberGeneratorHolder"), (71, u "negativeZeroFloatBits"), (0, u "J"), (2, u "negativeZeroDoubleBits"), (21, u "max"), (2, u "min"), (43, u "$assertionsDisabled"), (0, u "Z"), (88, u "(II)I"), (2, u "twoToTheDoubleScaleDown"), (0, u "D"), (4, u "twoToTheDoubleScaleUp"), (9, u "E"), (3, u "PI"), (2, u "TAU"), (2, u "DEGREES_TO_RADIANS"), (0, u "RADIANS_TO_DEGREES")] 94

def k2m0 : Method := { name := "<init>", desc := "()V", sig := { parameters := [], returnType := none }, accessFlags := 2, code := none }
def k2c1 : Code := { maxStack := 2, maxLocals := 2, code := jdk_29_method_65_code, exceptionTable := #[], attributes := #[] }
def k2m1 : Method := { name := "max", desc := "(II)I", sig := { parameters := [.int, .int], returnType := some .int }, accessFlags := 9, code := some k2c1 }
def k2c2 : Code := { maxStack := 2, maxLocals := 2, code := jdk_29_method_69_code, exceptionTable := #[], attributes := #[] }
def k2m2 : Method := { name := "min", desc := "(II)I", sig := { parameters := [.int, .int], returnType := some .int }, accessFlags := 9, code := some k2c2 }
/-- java/lang/Math -/
def k2 : Class := { plain "java/lang/Math" (some 0) with
  accessFlags := 49
  interfaces := #[]
  cf := some (fileOf pool2 1 #[.nestMembers #[98]] #[{ accessFlags := 2, nameIndex := 7, descriptorIndex := 8, attributes := #[] }, { accessFlags := 9, nameIndex := 198, descriptorIndex := 335, attributes := #[] }, { accessFlags := 9, nameIndex := 201, descriptorIndex := 335, attributes := #[] }] 49 4 #[] #[{ accessFlags := 25, nameIndex := 354, descriptorIndex := 339, attributes := #[] }, { accessFlags := 25, nameIndex := 358, descriptorIndex := 339, attributes := #[] }, { accessFlags := 25, nameIndex := 361, descriptorIndex := 339, attributes := #[] }, { accessFlags := 26, nameIndex := 364, descriptorIndex := 339, attributes := #[] }, { accessFlags := 26, nameIndex := 365, descriptorIndex := 339, attributes := #[] }, { accessFlags := 26, nameIndex := 172, descriptorIndex := 173, attributes := #[] }, { accessFlags := 26, nameIndex := 176, descriptorIndex := 173, attributes := #[] }, { accessFlags := 8, nameIndex := 344, descriptorIndex := 339, attributes := #[] }, { accessFlags := 8, nameIndex := 338, descriptorIndex := 339, attributes := #[] }, { accessFlags := 4120, nameIndex := 245, descriptorIndex := 246, attributes := #[] }])
  fields := #[{ name := "E", type := .double, accessFlags := 25, slot := 0, constantValue := 0 }, { name := "PI", type := .double, accessFlags := 25, slot := 1, constantValue := 0 }, { name := "TAU", type := .double, accessFlags := 25, slot := 2, constantValue := 0 }, { name := "DEGREES_TO_RADIANS", type := .double, accessFlags := 26, slot := 3, constantValue := 0 }, { name := "RADIANS_TO_DEGREES", type := .double, accessFlags := 26, slot := 4, constantValue := 0 }, { name := "negativeZeroFloatBits", type := .long, accessFlags := 26, slot := 5, constantValue := 0 }, { name := "negativeZeroDoubleBits", type := .long, accessFlags := 26, slot := 6, constantValue := 0 }, { name := "twoToTheDoubleScaleUp", type := .double, accessFlags := 8, slot := 7, constantValue := 0 }, { name := "twoToTheDoubleScaleDown", type := .double, accessFlags := 8, slot := 8, constantValue := 0 }, { name := "$assertionsDisabled", type := .boolean, accessFlags := 4120, slot := 9, constantValue := 0 }]
  methods := #[k2m0, k2m1, k2m2]
  instanceTypes := #[]
  staticTypes := #[.double, .double, .double, .double, .double, .long, .long, .double, .double, .boolean]
  resolved := Array.replicate 460 none
  statics := none }

def pool3 : Array CpInfo := pool [(1, .methodref 2 3), (0, .class_ 4), (0, .nameAndType 5 6), (0, u "java/lang/Object"), (0, u "<init>"), (0, u "()V"), (0, .class_ 8), (0, u "java/lang/Record")] 13

def k3c0 : Code := { maxStack := 1, maxLocals := 1, code := jdk_30_method_1_code, exceptionTable := #[], attributes := #[] }
def k3m0 : Method := { name := "<init>", desc := "()V", sig := { parameters := [], returnType := none }, accessFlags := 4, code := some k3c0 }
/-- java/lang/Record -/
def k3 : Class := { plain "java/lang/Record" (some 0) with
  accessFlags := 1057
  interfaces := #[]
  cf := some (fileOf pool3 7 #[] #[{ accessFlags := 4, nameIndex := 5, descriptorIndex := 6, attributes := #[] }] 1057 2 #[] #[])
  fields := #[]
  methods := #[k3m0]
  instanceTypes := #[]
  staticTypes := #[]
  resolved := Array.replicate 22 none
  statics := none }

def pool4 : Array CpInfo := pool [(1, .class_ 2), (0, u "java/lang/Comparable"), (0, .class_ 4), (0, u "java/lang/Object")] 7

/-- java/lang/Comparable -/
def k4 : Class := { plain "java/lang/Comparable" (some 0) with
  accessFlags := 1537
  interfaces := #[]
  cf := some (fileOf pool4 1 #[] #[] 1537 3 #[] #[])
  fields := #[]
  methods := #[]
  instanceTypes := #[]
  staticTypes := #[]
  resolved := Array.replicate 12 none
  statics := none }

def pool5 : Array CpInfo := pool [(1, .methodref 2 3), (0, .class_ 4), (0, .nameAndType 5 6), (0, u "java/lang/Record"), (0, u "<init>"), (0, u "()V"), (0, .methodref 8 9), (0, .class_ 10), (0, .nameAndType 11 12), (0, u "com/example/twistgauge/twistgauge/measurement/Quantity"), (0, u "identifier"), (0, u "()Ljava/lang/String;"), (0, .methodref 8 14), (0, .nameAndType 15 16), (0, u "others"), (0, u "()Lcom/example/twistgauge/twistgauge/measurement/Quantity$Others;"), (0, .fieldref 18 19), (0, .class_ 20), (0, .nameAndType 21 22), (0, u "com/example/twistgauge/twistgauge/measurement/Quantity$Others"), (0, u "ACROSS"), (0, u "Lcom/example/twistgauge/twistgauge/measurement/Quantity$Others;"), (3, .class_ 28), (1, u "com/example/twistgauge/twistgauge/measurement/SeriesKey"), (11, .methodref 8 41), (0, .nameAndType 42 43), (0, u "atAnEnd"), (0, u "()Z"), (0, .fieldref 45 46), (0, .class_ 47), (0, .nameAndType 48 49), (0, u "com/example/twistgauge/twistgauge/measurement/End"), (0, u "THROUGH"), (0, u "Lcom/example/twistgauge/twistgauge/measurement/End;"), (7, .fieldref 58 59), (0, .class_ 60), (0, .nameAndType 61 62), (0, u "com/example/twistgauge/twistgauge/measurement/SeriesKey$1"), (0, u "$SwitchMap$com$example$twistgauge$twistgauge$measurement$Quantity$Others"), (0, u "[I"), (0, .methodref 18 64), (0, .nameAndType 65 66), (0, u "ordinal"), (0, u "()I"), (5, .methodref 73 74), (0, .class_ 75), (0, .nameAndType 76 77), (0, u "com/example/twistgauge/twistgauge/measurement/Conductor"), (0, u "of"), (0, u "(I)Ljava/util/Optional;"), (0, .methodref 79 80), (0, .class_ 81), (0, .nameAndType 82 43), (0, u "java/util/Optional"), (0, u "isEmpty"), (11, .fieldref 26 95), (0, .nameAndType 96 97), (0, u "quantity"), (0, u "Lcom/example/twistgauge/twistgauge/measurement/Quantity;"), (0, .fieldref 26 99), (0, .nameAndType 100 49), (0, u "end"), (0, .fieldref 26 102), (0, .nameAndType 103 104), (0, u "pair"), (0, u "I"), (0, .fieldref 26 106), (0, .nameAndType 107 104), (0, u "other"), (5, u "(Lcom/example/twistgauge/twistgauge/measurement/Quantity;Lcom/example/twistgauge/twistgauge/measurement/End;II)V"), (5, u "(Ljava/lang/Object;)Z"), (49, .class_ 170), (0, u "java/lang/Comparable"), (0, u "NO_OTHER"), (2, u "NO_PAIR"), (14, u "equals")] 54

def k5c0 : Code := { maxStack := 5, maxLocals := 7, code := prog_56_method_1_code, exceptionTable := #[], attributes := #[] }
def k5m0 : Method := { name := "<init>", desc := "(Lcom/example/twistgauge/twistgauge/measurement/Quantity;Lcom/example/twistgauge/twistgauge/measurement/End;II)V", sig := { parameters := [(.object "com/example/twistgauge/twistgauge/measurement/Quantity"), (.object "com/example/twistgauge/twistgauge/measurement/End"), .int, .int], returnType := none }, accessFlags := 1, code := some k5c0 }
def k5c1 : Code := { maxStack := 2, maxLocals := 3, code := prog_56_method_7_code, exceptionTable := #[], attributes := #[] }
def k5m1 : Method := { name := "equals", desc := "(Ljava/lang/Object;)Z", sig := { parameters := [(.object "java/lang/Object")], returnType := some .boolean }, accessFlags := 1, code := some k5c1 }
/-- com/example/twistgauge/twistgauge/measurement/SeriesKey -/
def k5 : Class := { plain "com/example/twistgauge/twistgauge/measurement/SeriesKey" (some 3) with
  accessFlags := 49
  interfaces := #[4]
  cf := some (fileOf pool5 26 #[.nestMembers #[58]] #[{ accessFlags := 1, nameIndex := 5, descriptorIndex := 113, attributes := #[] }, { accessFlags := 1, nameIndex := 189, descriptorIndex := 119, attributes := #[] }] 49 2 #[169] #[{ accessFlags := 18, nameIndex := 96, descriptorIndex := 97, attributes := #[] }, { accessFlags := 18, nameIndex := 100, descriptorIndex := 49, attributes := #[] }, { accessFlags := 18, nameIndex := 103, descriptorIndex := 104, attributes := #[] }, { accessFlags := 18, nameIndex := 107, descriptorIndex := 104, attributes := #[] }, { accessFlags := 25, nameIndex := 171, descriptorIndex := 104, attributes := #[] }, { accessFlags := 25, nameIndex := 174, descriptorIndex := 104, attributes := #[] }])
  fields := #[{ name := "quantity", type := (.object "com/example/twistgauge/twistgauge/measurement/Quantity"), accessFlags := 18, slot := 0, constantValue := 0 }, { name := "end", type := (.object "com/example/twistgauge/twistgauge/measurement/End"), accessFlags := 18, slot := 1, constantValue := 0 }, { name := "pair", type := .int, accessFlags := 18, slot := 2, constantValue := 0 }, { name := "other", type := .int, accessFlags := 18, slot := 3, constantValue := 0 }, { name := "NO_OTHER", type := .int, accessFlags := 25, slot := 0, constantValue := 0 }, { name := "NO_PAIR", type := .int, accessFlags := 25, slot := 1, constantValue := 0 }]
  methods := #[k5m0, k5m1]
  instanceTypes := #[(.object "com/example/twistgauge/twistgauge/measurement/Quantity"), (.object "com/example/twistgauge/twistgauge/measurement/End"), .int, .int]
  staticTypes := #[.int, .int]
  resolved := Array.replicate 244 none
  statics := none }

def pool6 : Array CpInfo := pool [(1, .class_ 2), (0, u "java/lang/constant/Constable"), (0, .class_ 4), (0, u "java/lang/Object")] 6

/-- java/lang/constant/Constable -/
def k6 : Class := { plain "java/lang/constant/Constable" (some 0) with
  accessFlags := 1537
  interfaces := #[]
  cf := some (fileOf pool6 1 #[] #[] 1537 3 #[] #[])
  fields := #[]
  methods := #[]
  instanceTypes := #[]
  staticTypes := #[]
  resolved := Array.replicate 11 none
  statics := none }

def pool7 : Array CpInfo := pool [(1, .class_ 2), (0, u "java/io/Serializable"), (0, .class_ 4), (0, u "java/lang/Object")] 2

/-- java/io/Serializable -/
def k7 : Class := { plain "java/io/Serializable" (some 0) with
  accessFlags := 1537
  interfaces := #[]
  cf := some (fileOf pool7 1 #[] #[] 1537 3 #[] #[])
  fields := #[]
  methods := #[]
  instanceTypes := #[]
  staticTypes := #[]
  resolved := Array.replicate 7 none
  statics := none }

def pool8 : Array CpInfo := pool [(2, .class_ 4), (1, u "java/lang/Enum"), (0, u "name"), (0, u "Ljava/lang/String;"), (0, .fieldref 2 8), (0, .nameAndType 9 10), (0, u "ordinal"), (0, u "I"), (1, .class_ 14), (1, u "java/lang/Object"), (4, u "hash"), (86, .class_ 108), (1, u "java/lang/Enum$EnumDesc"), (2, .class_ 112), (0, u "java/lang/constant/Constable"), (0, .class_ 114), (0, u "java/lang/Comparable"), (0, .class_ 116), (0, u "java/io/Serializable"), (9, u "()I")] 77

def k8c0 : Code := { maxStack := 1, maxLocals := 1, code := jdk_37_method_2_code, exceptionTable := #[], attributes := #[] }
def k8m0 : Method := { name := "ordinal", desc := "()I", sig := { parameters := [], returnType := some .int }, accessFlags := 17, code := some k8c0 }
/-- java/lang/Enum -/
def k8 : Class := { plain "java/lang/Enum" (some 0) with
  accessFlags := 1057
  interfaces := #[6, 4, 7]
  cf := some (fileOf pool8 2 #[.nestMembers #[106]] #[{ accessFlags := 17, nameIndex := 9, descriptorIndex := 126, attributes := #[] }] 1057 12 #[111, 113, 115] #[{ accessFlags := 18, nameIndex := 5, descriptorIndex := 6, attributes := #[] }, { accessFlags := 18, nameIndex := 9, descriptorIndex := 10, attributes := #[] }, { accessFlags := 2, nameIndex := 19, descriptorIndex := 10, attributes := #[] }])
  fields := #[{ name := "name", type := (.object "java/lang/String"), accessFlags := 18, slot := 0, constantValue := 0 }, { name := "ordinal", type := .int, accessFlags := 18, slot := 1, constantValue := 0 }, { name := "hash", type := .int, accessFlags := 2, slot := 2, constantValue := 0 }]
  methods := #[k8m0]
  instanceTypes := #[(.object "java/lang/String"), .int, .int]
  staticTypes := #[]
  resolved := Array.replicate 204 none
  statics := none }

def pool9 : Array CpInfo := pool [(1, .class_ 2), (0, u "com/example/twistgauge/twistgauge/measurement/Quantity"), (2, u "INSERTION_LOSS"), (0, u "Lcom/example/twistgauge/twistgauge/measurement/Quantity;"), (2, u "NEXT"), (2, u "FEXT"), (2, u "PSNEXT"), (2, u "ACR"), (2, u "PSACR"), (2, u "ELFEXT"), (2, u "PSELFEXT"), (2, u "RETURN_LOSS"), (2, u "INSERTION_PHASE"), (2, u "PROPAGATION_DELAY"), (2, u "DELAY_SKEW"), (2, u "RESISTANCE"), (2, u "LOOP_RESISTANCE"), (2, u "RESISTANCE_UNBALANCE"), (2, u "PAIR_RESISTANCE_UNBALANCE"), (2, u "CAPACITANCE_C1"), (2, u "CAPACITANCE_C2"), (2, u "CAPACITANCE_C3"), (2, u "OPERATING_CAPACITANCE"), (2, u "INSULATION_RESISTANCE"), (2, u "CAPACITANCE_UNBALANCE_EARTH"), (2, u "$VALUES"), (0, u "[Lcom/example/twistgauge/twistgauge/measurement/Quantity;"), (6, .class_ 82), (1, u "java/lang/Enum"), (6, .fieldref 1 90), (0, .nameAndType 91 92), (0, u "identifier"), (0, u "Ljava/lang/String;"), (0, .fieldref 1 94), (0, .nameAndType 95 96), (0, u "atAnEnd"), (0, u "Z"), (0, .fieldref 1 98), (0, .nameAndType 99 100), (0, u "others"), (0, u "Lcom/example/twistgauge/twistgauge/measurement/Quantity$Others;"), (2, u "derived"), (2, u "directCurrent"), (2, u "givenAsRow"), (1, .class_ 113), (1, u "com/example/twistgauge/twistgauge/measurement/Quantity$Others"), (123, u "()Ljava/lang/String;"), (3, u "()Z"), (1, u "()Lcom/example/twistgauge/twistgauge/measurement/Quantity$Others;")] 8

def k9c0 : Code := { maxStack := 1, maxLocals := 1, code := prog_51_method_6_code, exceptionTable := #[], attributes := #[] }
def k9m0 : Method := { name := "identifier", desc := "()Ljava/lang/String;", sig := { parameters := [], returnType := some (.object "java/lang/String") }, accessFlags := 1, code := some k9c0 }
def k9c1 : Code := { maxStack := 1, maxLocals := 1, code := prog_51_method_8_code, exceptionTable := #[], attributes := #[] }
def k9m1 : Method := { name := "atAnEnd", desc := "()Z", sig := { parameters := [], returnType := some .boolean }, accessFlags := 1, code := some k9c1 }
def k9c2 : Code := { maxStack := 1, maxLocals := 1, code := prog_51_method_13_code, exceptionTable := #[], attributes := #[] }
def k9m2 : Method := { name := "others", desc := "()Lcom/example/twistgauge/twistgauge/measurement/Quantity$Others;", sig := { parameters := [], returnType := some (.object "com/example/twistgauge/twistgauge/measurement/Quantity$Others") }, accessFlags := 0, code := some k9c2 }
/-- com/example/twistgauge/twistgauge/measurement/Quantity -/
def k9 : Class := { plain "com/example/twistgauge/twistgauge/measurement/Quantity" (some 8) with
  accessFlags := 16433
  interfaces := #[]
  cf := some (fileOf pool9 1 #[.nestMembers #[111]] #[{ accessFlags := 1, nameIndex := 91, descriptorIndex := 237, attributes := #[] }, { accessFlags := 1, nameIndex := 95, descriptorIndex := 241, attributes := #[] }, { accessFlags := 0, nameIndex := 99, descriptorIndex := 243, attributes := #[] }] 16433 80 #[] #[{ accessFlags := 16409, nameIndex := 5, descriptorIndex := 6, attributes := #[] }, { accessFlags := 16409, nameIndex := 9, descriptorIndex := 6, attributes := #[] }, { accessFlags := 16409, nameIndex := 12, descriptorIndex := 6, attributes := #[] }, { accessFlags := 16409, nameIndex := 15, descriptorIndex := 6, attributes := #[] }, { accessFlags := 16409, nameIndex := 18, descriptorIndex := 6, attributes := #[] }, { accessFlags := 16409, nameIndex := 21, descriptorIndex := 6, attributes := #[] }, { accessFlags := 16409, nameIndex := 24, descriptorIndex := 6, attributes := #[] }, { accessFlags := 16409, nameIndex := 27, descriptorIndex := 6, attributes := #[] }, { accessFlags := 16409, nameIndex := 30, descriptorIndex := 6, attributes := #[] }, { accessFlags := 16409, nameIndex := 33, descriptorIndex := 6, attributes := #[] }, { accessFlags := 16409, nameIndex := 36, descriptorIndex := 6, attributes := #[] }, { accessFlags := 16409, nameIndex := 39, descriptorIndex := 6, attributes := #[] }, { accessFlags := 16409, nameIndex := 42, descriptorIndex := 6, attributes := #[] }, { accessFlags := 16409, nameIndex := 45, descriptorIndex := 6, attributes := #[] }, { accessFlags := 16409, nameIndex := 48, descriptorIndex := 6, attributes := #[] }, { accessFlags := 16409, nameIndex := 51, descriptorIndex := 6, attributes := #[] }, { accessFlags := 16409, nameIndex := 54, descriptorIndex := 6, attributes := #[] }, { accessFlags := 16409, nameIndex := 57, descriptorIndex := 6, attributes := #[] }, { accessFlags := 16409, nameIndex := 60, descriptorIndex := 6, attributes := #[] }, { accessFlags := 16409, nameIndex := 63, descriptorIndex := 6, attributes := #[] }, { accessFlags := 16409, nameIndex := 66, descriptorIndex := 6, attributes := #[] }, { accessFlags := 16409, nameIndex := 69, descriptorIndex := 6, attributes := #[] }, { accessFlags := 18, nameIndex := 91, descriptorIndex := 92, attributes := #[] }, { accessFlags := 18, nameIndex := 95, descriptorIndex := 96, attributes := #[] }, { accessFlags := 18, nameIndex := 99, descriptorIndex := 100, attributes := #[] }, { accessFlags := 18, nameIndex := 103, descriptorIndex := 96, attributes := #[] }, { accessFlags := 18, nameIndex := 106, descriptorIndex := 96, attributes := #[] }, { accessFlags := 18, nameIndex := 109, descriptorIndex := 96, attributes := #[] }, { accessFlags := 4122, nameIndex := 72, descriptorIndex := 73, attributes := #[] }])
  fields := #[{ name := "INSERTION_LOSS", type := (.object "com/example/twistgauge/twistgauge/measurement/Quantity"), accessFlags := 16409, slot := 0, constantValue := 0 }, { name := "NEXT", type := (.object "com/example/twistgauge/twistgauge/measurement/Quantity"), accessFlags := 16409, slot := 1, constantValue := 0 }, { name := "FEXT", type := (.object "com/example/twistgauge/twistgauge/measurement/Quantity"), accessFlags := 16409, slot := 2, constantValue := 0 }, { name := "PSNEXT", type := (.object "com/example/twistgauge/twistgauge/measurement/Quantity"), accessFlags := 16409, slot := 3, constantValue := 0 }, { name := "ACR", type := (.object "com/example/twistgauge/twistgauge/measurement/Quantity"), accessFlags := 16409, slot := 4, constantValue := 0 }, { name := "PSACR", type := (.object "com/example/twistgauge/twistgauge/measurement/Quantity"), accessFlags := 16409, slot := 5, constantValue := 0 }, { name := "ELFEXT", type := (.object "com/example/twistgauge/twistgauge/measurement/Quantity"), accessFlags := 16409, slot := 6, constantValue := 0 }, { name := "PSELFEXT", type := (.object "com/example/twistgauge/twistgauge/measurement/Quantity"), accessFlags := 16409, slot := 7, constantValue := 0 }, { name := "RETURN_LOSS", type := (.object "com/example/twistgauge/twistgauge/measurement/Quantity"), accessFlags := 16409, slot := 8, constantValue := 0 }, { name := "INSERTION_PHASE", type := (.object "com/example/twistgauge/twistgauge/measurement/Quantity"), accessFlags := 16409, slot := 9, constantValue := 0 }, { name := "PROPAGATION_DELAY", type := (.object "com/example/twistgauge/twistgauge/measurement/Quantity"), accessFlags := 16409, slot := 10, constantValue := 0 }, { name := "DELAY_SKEW", type := (.object "com/example/twistgauge/twistgauge/measurement/Quantity"), accessFlags := 16409, slot := 11, constantValue := 0 }, { name := "RESISTANCE", type := (.object "com/example/twistgauge/twistgauge/measurement/Quantity"), accessFlags := 16409, slot := 12, constantValue := 0 }, { name := "LOOP_RESISTANCE", type := (.object "com/example/twistgauge/twistgauge/measurement/Quantity"), accessFlags := 16409, slot := 13, constantValue := 0 }, { name := "RESISTANCE_UNBALANCE", type := (.object "com/example/twistgauge/twistgauge/measurement/Quantity"), accessFlags := 16409, slot := 14, constantValue := 0 }, { name := "PAIR_RESISTANCE_UNBALANCE", type := (.object "com/example/twistgauge/twistgauge/measurement/Quantity"), accessFlags := 16409, slot := 15, constantValue := 0 }, { name := "CAPACITANCE_C1", type := (.object "com/example/twistgauge/twistgauge/measurement/Quantity"), accessFlags := 16409, slot := 16, constantValue := 0 }, { name := "CAPACITANCE_C2", type := (.object "com/example/twistgauge/twistgauge/measurement/Quantity"), accessFlags := 16409, slot := 17, constantValue := 0 }, { name := "CAPACITANCE_C3", type := (.object "com/example/twistgauge/twistgauge/measurement/Quantity"), accessFlags := 16409, slot := 18, constantValue := 0 }, { name := "OPERATING_CAPACITANCE", type := (.object "com/example/twistgauge/twistgauge/measurement/Quantity"), accessFlags := 16409, slot := 19, constantValue := 0 }, { name := "INSULATION_RESISTANCE", type := (.object "com/example/twistgauge/twistgauge/measurement/Quantity"), accessFlags := 16409, slot := 20, constantValue := 0 }, { name := "CAPACITANCE_UNBALANCE_EARTH", type := (.object "com/example/twistgauge/twistgauge/measurement/Quantity"), accessFlags := 16409, slot := 21, constantValue := 0 }, { name := "identifier", type := (.object "java/lang/String"), accessFlags := 18, slot := 3, constantValue := 0 }, { name := "atAnEnd", type := .boolean, accessFlags := 18, slot := 4, constantValue := 0 }, { name := "others", type := (.object "com/example/twistgauge/twistgauge/measurement/Quantity$Others"), accessFlags := 18, slot := 5, constantValue := 0 }, { name := "derived", type := .boolean, accessFlags := 18, slot := 6, constantValue := 0 }, { name := "directCurrent", type := .boolean, accessFlags := 18, slot := 7, constantValue := 0 }, { name := "givenAsRow", type := .boolean, accessFlags := 18, slot := 8, constantValue := 0 }, { name := "$VALUES", type := (.array (.object "com/example/twistgauge/twistgauge/measurement/Quantity")), accessFlags := 4122, slot := 22, constantValue := 0 }]
  methods := #[k9m0, k9m1, k9m2]
  instanceTypes := #[(.object "java/lang/String"), .int, .int, (.object "java/lang/String"), .boolean, (.object "com/example/twistgauge/twistgauge/measurement/Quantity$Others"), .boolean, .boolean, .boolean]
  staticTypes := #[(.object "com/example/twistgauge/twistgauge/measurement/Quantity"), (.object "com/example/twistgauge/twistgauge/measurement/Quantity"), (.object "com/example/twistgauge/twistgauge/measurement/Quantity"), (.object "com/example/twistgauge/twistgauge/measurement/Quantity"), (.object "com/example/twistgauge/twistgauge/measurement/Quantity"), (.object "com/example/twistgauge/twistgauge/measurement/Quantity"), (.object "com/example/twistgauge/twistgauge/measurement/Quantity"), (.object "com/example/twistgauge/twistgauge/measurement/Quantity"), (.object "com/example/twistgauge/twistgauge/measurement/Quantity"), (.object "com/example/twistgauge/twistgauge/measurement/Quantity"), (.object "com/example/twistgauge/twistgauge/measurement/Quantity"), (.object "com/example/twistgauge/twistgauge/measurement/Quantity"), (.object "com/example/twistgauge/twistgauge/measurement/Quantity"), (.object "com/example/twistgauge/twistgauge/measurement/Quantity"), (.object "com/example/twistgauge/twistgauge/measurement/Quantity"), (.object "com/example/twistgauge/twistgauge/measurement/Quantity"), (.object "com/example/twistgauge/twistgauge/measurement/Quantity"), (.object "com/example/twistgauge/twistgauge/measurement/Quantity"), (.object "com/example/twistgauge/twistgauge/measurement/Quantity"), (.object "com/example/twistgauge/twistgauge/measurement/Quantity"), (.object "com/example/twistgauge/twistgauge/measurement/Quantity"), (.object "com/example/twistgauge/twistgauge/measurement/Quantity"), (.array (.object "com/example/twistgauge/twistgauge/measurement/Quantity"))]
  resolved := Array.replicate 252 none
  statics := some 0 }

def pool10 : Array CpInfo := pool [(1, .class_ 2), (0, u "com/example/twistgauge/twistgauge/measurement/End"), (2, u "THROUGH"), (0, u "Lcom/example/twistgauge/twistgauge/measurement/End;"), (2, u "NEAR"), (2, u "FAR"), (2, u "$VALUES"), (0, u "[Lcom/example/twistgauge/twistgauge/measurement/End;"), (6, .class_ 25), (1, u "java/lang/Enum"), (8, u "identifier"), (0, u "Ljava/lang/String;")] 51

/-- com/example/twistgauge/twistgauge/measurement/End -/
def k10 : Class := { plain "com/example/twistgauge/twistgauge/measurement/End" (some 8) with
  accessFlags := 16433
  interfaces := #[]
  cf := some (fileOf pool10 1 #[] #[] 16433 23 #[] #[{ accessFlags := 16409, nameIndex := 5, descriptorIndex := 6, attributes := #[] }, { accessFlags := 16409, nameIndex := 9, descriptorIndex := 6, attributes := #[] }, { accessFlags := 16409, nameIndex := 12, descriptorIndex := 6, attributes := #[] }, { accessFlags := 18, nameIndex := 34, descriptorIndex := 35, attributes := #[] }, { accessFlags := 4122, nameIndex := 15, descriptorIndex := 16, attributes := #[] }])
  fields := #[{ name := "THROUGH", type := (.object "com/example/twistgauge/twistgauge/measurement/End"), accessFlags := 16409, slot := 0, constantValue := 0 }, { name := "NEAR", type := (.object "com/example/twistgauge/twistgauge/measurement/End"), accessFlags := 16409, slot := 1, constantValue := 0 }, { name := "FAR", type := (.object "com/example/twistgauge/twistgauge/measurement/End"), accessFlags := 16409, slot := 2, constantValue := 0 }, { name := "identifier", type := (.object "java/lang/String"), accessFlags := 18, slot := 3, constantValue := 0 }, { name := "$VALUES", type := (.array (.object "com/example/twistgauge/twistgauge/measurement/End")), accessFlags := 4122, slot := 3, constantValue := 0 }]
  methods := #[]
  instanceTypes := #[(.object "java/lang/String"), .int, .int, (.object "java/lang/String")]
  staticTypes := #[(.object "com/example/twistgauge/twistgauge/measurement/End"), (.object "com/example/twistgauge/twistgauge/measurement/End"), (.object "com/example/twistgauge/twistgauge/measurement/End"), (.array (.object "com/example/twistgauge/twistgauge/measurement/End"))]
  resolved := Array.replicate 87 none
  statics := some 1 }

def pool11 : Array CpInfo := pool [(1, .class_ 2), (0, u "com/example/twistgauge/twistgauge/measurement/Quantity$Others"), (2, u "NONE"), (0, u "Lcom/example/twistgauge/twistgauge/measurement/Quantity$Others;"), (2, u "COMBINATION"), (2, u "POWER_SUM"), (2, u "DISTURBER"), (2, u "CONDUCTOR"), (2, u "ACROSS"), (2, u "$VALUES"), (0, u "[Lcom/example/twistgauge/twistgauge/measurement/Quantity$Others;"), (6, .class_ 34), (1, u "java/lang/Enum"), (29, .class_ 65), (0, u "com/example/twistgauge/twistgauge/measurement/Quantity")] 2

/-- com/example/twistgauge/twistgauge/measurement/Quantity$Others -/
def k11 : Class := { plain "com/example/twistgauge/twistgauge/measurement/Quantity$Others" (some 8) with
  accessFlags := 16432
  interfaces := #[]
  cf := some (fileOf pool11 1 #[.nestHost 64] #[] 16432 32 #[] #[{ accessFlags := 16409, nameIndex := 5, descriptorIndex := 6, attributes := #[] }, { accessFlags := 16409, nameIndex := 9, descriptorIndex := 6, attributes := #[] }, { accessFlags := 16409, nameIndex := 12, descriptorIndex := 6, attributes := #[] }, { accessFlags := 16409, nameIndex := 15, descriptorIndex := 6, attributes := #[] }, { accessFlags := 16409, nameIndex := 18, descriptorIndex := 6, attributes := #[] }, { accessFlags := 16409, nameIndex := 21, descriptorIndex := 6, attributes := #[] }, { accessFlags := 4122, nameIndex := 24, descriptorIndex := 25, attributes := #[] }])
  fields := #[{ name := "NONE", type := (.object "com/example/twistgauge/twistgauge/measurement/Quantity$Others"), accessFlags := 16409, slot := 0, constantValue := 0 }, { name := "COMBINATION", type := (.object "com/example/twistgauge/twistgauge/measurement/Quantity$Others"), accessFlags := 16409, slot := 1, constantValue := 0 }, { name := "POWER_SUM", type := (.object "com/example/twistgauge/twistgauge/measurement/Quantity$Others"), accessFlags := 16409, slot := 2, constantValue := 0 }, { name := "DISTURBER", type := (.object "com/example/twistgauge/twistgauge/measurement/Quantity$Others"), accessFlags := 16409, slot := 3, constantValue := 0 }, { name := "CONDUCTOR", type := (.object "com/example/twistgauge/twistgauge/measurement/Quantity$Others"), accessFlags := 16409, slot := 4, constantValue := 0 }, { name := "ACROSS", type := (.object "com/example/twistgauge/twistgauge/measurement/Quantity$Others"), accessFlags := 16409, slot := 5, constantValue := 0 }, { name := "$VALUES", type := (.array (.object "com/example/twistgauge/twistgauge/measurement/Quantity$Others")), accessFlags := 4122, slot := 6, constantValue := 0 }]
  methods := #[]
  instanceTypes := #[(.object "java/lang/String"), .int, .int]
  staticTypes := #[(.object "com/example/twistgauge/twistgauge/measurement/Quantity$Others"), (.object "com/example/twistgauge/twistgauge/measurement/Quantity$Others"), (.object "com/example/twistgauge/twistgauge/measurement/Quantity$Others"), (.object "com/example/twistgauge/twistgauge/measurement/Quantity$Others"), (.object "com/example/twistgauge/twistgauge/measurement/Quantity$Others"), (.object "com/example/twistgauge/twistgauge/measurement/Quantity$Others"), (.array (.object "com/example/twistgauge/twistgauge/measurement/Quantity$Others"))]
  resolved := Array.replicate 68 none
  statics := some 2 }

def pool12 : Array CpInfo := pool [(8, .class_ 10), (1, u "com/example/twistgauge/twistgauge/measurement/SeriesKey$1"), (0, u "$SwitchMap$com$example$twistgauge$twistgauge$measurement$Quantity$Others"), (0, u "[I"), (25, .class_ 39), (0, u "java/lang/Object"), (8, .class_ 49), (0, u "com/example/twistgauge/twistgauge/measurement/SeriesKey")] 5

/-- com/example/twistgauge/twistgauge/measurement/SeriesKey$1 -/
def k12 : Class := { plain "com/example/twistgauge/twistgauge/measurement/SeriesKey$1" (some 0) with
  accessFlags := 4128
  interfaces := #[]
  cf := some (fileOf pool12 8 #[.nestHost 48] #[] 4128 38 #[] #[{ accessFlags := 4120, nameIndex := 11, descriptorIndex := 12, attributes := #[] }])
  fields := #[{ name := "$SwitchMap$com$example$twistgauge$twistgauge$measurement$Quantity$Others", type := (.array .int), accessFlags := 4120, slot := 0, constantValue := 0 }]
  methods := #[]
  instanceTypes := #[]
  staticTypes := #[(.array .int)]
  resolved := Array.replicate 55 none
  statics := some 3 }

def pool13 : Array CpInfo := pool [(1, .methodref 2 3), (0, .class_ 4), (0, .nameAndType 5 6), (0, u "java/lang/Object"), (0, u "<init>"), (0, u "()V"), (1, .class_ 10), (1, u "java/lang/Number"), (2, .class_ 14), (0, u "java/io/Serializable"), (0, u "serialVersionUID"), (0, u "J")] 20

def k13c0 : Code := { maxStack := 1, maxLocals := 1, code := jdk_18_method_1_code, exceptionTable := #[], attributes := #[] }
def k13m0 : Method := { name := "<init>", desc := "()V", sig := { parameters := [], returnType := none }, accessFlags := 1, code := some k13c0 }
/-- java/lang/Number -/
def k13 : Class := { plain "java/lang/Number" (some 0) with
  accessFlags := 1057
  interfaces := #[7]
  cf := some (fileOf pool13 8 #[] #[{ accessFlags := 1, nameIndex := 5, descriptorIndex := 6, attributes := #[] }] 1057 2 #[13] #[{ accessFlags := 26, nameIndex := 15, descriptorIndex := 16, attributes := #[] }])
  fields := #[{ name := "serialVersionUID", type := .long, accessFlags := 26, slot := 0, constantValue := 0 }]
  methods := #[k13m0]
  instanceTypes := #[]
  staticTypes := #[.long]
  resolved := Array.replicate 37 none
  statics := none }

def pool14 : Array CpInfo := pool [(1, .class_ 2), (0, u "java/lang/constant/ConstantDesc"), (0, .class_ 4), (0, u "java/lang/Object")] 32

/-- java/lang/constant/ConstantDesc -/
def k14 : Class := { plain "java/lang/constant/ConstantDesc" (some 0) with
  accessFlags := 1537
  interfaces := #[]
  cf := some (fileOf pool14 1 #[] #[] 1537 3 #[] #[])
  fields := #[]
  methods := #[]
  instanceTypes := #[]
  staticTypes := #[]
  resolved := Array.replicate 37 none
  statics := none }

def pool15 : Array CpInfo := pool [(1, .class_ 2), (0, u "java/lang/Integer"), (16, u "digits"), (0, u "[C"), (46, u "<init>"), (17, u "DigitOnes"), (0, u "[B"), (2, u "DigitTens"), (10, .nameAndType 67 101), (0, u "()V"), (85, u "valueOf"), (0, u "(I)Ljava/lang/Integer;"), (0, .class_ 190), (0, u "java/lang/Integer$IntegerCache"), (0, .fieldref 189 192), (0, .nameAndType 193 194), (0, u "high"), (0, u "I"), (0, .fieldref 189 196), (0, .nameAndType 197 198), (0, u "cache"), (0, u "[Ljava/lang/Integer;"), (0, .methodref 1 200), (0, .nameAndType 67 201), (0, u "(I)V"), (0, .methodref 203 100), (0, .class_ 204), (0, u "java/lang/Number"), (0, .fieldref 1 206), (0, .nameAndType 207 194), (0, u "value"), (94, u "TYPE"), (0, u "Ljava/lang/Class;"), (0, .class_ 305), (0, u "java/lang/Comparable"), (0, .class_ 307), (0, u "java/lang/constant/Constable"), (0, .class_ 309), (0, u "java/lang/constant/ConstantDesc"), (0, u "MIN_VALUE"), (1, u "MAX_VALUE"), (3, u "SIZE"), (1, u "BYTES"), (1, u "serialVersionUID"), (0, u "J")] 131

def k15c0 : Code := { maxStack := 3, maxLocals := 1, code := jdk_33_method_22_code, exceptionTable := #[], attributes := #[] }
def k15m0 : Method := { name := "valueOf", desc := "(I)Ljava/lang/Integer;", sig := { parameters := [.int], returnType := some (.object "java/lang/Integer") }, accessFlags := 9, code := some k15c0 }
def k15c1 : Code := { maxStack := 2, maxLocals := 2, code := jdk_33_method_23_code, exceptionTable := #[], attributes := #[] }
def k15m1 : Method := { name := "<init>", desc := "(I)V", sig := { parameters := [.int], returnType := none }, accessFlags := 1, code := some k15c1 }
/-- java/lang/Integer -/
def k15 : Class := { plain "java/lang/Integer" (some 13) with
  accessFlags := 49
  interfaces := #[4, 6, 14]
  cf := some (fileOf pool15 1 #[.nestMembers #[189]] #[{ accessFlags := 9, nameIndex := 187, descriptorIndex := 188, attributes := #[] }, { accessFlags := 1, nameIndex := 67, descriptorIndex := 201, attributes := #[] }] 49 203 #[304, 306, 308] #[{ accessFlags := 25, nameIndex := 310, descriptorIndex := 194, attributes := #[] }, { accessFlags := 25, nameIndex := 312, descriptorIndex := 194, attributes := #[] }, { accessFlags := 25, nameIndex := 302, descriptorIndex := 303, attributes := #[] }, { accessFlags := 24, nameIndex := 19, descriptorIndex := 20, attributes := #[] }, { accessFlags := 24, nameIndex := 89, descriptorIndex := 86, attributes := #[] }, { accessFlags := 24, nameIndex := 85, descriptorIndex := 86, attributes := #[] }, { accessFlags := 18, nameIndex := 207, descriptorIndex := 194, attributes := #[] }, { accessFlags := 25, nameIndex := 316, descriptorIndex := 194, attributes := #[] }, { accessFlags := 25, nameIndex := 318, descriptorIndex := 194, attributes := #[] }, { accessFlags := 26, nameIndex := 320, descriptorIndex := 321, attributes := #[] }])
  fields := #[{ name := "MIN_VALUE", type := .int, accessFlags := 25, slot := 0, constantValue := 0 }, { name := "MAX_VALUE", type := .int, accessFlags := 25, slot := 1, constantValue := 0 }, { name := "TYPE", type := (.object "java/lang/Class"), accessFlags := 25, slot := 2, constantValue := 0 }, { name := "digits", type := (.array .char), accessFlags := 24, slot := 3, constantValue := 0 }, { name := "DigitTens", type := (.array .byte), accessFlags := 24, slot := 4, constantValue := 0 }, { name := "DigitOnes", type := (.array .byte), accessFlags := 24, slot := 5, constantValue := 0 }, { name := "value", type := .int, accessFlags := 18, slot := 0, constantValue := 0 }, { name := "SIZE", type := .int, accessFlags := 25, slot := 6, constantValue := 0 }, { name := "BYTES", type := .int, accessFlags := 25, slot := 7, constantValue := 0 }, { name := "serialVersionUID", type := .long, accessFlags := 26, slot := 8, constantValue := 0 }]
  methods := #[k15m0, k15m1]
  instanceTypes := #[.int]
  staticTypes := #[.int, .int, (.object "java/lang/Class"), (.array .char), (.array .byte), (.array .byte), .int, .int, .long]
  resolved := Array.replicate 453 none
  statics := none }

def pool16 : Array CpInfo := pool [(2, .class_ 4), (1, u "java/lang/Object"), (0, u "<init>"), (0, u "()V"), (0, .class_ 8), (0, u "java/lang/Integer"), (7, .class_ 18), (1, u "java/lang/Integer$IntegerCache"), (0, u "$assertionsDisabled"), (0, u "Z"), (26, u "high"), (0, u "I"), (8, u "archivedCache"), (0, u "[Ljava/lang/Integer;"), (12, u "cache"), (0, u "low")] 27

def k16m0 : Method := { name := "<init>", desc := "()V", sig := { parameters := [], returnType := none }, accessFlags := 2, code := none }
/-- java/lang/Integer$IntegerCache -/
def k16 : Class := { plain "java/lang/Integer$IntegerCache" (some 0) with
  accessFlags := 48
  interfaces := #[]
  cf := some (fileOf pool16 16 #[.nestHost 7] #[{ accessFlags := 2, nameIndex := 5, descriptorIndex := 6, attributes := #[] }] 48 2 #[] #[{ accessFlags := 24, nameIndex := 72, descriptorIndex := 48, attributes := #[] }, { accessFlags := 24, nameIndex := 47, descriptorIndex := 48, attributes := #[] }, { accessFlags := 24, nameIndex := 71, descriptorIndex := 58, attributes := #[] }, { accessFlags := 8, nameIndex := 57, descriptorIndex := 58, attributes := #[] }, { accessFlags := 4120, nameIndex := 19, descriptorIndex := 20, attributes := #[] }])
  fields := #[{ name := "low", type := .int, accessFlags := 24, slot := 0, constantValue := 0 }, { name := "high", type := .int, accessFlags := 24, slot := 1, constantValue := 0 }, { name := "cache", type := (.array (.object "java/lang/Integer")), accessFlags := 24, slot := 2, constantValue := 0 }, { name := "archivedCache", type := (.array (.object "java/lang/Integer")), accessFlags := 8, slot := 3, constantValue := 0 }, { name := "$assertionsDisabled", type := .boolean, accessFlags := 4120, slot := 4, constantValue := 0 }]
  methods := #[k16m0]
  instanceTypes := #[]
  staticTypes := #[.int, .int, (.array (.object "java/lang/Integer")), (.array (.object "java/lang/Integer")), .boolean]
  resolved := Array.replicate 100 none
  statics := some 4 }

def pool17 : Array CpInfo := pool [(1, .class_ 2), (0, u "com/example/twistgauge/twistgauge/measurement/Conductor"), (2, u "A"), (0, u "Lcom/example/twistgauge/twistgauge/measurement/Conductor;"), (2, u "B"), (0, .fieldref 1 11), (0, .nameAndType 12 13), (0, u "$VALUES"), (0, u "[Lcom/example/twistgauge/twistgauge/measurement/Conductor;"), (0, .methodref 15 16), (0, .class_ 13), (0, .nameAndType 17 18), (0, u "clone"), (0, u "()Ljava/lang/Object;"), (1, .class_ 22), (1, u "java/lang/Enum"), (8, u "identifier"), (0, u "Ljava/lang/String;"), (0, .methodref 1 34), (0, .nameAndType 35 36), (0, u "ordinal"), (0, u "()I"), (0, .methodref 1 38), (0, .nameAndType 39 40), (0, u "values"), (0, u "()[Lcom/example/twistgauge/twistgauge/measurement/Conductor;"), (6, .methodref 48 49), (0, .class_ 50), (0, .nameAndType 51 52), (0, u "java/util/Optional"), (0, u "of"), (0, u "(Ljava/lang/Object;)Ljava/util/Optional;"), (4, .methodref 1 58), (0, .nameAndType 59 36), (0, u "number"), (23, u "(I)Ljava/util/Optional;")] 6

def k17c0 : Code := { maxStack := 1, maxLocals := 0, code := prog_39_method_1_code, exceptionTable := #[], attributes := #[] }
def k17m0 : Method := { name := "values", desc := "()[Lcom/example/twistgauge/twistgauge/measurement/Conductor;", sig := { parameters := [], returnType := some (.array (.object "com/example/twistgauge/twistgauge/measurement/Conductor")) }, accessFlags := 9, code := some k17c0 }
def k17c1 : Code := { maxStack := 2, maxLocals := 1, code := prog_39_method_5_code, exceptionTable := #[], attributes := #[] }
def k17m1 : Method := { name := "number", desc := "()I", sig := { parameters := [], returnType := some .int }, accessFlags := 1, code := some k17c1 }
def k17c2 : Code := { maxStack := 2, maxLocals := 5, code := prog_39_method_7_code, exceptionTable := #[], attributes := #[] }
def k17m2 : Method := { name := "of", desc := "(I)Ljava/util/Optional;", sig := { parameters := [.int], returnType := some (.object "java/util/Optional") }, accessFlags := 9, code := some k17c2 }
/-- com/example/twistgauge/twistgauge/measurement/Conductor -/
def k17 : Class := { plain "com/example/twistgauge/twistgauge/measurement/Conductor" (some 8) with
  accessFlags := 16433
  interfaces := #[]
  cf := some (fileOf pool17 1 #[] #[{ accessFlags := 9, nameIndex := 39, descriptorIndex := 40, attributes := #[] }, { accessFlags := 1, nameIndex := 59, descriptorIndex := 36, attributes := #[] }, { accessFlags := 9, nameIndex := 51, descriptorIndex := 83, attributes := #[] }] 16433 20 #[] #[{ accessFlags := 16409, nameIndex := 5, descriptorIndex := 6, attributes := #[] }, { accessFlags := 16409, nameIndex := 9, descriptorIndex := 6, attributes := #[] }, { accessFlags := 18, nameIndex := 31, descriptorIndex := 32, attributes := #[] }, { accessFlags := 4122, nameIndex := 12, descriptorIndex := 13, attributes := #[] }])
  fields := #[{ name := "A", type := (.object "com/example/twistgauge/twistgauge/measurement/Conductor"), accessFlags := 16409, slot := 0, constantValue := 0 }, { name := "B", type := (.object "com/example/twistgauge/twistgauge/measurement/Conductor"), accessFlags := 16409, slot := 1, constantValue := 0 }, { name := "identifier", type := (.object "java/lang/String"), accessFlags := 18, slot := 3, constantValue := 0 }, { name := "$VALUES", type := (.array (.object "com/example/twistgauge/twistgauge/measurement/Conductor")), accessFlags := 4122, slot := 2, constantValue := 0 }]
  methods := #[k17m0, k17m1, k17m2]
  instanceTypes := #[(.object "java/lang/String"), .int, .int, (.object "java/lang/String")]
  staticTypes := #[(.object "com/example/twistgauge/twistgauge/measurement/Conductor"), (.object "com/example/twistgauge/twistgauge/measurement/Conductor"), (.array (.object "com/example/twistgauge/twistgauge/measurement/Conductor"))]
  resolved := Array.replicate 90 none
  statics := some 5 }

def pool18 : Array CpInfo := pool [(1, .class_ 2), (0, u "java/lang/Cloneable"), (0, .class_ 4), (0, u "java/lang/Object")] 2

/-- java/lang/Cloneable -/
def k18 : Class := { plain "java/lang/Cloneable" (some 0) with
  accessFlags := 1537
  interfaces := #[]
  cf := some (fileOf pool18 1 #[] #[] 1537 3 #[] #[])
  fields := #[]
  methods := #[]
  instanceTypes := #[]
  staticTypes := #[]
  resolved := Array.replicate 7 none
  statics := none }

def pool19 : Array CpInfo := pool [(2, .class_ 4), (1, u "java/util/Optional"), (0, u "EMPTY"), (0, u "Ljava/util/Optional;"), (0, .methodref 8 9), (0, .class_ 10), (0, .nameAndType 11 12), (0, u "java/lang/Object"), (0, u "<init>"), (0, u "()V"), (0, .fieldref 2 14), (0, .nameAndType 15 16), (0, u "value"), (0, u "Ljava/lang/Object;"), (0, .methodref 18 19), (0, .class_ 20), (0, .nameAndType 21 22), (0, u "java/util/Objects"), (0, u "requireNonNull"), (0, u "(Ljava/lang/Object;)Ljava/lang/Object;"), (0, .methodref 2 24), (0, .nameAndType 11 25), (0, u "(Ljava/lang/Object;)V"), (19, u "isEmpty"), (0, u "()Z"), (18, u "(Ljava/lang/Object;)Ljava/util/Optional;"), (16, u "of")] 104

def k19c0 : Code := { maxStack := 2, maxLocals := 2, code := jdk_32_method_2_code, exceptionTable := #[], attributes := #[] }
def k19m0 : Method := { name := "<init>", desc := "(Ljava/lang/Object;)V", sig := { parameters := [(.object "java/lang/Object")], returnType := none }, accessFlags := 2, code := some k19c0 }
def k19c1 : Code := { maxStack := 3, maxLocals := 1, code := jdk_32_method_3_code, exceptionTable := #[], attributes := #[] }
def k19m1 : Method := { name := "of", desc := "(Ljava/lang/Object;)Ljava/util/Optional;", sig := { parameters := [(.object "java/lang/Object")], returnType := some (.object "java/util/Optional") }, accessFlags := 9, code := some k19c1 }
def k19c2 : Code := { maxStack := 1, maxLocals := 1, code := jdk_32_method_7_code, exceptionTable := #[], attributes := #[] }
def k19m2 : Method := { name := "isEmpty", desc := "()Z", sig := { parameters := [], returnType := some .boolean }, accessFlags := 1, code := some k19c2 }
/-- java/util/Optional -/
def k19 : Class := { plain "java/util/Optional" (some 0) with
  accessFlags := 49
  interfaces := #[]
  cf := some (fileOf pool19 2 #[] #[{ accessFlags := 2, nameIndex := 11, descriptorIndex := 25, attributes := #[] }, { accessFlags := 9, nameIndex := 82, descriptorIndex := 65, attributes := #[] }, { accessFlags := 1, nameIndex := 45, descriptorIndex := 46, attributes := #[] }] 49 8 #[] #[{ accessFlags := 26, nameIndex := 5, descriptorIndex := 6, attributes := #[] }, { accessFlags := 18, nameIndex := 15, descriptorIndex := 16, attributes := #[] }])
  fields := #[{ name := "EMPTY", type := (.object "java/util/Optional"), accessFlags := 26, slot := 0, constantValue := 0 }, { name := "value", type := (.object "java/lang/Object"), accessFlags := 18, slot := 0, constantValue := 0 }]
  methods := #[k19m0, k19m1, k19m2]
  instanceTypes := #[(.object "java/lang/Object")]
  staticTypes := #[(.object "java/util/Optional")]
  resolved := Array.replicate 187 none
  statics := none }

def pool20 : Array CpInfo := pool [(2, .class_ 4), (1, u "java/lang/Object"), (0, u "<init>"), (0, u "()V"), (35, .class_ 44), (1, u "java/util/Objects"), (0, u "requireNonNull"), (0, u "(Ljava/lang/Object;)Ljava/lang/Object;")] 137

def k20m0 : Method := { name := "<init>", desc := "()V", sig := { parameters := [], returnType := none }, accessFlags := 2, code := none }
def k20c1 : Code := { maxStack := 2, maxLocals := 1, code := jdk_31_method_10_code, exceptionTable := #[], attributes := #[] }
def k20m1 : Method := { name := "requireNonNull", desc := "(Ljava/lang/Object;)Ljava/lang/Object;", sig := { parameters := [(.object "java/lang/Object")], returnType := some (.object "java/lang/Object") }, accessFlags := 9, code := some k20c1 }
/-- java/util/Objects -/
def k20 : Class := { plain "java/util/Objects" (some 0) with
  accessFlags := 49
  interfaces := #[]
  cf := some (fileOf pool20 42 #[] #[{ accessFlags := 2, nameIndex := 5, descriptorIndex := 6, attributes := #[] }, { accessFlags := 9, nameIndex := 45, descriptorIndex := 46, attributes := #[] }] 49 2 #[] #[])
  fields := #[]
  methods := #[k20m0, k20m1]
  instanceTypes := #[]
  staticTypes := #[]
  resolved := Array.replicate 184 none
  statics := none }

def pool21 : Array CpInfo := pool [(2, .class_ 4), (1, u "java/lang/CharSequence"), (42, .class_ 48), (0, u "java/lang/CharSequence$1CodePointIterator"), (10, .class_ 60), (0, u "java/lang/CharSequence$1CharIterator"), (5, .class_ 67), (0, u "java/lang/Object")] 63

/-- java/lang/CharSequence -/
def k21 : Class := { plain "java/lang/CharSequence" (some 0) with
  accessFlags := 1537
  interfaces := #[]
  cf := some (fileOf pool21 2 #[.nestMembers #[47, 59]] #[] 1537 66 #[] #[])
  fields := #[]
  methods := #[]
  instanceTypes := #[]
  staticTypes := #[]
  resolved := Array.replicate 131 none
  statics := none }

def pool22 : Array CpInfo := pool [(2, .class_ 4), (1, u "java/lang/Object"), (0, u "<init>"), (0, u "()V"), (3, .class_ 12), (1, u "java/lang/String"), (0, u "value"), (0, u "[B"), (2, u "coder"), (0, u "B"), (2, u "hash"), (0, u "I"), (2, u "hashIsZero"), (0, u "Z"), (13, u "COMPACT_STRINGS"), (534, .class_ 576), (0, u "java/lang/CharSequence"), (22, u "CASE_INSENSITIVE_ORDER"), (0, u "Ljava/util/Comparator;"), (500, u "serialPersistentFields"), (0, u "[Ljava/io/ObjectStreamField;"), (0, .class_ 1104), (0, u "java/lang/String$CaseInsensitiveComparator"), (1, .class_ 1107), (0, u "java/io/Serializable"), (0, .class_ 1109), (0, u "java/lang/Comparable"), (0, .class_ 1111), (0, u "java/lang/constant/Constable"), (0, .class_ 1113), (0, u "java/lang/constant/ConstantDesc"), (2, u "serialVersionUID"), (0, u "J"), (3, u "REPL"), (0, u "C"), (2, u "LATIN1"), (1, u "UTF16")] 323

def k22m0 : Method := { name := "<init>", desc := "()V", sig := { parameters := [], returnType := none }, accessFlags := 1, code := none }
/-- java/lang/String -/
def k22 : Class := { plain "java/lang/String" (some 0) with
  accessFlags := 49
  interfaces := #[7, 4, 21, 6, 14]
  cf := some (fileOf pool22 10 #[.nestMembers #[1103]] #[{ accessFlags := 1, nameIndex := 5, descriptorIndex := 6, attributes := #[] }] 49 2 #[1106, 1108, 575, 1110, 1112] #[{ accessFlags := 18, nameIndex := 13, descriptorIndex := 14, attributes := #[] }, { accessFlags := 18, nameIndex := 17, descriptorIndex := 18, attributes := #[] }, { accessFlags := 2, nameIndex := 21, descriptorIndex := 22, attributes := #[] }, { accessFlags := 2, nameIndex := 25, descriptorIndex := 26, attributes := #[] }, { accessFlags := 26, nameIndex := 1116, descriptorIndex := 1117, attributes := #[] }, { accessFlags := 24, nameIndex := 40, descriptorIndex := 26, attributes := #[] }, { accessFlags := 26, nameIndex := 1101, descriptorIndex := 1102, attributes := #[] }, { accessFlags := 26, nameIndex := 1121, descriptorIndex := 1122, attributes := #[] }, { accessFlags := 25, nameIndex := 599, descriptorIndex := 600, attributes := #[] }, { accessFlags := 24, nameIndex := 1125, descriptorIndex := 18, attributes := #[] }, { accessFlags := 24, nameIndex := 1127, descriptorIndex := 18, attributes := #[] }])
  fields := #[{ name := "value", type := (.array .byte), accessFlags := 18, slot := 0, constantValue := 0 }, { name := "coder", type := .byte, accessFlags := 18, slot := 1, constantValue := 0 }, { name := "hash", type := .int, accessFlags := 2, slot := 2, constantValue := 0 }, { name := "hashIsZero", type := .boolean, accessFlags := 2, slot := 3, constantValue := 0 }, { name := "serialVersionUID", type := .long, accessFlags := 26, slot := 0, constantValue := 0 }, { name := "COMPACT_STRINGS", type := .boolean, accessFlags := 24, slot := 1, constantValue := 0 }, { name := "serialPersistentFields", type := (.array (.object "java/io/ObjectStreamField")), accessFlags := 26, slot := 2, constantValue := 0 }, { name := "REPL", type := .char, accessFlags := 26, slot := 3, constantValue := 0 }, { name := "CASE_INSENSITIVE_ORDER", type := (.object "java/util/Comparator"), accessFlags := 25, slot := 4, constantValue := 0 }, { name := "LATIN1", type := .byte, accessFlags := 24, slot := 5, constantValue := 0 }, { name := "UTF16", type := .byte, accessFlags := 24, slot := 6, constantValue := 0 }]
  methods := #[k22m0]
  instanceTypes := #[(.array .byte), .byte, .int, .boolean]
  staticTypes := #[.long, .boolean, (.array (.object "java/io/ObjectStreamField")), .char, (.object "java/util/Comparator"), .byte, .byte]
  resolved := Array.replicate 1451 none
  statics := none }

/-- the primitive byte -/
def k23 : Class := { plain "byte" none with kind := .primitive 'B', accessFlags := 0x411 }
/-- [B -/
def k24 : Class := { plain "[B" (some 0) with kind := .array 23 .byte, interfaces := #[18, 7], accessFlags := 1041 }

/-- the primitive int -/
def k25 : Class := { plain "int" none with kind := .primitive 'I', accessFlags := 0x411 }
/-- [I -/
def k26 : Class := { plain "[I" (some 0) with kind := .array 25 .int, interfaces := #[18, 7], accessFlags := 1041 }

/-- [Lcom/example/twistgauge/twistgauge/measurement/Conductor; -/
def k27 : Class := { plain "[Lcom/example/twistgauge/twistgauge/measurement/Conductor;" (some 0) with kind := .array 17 (.object "com/example/twistgauge/twistgauge/measurement/Conductor"), interfaces := #[18, 7], accessFlags := 1041 }

/-- [Ljava/lang/Integer; -/
def k28 : Class := { plain "[Ljava/lang/Integer;" (some 0) with kind := .array 15 (.object "java/lang/Integer"), interfaces := #[18, 7], accessFlags := 1041 }

def heap : Heap := #[{ cls := 9, slots := #[.ref 15, .ref 16, .ref 17, .ref 18, .ref 22, .null, .null, .null, .ref 21, .null, .null, .ref 20, .ref 19, .null, .null, .null, .null, .null, .null, .null, .null, .null, .null], vm := .statics 9 },
  { cls := 10, slots := #[.ref 23, .ref 24, .ref 25, .null], vm := .statics 10 },
  { cls := 11, slots := #[.ref 9, .ref 10, .ref 11, .ref 12, .ref 13, .ref 14, .null], vm := .statics 11 },
  { cls := 12, slots := #[.ref 28], vm := .statics 12 },
  { cls := 16, slots := #[.int 0, .int 127, .ref 7, .null, .int 0], vm := .statics 16 },
  { cls := 17, slots := #[.ref 26, .ref 27, .ref 6], vm := .statics 17 },
  { cls := 27, slots := #[.ref 26, .ref 27], vm := .none },
  { cls := 28, slots := #[.ref 29, .ref 30, .ref 31, .ref 32, .ref 33, .ref 34, .ref 35, .ref 36, .ref 37, .ref 38, .ref 39, .ref 40, .ref 41, .ref 42, .ref 43, .ref 44, .ref 45, .ref 46, .ref 47, .ref 48, .ref 49, .ref 50, .ref 51, .ref 52, .ref 53, .ref 54, .ref 55, .ref 56, .ref 57, .ref 58, .ref 59, .ref 60, .ref 61, .ref 62, .ref 63, .ref 64, .ref 65, .ref 66, .ref 67, .ref 68, .ref 69, .ref 70, .ref 71, .ref 72, .ref 73, .ref 74, .ref 75, .ref 76, .ref 77, .ref 78, .ref 79, .ref 80, .ref 81, .ref 82, .ref 83, .ref 84, .ref 85, .ref 86, .ref 87, .ref 88, .ref 89, .ref 90, .ref 91, .ref 92, .ref 93, .ref 94, .ref 95, .ref 96, .ref 97, .ref 98, .ref 99, .ref 100, .ref 101, .ref 102, .ref 103, .ref 104, .ref 105, .ref 106, .ref 107, .ref 108, .ref 109, .ref 110, .ref 111, .ref 112, .ref 113, .ref 114, .ref 115, .ref 116, .ref 117, .ref 118, .ref 119, .ref 120, .ref 121, .ref 122, .ref 123, .ref 124, .ref 125, .ref 126, .ref 127, .ref 128, .ref 129, .ref 130, .ref 131, .ref 132, .ref 133, .ref 134, .ref 135, .ref 136, .ref 137, .ref 138, .ref 139, .ref 140, .ref 141, .ref 142, .ref 143, .ref 144, .ref 145, .ref 146, .ref 147, .ref 148, .ref 149, .ref 150, .ref 151, .ref 152, .ref 153, .ref 154, .ref 155, .ref 156, .ref 157, .ref 158, .ref 159, .ref 160, .ref 161, .ref 162, .ref 163, .ref 164, .ref 165, .ref 166, .ref 167, .ref 168, .ref 169, .ref 170, .ref 171, .ref 172, .ref 173, .ref 174, .ref 175, .ref 176, .ref 177, .ref 178, .ref 179, .ref 180, .ref 181, .ref 182, .ref 183, .ref 184, .ref 185, .ref 186, .ref 187, .ref 188, .ref 189, .ref 190, .ref 191, .ref 192, .ref 193, .ref 194, .ref 195, .ref 196, .ref 197, .ref 198, .ref 199, .ref 200, .ref 201, .ref 202, .ref 203, .ref 204, .ref 205, .ref 206, .ref 207, .ref 208, .ref 209, .ref 210, .ref 211, .ref 212, .ref 213, .ref 214, .ref 215, .ref 216, .ref 217, .ref 218, .ref 219, .ref 220, .ref 221, .ref 222, .ref 223, .ref 224, .ref 225, .ref 226, .ref 227, .ref 228, .ref 229, .ref 230, .ref 231, .ref 232, .ref 233, .ref 234, .ref 235, .ref 236, .ref 237, .ref 238, .ref 239, .ref 240, .ref 241, .ref 242, .ref 243, .ref 244, .ref 245, .ref 246, .ref 247, .ref 248, .ref 249, .ref 250, .ref 251, .ref 252, .ref 253, .ref 254, .ref 255, .ref 256, .ref 257, .ref 258, .ref 259, .ref 260, .ref 261, .ref 262, .ref 263, .ref 264, .ref 265, .ref 266, .ref 267, .ref 268, .ref 269, .ref 270, .ref 271, .ref 272, .ref 273, .ref 274, .ref 275, .ref 276, .ref 277, .ref 278, .ref 279, .ref 280, .ref 281, .ref 282, .ref 283, .ref 284], vm := .none },
  { cls := 22, slots := #[.null, .int 0, .int 0, .int 0], vm := .none },
  { cls := 11, slots := #[.null, .int 0, .int 0], vm := .none },
  { cls := 11, slots := #[.null, .int 1, .int 0], vm := .none },
  { cls := 11, slots := #[.null, .int 2, .int 0], vm := .none },
  { cls := 11, slots := #[.null, .int 3, .int 0], vm := .none },
  { cls := 11, slots := #[.null, .int 4, .int 0], vm := .none },
  { cls := 11, slots := #[.null, .int 5, .int 0], vm := .none },
  { cls := 9, slots := #[.null, .int 0, .int 0, .ref 8, .int 0, .ref 9, .int 0, .int 0, .int 0], vm := .none },
  { cls := 9, slots := #[.null, .int 1, .int 0, .ref 8, .int 1, .ref 10, .int 0, .int 0, .int 0], vm := .none },
  { cls := 9, slots := #[.null, .int 2, .int 0, .ref 8, .int 1, .ref 12, .int 0, .int 0, .int 0], vm := .none },
  { cls := 9, slots := #[.null, .int 3, .int 0, .ref 8, .int 1, .ref 11, .int 0, .int 0, .int 0], vm := .none },
  { cls := 9, slots := #[.null, .int 12, .int 0, .ref 8, .int 0, .ref 13, .int 0, .int 0, .int 0], vm := .none },
  { cls := 9, slots := #[.null, .int 11, .int 0, .ref 8, .int 0, .ref 14, .int 0, .int 0, .int 0], vm := .none },
  { cls := 9, slots := #[.null, .int 8, .int 0, .ref 8, .int 1, .ref 9, .int 0, .int 0, .int 0], vm := .none },
  { cls := 9, slots := #[.null, .int 4, .int 0, .ref 8, .int 1, .ref 12, .int 0, .int 0, .int 0], vm := .none },
  { cls := 10, slots := #[.null, .int 0, .int 0, .null], vm := .none },
  { cls := 10, slots := #[.null, .int 1, .int 0, .null], vm := .none },
  { cls := 10, slots := #[.null, .int 2, .int 0, .null], vm := .none },
  { cls := 17, slots := #[.null, .int 0, .int 0, .null], vm := .none },
  { cls := 17, slots := #[.null, .int 1, .int 0, .null], vm := .none },
  { cls := 26, slots := #[.int 2, .int 4, .int 3, .int 5, .int 6, .int 1], vm := .none },
  { cls := 15, slots := #[.int (-128)], vm := .none },
  { cls := 15, slots := #[.int (-127)], vm := .none },
  { cls := 15, slots := #[.int (-126)], vm := .none },
  { cls := 15, slots := #[.int (-125)], vm := .none },
  { cls := 15, slots := #[.int (-124)], vm := .none },
  { cls := 15, slots := #[.int (-123)], vm := .none },
  { cls := 15, slots := #[.int (-122)], vm := .none },
  { cls := 15, slots := #[.int (-121)], vm := .none },
  { cls := 15, slots := #[.int (-120)], vm := .none },
  { cls := 15, slots := #[.int (-119)], vm := .none },
  { cls := 15, slots := #[.int (-118)], vm := .none },
  { cls := 15, slots := #[.int (-117)], vm := .none },
  { cls := 15, slots := #[.int (-116)], vm := .none },
  { cls := 15, slots := #[.int (-115)], vm := .none },
  { cls := 15, slots := #[.int (-114)], vm := .none },
  { cls := 15, slots := #[.int (-113)], vm := .none },
  { cls := 15, slots := #[.int (-112)], vm := .none },
  { cls := 15, slots := #[.int (-111)], vm := .none },
  { cls := 15, slots := #[.int (-110)], vm := .none },
  { cls := 15, slots := #[.int (-109)], vm := .none },
  { cls := 15, slots := #[.int (-108)], vm := .none },
  { cls := 15, slots := #[.int (-107)], vm := .none },
  { cls := 15, slots := #[.int (-106)], vm := .none },
  { cls := 15, slots := #[.int (-105)], vm := .none },
  { cls := 15, slots := #[.int (-104)], vm := .none },
  { cls := 15, slots := #[.int (-103)], vm := .none },
  { cls := 15, slots := #[.int (-102)], vm := .none },
  { cls := 15, slots := #[.int (-101)], vm := .none },
  { cls := 15, slots := #[.int (-100)], vm := .none },
  { cls := 15, slots := #[.int (-99)], vm := .none },
  { cls := 15, slots := #[.int (-98)], vm := .none },
  { cls := 15, slots := #[.int (-97)], vm := .none },
  { cls := 15, slots := #[.int (-96)], vm := .none },
  { cls := 15, slots := #[.int (-95)], vm := .none },
  { cls := 15, slots := #[.int (-94)], vm := .none },
  { cls := 15, slots := #[.int (-93)], vm := .none },
  { cls := 15, slots := #[.int (-92)], vm := .none },
  { cls := 15, slots := #[.int (-91)], vm := .none },
  { cls := 15, slots := #[.int (-90)], vm := .none },
  { cls := 15, slots := #[.int (-89)], vm := .none },
  { cls := 15, slots := #[.int (-88)], vm := .none },
  { cls := 15, slots := #[.int (-87)], vm := .none },
  { cls := 15, slots := #[.int (-86)], vm := .none },
  { cls := 15, slots := #[.int (-85)], vm := .none },
  { cls := 15, slots := #[.int (-84)], vm := .none },
  { cls := 15, slots := #[.int (-83)], vm := .none },
  { cls := 15, slots := #[.int (-82)], vm := .none },
  { cls := 15, slots := #[.int (-81)], vm := .none },
  { cls := 15, slots := #[.int (-80)], vm := .none },
  { cls := 15, slots := #[.int (-79)], vm := .none },
  { cls := 15, slots := #[.int (-78)], vm := .none },
  { cls := 15, slots := #[.int (-77)], vm := .none },
  { cls := 15, slots := #[.int (-76)], vm := .none },
  { cls := 15, slots := #[.int (-75)], vm := .none },
  { cls := 15, slots := #[.int (-74)], vm := .none },
  { cls := 15, slots := #[.int (-73)], vm := .none },
  { cls := 15, slots := #[.int (-72)], vm := .none },
  { cls := 15, slots := #[.int (-71)], vm := .none },
  { cls := 15, slots := #[.int (-70)], vm := .none },
  { cls := 15, slots := #[.int (-69)], vm := .none },
  { cls := 15, slots := #[.int (-68)], vm := .none },
  { cls := 15, slots := #[.int (-67)], vm := .none },
  { cls := 15, slots := #[.int (-66)], vm := .none },
  { cls := 15, slots := #[.int (-65)], vm := .none },
  { cls := 15, slots := #[.int (-64)], vm := .none },
  { cls := 15, slots := #[.int (-63)], vm := .none },
  { cls := 15, slots := #[.int (-62)], vm := .none },
  { cls := 15, slots := #[.int (-61)], vm := .none },
  { cls := 15, slots := #[.int (-60)], vm := .none },
  { cls := 15, slots := #[.int (-59)], vm := .none },
  { cls := 15, slots := #[.int (-58)], vm := .none },
  { cls := 15, slots := #[.int (-57)], vm := .none },
  { cls := 15, slots := #[.int (-56)], vm := .none },
  { cls := 15, slots := #[.int (-55)], vm := .none },
  { cls := 15, slots := #[.int (-54)], vm := .none },
  { cls := 15, slots := #[.int (-53)], vm := .none },
  { cls := 15, slots := #[.int (-52)], vm := .none },
  { cls := 15, slots := #[.int (-51)], vm := .none },
  { cls := 15, slots := #[.int (-50)], vm := .none },
  { cls := 15, slots := #[.int (-49)], vm := .none },
  { cls := 15, slots := #[.int (-48)], vm := .none },
  { cls := 15, slots := #[.int (-47)], vm := .none },
  { cls := 15, slots := #[.int (-46)], vm := .none },
  { cls := 15, slots := #[.int (-45)], vm := .none },
  { cls := 15, slots := #[.int (-44)], vm := .none },
  { cls := 15, slots := #[.int (-43)], vm := .none },
  { cls := 15, slots := #[.int (-42)], vm := .none },
  { cls := 15, slots := #[.int (-41)], vm := .none },
  { cls := 15, slots := #[.int (-40)], vm := .none },
  { cls := 15, slots := #[.int (-39)], vm := .none },
  { cls := 15, slots := #[.int (-38)], vm := .none },
  { cls := 15, slots := #[.int (-37)], vm := .none },
  { cls := 15, slots := #[.int (-36)], vm := .none },
  { cls := 15, slots := #[.int (-35)], vm := .none },
  { cls := 15, slots := #[.int (-34)], vm := .none },
  { cls := 15, slots := #[.int (-33)], vm := .none },
  { cls := 15, slots := #[.int (-32)], vm := .none },
  { cls := 15, slots := #[.int (-31)], vm := .none },
  { cls := 15, slots := #[.int (-30)], vm := .none },
  { cls := 15, slots := #[.int (-29)], vm := .none },
  { cls := 15, slots := #[.int (-28)], vm := .none },
  { cls := 15, slots := #[.int (-27)], vm := .none },
  { cls := 15, slots := #[.int (-26)], vm := .none },
  { cls := 15, slots := #[.int (-25)], vm := .none },
  { cls := 15, slots := #[.int (-24)], vm := .none },
  { cls := 15, slots := #[.int (-23)], vm := .none },
  { cls := 15, slots := #[.int (-22)], vm := .none },
  { cls := 15, slots := #[.int (-21)], vm := .none },
  { cls := 15, slots := #[.int (-20)], vm := .none },
  { cls := 15, slots := #[.int (-19)], vm := .none },
  { cls := 15, slots := #[.int (-18)], vm := .none },
  { cls := 15, slots := #[.int (-17)], vm := .none },
  { cls := 15, slots := #[.int (-16)], vm := .none },
  { cls := 15, slots := #[.int (-15)], vm := .none },
  { cls := 15, slots := #[.int (-14)], vm := .none },
  { cls := 15, slots := #[.int (-13)], vm := .none },
  { cls := 15, slots := #[.int (-12)], vm := .none },
  { cls := 15, slots := #[.int (-11)], vm := .none },
  { cls := 15, slots := #[.int (-10)], vm := .none },
  { cls := 15, slots := #[.int (-9)], vm := .none },
  { cls := 15, slots := #[.int (-8)], vm := .none },
  { cls := 15, slots := #[.int (-7)], vm := .none },
  { cls := 15, slots := #[.int (-6)], vm := .none },
  { cls := 15, slots := #[.int (-5)], vm := .none },
  { cls := 15, slots := #[.int (-4)], vm := .none },
  { cls := 15, slots := #[.int (-3)], vm := .none },
  { cls := 15, slots := #[.int (-2)], vm := .none },
  { cls := 15, slots := #[.int (-1)], vm := .none },
  { cls := 15, slots := #[.int (0)], vm := .none },
  { cls := 15, slots := #[.int (1)], vm := .none },
  { cls := 15, slots := #[.int (2)], vm := .none },
  { cls := 15, slots := #[.int (3)], vm := .none },
  { cls := 15, slots := #[.int (4)], vm := .none },
  { cls := 15, slots := #[.int (5)], vm := .none },
  { cls := 15, slots := #[.int (6)], vm := .none },
  { cls := 15, slots := #[.int (7)], vm := .none },
  { cls := 15, slots := #[.int (8)], vm := .none },
  { cls := 15, slots := #[.int (9)], vm := .none },
  { cls := 15, slots := #[.int (10)], vm := .none },
  { cls := 15, slots := #[.int (11)], vm := .none },
  { cls := 15, slots := #[.int (12)], vm := .none },
  { cls := 15, slots := #[.int (13)], vm := .none },
  { cls := 15, slots := #[.int (14)], vm := .none },
  { cls := 15, slots := #[.int (15)], vm := .none },
  { cls := 15, slots := #[.int (16)], vm := .none },
  { cls := 15, slots := #[.int (17)], vm := .none },
  { cls := 15, slots := #[.int (18)], vm := .none },
  { cls := 15, slots := #[.int (19)], vm := .none },
  { cls := 15, slots := #[.int (20)], vm := .none },
  { cls := 15, slots := #[.int (21)], vm := .none },
  { cls := 15, slots := #[.int (22)], vm := .none },
  { cls := 15, slots := #[.int (23)], vm := .none },
  { cls := 15, slots := #[.int (24)], vm := .none },
  { cls := 15, slots := #[.int (25)], vm := .none },
  { cls := 15, slots := #[.int (26)], vm := .none },
  { cls := 15, slots := #[.int (27)], vm := .none },
  { cls := 15, slots := #[.int (28)], vm := .none },
  { cls := 15, slots := #[.int (29)], vm := .none },
  { cls := 15, slots := #[.int (30)], vm := .none },
  { cls := 15, slots := #[.int (31)], vm := .none },
  { cls := 15, slots := #[.int (32)], vm := .none },
  { cls := 15, slots := #[.int (33)], vm := .none },
  { cls := 15, slots := #[.int (34)], vm := .none },
  { cls := 15, slots := #[.int (35)], vm := .none },
  { cls := 15, slots := #[.int (36)], vm := .none },
  { cls := 15, slots := #[.int (37)], vm := .none },
  { cls := 15, slots := #[.int (38)], vm := .none },
  { cls := 15, slots := #[.int (39)], vm := .none },
  { cls := 15, slots := #[.int (40)], vm := .none },
  { cls := 15, slots := #[.int (41)], vm := .none },
  { cls := 15, slots := #[.int (42)], vm := .none },
  { cls := 15, slots := #[.int (43)], vm := .none },
  { cls := 15, slots := #[.int (44)], vm := .none },
  { cls := 15, slots := #[.int (45)], vm := .none },
  { cls := 15, slots := #[.int (46)], vm := .none },
  { cls := 15, slots := #[.int (47)], vm := .none },
  { cls := 15, slots := #[.int (48)], vm := .none },
  { cls := 15, slots := #[.int (49)], vm := .none },
  { cls := 15, slots := #[.int (50)], vm := .none },
  { cls := 15, slots := #[.int (51)], vm := .none },
  { cls := 15, slots := #[.int (52)], vm := .none },
  { cls := 15, slots := #[.int (53)], vm := .none },
  { cls := 15, slots := #[.int (54)], vm := .none },
  { cls := 15, slots := #[.int (55)], vm := .none },
  { cls := 15, slots := #[.int (56)], vm := .none },
  { cls := 15, slots := #[.int (57)], vm := .none },
  { cls := 15, slots := #[.int (58)], vm := .none },
  { cls := 15, slots := #[.int (59)], vm := .none },
  { cls := 15, slots := #[.int (60)], vm := .none },
  { cls := 15, slots := #[.int (61)], vm := .none },
  { cls := 15, slots := #[.int (62)], vm := .none },
  { cls := 15, slots := #[.int (63)], vm := .none },
  { cls := 15, slots := #[.int (64)], vm := .none },
  { cls := 15, slots := #[.int (65)], vm := .none },
  { cls := 15, slots := #[.int (66)], vm := .none },
  { cls := 15, slots := #[.int (67)], vm := .none },
  { cls := 15, slots := #[.int (68)], vm := .none },
  { cls := 15, slots := #[.int (69)], vm := .none },
  { cls := 15, slots := #[.int (70)], vm := .none },
  { cls := 15, slots := #[.int (71)], vm := .none },
  { cls := 15, slots := #[.int (72)], vm := .none },
  { cls := 15, slots := #[.int (73)], vm := .none },
  { cls := 15, slots := #[.int (74)], vm := .none },
  { cls := 15, slots := #[.int (75)], vm := .none },
  { cls := 15, slots := #[.int (76)], vm := .none },
  { cls := 15, slots := #[.int (77)], vm := .none },
  { cls := 15, slots := #[.int (78)], vm := .none },
  { cls := 15, slots := #[.int (79)], vm := .none },
  { cls := 15, slots := #[.int (80)], vm := .none },
  { cls := 15, slots := #[.int (81)], vm := .none },
  { cls := 15, slots := #[.int (82)], vm := .none },
  { cls := 15, slots := #[.int (83)], vm := .none },
  { cls := 15, slots := #[.int (84)], vm := .none },
  { cls := 15, slots := #[.int (85)], vm := .none },
  { cls := 15, slots := #[.int (86)], vm := .none },
  { cls := 15, slots := #[.int (87)], vm := .none },
  { cls := 15, slots := #[.int (88)], vm := .none },
  { cls := 15, slots := #[.int (89)], vm := .none },
  { cls := 15, slots := #[.int (90)], vm := .none },
  { cls := 15, slots := #[.int (91)], vm := .none },
  { cls := 15, slots := #[.int (92)], vm := .none },
  { cls := 15, slots := #[.int (93)], vm := .none },
  { cls := 15, slots := #[.int (94)], vm := .none },
  { cls := 15, slots := #[.int (95)], vm := .none },
  { cls := 15, slots := #[.int (96)], vm := .none },
  { cls := 15, slots := #[.int (97)], vm := .none },
  { cls := 15, slots := #[.int (98)], vm := .none },
  { cls := 15, slots := #[.int (99)], vm := .none },
  { cls := 15, slots := #[.int (100)], vm := .none },
  { cls := 15, slots := #[.int (101)], vm := .none },
  { cls := 15, slots := #[.int (102)], vm := .none },
  { cls := 15, slots := #[.int (103)], vm := .none },
  { cls := 15, slots := #[.int (104)], vm := .none },
  { cls := 15, slots := #[.int (105)], vm := .none },
  { cls := 15, slots := #[.int (106)], vm := .none },
  { cls := 15, slots := #[.int (107)], vm := .none },
  { cls := 15, slots := #[.int (108)], vm := .none },
  { cls := 15, slots := #[.int (109)], vm := .none },
  { cls := 15, slots := #[.int (110)], vm := .none },
  { cls := 15, slots := #[.int (111)], vm := .none },
  { cls := 15, slots := #[.int (112)], vm := .none },
  { cls := 15, slots := #[.int (113)], vm := .none },
  { cls := 15, slots := #[.int (114)], vm := .none },
  { cls := 15, slots := #[.int (115)], vm := .none },
  { cls := 15, slots := #[.int (116)], vm := .none },
  { cls := 15, slots := #[.int (117)], vm := .none },
  { cls := 15, slots := #[.int (118)], vm := .none },
  { cls := 15, slots := #[.int (119)], vm := .none },
  { cls := 15, slots := #[.int (120)], vm := .none },
  { cls := 15, slots := #[.int (121)], vm := .none },
  { cls := 15, slots := #[.int (122)], vm := .none },
  { cls := 15, slots := #[.int (123)], vm := .none },
  { cls := 15, slots := #[.int (124)], vm := .none },
  { cls := 15, slots := #[.int (125)], vm := .none },
  { cls := 15, slots := #[.int (126)], vm := .none },
  { cls := 15, slots := #[.int (127)], vm := .none }]
def classes : Array Class := #[k0, k1, k2, k3, k4, k5, k6, k7, k8, k9, k10, k11, k12, k13, k14, k15, k16, k17, k18, k19, k20, k21, k22, k23, k24, k25, k26, k27, k28]
def interned : List (Array UInt16 × Addr) := []
def slotsUsed : Nat := 677
def theMethod : MethodId := ⟨1, 1⟩
def args0 : Array Value := #[.int 5, .int 6, .int 2, .int 1, .int 7, .int 9]
def aboutOver (below : List Frame) : State where
  vm := { classes := classes, interned := interned.toArray }
  heap := heap
  slotsUsed := slotsUsed
  threads := #[{ frames := .invoking theMethod args0 :: below }]
def below0 : List Frame := [.native { method := ⟨0, 0⟩, args := #[] }]
def about1 : State := aboutOver below0
def p0 : Program := .bare "" "" ""
def e0 : Env := launch0.env 0 0 0
theorem w_frames : about1.frames = Frame.invoking theMethod args0 :: below0 := rfl
set_option maxRecDepth 65536 in
theorem w_args : argsFit about1.vm theMethod args0 = true := by decide +kernel
set_option maxRecDepth 65536 in
theorem w_heap : heapFits about1 = true := by decide +kernel
set_option maxRecDepth 65536 in
theorem w_runnable : about1.curStatus? = some .runnable := by decide +kernel
set_option maxRecDepth 65536 in
theorem w_alone : about1.alone = true := by decide +kernel
set_option maxRecDepth 65536 in
theorem w_named : about1.methodNamed? x = some theMethod := by decide +kernel
set_option maxRecDepth 65536 in
theorem w_hears : about1.hears theMethod below0 = true := by decide +kernel
set_option maxRecDepth 65536 in
theorem w_ripe : about1.ripe theMethod args0 below0 = true := by decide +kernel
theorem w_running : about1.status = .running := rfl
set_option maxRecDepth 65536 in
theorem w_room : about1.hasRoom e0.platform room_1 = true :=
  launch0.hasRoom_least _ room_1 (by decide +kernel) (by decide +kernel) (by decide +kernel) (by decide +kernel) (by decide +kernel) (by decide +kernel)
theorem allAtoms_all (ts : List Jvm.Cond) (a : Array Jvm.Value) (st : Jvm.State) : (allAtoms ts).before a st = ts.all (fun c => c.before a st) := by
  induction ts with
  | nil => rfl
  | cons c t ih =>
    show (Jvm.Cond.and c (allAtoms t)).before a st = _
    rw [Jvm.Cond.before_and, ih, List.all_cons]
def words1 : List Jvm.Cond := Jvm.Cond.code x code maxLocals ret :: tables_1
/-- a 'code' word, met by the world's own term for the bytes: nothing is compared byte by byte -/
theorem code_word {y : MethodName} {bytes : ByteArray} {mx : Nat} {rt : Option FieldType} {a : Array Value} {s : State} {m : MethodId} {meth : Method} {c : Code} (h1 : s.methodNamed? y = some m) (h2 : s.vm.method? m = some meth) (h3 : meth.code = some c) (h4 : c.code = bytes)
    (h5 : (c.maxLocals == mx && c.exceptionTable.isEmpty && decide (c.maxStack ≤ mostOperands) && decide (meth.sig.returnType = rt) && !meth.locks && decide (parseMethodDescriptor y.desc = some meth.sig)) = true) : (Jvm.Cond.code y bytes mx rt).before a s = true := by
  simp only [Bool.and_eq_true, beq_iff_eq, Bool.not_eq_true', decide_eq_true_eq] at h5
  obtain ⟨⟨⟨⟨⟨g1, g2⟩, g3⟩, g4⟩, g5⟩, g6⟩ := h5
  simp [Cond.before, Cond.holds, Cond.value, h1, h2, h3, h4, g1, g2, g3, g4, g5, g6]
def isCode : Jvm.Cond → Bool
  | .code _ _ _ _ => true
  | _ => false
theorem all_split {L : List Jvm.Cond} {P : Jvm.Cond → Bool} (h1 : L.all (fun c => isCode c || P c) = true) (h2 : ∀ c ∈ L.filter isCode, P c = true) : L.all P = true := by
  refine List.all_eq_true.mpr fun c hc => ?_
  have h := List.all_eq_true.mp h1 c hc
  rcases Bool.eq_false_or_eq_true (isCode c) with hi | hi
  · exact h2 c (List.mem_filter.mpr ⟨hc, hi⟩)
  · simpa [hi] using h
set_option maxRecDepth 65536 in
theorem w_c0 : (Jvm.Cond.code x code maxLocals ret).before args0 about1 = true := code_word (m := ⟨1, 1⟩) (meth := k1m1) (c := k1c1) (by decide +kernel) rfl rfl rfl (by decide +kernel)
set_option maxRecDepth 65536 in
theorem w_c1 : (Jvm.Cond.code ({ cls := "com/example/twistgauge/twistgauge/measurement/SeriesKeyEqualsPinLaw", name := "fields", desc := "(IIII)[I" } : Jvm.MethodName) method_3_code (9 : Nat) (Option.some (Jvm.ClassFile.FieldType.array Jvm.ClassFile.FieldType.int))).before args0 about1 = true := code_word (m := ⟨1, 2⟩) (meth := k1m2) (c := k1c2) (by decide +kernel) rfl rfl rfl (by decide +kernel)
set_option maxRecDepth 65536 in
theorem w_c2 : (Jvm.Cond.code ({ cls := "java/lang/Math", name := "max", desc := "(II)I" } : Jvm.MethodName) jdk_29_method_65_code (2 : Nat) (Option.some Jvm.ClassFile.FieldType.int)).before args0 about1 = true := code_word (m := ⟨2, 1⟩) (meth := k2m1) (c := k2c1) (by decide +kernel) rfl rfl rfl (by decide +kernel)
set_option maxRecDepth 65536 in
theorem w_c3 : (Jvm.Cond.code ({ cls := "com/example/twistgauge/twistgauge/measurement/SeriesKeyEqualsPinLaw", name := "make", desc := "([I)Lcom/example/twistgauge/twistgauge/measurement/SeriesKey;" } : Jvm.MethodName) method_6_code (1 : Nat) (Option.some (Jvm.ClassFile.FieldType.object "com/example/twistgauge/twistgauge/measurement/SeriesKey"))).before args0 about1 = true := code_word (m := ⟨1, 5⟩) (meth := k1m5) (c := k1c5) (by decide +kernel) rfl rfl rfl (by decide +kernel)
set_option maxRecDepth 65536 in
theorem w_c4 : (Jvm.Cond.code ({ cls := "com/example/twistgauge/twistgauge/measurement/SeriesKeyEqualsPinLaw", name := "quantity", desc := "(I)Lcom/example/twistgauge/twistgauge/measurement/Quantity;" } : Jvm.MethodName) method_4_code (1 : Nat) (Option.some (Jvm.ClassFile.FieldType.object "com/example/twistgauge/twistgauge/measurement/Quantity"))).before args0 about1 = true := code_word (m := ⟨1, 3⟩) (meth := k1m3) (c := k1c3) (by decide +kernel) rfl rfl rfl (by decide +kernel)
set_option maxRecDepth 65536 in
theorem w_c5 : (Jvm.Cond.code ({ cls := "com/example/twistgauge/twistgauge/measurement/SeriesKeyEqualsPinLaw", name := "end", desc := "(I)Lcom/example/twistgauge/twistgauge/measurement/End;" } : Jvm.MethodName) method_5_code (1 : Nat) (Option.some (Jvm.ClassFile.FieldType.object "com/example/twistgauge/twistgauge/measurement/End"))).before args0 about1 = true := code_word (m := ⟨1, 4⟩) (meth := k1m4) (c := k1c4) (by decide +kernel) rfl rfl rfl (by decide +kernel)
set_option maxRecDepth 65536 in
theorem w_c6 : (Jvm.Cond.code ({ cls := "com/example/twistgauge/twistgauge/measurement/SeriesKey", name := "<init>", desc := "(Lcom/example/twistgauge/twistgauge/measurement/Quantity;Lcom/example/twistgauge/twistgauge/measurement/End;II)V" } : Jvm.MethodName) prog_56_method_1_code (7 : Nat) (Option.none : Option Jvm.ClassFile.FieldType)).before args0 about1 = true := code_word (m := ⟨5, 0⟩) (meth := k5m0) (c := k5c0) (by decide +kernel) rfl rfl rfl (by decide +kernel)
set_option maxRecDepth 65536 in
theorem w_c7 : (Jvm.Cond.code ({ cls := "java/lang/Record", name := "<init>", desc := "()V" } : Jvm.MethodName) jdk_30_method_1_code (1 : Nat) (Option.none : Option Jvm.ClassFile.FieldType)).before args0 about1 = true := code_word (m := ⟨3, 0⟩) (meth := k3m0) (c := k3c0) (by decide +kernel) rfl rfl rfl (by decide +kernel)
set_option maxRecDepth 65536 in
theorem w_c8 : (Jvm.Cond.code ({ cls := "java/lang/Object", name := "<init>", desc := "()V" } : Jvm.MethodName) object_method_1_code (1 : Nat) (Option.none : Option Jvm.ClassFile.FieldType)).before args0 about1 = true := code_word (m := ⟨0, 0⟩) (meth := k0m0) (c := k0c0) (by decide +kernel) rfl rfl rfl (by decide +kernel)
set_option maxRecDepth 65536 in
theorem w_c9 : (Jvm.Cond.code ({ cls := "com/example/twistgauge/twistgauge/measurement/Quantity", name := "identifier", desc := "()Ljava/lang/String;" } : Jvm.MethodName) prog_51_method_6_code (1 : Nat) (Option.some (Jvm.ClassFile.FieldType.object "java/lang/String"))).before args0 about1 = true := code_word (m := ⟨9, 0⟩) (meth := k9m0) (c := k9c0) (by decide +kernel) rfl rfl rfl (by decide +kernel)
set_option maxRecDepth 65536 in
theorem w_c10 : (Jvm.Cond.code ({ cls := "com/example/twistgauge/twistgauge/measurement/Quantity", name := "others", desc := "()Lcom/example/twistgauge/twistgauge/measurement/Quantity$Others;" } : Jvm.MethodName) prog_51_method_13_code (1 : Nat) (Option.some (Jvm.ClassFile.FieldType.object "com/example/twistgauge/twistgauge/measurement/Quantity$Others"))).before args0 about1 = true := code_word (m := ⟨9, 2⟩) (meth := k9m2) (c := k9c2) (by decide +kernel) rfl rfl rfl (by decide +kernel)
set_option maxRecDepth 65536 in
theorem w_c11 : (Jvm.Cond.code ({ cls := "com/example/twistgauge/twistgauge/measurement/Quantity", name := "atAnEnd", desc := "()Z" } : Jvm.MethodName) prog_51_method_8_code (1 : Nat) (Option.some Jvm.ClassFile.FieldType.boolean)).before args0 about1 = true := code_word (m := ⟨9, 1⟩) (meth := k9m1) (c := k9c1) (by decide +kernel) rfl rfl rfl (by decide +kernel)
set_option maxRecDepth 65536 in
theorem w_c12 : (Jvm.Cond.code ({ cls := "java/lang/Enum", name := "ordinal", desc := "()I" } : Jvm.MethodName) jdk_37_method_2_code (1 : Nat) (Option.some Jvm.ClassFile.FieldType.int)).before args0 about1 = true := code_word (m := ⟨8, 0⟩) (meth := k8m0) (c := k8c0) (by decide +kernel) rfl rfl rfl (by decide +kernel)
set_option maxRecDepth 65536 in
theorem w_c13 : (Jvm.Cond.code ({ cls := "com/example/twistgauge/twistgauge/measurement/SeriesKey", name := "equals", desc := "(Ljava/lang/Object;)Z" } : Jvm.MethodName) prog_56_method_7_code (3 : Nat) (Option.some Jvm.ClassFile.FieldType.boolean)).before args0 about1 = true := code_word (m := ⟨5, 1⟩) (meth := k5m1) (c := k5c1) (by decide +kernel) rfl rfl rfl (by decide +kernel)
set_option maxRecDepth 65536 in
theorem w_c14 : (Jvm.Cond.code ({ cls := "java/lang/Integer", name := "valueOf", desc := "(I)Ljava/lang/Integer;" } : Jvm.MethodName) jdk_33_method_22_code (1 : Nat) (Option.some (Jvm.ClassFile.FieldType.object "java/lang/Integer"))).before args0 about1 = true := code_word (m := ⟨15, 0⟩) (meth := k15m0) (c := k15c0) (by decide +kernel) rfl rfl rfl (by decide +kernel)
set_option maxRecDepth 65536 in
theorem w_c15 : (Jvm.Cond.code ({ cls := "com/example/twistgauge/twistgauge/measurement/Conductor", name := "of", desc := "(I)Ljava/util/Optional;" } : Jvm.MethodName) prog_39_method_7_code (5 : Nat) (Option.some (Jvm.ClassFile.FieldType.object "java/util/Optional"))).before args0 about1 = true := code_word (m := ⟨17, 2⟩) (meth := k17m2) (c := k17c2) (by decide +kernel) rfl rfl rfl (by decide +kernel)
set_option maxRecDepth 65536 in
theorem w_c16 : (Jvm.Cond.code ({ cls := "com/example/twistgauge/twistgauge/measurement/Conductor", name := "values", desc := "()[Lcom/example/twistgauge/twistgauge/measurement/Conductor;" } : Jvm.MethodName) prog_39_method_1_code (0 : Nat) (Option.some (Jvm.ClassFile.FieldType.array (Jvm.ClassFile.FieldType.object "com/example/twistgauge/twistgauge/measurement/Conductor")))).before args0 about1 = true := code_word (m := ⟨17, 0⟩) (meth := k17m0) (c := k17c0) (by decide +kernel) rfl rfl rfl (by decide +kernel)
set_option maxRecDepth 65536 in
theorem w_c17 : (Jvm.Cond.code ({ cls := "com/example/twistgauge/twistgauge/measurement/Conductor", name := "number", desc := "()I" } : Jvm.MethodName) prog_39_method_5_code (1 : Nat) (Option.some Jvm.ClassFile.FieldType.int)).before args0 about1 = true := code_word (m := ⟨17, 1⟩) (meth := k17m1) (c := k17c1) (by decide +kernel) rfl rfl rfl (by decide +kernel)
set_option maxRecDepth 65536 in
theorem w_c18 : (Jvm.Cond.code ({ cls := "java/util/Optional", name := "of", desc := "(Ljava/lang/Object;)Ljava/util/Optional;" } : Jvm.MethodName) jdk_32_method_3_code (1 : Nat) (Option.some (Jvm.ClassFile.FieldType.object "java/util/Optional"))).before args0 about1 = true := code_word (m := ⟨19, 1⟩) (meth := k19m1) (c := k19c1) (by decide +kernel) rfl rfl rfl (by decide +kernel)
set_option maxRecDepth 65536 in
theorem w_c19 : (Jvm.Cond.code ({ cls := "java/util/Objects", name := "requireNonNull", desc := "(Ljava/lang/Object;)Ljava/lang/Object;" } : Jvm.MethodName) jdk_31_method_10_code (1 : Nat) (Option.some (Jvm.ClassFile.FieldType.object "java/lang/Object"))).before args0 about1 = true := code_word (m := ⟨20, 1⟩) (meth := k20m1) (c := k20c1) (by decide +kernel) rfl rfl rfl (by decide +kernel)
set_option maxRecDepth 65536 in
theorem w_c20 : (Jvm.Cond.code ({ cls := "java/util/Optional", name := "<init>", desc := "(Ljava/lang/Object;)V" } : Jvm.MethodName) jdk_32_method_2_code (2 : Nat) (Option.none : Option Jvm.ClassFile.FieldType)).before args0 about1 = true := code_word (m := ⟨19, 0⟩) (meth := k19m0) (c := k19c0) (by decide +kernel) rfl rfl rfl (by decide +kernel)
set_option maxRecDepth 65536 in
theorem w_c21 : (Jvm.Cond.code ({ cls := "java/util/Optional", name := "isEmpty", desc := "()Z" } : Jvm.MethodName) jdk_32_method_7_code (1 : Nat) (Option.some Jvm.ClassFile.FieldType.boolean)).before args0 about1 = true := code_word (m := ⟨19, 2⟩) (meth := k19m2) (c := k19c2) (by decide +kernel) rfl rfl rfl (by decide +kernel)
set_option maxRecDepth 65536 in
theorem w_c22 : (Jvm.Cond.code ({ cls := "java/lang/Integer", name := "<init>", desc := "(I)V" } : Jvm.MethodName) jdk_33_method_23_code (2 : Nat) (Option.none : Option Jvm.ClassFile.FieldType)).before args0 about1 = true := code_word (m := ⟨15, 1⟩) (meth := k15m1) (c := k15c1) (by decide +kernel) rfl rfl rfl (by decide +kernel)
set_option maxRecDepth 65536 in
theorem w_c23 : (Jvm.Cond.code ({ cls := "java/lang/Number", name := "<init>", desc := "()V" } : Jvm.MethodName) jdk_18_method_1_code (1 : Nat) (Option.none : Option Jvm.ClassFile.FieldType)).before args0 about1 = true := code_word (m := ⟨13, 0⟩) (meth := k13m0) (c := k13c0) (by decide +kernel) rfl rfl rfl (by decide +kernel)
set_option maxRecDepth 65536 in
theorem w_c24 : (Jvm.Cond.code ({ cls := "java/lang/Math", name := "min", desc := "(II)I" } : Jvm.MethodName) jdk_29_method_69_code (2 : Nat) (Option.some Jvm.ClassFile.FieldType.int)).before args0 about1 = true := code_word (m := ⟨2, 2⟩) (meth := k2m2) (c := k2c2) (by decide +kernel) rfl rfl rfl (by decide +kernel)
def codes1 : List Jvm.Cond := [Jvm.Cond.code x code maxLocals ret, Jvm.Cond.code ({ cls := "com/example/twistgauge/twistgauge/measurement/SeriesKeyEqualsPinLaw", name := "fields", desc := "(IIII)[I" } : Jvm.MethodName) method_3_code (9 : Nat) (Option.some (Jvm.ClassFile.FieldType.array Jvm.ClassFile.FieldType.int)), Jvm.Cond.code ({ cls := "java/lang/Math", name := "max", desc := "(II)I" } : Jvm.MethodName) jdk_29_method_65_code (2 : Nat) (Option.some Jvm.ClassFile.FieldType.int), Jvm.Cond.code ({ cls := "com/example/twistgauge/twistgauge/measurement/SeriesKeyEqualsPinLaw", name := "make", desc := "([I)Lcom/example/twistgauge/twistgauge/measurement/SeriesKey;" } : Jvm.MethodName) method_6_code (1 : Nat) (Option.some (Jvm.ClassFile.FieldType.object "com/example/twistgauge/twistgauge/measurement/SeriesKey")), Jvm.Cond.code ({ cls := "com/example/twistgauge/twistgauge/measurement/SeriesKeyEqualsPinLaw", name := "quantity", desc := "(I)Lcom/example/twistgauge/twistgauge/measurement/Quantity;" } : Jvm.MethodName) method_4_code (1 : Nat) (Option.some (Jvm.ClassFile.FieldType.object "com/example/twistgauge/twistgauge/measurement/Quantity")), Jvm.Cond.code ({ cls := "com/example/twistgauge/twistgauge/measurement/SeriesKeyEqualsPinLaw", name := "end", desc := "(I)Lcom/example/twistgauge/twistgauge/measurement/End;" } : Jvm.MethodName) method_5_code (1 : Nat) (Option.some (Jvm.ClassFile.FieldType.object "com/example/twistgauge/twistgauge/measurement/End")), Jvm.Cond.code ({ cls := "com/example/twistgauge/twistgauge/measurement/SeriesKey", name := "<init>", desc := "(Lcom/example/twistgauge/twistgauge/measurement/Quantity;Lcom/example/twistgauge/twistgauge/measurement/End;II)V" } : Jvm.MethodName) prog_56_method_1_code (7 : Nat) (Option.none : Option Jvm.ClassFile.FieldType), Jvm.Cond.code ({ cls := "java/lang/Record", name := "<init>", desc := "()V" } : Jvm.MethodName) jdk_30_method_1_code (1 : Nat) (Option.none : Option Jvm.ClassFile.FieldType), Jvm.Cond.code ({ cls := "java/lang/Object", name := "<init>", desc := "()V" } : Jvm.MethodName) object_method_1_code (1 : Nat) (Option.none : Option Jvm.ClassFile.FieldType), Jvm.Cond.code ({ cls := "com/example/twistgauge/twistgauge/measurement/Quantity", name := "identifier", desc := "()Ljava/lang/String;" } : Jvm.MethodName) prog_51_method_6_code (1 : Nat) (Option.some (Jvm.ClassFile.FieldType.object "java/lang/String")), Jvm.Cond.code ({ cls := "com/example/twistgauge/twistgauge/measurement/Quantity", name := "others", desc := "()Lcom/example/twistgauge/twistgauge/measurement/Quantity$Others;" } : Jvm.MethodName) prog_51_method_13_code (1 : Nat) (Option.some (Jvm.ClassFile.FieldType.object "com/example/twistgauge/twistgauge/measurement/Quantity$Others")), Jvm.Cond.code ({ cls := "com/example/twistgauge/twistgauge/measurement/Quantity", name := "atAnEnd", desc := "()Z" } : Jvm.MethodName) prog_51_method_8_code (1 : Nat) (Option.some Jvm.ClassFile.FieldType.boolean), Jvm.Cond.code ({ cls := "java/lang/Enum", name := "ordinal", desc := "()I" } : Jvm.MethodName) jdk_37_method_2_code (1 : Nat) (Option.some Jvm.ClassFile.FieldType.int), Jvm.Cond.code ({ cls := "com/example/twistgauge/twistgauge/measurement/SeriesKey", name := "equals", desc := "(Ljava/lang/Object;)Z" } : Jvm.MethodName) prog_56_method_7_code (3 : Nat) (Option.some Jvm.ClassFile.FieldType.boolean), Jvm.Cond.code ({ cls := "java/lang/Integer", name := "valueOf", desc := "(I)Ljava/lang/Integer;" } : Jvm.MethodName) jdk_33_method_22_code (1 : Nat) (Option.some (Jvm.ClassFile.FieldType.object "java/lang/Integer")), Jvm.Cond.code ({ cls := "com/example/twistgauge/twistgauge/measurement/Conductor", name := "of", desc := "(I)Ljava/util/Optional;" } : Jvm.MethodName) prog_39_method_7_code (5 : Nat) (Option.some (Jvm.ClassFile.FieldType.object "java/util/Optional")), Jvm.Cond.code ({ cls := "com/example/twistgauge/twistgauge/measurement/Conductor", name := "values", desc := "()[Lcom/example/twistgauge/twistgauge/measurement/Conductor;" } : Jvm.MethodName) prog_39_method_1_code (0 : Nat) (Option.some (Jvm.ClassFile.FieldType.array (Jvm.ClassFile.FieldType.object "com/example/twistgauge/twistgauge/measurement/Conductor"))), Jvm.Cond.code ({ cls := "com/example/twistgauge/twistgauge/measurement/Conductor", name := "number", desc := "()I" } : Jvm.MethodName) prog_39_method_5_code (1 : Nat) (Option.some Jvm.ClassFile.FieldType.int), Jvm.Cond.code ({ cls := "java/util/Optional", name := "of", desc := "(Ljava/lang/Object;)Ljava/util/Optional;" } : Jvm.MethodName) jdk_32_method_3_code (1 : Nat) (Option.some (Jvm.ClassFile.FieldType.object "java/util/Optional")), Jvm.Cond.code ({ cls := "java/util/Objects", name := "requireNonNull", desc := "(Ljava/lang/Object;)Ljava/lang/Object;" } : Jvm.MethodName) jdk_31_method_10_code (1 : Nat) (Option.some (Jvm.ClassFile.FieldType.object "java/lang/Object")), Jvm.Cond.code ({ cls := "java/util/Optional", name := "<init>", desc := "(Ljava/lang/Object;)V" } : Jvm.MethodName) jdk_32_method_2_code (2 : Nat) (Option.none : Option Jvm.ClassFile.FieldType), Jvm.Cond.code ({ cls := "java/util/Optional", name := "isEmpty", desc := "()Z" } : Jvm.MethodName) jdk_32_method_7_code (1 : Nat) (Option.some Jvm.ClassFile.FieldType.boolean), Jvm.Cond.code ({ cls := "java/lang/Integer", name := "<init>", desc := "(I)V" } : Jvm.MethodName) jdk_33_method_23_code (2 : Nat) (Option.none : Option Jvm.ClassFile.FieldType), Jvm.Cond.code ({ cls := "java/lang/Number", name := "<init>", desc := "()V" } : Jvm.MethodName) jdk_18_method_1_code (1 : Nat) (Option.none : Option Jvm.ClassFile.FieldType), Jvm.Cond.code ({ cls := "java/lang/Math", name := "min", desc := "(II)I" } : Jvm.MethodName) jdk_29_method_69_code (2 : Nat) (Option.some Jvm.ClassFile.FieldType.int)]
set_option maxRecDepth 65536 in
theorem codes_eq : words1.filter isCode = codes1 := rfl
theorem w_codes : ∀ c ∈ words1.filter isCode, c.before args0 about1 = true := by
  rw [codes_eq]
  intro c hc
  simp only [codes1, List.mem_cons, List.not_mem_nil, or_false] at hc
  rcases hc with rfl | rfl | rfl | rfl | rfl | rfl | rfl | rfl | rfl | rfl | rfl | rfl | rfl | rfl | rfl | rfl | rfl | rfl | rfl | rfl | rfl | rfl | rfl | rfl | rfl
  · exact w_c0
  · exact w_c1
  · exact w_c2
  · exact w_c3
  · exact w_c4
  · exact w_c5
  · exact w_c6
  · exact w_c7
  · exact w_c8
  · exact w_c9
  · exact w_c10
  · exact w_c11
  · exact w_c12
  · exact w_c13
  · exact w_c14
  · exact w_c15
  · exact w_c16
  · exact w_c17
  · exact w_c18
  · exact w_c19
  · exact w_c20
  · exact w_c21
  · exact w_c22
  · exact w_c23
  · exact w_c24
set_option maxRecDepth 65536 in
theorem w_t1 : (words1.take 24).all (fun c => isCode c || c.before args0 about1) = true := by decide +kernel
set_option maxRecDepth 65536 in
theorem w_t2 : ((words1.drop 24).take 24).all (fun c => isCode c || c.before args0 about1) = true := by decide +kernel
set_option maxRecDepth 65536 in
theorem w_t3 : (((words1.drop 24).drop 24).take 24).all (fun c => isCode c || c.before args0 about1) = true := by decide +kernel
set_option maxRecDepth 65536 in
theorem w_t4 : ((((words1.drop 24).drop 24).drop 24).take 24).all (fun c => isCode c || c.before args0 about1) = true := by decide +kernel
set_option maxRecDepth 65536 in
theorem w_t5 : (((((words1.drop 24).drop 24).drop 24).drop 24).take 24).all (fun c => isCode c || c.before args0 about1) = true := by decide +kernel
set_option maxRecDepth 65536 in
theorem w_t6 : ((((((words1.drop 24).drop 24).drop 24).drop 24).drop 24).take 24).all (fun c => isCode c || c.before args0 about1) = true := by decide +kernel
set_option maxRecDepth 65536 in
theorem w_t7 : (((((((words1.drop 24).drop 24).drop 24).drop 24).drop 24).drop 24).take 24).all (fun c => isCode c || c.before args0 about1) = true := by decide +kernel
set_option maxRecDepth 65536 in
theorem w_t8 : ((((((((words1.drop 24).drop 24).drop 24).drop 24).drop 24).drop 24).drop 24).take 24).all (fun c => isCode c || c.before args0 about1) = true := by decide +kernel
set_option maxRecDepth 65536 in
theorem w_t9 : ((((((((words1.drop 24).drop 24).drop 24).drop 24).drop 24).drop 24).drop 24).drop 24).all (fun c => isCode c || c.before args0 about1) = true := by decide +kernel
theorem w_tables : (allAtoms (Jvm.Cond.code x code maxLocals ret :: tables_1)).before args0 about1 = true := by
  rw [allAtoms_all]
  show words1.all (fun c => c.before args0 about1) = true
  refine all_split ?_ w_codes
  rw [← List.take_append_drop 24 words1, List.all_append, w_t1, ← List.take_append_drop 24 (words1.drop 24), List.all_append, w_t2, ← List.take_append_drop 24 ((words1.drop 24).drop 24), List.all_append, w_t3, ← List.take_append_drop 24 (((words1.drop 24).drop 24).drop 24), List.all_append, w_t4, ← List.take_append_drop 24 ((((words1.drop 24).drop 24).drop 24).drop 24), List.all_append, w_t5, ← List.take_append_drop 24 (((((words1.drop 24).drop 24).drop 24).drop 24).drop 24), List.all_append, w_t6, ← List.take_append_drop 24 ((((((words1.drop 24).drop 24).drop 24).drop 24).drop 24).drop 24), List.all_append, w_t7, ← List.take_append_drop 24 (((((((words1.drop 24).drop 24).drop 24).drop 24).drop 24).drop 24).drop 24), List.all_append, w_t8, w_t9]
  rfl
set_option maxRecDepth 65536 in
theorem w_rest : rest_1_c.before args0 about1 = true := by decide +kernel
set_option maxRecDepth 65536 in
theorem w_case : (Jvm.Cond.and given_1 narrow_1).before args0 about1 = true := by decide +kernel
theorem w_applies : (headSpec (Jvm.Cond.code x code maxLocals ret :: tables_1) room_1).applies x e0.platform about1 = true :=
  (Spec.applies_iff w_frames).mpr ⟨w_running, w_runnable, w_alone, w_named, w_hears, w_ripe, w_room, w_tables⟩
theorem atStart : AtStart classFile x code maxLocals ret World_1 tables_1 room_1 Calls_1 rest_1 Pre_1 launch0 p0 e0 about1 theMethod args0 below0 :=
  ⟨lists_1, trivial, launch0.admits_env _ _ _, launch0.least_env, fairChoices_fair.cas, fairChoices_fair.clock, w_frames, w_args, w_heap, w_applies, trivial, w_rest, w_case⟩
end start1
theorem witness_1 : WitnessClaimed_1 := ⟨start1.p0, start1.e0, start1.about1, start1.theMethod, start1.args0, start1.below0, start1.atStart⟩
end Jvm.Pilot.@@N@@
