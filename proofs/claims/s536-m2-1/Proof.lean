import JvmDerived
import JvmDerived.Pilot.@@N@@Statement
import JvmDerived.Pilot.@@N@@Code
set_option linter.unusedVariables false
set_option linter.unusedSimpArgs false
namespace Jvm.RoadKit
open Sem ClassFile Op Lib Jvm.Stand Jvm.Free Jvm.LawKit
section Own
/-- from u a state is reached where R holds -/
def own_Go (tb : Tables) (e : Env) (below : List Frame) (R : State → Prop) (u : State) : Prop := ∃ t, Steps tb e below u t ∧ R t
theorem own_st {tb : Tables} {e : Env} {below : List Frame} {R : State → Prop} {u v : State} (h : ∀ t, Steps tb e below v t → Steps tb e below u t) (g : own_Go tb e below R v) : own_Go tb e below R u := by
  obtain ⟨t, h1, h2⟩ := g
  exact ⟨t, h t h1, h2⟩
theorem own_fin {tb : Tables} {e : Env} {below : List Frame} {R : State → Prop} {u t : State} (h : Steps tb e below u t) (r : R t) : own_Go tb e below R u := ⟨t, h, r⟩
theorem own_in {tb : Tables} {e : Env} {below : List Frame} {u v : State} {P : State → Outcome → Prop} (h : ∀ t, Steps tb e below v t → Steps tb e below u t)
    (g : ∀ RR : State → Prop, (∀ t, (∃ o, t.status = .running ∧ P t o) → RR t) → own_Go tb e below RR v) : ∃ t o, Steps tb e below u t ∧ t.status = .running ∧ P t o := by
  obtain ⟨t, h1, o, h2, h3⟩ := g (fun t => ∃ o, t.status = .running ∧ P t o) fun _ q => q
  exact ⟨t, o, h t h1, h2, h3⟩
theorem own_ri {x y : Int32} (h : x = y) : some (Value.int x) = some (Value.int y) := h ▸ rfl
theorem own_rj {x y : Int64} (h : x = y) : some (Value.long x) = some (Value.long y) := h ▸ rfl
theorem own_rr {x y : Addr} (h : x = y) : some (Value.ref x) = some (Value.ref y) := h ▸ rfl
theorem own_eq_int {args : Array Value} {first s : State} {o : Option Outcome} {idx : List Nat} {a : Term} {k : Int32} (h : (Cond.eq a (.int k)).value args first o s idx = some true) : a.eval args first o idx s = some (.int k) := by
  simp only [Cond.value, Term.eval] at h
  cases ht : a.eval args first o idx s with
  | none => simp [ht] at h
  | some x => cases x <;> simp [ht] at h ⊢; exact h
theorem own_eq_long {args : Array Value} {first s : State} {o : Option Outcome} {idx : List Nat} {a : Term} {k : Int64} (h : (Cond.eq a (.long k)).value args first o s idx = some true) : a.eval args first o idx s = some (.long k) := by
  simp only [Cond.value, Term.eval] at h
  cases ht : a.eval args first o idx s with
  | none => simp [ht] at h
  | some x => cases x <;> simp [ht] at h ⊢; exact h
theorem own_staK {Z : State} {h h' : Heap} {C n d : String} {w : Value} {ws : List Addr} (F : Sta Z h C n d w) (K : Keep h h' ws) (q : ∀ x ∈ ws, ∀ cell : Cell, h[x]? = some cell → cell.vm.isStatics = false) : Sta Z h' C n d w := by
  obtain ⟨cf, i, k, f, st, cell, h1, h2, h3, h4, h5, h6, h7⟩ := F
  exact ⟨cf, i, k, f, st, cell, h1, h2, h3, h4, K.2.1 st cell h5 (fun m => by have := q st m cell h5; rw [h6] at this; cases this), h6, h7⟩
theorem own_selP {s : State} {args : Array Value} {y : MethodName} {n : Nat} (wi : (Cond.instantiable y.cls n).before args s = true) (hp : s.PrivateAt y) (hi : (Cond.instanceMethod y).before args s = true) (hy : y.cls ≠ "java/lang/invoke/MethodHandle" ∧ y.cls ≠ "java/lang/invoke/VarHandle") : (Cond.selects y.cls y y).before args s = true := by
  obtain ⟨c, k, h1, h2, -, h4, -⟩ := Cond.instantiable_spec wi
  exact selects_self_of_private h1 h2 (Bool.or_eq_false_iff.mp h4).1 hp hi hy
variable {p : Program} {l : Launch} {e : Env} {R : Room} {s : State} {m : MethodId} {args : Array Value} {below : List Frame} {meth : Method} {c : Code} {T : State} {locs : List Loc} {cells slots : Nat} {Z : State} {h : Heap}
theorem retI (X : Stand p l e R s m args below meth c T locs cells slots) (hx : p.tables.exec = Jvm.exec) {pc : Nat} {Ls : Array Slot} {z : Int32} {rest : List Value} (hret : meth.sig.returnType = some .int) (hd : decode c.code pc = .ok (.ireturn, 1)) {fs : List Frame}
    (hl : ∀ (f : JFrame) (acts : List Action), f.method = m → f.locked = none → f.entered = [] → (doReturn e (T.setTop f) acts (some (.int z))).1 = T.setFrames fs) : Steps p.tables e below (T.setTop (mkF m pc Ls (.int z :: rest))) (T.setFrames fs) :=
  retOut X hx hret rfl (Or.inl ⟨rfl, Or.inl rfl, z, rfl⟩) hd hl
theorem own_len (X : Stand p l e R s m args below meth c T locs cells slots) (hx : p.tables.exec = Jvm.exec) (hZ : Z.Warmed39 s.vm) (eT : T.heap = h) {a : Addr} {cl : Cell} {ty : FieldType} (A : Arr Z h a cl ty) {z : Int32} (S : cl.slots.size = z.toNatClampNeg) (N : ¬ z < 0)
    {g : JFrame} (hg : g.method = m) {rest : List Value} (hs : g.stack = .ref a :: rest) (hd : decode c.code g.pc = .ok (.arraylength, 1)) {target : State}
    (k : Steps p.tables e below (T.setTop { g with pc := g.pc + 1, stack := .int z :: rest }) target) : Steps p.tables e below (T.setTop g) target :=
  X.arraylength hx (by rw [eT]; exact A.1) (State.isArrayOf_alike hZ.alike A.2.1) hg hs hd target (by rw [len_of S N]; exact k)
end Own
end Jvm.RoadKit
namespace Jvm.RoadKit
open Jvm.FP.Core
section OwnFP2
/-- a number of sign s and of the magnitude n in units of the least one -/
def own_S (a : UInt64) (s : Bool) (n : Nat) : Prop := ∃ c q, val64 a = .fin s c q ∧ FP.Core.fits b64 (.fin s c q) ∧ inUnits c q b64.qmin = n
theorem own_Snn {a : UInt64} {s : Bool} {n : Nat} (h : own_S a s n) : val64 a ≠ .nan := by
  obtain ⟨c, q, e, -⟩ := h
  rw [e]
  nofun
theorem own_Sz {a : UInt64} {s : Bool} {n : Nat} (h : own_S a s n) : zval b64 (val64 a) = signed s n := by
  obtain ⟨c, q, e, -, e2⟩ := h
  rw [e]
  show signed s (inUnits c q b64.qmin) = _
  rw [e2]
theorem own_Scmp {a b : UInt64} {s t : Bool} {n m : Nat} (ha : own_S a s n) (hb : own_S b t m) (h : signed s n = signed t m) : FP.dcmp a b = some .eq := by
  have e := dcmp_zval (own_Snn ha) (own_Snn hb)
  rw [own_Sz ha, own_Sz hb, h] at e
  exact e.trans (congrArg some (Int.compare_eq_eq.mpr rfl))
/-- a whole number of 53 digits at the exponent q, either sign -/
theorem own_canonS (s : Bool) {m : Nat} {q : Int} (hm : m < 2 ^ 53) (h1 : -1074 ≤ q) (h2 : q ≤ 971) : ∃ c r, round b64 (.fin s m q) = .fin s c r ∧ FP.Core.fits b64 (.fin s c r) ∧ inUnits c r b64.qmin = m * 2 ^ (q + 1074).toNat := by
  have hx : b64.qmax = 971 := by decide
  obtain ⟨c, r, e1, e2⟩ := round_exact good_b64 s (c := m) (q := q) hm (by rw [qmin_b64]; exact h1) (by rw [hx]; exact h2)
  have f := round_fits good_b64 (.fin s m q)
  rw [e1] at f
  refine ⟨c, r, e1, f, e2.trans ?_⟩
  unfold inUnits
  rw [qmin_b64, Int.sub_neg]
/-- what rounds to the magnitude of a number of the format is finite -/
theorem own_Sof {a : UInt64} {s : Bool} {A B : Nat} {e : Int} {M E : Nat} (hB : 0 < B) (hv : val64 a = roundRatio b64 s A B e) (hM : M < 2 ^ 53) (hE : E ≤ 2045) (e0 : Int) (z1 : e0 ≤ -1074) (z2 : e0 ≤ e) (h : inUnits A e e0 = M * 2 ^ E * 2 ^ (-1074 - e0).toNat * B) : own_S a s (M * 2 ^ E) := by
  obtain ⟨c, r, -, e2, e3⟩ := own_canonS false (m := M) (q := (E : Int) - 1074) hM (by omega) (by omega)
  rw [Int.sub_add_cancel, Int.toNat_natCast] at e3
  have e3' : zmag b64 (.fin false c r) = M * 2 ^ E := e3
  have hz : zmag b64 (roundRatio b64 s A B e) = M * 2 ^ E := by
    rw [← e3']
    apply Nat.le_antisymm
    · refine zmag_roundRatio_le good_b64 (e0 := e0) hB e2 (by nofun) (by rw [qmin_b64]; exact z1) z2 ?_
      rw [e3', qmin_b64, h]
      exact Nat.le_refl _
    · refine zmag_roundRatio_ge good_b64 (e0 := e0) hB e2 (by rw [qmin_b64]; exact z1) z2 ?_
      rw [e3', qmin_b64, h]
      exact Nat.le_refl _
  have top := zmag_lt_top good_b64 e2
  rw [e3] at top
  have hs := sgn_roundRatio b64 s A B e
  have hf := roundRatio_fits good_b64 s A hB e
  have hn := roundRatio_ne_nan b64 s A B e
  rw [← hv] at hz hs hf hn
  cases hd : val64 a with
  | nan => exact absurd hd hn
  | inf t =>
    exfalso
    rw [hd] at hz
    have hz' : b64.tails * 2 ^ (b64.exps - 2) = M * 2 ^ E := hz
    rw [← hz'] at top
    exact Nat.lt_irrefl _ top
  | fin t c2 q2 =>
    rw [hd] at hz hs hf
    have hs' : t = s := hs
    subst hs'
    exact ⟨c2, q2, hd, hf, hz⟩
theorem own_Sl {n : Int64} (h : n.toInt.natAbs < 2 ^ 53) : own_S (FP.l2d n) (decide (n.toInt < 0)) (n.toInt.natAbs * 2 ^ 1074) := by
  obtain ⟨c, r, e1, e2, e3⟩ := own_canonS (decide (n.toInt < 0)) (m := n.toInt.natAbs) (q := 0) h (by decide) (by decide)
  exact ⟨c, r, (val64_l2d n).trans e1, e2, e3⟩
theorem own_Si {n : Int32} (h : 0 ≤ n.toInt) : own_S (FP.i2d n) false (n.toInt.toNat * 2 ^ 1074) := by
  have hb := Int32.toInt_lt n
  obtain ⟨c, r, e1, e2, e3⟩ := own_canonS false (m := n.toInt.toNat) (q := 0) (by omega) (by decide) (by decide)
  refine ⟨c, r, (val64_i2d n).trans ?_, e2, e3⟩
  rw [← e1]
  unfold ofInt
  rw [decide_eq_false (by omega)]
  congr 2
  omega
theorem own_Smul {a b : UInt64} {s t : Bool} {n m M E : Nat} (ha : own_S a s n) (hb : own_S b t m) (hM : M < 2 ^ 53) (hE : E ≤ 2045) (h : n * m = M * 2 ^ E * 2 ^ 1074) : own_S (FP.dmul a b) (s != t) (M * 2 ^ E) := by
  obtain ⟨c1, q1, a1, a2, a3⟩ := ha
  obtain ⟨c2, q2, b1, b2, b3⟩ := hb
  have hq1 := a2.2.1
  have hq2 := b2.2.1
  rw [qmin_b64] at hq1 hq2
  have hv : val64 (FP.dmul a b) = roundRatio b64 (s != t) (c1 * c2) 1 (q1 + q2) := by
    refine (val64_dmul _ _).trans ?_
    rw [a1, b1]
    rfl
  refine own_Sof (by decide) hv hM hE (-2148) (by decide) (by omega) ?_
  have e1 : (-1074 - (-2148 : Int)).toNat = 1074 := by decide
  rw [e1, Nat.mul_one, ← h, ← a3, ← b3]
  unfold inUnits
  rw [qmin_b64, show (q1 + q2 - -2148).toNat = (q1 - -1074).toNat + (q2 - -1074).toNat by omega, Nat.pow_add]
  ac_rfl
theorem own_Sadd {a b : UInt64} {n m M E : Nat} (ha : own_S a false n) (hb : own_S b false m) (hp : 0 < m) (hM : M < 2 ^ 53) (hE : E ≤ 2045) (h : n + m = M * 2 ^ E) : own_S (FP.dadd a b) false (M * 2 ^ E) := by
  obtain ⟨c1, q1, a1, a2, a3⟩ := ha
  obtain ⟨c2, q2, b1, b2, b3⟩ := hb
  obtain ⟨sg, k, e, s1, s2, s3⟩ := sum_units a2 b2
  have z1 : zval b64 (.fin false c1 q1) = (n : Int) := by
    show ((inUnits c1 q1 b64.qmin : Nat) : Int) = _
    rw [a3]
  have z2 : zval b64 (.fin false c2 q2) = (m : Int) := by
    show ((inUnits c2 q2 b64.qmin : Nat) : Int) = _
    rw [b3]
  rw [z1, z2] at s3
  have hs : sg = false := by
    cases sg with
    | false => rfl
    | true =>
      exfalso
      unfold signed at s3
      rw [if_pos rfl] at s3
      omega
  subst hs
  have s4 : inUnits k e b64.qmin = M * 2 ^ E := by
    have s3' : ((inUnits k e b64.qmin : Nat) : Int) = (n : Int) + (m : Int) := s3
    rw [← h]
    omega
  have hv : val64 (FP.dadd a b) = roundRatio b64 false k 1 e := by
    refine (val64_dadd _ _).trans ?_
    rw [a1, b1, s1]
    rfl
  rw [qmin_b64] at s2 s4
  refine own_Sof (by decide) hv hM hE (-1074) (by decide) s2 ?_
  rw [s4, show (-1074 - (-1074 : Int)).toNat = 0 from by decide, Nat.pow_zero, Nat.mul_one, Nat.mul_one]
theorem own_Sdiv {a b : UInt64} {s t : Bool} {n m M E : Nat} (ha : own_S a s n) (hb : own_S b t m) (hp : 0 < m) (hM : M < 2 ^ 53) (hE : E ≤ 2045) (h : n * 2 ^ 1074 = M * 2 ^ E * m) : own_S (FP.ddiv a b) (s != t) (M * 2 ^ E) := by
  obtain ⟨c1, q1, a1, a2, a3⟩ := ha
  obtain ⟨c2, q2, b1, b2, b3⟩ := hb
  have hq1 := a2.2.1
  have hq2 := b2.2.1
  rw [qmin_b64] at hq1 hq2
  have c20 : 0 < c2 := by
    rcases Nat.eq_zero_or_pos c2 with q | q
    · exfalso
      rw [q] at b3
      unfold inUnits at b3
      rw [Nat.zero_mul] at b3
      omega
    · exact q
  have hv : val64 (FP.ddiv a b) = roundRatio b64 (s != t) c1 c2 (q1 - q2) := by
    refine (val64_ddiv _ _).trans ?_
    rw [a1, b1]
    show (if c2 = 0 then _ else _) = _
    rw [if_neg (by omega)]
  unfold inUnits at a3 b3
  rw [qmin_b64] at a3 b3
  obtain ⟨e0, z1, z2⟩ : ∃ e0 : Int, e0 ≤ -1074 ∧ e0 ≤ q1 - q2 := ⟨min (-1074) (q1 - q2), by omega, by omega⟩
  refine own_Sof c20 hv hM hE e0 z1 z2 ?_
  unfold inUnits
  refine Nat.eq_of_mul_eq_mul_right (Nat.two_pow_pos (q2 - -1074).toNat) ?_
  have hh : (q1 - q2 - e0).toNat + (q2 - -1074).toNat = (q1 - -1074).toNat + ((-1074 - e0).toNat + 1074) := by omega
  have ex : 2 ^ (q1 - q2 - e0).toNat * 2 ^ (q2 - -1074).toNat = 2 ^ (q1 - -1074).toNat * (2 ^ (-1074 - e0).toNat * 2 ^ 1074) := by rw [← Nat.pow_add, hh, Nat.pow_add, Nat.pow_add]
  rw [Nat.mul_assoc, ex, ← Nat.mul_assoc, a3, Nat.mul_assoc (M * 2 ^ E * 2 ^ (-1074 - e0).toNat), b3]
  generalize 2 ^ (-1074 - e0).toNat = u
  rw [Nat.mul_right_comm (M * 2 ^ E), ← h]
  generalize (2 : Nat) ^ 1074 = v
  ac_rfl
theorem own_k12 : ∀ s : Fin 65, 0 < s.val → zmag b64 (roundRatio b64 false (27021597764222975 * s.val) 1 (-56)) = 3 * s.val * 2 ^ 1071 := by decide +kernel
/-- 1.2 times 5s/16 rounds to 3s/8 -/
theorem own_S12 {b : UInt64} {s : Nat} (hb : own_S b false (5 * s * 2 ^ 1070)) (h0 : 0 < s) (h1 : s ≤ 64) : own_S (FP.dmul 4608083138725491507 b) false (3 * s * 2 ^ 1071) := by
  obtain ⟨c2, q2, b1, b2, b3⟩ := hb
  have hq2 := b2.2.1
  rw [qmin_b64] at hq2
  have a1 : val64 4608083138725491507 = .fin false 5404319552844595 (-52) := by decide +kernel
  have hv : val64 (FP.dmul 4608083138725491507 b) = roundRatio b64 false (5404319552844595 * c2) 1 (-52 + q2) := by
    refine (val64_dmul _ _).trans ?_
    rw [a1, b1]
    rfl
  unfold inUnits at b3
  rw [qmin_b64] at b3
  have hc : roundRatio b64 false (5404319552844595 * c2) 1 (-52 + q2) = roundRatio b64 false (27021597764222975 * s) 1 (-56) := by
    refine roundRatio_congr (by decide) (by decide) ?_
    rw [Nat.mul_one, Nat.mul_one]
    refine Nat.eq_of_mul_eq_mul_right (Nat.two_pow_pos ((q2 - -1074).toNat + 1070)) ?_
    have x1 : 5404319552844595 * c2 * 2 ^ (-52 + q2 - -56).toNat * 2 ^ ((q2 - -1074).toNat + 1070) = 5404319552844595 * (c2 * 2 ^ (q2 - -1074).toNat) * 2 ^ ((-52 + q2 - -56).toNat + 1070) := by
      rw [Nat.pow_add, Nat.pow_add]
      generalize (2 : Nat) ^ 1070 = u
      ac_rfl
    have hh : 1070 + ((-52 + q2 - -56).toNat + 1070) = (-56 - (-52 + q2)).toNat + ((q2 - -1074).toNat + 1070) := by omega
    have x2 : (2 : Nat) ^ 1070 * 2 ^ ((-52 + q2 - -56).toNat + 1070) = 2 ^ (-56 - (-52 + q2)).toNat * 2 ^ ((q2 - -1074).toNat + 1070) := by rw [← Nat.pow_add, ← Nat.pow_add, hh]
    rw [x1, b3, Nat.mul_assoc (27021597764222975 * s), ← x2]
    generalize 2 ^ ((-52 + q2 - -56).toNat + 1070) = v
    generalize (2 : Nat) ^ 1070 = u
    rw [show (27021597764222975 : Nat) = 5404319552844595 * 5 from rfl]
    ac_rfl
  rw [hc] at hv
  have hz := own_k12 ⟨s, by omega⟩ h0
  have hz' : zmag b64 (roundRatio b64 false (27021597764222975 * s) 1 (-56)) = 3 * s * 2 ^ 1071 := hz
  have hs := sgn_roundRatio b64 false (27021597764222975 * s) 1 (-56)
  have hf := roundRatio_fits good_b64 false (27021597764222975 * s) (B := 1) (by decide) (-56)
  have hn := roundRatio_ne_nan b64 false (27021597764222975 * s) 1 (-56)
  obtain ⟨c, r, -, e2, e3⟩ := own_canonS false (m := 3 * s) (q := -3) (by omega) (by decide) (by decide)
  have e3' : zmag b64 (.fin false c r) = 3 * s * 2 ^ 1071 := e3
  have top := zmag_lt_top good_b64 e2
  have e4 : inUnits c r b64.qmin = 3 * s * 2 ^ 1071 := e3'
  rw [e4, ← hz', ← hv] at top
  rw [← hv] at hz' hs hf hn
  cases hd : val64 (FP.dmul 4608083138725491507 b) with
  | nan => exact absurd hd hn
  | inf t =>
    exfalso
    rw [hd] at top
    exact Nat.lt_irrefl _ top
  | fin t c2 q2 =>
    rw [hd] at hz' hs hf
    have hs' : t = false := hs
    subst hs'
    exact ⟨c2, q2, hd, hf, hz'⟩
end OwnFP2
end Jvm.RoadKit
namespace Jvm.Pilot.@@N@@
open Jvm Jvm.ClassFile Sem Op Lib Jvm.Free Jvm.Stand Jvm.LawKit Jvm.RoadKit Bundle Jvm.Pilot.@@N@@.Jvm.D
theorem own_dc0 : FP.dconst0 = FP.l2d 0 := by decide +kernel
theorem own_nn {a : UInt64} {s : Bool} {n : Nat} (h : own_S a s n) : Jvm.Free.Fl.NoNaN64 a := Jvm.Free.Fl.noNaN64_no.mpr ((Jvm.FP.Core.notNaN_iff a).mpr (own_Snn h))
theorem own_nzd {d : Int64} (h : 1 ≤ d.toInt) : ¬ d = (0 : Int64) := fun q => by
  rw [q] at h
  exact absurd h (by decide)
theorem own_bf {x f : Int32} (h : x &&& (1048575 : Int32) = f) : 0 ≤ f.toInt ∧ f.toInt < 1048576 := by
  have h1 := c_mask x 1048575 20 (by decide) (by decide)
  have e2 : ((2 ^ 20 : Nat) : Int) = 1048576 := by decide
  rw [h, e2] at h1
  omega
theorem own_bs {x s : Int32} (h : (x &&& (63 : Int32)) + (1 : Int32) = s) : 1 ≤ s.toInt ∧ s.toInt ≤ 64 := by
  have h1 := c_mask x 63 6 (by decide) (by decide)
  have h2 := c_iadd (x &&& 63) 1
  have e2 : ((2 ^ 6 : Nat) : Int) = 64 := by decide
  have e1 : (1 : Int32).toInt = 1 := by decide
  rw [e2] at h1
  rw [h, e1] at h2
  have l1 := Int32.le_toInt s
  have l2 := Int32.toInt_lt s
  omega
theorem own_ba {x : Int32} {a : Int64} (h : ((x &&& (65535 : Int32)) + (1 : Int32)).toInt64 = a) : 1 ≤ a.toInt ∧ a.toInt ≤ 65536 := by
  have h1 := c_mask x 65535 16 (by decide) (by decide)
  have h2 := c_iadd (x &&& 65535) 1
  have h3 := c_i2l ((x &&& 65535) + 1)
  have e2 : ((2 ^ 16 : Nat) : Int) = 65536 := by decide
  have e1 : (1 : Int32).toInt = 1 := by decide
  rw [e2] at h1
  rw [e1] at h2
  rw [h] at h3
  have l1 := Int32.le_toInt ((x &&& 65535) + 1)
  have l2 := Int32.toInt_lt ((x &&& 65535) + 1)
  omega
theorem own_bc {x : Int32} {c : Int64} (h : (x >>> ((22 : Int32) &&& 31)).toInt64 = c) : -512 ≤ c.toInt ∧ c.toInt ≤ 511 := by
  have h1 := c_ishr x 22 22 (by decide)
  have h3 := c_i2l (x >>> ((22 : Int32) &&& 31))
  have e2 : ((2 ^ 22 : Nat) : Int) = 4194304 := by decide
  rw [h1, h, e2] at h3
  have l1 := Int32.le_toInt x
  have l2 := Int32.toInt_lt x
  omega
theorem own_mb {x y X Y : Int} (hx : 0 ≤ x) (hX : x ≤ X) (hy : 0 ≤ y) (hY : y ≤ Y) : 0 ≤ x * y ∧ x * y ≤ X * Y := ⟨Int.mul_nonneg hx hy, Int.le_trans (Int.mul_le_mul_of_nonneg_right hX hy) (Int.mul_le_mul_of_nonneg_left hY (Int.le_trans hx hX))⟩
theorem own_l64 (x : Int64) : -9223372036854775808 ≤ x.toInt ∧ x.toInt < 9223372036854775808 := by
  have l1 := Int64.minValue_le_toInt x
  have l2 := Int64.toInt_lt x
  have m1 : Int64.minValue.toInt = -9223372036854775808 := by decide
  omega
theorem own_bl {s : Int32} {a : Int64} {len : Int32} (hs : 1 ≤ s.toInt ∧ s.toInt ≤ 64) (ha : 1 ≤ a.toInt ∧ a.toInt ≤ 65536) (h : (((5 : Int64) * s.toInt64 - (4 : Int64)) * a).toInt32 = len) : len.toInt = (5 * s.toInt - 4) * a.toInt := by
  have h1 := c_i2l s
  have h2 := c_lmul 5 s.toInt64
  have h3 := c_lsub (5 * s.toInt64) 4
  have h4 := c_lmul (5 * s.toInt64 - 4) a
  have h5 := c_l2i ((5 * s.toInt64 - 4) * a)
  have e5 : (5 : Int64).toInt = 5 := by decide
  have e4 : (4 : Int64).toInt = 4 := by decide
  rw [e5, h1] at h2
  rw [e4] at h3
  rw [h] at h5
  have g2 := own_l64 (5 * s.toInt64)
  have g3 := own_l64 (5 * s.toInt64 - 4)
  have g4 := own_l64 ((5 * s.toInt64 - 4) * a)
  have x2 : (5 * s.toInt64).toInt = 5 * s.toInt := by omega
  have x3 : (5 * s.toInt64 - 4).toInt = 5 * s.toInt - 4 := by omega
  rw [x3] at h4
  have b := own_mb (show 0 ≤ 5 * s.toInt - 4 by omega) (show 5 * s.toInt - 4 ≤ 316 by omega) (show 0 ≤ a.toInt by omega) ha.2
  have l1 := Int32.le_toInt len
  have l2 := Int32.toInt_lt len
  generalize (5 * s.toInt - 4) * a.toInt = z at *
  omega
theorem own_bt {a d t : Int64} (ha : 1 ≤ a.toInt ∧ a.toInt ≤ 65536) (hd : 1 ≤ d.toInt ∧ d.toInt ≤ 65536) (h : (12 : Int64) * a * d = t) : t.toInt = 12 * a.toInt * d.toInt := by
  have h2 := c_lmul 12 a
  have h3 := c_lmul (12 * a) d
  have e5 : (12 : Int64).toInt = 12 := by decide
  rw [e5] at h2
  rw [h] at h3
  have g2 := own_l64 (12 * a)
  have g3 := own_l64 t
  have x2 : (12 * a).toInt = 12 * a.toInt := by omega
  rw [x2] at h3
  have b := own_mb (show 0 ≤ 12 * a.toInt by omega) (show 12 * a.toInt ≤ 786432 by omega) (show 0 ≤ d.toInt by omega) hd.2
  generalize 12 * a.toInt * d.toInt = z at *
  omega
theorem own_bn {f s : Int32} {n : Int64} (hf : 0 ≤ f.toInt ∧ f.toInt < 1048576) (hs : 1 ≤ s.toInt ∧ s.toInt ≤ 64) (h : (8 : Int64) * f.toInt64 + (3 : Int64) * s.toInt64 = n) : n.toInt = 8 * f.toInt + 3 * s.toInt := by
  have h1 := c_i2l s
  have h2 := c_i2l f
  have h3 := c_lmul 8 f.toInt64
  have h4 := c_lmul 3 s.toInt64
  have h5 := c_ladd (8 * f.toInt64) (3 * s.toInt64)
  have e8 : (8 : Int64).toInt = 8 := by decide
  have e3 : (3 : Int64).toInt = 3 := by decide
  rw [e8, h2] at h3
  rw [e3, h1] at h4
  rw [h] at h5
  have g2 := own_l64 (8 * f.toInt64)
  have g3 := own_l64 (3 * s.toInt64)
  have g4 := own_l64 n
  omega
theorem own_mbs {x y : Int} {X Y : Int} (hx : -X ≤ x ∧ x ≤ X) (hy : 0 ≤ y ∧ y ≤ Y) (hX : 0 ≤ X) : -(X * Y) ≤ x * y ∧ x * y ≤ X * Y := by
  have h1 : x * y ≤ X * y := Int.mul_le_mul_of_nonneg_right hx.2 hy.1
  have h2 : -X * y ≤ x * y := Int.mul_le_mul_of_nonneg_right hx.1 hy.1
  have h3 : X * y ≤ X * Y := Int.mul_le_mul_of_nonneg_left hy.2 hX
  rw [Int.neg_mul] at h2
  omega
theorem own_bW {c n W : Int64} (hc : -512 ≤ c.toInt ∧ c.toInt ≤ 511) (hn : 0 ≤ n.toInt ∧ n.toInt ≤ 8388800) (h : c * n = W) : W.toInt = c.toInt * n.toInt := by
  have h2 := c_lmul c n
  rw [h] at h2
  have g := own_l64 W
  have b := own_mbs (X := 512) (Y := 8388800) (x := c.toInt) (y := n.toInt) (by omega) hn (by decide)
  generalize c.toInt * n.toInt = z at *
  omega
theorem own_bx {c x : Int64} {f : Int32} (hc : -512 ≤ c.toInt ∧ c.toInt ≤ 511) (hf : 0 ≤ f.toInt ∧ f.toInt < 1048576) (h : (8 : Int64) * c * f.toInt64 = x) : x.toInt = 8 * c.toInt * f.toInt := by
  have h1 := c_i2l f
  have h2 := c_lmul 8 c
  have h3 := c_lmul (8 * c) f.toInt64
  have e8 : (8 : Int64).toInt = 8 := by decide
  rw [e8] at h2
  rw [h, h1] at h3
  have g2 := own_l64 (8 * c)
  have x2 : (8 * c).toInt = 8 * c.toInt := by omega
  rw [x2] at h3
  have g := own_l64 x
  have b := own_mbs (X := 4096) (Y := 1048576) (x := 8 * c.toInt) (y := f.toInt) (by omega) (by omega) (by decide)
  generalize 8 * c.toInt * f.toInt = z at *
  omega
theorem own_p71 : (2 : Nat) ^ 1071 = 2 * 2 ^ 1070 := by rw [show 1071 = 1070 + 1 from rfl, Nat.pow_succ, Nat.mul_comm]
theorem own_p72 : (2 : Nat) ^ 1072 = 4 * 2 ^ 1070 := by rw [show 1072 = 1070 + 2 from rfl, Nat.pow_add, Nat.mul_comm]
theorem own_p74 : (2 : Nat) ^ 1074 = 16 * 2 ^ 1070 := by rw [show 1074 = 1070 + 4 from rfl, Nat.pow_add, Nat.mul_comm]
theorem own_Slp {n : Int64} {N : Nat} (h : n.toInt = N) (hN : N < 2 ^ 53) : own_S (FP.l2d n) false (N * 2 ^ 1074) := by
  have q := own_Sl (n := n) (by rw [h]; exact hN)
  rw [h, decide_eq_false (by omega)] at q
  exact q
theorem own_Slit {a : UInt64} {c : Nat} {q : Int} {n : Nat} (h : Jvm.FP.Core.val64 a = .fin false c q) (h2 : Jvm.FP.Core.inUnits c q Jvm.FP.Core.b64.qmin = n) : own_S a false n := ⟨c, q, h, h ▸ Jvm.FP.Core.val64_fits a, h2⟩
theorem own_k75 : own_S 4604930618986332160 false (3 * 2 ^ 1072) := own_Slit (c := 6755399441055744) (q := -53) (by decide +kernel) (by decide +kernel)
theorem own_k25 : own_S 4598175219545276416 false (1 * 2 ^ 1072) := own_Slit (c := 4503599627370496) (q := -54) (by decide +kernel) (by decide +kernel)
theorem own_avg {a d t : Int64} (ha : 1 ≤ a.toInt ∧ a.toInt ≤ 65536) (hd : 1 ≤ d.toInt ∧ d.toInt ≤ 65536) (ht : t.toInt = 12 * a.toInt * d.toInt) : own_S (FP.ddiv (FP.l2d t) (FP.l2d d)) false (12 * a.toInt.toNat * 2 ^ 1074) := by
  obtain ⟨A, eA⟩ : ∃ A : Nat, a.toInt = A := ⟨a.toInt.toNat, by omega⟩
  obtain ⟨D, eD⟩ : ∃ D : Nat, d.toInt = D := ⟨d.toInt.toNat, by omega⟩
  rw [eA, eD] at ht
  rw [eA] at ha ⊢
  rw [eD] at hd
  rw [Int.toNat_natCast]
  have bA : A ≤ 65536 := by omega
  have bD : D ≤ 65536 := by omega
  have b : 12 * A * D ≤ 12 * 65536 * 65536 := Nat.mul_le_mul (Nat.mul_le_mul_left 12 bA) bD
  have h1 := own_Slp (n := t) (N := 12 * A * D) (by rw [ht]; norm_cast) (by omega)
  have h2 := own_Slp (n := d) (N := D) eD (by omega)
  refine own_Sdiv h1 h2 (Nat.mul_pos (by omega) (Nat.two_pow_pos _)) (by omega) (by decide) ?_
  generalize (2 : Nat) ^ 1074 = u
  ac_rfl
/-- every step of score -/
theorem own_all {f s len : Int32} {a c W x n : Int64} {g : UInt64} (hf : 0 ≤ f.toInt ∧ f.toInt < 1048576) (hs : 1 ≤ s.toInt ∧ s.toInt ≤ 64) (ha : 1 ≤ a.toInt ∧ a.toInt ≤ 65536) (hc : -512 ≤ c.toInt ∧ c.toInt ≤ 511) (hl : len.toInt = (5 * s.toInt - 4) * a.toInt) (hn : n.toInt = 8 * f.toInt + 3 * s.toInt) (hW : W.toInt = c.toInt * n.toInt) (hx : x.toInt = 8 * c.toInt * f.toInt) (hg : own_S g false (12 * a.toInt.toNat * 2 ^ 1074)) :
    ∃ (s1 : Bool) (n1 n2 n3 n4 n5 n6 n7 : Nat), own_S (FP.dmul (FP.l2d W) (FP.i2d f)) s1 n1 ∧ own_S (FP.dmul 4604930618986332160 (FP.i2d len)) false n2 ∧ own_S (FP.ddiv (FP.dmul 4604930618986332160 (FP.i2d len)) g) false n3 ∧ own_S (FP.dadd 4598175219545276416 (FP.ddiv (FP.dmul 4604930618986332160 (FP.i2d len)) g)) false n4 ∧
      own_S (FP.dmul 4608083138725491507 (FP.dadd 4598175219545276416 (FP.ddiv (FP.dmul 4604930618986332160 (FP.i2d len)) g))) false n5 ∧ own_S (FP.dadd (FP.i2d f) (FP.dmul 4608083138725491507 (FP.dadd 4598175219545276416 (FP.ddiv (FP.dmul 4604930618986332160 (FP.i2d len)) g)))) false n6 ∧
      own_S (FP.ddiv (FP.dmul (FP.l2d W) (FP.i2d f)) (FP.dadd (FP.i2d f) (FP.dmul 4608083138725491507 (FP.dadd 4598175219545276416 (FP.ddiv (FP.dmul 4604930618986332160 (FP.i2d len)) g))))) s1 n7 ∧
      cmpValue (FP.dcmp (FP.ddiv (FP.dmul (FP.l2d W) (FP.i2d f)) (FP.dadd (FP.i2d f) (FP.dmul 4608083138725491507 (FP.dadd 4598175219545276416 (FP.ddiv (FP.dmul 4604930618986332160 (FP.i2d len)) g))))) (FP.l2d x)) .l = 0 := by
  obtain ⟨F, eF⟩ : ∃ F : Nat, f.toInt = F := ⟨f.toInt.toNat, by omega⟩
  obtain ⟨S, eS⟩ : ∃ S : Nat, s.toInt = S := ⟨s.toInt.toNat, by omega⟩
  obtain ⟨A, eA⟩ : ∃ A : Nat, a.toInt = A := ⟨a.toInt.toNat, by omega⟩
  obtain ⟨C, eC⟩ : ∃ C : Nat, c.toInt.natAbs = C := ⟨_, rfl⟩
  obtain ⟨X, eX⟩ : ∃ X : Nat, 5 * S = X + 4 := ⟨5 * S - 4, by omega⟩
  obtain ⟨N, eN⟩ : ∃ N : Nat, N = 8 * F + 3 * S := ⟨_, rfl⟩
  have bF : F < 1048576 := by omega
  have bS0 : 1 ≤ S := by omega
  have bS : S ≤ 64 := by omega
  have bA : A ≤ 65536 := by omega
  have bA0 : 1 ≤ A := by omega
  have bC : C ≤ 512 := by omega
  have bX : X ≤ 316 := by omega
  have bX0 : 1 ≤ X := by omega
  have bN : N ≤ 8388800 := by omega
  have bN0 : 1 ≤ N := by omega
  have nN : n.toInt = N := by omega
  have lN : len.toInt = ((X * A : Nat) : Int) := by
    rw [hl, eS, eA, show 5 * (S : Int) - 4 = (X : Int) by omega]
    norm_cast
  have hi : own_S (FP.i2d len) false (X * A * 2 ^ 1074) := by
    have q := own_Si (n := len) (by omega)
    rw [lN, Int.toNat_natCast] at q
    exact q
  have hfi : own_S (FP.i2d f) false (F * 2 ^ 1074) := by
    have q := own_Si (n := f) hf.1
    rw [eF, Int.toNat_natCast] at q
    exact q
  rw [eA, Int.toNat_natCast] at hg
  have bXA : X * A ≤ 316 * 65536 := Nat.mul_le_mul bX bA
  have up : 0 < 2 ^ 1070 := Nat.two_pow_pos 1070
  have P1 := own_Smul own_k75 hi (M := 3 * (X * A)) (E := 1072) (by omega) (by decide) (by
    generalize (2 : Nat) ^ 1072 = u
    generalize (2 : Nat) ^ 1074 = v
    ac_rfl)
  have P2 := own_Sdiv P1 hg (Nat.mul_pos (by omega) (Nat.two_pow_pos _)) (M := X) (E := 1070) (by omega) (by decide) (by
    rw [own_p72, own_p74, show (12 : Nat) = 3 * 4 from rfl]
    generalize (2 : Nat) ^ 1070 = u
    ac_rfl)
  have P3 := own_Sadd own_k25 P2 (Nat.mul_pos bX0 up) (M := 5 * S) (E := 1070) (by omega) (by decide) (by
    rw [own_p72, eX, Nat.add_mul, Nat.one_mul, Nat.add_comm])
  have P4 := own_S12 P3 bS0 bS
  have P5 := own_Sadd hfi P4 (Nat.mul_pos (by omega) (Nat.two_pow_pos _)) (M := N) (E := 1071) (by omega) (by decide) (by
    rw [eN, Nat.add_mul, own_p71, own_p74, show (16 : Nat) = 8 * 2 from rfl]
    generalize (2 : Nat) ^ 1070 = u
    congr 1
    ac_rfl)
  have aW : W.toInt.natAbs = C * N := by
    rw [hW, nN, Int.natAbs_mul, eC, Int.natAbs_natCast]
  have ax : x.toInt.natAbs = 8 * C * F := by
    rw [hx, eF, Int.natAbs_mul, Int.natAbs_mul, eC, Int.natAbs_natCast]
    rfl
  have bCN : C * N ≤ 512 * 8388800 := Nat.mul_le_mul bC bN
  have bCNF : C * N * F ≤ 512 * 8388800 * 1048576 := Nat.mul_le_mul bCN (by omega)
  have bCF : 8 * C * F ≤ 8 * 512 * 1048576 := Nat.mul_le_mul (Nat.mul_le_mul_left 8 bC) (by omega)
  have hw := own_Sl (n := W) (by rw [aW]; omega)
  have hxx := own_Sl (n := x) (by rw [ax]; omega)
  rw [aW] at hw
  rw [ax] at hxx
  have A1 := own_Smul hw hfi (M := C * N * F) (E := 1074) (by omega) (by decide) (by
    generalize (2 : Nat) ^ 1074 = u
    ac_rfl)
  have R := own_Sdiv A1 P5 (Nat.mul_pos bN0 (Nat.two_pow_pos _)) (M := 8 * C * F) (E := 1074) (by omega) (by decide) (by
    rw [own_p71, own_p74]
    generalize (2 : Nat) ^ 1070 = u
    calc C * N * F * (16 * u) * (16 * u) = C * N * F * (16 * u) * (8 * 2 * u) := rfl
      _ = 8 * C * F * (16 * u) * (N * (2 * u)) := by ac_rfl)
  rw [show ((decide (W.toInt < 0) != false) != false) = decide (W.toInt < 0) by cases decide (W.toInt < 0) <;> rfl] at R
  rw [show (decide (W.toInt < 0) != false) = decide (W.toInt < 0) by cases decide (W.toInt < 0) <;> rfl] at A1
  refine ⟨_, _, _, _, _, _, _, _, A1, P1, P2, P3, P4, P5, R, ?_⟩
  rw [own_Scmp R hxx ?_]
  · rfl
  · by_cases hz : 8 * C * F = 0
    · rw [hz, Nat.zero_mul]
      cases decide (W.toInt < 0) <;> cases decide (x.toInt < 0) <;> rfl
    · have hF : 0 < F := Nat.pos_of_ne_zero fun q => hz (by rw [q, Nat.mul_zero])
      have e : decide (W.toInt < 0) = decide (x.toInt < 0) := by
        rw [hW, hx, nN, eF]
        by_cases k : c.toInt < 0
        · rw [decide_eq_true (Int.mul_neg_of_neg_of_pos k (by omega)), decide_eq_true (Int.mul_neg_of_neg_of_pos (by omega) (by omega))]
        · rw [decide_eq_false (Int.not_lt.mpr (Int.mul_nonneg (by omega) (by omega))), decide_eq_false (Int.not_lt.mpr (Int.mul_nonneg (by omega) (by omega)))]
      rw [e]
theorem own_pn_java_lang_Record : plainName "java/lang/Record" = true := by first | (simp [plainName, overriddenIn]; done) | decide +kernel
theorem own_djdk_30_method_1_code_0 : decode jdk_30_method_1_code 0 = .ok (.aload_n 0, 1) := by decide +kernel
theorem own_djdk_30_method_1_code_1 : decode jdk_30_method_1_code 1 = .ok (.invokespecial 1, 3) := by decide +kernel
theorem own_djdk_30_method_1_code_4 : decode jdk_30_method_1_code 4 = .ok (.return_, 1) := by decide +kernel
theorem own_efRI (m : MethodId) (o : Addr) : entryFrame m #[(.ref o)] 1 = mkF m 0 #[.val (.ref o)] [] := by first | (simp [entryFrame, mkF, argsToLocals, Value.category]; done) | rfl
def own_QRI (Z : State) (o : Addr) (h0 : Heap) (n0 : Nat) (rv__ : Option Value) (h : Heap) (rL__ : List Loc) : Prop := rv__ = none ∧ Fr n0 rL__ ∧ h = h0
abbrev own_RRI : Room := { frames := 1, cells := 0, slots := 0, locals := 12 }
set_option maxRecDepth 65536 in
set_option maxHeartbeats 40000000 in
theorem own_rmRI (l : Launch) (Z : State) (a0 : Array Value) (hw : ∀ d ∈ tables_1, d.before a0 Z = true) (ws : List Jvm.Cond) (o : Addr) (h0 : Heap) (n0 : Nat) (Z0 : n0 ≤ h0.size)  :
    MetFree l (⟨"java/lang/Record", "<init>", "()V"⟩ : MethodName) (head1 (Jvm.Cond.code (⟨"java/lang/Record", "<init>", "()V"⟩ : MethodName) jdk_30_method_1_code 1 none :: ws) own_RRI) (fun aa__ U => aa__ = #[(.ref o)] ∧ Z.Warmed39 U.vm ∧ U.heap = h0) (fun _ _ _ _ _ => True) (fun _ U oc_ U' => ∃ rv__ rL__, oc_ = .returned rv__ ∧ own_QRI Z o h0 n0 rv__ U'.heap rL__ ∧ FrameEnd U oc_ U' rL__ own_RRI.cells own_RRI.slots) := by
  refine MetFree.of_bodySF (plainFor_of_name own_pn_java_lang_Record) hisR ?_
  intro p e s m args below meth c s₁ Bd hml0 hP hK
  obtain ⟨rfl, hZ, hh⟩ := hP
  have hx := Bd.exec
  have hby := Bd.bytes
  have hml : c.maxLocals = 1 := hml0
  have hown : s.vm.findClass "java/lang/Record" = some m.cls := findClass_of_methodNamed Bd.named
  have hnm := (name_of_methodNamed Bd.named Bd.method).1
  have X0 : Stand p l e own_RRI s m #[(.ref o)] below meth c s₁ [] 0 0 := Stand.of_body Bd
  have e0 : s₁.heap = h0 := by rw [← hh, Bd.state]; rfl
  have N0 := Fr.nil n0
  refine own_in (fun _ k => castTop (own_efRI m o) k) ?_
  intro RR hRR
  show own_Go p.tables e below RR (s₁.setTop (mkF m 0 #[.val (.ref o)] []))
  refine own_st (fun _ k => XS.aloadN X0.here hx rfl (hb hby own_djdk_30_method_1_code_0) rfl rfl k) ?_
  show own_Go p.tables e below RR (s₁.setTop (mkF m 1 #[.val (.ref o)] [(.ref o)]))
  obtain ⟨T1, X1, e1, st1⟩ := initO X0 hx hZ hown (hw _ (List.mem_of_getElem? (i := 19) rfl)) (hw _ (List.mem_of_getElem? (i := 20) rfl)) (hw _ (List.mem_of_getElem? (i := 21) rfl)) e0 (g := (mkF m 1 #[.val (.ref o)] [(.ref o)])) rfl (by rw [hml]; rfl) rfl (hb hby own_djdk_30_method_1_code_1) (by decide) (W := 0) (by show 2 * 0 + _ ≤ _; exact Nat.le_of_eq rfl) (by decide)
  refine own_st st1 ?_
  show own_Go p.tables e below RR (T1.setTop (mkF m 4 #[.val (.ref o)] []))
  obtain ⟨fs, hrt_, hrun, hended, hW, hsame⟩ := X1.leave (v := none) (fun _ => rfl)
  refine own_fin (X1.returnOut hx Bd.returns (hb hby own_djdk_30_method_1_code_4) hrt_) (hRR _ ⟨_, hrun, hended, _, _, rfl, ?_, ⟨_, rfl⟩, hW, hsame.mono (by decide) (by decide)⟩)
  show own_QRI Z o h0 n0 _ T1.heap _
  rw [e1]
  exact ⟨rfl, N0, rfl⟩
theorem own_pn_com_example_candex_candex_index_FieldStatistics : plainName "com/example/candex/candex/index/FieldStatistics" = true := by first | (simp [plainName, overriddenIn]; done) | decide +kernel
theorem own_dprog_15_method_1_code_0 : decode prog_15_method_1_code 0 = .ok (.aload_n 0, 1) := by decide +kernel
theorem own_pd___V : parseMethodDescriptor "()V" = some ⟨[], none⟩ := by decide +kernel
theorem own_dprog_15_method_1_code_1 : decode prog_15_method_1_code 1 = .ok (.invokespecial 1, 3) := by decide +kernel
theorem own_dprog_15_method_1_code_4 : decode prog_15_method_1_code 4 = .ok (.aload_n 0, 1) := by decide +kernel
theorem own_dprog_15_method_1_code_5 : decode prog_15_method_1_code 5 = .ok (.lload_n 1, 1) := by decide +kernel
theorem own_dprog_15_method_1_code_6 : decode prog_15_method_1_code 6 = .ok (.putfield 7, 3) := by decide +kernel
theorem own_dprog_15_method_1_code_9 : decode prog_15_method_1_code 9 = .ok (.aload_n 0, 1) := by decide +kernel
theorem own_dprog_15_method_1_code_10 : decode prog_15_method_1_code 10 = .ok (.lload_n 3, 1) := by decide +kernel
theorem own_dprog_15_method_1_code_11 : decode prog_15_method_1_code 11 = .ok (.putfield 13, 3) := by decide +kernel
theorem own_dprog_15_method_1_code_14 : decode prog_15_method_1_code 14 = .ok (.return_, 1) := by decide +kernel
theorem own_efFI (m : MethodId) (o : Addr) (dd : Int64) (tt : Int64) : entryFrame m #[(.ref o), (.long dd), (.long tt)] 5 = mkF m 0 #[.val (.ref o), .val (.long dd), .second, .val (.long tt), .second] [] := by first | (simp [entryFrame, mkF, argsToLocals, Value.category]; done) | rfl
def own_QFI (Z : State) (o : Addr) (dd : Int64) (tt : Int64) (h0 : Heap) (n0 : Nat) (rv__ : Option Value) (h : Heap) (rL__ : List Loc) : Prop := rv__ = none ∧ Fr n0 rL__ ∧ Keep h0 h [o] ∧ Exa Z h o "com/example/candex/candex/index/FieldStatistics" ∧ Fld Z h o "com/example/candex/candex/index/FieldStatistics" "docCount" "J" (.long dd) ∧ Fld Z h o "com/example/candex/candex/index/FieldStatistics" "totalLength" "J" (.long tt)
abbrev own_RFI : Room := { frames := 2, cells := 0, slots := 0, locals := 24 }
set_option maxRecDepth 65536 in
set_option maxHeartbeats 40000000 in
theorem own_rmFI (l : Launch) (Z : State) (a0 : Array Value) (hw : ∀ d ∈ tables_1, d.before a0 Z = true) (ws : List Jvm.Cond) (o : Addr) (dd : Int64) (tt : Int64) (h0 : Heap) (n0 : Nat) (Z0 : n0 ≤ h0.size) (g_o : n0 ≤ o) (E : Exa Z h0 o "com/example/candex/candex/index/FieldStatistics") (Fd : Fld Z h0 o "com/example/candex/candex/index/FieldStatistics" "docCount" "J" (.long (0 : Int64))) (Ft : Fld Z h0 o "com/example/candex/candex/index/FieldStatistics" "totalLength" "J" (.long (0 : Int64))) :
    MetFree l (⟨"com/example/candex/candex/index/FieldStatistics", "<init>", "(JJ)V"⟩ : MethodName) (head1 (Jvm.Cond.code (⟨"com/example/candex/candex/index/FieldStatistics", "<init>", "(JJ)V"⟩ : MethodName) prog_15_method_1_code 5 none :: ws) own_RFI) (fun aa__ U => aa__ = #[(.ref o), (.long dd), (.long tt)] ∧ Z.Warmed39 U.vm ∧ U.heap = h0) (fun _ _ _ _ _ => True) (fun _ U oc_ U' => ∃ rv__ rL__, oc_ = .returned rv__ ∧ own_QFI Z o dd tt h0 n0 rv__ U'.heap rL__ ∧ FrameEnd U oc_ U' rL__ own_RFI.cells own_RFI.slots) := by
  refine MetFree.of_bodySF (plainFor_of_name own_pn_com_example_candex_candex_index_FieldStatistics) hisR ?_
  intro p e s m args below meth c s₁ Bd hml0 hP hK
  obtain ⟨rfl, hZ, hh⟩ := hP
  have hx := Bd.exec
  have hby := Bd.bytes
  have hml : c.maxLocals = 5 := hml0
  have hown : s.vm.findClass "com/example/candex/candex/index/FieldStatistics" = some m.cls := findClass_of_methodNamed Bd.named
  have hnm := (name_of_methodNamed Bd.named Bd.method).1
  have X0 : Stand p l e own_RFI s m #[(.ref o), (.long dd), (.long tt)] below meth c s₁ [] 0 0 := Stand.of_body Bd
  have e0 : s₁.heap = h0 := by rw [← hh, Bd.state]; rfl
  have N0 := Fr.nil n0
  refine own_in (fun _ k => castTop (own_efFI m o dd tt) k) ?_
  intro RR hRR
  show own_Go p.tables e below RR (s₁.setTop (mkF m 0 #[.val (.ref o), .val (.long dd), .second, .val (.long tt), .second] []))
  refine own_st (fun _ k => XS.aloadN X0.here hx rfl (hb hby own_dprog_15_method_1_code_0) rfl rfl k) ?_
  show own_Go p.tables e below RR (s₁.setTop (mkF m 1 #[.val (.ref o), .val (.long dd), .second, .val (.long tt), .second] [(.ref o)]))
  obtain ⟨_, _, ⟨T1, L1, k1, n1⟩, -, X1, ⟨Lc1, hQ1, l1, y1, z1⟩, st1⟩ := X0.specialBack hx (y := (⟨"java/lang/Record", "<init>", "()V"⟩ : MethodName)) rfl hown (mvT hZ (hw _ (List.mem_of_getElem? (i := 14) rfl))) (mvT hZ (hw _ (List.mem_of_getElem? (i := 15) rfl))) (mvT hZ (hw _ (List.mem_of_getElem? (i := 18) rfl))) (by decide) (backOf (W := 0) (own_rmRI l Z a0 hw [] o h0 n0 Z0 ) hZ (hw _ (List.mem_of_getElem? (i := 18) rfl)) (hw _ (List.mem_of_getElem? (i := 17) rfl)) (by decide) (by decide)) (g := (mkF m 1 #[.val (.ref o), .val (.long dd), .second, .val (.long tt), .second] [(.ref o)])) rfl (by rw [hml]; rfl) (Steps.refl _) (a := o) (argsL := []) (rest := []) (lenOf own_pd___V rfl) rfl (by show 2 * 0 + _ ≤ _; exact Nat.le_of_eq rfl) (hb hby own_dprog_15_method_1_code_1) (fun _ _ => ⟨rfl, e0, (by decide : 0 + 0 ≤ _), (by decide : 0 + 0 ≤ _)⟩)
  dsimp only [Pt.U, Pt.locs, Pt.cells, Pt.slots] at X1 l1 y1 z1 st1 hQ1
  rw [l1, y1, z1] at X1
  obtain ⟨rfl, Nq1, eq1⟩ := hQ1
  have N1 := Fr.app N0 Nq1
  refine own_st (fun _ k => st1.trans k) ?_
  show own_Go p.tables e below RR (T1.setTop (mkF m 4 #[.val (.ref o), .val (.long dd), .second, .val (.long tt), .second] []))
  refine own_st (fun _ k => XS.aloadN X1.here hx rfl (hb hby own_dprog_15_method_1_code_4) rfl rfl (XS.lloadN X1.here hx rfl (hb hby own_dprog_15_method_1_code_5) rfl k)) ?_
  show own_Go p.tables e below RR (T1.setTop (mkF m 6 #[.val (.ref o), .val (.long dd), .second, .val (.long tt), .second] [(.long dd), (.ref o)]))
  obtain ⟨T2, h2, X2, e2, W2, st2⟩ := putF X1 hx hZ hown (host := "") (Or.inl (hw _ (List.mem_of_getElem? (i := 22) rfl))) Via.refl eq1 Fd E (Or.inr ⟨(hw _ (List.mem_of_getElem? (i := 23) rfl)), rfl, hnm⟩) (hw _ (List.mem_of_getElem? (i := 8) rfl)) (ty := .long) (by decide) rfl rfl (g := (mkF m 6 #[.val (.ref o), .val (.long dd), .second, .val (.long tt), .second] [(.long dd), (.ref o)])) rfl rfl (hb hby own_dprog_15_method_1_code_6)
  have Fw2 := Fd.same W2
  have N2 := Fr.snoc X2 N1 g_o
  refine own_st st2 ?_
  have z3 : n0 ≤ h2.size := Nat.le_trans Z0 (Keep.of_wr W2).1
  have kk4 : Keep h0 h2 [o] := (Keep.refl h0 [o]).wr W2 (Or.inl (List.mem_of_getElem? (i := 0) rfl))
  show own_Go p.tables e below RR (T2.setTop (mkF m 9 #[.val (.ref o), .val (.long dd), .second, .val (.long tt), .second] []))
  refine own_st (fun _ k => XS.aloadN X2.here hx rfl (hb hby own_dprog_15_method_1_code_9) rfl rfl (XS.lloadN X2.here hx rfl (hb hby own_dprog_15_method_1_code_10) rfl k)) ?_
  show own_Go p.tables e below RR (T2.setTop (mkF m 11 #[.val (.ref o), .val (.long dd), .second, .val (.long tt), .second] [(.long tt), (.ref o)]))
  have f5 := (Ft.other W2 (Or.inr (slot_ne (Or.inr (hw _ (List.mem_of_getElem? (i := 25) rfl))) (Or.inr (hw _ (List.mem_of_getElem? (i := 23) rfl))) (by decide) (t := .long) (t' := .long) (by decide) (by decide))))
  have f6 := (E.wr W2)
  obtain ⟨T7, h7, X7, e7, W7, st7⟩ := putF X2 hx hZ hown (host := "") (Or.inl (hw _ (List.mem_of_getElem? (i := 24) rfl))) Via.refl e2 f5 f6 (Or.inr ⟨(hw _ (List.mem_of_getElem? (i := 25) rfl)), rfl, hnm⟩) (hw _ (List.mem_of_getElem? (i := 8) rfl)) (ty := .long) (by decide) rfl rfl (g := (mkF m 11 #[.val (.ref o), .val (.long dd), .second, .val (.long tt), .second] [(.long tt), (.ref o)])) rfl rfl (hb hby own_dprog_15_method_1_code_11)
  have Fw7 := f5.same W7
  have N7 := Fr.snoc X7 N2 g_o
  refine own_st st7 ?_
  have z8 : n0 ≤ h7.size := Nat.le_trans z3 (Keep.of_wr W7).1
  have kk9 : Keep h0 h7 [o] := kk4.wr W7 (Or.inl (List.mem_of_getElem? (i := 0) rfl))
  show own_Go p.tables e below RR (T7.setTop (mkF m 14 #[.val (.ref o), .val (.long dd), .second, .val (.long tt), .second] []))
  obtain ⟨fs, hrt_, hrun, hended, hW, hsame⟩ := X7.leave (v := none) (fun _ => rfl)
  refine own_fin (X7.returnOut hx Bd.returns (hb hby own_dprog_15_method_1_code_14) hrt_) (hRR _ ⟨_, hrun, hended, _, _, rfl, ?_, ⟨_, rfl⟩, hW, hsame.mono (by decide) (by decide)⟩)
  show own_QFI Z o dd tt h0 n0 _ T7.heap _
  rw [e7]
  have f10 := (f6.wr W7)
  have f11 := (Fw2.other W7 (Or.inr (slot_ne (Or.inr (hw _ (List.mem_of_getElem? (i := 23) rfl))) (Or.inr (hw _ (List.mem_of_getElem? (i := 25) rfl))) (by decide) (t := .long) (t' := .long) (by decide) (by decide))))
  exact ⟨rfl, N7, kk9, f10, f11, Fw7⟩
theorem own_dprog_15_method_6_code_0 : decode prog_15_method_6_code 0 = .ok (.aload_n 0, 1) := by decide +kernel
theorem own_dprog_15_method_6_code_1 : decode prog_15_method_6_code 1 = .ok (.getfield 7, 3) := by decide +kernel
theorem own_dprog_15_method_6_code_4 : decode prog_15_method_6_code 4 = .ok (.lreturn, 1) := by decide +kernel
theorem own_efDC (m : MethodId) (o : Addr) : entryFrame m #[(.ref o)] 1 = mkF m 0 #[.val (.ref o)] [] := by first | (simp [entryFrame, mkF, argsToLocals, Value.category]; done) | rfl
def own_QDC (Z : State) (o : Addr) (dd : Int64) (h0 : Heap) (n0 : Nat) (rv__ : Option Value) (h : Heap) (rL__ : List Loc) : Prop := rv__ = some (.long dd) ∧ Fr n0 rL__ ∧ h = h0
abbrev own_RDC : Room := { frames := 0, cells := 0, slots := 0, locals := 0 }
set_option maxRecDepth 65536 in
set_option maxHeartbeats 40000000 in
theorem own_rmDC (l : Launch) (Z : State) (a0 : Array Value) (hw : ∀ d ∈ tables_1, d.before a0 Z = true) (ws : List Jvm.Cond) (o : Addr) (dd : Int64) (h0 : Heap) (n0 : Nat) (Z0 : n0 ≤ h0.size) (Fd : Fld Z h0 o "com/example/candex/candex/index/FieldStatistics" "docCount" "J" (.long dd)) :
    MetFree l (⟨"com/example/candex/candex/index/FieldStatistics", "docCount", "()J"⟩ : MethodName) (head1 (Jvm.Cond.code (⟨"com/example/candex/candex/index/FieldStatistics", "docCount", "()J"⟩ : MethodName) prog_15_method_6_code 1 (some .long) :: ws) own_RDC) (fun aa__ U => aa__ = #[(.ref o)] ∧ Z.Warmed39 U.vm ∧ U.heap = h0) (fun _ _ _ _ _ => True) (fun _ U oc_ U' => ∃ rv__ rL__, oc_ = .returned rv__ ∧ own_QDC Z o dd h0 n0 rv__ U'.heap rL__ ∧ FrameEnd U oc_ U' rL__ own_RDC.cells own_RDC.slots) := by
  refine MetFree.of_bodySF (plainFor_of_name own_pn_com_example_candex_candex_index_FieldStatistics) hisR ?_
  intro p e s m args below meth c s₁ Bd hml0 hP hK
  obtain ⟨rfl, hZ, hh⟩ := hP
  have hx := Bd.exec
  have hby := Bd.bytes
  have hml : c.maxLocals = 1 := hml0
  have hown : s.vm.findClass "com/example/candex/candex/index/FieldStatistics" = some m.cls := findClass_of_methodNamed Bd.named
  have hnm := (name_of_methodNamed Bd.named Bd.method).1
  have X0 : Stand p l e own_RDC s m #[(.ref o)] below meth c s₁ [] 0 0 := Stand.of_body Bd
  have e0 : s₁.heap = h0 := by rw [← hh, Bd.state]; rfl
  have N0 := Fr.nil n0
  refine own_in (fun _ k => castTop (own_efDC m o) k) ?_
  intro RR hRR
  show own_Go p.tables e below RR (s₁.setTop (mkF m 0 #[.val (.ref o)] []))
  refine own_st (fun _ k => XS.aloadN X0.here hx rfl (hb hby own_dprog_15_method_6_code_0) rfl rfl k) ?_
  show own_Go p.tables e below RR (s₁.setTop (mkF m 1 #[.val (.ref o)] [(.ref o)]))
  obtain ⟨T1, X1, e1, st1⟩ := getF X0 hx hZ hown (host := "") (Or.inl (hw _ (List.mem_of_getElem? (i := 22) rfl))) Via.refl e0 Fd (g := (mkF m 1 #[.val (.ref o)] [(.ref o)])) rfl rfl (hb hby own_dprog_15_method_6_code_1)
  refine own_st st1 ?_
  show own_Go p.tables e below RR (T1.setTop (mkF m 4 #[.val (.ref o)] [(.long dd)]))
  obtain ⟨fs, hrt_, hrun, hended, hW, hsame⟩ := X1.leave (v := some (.long dd)) (fun h => by rw [Bd.returns] at h; cases h)
  refine own_fin (retOut X1 hx Bd.returns rfl (Or.inr (Or.inl ⟨rfl, rfl, _, rfl⟩)) (hb hby own_dprog_15_method_6_code_4) hrt_) (hRR _ ⟨_, hrun, hended, _, _, rfl, ?_, ⟨_, rfl⟩, hW, hsame.mono (by decide) (by decide)⟩)
  show own_QDC Z o dd h0 n0 _ T1.heap _
  rw [e1]
  exact ⟨rfl, N0, rfl⟩
theorem own_dprog_15_method_2_code_0 : decode prog_15_method_2_code 0 = .ok (.aload_n 0, 1) := by decide +kernel
theorem own_dprog_15_method_2_code_1 : decode prog_15_method_2_code 1 = .ok (.getfield 7, 3) := by decide +kernel
theorem own_dprog_15_method_2_code_4 : decode prog_15_method_2_code 4 = .ok (.lconst 0, 1) := by decide +kernel
theorem own_dprog_15_method_2_code_5 : decode prog_15_method_2_code 5 = .ok (.lcmp, 1) := by decide +kernel
theorem own_dprog_15_method_2_code_6 : decode prog_15_method_2_code 6 = .ok (.ifCond .ne 7, 3) := by decide +kernel
theorem own_dprog_15_method_2_code_13 : decode prog_15_method_2_code 13 = .ok (.aload_n 0, 1) := by decide +kernel
theorem own_dprog_15_method_2_code_14 : decode prog_15_method_2_code 14 = .ok (.getfield 13, 3) := by decide +kernel
theorem own_dprog_15_method_2_code_17 : decode prog_15_method_2_code 17 = .ok (.l2d, 1) := by decide +kernel
theorem own_dprog_15_method_2_code_18 : decode prog_15_method_2_code 18 = .ok (.aload_n 0, 1) := by decide +kernel
theorem own_dprog_15_method_2_code_19 : decode prog_15_method_2_code 19 = .ok (.getfield 7, 3) := by decide +kernel
theorem own_dprog_15_method_2_code_22 : decode prog_15_method_2_code 22 = .ok (.l2d, 1) := by decide +kernel
theorem own_dprog_15_method_2_code_23 : decode prog_15_method_2_code 23 = .ok (.ddiv, 1) := by decide +kernel
theorem own_dprog_15_method_2_code_24 : decode prog_15_method_2_code 24 = .ok (.dreturn, 1) := by decide +kernel
theorem own_efAV (m : MethodId) (o : Addr) : entryFrame m #[(.ref o)] 1 = mkF m 0 #[.val (.ref o)] [] := by first | (simp [entryFrame, mkF, argsToLocals, Value.category]; done) | rfl
def own_QAV (Z : State) (o : Addr) (dd : Int64) (tt : Int64) (h0 : Heap) (n0 : Nat) (rv__ : Option Value) (h : Heap) (rL__ : List Loc) : Prop := rv__ = some (.double (FP.ddiv (FP.l2d tt) (FP.l2d dd))) ∧ Fr n0 rL__ ∧ h = h0
abbrev own_RAV : Room := { frames := 0, cells := 0, slots := 0, locals := 0 }
set_option maxRecDepth 65536 in
set_option maxHeartbeats 40000000 in
theorem own_rmAV (l : Launch) (Z : State) (a0 : Array Value) (hw : ∀ d ∈ tables_1, d.before a0 Z = true) (ws : List Jvm.Cond) (o : Addr) (dd : Int64) (tt : Int64) (h0 : Heap) (n0 : Nat) (Z0 : n0 ≤ h0.size) (Fd : Fld Z h0 o "com/example/candex/candex/index/FieldStatistics" "docCount" "J" (.long dd)) (Ft : Fld Z h0 o "com/example/candex/candex/index/FieldStatistics" "totalLength" "J" (.long tt)) (nz : ¬ dd = (0 : Int64)) (hn : Jvm.Free.Fl.NoNaN64 (FP.ddiv (FP.l2d tt) (FP.l2d dd))) :
    MetFree l (⟨"com/example/candex/candex/index/FieldStatistics", "averageLength", "()D"⟩ : MethodName) (head1 (Jvm.Cond.code (⟨"com/example/candex/candex/index/FieldStatistics", "averageLength", "()D"⟩ : MethodName) prog_15_method_2_code 1 (some .double) :: ws) own_RAV) (fun aa__ U => aa__ = #[(.ref o)] ∧ Z.Warmed39 U.vm ∧ U.heap = h0) (fun _ _ _ _ _ => True) (fun _ U oc_ U' => ∃ rv__ rL__, oc_ = .returned rv__ ∧ own_QAV Z o dd tt h0 n0 rv__ U'.heap rL__ ∧ FrameEnd U oc_ U' rL__ own_RAV.cells own_RAV.slots) := by
  refine MetFree.of_bodySF (plainFor_of_name own_pn_com_example_candex_candex_index_FieldStatistics) hisR ?_
  intro p e s m args below meth c s₁ Bd hml0 hP hK
  obtain ⟨rfl, hZ, hh⟩ := hP
  have hx := Bd.exec
  have hby := Bd.bytes
  have hml : c.maxLocals = 1 := hml0
  have hown : s.vm.findClass "com/example/candex/candex/index/FieldStatistics" = some m.cls := findClass_of_methodNamed Bd.named
  have hnm := (name_of_methodNamed Bd.named Bd.method).1
  have X0 : Stand p l e own_RAV s m #[(.ref o)] below meth c s₁ [] 0 0 := Stand.of_body Bd
  have e0 : s₁.heap = h0 := by rw [← hh, Bd.state]; rfl
  have N0 := Fr.nil n0
  refine own_in (fun _ k => castTop (own_efAV m o) k) ?_
  intro RR hRR
  show own_Go p.tables e below RR (s₁.setTop (mkF m 0 #[.val (.ref o)] []))
  refine own_st (fun _ k => XS.aloadN X0.here hx rfl (hb hby own_dprog_15_method_2_code_0) rfl rfl k) ?_
  show own_Go p.tables e below RR (s₁.setTop (mkF m 1 #[.val (.ref o)] [(.ref o)]))
  obtain ⟨T1, X1, e1, st1⟩ := getF X0 hx hZ hown (host := "") (Or.inl (hw _ (List.mem_of_getElem? (i := 22) rfl))) Via.refl e0 Fd (g := (mkF m 1 #[.val (.ref o)] [(.ref o)])) rfl rfl (hb hby own_dprog_15_method_2_code_1)
  refine own_st st1 ?_
  show own_Go p.tables e below RR (T1.setTop (mkF m 4 #[.val (.ref o)] [(.long dd)]))
  refine own_st (fun _ k => XS.lconst X1.here hx rfl (hb hby own_dprog_15_method_2_code_4) (XS.lcmp X1.here hx rfl (hb hby own_dprog_15_method_2_code_5) rfl k)) ?_
  show own_Go p.tables e below RR (T1.setTop (mkF m 6 #[.val (.ref o)] [(.int (lcmpW dd (0 : Int64)))]))
  have hc6_2 : ¬ (dd = (0 : Int64)) := nz
  refine own_st (fun _ k => XS.ifYes X1.here hx rfl (pc0 := 6) (pc' := 13) rfl (hb hby own_dprog_15_method_2_code_6) rfl ((if0 _ _).trans (feq (fun q => hc6_2 ((lw_eq _ _).mp q))).2) (by decide) (by decide) (XS.aloadN X1.here hx rfl (hb hby own_dprog_15_method_2_code_13) rfl rfl k)) ?_
  show own_Go p.tables e below RR (T1.setTop (mkF m 14 #[.val (.ref o)] [(.ref o)]))
  obtain ⟨T3, X3, e3, st3⟩ := getF X1 hx hZ hown (host := "") (Or.inl (hw _ (List.mem_of_getElem? (i := 24) rfl))) Via.refl e1 Ft (g := (mkF m 14 #[.val (.ref o)] [(.ref o)])) rfl rfl (hb hby own_dprog_15_method_2_code_14)
  refine own_st st3 ?_
  show own_Go p.tables e below RR (T3.setTop (mkF m 17 #[.val (.ref o)] [(.long tt)]))
  refine own_st (fun _ k => XS.l2dS X3.here hx rfl (hb hby own_dprog_15_method_2_code_17) rfl rfl (XS.aloadN X3.here hx rfl (hb hby own_dprog_15_method_2_code_18) rfl rfl k)) ?_
  show own_Go p.tables e below RR (T3.setTop (mkF m 19 #[.val (.ref o)] [(.ref o), (.double (FP.l2d tt))]))
  obtain ⟨T4, X4, e4, st4⟩ := getF X3 hx hZ hown (host := "") (Or.inl (hw _ (List.mem_of_getElem? (i := 22) rfl))) Via.refl e3 Fd (g := (mkF m 19 #[.val (.ref o)] [(.ref o), (.double (FP.l2d tt))])) rfl rfl (hb hby own_dprog_15_method_2_code_19)
  refine own_st st4 ?_
  show own_Go p.tables e below RR (T4.setTop (mkF m 22 #[.val (.ref o)] [(.long dd), (.double (FP.l2d tt))]))
  refine own_st (fun _ k => XS.l2dS X4.here hx rfl (hb hby own_dprog_15_method_2_code_22) rfl rfl k) ?_
  show own_Go p.tables e below RR (T4.setTop (mkF m 23 #[.val (.ref o)] [(.double (FP.l2d dd)), (.double (FP.l2d tt))]))
  refine own_st (fun _ k => XS.ddivS X4.here hx rfl (hb hby own_dprog_15_method_2_code_23) rfl hn rfl k) ?_
  show own_Go p.tables e below RR (T4.setTop (mkF m 24 #[.val (.ref o)] [(.double (FP.ddiv (FP.l2d tt) (FP.l2d dd)))]))
  obtain ⟨fs, hrt_, hrun, hended, hW, hsame⟩ := X4.leave (v := some (.double (FP.ddiv (FP.l2d tt) (FP.l2d dd)))) (fun h => by rw [Bd.returns] at h; cases h)
  refine own_fin (retOut X4 hx Bd.returns rfl (Or.inr (Or.inr (Or.inl ⟨rfl, rfl, _, rfl⟩))) (hb hby own_dprog_15_method_2_code_24) hrt_) (hRR _ ⟨_, hrun, hended, _, _, rfl, ?_, ⟨_, rfl⟩, hW, hsame.mono (by decide) (by decide)⟩)
  show own_QAV Z o dd tt h0 n0 _ T4.heap _
  rw [e4]
  exact ⟨rfl, N0, rfl⟩
theorem own_pn_com_example_candex_candex_search_Bm25 : plainName "com/example/candex/candex/search/Bm25" = true := by first | (simp [plainName, overriddenIn]; done) | decide +kernel
theorem own_dprog_55_method_1_code_0 : decode prog_55_method_1_code 0 = .ok (.aload_n 0, 1) := by decide +kernel
theorem own_dprog_55_method_1_code_1 : decode prog_55_method_1_code 1 = .ok (.invokespecial 1, 3) := by decide +kernel
theorem own_dprog_55_method_1_code_4 : decode prog_55_method_1_code 4 = .ok (.aload_n 0, 1) := by decide +kernel
theorem own_dprog_55_method_1_code_5 : decode prog_55_method_1_code 5 = .ok (.aload_n 1, 1) := by decide +kernel
theorem own_pd___J : parseMethodDescriptor "()J" = some ⟨[], some .long⟩ := by decide +kernel
theorem own_dprog_55_method_1_code_6 : decode prog_55_method_1_code 6 = .ok (.invokevirtual 7, 3) := by decide +kernel
theorem own_dprog_55_method_1_code_9 : decode prog_55_method_1_code 9 = .ok (.putfield 13, 3) := by decide +kernel
theorem own_dprog_55_method_1_code_12 : decode prog_55_method_1_code 12 = .ok (.aload_n 0, 1) := by decide +kernel
theorem own_dprog_55_method_1_code_13 : decode prog_55_method_1_code 13 = .ok (.aload_n 1, 1) := by decide +kernel
theorem own_pd___D : parseMethodDescriptor "()D" = some ⟨[], some .double⟩ := by decide +kernel
theorem own_dprog_55_method_1_code_14 : decode prog_55_method_1_code 14 = .ok (.invokevirtual 18, 3) := by decide +kernel
theorem own_dprog_55_method_1_code_17 : decode prog_55_method_1_code 17 = .ok (.putfield 22, 3) := by decide +kernel
theorem own_dprog_55_method_1_code_20 : decode prog_55_method_1_code 20 = .ok (.return_, 1) := by decide +kernel
theorem own_efBI (m : MethodId) (o : Addr) (q : Addr) : entryFrame m #[(.ref o), (.ref q)] 2 = mkF m 0 #[.val (.ref o), .val (.ref q)] [] := by first | (simp [entryFrame, mkF, argsToLocals, Value.category]; done) | rfl
def own_QBI (Z : State) (o : Addr) (q : Addr) (dd : Int64) (tt : Int64) (h0 : Heap) (n0 : Nat) (rv__ : Option Value) (h : Heap) (rL__ : List Loc) : Prop := rv__ = none ∧ Fr n0 rL__ ∧ Keep h0 h [o] ∧ Exa Z h o "com/example/candex/candex/search/Bm25" ∧ Fld Z h o "com/example/candex/candex/search/Bm25" "averageLength" "D" (.double (FP.ddiv (FP.l2d tt) (FP.l2d dd)))
abbrev own_RBI : Room := { frames := 1, cells := 0, slots := 0, locals := 13 }
set_option maxRecDepth 65536 in
set_option maxHeartbeats 40000000 in
theorem own_rmBI (l : Launch) (Z : State) (a0 : Array Value) (hw : ∀ d ∈ tables_1, d.before a0 Z = true) (ws : List Jvm.Cond) (o : Addr) (q : Addr) (dd : Int64) (tt : Int64) (h0 : Heap) (n0 : Nat) (Z0 : n0 ≤ h0.size) (g_o : n0 ≤ o) (E : Exa Z h0 o "com/example/candex/candex/search/Bm25") (Bdc : Fld Z h0 o "com/example/candex/candex/search/Bm25" "docCount" "J" (.long (0 : Int64))) (Ba : Fld Z h0 o "com/example/candex/candex/search/Bm25" "averageLength" "D" (.double (0 : UInt64))) (Eq_ : Exa Z h0 q "com/example/candex/candex/index/FieldStatistics") (Fd : Fld Z h0 q "com/example/candex/candex/index/FieldStatistics" "docCount" "J" (.long dd)) (Ft : Fld Z h0 q "com/example/candex/candex/index/FieldStatistics" "totalLength" "J" (.long tt)) (nz : ¬ dd = (0 : Int64)) (hn : Jvm.Free.Fl.NoNaN64 (FP.ddiv (FP.l2d tt) (FP.l2d dd))) (neq : q ≠ o) :
    MetFree l (⟨"com/example/candex/candex/search/Bm25", "<init>", "(Lcom/example/candex/candex/index/FieldStatistics;)V"⟩ : MethodName) (head1 (Jvm.Cond.code (⟨"com/example/candex/candex/search/Bm25", "<init>", "(Lcom/example/candex/candex/index/FieldStatistics;)V"⟩ : MethodName) prog_55_method_1_code 2 none :: ws) own_RBI) (fun aa__ U => aa__ = #[(.ref o), (.ref q)] ∧ Z.Warmed39 U.vm ∧ U.heap = h0) (fun _ _ _ _ _ => True) (fun _ U oc_ U' => ∃ rv__ rL__, oc_ = .returned rv__ ∧ own_QBI Z o q dd tt h0 n0 rv__ U'.heap rL__ ∧ FrameEnd U oc_ U' rL__ own_RBI.cells own_RBI.slots) := by
  refine MetFree.of_bodySF (plainFor_of_name own_pn_com_example_candex_candex_search_Bm25) hisR ?_
  intro p e s m args below meth c s₁ Bd hml0 hP hK
  obtain ⟨rfl, hZ, hh⟩ := hP
  have hx := Bd.exec
  have hby := Bd.bytes
  have hml : c.maxLocals = 2 := hml0
  have hown : s.vm.findClass "com/example/candex/candex/search/Bm25" = some m.cls := findClass_of_methodNamed Bd.named
  have hnm := (name_of_methodNamed Bd.named Bd.method).1
  have X0 : Stand p l e own_RBI s m #[(.ref o), (.ref q)] below meth c s₁ [] 0 0 := Stand.of_body Bd
  have e0 : s₁.heap = h0 := by rw [← hh, Bd.state]; rfl
  have N0 := Fr.nil n0
  refine own_in (fun _ k => castTop (own_efBI m o q) k) ?_
  intro RR hRR
  show own_Go p.tables e below RR (s₁.setTop (mkF m 0 #[.val (.ref o), .val (.ref q)] []))
  refine own_st (fun _ k => XS.aloadN X0.here hx rfl (hb hby own_dprog_55_method_1_code_0) rfl rfl k) ?_
  show own_Go p.tables e below RR (s₁.setTop (mkF m 1 #[.val (.ref o), .val (.ref q)] [(.ref o)]))
  obtain ⟨T1, X1, e1, st1⟩ := initO X0 hx hZ hown (hw _ (List.mem_of_getElem? (i := 29) rfl)) (hw _ (List.mem_of_getElem? (i := 20) rfl)) (hw _ (List.mem_of_getElem? (i := 21) rfl)) e0 (g := (mkF m 1 #[.val (.ref o), .val (.ref q)] [(.ref o)])) rfl (by rw [hml]; rfl) rfl (hb hby own_dprog_55_method_1_code_1) (by decide) (W := 0) (by show 2 * 0 + _ ≤ _; exact Nat.le_of_eq rfl) (by decide)
  refine own_st st1 ?_
  show own_Go p.tables e below RR (T1.setTop (mkF m 4 #[.val (.ref o), .val (.ref q)] []))
  refine own_st (fun _ k => XS.aloadN X1.here hx rfl (hb hby own_dprog_55_method_1_code_4) rfl rfl (XS.aloadN X1.here hx rfl (hb hby own_dprog_55_method_1_code_5) rfl rfl k)) ?_
  show own_Go p.tables e below RR (T1.setTop (mkF m 6 #[.val (.ref o), .val (.ref q)] [(.ref q), (.ref o)]))
  obtain ⟨cq2, kq2, q2a, q2b, q2c⟩ := isOf hZ e1 Eq_
  obtain ⟨_, _, ⟨T2, L2, k2, n2⟩, -, X2, ⟨Lc2, hQ2, l2, y2, z2⟩, st2⟩ := X1.virtualBack hx (y := (⟨"com/example/candex/candex/index/FieldStatistics", "docCount", "()J"⟩ : MethodName)) (z := (⟨"com/example/candex/candex/index/FieldStatistics", "docCount", "()J"⟩ : MethodName)) hown (mvT hZ (hw _ (List.mem_of_getElem? (i := 30) rfl))) (mvT hZ (hw _ (List.mem_of_getElem? (i := 31) rfl))) (notFace_of_selects (args := #[]) (mvT hZ (hw _ (List.mem_of_getElem? (i := 33) rfl)))) (mvT hZ (hw _ (List.mem_of_getElem? (i := 33) rfl))) (mvT hZ (hw _ (List.mem_of_getElem? (i := 32) rfl))) (by decide) (backOf (W := 1) (own_rmDC l Z a0 hw [] q dd h0 n0 Z0 Fd) hZ (hw _ (List.mem_of_getElem? (i := 34) rfl)) (hw _ (List.mem_of_getElem? (i := 9) rfl)) (by decide) (by decide)) q2a q2c (g := (mkF m 6 #[.val (.ref o), .val (.ref q)] [(.ref q), (.ref o)])) rfl (by rw [hml]; rfl) (Steps.refl _) (argsL := []) (rest := [(.ref o)]) (lenOf own_pd___J rfl) rfl (by show 2 * 0 + _ ≤ _; exact Nat.le_of_eq rfl) (hb hby own_dprog_55_method_1_code_6) (fun _ _ => ⟨rfl, e1, (by decide : 0 + 0 ≤ _), (by decide : 0 + 0 ≤ _)⟩)
  dsimp only [Pt.U, Pt.locs, Pt.cells, Pt.slots] at X2 l2 y2 z2 st2 hQ2
  rw [l2, y2, z2] at X2
  obtain ⟨rfl, Nq2, eq2⟩ := hQ2
  have N2 := Fr.app N0 Nq2
  refine own_st (fun _ k => st2.trans k) ?_
  show own_Go p.tables e below RR (T2.setTop (mkF m 9 #[.val (.ref o), .val (.ref q)] [(.long dd), (.ref o)]))
  obtain ⟨T3, h3, X3, e3, W3, st3⟩ := putF X2 hx hZ hown (host := "") (Or.inl (hw _ (List.mem_of_getElem? (i := 35) rfl))) Via.refl eq2 Bdc E (Or.inr ⟨(hw _ (List.mem_of_getElem? (i := 36) rfl)), rfl, hnm⟩) (hw _ (List.mem_of_getElem? (i := 5) rfl)) (ty := .long) (by decide) rfl rfl (g := (mkF m 9 #[.val (.ref o), .val (.ref q)] [(.long dd), (.ref o)])) rfl rfl (hb hby own_dprog_55_method_1_code_9)
  have Fw3 := Bdc.same W3
  have N3 := Fr.snoc X3 N2 g_o
  refine own_st st3 ?_
  have z4 : n0 ≤ h3.size := Nat.le_trans Z0 (Keep.of_wr W3).1
  have kk5 : Keep h0 h3 [o] := (Keep.refl h0 [o]).wr W3 (Or.inl (List.mem_of_getElem? (i := 0) rfl))
  show own_Go p.tables e below RR (T3.setTop (mkF m 12 #[.val (.ref o), .val (.ref q)] []))
  refine own_st (fun _ k => XS.aloadN X3.here hx rfl (hb hby own_dprog_55_method_1_code_12) rfl rfl (XS.aloadN X3.here hx rfl (hb hby own_dprog_55_method_1_code_13) rfl rfl k)) ?_
  show own_Go p.tables e below RR (T3.setTop (mkF m 14 #[.val (.ref o), .val (.ref q)] [(.ref q), (.ref o)]))
  have f6 := (Fd.other W3 (Or.inl neq))
  have f7 := (Ft.other W3 (Or.inl neq))
  have f9 := (Eq_.wr W3)
  obtain ⟨cq8, kq8, q8a, q8b, q8c⟩ := isOf hZ e3 f9
  obtain ⟨_, _, ⟨T8, L8, k8, n8⟩, -, X8, ⟨Lc8, hQ8, l8, y8, z8⟩, st8⟩ := X3.virtualBack hx (y := (⟨"com/example/candex/candex/index/FieldStatistics", "averageLength", "()D"⟩ : MethodName)) (z := (⟨"com/example/candex/candex/index/FieldStatistics", "averageLength", "()D"⟩ : MethodName)) hown (mvT hZ (hw _ (List.mem_of_getElem? (i := 37) rfl))) (mvT hZ (hw _ (List.mem_of_getElem? (i := 38) rfl))) (notFace_of_selects (args := #[]) (mvT hZ (hw _ (List.mem_of_getElem? (i := 40) rfl)))) (mvT hZ (hw _ (List.mem_of_getElem? (i := 40) rfl))) (mvT hZ (hw _ (List.mem_of_getElem? (i := 39) rfl))) (by decide) (backOf (W := 1) (own_rmAV l Z a0 hw [] q dd tt h3 n0 z4 f6 f7 nz hn) hZ (hw _ (List.mem_of_getElem? (i := 41) rfl)) (hw _ (List.mem_of_getElem? (i := 9) rfl)) (by decide) (by decide)) q8a q8c (g := (mkF m 14 #[.val (.ref o), .val (.ref q)] [(.ref q), (.ref o)])) rfl (by rw [hml]; rfl) (Steps.refl _) (argsL := []) (rest := [(.ref o)]) (lenOf own_pd___D rfl) rfl (by show 2 * 0 + _ ≤ _; exact Nat.le_of_eq rfl) (hb hby own_dprog_55_method_1_code_14) (fun _ _ => ⟨rfl, e3, (by decide : 0 + 0 ≤ _), (by decide : 0 + 0 ≤ _)⟩)
  dsimp only [Pt.U, Pt.locs, Pt.cells, Pt.slots] at X8 l8 y8 z8 st8 hQ8
  rw [l8, y8, z8] at X8
  obtain ⟨rfl, Nq8, eq8⟩ := hQ8
  have N8 := Fr.app N3 Nq8
  refine own_st (fun _ k => st8.trans k) ?_
  show own_Go p.tables e below RR (T8.setTop (mkF m 17 #[.val (.ref o), .val (.ref q)] [(.double (FP.ddiv (FP.l2d tt) (FP.l2d dd))), (.ref o)]))
  have f10 := (Ba.other W3 (Or.inr (slot_ne (Or.inr (hw _ (List.mem_of_getElem? (i := 43) rfl))) (Or.inr (hw _ (List.mem_of_getElem? (i := 36) rfl))) (by decide) (t := .double) (t' := .long) (by decide) (by decide))))
  have f11 := (E.wr W3)
  obtain ⟨T12, h12, X12, e12, W12, st12⟩ := putF X8 hx hZ hown (host := "") (Or.inl (hw _ (List.mem_of_getElem? (i := 42) rfl))) Via.refl eq8 f10 f11 (Or.inr ⟨(hw _ (List.mem_of_getElem? (i := 43) rfl)), rfl, hnm⟩) (hw _ (List.mem_of_getElem? (i := 5) rfl)) (ty := .double) (by decide) rfl rfl (g := (mkF m 17 #[.val (.ref o), .val (.ref q)] [(.double (FP.ddiv (FP.l2d tt) (FP.l2d dd))), (.ref o)])) rfl rfl (hb hby own_dprog_55_method_1_code_17)
  have Fw12 := f10.same W12
  have N12 := Fr.snoc X12 N8 g_o
  refine own_st st12 ?_
  have z13 : n0 ≤ h12.size := Nat.le_trans z4 (Keep.of_wr W12).1
  have kk14 : Keep h0 h12 [o] := kk5.wr W12 (Or.inl (List.mem_of_getElem? (i := 0) rfl))
  show own_Go p.tables e below RR (T12.setTop (mkF m 20 #[.val (.ref o), .val (.ref q)] []))
  obtain ⟨fs, hrt_, hrun, hended, hW, hsame⟩ := X12.leave (v := none) (fun _ => rfl)
  refine own_fin (X12.returnOut hx Bd.returns (hb hby own_dprog_55_method_1_code_20) hrt_) (hRR _ ⟨_, hrun, hended, _, _, rfl, ?_, ⟨_, rfl⟩, hW, hsame.mono (by decide) (by decide)⟩)
  show own_QBI Z o q dd tt h0 n0 _ T12.heap _
  rw [e12]
  have f15 := (f11.wr W12)
  exact ⟨rfl, N12, kk14, f15, Fw12⟩
theorem own_dprog_55_method_3_code_0 : decode prog_55_method_3_code 0 = .ok (.dload_n 1, 1) := by decide +kernel
theorem own_dprog_55_method_3_code_1 : decode prog_55_method_3_code 1 = .ok (.iload_n 3, 1) := by decide +kernel
theorem own_dprog_55_method_3_code_2 : decode prog_55_method_3_code 2 = .ok (.i2d, 1) := by decide +kernel
theorem own_dprog_55_method_3_code_3 : decode prog_55_method_3_code 3 = .ok (.dmul, 1) := by decide +kernel
theorem own_dprog_55_method_3_code_4 : decode prog_55_method_3_code 4 = .ok (.iload_n 3, 1) := by decide +kernel
theorem own_dprog_55_method_3_code_5 : decode prog_55_method_3_code 5 = .ok (.i2d, 1) := by decide +kernel
theorem own_dprog_55_method_3_code_6 : decode prog_55_method_3_code 6 = .ok (.ldc2_w 33, 3) := by decide +kernel
theorem own_dprog_55_method_3_code_9 : decode prog_55_method_3_code 9 = .ok (.ldc2_w 35, 3) := by decide +kernel
theorem own_dprog_55_method_3_code_12 : decode prog_55_method_3_code 12 = .ok (.ldc2_w 37, 3) := by decide +kernel
theorem own_dprog_55_method_3_code_15 : decode prog_55_method_3_code 15 = .ok (.iload 4, 2) := by decide +kernel
theorem own_dprog_55_method_3_code_17 : decode prog_55_method_3_code 17 = .ok (.i2d, 1) := by decide +kernel
theorem own_dprog_55_method_3_code_18 : decode prog_55_method_3_code 18 = .ok (.dmul, 1) := by decide +kernel
theorem own_dprog_55_method_3_code_19 : decode prog_55_method_3_code 19 = .ok (.aload_n 0, 1) := by decide +kernel
theorem own_dprog_55_method_3_code_20 : decode prog_55_method_3_code 20 = .ok (.getfield 22, 3) := by decide +kernel
theorem own_dprog_55_method_3_code_23 : decode prog_55_method_3_code 23 = .ok (.ddiv, 1) := by decide +kernel
theorem own_dprog_55_method_3_code_24 : decode prog_55_method_3_code 24 = .ok (.dadd, 1) := by decide +kernel
theorem own_dprog_55_method_3_code_25 : decode prog_55_method_3_code 25 = .ok (.dmul, 1) := by decide +kernel
theorem own_dprog_55_method_3_code_26 : decode prog_55_method_3_code 26 = .ok (.dadd, 1) := by decide +kernel
theorem own_dprog_55_method_3_code_27 : decode prog_55_method_3_code 27 = .ok (.ddiv, 1) := by decide +kernel
theorem own_dprog_55_method_3_code_28 : decode prog_55_method_3_code 28 = .ok (.dreturn, 1) := by decide +kernel
theorem own_efSC (m : MethodId) (o : Addr) (wt : UInt64) (fq : Int32) (ln : Int32) : entryFrame m #[(.ref o), (.double wt), (.int fq), (.int ln)] 5 = mkF m 0 #[.val (.ref o), .val (.double wt), .second, .val (.int fq), .val (.int ln)] [] := by first | (simp [entryFrame, mkF, argsToLocals, Value.category]; done) | rfl
def own_QSC (Z : State) (o : Addr) (wt : UInt64) (fq : Int32) (ln : Int32) (gg : UInt64) (h0 : Heap) (n0 : Nat) (rv__ : Option Value) (h : Heap) (rL__ : List Loc) : Prop := rv__ = some (.double (FP.ddiv (FP.dmul wt (FP.i2d fq)) (FP.dadd (FP.i2d fq) (FP.dmul (4608083138725491507 : UInt64) (FP.dadd (4598175219545276416 : UInt64) (FP.ddiv (FP.dmul (4604930618986332160 : UInt64) (FP.i2d ln)) gg)))))) ∧ Fr n0 rL__ ∧ h = h0
abbrev own_RSC : Room := { frames := 0, cells := 0, slots := 0, locals := 0 }
set_option maxRecDepth 65536 in
set_option maxHeartbeats 40000000 in
theorem own_rmSC (l : Launch) (Z : State) (a0 : Array Value) (hw : ∀ d ∈ tables_1, d.before a0 Z = true) (ws : List Jvm.Cond) (o : Addr) (wt : UInt64) (fq : Int32) (ln : Int32) (gg : UInt64) (h0 : Heap) (n0 : Nat) (Z0 : n0 ≤ h0.size) (Ba : Fld Z h0 o "com/example/candex/candex/search/Bm25" "averageLength" "D" (.double gg)) (hn0 : Jvm.Free.Fl.NoNaN64 (FP.dmul wt (FP.i2d fq))) (hn1 : Jvm.Free.Fl.NoNaN64 (FP.dmul (4604930618986332160 : UInt64) (FP.i2d ln))) (hn2 : Jvm.Free.Fl.NoNaN64 (FP.ddiv (FP.dmul (4604930618986332160 : UInt64) (FP.i2d ln)) gg)) (hn3 : Jvm.Free.Fl.NoNaN64 (FP.dadd (4598175219545276416 : UInt64) (FP.ddiv (FP.dmul (4604930618986332160 : UInt64) (FP.i2d ln)) gg))) (hn4 : Jvm.Free.Fl.NoNaN64 (FP.dmul (4608083138725491507 : UInt64) (FP.dadd (4598175219545276416 : UInt64) (FP.ddiv (FP.dmul (4604930618986332160 : UInt64) (FP.i2d ln)) gg)))) (hn5 : Jvm.Free.Fl.NoNaN64 (FP.dadd (FP.i2d fq) (FP.dmul (4608083138725491507 : UInt64) (FP.dadd (4598175219545276416 : UInt64) (FP.ddiv (FP.dmul (4604930618986332160 : UInt64) (FP.i2d ln)) gg))))) (hn6 : Jvm.Free.Fl.NoNaN64 (FP.ddiv (FP.dmul wt (FP.i2d fq)) (FP.dadd (FP.i2d fq) (FP.dmul (4608083138725491507 : UInt64) (FP.dadd (4598175219545276416 : UInt64) (FP.ddiv (FP.dmul (4604930618986332160 : UInt64) (FP.i2d ln)) gg)))))) :
    MetFree l (⟨"com/example/candex/candex/search/Bm25", "score", "(DII)D"⟩ : MethodName) (head1 (Jvm.Cond.code (⟨"com/example/candex/candex/search/Bm25", "score", "(DII)D"⟩ : MethodName) prog_55_method_3_code 5 (some .double) :: ws) own_RSC) (fun aa__ U => aa__ = #[(.ref o), (.double wt), (.int fq), (.int ln)] ∧ Z.Warmed39 U.vm ∧ U.heap = h0) (fun _ _ _ _ _ => True) (fun _ U oc_ U' => ∃ rv__ rL__, oc_ = .returned rv__ ∧ own_QSC Z o wt fq ln gg h0 n0 rv__ U'.heap rL__ ∧ FrameEnd U oc_ U' rL__ own_RSC.cells own_RSC.slots) := by
  refine MetFree.of_bodySF (plainFor_of_name own_pn_com_example_candex_candex_search_Bm25) hisR ?_
  intro p e s m args below meth c s₁ Bd hml0 hP hK
  obtain ⟨rfl, hZ, hh⟩ := hP
  have hx := Bd.exec
  have hby := Bd.bytes
  have hml : c.maxLocals = 5 := hml0
  have hown : s.vm.findClass "com/example/candex/candex/search/Bm25" = some m.cls := findClass_of_methodNamed Bd.named
  have hnm := (name_of_methodNamed Bd.named Bd.method).1
  have X0 : Stand p l e own_RSC s m #[(.ref o), (.double wt), (.int fq), (.int ln)] below meth c s₁ [] 0 0 := Stand.of_body Bd
  have e0 : s₁.heap = h0 := by rw [← hh, Bd.state]; rfl
  have N0 := Fr.nil n0
  refine own_in (fun _ k => castTop (own_efSC m o wt fq ln) k) ?_
  intro RR hRR
  show own_Go p.tables e below RR (s₁.setTop (mkF m 0 #[.val (.ref o), .val (.double wt), .second, .val (.int fq), .val (.int ln)] []))
  refine own_st (fun _ k => XS.dloadN X0.here hx rfl (hb hby own_dprog_55_method_3_code_0) rfl (XS.iloadN X0.here hx rfl (hb hby own_dprog_55_method_3_code_1) rfl k)) ?_
  show own_Go p.tables e below RR (s₁.setTop (mkF m 2 #[.val (.ref o), .val (.double wt), .second, .val (.int fq), .val (.int ln)] [(.int fq), (.double wt)]))
  refine own_st (fun _ k => XS.i2dS X0.here hx rfl (hb hby own_dprog_55_method_3_code_2) rfl rfl k) ?_
  show own_Go p.tables e below RR (s₁.setTop (mkF m 3 #[.val (.ref o), .val (.double wt), .second, .val (.int fq), .val (.int ln)] [(.double (FP.i2d fq)), (.double wt)]))
  refine own_st (fun _ k => XS.dmulS X0.here hx rfl (hb hby own_dprog_55_method_3_code_3) rfl hn0 rfl (XS.iloadN X0.here hx rfl (hb hby own_dprog_55_method_3_code_4) rfl k)) ?_
  show own_Go p.tables e below RR (s₁.setTop (mkF m 5 #[.val (.ref o), .val (.double wt), .second, .val (.int fq), .val (.int ln)] [(.int fq), (.double (FP.dmul wt (FP.i2d fq)))]))
  refine own_st (fun _ k => XS.i2dS X0.here hx rfl (hb hby own_dprog_55_method_3_code_5) rfl rfl k) ?_
  show own_Go p.tables e below RR (s₁.setTop (mkF m 6 #[.val (.ref o), .val (.double wt), .second, .val (.int fq), .val (.int ln)] [(.double (FP.i2d fq)), (.double (FP.dmul wt (FP.i2d fq)))]))
  refine own_st (fun _ k => X0.ldc2DoubleC hx hown (mvT hZ (hw _ (List.mem_of_getElem? (i := 51) rfl))) (g := (mkF m 6 #[.val (.ref o), .val (.double wt), .second, .val (.int fq), .val (.int ln)] [(.double (FP.i2d fq)), (.double (FP.dmul wt (FP.i2d fq)))])) rfl (hb hby own_dprog_55_method_3_code_6) _ k) ?_
  show own_Go p.tables e below RR (s₁.setTop (mkF m 9 #[.val (.ref o), .val (.double wt), .second, .val (.int fq), .val (.int ln)] [(.double (4608083138725491507 : UInt64)), (.double (FP.i2d fq)), (.double (FP.dmul wt (FP.i2d fq)))]))
  refine own_st (fun _ k => X0.ldc2DoubleC hx hown (mvT hZ (hw _ (List.mem_of_getElem? (i := 52) rfl))) (g := (mkF m 9 #[.val (.ref o), .val (.double wt), .second, .val (.int fq), .val (.int ln)] [(.double (4608083138725491507 : UInt64)), (.double (FP.i2d fq)), (.double (FP.dmul wt (FP.i2d fq)))])) rfl (hb hby own_dprog_55_method_3_code_9) _ k) ?_
  show own_Go p.tables e below RR (s₁.setTop (mkF m 12 #[.val (.ref o), .val (.double wt), .second, .val (.int fq), .val (.int ln)] [(.double (4598175219545276416 : UInt64)), (.double (4608083138725491507 : UInt64)), (.double (FP.i2d fq)), (.double (FP.dmul wt (FP.i2d fq)))]))
  refine own_st (fun _ k => X0.ldc2DoubleC hx hown (mvT hZ (hw _ (List.mem_of_getElem? (i := 53) rfl))) (g := (mkF m 12 #[.val (.ref o), .val (.double wt), .second, .val (.int fq), .val (.int ln)] [(.double (4598175219545276416 : UInt64)), (.double (4608083138725491507 : UInt64)), (.double (FP.i2d fq)), (.double (FP.dmul wt (FP.i2d fq)))])) rfl (hb hby own_dprog_55_method_3_code_12) _ (XS.iload X0.here hx rfl (hb hby own_dprog_55_method_3_code_15) rfl k)) ?_
  show own_Go p.tables e below RR (s₁.setTop (mkF m 17 #[.val (.ref o), .val (.double wt), .second, .val (.int fq), .val (.int ln)] [(.int ln), (.double (4604930618986332160 : UInt64)), (.double (4598175219545276416 : UInt64)), (.double (4608083138725491507 : UInt64)), (.double (FP.i2d fq)), (.double (FP.dmul wt (FP.i2d fq)))]))
  refine own_st (fun _ k => XS.i2dS X0.here hx rfl (hb hby own_dprog_55_method_3_code_17) rfl rfl k) ?_
  show own_Go p.tables e below RR (s₁.setTop (mkF m 18 #[.val (.ref o), .val (.double wt), .second, .val (.int fq), .val (.int ln)] [(.double (FP.i2d ln)), (.double (4604930618986332160 : UInt64)), (.double (4598175219545276416 : UInt64)), (.double (4608083138725491507 : UInt64)), (.double (FP.i2d fq)), (.double (FP.dmul wt (FP.i2d fq)))]))
  refine own_st (fun _ k => XS.dmulS X0.here hx rfl (hb hby own_dprog_55_method_3_code_18) rfl hn1 rfl (XS.aloadN X0.here hx rfl (hb hby own_dprog_55_method_3_code_19) rfl rfl k)) ?_
  show own_Go p.tables e below RR (s₁.setTop (mkF m 20 #[.val (.ref o), .val (.double wt), .second, .val (.int fq), .val (.int ln)] [(.ref o), (.double (FP.dmul (4604930618986332160 : UInt64) (FP.i2d ln))), (.double (4598175219545276416 : UInt64)), (.double (4608083138725491507 : UInt64)), (.double (FP.i2d fq)), (.double (FP.dmul wt (FP.i2d fq)))]))
  obtain ⟨T1, X1, e1, st1⟩ := getF X0 hx hZ hown (host := "") (Or.inl (hw _ (List.mem_of_getElem? (i := 42) rfl))) Via.refl e0 Ba (g := (mkF m 20 #[.val (.ref o), .val (.double wt), .second, .val (.int fq), .val (.int ln)] [(.ref o), (.double (FP.dmul (4604930618986332160 : UInt64) (FP.i2d ln))), (.double (4598175219545276416 : UInt64)), (.double (4608083138725491507 : UInt64)), (.double (FP.i2d fq)), (.double (FP.dmul wt (FP.i2d fq)))])) rfl rfl (hb hby own_dprog_55_method_3_code_20)
  refine own_st st1 ?_
  show own_Go p.tables e below RR (T1.setTop (mkF m 23 #[.val (.ref o), .val (.double wt), .second, .val (.int fq), .val (.int ln)] [(.double gg), (.double (FP.dmul (4604930618986332160 : UInt64) (FP.i2d ln))), (.double (4598175219545276416 : UInt64)), (.double (4608083138725491507 : UInt64)), (.double (FP.i2d fq)), (.double (FP.dmul wt (FP.i2d fq)))]))
  refine own_st (fun _ k => XS.ddivS X1.here hx rfl (hb hby own_dprog_55_method_3_code_23) rfl hn2 rfl k) ?_
  show own_Go p.tables e below RR (T1.setTop (mkF m 24 #[.val (.ref o), .val (.double wt), .second, .val (.int fq), .val (.int ln)] [(.double (FP.ddiv (FP.dmul (4604930618986332160 : UInt64) (FP.i2d ln)) gg)), (.double (4598175219545276416 : UInt64)), (.double (4608083138725491507 : UInt64)), (.double (FP.i2d fq)), (.double (FP.dmul wt (FP.i2d fq)))]))
  refine own_st (fun _ k => XS.daddS X1.here hx rfl (hb hby own_dprog_55_method_3_code_24) rfl hn3 rfl k) ?_
  show own_Go p.tables e below RR (T1.setTop (mkF m 25 #[.val (.ref o), .val (.double wt), .second, .val (.int fq), .val (.int ln)] [(.double (FP.dadd (4598175219545276416 : UInt64) (FP.ddiv (FP.dmul (4604930618986332160 : UInt64) (FP.i2d ln)) gg))), (.double (4608083138725491507 : UInt64)), (.double (FP.i2d fq)), (.double (FP.dmul wt (FP.i2d fq)))]))
  refine own_st (fun _ k => XS.dmulS X1.here hx rfl (hb hby own_dprog_55_method_3_code_25) rfl hn4 rfl k) ?_
  show own_Go p.tables e below RR (T1.setTop (mkF m 26 #[.val (.ref o), .val (.double wt), .second, .val (.int fq), .val (.int ln)] [(.double (FP.dmul (4608083138725491507 : UInt64) (FP.dadd (4598175219545276416 : UInt64) (FP.ddiv (FP.dmul (4604930618986332160 : UInt64) (FP.i2d ln)) gg)))), (.double (FP.i2d fq)), (.double (FP.dmul wt (FP.i2d fq)))]))
  refine own_st (fun _ k => XS.daddS X1.here hx rfl (hb hby own_dprog_55_method_3_code_26) rfl hn5 rfl k) ?_
  show own_Go p.tables e below RR (T1.setTop (mkF m 27 #[.val (.ref o), .val (.double wt), .second, .val (.int fq), .val (.int ln)] [(.double (FP.dadd (FP.i2d fq) (FP.dmul (4608083138725491507 : UInt64) (FP.dadd (4598175219545276416 : UInt64) (FP.ddiv (FP.dmul (4604930618986332160 : UInt64) (FP.i2d ln)) gg))))), (.double (FP.dmul wt (FP.i2d fq)))]))
  refine own_st (fun _ k => XS.ddivS X1.here hx rfl (hb hby own_dprog_55_method_3_code_27) rfl hn6 rfl k) ?_
  show own_Go p.tables e below RR (T1.setTop (mkF m 28 #[.val (.ref o), .val (.double wt), .second, .val (.int fq), .val (.int ln)] [(.double (FP.ddiv (FP.dmul wt (FP.i2d fq)) (FP.dadd (FP.i2d fq) (FP.dmul (4608083138725491507 : UInt64) (FP.dadd (4598175219545276416 : UInt64) (FP.ddiv (FP.dmul (4604930618986332160 : UInt64) (FP.i2d ln)) gg))))))]))
  obtain ⟨fs, hrt_, hrun, hended, hW, hsame⟩ := X1.leave (v := some (.double (FP.ddiv (FP.dmul wt (FP.i2d fq)) (FP.dadd (FP.i2d fq) (FP.dmul (4608083138725491507 : UInt64) (FP.dadd (4598175219545276416 : UInt64) (FP.ddiv (FP.dmul (4604930618986332160 : UInt64) (FP.i2d ln)) gg))))))) (fun h => by rw [Bd.returns] at h; cases h)
  refine own_fin (retOut X1 hx Bd.returns rfl (Or.inr (Or.inr (Or.inl ⟨rfl, rfl, _, rfl⟩))) (hb hby own_dprog_55_method_3_code_28) hrt_) (hRR _ ⟨_, hrun, hended, _, _, rfl, ?_, ⟨_, rfl⟩, hW, hsame.mono (by decide) (by decide)⟩)
  show own_QSC Z o wt fq ln gg h0 n0 _ T1.heap _
  rw [e1]
  exact ⟨rfl, N0, rfl⟩
theorem own_pn_com_example_candex_candex_search_Bm25ScorePinLaw : plainName "com/example/candex/candex/search/Bm25ScorePinLaw" = true := by first | (simp [plainName, overriddenIn]; done) | decide +kernel
theorem own_pd__JJ_V : parseMethodDescriptor "(JJ)V" = some ⟨[.long, .long], none⟩ := by decide +kernel
theorem own_pd__Lcom_example_candex_candex_index_FieldStatistics__V : parseMethodDescriptor "(Lcom/example/candex/candex/index/FieldStatistics;)V" = some ⟨[(.object "com/example/candex/candex/index/FieldStatistics")], none⟩ := by decide +kernel
theorem own_pd__DII_D : parseMethodDescriptor "(DII)D" = some ⟨[.double, .int, .int], some .double⟩ := by decide +kernel
theorem own_ef0 (m : MethodId) (p1 : Int32) (p2 : Int32) (p3 : Int32) (p4 : Int32) (p5 : Int32) : entryFrame m #[(.int p1), (.int p2), (.int p3), (.int p4), (.int p5)] maxLocals = mkF m 0 #[.val (.int p1), .val (.int p2), .val (.int p3), .val (.int p4), .val (.int p5), .unset, .unset, .unset, .unset, .unset, .unset, .unset, .unset, .unset, .unset, .unset, .unset, .unset, .unset, .unset, .unset] [] := by first | (simp [entryFrame, mkF, argsToLocals, Value.category, maxLocals]; done) | rfl
def own_Q0 (Z : State) (p1 : Int32) (p2 : Int32) (p3 : Int32) (p4 : Int32) (p5 : Int32) (h0 : Heap) (n0 : Nat) (rv__ : Option Value) (h : Heap) (rL__ : List Loc) : Prop := rv__ = some (.int 1) ∧ Fr n0 rL__
set_option maxRecDepth 65536 in
set_option maxHeartbeats 40000000 in
theorem own_rm0 (l : Launch) (Z : State) (a0 : Array Value) (hw : ∀ d ∈ tables_1, d.before a0 Z = true) (ws : List Jvm.Cond) (p1 : Int32) (p2 : Int32) (p3 : Int32) (p4 : Int32) (p5 : Int32) (h0 : Heap) (n0 : Nat) (Z0 : n0 ≤ h0.size)  :
    MetFree l x (head1 (Jvm.Cond.code x code maxLocals ret :: ws) room_1) (fun aa__ U => aa__ = #[(.int p1), (.int p2), (.int p3), (.int p4), (.int p5)] ∧ Z.Warmed39 U.vm ∧ U.heap = h0) (fun _ _ _ _ _ => True) (fun _ U oc_ U' => ∃ rv__ rL__, oc_ = .returned rv__ ∧ own_Q0 Z p1 p2 p3 p4 p5 h0 n0 rv__ U'.heap rL__ ∧ FrameEnd U oc_ U' rL__ room_1.cells room_1.slots) := by
  refine MetFree.of_bodySF (plainFor_of_name own_pn_com_example_candex_candex_search_Bm25ScorePinLaw) hisR ?_
  intro p e s m args below meth c s₁ Bd hml0 hP hK
  obtain ⟨rfl, hZ, hh⟩ := hP
  have hx := Bd.exec
  have hby := Bd.bytes
  have hml : c.maxLocals = 21 := hml0
  have hown : s.vm.findClass "com/example/candex/candex/search/Bm25ScorePinLaw" = some m.cls := findClass_of_methodNamed Bd.named
  have hnm := (name_of_methodNamed Bd.named Bd.method).1
  have X0 : Stand p l e room_1 s m #[(.int p1), (.int p2), (.int p3), (.int p4), (.int p5)] below meth c s₁ [] 0 0 := Stand.of_body Bd
  have e0 : s₁.heap = h0 := by rw [← hh, Bd.state]; rfl
  have N0 := Fr.nil n0
  refine own_in (fun _ k => castTop (own_ef0 m p1 p2 p3 p4 p5) k) ?_
  intro RR hRR
  show own_Go p.tables e below RR (s₁.setTop (mkF m 0 #[.val (.int p1), .val (.int p2), .val (.int p3), .val (.int p4), .val (.int p5), .unset, .unset, .unset, .unset, .unset, .unset, .unset, .unset, .unset, .unset, .unset, .unset, .unset, .unset, .unset, .unset] []))
  refine own_st (fun _ k => XS.iloadN X0.here hx rfl (hb hby at_0) rfl (X0.ldcInt hx hown (mvT hZ (hw _ (List.mem_of_getElem? (i := 0) rfl))) (g := (mkF m 1 #[.val (.int p1), .val (.int p2), .val (.int p3), .val (.int p4), .val (.int p5), .unset, .unset, .unset, .unset, .unset, .unset, .unset, .unset, .unset, .unset, .unset, .unset, .unset, .unset, .unset, .unset] [(.int p1)])) rfl (hb hby at_1) _ (XS.iand X0.here hx rfl (hb hby at_3) rfl k))) ?_
  show own_Go p.tables e below RR (s₁.setTop (mkF m 4 #[.val (.int p1), .val (.int p2), .val (.int p3), .val (.int p4), .val (.int p5), .unset, .unset, .unset, .unset, .unset, .unset, .unset, .unset, .unset, .unset, .unset, .unset, .unset, .unset, .unset, .unset] [(.int (p1 &&& (1048575 : Int32)))]))
  generalize gv1 : (p1 &&& (1048575 : Int32)) = v1
  show own_Go p.tables e below RR (s₁.setTop (mkF m 4 #[.val (.int p1), .val (.int p2), .val (.int p3), .val (.int p4), .val (.int p5), .unset, .unset, .unset, .unset, .unset, .unset, .unset, .unset, .unset, .unset, .unset, .unset, .unset, .unset, .unset, .unset] [(.int v1)]))
  refine own_st (fun _ k => XS.istore X0.here hx rfl (hb hby at_4) rfl (l' := #[.val (.int p1), .val (.int p2), .val (.int p3), .val (.int p4), .val (.int p5), .val (.int v1), .unset, .unset, .unset, .unset, .unset, .unset, .unset, .unset, .unset, .unset, .unset, .unset, .unset, .unset, .unset]) rfl (XS.iloadN X0.here hx rfl (hb hby at_6) rfl (XS.bipush X0.here hx rfl (hb hby at_7) (XS.iand X0.here hx rfl (hb hby at_9) rfl (XS.iconst X0.here hx rfl (hb hby at_10) (XS.iadd X0.here hx rfl (hb hby at_11) rfl k)))))) ?_
  show own_Go p.tables e below RR (s₁.setTop (mkF m 12 #[.val (.int p1), .val (.int p2), .val (.int p3), .val (.int p4), .val (.int p5), .val (.int v1), .unset, .unset, .unset, .unset, .unset, .unset, .unset, .unset, .unset, .unset, .unset, .unset, .unset, .unset, .unset] [(.int ((p2 &&& (63 : Int32)) + (1 : Int32)))]))
  generalize gv2 : ((p2 &&& (63 : Int32)) + (1 : Int32)) = v2
  show own_Go p.tables e below RR (s₁.setTop (mkF m 12 #[.val (.int p1), .val (.int p2), .val (.int p3), .val (.int p4), .val (.int p5), .val (.int v1), .unset, .unset, .unset, .unset, .unset, .unset, .unset, .unset, .unset, .unset, .unset, .unset, .unset, .unset, .unset] [(.int v2)]))
  refine own_st (fun _ k => XS.istore X0.here hx rfl (hb hby at_12) rfl (l' := #[.val (.int p1), .val (.int p2), .val (.int p3), .val (.int p4), .val (.int p5), .val (.int v1), .val (.int v2), .unset, .unset, .unset, .unset, .unset, .unset, .unset, .unset, .unset, .unset, .unset, .unset, .unset, .unset]) rfl (XS.iloadN X0.here hx rfl (hb hby at_14) rfl (X0.ldcInt hx hown (mvT hZ (hw _ (List.mem_of_getElem? (i := 1) rfl))) (g := (mkF m 15 #[.val (.int p1), .val (.int p2), .val (.int p3), .val (.int p4), .val (.int p5), .val (.int v1), .val (.int v2), .unset, .unset, .unset, .unset, .unset, .unset, .unset, .unset, .unset, .unset, .unset, .unset, .unset, .unset] [(.int p3)])) rfl (hb hby at_15) _ (XS.iand X0.here hx rfl (hb hby at_17) rfl (XS.iconst X0.here hx rfl (hb hby at_18) (XS.iadd X0.here hx rfl (hb hby at_19) rfl (XS.i2l X0.here hx rfl (hb hby at_20) rfl k))))))) ?_
  show own_Go p.tables e below RR (s₁.setTop (mkF m 21 #[.val (.int p1), .val (.int p2), .val (.int p3), .val (.int p4), .val (.int p5), .val (.int v1), .val (.int v2), .unset, .unset, .unset, .unset, .unset, .unset, .unset, .unset, .unset, .unset, .unset, .unset, .unset, .unset] [(.long (((p3 &&& (65535 : Int32)) + (1 : Int32)).toInt64))]))
  generalize gv3 : (((p3 &&& (65535 : Int32)) + (1 : Int32)).toInt64) = v3
  show own_Go p.tables e below RR (s₁.setTop (mkF m 21 #[.val (.int p1), .val (.int p2), .val (.int p3), .val (.int p4), .val (.int p5), .val (.int v1), .val (.int v2), .unset, .unset, .unset, .unset, .unset, .unset, .unset, .unset, .unset, .unset, .unset, .unset, .unset, .unset] [(.long v3)]))
  refine own_st (fun _ k => XS.lstore X0.here hx rfl (hb hby at_21) rfl (l' := #[.val (.int p1), .val (.int p2), .val (.int p3), .val (.int p4), .val (.int p5), .val (.int v1), .val (.int v2), .val (.long v3), .second, .unset, .unset, .unset, .unset, .unset, .unset, .unset, .unset, .unset, .unset, .unset, .unset]) rfl (XS.iloadN X0.here hx rfl (hb hby at_23) rfl (X0.ldcInt hx hown (mvT hZ (hw _ (List.mem_of_getElem? (i := 1) rfl))) (g := (mkF m 24 #[.val (.int p1), .val (.int p2), .val (.int p3), .val (.int p4), .val (.int p5), .val (.int v1), .val (.int v2), .val (.long v3), .second, .unset, .unset, .unset, .unset, .unset, .unset, .unset, .unset, .unset, .unset, .unset, .unset] [(.int p4)])) rfl (hb hby at_24) _ (XS.iand X0.here hx rfl (hb hby at_26) rfl (XS.iconst X0.here hx rfl (hb hby at_27) (XS.iadd X0.here hx rfl (hb hby at_28) rfl (XS.i2l X0.here hx rfl (hb hby at_29) rfl k))))))) ?_
  show own_Go p.tables e below RR (s₁.setTop (mkF m 30 #[.val (.int p1), .val (.int p2), .val (.int p3), .val (.int p4), .val (.int p5), .val (.int v1), .val (.int v2), .val (.long v3), .second, .unset, .unset, .unset, .unset, .unset, .unset, .unset, .unset, .unset, .unset, .unset, .unset] [(.long (((p4 &&& (65535 : Int32)) + (1 : Int32)).toInt64))]))
  generalize gv4 : (((p4 &&& (65535 : Int32)) + (1 : Int32)).toInt64) = v4
  show own_Go p.tables e below RR (s₁.setTop (mkF m 30 #[.val (.int p1), .val (.int p2), .val (.int p3), .val (.int p4), .val (.int p5), .val (.int v1), .val (.int v2), .val (.long v3), .second, .unset, .unset, .unset, .unset, .unset, .unset, .unset, .unset, .unset, .unset, .unset, .unset] [(.long v4)]))
  refine own_st (fun _ k => XS.lstore X0.here hx rfl (hb hby at_30) rfl (l' := #[.val (.int p1), .val (.int p2), .val (.int p3), .val (.int p4), .val (.int p5), .val (.int v1), .val (.int v2), .val (.long v3), .second, .val (.long v4), .second, .unset, .unset, .unset, .unset, .unset, .unset, .unset, .unset, .unset, .unset]) rfl (XS.iload X0.here hx rfl (hb hby at_32) rfl (XS.bipush X0.here hx rfl (hb hby at_34) (XS.ishr X0.here hx rfl (hb hby at_36) rfl (XS.i2l X0.here hx rfl (hb hby at_37) rfl k))))) ?_
  show own_Go p.tables e below RR (s₁.setTop (mkF m 38 #[.val (.int p1), .val (.int p2), .val (.int p3), .val (.int p4), .val (.int p5), .val (.int v1), .val (.int v2), .val (.long v3), .second, .val (.long v4), .second, .unset, .unset, .unset, .unset, .unset, .unset, .unset, .unset, .unset, .unset] [(.long ((p5 >>> ((22 : Int32) &&& 31)).toInt64))]))
  generalize gv5 : ((p5 >>> ((22 : Int32) &&& 31)).toInt64) = v5
  show own_Go p.tables e below RR (s₁.setTop (mkF m 38 #[.val (.int p1), .val (.int p2), .val (.int p3), .val (.int p4), .val (.int p5), .val (.int v1), .val (.int v2), .val (.long v3), .second, .val (.long v4), .second, .unset, .unset, .unset, .unset, .unset, .unset, .unset, .unset, .unset, .unset] [(.long v5)]))
  refine own_st (fun _ k => XS.lstore X0.here hx rfl (hb hby at_38) rfl (l' := #[.val (.int p1), .val (.int p2), .val (.int p3), .val (.int p4), .val (.int p5), .val (.int v1), .val (.int v2), .val (.long v3), .second, .val (.long v4), .second, .val (.long v5), .second, .unset, .unset, .unset, .unset, .unset, .unset, .unset, .unset]) rfl (X0.ldc2Long hx hown (mvT hZ (hw _ (List.mem_of_getElem? (i := 2) rfl))) (g := (mkF m 40 #[.val (.int p1), .val (.int p2), .val (.int p3), .val (.int p4), .val (.int p5), .val (.int v1), .val (.int v2), .val (.long v3), .second, .val (.long v4), .second, .val (.long v5), .second, .unset, .unset, .unset, .unset, .unset, .unset, .unset, .unset] [])) rfl (hb hby at_40) _ (XS.iload X0.here hx rfl (hb hby at_43) rfl (XS.i2l X0.here hx rfl (hb hby at_45) rfl (XS.lmul X0.here hx rfl (hb hby at_46) rfl (X0.ldc2Long hx hown (mvT hZ (hw _ (List.mem_of_getElem? (i := 3) rfl))) (g := (mkF m 47 #[.val (.int p1), .val (.int p2), .val (.int p3), .val (.int p4), .val (.int p5), .val (.int v1), .val (.int v2), .val (.long v3), .second, .val (.long v4), .second, .val (.long v5), .second, .unset, .unset, .unset, .unset, .unset, .unset, .unset, .unset] [(.long ((5 : Int64) * (v2.toInt64)))])) rfl (hb hby at_47) _ (XS.lsub X0.here hx rfl (hb hby at_50) rfl (XS.lload X0.here hx rfl (hb hby at_51) rfl k)))))))) ?_
  show own_Go p.tables e below RR (s₁.setTop (mkF m 53 #[.val (.int p1), .val (.int p2), .val (.int p3), .val (.int p4), .val (.int p5), .val (.int v1), .val (.int v2), .val (.long v3), .second, .val (.long v4), .second, .val (.long v5), .second, .unset, .unset, .unset, .unset, .unset, .unset, .unset, .unset] [(.long v3), (.long (((5 : Int64) * (v2.toInt64)) - (4 : Int64)))]))
  refine own_st (fun _ k => XS.lmul X0.here hx rfl (hb hby at_53) rfl (XS.l2i X0.here hx rfl (hb hby at_54) rfl k)) ?_
  show own_Go p.tables e below RR (s₁.setTop (mkF m 55 #[.val (.int p1), .val (.int p2), .val (.int p3), .val (.int p4), .val (.int p5), .val (.int v1), .val (.int v2), .val (.long v3), .second, .val (.long v4), .second, .val (.long v5), .second, .unset, .unset, .unset, .unset, .unset, .unset, .unset, .unset] [(.int (((((5 : Int64) * (v2.toInt64)) - (4 : Int64)) * v3).toInt32))]))
  generalize gv6 : (((((5 : Int64) * (v2.toInt64)) - (4 : Int64)) * v3).toInt32) = v6
  show own_Go p.tables e below RR (s₁.setTop (mkF m 55 #[.val (.int p1), .val (.int p2), .val (.int p3), .val (.int p4), .val (.int p5), .val (.int v1), .val (.int v2), .val (.long v3), .second, .val (.long v4), .second, .val (.long v5), .second, .unset, .unset, .unset, .unset, .unset, .unset, .unset, .unset] [(.int v6)]))
  refine own_st (fun _ k => XS.istore X0.here hx rfl (hb hby at_55) rfl (l' := #[.val (.int p1), .val (.int p2), .val (.int p3), .val (.int p4), .val (.int p5), .val (.int v1), .val (.int v2), .val (.long v3), .second, .val (.long v4), .second, .val (.long v5), .second, .val (.int v6), .unset, .unset, .unset, .unset, .unset, .unset, .unset]) rfl k) ?_
  show own_Go p.tables e below RR (s₁.setTop (mkF m 57 #[.val (.int p1), .val (.int p2), .val (.int p3), .val (.int p4), .val (.int p5), .val (.int v1), .val (.int v2), .val (.long v3), .second, .val (.long v4), .second, .val (.long v5), .second, .val (.int v6), .unset, .unset, .unset, .unset, .unset, .unset, .unset] []))
  obtain ⟨T7, h7, X7, e7, E7, A7, D7, -, st7⟩ := newO X0 hx hZ hown (hw _ (List.mem_of_getElem? (i := 4) rfl)) (hw _ (List.mem_of_getElem? (i := 5) rfl)) (hw _ (List.mem_of_getElem? (i := 6) rfl)) e0 (g := (mkF m 57 #[.val (.int p1), .val (.int p2), .val (.int p3), .val (.int p4), .val (.int p5), .val (.int v1), .val (.int v2), .val (.long v3), .second, .val (.long v4), .second, .val (.long v5), .second, .val (.int v6), .unset, .unset, .unset, .unset, .unset, .unset, .unset] [])) rfl (hb hby at_57) (by decide) (by decide)
  obtain ⟨b7, gb7⟩ : ∃ z, z = h0.size := ⟨_, rfl⟩
  rw [← gb7] at A7 D7 st7
  have ge7 : n0 ≤ b7 := Nat.le_trans Z0 (Nat.le_of_eq gb7.symm)
  refine own_st st7 ?_
  have z8 : n0 ≤ h7.size := Nat.le_trans Z0 E7.1
  have F7_36 : Fld Z h7 b7 "com/example/candex/candex/search/Bm25" "docCount" "J" (.long (0 : Int64)) := D7 (Or.inr (hw _ (List.mem_of_getElem? (i := 36) rfl))) (ty := .long) (by decide)
  have F7_43 : Fld Z h7 b7 "com/example/candex/candex/search/Bm25" "averageLength" "D" (.double (0 : UInt64)) := D7 (Or.inr (hw _ (List.mem_of_getElem? (i := 43) rfl))) (ty := .double) (by decide)
  show own_Go p.tables e below RR (T7.setTop (mkF m 60 #[.val (.int p1), .val (.int p2), .val (.int p3), .val (.int p4), .val (.int p5), .val (.int v1), .val (.int v2), .val (.long v3), .second, .val (.long v4), .second, .val (.long v5), .second, .val (.int v6), .unset, .unset, .unset, .unset, .unset, .unset, .unset] [(.ref b7)]))
  refine own_st (fun _ k => XS.dup X7.here hx rfl (hb hby at_60) rfl rfl k) ?_
  show own_Go p.tables e below RR (T7.setTop (mkF m 61 #[.val (.int p1), .val (.int p2), .val (.int p3), .val (.int p4), .val (.int p5), .val (.int v1), .val (.int v2), .val (.long v3), .second, .val (.long v4), .second, .val (.long v5), .second, .val (.int v6), .unset, .unset, .unset, .unset, .unset, .unset, .unset] [(.ref b7), (.ref b7)]))
  obtain ⟨T9, h9, X9, e9, E9, A9, D9, -, st9⟩ := newO X7 hx hZ hown (hw _ (List.mem_of_getElem? (i := 7) rfl)) (hw _ (List.mem_of_getElem? (i := 8) rfl)) (hw _ (List.mem_of_getElem? (i := 9) rfl)) e7 (g := (mkF m 61 #[.val (.int p1), .val (.int p2), .val (.int p3), .val (.int p4), .val (.int p5), .val (.int v1), .val (.int v2), .val (.long v3), .second, .val (.long v4), .second, .val (.long v5), .second, .val (.int v6), .unset, .unset, .unset, .unset, .unset, .unset, .unset] [(.ref b7), (.ref b7)])) rfl (hb hby at_61) (by decide) (by decide)
  obtain ⟨b9, gb9⟩ : ∃ z, z = h7.size := ⟨_, rfl⟩
  rw [← gb9] at A9 D9 st9
  have ge9 : n0 ≤ b9 := Nat.le_trans z8 (Nat.le_of_eq gb9.symm)
  refine own_st st9 ?_
  have z10 : n0 ≤ h9.size := Nat.le_trans z8 E9.1
  have F9_23 : Fld Z h9 b9 "com/example/candex/candex/index/FieldStatistics" "docCount" "J" (.long (0 : Int64)) := D9 (Or.inr (hw _ (List.mem_of_getElem? (i := 23) rfl))) (ty := .long) (by decide)
  have F9_25 : Fld Z h9 b9 "com/example/candex/candex/index/FieldStatistics" "totalLength" "J" (.long (0 : Int64)) := D9 (Or.inr (hw _ (List.mem_of_getElem? (i := 25) rfl))) (ty := .long) (by decide)
  show own_Go p.tables e below RR (T9.setTop (mkF m 64 #[.val (.int p1), .val (.int p2), .val (.int p3), .val (.int p4), .val (.int p5), .val (.int v1), .val (.int v2), .val (.long v3), .second, .val (.long v4), .second, .val (.long v5), .second, .val (.int v6), .unset, .unset, .unset, .unset, .unset, .unset, .unset] [(.ref b9), (.ref b7), (.ref b7)]))
  refine own_st (fun _ k => XS.dup X9.here hx rfl (hb hby at_64) rfl rfl (XS.lload X9.here hx rfl (hb hby at_65) rfl (X9.ldc2Long hx hown (mvT hZ (hw _ (List.mem_of_getElem? (i := 10) rfl))) (g := (mkF m 67 #[.val (.int p1), .val (.int p2), .val (.int p3), .val (.int p4), .val (.int p5), .val (.int v1), .val (.int v2), .val (.long v3), .second, .val (.long v4), .second, .val (.long v5), .second, .val (.int v6), .unset, .unset, .unset, .unset, .unset, .unset, .unset] [(.long v4), (.ref b9), (.ref b9), (.ref b7), (.ref b7)])) rfl (hb hby at_67) _ (XS.lload X9.here hx rfl (hb hby at_70) rfl (XS.lmul X9.here hx rfl (hb hby at_72) rfl (XS.lload X9.here hx rfl (hb hby at_73) rfl (XS.lmul X9.here hx rfl (hb hby at_75) rfl k))))))) ?_
  show own_Go p.tables e below RR (T9.setTop (mkF m 76 #[.val (.int p1), .val (.int p2), .val (.int p3), .val (.int p4), .val (.int p5), .val (.int v1), .val (.int v2), .val (.long v3), .second, .val (.long v4), .second, .val (.long v5), .second, .val (.int v6), .unset, .unset, .unset, .unset, .unset, .unset, .unset] [(.long (((12 : Int64) * v3) * v4)), (.long v4), (.ref b9), (.ref b9), (.ref b7), (.ref b7)]))
  generalize gv11 : (((12 : Int64) * v3) * v4) = v11
  show own_Go p.tables e below RR (T9.setTop (mkF m 76 #[.val (.int p1), .val (.int p2), .val (.int p3), .val (.int p4), .val (.int p5), .val (.int v1), .val (.int v2), .val (.long v3), .second, .val (.long v4), .second, .val (.long v5), .second, .val (.int v6), .unset, .unset, .unset, .unset, .unset, .unset, .unset] [(.long v11), (.long v4), (.ref b9), (.ref b9), (.ref b7), (.ref b7)]))
  have hf := own_bf gv1
  have hs := own_bs gv2
  have ha := own_ba gv3
  have hd := own_ba gv4
  have hc := own_bc gv5
  have hl := own_bl hs ha gv6
  have ht := own_bt ha hd gv11
  have hA := own_avg ha hd ht
  show own_Go p.tables e below RR (T9.setTop (mkF m 76 #[.val (.int p1), .val (.int p2), .val (.int p3), .val (.int p4), .val (.int p5), .val (.int v1), .val (.int v2), .val (.long v3), .second, .val (.long v4), .second, .val (.long v5), .second, .val (.int v6), .unset, .unset, .unset, .unset, .unset, .unset, .unset] [(.long v11), (.long v4), (.ref b9), (.ref b9), (.ref b7), (.ref b7)]))
  obtain ⟨_, _, ⟨T12, L12, k12, n12⟩, -, X12, ⟨Lc12, hQ12, l12, y12, z12⟩, st12⟩ := X9.specialBack hx (y := (⟨"com/example/candex/candex/index/FieldStatistics", "<init>", "(JJ)V"⟩ : MethodName)) rfl hown (mvT hZ (hw _ (List.mem_of_getElem? (i := 11) rfl))) (mvT hZ (hw _ (List.mem_of_getElem? (i := 12) rfl))) (mvT hZ (hw _ (List.mem_of_getElem? (i := 13) rfl))) (by decide) (backOf (W := 3) (own_rmFI l Z a0 hw [] b9 v4 v11 h9 n0 z10 ge9 A9 F9_23 F9_25) hZ (hw _ (List.mem_of_getElem? (i := 13) rfl)) (hw _ (List.mem_of_getElem? (i := 9) rfl)) (by decide) (by decide)) (g := (mkF m 76 #[.val (.int p1), .val (.int p2), .val (.int p3), .val (.int p4), .val (.int p5), .val (.int v1), .val (.int v2), .val (.long v3), .second, .val (.long v4), .second, .val (.long v5), .second, .val (.int v6), .unset, .unset, .unset, .unset, .unset, .unset, .unset] [(.long v11), (.long v4), (.ref b9), (.ref b9), (.ref b7), (.ref b7)])) rfl (by rw [hml]; rfl) (Steps.refl _) (a := b9) (argsL := [(.long v4), (.long v11)]) (rest := [(.ref b9), (.ref b7), (.ref b7)]) (lenOf own_pd__JJ_V rfl) rfl (by show 2 * 0 + _ ≤ _; exact Nat.le_of_eq rfl) (hb hby at_76) (fun _ _ => ⟨rfl, e9, (by decide : 2 + 0 ≤ _), (by decide : 4 + 0 ≤ _)⟩)
  dsimp only [Pt.U, Pt.locs, Pt.cells, Pt.slots] at X12 l12 y12 z12 st12 hQ12
  rw [l12, y12, z12] at X12
  obtain ⟨rfl, Nq12, Kq12, Eq12, Fd12, Ft12⟩ := hQ12
  have N12 := Fr.app N0 Nq12
  refine own_st (fun _ k => st12.trans k) ?_
  have z13 : n0 ≤ T12.heap.size := Nat.le_trans z10 Kq12.1
  show own_Go p.tables e below RR (T12.setTop (mkF m 79 #[.val (.int p1), .val (.int p2), .val (.int p3), .val (.int p4), .val (.int p5), .val (.int v1), .val (.int v2), .val (.long v3), .second, .val (.long v4), .second, .val (.long v5), .second, .val (.int v6), .unset, .unset, .unset, .unset, .unset, .unset, .unset] [(.ref b9), (.ref b7), (.ref b7)]))
  have f14 := ((A7.ext E9).keep Kq12)
  have ne15 : b7 ≠ b9 := (Nat.ne_of_lt (Nat.lt_of_lt_of_le A7.lt (Nat.le_of_eq gb9.symm)))
  have f16 := ((F7_36.ext E9).keep Kq12 (ninS ne15 nin0))
  have f17 := ((F7_43.ext E9).keep Kq12 (ninS ne15 nin0))
  obtain ⟨_, _, ⟨T18, L18, k18, n18⟩, -, X18, ⟨Lc18, hQ18, l18, y18, z18⟩, st18⟩ := X12.specialBack hx (y := (⟨"com/example/candex/candex/search/Bm25", "<init>", "(Lcom/example/candex/candex/index/FieldStatistics;)V"⟩ : MethodName)) rfl hown (mvT hZ (hw _ (List.mem_of_getElem? (i := 26) rfl))) (mvT hZ (hw _ (List.mem_of_getElem? (i := 27) rfl))) (mvT hZ (hw _ (List.mem_of_getElem? (i := 28) rfl))) (by decide) (backOf (W := 1) (own_rmBI l Z a0 hw [] b7 b9 v4 v11 T12.heap n0 z13 ge7 f14 f16 f17 Eq12 Fd12 Ft12 (own_nzd hd.1) (own_nn hA) (Ne.symm ne15)) hZ (hw _ (List.mem_of_getElem? (i := 28) rfl)) (hw _ (List.mem_of_getElem? (i := 6) rfl)) (by decide) (by decide)) (g := (mkF m 79 #[.val (.int p1), .val (.int p2), .val (.int p3), .val (.int p4), .val (.int p5), .val (.int v1), .val (.int v2), .val (.long v3), .second, .val (.long v4), .second, .val (.long v5), .second, .val (.int v6), .unset, .unset, .unset, .unset, .unset, .unset, .unset] [(.ref b9), (.ref b7), (.ref b7)])) rfl (by rw [hml]; rfl) (Steps.refl _) (a := b7) (argsL := [(.ref b9)]) (rest := [(.ref b7)]) (lenOf own_pd__Lcom_example_candex_candex_index_FieldStatistics__V rfl) rfl (by show 2 * 0 + _ ≤ _; exact Nat.le_of_eq rfl) (hb hby at_79) (fun _ _ => ⟨rfl, rfl, (by decide : 2 + 0 ≤ _), (by decide : 4 + 0 ≤ _)⟩)
  dsimp only [Pt.U, Pt.locs, Pt.cells, Pt.slots] at X18 l18 y18 z18 st18 hQ18
  rw [l18, y18, z18] at X18
  obtain ⟨rfl, Nq18, Kq18, Eq18, Ba18⟩ := hQ18
  have N18 := Fr.app N12 Nq18
  refine own_st (fun _ k => st18.trans k) ?_
  have z19 : n0 ≤ T18.heap.size := Nat.le_trans z13 Kq18.1
  show own_Go p.tables e below RR (T18.setTop (mkF m 82 #[.val (.int p1), .val (.int p2), .val (.int p3), .val (.int p4), .val (.int p5), .val (.int v1), .val (.int v2), .val (.long v3), .second, .val (.long v4), .second, .val (.long v5), .second, .val (.int v6), .unset, .unset, .unset, .unset, .unset, .unset, .unset] [(.ref b7)]))
  refine own_st (fun _ k => XS.astore X18.here hx rfl (hb hby at_82) rfl rfl (l' := #[.val (.int p1), .val (.int p2), .val (.int p3), .val (.int p4), .val (.int p5), .val (.int v1), .val (.int v2), .val (.long v3), .second, .val (.long v4), .second, .val (.long v5), .second, .val (.int v6), .val (.ref b7), .unset, .unset, .unset, .unset, .unset, .unset]) rfl (X18.ldc2Long hx hown (mvT hZ (hw _ (List.mem_of_getElem? (i := 44) rfl))) (g := (mkF m 84 #[.val (.int p1), .val (.int p2), .val (.int p3), .val (.int p4), .val (.int p5), .val (.int v1), .val (.int v2), .val (.long v3), .second, .val (.long v4), .second, .val (.long v5), .second, .val (.int v6), .val (.ref b7), .unset, .unset, .unset, .unset, .unset, .unset] [])) rfl (hb hby at_84) _ (XS.iload X18.here hx rfl (hb hby at_87) rfl (XS.i2l X18.here hx rfl (hb hby at_89) rfl (XS.lmul X18.here hx rfl (hb hby at_90) rfl (X18.ldc2Long hx hown (mvT hZ (hw _ (List.mem_of_getElem? (i := 45) rfl))) (g := (mkF m 91 #[.val (.int p1), .val (.int p2), .val (.int p3), .val (.int p4), .val (.int p5), .val (.int v1), .val (.int v2), .val (.long v3), .second, .val (.long v4), .second, .val (.long v5), .second, .val (.int v6), .val (.ref b7), .unset, .unset, .unset, .unset, .unset, .unset] [(.long ((8 : Int64) * (v1.toInt64)))])) rfl (hb hby at_91) _ (XS.iload X18.here hx rfl (hb hby at_94) rfl (XS.i2l X18.here hx rfl (hb hby at_96) rfl k)))))))) ?_
  show own_Go p.tables e below RR (T18.setTop (mkF m 97 #[.val (.int p1), .val (.int p2), .val (.int p3), .val (.int p4), .val (.int p5), .val (.int v1), .val (.int v2), .val (.long v3), .second, .val (.long v4), .second, .val (.long v5), .second, .val (.int v6), .val (.ref b7), .unset, .unset, .unset, .unset, .unset, .unset] [(.long (v2.toInt64)), (.long (3 : Int64)), (.long ((8 : Int64) * (v1.toInt64)))]))
  refine own_st (fun _ k => XS.lmul X18.here hx rfl (hb hby at_97) rfl (XS.ladd X18.here hx rfl (hb hby at_98) rfl k)) ?_
  show own_Go p.tables e below RR (T18.setTop (mkF m 99 #[.val (.int p1), .val (.int p2), .val (.int p3), .val (.int p4), .val (.int p5), .val (.int v1), .val (.int v2), .val (.long v3), .second, .val (.long v4), .second, .val (.long v5), .second, .val (.int v6), .val (.ref b7), .unset, .unset, .unset, .unset, .unset, .unset] [(.long (((8 : Int64) * (v1.toInt64)) + ((3 : Int64) * (v2.toInt64))))]))
  generalize gv20 : (((8 : Int64) * (v1.toInt64)) + ((3 : Int64) * (v2.toInt64))) = v20
  show own_Go p.tables e below RR (T18.setTop (mkF m 99 #[.val (.int p1), .val (.int p2), .val (.int p3), .val (.int p4), .val (.int p5), .val (.int v1), .val (.int v2), .val (.long v3), .second, .val (.long v4), .second, .val (.long v5), .second, .val (.int v6), .val (.ref b7), .unset, .unset, .unset, .unset, .unset, .unset] [(.long v20)]))
  refine own_st (fun _ k => XS.lstore X18.here hx rfl (hb hby at_99) rfl (l' := #[.val (.int p1), .val (.int p2), .val (.int p3), .val (.int p4), .val (.int p5), .val (.int v1), .val (.int v2), .val (.long v3), .second, .val (.long v4), .second, .val (.long v5), .second, .val (.int v6), .val (.ref b7), .val (.long v20), .second, .unset, .unset, .unset, .unset]) rfl (XS.lload X18.here hx rfl (hb hby at_101) rfl (XS.lload X18.here hx rfl (hb hby at_103) rfl (XS.lmul X18.here hx rfl (hb hby at_105) rfl k)))) ?_
  show own_Go p.tables e below RR (T18.setTop (mkF m 106 #[.val (.int p1), .val (.int p2), .val (.int p3), .val (.int p4), .val (.int p5), .val (.int v1), .val (.int v2), .val (.long v3), .second, .val (.long v4), .second, .val (.long v5), .second, .val (.int v6), .val (.ref b7), .val (.long v20), .second, .unset, .unset, .unset, .unset] [(.long (v5 * v20))]))
  generalize gv21 : (v5 * v20) = v21
  show own_Go p.tables e below RR (T18.setTop (mkF m 106 #[.val (.int p1), .val (.int p2), .val (.int p3), .val (.int p4), .val (.int p5), .val (.int v1), .val (.int v2), .val (.long v3), .second, .val (.long v4), .second, .val (.long v5), .second, .val (.int v6), .val (.ref b7), .val (.long v20), .second, .unset, .unset, .unset, .unset] [(.long v21)]))
  have hn := own_bn hf hs gv20
  have hW := own_bW hc (by omega) gv21
  obtain ⟨x8, gx8⟩ : ∃ x8 : Int64, ((8 : Int64) * v5 * v1.toInt64) = x8 := ⟨_, rfl⟩
  have hx8 := own_bx hc hf gx8
  obtain ⟨s1_, n1_, n2_, n3_, n4_, n5_, n6_, n7_, r1_, r2_, r3_, r4_, r5_, r6_, r7_, rc_⟩ := own_all hf hs ha hc hl hn hW hx8 hA
  show own_Go p.tables e below RR (T18.setTop (mkF m 106 #[.val (.int p1), .val (.int p2), .val (.int p3), .val (.int p4), .val (.int p5), .val (.int v1), .val (.int v2), .val (.long v3), .second, .val (.long v4), .second, .val (.long v5), .second, .val (.int v6), .val (.ref b7), .val (.long v20), .second, .unset, .unset, .unset, .unset] [(.long v21)]))
  refine own_st (fun _ k => XS.l2dS X18.here hx rfl (hb hby at_106) rfl rfl k) ?_
  show own_Go p.tables e below RR (T18.setTop (mkF m 107 #[.val (.int p1), .val (.int p2), .val (.int p3), .val (.int p4), .val (.int p5), .val (.int v1), .val (.int v2), .val (.long v3), .second, .val (.long v4), .second, .val (.long v5), .second, .val (.int v6), .val (.ref b7), .val (.long v20), .second, .unset, .unset, .unset, .unset] [(.double (FP.l2d v21))]))
  refine own_st (fun _ k => XS.dstore X18.here hx rfl (hb hby at_107) rfl (l' := #[.val (.int p1), .val (.int p2), .val (.int p3), .val (.int p4), .val (.int p5), .val (.int v1), .val (.int v2), .val (.long v3), .second, .val (.long v4), .second, .val (.long v5), .second, .val (.int v6), .val (.ref b7), .val (.long v20), .second, .val (.double (FP.l2d v21)), .second, .unset, .unset]) rfl (XS.aload X18.here hx rfl (hb hby at_109) rfl rfl k)) ?_
  show own_Go p.tables e below RR (T18.setTop (mkF m 111 #[.val (.int p1), .val (.int p2), .val (.int p3), .val (.int p4), .val (.int p5), .val (.int v1), .val (.int v2), .val (.long v3), .second, .val (.long v4), .second, .val (.long v5), .second, .val (.int v6), .val (.ref b7), .val (.long v20), .second, .val (.double (FP.l2d v21)), .second, .unset, .unset] [(.ref b7)]))
  refine own_st (fun _ k => XS.dload X18.here hx rfl (hb hby at_111) rfl (XS.iload X18.here hx rfl (hb hby at_113) rfl (XS.iload X18.here hx rfl (hb hby at_115) rfl k))) ?_
  show own_Go p.tables e below RR (T18.setTop (mkF m 117 #[.val (.int p1), .val (.int p2), .val (.int p3), .val (.int p4), .val (.int p5), .val (.int v1), .val (.int v2), .val (.long v3), .second, .val (.long v4), .second, .val (.long v5), .second, .val (.int v6), .val (.ref b7), .val (.long v20), .second, .val (.double (FP.l2d v21)), .second, .unset, .unset] [(.int v6), (.int v1), (.double (FP.l2d v21)), (.ref b7)]))
  obtain ⟨cq22, kq22, q22a, q22b, q22c⟩ := isOf hZ rfl Eq18
  obtain ⟨_, _, ⟨T22, L22, k22, n22⟩, -, X22, ⟨Lc22, hQ22, l22, y22, z22⟩, st22⟩ := X18.virtualBack hx (y := (⟨"com/example/candex/candex/search/Bm25", "score", "(DII)D"⟩ : MethodName)) (z := (⟨"com/example/candex/candex/search/Bm25", "score", "(DII)D"⟩ : MethodName)) hown (mvT hZ (hw _ (List.mem_of_getElem? (i := 46) rfl))) (mvT hZ (hw _ (List.mem_of_getElem? (i := 47) rfl))) (notFace_of_selects (args := #[]) (mvT hZ (hw _ (List.mem_of_getElem? (i := 49) rfl)))) (mvT hZ (hw _ (List.mem_of_getElem? (i := 49) rfl))) (mvT hZ (hw _ (List.mem_of_getElem? (i := 48) rfl))) (by decide) (backOf (W := 0) (own_rmSC l Z a0 hw [] b7 (FP.l2d v21) v1 v6 (FP.ddiv (FP.l2d v11) (FP.l2d v4)) T18.heap n0 z19 Ba18 (own_nn r1_) (own_nn r2_) (own_nn r3_) (own_nn r4_) (own_nn r5_) (own_nn r6_) (own_nn r7_)) hZ (hw _ (List.mem_of_getElem? (i := 50) rfl)) (hw _ (List.mem_of_getElem? (i := 6) rfl)) (by decide) (by decide)) q22a q22c (g := (mkF m 117 #[.val (.int p1), .val (.int p2), .val (.int p3), .val (.int p4), .val (.int p5), .val (.int v1), .val (.int v2), .val (.long v3), .second, .val (.long v4), .second, .val (.long v5), .second, .val (.int v6), .val (.ref b7), .val (.long v20), .second, .val (.double (FP.l2d v21)), .second, .unset, .unset] [(.int v6), (.int v1), (.double (FP.l2d v21)), (.ref b7)])) rfl (by rw [hml]; rfl) (Steps.refl _) (argsL := [(.double (FP.l2d v21)), (.int v1), (.int v6)]) (rest := []) (lenOf own_pd__DII_D rfl) rfl (by show 2 * 0 + _ ≤ _; exact Nat.le_of_eq rfl) (hb hby at_117) (fun _ _ => ⟨rfl, rfl, (by decide : 2 + 0 ≤ _), (by decide : 4 + 0 ≤ _)⟩)
  dsimp only [Pt.U, Pt.locs, Pt.cells, Pt.slots] at X22 l22 y22 z22 st22 hQ22
  rw [l22, y22, z22] at X22
  obtain ⟨rfl, Nq22, eq22⟩ := hQ22
  have N22 := Fr.app N18 Nq22
  refine own_st (fun _ k => st22.trans k) ?_
  show own_Go p.tables e below RR (T22.setTop (mkF m 120 #[.val (.int p1), .val (.int p2), .val (.int p3), .val (.int p4), .val (.int p5), .val (.int v1), .val (.int v2), .val (.long v3), .second, .val (.long v4), .second, .val (.long v5), .second, .val (.int v6), .val (.ref b7), .val (.long v20), .second, .val (.double (FP.l2d v21)), .second, .unset, .unset] [(.double (FP.ddiv (FP.dmul (FP.l2d v21) (FP.i2d v1)) (FP.dadd (FP.i2d v1) (FP.dmul (4608083138725491507 : UInt64) (FP.dadd (4598175219545276416 : UInt64) (FP.ddiv (FP.dmul (4604930618986332160 : UInt64) (FP.i2d v6)) (FP.ddiv (FP.l2d v11) (FP.l2d v4))))))))]))
  refine own_st (fun _ k => XS.dstore X22.here hx rfl (hb hby at_120) rfl (l' := #[.val (.int p1), .val (.int p2), .val (.int p3), .val (.int p4), .val (.int p5), .val (.int v1), .val (.int v2), .val (.long v3), .second, .val (.long v4), .second, .val (.long v5), .second, .val (.int v6), .val (.ref b7), .val (.long v20), .second, .val (.double (FP.l2d v21)), .second, .val (.double (FP.ddiv (FP.dmul (FP.l2d v21) (FP.i2d v1)) (FP.dadd (FP.i2d v1) (FP.dmul (4608083138725491507 : UInt64) (FP.dadd (4598175219545276416 : UInt64) (FP.ddiv (FP.dmul (4604930618986332160 : UInt64) (FP.i2d v6)) (FP.ddiv (FP.l2d v11) (FP.l2d v4)))))))), .second]) rfl k) ?_
  show own_Go p.tables e below RR (T22.setTop (mkF m 122 #[.val (.int p1), .val (.int p2), .val (.int p3), .val (.int p4), .val (.int p5), .val (.int v1), .val (.int v2), .val (.long v3), .second, .val (.long v4), .second, .val (.long v5), .second, .val (.int v6), .val (.ref b7), .val (.long v20), .second, .val (.double (FP.l2d v21)), .second, .val (.double (FP.ddiv (FP.dmul (FP.l2d v21) (FP.i2d v1)) (FP.dadd (FP.i2d v1) (FP.dmul (4608083138725491507 : UInt64) (FP.dadd (4598175219545276416 : UInt64) (FP.ddiv (FP.dmul (4604930618986332160 : UInt64) (FP.i2d v6)) (FP.ddiv (FP.l2d v11) (FP.l2d v4)))))))), .second] []))
  refine own_st (fun _ k => XS.dload X22.here hx rfl (hb hby at_122) rfl (X22.ldc2Long hx hown (mvT hZ (hw _ (List.mem_of_getElem? (i := 44) rfl))) (g := (mkF m 124 #[.val (.int p1), .val (.int p2), .val (.int p3), .val (.int p4), .val (.int p5), .val (.int v1), .val (.int v2), .val (.long v3), .second, .val (.long v4), .second, .val (.long v5), .second, .val (.int v6), .val (.ref b7), .val (.long v20), .second, .val (.double (FP.l2d v21)), .second, .val (.double (FP.ddiv (FP.dmul (FP.l2d v21) (FP.i2d v1)) (FP.dadd (FP.i2d v1) (FP.dmul (4608083138725491507 : UInt64) (FP.dadd (4598175219545276416 : UInt64) (FP.ddiv (FP.dmul (4604930618986332160 : UInt64) (FP.i2d v6)) (FP.ddiv (FP.l2d v11) (FP.l2d v4)))))))), .second] [(.double (FP.ddiv (FP.dmul (FP.l2d v21) (FP.i2d v1)) (FP.dadd (FP.i2d v1) (FP.dmul (4608083138725491507 : UInt64) (FP.dadd (4598175219545276416 : UInt64) (FP.ddiv (FP.dmul (4604930618986332160 : UInt64) (FP.i2d v6)) (FP.ddiv (FP.l2d v11) (FP.l2d v4))))))))])) rfl (hb hby at_124) _ (XS.lload X22.here hx rfl (hb hby at_127) rfl (XS.lmul X22.here hx rfl (hb hby at_129) rfl (XS.iload X22.here hx rfl (hb hby at_130) rfl (XS.i2l X22.here hx rfl (hb hby at_132) rfl (XS.lmul X22.here hx rfl (hb hby at_133) rfl k))))))) ?_
  show own_Go p.tables e below RR (T22.setTop (mkF m 134 #[.val (.int p1), .val (.int p2), .val (.int p3), .val (.int p4), .val (.int p5), .val (.int v1), .val (.int v2), .val (.long v3), .second, .val (.long v4), .second, .val (.long v5), .second, .val (.int v6), .val (.ref b7), .val (.long v20), .second, .val (.double (FP.l2d v21)), .second, .val (.double (FP.ddiv (FP.dmul (FP.l2d v21) (FP.i2d v1)) (FP.dadd (FP.i2d v1) (FP.dmul (4608083138725491507 : UInt64) (FP.dadd (4598175219545276416 : UInt64) (FP.ddiv (FP.dmul (4604930618986332160 : UInt64) (FP.i2d v6)) (FP.ddiv (FP.l2d v11) (FP.l2d v4)))))))), .second] [(.long (((8 : Int64) * v5) * (v1.toInt64))), (.double (FP.ddiv (FP.dmul (FP.l2d v21) (FP.i2d v1)) (FP.dadd (FP.i2d v1) (FP.dmul (4608083138725491507 : UInt64) (FP.dadd (4598175219545276416 : UInt64) (FP.ddiv (FP.dmul (4604930618986332160 : UInt64) (FP.i2d v6)) (FP.ddiv (FP.l2d v11) (FP.l2d v4))))))))]))
  generalize gv23 : (((8 : Int64) * v5) * (v1.toInt64)) = v23
  show own_Go p.tables e below RR (T22.setTop (mkF m 134 #[.val (.int p1), .val (.int p2), .val (.int p3), .val (.int p4), .val (.int p5), .val (.int v1), .val (.int v2), .val (.long v3), .second, .val (.long v4), .second, .val (.long v5), .second, .val (.int v6), .val (.ref b7), .val (.long v20), .second, .val (.double (FP.l2d v21)), .second, .val (.double (FP.ddiv (FP.dmul (FP.l2d v21) (FP.i2d v1)) (FP.dadd (FP.i2d v1) (FP.dmul (4608083138725491507 : UInt64) (FP.dadd (4598175219545276416 : UInt64) (FP.ddiv (FP.dmul (4604930618986332160 : UInt64) (FP.i2d v6)) (FP.ddiv (FP.l2d v11) (FP.l2d v4)))))))), .second] [(.long v23), (.double (FP.ddiv (FP.dmul (FP.l2d v21) (FP.i2d v1)) (FP.dadd (FP.i2d v1) (FP.dmul (4608083138725491507 : UInt64) (FP.dadd (4598175219545276416 : UInt64) (FP.ddiv (FP.dmul (4604930618986332160 : UInt64) (FP.i2d v6)) (FP.ddiv (FP.l2d v11) (FP.l2d v4))))))))]))
  obtain rfl : x8 = v23 := gx8.symm.trans gv23
  show own_Go p.tables e below RR (T22.setTop (mkF m 134 #[.val (.int p1), .val (.int p2), .val (.int p3), .val (.int p4), .val (.int p5), .val (.int v1), .val (.int v2), .val (.long v3), .second, .val (.long v4), .second, .val (.long v5), .second, .val (.int v6), .val (.ref b7), .val (.long v20), .second, .val (.double (FP.l2d v21)), .second, .val (.double (FP.ddiv (FP.dmul (FP.l2d v21) (FP.i2d v1)) (FP.dadd (FP.i2d v1) (FP.dmul (4608083138725491507 : UInt64) (FP.dadd (4598175219545276416 : UInt64) (FP.ddiv (FP.dmul (4604930618986332160 : UInt64) (FP.i2d v6)) (FP.ddiv (FP.l2d v11) (FP.l2d v4)))))))), .second] [(.long x8), (.double (FP.ddiv (FP.dmul (FP.l2d v21) (FP.i2d v1)) (FP.dadd (FP.i2d v1) (FP.dmul (4608083138725491507 : UInt64) (FP.dadd (4598175219545276416 : UInt64) (FP.ddiv (FP.dmul (4604930618986332160 : UInt64) (FP.i2d v6)) (FP.ddiv (FP.l2d v11) (FP.l2d v4))))))))]))
  refine own_st (fun _ k => XS.l2dS X22.here hx rfl (hb hby at_134) rfl rfl k) ?_
  show own_Go p.tables e below RR (T22.setTop (mkF m 135 #[.val (.int p1), .val (.int p2), .val (.int p3), .val (.int p4), .val (.int p5), .val (.int v1), .val (.int v2), .val (.long v3), .second, .val (.long v4), .second, .val (.long v5), .second, .val (.int v6), .val (.ref b7), .val (.long v20), .second, .val (.double (FP.l2d v21)), .second, .val (.double (FP.ddiv (FP.dmul (FP.l2d v21) (FP.i2d v1)) (FP.dadd (FP.i2d v1) (FP.dmul (4608083138725491507 : UInt64) (FP.dadd (4598175219545276416 : UInt64) (FP.ddiv (FP.dmul (4604930618986332160 : UInt64) (FP.i2d v6)) (FP.ddiv (FP.l2d v11) (FP.l2d v4)))))))), .second] [(.double (FP.l2d x8)), (.double (FP.ddiv (FP.dmul (FP.l2d v21) (FP.i2d v1)) (FP.dadd (FP.i2d v1) (FP.dmul (4608083138725491507 : UInt64) (FP.dadd (4598175219545276416 : UInt64) (FP.ddiv (FP.dmul (4604930618986332160 : UInt64) (FP.i2d v6)) (FP.ddiv (FP.l2d v11) (FP.l2d v4))))))))]))
  refine own_st (fun _ k => XS.dcmpS X22.here hx rfl (hb hby at_135) rfl (v := (0 : Int32)) rc_ k) ?_
  show own_Go p.tables e below RR (T22.setTop (mkF m 136 #[.val (.int p1), .val (.int p2), .val (.int p3), .val (.int p4), .val (.int p5), .val (.int v1), .val (.int v2), .val (.long v3), .second, .val (.long v4), .second, .val (.long v5), .second, .val (.int v6), .val (.ref b7), .val (.long v20), .second, .val (.double (FP.l2d v21)), .second, .val (.double (FP.ddiv (FP.dmul (FP.l2d v21) (FP.i2d v1)) (FP.dadd (FP.i2d v1) (FP.dmul (4608083138725491507 : UInt64) (FP.dadd (4598175219545276416 : UInt64) (FP.ddiv (FP.dmul (4604930618986332160 : UInt64) (FP.i2d v6)) (FP.ddiv (FP.l2d v11) (FP.l2d v4)))))))), .second] [(.int (0 : Int32))]))
  refine own_st (fun _ k => XS.ifNo X22.here hx rfl (hb hby at_136) rfl ((if0 _ _).trans (teq (by decide)).2) (XS.iconst X22.here hx rfl (hb hby at_139) (XS.goto X22.here hx rfl (pc0 := 140) (pc' := 144) rfl (hb hby at_140) (by decide) (by decide) k))) ?_
  show own_Go p.tables e below RR (T22.setTop (mkF m 144 #[.val (.int p1), .val (.int p2), .val (.int p3), .val (.int p4), .val (.int p5), .val (.int v1), .val (.int v2), .val (.long v3), .second, .val (.long v4), .second, .val (.long v5), .second, .val (.int v6), .val (.ref b7), .val (.long v20), .second, .val (.double (FP.l2d v21)), .second, .val (.double (FP.ddiv (FP.dmul (FP.l2d v21) (FP.i2d v1)) (FP.dadd (FP.i2d v1) (FP.dmul (4608083138725491507 : UInt64) (FP.dadd (4598175219545276416 : UInt64) (FP.ddiv (FP.dmul (4604930618986332160 : UInt64) (FP.i2d v6)) (FP.ddiv (FP.l2d v11) (FP.l2d v4)))))))), .second] [(.int (1 : Int32))]))
  obtain ⟨fs, hrt_, hrun, hended, hW, hsame⟩ := X22.leave (v := some (.int (1 : Int32))) (fun h => by rw [Bd.returns] at h; cases h)
  refine own_fin (retN X22 hx (t := .boolean) Bd.returns (by simp) (hb hby at_144) hrt_) (hRR _ ⟨_, hrun, hended, _, _, rfl, ?_, ⟨_, rfl⟩, hW, hsame.mono (by decide) (by decide)⟩)
  show own_Q0 Z p1 p2 p3 p4 p5 h0 n0 _ T22.heap _
  rw [eq22]
  exact ⟨rfl, N22⟩
set_option maxRecDepth 65536 in
set_option maxHeartbeats 40000000 in
theorem own_comes {Post : Tables → Env → Array Value → State → Outcome → State → Prop} (hpost : ∀ tb e args s v u, (limb_1_1.after args s (.returned v) u = true ∧ limb_1_2.after args s (.returned v) u = true ∧ True) → FrameEnd s (.returned v) u (Jvm.fieldLocs frame_1_writes args s ++ Jvm.arrayLocs frame_1_arrays args s ++ Jvm.staticLocs frame_1_statics s) 16 128 → Post tb e args s (.returned v) u) :
    ArmFor flags0 classFile x code maxLocals ret World_1 tables_1 room_1 Calls_1 rest_1 Pre_1 Post := by
  intro l hfl _ _ p e ha hc hk s m args below hf hA hF happ hP
  obtain ⟨hcalls, hrest, hpre⟩ := hP
  obtain ⟨-, -, -, hnamed, -, -, -, hat⟩ := (Spec.applies_iff hf).mp happ
  obtain ⟨hg, hn⟩ := and_e (Cond.before_iff.mp (show (Jvm.Cond.and given_1 narrow_1).before args s = true from hpre))
  obtain ⟨u1a, u1b⟩ := and_e hg
  obtain ⟨u2a, u2b⟩ := and_e u1b
  obtain ⟨u3a, u3b⟩ := and_e u2b
  obtain ⟨u4a, u4b⟩ := and_e u3b
  obtain ⟨u5a, u5b⟩ := and_e u4b
  obtain ⟨w0, w1, w2, w3, w4, rfl⟩ : ∃ w0 w1 w2 w3 w4 : Value, args = #[w0, w1, w2, w3, w4] := by
    have hs : args.size = 5 := by simpa [Cond.value, given_1] using u1a
    obtain ⟨L⟩ := args
    match L, hs with
    | [w0, w1, w2, w3, w4], _ => exact ⟨w0, w1, w2, w3, w4, rfl⟩
  have hw := fun d (hd : d ∈ tables_1) => atoms_spec (ws := Jvm.Cond.code x code maxLocals ret :: tables_1) hat d (List.mem_cons_of_mem _ hd)
  have hfit : Fit s := fun {y c} hc i hi => by
    obtain ⟨ha, rfl⟩ := Array.getElem?_eq_some_iff.mp hc
    have q := List.all_eq_true.mp ((Array.all_eq_true_iff_forall_mem.mp hF) _ (Array.getElem_mem ha)) i (List.mem_range.mpr hi)
    simpa [Array.getElem?_eq_getElem hi] using q
  obtain ⟨i0, ei0⟩ := is_v u2a
  obtain rfl : w0 = (.int i0) := Option.some.inj ei0
  obtain ⟨i1, ei1⟩ := is_v u3a
  obtain rfl : w1 = (.int i1) := Option.some.inj ei1
  obtain ⟨i2, ei2⟩ := is_v u4a
  obtain rfl : w2 = (.int i2) := Option.some.inj ei2
  obtain ⟨i3, ei3⟩ := is_v u5a
  obtain rfl : w3 = (.int i3) := Option.some.inj ei3
  obtain ⟨i4, ei4⟩ := is_v u5b
  obtain rfl : w4 = (.int i4) := Option.some.inj ei4
  obtain ⟨n, o, h1, h2, h3, _, L, rfl, ⟨rfl, N⟩, hq⟩ := own_rm0 l s _ hw tables_1 i0 i1 i2 i3 i4 s.heap s.heap.size (Nat.le_refl _)  p e ha hc hk s m _ below hf ((Spec.applies_iff_loose hf).mp happ).1 ⟨rfl, State.Warmed39.refl s, rfl⟩ trivial
  refine ⟨n, _, h1, h2, h3, hpost _ _ _ _ _ _ ⟨Cond.after_iff.mpr rfl, Cond.after_iff.mpr (eq_i res_at (Term.int_eval (1)) rfl), trivial⟩ ⟨hq.1, hq.2.1, (hq.2.2.sift fun y hy => Or.inr (N y hy)).mono (by decide) (by decide)⟩⟩
theorem main_1_1 : Claimed_1_1 := own_comes fun _ _ _ _ _ _ h hF => ⟨h.1, hF⟩
theorem main_1_2 : Claimed_1_2 := own_comes fun _ _ _ _ _ _ h hF => ⟨h.2.1, hF⟩
end Jvm.Pilot.@@N@@
namespace Jvm.Pilot.@@N@@
open Jvm Jvm.ClassFile Sem Op Lib Jvm.Free Jvm.Stand Jvm.Pilot.@@N@@.Jvm.D
/-! MADE BY PROGRAM (witnessworld.py) out of the Statement's table words and the real class files: 11 classes; the members and pool entries that the words name. The judged class is class 1, her method 1. -/
namespace start1
open Jvm.ClassFile
def u (s : String) : CpInfo := .utf8 (stringToUtf16 s)
/-- a pool by its gaps: so many unusable entries, then the entry; so many at the end -/
def gap : Nat → List CpInfo → List CpInfo
  | 0, r => r
  | n + 1, r => .unusable :: gap n r
def poolList (es : List (Nat × CpInfo)) (last : Nat) : List CpInfo := es.foldr (fun e r => gap e.1 (e.2 :: r)) (gap last [])
def pool (es : List (Nat × CpInfo)) (last : Nat) : Array CpInfo := ⟨poolList es last⟩
def fileOf (pool : Array CpInfo) (this : Nat) (attrs : Array Attribute := #[]) (ms : Array MethodInfo := #[]) (fl : Nat := 33) (sup : Nat := 0) (ifs : Array Nat := #[]) (fds : Array FieldInfo := #[]) : ClassFile where
  minorVersion := 0
  majorVersion := 65
  constantPool := pool
  accessFlags := fl
  thisClass := this
  superClass := sup
  interfaces := ifs
  fields := fds
  methods := ms
  attributes := attrs
def plain (name : String) (sup : Option ClassId) : Class where
  name := name
  kind := .ordinary
  loader := none
  accessFlags := 33
  super := sup
  interfaces := #[]
  cf := none
  fields := #[]
  methods := #[]
  instanceTypes := #[]
  staticTypes := #[]
  resolved := #[]
  callSites := []
  init := .initialized
  statics := none
  mirror := none

def pool0 : Array CpInfo := pool [(5, u "<init>"), (0, u "()V"), (1, .class_ 10), (1, u "java/lang/Object")] 113

def k0c0 : Code := { maxStack := 0, maxLocals := 1, code := object_method_1_code, exceptionTable := #[], attributes := #[] }
def k0m0 : Method := { name := "<init>", desc := "()V", sig := { parameters := [], returnType := none }, accessFlags := 1, code := some k0c0 }
/-- java/lang/Object -/
def k0 : Class := { plain "java/lang/Object" none with
  accessFlags := 33
  interfaces := #[]
  cf := some (fileOf pool0 8 #[] #[{ accessFlags := 1, nameIndex := 5, descriptorIndex := 6, attributes := #[] }] 33 0 #[] #[])
  fields := #[]
  methods := #[k0m0]
  instanceTypes := #[]
  staticTypes := #[]
  resolved := Array.replicate 124 none
  statics := none }

def pool1 : Array CpInfo := pool [(2, .class_ 4), (1, u "java/lang/Object"), (0, u "<init>"), (0, u "()V"), (0, .integer 1048575), (0, .integer 65535), (0, .long 5), (1, .long 4), (1, .class_ 14), (0, u "com/example/candex/candex/search/Bm25"), (0, .class_ 16), (0, u "com/example/candex/candex/index/FieldStatistics"), (0, .long 12), (1, .methodref 15 20), (0, .nameAndType 5 21), (0, u "(JJ)V"), (0, .methodref 13 23), (0, .nameAndType 5 24), (0, u "(Lcom/example/candex/candex/index/FieldStatistics;)V"), (0, .long 8), (1, .long 3), (1, .methodref 13 30), (0, .nameAndType 31 32), (0, u "score"), (0, u "(DII)D"), (0, .class_ 34), (0, u "com/example/candex/candex/search/Bm25ScorePinLaw"), (2, u "law"), (0, u "(IIIII)Z")] 3

def k1m0 : Method := { name := "<init>", desc := "()V", sig := { parameters := [], returnType := none }, accessFlags := 1, code := none }
def k1c1 : Code := { maxStack := 10, maxLocals := 21, code := code, exceptionTable := #[], attributes := #[] }
def k1m1 : Method := { name := "law", desc := "(IIIII)Z", sig := { parameters := [.int, .int, .int, .int, .int], returnType := some .boolean }, accessFlags := 9, code := some k1c1 }
/-- com/example/candex/candex/search/Bm25ScorePinLaw -/
def k1 : Class := { plain "com/example/candex/candex/search/Bm25ScorePinLaw" (some 0) with
  accessFlags := 49
  interfaces := #[]
  cf := some (fileOf pool1 33 #[] #[{ accessFlags := 1, nameIndex := 5, descriptorIndex := 6, attributes := #[] }, { accessFlags := 9, nameIndex := 37, descriptorIndex := 38, attributes := #[] }] 49 2 #[] #[])
  fields := #[]
  methods := #[k1m0, k1m1]
  instanceTypes := #[]
  staticTypes := #[]
  resolved := Array.replicate 42 none
  statics := none }

def pool2 : Array CpInfo := pool [(1, .methodref 2 3), (0, .class_ 4), (0, .nameAndType 5 6), (0, u "java/lang/Object"), (0, u "<init>"), (0, u "()V"), (0, .methodref 8 9), (0, .class_ 10), (0, .nameAndType 11 12), (0, u "com/example/candex/candex/index/FieldStatistics"), (0, u "docCount"), (0, u "()J"), (0, .fieldref 14 15), (0, .class_ 16), (0, .nameAndType 11 17), (0, u "com/example/candex/candex/search/Bm25"), (0, u "J"), (0, .methodref 8 19), (0, .nameAndType 20 21), (0, u "averageLength"), (0, u "()D"), (0, .fieldref 14 23), (0, .nameAndType 20 24), (0, u "D"), (8, .double 4608083138725491507), (1, .double 4598175219545276416), (1, .double 4604930618986332160), (1, u "K1"), (1, u "B"), (0, u "(Lcom/example/candex/candex/index/FieldStatistics;)V"), (4, u "score"), (0, u "(DII)D")] 2

def k2c0 : Code := { maxStack := 3, maxLocals := 2, code := prog_55_method_1_code, exceptionTable := #[], attributes := #[] }
def k2m0 : Method := { name := "<init>", desc := "(Lcom/example/candex/candex/index/FieldStatistics;)V", sig := { parameters := [(.object "com/example/candex/candex/index/FieldStatistics")], returnType := none }, accessFlags := 0, code := some k2c0 }
def k2c1 : Code := { maxStack := 12, maxLocals := 5, code := prog_55_method_3_code, exceptionTable := #[], attributes := #[] }
def k2m1 : Method := { name := "score", desc := "(DII)D", sig := { parameters := [.double, .int, .int], returnType := some .double }, accessFlags := 0, code := some k2c1 }
/-- com/example/candex/candex/search/Bm25 -/
def k2 : Class := { plain "com/example/candex/candex/search/Bm25" (some 0) with
  accessFlags := 32
  interfaces := #[]
  cf := some (fileOf pool2 14 #[] #[{ accessFlags := 0, nameIndex := 5, descriptorIndex := 42, attributes := #[] }, { accessFlags := 0, nameIndex := 47, descriptorIndex := 48, attributes := #[] }] 32 2 #[] #[{ accessFlags := 26, nameIndex := 39, descriptorIndex := 24, attributes := #[] }, { accessFlags := 26, nameIndex := 41, descriptorIndex := 24, attributes := #[] }, { accessFlags := 18, nameIndex := 11, descriptorIndex := 17, attributes := #[] }, { accessFlags := 18, nameIndex := 20, descriptorIndex := 24, attributes := #[] }])
  fields := #[{ name := "K1", type := .double, accessFlags := 26, slot := 0, constantValue := 0 }, { name := "B", type := .double, accessFlags := 26, slot := 1, constantValue := 0 }, { name := "docCount", type := .long, accessFlags := 18, slot := 0, constantValue := 0 }, { name := "averageLength", type := .double, accessFlags := 18, slot := 1, constantValue := 0 }]
  methods := #[k2m0, k2m1]
  instanceTypes := #[.long, .double]
  staticTypes := #[.double, .double]
  resolved := Array.replicate 51 none
  statics := none }

def pool3 : Array CpInfo := pool [(1, .methodref 2 3), (0, .class_ 4), (0, .nameAndType 5 6), (0, u "java/lang/Object"), (0, u "<init>"), (0, u "()V"), (0, .class_ 8), (0, u "java/lang/Record")] 13

def k3c0 : Code := { maxStack := 1, maxLocals := 1, code := jdk_30_method_1_code, exceptionTable := #[], attributes := #[] }
def k3m0 : Method := { name := "<init>", desc := "()V", sig := { parameters := [], returnType := none }, accessFlags := 4, code := some k3c0 }
/-- java/lang/Record -/
def k3 : Class := { plain "java/lang/Record" (some 0) with
  accessFlags := 1057
  interfaces := #[]
  cf := some (fileOf pool3 7 #[] #[{ accessFlags := 4, nameIndex := 5, descriptorIndex := 6, attributes := #[] }] 1057 2 #[] #[])
  fields := #[]
  methods := #[k3m0]
  instanceTypes := #[]
  staticTypes := #[]
  resolved := Array.replicate 22 none
  statics := none }

def pool4 : Array CpInfo := pool [(1, .methodref 2 3), (0, .class_ 4), (0, .nameAndType 5 6), (0, u "java/lang/Record"), (0, u "<init>"), (0, u "()V"), (0, .fieldref 8 9), (0, .class_ 10), (0, .nameAndType 11 12), (0, u "com/example/candex/candex/index/FieldStatistics"), (0, u "docCount"), (0, u "J"), (0, .fieldref 8 14), (0, .nameAndType 15 12), (0, u "totalLength"), (12, u "(JJ)V"), (3, u "averageLength"), (0, u "()D"), (4, u "()J")] 21

def k4c0 : Code := { maxStack := 3, maxLocals := 5, code := prog_15_method_1_code, exceptionTable := #[], attributes := #[] }
def k4m0 : Method := { name := "<init>", desc := "(JJ)V", sig := { parameters := [.long, .long], returnType := none }, accessFlags := 1, code := some k4c0 }
def k4c1 : Code := { maxStack := 4, maxLocals := 1, code := prog_15_method_2_code, exceptionTable := #[], attributes := #[] }
def k4m1 : Method := { name := "averageLength", desc := "()D", sig := { parameters := [], returnType := some .double }, accessFlags := 1, code := some k4c1 }
def k4c2 : Code := { maxStack := 2, maxLocals := 1, code := prog_15_method_6_code, exceptionTable := #[], attributes := #[] }
def k4m2 : Method := { name := "docCount", desc := "()J", sig := { parameters := [], returnType := some .long }, accessFlags := 1, code := some k4c2 }
/-- com/example/candex/candex/index/FieldStatistics -/
def k4 : Class := { plain "com/example/candex/candex/index/FieldStatistics" (some 3) with
  accessFlags := 49
  interfaces := #[]
  cf := some (fileOf pool4 8 #[] #[{ accessFlags := 1, nameIndex := 5, descriptorIndex := 28, attributes := #[] }, { accessFlags := 1, nameIndex := 32, descriptorIndex := 33, attributes := #[] }, { accessFlags := 1, nameIndex := 11, descriptorIndex := 38, attributes := #[] }] 49 2 #[] #[{ accessFlags := 18, nameIndex := 11, descriptorIndex := 12, attributes := #[] }, { accessFlags := 18, nameIndex := 15, descriptorIndex := 12, attributes := #[] }])
  fields := #[{ name := "docCount", type := .long, accessFlags := 18, slot := 0, constantValue := 0 }, { name := "totalLength", type := .long, accessFlags := 18, slot := 1, constantValue := 0 }]
  methods := #[k4m0, k4m1, k4m2]
  instanceTypes := #[.long, .long]
  staticTypes := #[]
  resolved := Array.replicate 60 none
  statics := none }

def pool5 : Array CpInfo := pool [(1, u "java/lang/Cloneable"), (0, .class_ 1), (0, u "java/lang/Object"), (0, .class_ 3)] 3

/-- java/lang/Cloneable -/
def k5 : Class := { plain "java/lang/Cloneable" (some 0) with
  accessFlags := 1537
  interfaces := #[]
  cf := some (fileOf pool5 2 #[] #[] 1537 4 #[] #[])
  fields := #[]
  methods := #[]
  instanceTypes := #[]
  staticTypes := #[]
  resolved := Array.replicate 8 none
  statics := none }

def pool6 : Array CpInfo := pool [(1, u "java/io/Serializable"), (0, .class_ 1), (0, u "java/lang/Object"), (0, .class_ 3)] 3

/-- java/io/Serializable -/
def k6 : Class := { plain "java/io/Serializable" (some 0) with
  accessFlags := 1537
  interfaces := #[]
  cf := some (fileOf pool6 2 #[] #[] 1537 4 #[] #[])
  fields := #[]
  methods := #[]
  instanceTypes := #[]
  staticTypes := #[]
  resolved := Array.replicate 8 none
  statics := none }

/-- the primitive byte -/
def k7 : Class := { plain "byte" none with kind := .primitive 'B', accessFlags := 0x411 }
/-- [B -/
def k8 : Class := { plain "[B" (some 0) with kind := .array 7 .byte, interfaces := #[5, 6], accessFlags := 1041 }

/-- the primitive int -/
def k9 : Class := { plain "int" none with kind := .primitive 'I', accessFlags := 0x411 }
/-- [I -/
def k10 : Class := { plain "[I" (some 0) with kind := .array 9 .int, interfaces := #[5, 6], accessFlags := 1041 }

def heap : Heap := #[]
def classes : Array Class := #[k0, k1, k2, k3, k4, k5, k6, k7, k8, k9, k10]
def interned : List (Array UInt16 × Addr) := []
def slotsUsed : Nat := 0
def theMethod : MethodId := ⟨1, 1⟩
def args0 : Array Value := #[.int 5, .int 6, .int 7, .int 8, .int 9]
def aboutOver (below : List Frame) : State where
  vm := { classes := classes, interned := interned.toArray }
  heap := heap
  slotsUsed := slotsUsed
  threads := #[{ frames := .invoking theMethod args0 :: below }]
def below0 : List Frame := [.native { method := ⟨0, 0⟩, args := #[] }]
def about1 : State := aboutOver below0
def p0 : Program := .bare "" "" ""
def e0 : Env := launch0.env 0 0 0
theorem w_frames : about1.frames = Frame.invoking theMethod args0 :: below0 := rfl
set_option maxRecDepth 65536 in
theorem w_args : argsFit about1.vm theMethod args0 = true := by decide +kernel
set_option maxRecDepth 65536 in
theorem w_heap : heapFits about1 = true := by decide +kernel
set_option maxRecDepth 65536 in
theorem w_runnable : about1.curStatus? = some .runnable := by decide +kernel
set_option maxRecDepth 65536 in
theorem w_alone : about1.alone = true := by decide +kernel
set_option maxRecDepth 65536 in
theorem w_named : about1.methodNamed? x = some theMethod := by decide +kernel
set_option maxRecDepth 65536 in
theorem w_hears : about1.hears theMethod below0 = true := by decide +kernel
set_option maxRecDepth 65536 in
theorem w_ripe : about1.ripe theMethod args0 below0 = true := by decide +kernel
theorem w_running : about1.status = .running := rfl
set_option maxRecDepth 65536 in
theorem w_room : about1.hasRoom e0.platform room_1 = true :=
  launch0.hasRoom_least _ room_1 (by decide +kernel) (by decide +kernel) (by decide +kernel) (by decide +kernel) (by decide +kernel) (by decide +kernel)
theorem allAtoms_all (ts : List Jvm.Cond) (a : Array Jvm.Value) (st : Jvm.State) : (allAtoms ts).before a st = ts.all (fun c => c.before a st) := by
  induction ts with
  | nil => rfl
  | cons c t ih =>
    show (Jvm.Cond.and c (allAtoms t)).before a st = _
    rw [Jvm.Cond.before_and, ih, List.all_cons]
def words1 : List Jvm.Cond := Jvm.Cond.code x code maxLocals ret :: tables_1
/-- a 'code' word, met by the world's own term for the bytes: nothing is compared byte by byte -/
theorem code_word {y : MethodName} {bytes : ByteArray} {mx : Nat} {rt : Option FieldType} {a : Array Value} {s : State} {m : MethodId} {meth : Method} {c : Code} (h1 : s.methodNamed? y = some m) (h2 : s.vm.method? m = some meth) (h3 : meth.code = some c) (h4 : c.code = bytes)
    (h5 : (c.maxLocals == mx && c.exceptionTable.isEmpty && decide (c.maxStack ≤ mostOperands) && decide (meth.sig.returnType = rt) && !meth.locks && decide (parseMethodDescriptor y.desc = some meth.sig)) = true) : (Jvm.Cond.code y bytes mx rt).before a s = true := by
  simp only [Bool.and_eq_true, beq_iff_eq, Bool.not_eq_true', decide_eq_true_eq] at h5
  obtain ⟨⟨⟨⟨⟨g1, g2⟩, g3⟩, g4⟩, g5⟩, g6⟩ := h5
  simp [Cond.before, Cond.holds, Cond.value, h1, h2, h3, h4, g1, g2, g3, g4, g5, g6]
def isCode : Jvm.Cond → Bool
  | .code _ _ _ _ => true
  | _ => false
theorem all_split {L : List Jvm.Cond} {P : Jvm.Cond → Bool} (h1 : L.all (fun c => isCode c || P c) = true) (h2 : ∀ c ∈ L.filter isCode, P c = true) : L.all P = true := by
  refine List.all_eq_true.mpr fun c hc => ?_
  have h := List.all_eq_true.mp h1 c hc
  rcases Bool.eq_false_or_eq_true (isCode c) with hi | hi
  · exact h2 c (List.mem_filter.mpr ⟨hc, hi⟩)
  · simpa [hi] using h
set_option maxRecDepth 65536 in
theorem w_c0 : (Jvm.Cond.code x code maxLocals ret).before args0 about1 = true := code_word (m := ⟨1, 1⟩) (meth := k1m1) (c := k1c1) (by decide +kernel) rfl rfl rfl (by decide +kernel)
set_option maxRecDepth 65536 in
theorem w_c1 : (Jvm.Cond.code ({ cls := "com/example/candex/candex/index/FieldStatistics", name := "<init>", desc := "(JJ)V" } : Jvm.MethodName) prog_15_method_1_code (5 : Nat) (Option.none : Option Jvm.ClassFile.FieldType)).before args0 about1 = true := code_word (m := ⟨4, 0⟩) (meth := k4m0) (c := k4c0) (by decide +kernel) rfl rfl rfl (by decide +kernel)
set_option maxRecDepth 65536 in
theorem w_c2 : (Jvm.Cond.code ({ cls := "java/lang/Record", name := "<init>", desc := "()V" } : Jvm.MethodName) jdk_30_method_1_code (1 : Nat) (Option.none : Option Jvm.ClassFile.FieldType)).before args0 about1 = true := code_word (m := ⟨3, 0⟩) (meth := k3m0) (c := k3c0) (by decide +kernel) rfl rfl rfl (by decide +kernel)
set_option maxRecDepth 65536 in
theorem w_c3 : (Jvm.Cond.code ({ cls := "java/lang/Object", name := "<init>", desc := "()V" } : Jvm.MethodName) object_method_1_code (1 : Nat) (Option.none : Option Jvm.ClassFile.FieldType)).before args0 about1 = true := code_word (m := ⟨0, 0⟩) (meth := k0m0) (c := k0c0) (by decide +kernel) rfl rfl rfl (by decide +kernel)
set_option maxRecDepth 65536 in
theorem w_c4 : (Jvm.Cond.code ({ cls := "com/example/candex/candex/search/Bm25", name := "<init>", desc := "(Lcom/example/candex/candex/index/FieldStatistics;)V" } : Jvm.MethodName) prog_55_method_1_code (2 : Nat) (Option.none : Option Jvm.ClassFile.FieldType)).before args0 about1 = true := code_word (m := ⟨2, 0⟩) (meth := k2m0) (c := k2c0) (by decide +kernel) rfl rfl rfl (by decide +kernel)
set_option maxRecDepth 65536 in
theorem w_c5 : (Jvm.Cond.code ({ cls := "com/example/candex/candex/index/FieldStatistics", name := "docCount", desc := "()J" } : Jvm.MethodName) prog_15_method_6_code (1 : Nat) (Option.some Jvm.ClassFile.FieldType.long)).before args0 about1 = true := code_word (m := ⟨4, 2⟩) (meth := k4m2) (c := k4c2) (by decide +kernel) rfl rfl rfl (by decide +kernel)
set_option maxRecDepth 65536 in
theorem w_c6 : (Jvm.Cond.code ({ cls := "com/example/candex/candex/index/FieldStatistics", name := "averageLength", desc := "()D" } : Jvm.MethodName) prog_15_method_2_code (1 : Nat) (Option.some Jvm.ClassFile.FieldType.double)).before args0 about1 = true := code_word (m := ⟨4, 1⟩) (meth := k4m1) (c := k4c1) (by decide +kernel) rfl rfl rfl (by decide +kernel)
set_option maxRecDepth 65536 in
theorem w_c7 : (Jvm.Cond.code ({ cls := "com/example/candex/candex/search/Bm25", name := "score", desc := "(DII)D" } : Jvm.MethodName) prog_55_method_3_code (5 : Nat) (Option.some Jvm.ClassFile.FieldType.double)).before args0 about1 = true := code_word (m := ⟨2, 1⟩) (meth := k2m1) (c := k2c1) (by decide +kernel) rfl rfl rfl (by decide +kernel)
def codes1 : List Jvm.Cond := [Jvm.Cond.code x code maxLocals ret, Jvm.Cond.code ({ cls := "com/example/candex/candex/index/FieldStatistics", name := "<init>", desc := "(JJ)V" } : Jvm.MethodName) prog_15_method_1_code (5 : Nat) (Option.none : Option Jvm.ClassFile.FieldType), Jvm.Cond.code ({ cls := "java/lang/Record", name := "<init>", desc := "()V" } : Jvm.MethodName) jdk_30_method_1_code (1 : Nat) (Option.none : Option Jvm.ClassFile.FieldType), Jvm.Cond.code ({ cls := "java/lang/Object", name := "<init>", desc := "()V" } : Jvm.MethodName) object_method_1_code (1 : Nat) (Option.none : Option Jvm.ClassFile.FieldType), Jvm.Cond.code ({ cls := "com/example/candex/candex/search/Bm25", name := "<init>", desc := "(Lcom/example/candex/candex/index/FieldStatistics;)V" } : Jvm.MethodName) prog_55_method_1_code (2 : Nat) (Option.none : Option Jvm.ClassFile.FieldType), Jvm.Cond.code ({ cls := "com/example/candex/candex/index/FieldStatistics", name := "docCount", desc := "()J" } : Jvm.MethodName) prog_15_method_6_code (1 : Nat) (Option.some Jvm.ClassFile.FieldType.long), Jvm.Cond.code ({ cls := "com/example/candex/candex/index/FieldStatistics", name := "averageLength", desc := "()D" } : Jvm.MethodName) prog_15_method_2_code (1 : Nat) (Option.some Jvm.ClassFile.FieldType.double), Jvm.Cond.code ({ cls := "com/example/candex/candex/search/Bm25", name := "score", desc := "(DII)D" } : Jvm.MethodName) prog_55_method_3_code (5 : Nat) (Option.some Jvm.ClassFile.FieldType.double)]
set_option maxRecDepth 65536 in
theorem codes_eq : words1.filter isCode = codes1 := rfl
theorem w_codes : ∀ c ∈ words1.filter isCode, c.before args0 about1 = true := by
  rw [codes_eq]
  intro c hc
  simp only [codes1, List.mem_cons, List.not_mem_nil, or_false] at hc
  rcases hc with rfl | rfl | rfl | rfl | rfl | rfl | rfl | rfl
  · exact w_c0
  · exact w_c1
  · exact w_c2
  · exact w_c3
  · exact w_c4
  · exact w_c5
  · exact w_c6
  · exact w_c7
set_option maxRecDepth 65536 in
theorem w_t1 : (words1.take 24).all (fun c => isCode c || c.before args0 about1) = true := by decide +kernel
set_option maxRecDepth 65536 in
theorem w_t2 : ((words1.drop 24).take 24).all (fun c => isCode c || c.before args0 about1) = true := by decide +kernel
set_option maxRecDepth 65536 in
theorem w_t3 : ((words1.drop 24).drop 24).all (fun c => isCode c || c.before args0 about1) = true := by decide +kernel
theorem w_tables : (allAtoms (Jvm.Cond.code x code maxLocals ret :: tables_1)).before args0 about1 = true := by
  rw [allAtoms_all]
  show words1.all (fun c => c.before args0 about1) = true
  refine all_split ?_ w_codes
  rw [← List.take_append_drop 24 words1, List.all_append, w_t1, ← List.take_append_drop 24 (words1.drop 24), List.all_append, w_t2, w_t3]
  rfl
set_option maxRecDepth 65536 in
theorem w_case : (Jvm.Cond.and given_1 narrow_1).before args0 about1 = true := by decide +kernel
theorem w_applies : (headSpec (Jvm.Cond.code x code maxLocals ret :: tables_1) room_1).applies x e0.platform about1 = true :=
  (Spec.applies_iff w_frames).mpr ⟨w_running, w_runnable, w_alone, w_named, w_hears, w_ripe, w_room, w_tables⟩
theorem atStart : AtStart classFile x code maxLocals ret World_1 tables_1 room_1 Calls_1 rest_1 Pre_1 launch0 p0 e0 about1 theMethod args0 below0 :=
  ⟨lists_1, trivial, launch0.admits_env _ _ _, launch0.least_env, fairChoices_fair.cas, fairChoices_fair.clock, w_frames, w_args, w_heap, w_applies, trivial, trivial, w_case⟩
end start1
theorem witness_1 : WitnessClaimed_1 := ⟨start1.p0, start1.e0, start1.about1, start1.theMethod, start1.args0, start1.below0, start1.atStart⟩
end Jvm.Pilot.@@N@@
