import JvmDerived
import JvmDerived.Pilot.@@N@@Statement
import JvmDerived.Pilot.@@N@@Code
set_option linter.unusedVariables false
set_option linter.unusedSimpArgs false
namespace Jvm.RoadKit
open Sem ClassFile Op Lib Jvm.Stand Jvm.Free Jvm.LawKit
section Own
/-- from u a state is reached where R holds -/
def own_Go (tb : Tables) (e : Env) (below : List Frame) (R : State → Prop) (u : State) : Prop := ∃ t, Steps tb e below u t ∧ R t
theorem own_st {tb : Tables} {e : Env} {below : List Frame} {R : State → Prop} {u v : State} (h : ∀ t, Steps tb e below v t → Steps tb e below u t) (g : own_Go tb e below R v) : own_Go tb e below R u := by
  obtain ⟨t, h1, h2⟩ := g
  exact ⟨t, h t h1, h2⟩
theorem own_fin {tb : Tables} {e : Env} {below : List Frame} {R : State → Prop} {u t : State} (h : Steps tb e below u t) (r : R t) : own_Go tb e below R u := ⟨t, h, r⟩
theorem own_in {tb : Tables} {e : Env} {below : List Frame} {u v : State} {P : State → Outcome → Prop} (h : ∀ t, Steps tb e below v t → Steps tb e below u t)
    (g : ∀ RR : State → Prop, (∀ t, (∃ o, t.status = .running ∧ P t o) → RR t) → own_Go tb e below RR v) : ∃ t o, Steps tb e below u t ∧ t.status = .running ∧ P t o := by
  obtain ⟨t, h1, o, h2, h3⟩ := g (fun t => ∃ o, t.status = .running ∧ P t o) fun _ q => q
  exact ⟨t, o, h t h1, h2, h3⟩
theorem own_ri {x y : Int32} (h : x = y) : some (Value.int x) = some (Value.int y) := h ▸ rfl
theorem own_rj {x y : Int64} (h : x = y) : some (Value.long x) = some (Value.long y) := h ▸ rfl
theorem own_rr {x y : Addr} (h : x = y) : some (Value.ref x) = some (Value.ref y) := h ▸ rfl
theorem own_eq_int {args : Array Value} {first s : State} {o : Option Outcome} {idx : List Nat} {a : Term} {k : Int32} (h : (Cond.eq a (.int k)).value args first o s idx = some true) : a.eval args first o idx s = some (.int k) := by
  simp only [Cond.value, Term.eval] at h
  cases ht : a.eval args first o idx s with
  | none => simp [ht] at h
  | some x => cases x <;> simp [ht] at h ⊢; exact h
theorem own_eq_long {args : Array Value} {first s : State} {o : Option Outcome} {idx : List Nat} {a : Term} {k : Int64} (h : (Cond.eq a (.long k)).value args first o s idx = some true) : a.eval args first o idx s = some (.long k) := by
  simp only [Cond.value, Term.eval] at h
  cases ht : a.eval args first o idx s with
  | none => simp [ht] at h
  | some x => cases x <;> simp [ht] at h ⊢; exact h
theorem own_staK {Z : State} {h h' : Heap} {C n d : String} {w : Value} {ws : List Addr} (F : Sta Z h C n d w) (K : Keep h h' ws) (q : ∀ x ∈ ws, ∀ cell : Cell, h[x]? = some cell → cell.vm.isStatics = false) : Sta Z h' C n d w := by
  obtain ⟨cf, i, k, f, st, cell, h1, h2, h3, h4, h5, h6, h7⟩ := F
  exact ⟨cf, i, k, f, st, cell, h1, h2, h3, h4, K.2.1 st cell h5 (fun m => by have := q st m cell h5; rw [h6] at this; cases this), h6, h7⟩
theorem own_selP {s : State} {args : Array Value} {y : MethodName} {n : Nat} (wi : (Cond.instantiable y.cls n).before args s = true) (hp : s.PrivateAt y) (hi : (Cond.instanceMethod y).before args s = true) (hy : y.cls ≠ "java/lang/invoke/MethodHandle" ∧ y.cls ≠ "java/lang/invoke/VarHandle") : (Cond.selects y.cls y y).before args s = true := by
  obtain ⟨c, k, h1, h2, -, h4, -⟩ := Cond.instantiable_spec wi
  exact selects_self_of_private h1 h2 (Bool.or_eq_false_iff.mp h4).1 hp hi hy
variable {p : Program} {l : Launch} {e : Env} {R : Room} {s : State} {m : MethodId} {args : Array Value} {below : List Frame} {meth : Method} {c : Code} {T : State} {locs : List Loc} {cells slots : Nat} {Z : State} {h : Heap}
theorem retI (X : Stand p l e R s m args below meth c T locs cells slots) (hx : p.tables.exec = Jvm.exec) {pc : Nat} {Ls : Array Slot} {z : Int32} {rest : List Value} (hret : meth.sig.returnType = some .int) (hd : decode c.code pc = .ok (.ireturn, 1)) {fs : List Frame}
    (hl : ∀ (f : JFrame) (acts : List Action), f.method = m → f.locked = none → f.entered = [] → (doReturn e (T.setTop f) acts (some (.int z))).1 = T.setFrames fs) : Steps p.tables e below (T.setTop (mkF m pc Ls (.int z :: rest))) (T.setFrames fs) :=
  retOut X hx hret rfl (Or.inl ⟨rfl, Or.inl rfl, z, rfl⟩) hd hl
theorem own_len (X : Stand p l e R s m args below meth c T locs cells slots) (hx : p.tables.exec = Jvm.exec) (hZ : Z.Warmed39 s.vm) (eT : T.heap = h) {a : Addr} {cl : Cell} {ty : FieldType} (A : Arr Z h a cl ty) {z : Int32} (S : cl.slots.size = z.toNatClampNeg) (N : ¬ z < 0)
    {g : JFrame} (hg : g.method = m) {rest : List Value} (hs : g.stack = .ref a :: rest) (hd : decode c.code g.pc = .ok (.arraylength, 1)) {target : State}
    (k : Steps p.tables e below (T.setTop { g with pc := g.pc + 1, stack := .int z :: rest }) target) : Steps p.tables e below (T.setTop g) target :=
  X.arraylength hx (by rw [eT]; exact A.1) (State.isArrayOf_alike hZ.alike A.2.1) hg hs hd target (by rw [len_of S N]; exact k)
end Own
end Jvm.RoadKit
namespace Jvm.RoadKit
open Jvm.FP.Core
section OwnFP
theorem own_core_le {ct cd t d M x y z w P : Nat} (e : 2 ^ x * 2 ^ y = 2 ^ z * (2 ^ w * P)) (T : ct * 2 ^ z = t * P) (D : cd * 2 ^ y = d * P) (h : t * P ≤ M * d) : ct * 2 ^ x ≤ M * 2 ^ w * cd := by
  have hy : 0 < 2 ^ y := Nat.two_pow_pos y
  refine Nat.le_of_mul_le_mul_right ?_ hy
  have l : ct * 2 ^ x * 2 ^ y = (t * P) * (2 ^ w * P) := by
    rw [Nat.mul_assoc, e, ← Nat.mul_assoc, T]
  have r : M * 2 ^ w * cd * 2 ^ y = (M * d) * (2 ^ w * P) := by
    rw [Nat.mul_assoc, D]
    ac_rfl
  rw [l, r]
  exact Nat.mul_le_mul_right _ h
theorem own_core_ge {ct cd t d M x y z w P : Nat} (e : 2 ^ x * 2 ^ y = 2 ^ z * (2 ^ w * P)) (T : ct * 2 ^ z = t * P) (D : cd * 2 ^ y = d * P) (h : M * d ≤ t * P) : M * 2 ^ w * cd ≤ ct * 2 ^ x := by
  have hy : 0 < 2 ^ y := Nat.two_pow_pos y
  refine Nat.le_of_mul_le_mul_right ?_ hy
  have l : ct * 2 ^ x * 2 ^ y = (t * P) * (2 ^ w * P) := by
    rw [Nat.mul_assoc, e, ← Nat.mul_assoc, T]
  have r : M * 2 ^ w * cd * 2 ^ y = (M * d) * (2 ^ w * P) := by
    rw [Nat.mul_assoc, D]
    ac_rfl
  rw [l, r]
  exact Nat.mul_le_mul_right _ h
/-- the bits of a number that is not negative, of the magnitude n in units of the least one -/
def own_V (a : UInt64) (n : Nat) : Prop := val64 a ≠ .nan ∧ sgn (val64 a) = false ∧ zmag b64 (val64 a) = n
theorem own_Vcmp {a b : UInt64} {n m : Nat} (ha : own_V a n) (hb : own_V b m) : FP.dcmp a b = some (compare (n : Int) (m : Int)) := by
  obtain ⟨a1, a2, a3⟩ := ha
  obtain ⟨b1, b2, b3⟩ := hb
  have h := dcmp_zval a1 b1
  unfold zval at h
  rw [a2, a3, b2, b3] at h
  exact h
/-- a whole number of 53 digits at the exponent q -/
theorem own_canon {m : Nat} {q : Int} (hm : m < 2 ^ 53) (h1 : -1074 ≤ q) (h2 : q ≤ 971) : ∃ c r, round b64 (.fin false m q) = .fin false c r ∧ FP.Core.fits b64 (.fin false c r) ∧ inUnits c r b64.qmin = m * 2 ^ (q + 1074).toNat := by
  have hx : b64.qmax = 971 := by decide
  obtain ⟨c, r, e1, e2⟩ := round_exact good_b64 false (c := m) (q := q) hm (by rw [qmin_b64]; exact h1) (by rw [hx]; exact h2)
  have f := round_fits good_b64 (.fin false m q)
  rw [e1] at f
  refine ⟨c, r, e1, f, e2.trans ?_⟩
  unfold inUnits
  rw [qmin_b64, Int.sub_neg]
theorem own_l2dV {n : Int64} (h0 : 0 ≤ n.toInt) (h : n.toInt < 2 ^ 53) : ∃ c r, val64 (FP.l2d n) = .fin false c r ∧ FP.Core.fits b64 (.fin false c r) ∧ inUnits c r b64.qmin = n.toInt.toNat * 2 ^ 1074 := by
  have e : val64 (FP.l2d n) = round b64 (.fin false n.toInt.toNat 0) := by
    refine (val64_l2d n).trans ?_
    unfold ofInt
    rw [decide_eq_false (by omega)]
    congr 2
    omega
  obtain ⟨c, r, e1, e2, e3⟩ := own_canon (m := n.toInt.toNat) (q := 0) (by omega) (by decide) (by decide)
  exact ⟨c, r, e.trans e1, e2, e3⟩
theorem own_Vl {n : Int64} (h0 : 0 ≤ n.toInt) (h : n.toInt < 2 ^ 53) : own_V (FP.l2d n) (n.toInt.toNat * 2 ^ 1074) := by
  obtain ⟨c, r, e1, e2, e3⟩ := own_l2dV h0 h
  refine ⟨by rw [e1]; nofun, by rw [e1]; rfl, ?_⟩
  rw [e1]
  exact e3
/-- the quotient of two whole numbers, and a number m of units of 2^-21 -/
theorem own_Vdiv {t d : Int64} (t0 : 0 ≤ t.toInt) (t1 : t.toInt < 2 ^ 53) (d0 : 0 < d.toInt) (d1 : d.toInt < 2 ^ 53) : ∃ n, own_V (FP.ddiv (FP.l2d t) (FP.l2d d)) n ∧
    (∀ m : Nat, m < 2 ^ 53 → t.toInt.toNat * 2 ^ 21 ≤ m * d.toInt.toNat → n ≤ m * 2 ^ 1053) ∧ (∀ m : Nat, m < 2 ^ 53 → m * d.toInt.toNat ≤ t.toInt.toNat * 2 ^ 21 → m * 2 ^ 1053 ≤ n) := by
  obtain ⟨ct, qt, a1, a2, a3⟩ := own_l2dV t0 t1
  obtain ⟨cd, qd, b1, b2, b3⟩ := own_l2dV (Int.le_of_lt d0) d1
  have hq1 := a2.2.1
  have hq2 := b2.2.1
  rw [qmin_b64] at hq1 hq2
  have cd0 : 0 < cd := by
    rcases Nat.eq_zero_or_pos cd with q | q
    · exfalso
      rw [q] at b3
      unfold inUnits at b3
      rw [Nat.zero_mul] at b3
      have : 0 < d.toInt.toNat * 2 ^ 1074 := Nat.mul_pos (by omega) (Nat.two_pow_pos _)
      omega
    · exact q
  have hv : val64 (FP.ddiv (FP.l2d t) (FP.l2d d)) = roundRatio b64 false ct cd (qt - qd) := by
    refine (val64_ddiv _ _).trans ?_
    rw [a1, b1]
    show (if cd = 0 then _ else _) = _
    rw [if_neg (by omega)]
    rfl
  unfold inUnits at a3 b3
  rw [qmin_b64] at a3 b3
  obtain ⟨e0, z1, z2⟩ : ∃ e0 : Int, e0 ≤ -1074 ∧ e0 ≤ qt - qd := ⟨min (-1074) (qt - qd), by omega, by omega⟩
  have ex : 2 ^ (qt - qd - e0).toNat * 2 ^ (qd - -1074).toNat = 2 ^ (qt - -1074).toNat * (2 ^ (-1074 - e0).toNat * 2 ^ 1074) := by
    rw [← Nat.pow_add, ← Nat.pow_add, ← Nat.pow_add]
    congr 1
    omega
  have hP : (2 : Nat) ^ 1074 = 2 ^ 21 * 2 ^ 1053 := by rw [← Nat.pow_add]
  refine ⟨zmag b64 (roundRatio b64 false ct cd (qt - qd)), ⟨by rw [hv]; exact roundRatio_ne_nan _ _ _ _ _, by rw [hv]; exact sgn_roundRatio _ _ _ _ _, by rw [hv]⟩, ?_, ?_⟩
  · intro m hm h
    obtain ⟨c, r, e1, e2, e3⟩ := own_canon (m := m) (q := -21) hm (by decide) (by decide)
    have e3' : zmag b64 (.fin false c r) = m * 2 ^ 1053 := e3
    rw [← e3']
    refine zmag_roundRatio_le good_b64 (e0 := e0) cd0 e2 (by nofun) (by rw [qmin_b64]; exact z1) z2 ?_
    rw [e3', qmin_b64]
    refine own_core_le ex a3 b3 ?_
    calc t.toInt.toNat * 2 ^ 1074 = (t.toInt.toNat * 2 ^ 21) * 2 ^ 1053 := by rw [hP, Nat.mul_assoc]
      _ ≤ (m * d.toInt.toNat) * 2 ^ 1053 := Nat.mul_le_mul_right _ h
      _ = m * 2 ^ 1053 * d.toInt.toNat := Nat.mul_right_comm _ _ _
  · intro m hm h
    obtain ⟨c, r, e1, e2, e3⟩ := own_canon (m := m) (q := -21) hm (by decide) (by decide)
    have e3' : zmag b64 (.fin false c r) = m * 2 ^ 1053 := e3
    rw [← e3']
    refine zmag_roundRatio_ge good_b64 (e0 := e0) cd0 e2 (by rw [qmin_b64]; exact z1) z2 ?_
    rw [e3', qmin_b64]
    refine own_core_ge ex a3 b3 ?_
    calc m * 2 ^ 1053 * d.toInt.toNat = (m * d.toInt.toNat) * 2 ^ 1053 := Nat.mul_right_comm _ _ _
      _ ≤ (t.toInt.toNat * 2 ^ 21) * 2 ^ 1053 := Nat.mul_le_mul_right _ h
      _ = t.toInt.toNat * 2 ^ 1074 := by rw [hP, Nat.mul_assoc]
/-- a whole number and a half -/
theorem own_Vhalf {n : Int64} (h0 : 0 ≤ n.toInt) (h : n.toInt < 2 ^ 31) : own_V (FP.dadd (FP.l2d n) 4602678819172646912) ((2 * n.toInt.toNat + 1) * 2 ^ 1073) := by
  obtain ⟨c1, r1, a1, a2, a3⟩ := own_l2dV h0 (by omega)
  have b1 : val64 4602678819172646912 = .fin false 4503599627370496 (-53) := by decide +kernel
  have b2 : FP.Core.fits b64 (.fin false 4503599627370496 (-53)) := b1 ▸ val64_fits _
  obtain ⟨sg, k, e, s1, s2, s3⟩ := sum_units a2 b2
  have z1 : zval b64 (.fin false c1 r1) = ((n.toInt.toNat * 2 ^ 1074 : Nat) : Int) := by
    show ((inUnits c1 r1 b64.qmin : Nat) : Int) = _
    rw [a3]
  have z2 : zval b64 (.fin false 4503599627370496 (-53)) = ((2 ^ 1073 : Nat) : Int) := by decide +kernel
  rw [z1, z2] at s3
  have hs : sg = false := by
    cases sg with
    | false => rfl
    | true =>
      exfalso
      have p : 0 < 2 ^ 1073 := Nat.two_pow_pos 1073
      unfold signed at s3
      rw [if_pos rfl] at s3
      generalize (2 : Nat) ^ 1073 = u at s3 p
      generalize n.toInt.toNat * 2 ^ 1074 = v at s3
      omega
  subst hs
  have s4 : inUnits k e b64.qmin = (2 * n.toInt.toNat + 1) * 2 ^ 1073 := by
    have s3' : ((inUnits k e b64.qmin : Nat) : Int) = ((n.toInt.toNat * 2 ^ 1074 : Nat) : Int) + ((2 ^ 1073 : Nat) : Int) := s3
    have hP : (2 : Nat) ^ 1074 = 2 * 2 ^ 1073 := by rw [Nat.pow_succ, Nat.mul_comm]
    rw [hP] at s3'
    have : inUnits k e b64.qmin = n.toInt.toNat * (2 * 2 ^ 1073) + 2 ^ 1073 := by
      generalize n.toInt.toNat * (2 * 2 ^ 1073) = v at s3' ⊢
      generalize (2 : Nat) ^ 1073 = u at s3' ⊢
      omega
    rw [this, Nat.add_mul, Nat.one_mul]
    generalize (2 : Nat) ^ 1073 = u
    ac_rfl
  have hv : val64 (FP.dadd (FP.l2d n) 4602678819172646912) = roundRatio b64 false k 1 e := by
    refine (val64_dadd _ _).trans ?_
    rw [a1, b1, s1]
    rfl
  obtain ⟨c, r, e1, e2, e3⟩ := own_canon (m := 2 * n.toInt.toNat + 1) (q := -1) (by omega) (by decide) (by decide)
  have e3' : zmag b64 (.fin false c r) = (2 * n.toInt.toNat + 1) * 2 ^ 1073 := e3
  have q1 : (b64.qmin - b64.qmin).toNat = 0 := by decide
  refine ⟨by rw [hv]; exact roundRatio_ne_nan _ _ _ _ _, by rw [hv]; exact sgn_roundRatio _ _ _ _ _, ?_⟩
  rw [hv, ← e3']
  apply Nat.le_antisymm
  · refine zmag_roundRatio_le good_b64 (e0 := b64.qmin) (by decide) e2 (by nofun) (Int.le_refl _) s2 ?_
    rw [q1, Nat.pow_zero, Nat.mul_one, Nat.mul_one, e3', s4]
    exact Nat.le_refl _
  · refine zmag_roundRatio_ge good_b64 (e0 := b64.qmin) (by decide) e2 (Int.le_refl _) s2 ?_
    rw [q1, Nat.pow_zero, Nat.mul_one, Nat.mul_one, e3', s4]
    exact Nat.le_refl _
end OwnFP
end Jvm.RoadKit
namespace Jvm.Pilot.@@N@@
open Jvm Jvm.ClassFile Sem Op Lib Jvm.Free Jvm.Stand Jvm.LawKit Jvm.RoadKit Bundle Jvm.Pilot.@@N@@.Jvm.D
theorem own_dc0 : FP.dconst0 = FP.l2d 0 := by decide +kernel
theorem own_dc1 : FP.dconst1 = FP.l2d 1 := by decide +kernel
theorem own_nn {a : UInt64} {n : Nat} (h : own_V a n) : Jvm.Free.Fl.NoNaN64 a := Jvm.Free.Fl.noNaN64_no.mpr ((Jvm.FP.Core.notNaN_iff a).mpr h.1)
theorem own_z00 : cmpValue (FP.dcmp (FP.l2d 0) (FP.l2d 0)) .l = 0 := by decide +kernel
theorem own_clt {a b : UInt64} {n m : Nat} (o : CmpOp) (ha : own_V a n) (hb : own_V b m) (h : n < m) : cmpValue (FP.dcmp a b) o = -1 := by
  rw [own_Vcmp ha hb, show compare (n : Int) (m : Int) = .lt from Int.compare_eq_lt.mpr (Int.ofNat_lt.mpr h)]
  cases o <;> rfl
theorem own_ceq {a b : UInt64} {n m : Nat} (o : CmpOp) (ha : own_V a n) (hb : own_V b m) (h : n = m) : cmpValue (FP.dcmp a b) o = 0 := by
  subst h
  rw [own_Vcmp ha hb, show compare (n : Int) (n : Int) = .eq from Int.compare_eq_eq.mpr rfl]
  cases o <;> rfl
theorem own_cgt {a b : UInt64} {n m : Nat} (o : CmpOp) (ha : own_V a n) (hb : own_V b m) (h : m < n) : cmpValue (FP.dcmp a b) o = 1 := by
  rw [own_Vcmp ha hb, show compare (n : Int) (m : Int) = .gt from Int.compare_eq_gt.mpr (Int.ofNat_lt.mpr h)]
  cases o <;> rfl
/-- what the law's numbers are -/
def own_R (q d r t : Int64) : Prop := 0 ≤ q.toInt ∧ q.toInt < 2147483648 ∧ 1 ≤ d.toInt ∧ d.toInt ≤ 1048576 ∧ 0 ≤ r.toInt ∧ r.toInt < d.toInt ∧ t.toInt = q.toInt * d.toInt + r.toInt
theorem own_Rd {x d : Int64} (h : (1 : Int64) + ((x.toUInt64 >>> ((3 : Int32) &&& 0x3f).toInt64.toUInt64).toInt64 &&& (1048575 : Int64)) = d) : 1 ≤ d.toInt ∧ d.toInt ≤ 1048576 := by
  generalize (x.toUInt64 >>> ((3 : Int32) &&& 0x3f).toInt64.toUInt64).toInt64 = y at h
  have h1 := c_maskL y 1048575 20 (by decide) (by decide)
  have h2 := c_ladd 1 (y &&& 1048575)
  rw [h] at h2
  have e1 : (1 : Int64).toInt = 1 := by decide
  have e2 : ((2 ^ 20 : Nat) : Int) = 1048576 := by decide
  have l1 := Int64.minValue_le_toInt d
  have l2 := Int64.toInt_lt d
  have m1 : Int64.minValue.toInt = -9223372036854775808 := by decide
  rw [e2] at h1
  rw [e1] at h2
  omega
theorem own_Rq {x q : Int64} (h : x &&& (2147483647 : Int64) = q) : 0 ≤ q.toInt ∧ q.toInt < 2147483648 := by
  have h1 := c_maskL x 2147483647 31 (by decide) (by decide)
  have e2 : ((2 ^ 31 : Nat) : Int) = 2147483648 := by decide
  rw [h, e2] at h1
  omega
theorem own_Rr {x d r : Int64} (hd : 1 ≤ d.toInt) (h : (x &&& (9223372036854775807 : Int64)) % d = r) : 0 ≤ r.toInt ∧ r.toInt < d.toInt := by
  have h1 := c_maskL x 9223372036854775807 63 (by decide) (by decide)
  have e2 : ((2 ^ 63 : Nat) : Int) = 9223372036854775808 := by decide
  have h2 := (c_lrem (x &&& 9223372036854775807) d d.toInt rfl).1 (by rw [h1, e2]; omega)
  rw [lrem_mod, h] at h2
  have h3 := Int.emod_nonneg (x &&& 9223372036854775807).toInt (show d.toInt ≠ 0 by omega)
  have h4 := Int.emod_lt_of_pos (x &&& 9223372036854775807).toInt (show 0 < d.toInt by omega)
  omega
theorem own_nzd {d : Int64} (h : 1 ≤ d.toInt) : ¬ d = (0 : Int64) := fun q => by
  rw [q] at h
  exact absurd h (by decide)
theorem own_Rt {q d r t : Int64} (hq : 0 ≤ q.toInt ∧ q.toInt < 2147483648) (hd : 1 ≤ d.toInt ∧ d.toInt ≤ 1048576) (hr : 0 ≤ r.toInt ∧ r.toInt < d.toInt) (h : q * d + r = t) : own_R q d r t := by
  have h1 := c_lmul q d
  have h2 := c_ladd (q * d) r
  rw [h] at h2
  have b1 : 0 ≤ q.toInt * d.toInt := Int.mul_nonneg hq.1 (by omega)
  have b2 : q.toInt * d.toInt ≤ 2147483648 * 1048576 := Int.le_trans (Int.mul_le_mul_of_nonneg_right (by omega) (by omega)) (Int.mul_le_mul_of_nonneg_left hd.2 (by omega))
  have l1 := Int64.minValue_le_toInt t
  have l2 := Int64.toInt_lt t
  have l3 := Int64.minValue_le_toInt (q * d)
  have l4 := Int64.toInt_lt (q * d)
  have m1 : Int64.minValue.toInt = -9223372036854775808 := by decide
  refine ⟨hq.1, hq.2, hd.1, hd.2, hr.1, hr.2, ?_⟩
  generalize q.toInt * d.toInt = z at *
  omega
theorem own_Rb {q d r t : Int64} (R : own_R q d r t) : 0 ≤ t.toInt ∧ t.toInt < 2 ^ 53 := by
  obtain ⟨q0, q1, d0, d1, r0, r1, e⟩ := R
  have b1 : 0 ≤ q.toInt * d.toInt := Int.mul_nonneg q0 (by omega)
  have b2 : q.toInt * d.toInt ≤ 2147483648 * 1048576 := Int.le_trans (Int.mul_le_mul_of_nonneg_right (by omega) (by omega)) (Int.mul_le_mul_of_nonneg_left d1 (by omega))
  rw [e]
  generalize q.toInt * d.toInt = z at *
  omega
/-- the quotient's magnitude, and the three marks -/
theorem own_avg {q d r t : Int64} (R : own_R q d r t) : ∃ n, own_V (FP.ddiv (FP.l2d t) (FP.l2d d)) n ∧ (r = 0 → n = q.toInt.toNat * 2 ^ 1074) ∧ (¬ r = 0 → q.toInt.toNat * 2 ^ 1074 < n) ∧ n < (q.toInt.toNat + 1) * 2 ^ 1074 ∧
    (2 * r.toInt < d.toInt → n < (2 * q.toInt.toNat + 1) * 2 ^ 1073) ∧ (d.toInt < 2 * r.toInt → (2 * q.toInt.toNat + 1) * 2 ^ 1073 < n) ∧ (2 * r.toInt = d.toInt → n = (2 * q.toInt.toNat + 1) * 2 ^ 1073) := by
  have ⟨t0, t1⟩ := own_Rb R
  obtain ⟨q0, q1, d0, d1, r0, r1, e⟩ := R
  obtain ⟨n, hV, hle, hge⟩ := own_Vdiv t0 t1 (show 0 < d.toInt by omega) (show d.toInt < 2 ^ 53 by omega)
  refine ⟨n, hV, ?_⟩
  have hr0 : ¬ r = 0 → 1 ≤ r.toInt := fun h => by
    have : ¬ r.toInt = 0 := fun k => h (Int64.toInt_inj.mp (k.trans (by decide)))
    omega
  have hr1 : r = 0 → r.toInt = 0 := fun h => by rw [h]; decide
  obtain ⟨Q, eQ⟩ : ∃ Q : Nat, q.toInt = Q := ⟨q.toInt.toNat, by omega⟩
  obtain ⟨D, eD⟩ : ∃ D : Nat, d.toInt = D := ⟨d.toInt.toNat, by omega⟩
  obtain ⟨K, eK⟩ : ∃ K : Nat, r.toInt = K := ⟨r.toInt.toNat, by omega⟩
  have eT : t.toInt.toNat = Q * D + K := by
    rw [e, eQ, eD, eK]
    rfl
  rw [eT] at hle hge
  rw [eD] at hle hge d0 d1 r1
  rw [eK] at hr0 hr1 r1
  rw [eQ, eD, eK]
  rw [eQ] at q1
  simp only [Int.toNat_natCast] at hle hge ⊢
  have hQ : Q < 2147483648 := by omega
  have hD1 : 1 ≤ D := by omega
  have hD : D ≤ 1048576 := by omega
  have hK : K < D := by omega
  have up : 0 < 2 ^ 1053 := Nat.two_pow_pos 1053
  have p74 : ∀ x : Nat, x * 2 ^ 1074 = (x * 2097152) * 2 ^ 1053 := fun x => by
    rw [show (2 : Nat) ^ 1074 = 2097152 * 2 ^ 1053 from by rw [show (2097152 : Nat) = 2 ^ 21 from rfl, ← Nat.pow_add], Nat.mul_assoc]
  have p73 : ∀ x : Nat, x * 2 ^ 1073 = (x * 1048576) * 2 ^ 1053 := fun x => by
    rw [show (2 : Nat) ^ 1073 = 1048576 * 2 ^ 1053 from by rw [show (1048576 : Nat) = 2 ^ 20 from rfl, ← Nat.pow_add], Nat.mul_assoc]
  rw [p74, p74, p73]
  have e21 : (2 : Nat) ^ 21 = 2097152 := rfl
  have e53 : (2 : Nat) ^ 53 = 9007199254740992 := rfl
  rw [e21, e53] at hle hge
  generalize (2 : Nat) ^ 1053 = u at *
  have st : ∀ {x y : Nat}, x < y → x * u < y * u := fun {x y} h => Nat.mul_lt_mul_of_pos_right h up
  -- the products
  have P : ∀ m : Nat, (Q * D + K) * 2097152 = Q * 2097152 * D + K * 2097152 := fun _ => by rw [Nat.add_mul]; congr 1; ac_rfl
  have A1 : ∀ s : Nat, (Q * 2097152 + s) * D = Q * 2097152 * D + s * D := fun s => Nat.add_mul ..
  refine ⟨?_, ?_, ?_, ?_, ?_, ?_⟩
  · intro h
    have k0 : K = 0 := by have := hr1 h; omega
    apply Nat.le_antisymm
    · exact hle _ (by omega) (by rw [P 0, k0]; omega)
    · exact hge _ (by omega) (by rw [P 0, k0]; omega)
  · intro h
    have k1 : 1 ≤ K := by have := hr0 h; omega
    exact Nat.lt_of_lt_of_le (st (Nat.lt_succ_self _)) (hge (Q * 2097152 + 1) (by omega) (by rw [P 0, A1]; omega))
  · have h1 := hle (Q * 2097152 + 2097151) (by omega) (by
      rw [P 0, A1]
      have : K * 2097152 ≤ 2097151 * D := by omega
      omega)
    exact Nat.lt_of_le_of_lt h1 (st (by omega))
  · intro h
    have h1 := hle (Q * 2097152 + 1048575) (by omega) (by
      rw [P 0, A1]
      have : K * 2097152 ≤ 1048575 * D := by omega
      omega)
    exact Nat.lt_of_le_of_lt h1 (st (by omega))
  · intro h
    have h1 := hge (Q * 2097152 + 1048577) (by omega) (by
      rw [P 0, A1]
      have : 1048577 * D ≤ K * 2097152 := by omega
      omega)
    exact Nat.lt_of_lt_of_le (st (by omega)) h1
  · intro h
    have e3 : (2 * Q + 1) * 1048576 = Q * 2097152 + 1048576 := by omega
    rw [e3]
    apply Nat.le_antisymm
    · exact hle _ (by omega) (by
        rw [P 0, A1]
        have : K * 2097152 ≤ 1048576 * D := by omega
        omega)
    · exact hge _ (by omega) (by
        rw [P 0, A1]
        have : 1048576 * D ≤ K * 2097152 := by omega
        omega)
theorem own_V1 {q : Int64} (h : 0 ≤ q.toInt ∧ q.toInt < 2147483648) : own_V (FP.dadd (FP.l2d q) (FP.l2d 1)) ((q.toInt.toNat + 1) * 2 ^ 1074) := by
  have e1 : (1 : Int64).toInt = 1 := by decide
  have h2 := c_ladd q 1
  rw [e1] at h2
  have l1 := Int64.minValue_le_toInt (q + 1)
  have l2 := Int64.toInt_lt (q + 1)
  have m1 : Int64.minValue.toInt = -9223372036854775808 := by decide
  have e2 : (q + 1).toInt = q.toInt + 1 := by omega
  rw [dadd_w (a := q) (b := 1) (by unfold B53; omega) (by unfold B53; omega)]
  have hV := own_Vl (n := q + 1) (by omega) (by omega)
  rw [e2, Int.toNat_add h.1 (by decide)] at hV
  exact hV
theorem own_2r {q d r t : Int64} (R : own_R q d r t) : ((2 : Int64) * r).toInt = 2 * r.toInt := by
  obtain ⟨q0, q1, d0, d1, r0, r1, e⟩ := R
  have h := c_lmul 2 r
  have e2 : (2 : Int64).toInt = 2 := by decide
  rw [e2] at h
  have l1 := Int64.minValue_le_toInt (2 * r)
  have l2 := Int64.toInt_lt (2 * r)
  have m1 : Int64.minValue.toInt = -9223372036854775808 := by decide
  omega
theorem own_2l {q d r t : Int64} (R : own_R q d r t) (h : (2 : Int64) * r < d) : 2 * r.toInt < d.toInt := by
  rw [Int64.lt_iff_toInt_lt, own_2r R] at h
  exact h
theorem own_2g {q d r t : Int64} (R : own_R q d r t) (h : d < (2 : Int64) * r) : d.toInt < 2 * r.toInt := by
  rw [Int64.lt_iff_toInt_lt, own_2r R] at h
  exact h
theorem own_2e {q d r t : Int64} (R : own_R q d r t) (h : ¬ (2 : Int64) * r < d) (h2 : ¬ d < (2 : Int64) * r) : 2 * r.toInt = d.toInt := by
  rw [Int64.lt_iff_toInt_lt, own_2r R] at h h2
  omega
theorem own_pn_java_lang_Record : plainName "java/lang/Record" = true := by first | (simp [plainName, overriddenIn]; done) | decide +kernel
theorem own_djdk_30_method_1_code_0 : decode jdk_30_method_1_code 0 = .ok (.aload_n 0, 1) := by decide +kernel
theorem own_djdk_30_method_1_code_1 : decode jdk_30_method_1_code 1 = .ok (.invokespecial 1, 3) := by decide +kernel
theorem own_djdk_30_method_1_code_4 : decode jdk_30_method_1_code 4 = .ok (.return_, 1) := by decide +kernel
theorem own_efRI (m : MethodId) (o : Addr) : entryFrame m #[(.ref o)] 1 = mkF m 0 #[.val (.ref o)] [] := by first | (simp [entryFrame, mkF, argsToLocals, Value.category]; done) | rfl
def own_QRI (Z : State) (o : Addr) (h0 : Heap) (n0 : Nat) (rv__ : Option Value) (h : Heap) (rL__ : List Loc) : Prop := rv__ = none ∧ Fr n0 rL__ ∧ h = h0
abbrev own_RRI : Room := { frames := 1, cells := 0, slots := 0, locals := 12 }
set_option maxRecDepth 65536 in
set_option maxHeartbeats 40000000 in
theorem own_rmRI (l : Launch) (Z : State) (a0 : Array Value) (hw : ∀ d ∈ tables_1, d.before a0 Z = true) (ws : List Jvm.Cond) (o : Addr) (h0 : Heap) (n0 : Nat) (Z0 : n0 ≤ h0.size)  :
    MetFree l (⟨"java/lang/Record", "<init>", "()V"⟩ : MethodName) (head1 (Jvm.Cond.code (⟨"java/lang/Record", "<init>", "()V"⟩ : MethodName) jdk_30_method_1_code 1 none :: ws) own_RRI) (fun aa__ U => aa__ = #[(.ref o)] ∧ Z.Warmed39 U.vm ∧ U.heap = h0) (fun _ _ _ _ _ => True) (fun _ U oc_ U' => ∃ rv__ rL__, oc_ = .returned rv__ ∧ own_QRI Z o h0 n0 rv__ U'.heap rL__ ∧ FrameEnd U oc_ U' rL__ own_RRI.cells own_RRI.slots) := by
  refine MetFree.of_bodySF (plainFor_of_name own_pn_java_lang_Record) hisR ?_
  intro p e s m args below meth c s₁ Bd hml0 hP hK
  obtain ⟨rfl, hZ, hh⟩ := hP
  have hx := Bd.exec
  have hby := Bd.bytes
  have hml : c.maxLocals = 1 := hml0
  have hown : s.vm.findClass "java/lang/Record" = some m.cls := findClass_of_methodNamed Bd.named
  have hnm := (name_of_methodNamed Bd.named Bd.method).1
  have X0 : Stand p l e own_RRI s m #[(.ref o)] below meth c s₁ [] 0 0 := Stand.of_body Bd
  have e0 : s₁.heap = h0 := by rw [← hh, Bd.state]; rfl
  have N0 := Fr.nil n0
  refine own_in (fun _ k => castTop (own_efRI m o) k) ?_
  intro RR hRR
  show own_Go p.tables e below RR (s₁.setTop (mkF m 0 #[.val (.ref o)] []))
  refine own_st (fun _ k => XS.aloadN X0.here hx rfl (hb hby own_djdk_30_method_1_code_0) rfl rfl k) ?_
  show own_Go p.tables e below RR (s₁.setTop (mkF m 1 #[.val (.ref o)] [(.ref o)]))
  obtain ⟨T1, X1, e1, st1⟩ := initO X0 hx hZ hown (hw _ (List.mem_of_getElem? (i := 15) rfl)) (hw _ (List.mem_of_getElem? (i := 16) rfl)) (hw _ (List.mem_of_getElem? (i := 17) rfl)) e0 (g := (mkF m 1 #[.val (.ref o)] [(.ref o)])) rfl (by rw [hml]; rfl) rfl (hb hby own_djdk_30_method_1_code_1) (by decide) (W := 0) (by show 2 * 0 + _ ≤ _; exact Nat.le_of_eq rfl) (by decide)
  refine own_st st1 ?_
  show own_Go p.tables e below RR (T1.setTop (mkF m 4 #[.val (.ref o)] []))
  obtain ⟨fs, hrt_, hrun, hended, hW, hsame⟩ := X1.leave (v := none) (fun _ => rfl)
  refine own_fin (X1.returnOut hx Bd.returns (hb hby own_djdk_30_method_1_code_4) hrt_) (hRR _ ⟨_, hrun, hended, _, _, rfl, ?_, ⟨_, rfl⟩, hW, hsame.mono (by decide) (by decide)⟩)
  show own_QRI Z o h0 n0 _ T1.heap _
  rw [e1]
  exact ⟨rfl, N0, rfl⟩
theorem own_pn_com_example_candex_candex_index_FieldStatistics : plainName "com/example/candex/candex/index/FieldStatistics" = true := by first | (simp [plainName, overriddenIn]; done) | decide +kernel
theorem own_dprog_15_method_1_code_0 : decode prog_15_method_1_code 0 = .ok (.aload_n 0, 1) := by decide +kernel
theorem own_pd___V : parseMethodDescriptor "()V" = some ⟨[], none⟩ := by decide +kernel
theorem own_dprog_15_method_1_code_1 : decode prog_15_method_1_code 1 = .ok (.invokespecial 1, 3) := by decide +kernel
theorem own_dprog_15_method_1_code_4 : decode prog_15_method_1_code 4 = .ok (.aload_n 0, 1) := by decide +kernel
theorem own_dprog_15_method_1_code_5 : decode prog_15_method_1_code 5 = .ok (.lload_n 1, 1) := by decide +kernel
theorem own_dprog_15_method_1_code_6 : decode prog_15_method_1_code 6 = .ok (.putfield 7, 3) := by decide +kernel
theorem own_dprog_15_method_1_code_9 : decode prog_15_method_1_code 9 = .ok (.aload_n 0, 1) := by decide +kernel
theorem own_dprog_15_method_1_code_10 : decode prog_15_method_1_code 10 = .ok (.lload_n 3, 1) := by decide +kernel
theorem own_dprog_15_method_1_code_11 : decode prog_15_method_1_code 11 = .ok (.putfield 13, 3) := by decide +kernel
theorem own_dprog_15_method_1_code_14 : decode prog_15_method_1_code 14 = .ok (.return_, 1) := by decide +kernel
theorem own_efFI (m : MethodId) (o : Addr) (dd : Int64) (tt : Int64) : entryFrame m #[(.ref o), (.long dd), (.long tt)] 5 = mkF m 0 #[.val (.ref o), .val (.long dd), .second, .val (.long tt), .second] [] := by first | (simp [entryFrame, mkF, argsToLocals, Value.category]; done) | rfl
def own_QFI (Z : State) (o : Addr) (dd : Int64) (tt : Int64) (h0 : Heap) (n0 : Nat) (rv__ : Option Value) (h : Heap) (rL__ : List Loc) : Prop := rv__ = none ∧ Fr n0 rL__ ∧ Keep h0 h [o] ∧ Exa Z h o "com/example/candex/candex/index/FieldStatistics" ∧ Fld Z h o "com/example/candex/candex/index/FieldStatistics" "docCount" "J" (.long dd) ∧ Fld Z h o "com/example/candex/candex/index/FieldStatistics" "totalLength" "J" (.long tt)
abbrev own_RFI : Room := { frames := 2, cells := 0, slots := 0, locals := 24 }
set_option maxRecDepth 65536 in
set_option maxHeartbeats 40000000 in
theorem own_rmFI (l : Launch) (Z : State) (a0 : Array Value) (hw : ∀ d ∈ tables_1, d.before a0 Z = true) (ws : List Jvm.Cond) (o : Addr) (dd : Int64) (tt : Int64) (h0 : Heap) (n0 : Nat) (Z0 : n0 ≤ h0.size) (g_o : n0 ≤ o) (E : Exa Z h0 o "com/example/candex/candex/index/FieldStatistics") (Fd : Fld Z h0 o "com/example/candex/candex/index/FieldStatistics" "docCount" "J" (.long (0 : Int64))) (Ft : Fld Z h0 o "com/example/candex/candex/index/FieldStatistics" "totalLength" "J" (.long (0 : Int64))) :
    MetFree l (⟨"com/example/candex/candex/index/FieldStatistics", "<init>", "(JJ)V"⟩ : MethodName) (head1 (Jvm.Cond.code (⟨"com/example/candex/candex/index/FieldStatistics", "<init>", "(JJ)V"⟩ : MethodName) prog_15_method_1_code 5 none :: ws) own_RFI) (fun aa__ U => aa__ = #[(.ref o), (.long dd), (.long tt)] ∧ Z.Warmed39 U.vm ∧ U.heap = h0) (fun _ _ _ _ _ => True) (fun _ U oc_ U' => ∃ rv__ rL__, oc_ = .returned rv__ ∧ own_QFI Z o dd tt h0 n0 rv__ U'.heap rL__ ∧ FrameEnd U oc_ U' rL__ own_RFI.cells own_RFI.slots) := by
  refine MetFree.of_bodySF (plainFor_of_name own_pn_com_example_candex_candex_index_FieldStatistics) hisR ?_
  intro p e s m args below meth c s₁ Bd hml0 hP hK
  obtain ⟨rfl, hZ, hh⟩ := hP
  have hx := Bd.exec
  have hby := Bd.bytes
  have hml : c.maxLocals = 5 := hml0
  have hown : s.vm.findClass "com/example/candex/candex/index/FieldStatistics" = some m.cls := findClass_of_methodNamed Bd.named
  have hnm := (name_of_methodNamed Bd.named Bd.method).1
  have X0 : Stand p l e own_RFI s m #[(.ref o), (.long dd), (.long tt)] below meth c s₁ [] 0 0 := Stand.of_body Bd
  have e0 : s₁.heap = h0 := by rw [← hh, Bd.state]; rfl
  have N0 := Fr.nil n0
  refine own_in (fun _ k => castTop (own_efFI m o dd tt) k) ?_
  intro RR hRR
  show own_Go p.tables e below RR (s₁.setTop (mkF m 0 #[.val (.ref o), .val (.long dd), .second, .val (.long tt), .second] []))
  refine own_st (fun _ k => XS.aloadN X0.here hx rfl (hb hby own_dprog_15_method_1_code_0) rfl rfl k) ?_
  show own_Go p.tables e below RR (s₁.setTop (mkF m 1 #[.val (.ref o), .val (.long dd), .second, .val (.long tt), .second] [(.ref o)]))
  obtain ⟨_, _, ⟨T1, L1, k1, n1⟩, -, X1, ⟨Lc1, hQ1, l1, y1, z1⟩, st1⟩ := X0.specialBack hx (y := (⟨"java/lang/Record", "<init>", "()V"⟩ : MethodName)) rfl hown (mvT hZ (hw _ (List.mem_of_getElem? (i := 10) rfl))) (mvT hZ (hw _ (List.mem_of_getElem? (i := 11) rfl))) (mvT hZ (hw _ (List.mem_of_getElem? (i := 14) rfl))) (by decide) (backOf (W := 0) (own_rmRI l Z a0 hw [] o h0 n0 Z0 ) hZ (hw _ (List.mem_of_getElem? (i := 14) rfl)) (hw _ (List.mem_of_getElem? (i := 13) rfl)) (by decide) (by decide)) (g := (mkF m 1 #[.val (.ref o), .val (.long dd), .second, .val (.long tt), .second] [(.ref o)])) rfl (by rw [hml]; rfl) (Steps.refl _) (a := o) (argsL := []) (rest := []) (lenOf own_pd___V rfl) rfl (by show 2 * 0 + _ ≤ _; exact Nat.le_of_eq rfl) (hb hby own_dprog_15_method_1_code_1) (fun _ _ => ⟨rfl, e0, (by decide : 0 + 0 ≤ _), (by decide : 0 + 0 ≤ _)⟩)
  dsimp only [Pt.U, Pt.locs, Pt.cells, Pt.slots] at X1 l1 y1 z1 st1 hQ1
  rw [l1, y1, z1] at X1
  obtain ⟨rfl, Nq1, eq1⟩ := hQ1
  have N1 := Fr.app N0 Nq1
  refine own_st (fun _ k => st1.trans k) ?_
  show own_Go p.tables e below RR (T1.setTop (mkF m 4 #[.val (.ref o), .val (.long dd), .second, .val (.long tt), .second] []))
  refine own_st (fun _ k => XS.aloadN X1.here hx rfl (hb hby own_dprog_15_method_1_code_4) rfl rfl (XS.lloadN X1.here hx rfl (hb hby own_dprog_15_method_1_code_5) rfl k)) ?_
  show own_Go p.tables e below RR (T1.setTop (mkF m 6 #[.val (.ref o), .val (.long dd), .second, .val (.long tt), .second] [(.long dd), (.ref o)]))
  obtain ⟨T2, h2, X2, e2, W2, st2⟩ := putF X1 hx hZ hown (host := "") (Or.inl (hw _ (List.mem_of_getElem? (i := 18) rfl))) Via.refl eq1 Fd E (Or.inr ⟨(hw _ (List.mem_of_getElem? (i := 19) rfl)), rfl, hnm⟩) (hw _ (List.mem_of_getElem? (i := 5) rfl)) (ty := .long) (by decide) rfl rfl (g := (mkF m 6 #[.val (.ref o), .val (.long dd), .second, .val (.long tt), .second] [(.long dd), (.ref o)])) rfl rfl (hb hby own_dprog_15_method_1_code_6)
  have Fw2 := Fd.same W2
  have N2 := Fr.snoc X2 N1 g_o
  refine own_st st2 ?_
  have z3 : n0 ≤ h2.size := Nat.le_trans Z0 (Keep.of_wr W2).1
  have kk4 : Keep h0 h2 [o] := (Keep.refl h0 [o]).wr W2 (Or.inl (List.mem_of_getElem? (i := 0) rfl))
  show own_Go p.tables e below RR (T2.setTop (mkF m 9 #[.val (.ref o), .val (.long dd), .second, .val (.long tt), .second] []))
  refine own_st (fun _ k => XS.aloadN X2.here hx rfl (hb hby own_dprog_15_method_1_code_9) rfl rfl (XS.lloadN X2.here hx rfl (hb hby own_dprog_15_method_1_code_10) rfl k)) ?_
  show own_Go p.tables e below RR (T2.setTop (mkF m 11 #[.val (.ref o), .val (.long dd), .second, .val (.long tt), .second] [(.long tt), (.ref o)]))
  have f5 := (Ft.other W2 (Or.inr (slot_ne (Or.inr (hw _ (List.mem_of_getElem? (i := 21) rfl))) (Or.inr (hw _ (List.mem_of_getElem? (i := 19) rfl))) (by decide) (t := .long) (t' := .long) (by decide) (by decide))))
  have f6 := (E.wr W2)
  obtain ⟨T7, h7, X7, e7, W7, st7⟩ := putF X2 hx hZ hown (host := "") (Or.inl (hw _ (List.mem_of_getElem? (i := 20) rfl))) Via.refl e2 f5 f6 (Or.inr ⟨(hw _ (List.mem_of_getElem? (i := 21) rfl)), rfl, hnm⟩) (hw _ (List.mem_of_getElem? (i := 5) rfl)) (ty := .long) (by decide) rfl rfl (g := (mkF m 11 #[.val (.ref o), .val (.long dd), .second, .val (.long tt), .second] [(.long tt), (.ref o)])) rfl rfl (hb hby own_dprog_15_method_1_code_11)
  have Fw7 := f5.same W7
  have N7 := Fr.snoc X7 N2 g_o
  refine own_st st7 ?_
  have z8 : n0 ≤ h7.size := Nat.le_trans z3 (Keep.of_wr W7).1
  have kk9 : Keep h0 h7 [o] := kk4.wr W7 (Or.inl (List.mem_of_getElem? (i := 0) rfl))
  show own_Go p.tables e below RR (T7.setTop (mkF m 14 #[.val (.ref o), .val (.long dd), .second, .val (.long tt), .second] []))
  obtain ⟨fs, hrt_, hrun, hended, hW, hsame⟩ := X7.leave (v := none) (fun _ => rfl)
  refine own_fin (X7.returnOut hx Bd.returns (hb hby own_dprog_15_method_1_code_14) hrt_) (hRR _ ⟨_, hrun, hended, _, _, rfl, ?_, ⟨_, rfl⟩, hW, hsame.mono (by decide) (by decide)⟩)
  show own_QFI Z o dd tt h0 n0 _ T7.heap _
  rw [e7]
  have f10 := (f6.wr W7)
  have f11 := (Fw2.other W7 (Or.inr (slot_ne (Or.inr (hw _ (List.mem_of_getElem? (i := 19) rfl))) (Or.inr (hw _ (List.mem_of_getElem? (i := 21) rfl))) (by decide) (t := .long) (t' := .long) (by decide) (by decide))))
  exact ⟨rfl, N7, kk9, f10, f11, Fw7⟩
theorem own_dprog_15_method_2_code_0 : decode prog_15_method_2_code 0 = .ok (.aload_n 0, 1) := by decide +kernel
theorem own_dprog_15_method_2_code_1 : decode prog_15_method_2_code 1 = .ok (.getfield 7, 3) := by decide +kernel
theorem own_dprog_15_method_2_code_4 : decode prog_15_method_2_code 4 = .ok (.lconst 0, 1) := by decide +kernel
theorem own_dprog_15_method_2_code_5 : decode prog_15_method_2_code 5 = .ok (.lcmp, 1) := by decide +kernel
theorem own_dprog_15_method_2_code_6 : decode prog_15_method_2_code 6 = .ok (.ifCond .ne 7, 3) := by decide +kernel
theorem own_dprog_15_method_2_code_9 : decode prog_15_method_2_code 9 = .ok (.dconst 0, 1) := by decide +kernel
theorem own_dprog_15_method_2_code_10 : decode prog_15_method_2_code 10 = .ok (.goto 14, 3) := by decide +kernel
theorem own_dprog_15_method_2_code_24 : decode prog_15_method_2_code 24 = .ok (.dreturn, 1) := by decide +kernel
theorem own_efA0 (m : MethodId) (o : Addr) : entryFrame m #[(.ref o)] 1 = mkF m 0 #[.val (.ref o)] [] := by first | (simp [entryFrame, mkF, argsToLocals, Value.category]; done) | rfl
def own_QA0 (Z : State) (o : Addr) (h0 : Heap) (n0 : Nat) (rv__ : Option Value) (h : Heap) (rL__ : List Loc) : Prop := rv__ = some (.double (FP.l2d 0)) ∧ Fr n0 rL__ ∧ h = h0
abbrev own_RA0 : Room := { frames := 0, cells := 0, slots := 0, locals := 0 }
set_option maxRecDepth 65536 in
set_option maxHeartbeats 40000000 in
theorem own_rmA0 (l : Launch) (Z : State) (a0 : Array Value) (hw : ∀ d ∈ tables_1, d.before a0 Z = true) (ws : List Jvm.Cond) (o : Addr) (h0 : Heap) (n0 : Nat) (Z0 : n0 ≤ h0.size) (Fd : Fld Z h0 o "com/example/candex/candex/index/FieldStatistics" "docCount" "J" (.long (0 : Int64))) :
    MetFree l (⟨"com/example/candex/candex/index/FieldStatistics", "averageLength", "()D"⟩ : MethodName) (head1 (Jvm.Cond.code (⟨"com/example/candex/candex/index/FieldStatistics", "averageLength", "()D"⟩ : MethodName) prog_15_method_2_code 1 (some .double) :: ws) own_RA0) (fun aa__ U => aa__ = #[(.ref o)] ∧ Z.Warmed39 U.vm ∧ U.heap = h0) (fun _ _ _ _ _ => True) (fun _ U oc_ U' => ∃ rv__ rL__, oc_ = .returned rv__ ∧ own_QA0 Z o h0 n0 rv__ U'.heap rL__ ∧ FrameEnd U oc_ U' rL__ own_RA0.cells own_RA0.slots) := by
  refine MetFree.of_bodySF (plainFor_of_name own_pn_com_example_candex_candex_index_FieldStatistics) hisR ?_
  intro p e s m args below meth c s₁ Bd hml0 hP hK
  obtain ⟨rfl, hZ, hh⟩ := hP
  have hx := Bd.exec
  have hby := Bd.bytes
  have hml : c.maxLocals = 1 := hml0
  have hown : s.vm.findClass "com/example/candex/candex/index/FieldStatistics" = some m.cls := findClass_of_methodNamed Bd.named
  have hnm := (name_of_methodNamed Bd.named Bd.method).1
  have X0 : Stand p l e own_RA0 s m #[(.ref o)] below meth c s₁ [] 0 0 := Stand.of_body Bd
  have e0 : s₁.heap = h0 := by rw [← hh, Bd.state]; rfl
  have N0 := Fr.nil n0
  refine own_in (fun _ k => castTop (own_efA0 m o) k) ?_
  intro RR hRR
  show own_Go p.tables e below RR (s₁.setTop (mkF m 0 #[.val (.ref o)] []))
  refine own_st (fun _ k => XS.aloadN X0.here hx rfl (hb hby own_dprog_15_method_2_code_0) rfl rfl k) ?_
  show own_Go p.tables e below RR (s₁.setTop (mkF m 1 #[.val (.ref o)] [(.ref o)]))
  obtain ⟨T1, X1, e1, st1⟩ := getF X0 hx hZ hown (host := "") (Or.inl (hw _ (List.mem_of_getElem? (i := 18) rfl))) Via.refl e0 Fd (g := (mkF m 1 #[.val (.ref o)] [(.ref o)])) rfl rfl (hb hby own_dprog_15_method_2_code_1)
  refine own_st st1 ?_
  show own_Go p.tables e below RR (T1.setTop (mkF m 4 #[.val (.ref o)] [(.long (0 : Int64))]))
  refine own_st (fun _ k => XS.lconst X1.here hx rfl (hb hby own_dprog_15_method_2_code_4) (XS.lcmp X1.here hx rfl (hb hby own_dprog_15_method_2_code_5) rfl k)) ?_
  show own_Go p.tables e below RR (T1.setTop (mkF m 6 #[.val (.ref o)] [(.int (lcmpW (0 : Int64) (0 : Int64)))]))
  refine own_st (fun _ k => XS.ifNo X1.here hx rfl (hb hby own_dprog_15_method_2_code_6) rfl ((if0 _ _).trans (teq ((lw_eq _ _).mpr rfl)).2) k) ?_
  show own_Go p.tables e below RR (T1.setTop (mkF m 9 #[.val (.ref o)] []))
  refine own_st (fun _ k => XS.dconst0 X1.here hx rfl (hb hby own_dprog_15_method_2_code_9) own_dc0 (XS.goto X1.here hx rfl (pc0 := 10) (pc' := 24) rfl (hb hby own_dprog_15_method_2_code_10) (by decide) (by decide) k)) ?_
  show own_Go p.tables e below RR (T1.setTop (mkF m 24 #[.val (.ref o)] [(.double (FP.l2d 0))]))
  obtain ⟨fs, hrt_, hrun, hended, hW, hsame⟩ := X1.leave (v := some (.double (FP.l2d 0))) (fun h => by rw [Bd.returns] at h; cases h)
  refine own_fin (retOut X1 hx Bd.returns rfl (Or.inr (Or.inr (Or.inl ⟨rfl, rfl, _, rfl⟩))) (hb hby own_dprog_15_method_2_code_24) hrt_) (hRR _ ⟨_, hrun, hended, _, _, rfl, ?_, ⟨_, rfl⟩, hW, hsame.mono (by decide) (by decide)⟩)
  show own_QA0 Z o h0 n0 _ T1.heap _
  rw [e1]
  exact ⟨rfl, N0, rfl⟩
theorem own_dprog_15_method_2_code_13 : decode prog_15_method_2_code 13 = .ok (.aload_n 0, 1) := by decide +kernel
theorem own_dprog_15_method_2_code_14 : decode prog_15_method_2_code 14 = .ok (.getfield 13, 3) := by decide +kernel
theorem own_dprog_15_method_2_code_17 : decode prog_15_method_2_code 17 = .ok (.l2d, 1) := by decide +kernel
theorem own_dprog_15_method_2_code_18 : decode prog_15_method_2_code 18 = .ok (.aload_n 0, 1) := by decide +kernel
theorem own_dprog_15_method_2_code_19 : decode prog_15_method_2_code 19 = .ok (.getfield 7, 3) := by decide +kernel
theorem own_dprog_15_method_2_code_22 : decode prog_15_method_2_code 22 = .ok (.l2d, 1) := by decide +kernel
theorem own_dprog_15_method_2_code_23 : decode prog_15_method_2_code 23 = .ok (.ddiv, 1) := by decide +kernel
theorem own_efAV (m : MethodId) (o : Addr) : entryFrame m #[(.ref o)] 1 = mkF m 0 #[.val (.ref o)] [] := by first | (simp [entryFrame, mkF, argsToLocals, Value.category]; done) | rfl
def own_QAV (Z : State) (o : Addr) (dd : Int64) (tt : Int64) (h0 : Heap) (n0 : Nat) (rv__ : Option Value) (h : Heap) (rL__ : List Loc) : Prop := rv__ = some (.double (FP.ddiv (FP.l2d tt) (FP.l2d dd))) ∧ Fr n0 rL__ ∧ h = h0
abbrev own_RAV : Room := { frames := 0, cells := 0, slots := 0, locals := 0 }
set_option maxRecDepth 65536 in
set_option maxHeartbeats 40000000 in
theorem own_rmAV (l : Launch) (Z : State) (a0 : Array Value) (hw : ∀ d ∈ tables_1, d.before a0 Z = true) (ws : List Jvm.Cond) (o : Addr) (dd : Int64) (tt : Int64) (h0 : Heap) (n0 : Nat) (Z0 : n0 ≤ h0.size) (Fd : Fld Z h0 o "com/example/candex/candex/index/FieldStatistics" "docCount" "J" (.long dd)) (Ft : Fld Z h0 o "com/example/candex/candex/index/FieldStatistics" "totalLength" "J" (.long tt)) (nz : ¬ dd = (0 : Int64)) (hn : Jvm.Free.Fl.NoNaN64 (FP.ddiv (FP.l2d tt) (FP.l2d dd))) :
    MetFree l (⟨"com/example/candex/candex/index/FieldStatistics", "averageLength", "()D"⟩ : MethodName) (head1 (Jvm.Cond.code (⟨"com/example/candex/candex/index/FieldStatistics", "averageLength", "()D"⟩ : MethodName) prog_15_method_2_code 1 (some .double) :: ws) own_RAV) (fun aa__ U => aa__ = #[(.ref o)] ∧ Z.Warmed39 U.vm ∧ U.heap = h0) (fun _ _ _ _ _ => True) (fun _ U oc_ U' => ∃ rv__ rL__, oc_ = .returned rv__ ∧ own_QAV Z o dd tt h0 n0 rv__ U'.heap rL__ ∧ FrameEnd U oc_ U' rL__ own_RAV.cells own_RAV.slots) := by
  refine MetFree.of_bodySF (plainFor_of_name own_pn_com_example_candex_candex_index_FieldStatistics) hisR ?_
  intro p e s m args below meth c s₁ Bd hml0 hP hK
  obtain ⟨rfl, hZ, hh⟩ := hP
  have hx := Bd.exec
  have hby := Bd.bytes
  have hml : c.maxLocals = 1 := hml0
  have hown : s.vm.findClass "com/example/candex/candex/index/FieldStatistics" = some m.cls := findClass_of_methodNamed Bd.named
  have hnm := (name_of_methodNamed Bd.named Bd.method).1
  have X0 : Stand p l e own_RAV s m #[(.ref o)] below meth c s₁ [] 0 0 := Stand.of_body Bd
  have e0 : s₁.heap = h0 := by rw [← hh, Bd.state]; rfl
  have N0 := Fr.nil n0
  refine own_in (fun _ k => castTop (own_efAV m o) k) ?_
  intro RR hRR
  show own_Go p.tables e below RR (s₁.setTop (mkF m 0 #[.val (.ref o)] []))
  refine own_st (fun _ k => XS.aloadN X0.here hx rfl (hb hby own_dprog_15_method_2_code_0) rfl rfl k) ?_
  show own_Go p.tables e below RR (s₁.setTop (mkF m 1 #[.val (.ref o)] [(.ref o)]))
  obtain ⟨T1, X1, e1, st1⟩ := getF X0 hx hZ hown (host := "") (Or.inl (hw _ (List.mem_of_getElem? (i := 18) rfl))) Via.refl e0 Fd (g := (mkF m 1 #[.val (.ref o)] [(.ref o)])) rfl rfl (hb hby own_dprog_15_method_2_code_1)
  refine own_st st1 ?_
  show own_Go p.tables e below RR (T1.setTop (mkF m 4 #[.val (.ref o)] [(.long dd)]))
  refine own_st (fun _ k => XS.lconst X1.here hx rfl (hb hby own_dprog_15_method_2_code_4) (XS.lcmp X1.here hx rfl (hb hby own_dprog_15_method_2_code_5) rfl k)) ?_
  show own_Go p.tables e below RR (T1.setTop (mkF m 6 #[.val (.ref o)] [(.int (lcmpW dd (0 : Int64)))]))
  have hc6_2 : ¬ (dd = (0 : Int64)) := nz
  refine own_st (fun _ k => XS.ifYes X1.here hx rfl (pc0 := 6) (pc' := 13) rfl (hb hby own_dprog_15_method_2_code_6) rfl ((if0 _ _).trans (feq (fun q => hc6_2 ((lw_eq _ _).mp q))).2) (by decide) (by decide) (XS.aloadN X1.here hx rfl (hb hby own_dprog_15_method_2_code_13) rfl rfl k)) ?_
  show own_Go p.tables e below RR (T1.setTop (mkF m 14 #[.val (.ref o)] [(.ref o)]))
  obtain ⟨T3, X3, e3, st3⟩ := getF X1 hx hZ hown (host := "") (Or.inl (hw _ (List.mem_of_getElem? (i := 20) rfl))) Via.refl e1 Ft (g := (mkF m 14 #[.val (.ref o)] [(.ref o)])) rfl rfl (hb hby own_dprog_15_method_2_code_14)
  refine own_st st3 ?_
  show own_Go p.tables e below RR (T3.setTop (mkF m 17 #[.val (.ref o)] [(.long tt)]))
  refine own_st (fun _ k => XS.l2dS X3.here hx rfl (hb hby own_dprog_15_method_2_code_17) rfl rfl (XS.aloadN X3.here hx rfl (hb hby own_dprog_15_method_2_code_18) rfl rfl k)) ?_
  show own_Go p.tables e below RR (T3.setTop (mkF m 19 #[.val (.ref o)] [(.ref o), (.double (FP.l2d tt))]))
  obtain ⟨T4, X4, e4, st4⟩ := getF X3 hx hZ hown (host := "") (Or.inl (hw _ (List.mem_of_getElem? (i := 18) rfl))) Via.refl e3 Fd (g := (mkF m 19 #[.val (.ref o)] [(.ref o), (.double (FP.l2d tt))])) rfl rfl (hb hby own_dprog_15_method_2_code_19)
  refine own_st st4 ?_
  show own_Go p.tables e below RR (T4.setTop (mkF m 22 #[.val (.ref o)] [(.long dd), (.double (FP.l2d tt))]))
  refine own_st (fun _ k => XS.l2dS X4.here hx rfl (hb hby own_dprog_15_method_2_code_22) rfl rfl k) ?_
  show own_Go p.tables e below RR (T4.setTop (mkF m 23 #[.val (.ref o)] [(.double (FP.l2d dd)), (.double (FP.l2d tt))]))
  refine own_st (fun _ k => XS.ddivS X4.here hx rfl (hb hby own_dprog_15_method_2_code_23) rfl hn rfl k) ?_
  show own_Go p.tables e below RR (T4.setTop (mkF m 24 #[.val (.ref o)] [(.double (FP.ddiv (FP.l2d tt) (FP.l2d dd)))]))
  obtain ⟨fs, hrt_, hrun, hended, hW, hsame⟩ := X4.leave (v := some (.double (FP.ddiv (FP.l2d tt) (FP.l2d dd)))) (fun h => by rw [Bd.returns] at h; cases h)
  refine own_fin (retOut X4 hx Bd.returns rfl (Or.inr (Or.inr (Or.inl ⟨rfl, rfl, _, rfl⟩))) (hb hby own_dprog_15_method_2_code_24) hrt_) (hRR _ ⟨_, hrun, hended, _, _, rfl, ?_, ⟨_, rfl⟩, hW, hsame.mono (by decide) (by decide)⟩)
  show own_QAV Z o dd tt h0 n0 _ T4.heap _
  rw [e4]
  exact ⟨rfl, N0, rfl⟩
theorem own_pn_com_example_candex_candex_index_FieldStatisticsAverageLengthPinLaw : plainName "com/example/candex/candex/index/FieldStatisticsAverageLengthPinLaw" = true := by first | (simp [plainName, overriddenIn]; done) | decide +kernel
theorem own_pd__JJ_V : parseMethodDescriptor "(JJ)V" = some ⟨[.long, .long], none⟩ := by decide +kernel
theorem own_pd___D : parseMethodDescriptor "()D" = some ⟨[], some .double⟩ := by decide +kernel
theorem own_ef0 (m : MethodId) (p1 : Int64) (p2 : Int64) (p3 : Int64) (p4 : Int64) : entryFrame m #[(.long p1), (.long p2), (.long p3), (.long p4)] maxLocals = mkF m 0 #[.val (.long p1), .second, .val (.long p2), .second, .val (.long p3), .second, .val (.long p4), .second, .unset, .unset, .unset, .unset, .unset, .unset, .unset, .unset, .unset, .unset, .unset, .unset, .unset, .unset, .unset, .unset, .unset] [] := by first | (simp [entryFrame, mkF, argsToLocals, Value.category, maxLocals]; done) | rfl
def own_Q0 (Z : State) (p1 : Int64) (p2 : Int64) (p3 : Int64) (p4 : Int64) (h0 : Heap) (n0 : Nat) (rv__ : Option Value) (h : Heap) (rL__ : List Loc) : Prop := rv__ = some (.int 1) ∧ Fr n0 rL__
set_option maxRecDepth 65536 in
set_option maxHeartbeats 40000000 in
theorem own_rm0 (l : Launch) (Z : State) (a0 : Array Value) (hw : ∀ d ∈ tables_1, d.before a0 Z = true) (ws : List Jvm.Cond) (p1 : Int64) (p2 : Int64) (p3 : Int64) (p4 : Int64) (h0 : Heap) (n0 : Nat) (Z0 : n0 ≤ h0.size)  :
    MetFree l x (head1 (Jvm.Cond.code x code maxLocals ret :: ws) room_1) (fun aa__ U => aa__ = #[(.long p1), (.long p2), (.long p3), (.long p4)] ∧ Z.Warmed39 U.vm ∧ U.heap = h0) (fun _ _ _ _ _ => True) (fun _ U oc_ U' => ∃ rv__ rL__, oc_ = .returned rv__ ∧ own_Q0 Z p1 p2 p3 p4 h0 n0 rv__ U'.heap rL__ ∧ FrameEnd U oc_ U' rL__ room_1.cells room_1.slots) := by
  refine MetFree.of_bodySF (plainFor_of_name own_pn_com_example_candex_candex_index_FieldStatisticsAverageLengthPinLaw) hisR ?_
  intro p e s m args below meth c s₁ Bd hml0 hP hK
  obtain ⟨rfl, hZ, hh⟩ := hP
  have hx := Bd.exec
  have hby := Bd.bytes
  have hml : c.maxLocals = 25 := hml0
  have hown : s.vm.findClass "com/example/candex/candex/index/FieldStatisticsAverageLengthPinLaw" = some m.cls := findClass_of_methodNamed Bd.named
  have hnm := (name_of_methodNamed Bd.named Bd.method).1
  have X0 : Stand p l e room_1 s m #[(.long p1), (.long p2), (.long p3), (.long p4)] below meth c s₁ [] 0 0 := Stand.of_body Bd
  have e0 : s₁.heap = h0 := by rw [← hh, Bd.state]; rfl
  have N0 := Fr.nil n0
  refine own_in (fun _ k => castTop (own_ef0 m p1 p2 p3 p4) k) ?_
  intro RR hRR
  show own_Go p.tables e below RR (s₁.setTop (mkF m 0 #[.val (.long p1), .second, .val (.long p2), .second, .val (.long p3), .second, .val (.long p4), .second, .unset, .unset, .unset, .unset, .unset, .unset, .unset, .unset, .unset, .unset, .unset, .unset, .unset, .unset, .unset, .unset, .unset] []))
  refine own_st (fun _ k => XS.lloadN X0.here hx rfl (hb hby at_0) rfl (X0.ldc2Long hx hown (mvT hZ (hw _ (List.mem_of_getElem? (i := 0) rfl))) (g := (mkF m 1 #[.val (.long p1), .second, .val (.long p2), .second, .val (.long p3), .second, .val (.long p4), .second, .unset, .unset, .unset, .unset, .unset, .unset, .unset, .unset, .unset, .unset, .unset, .unset, .unset, .unset, .unset, .unset, .unset] [(.long p1)])) rfl (hb hby at_1) _ (XS.land X0.here hx rfl (hb hby at_4) rfl (XS.lconst X0.here hx rfl (hb hby at_5) (XS.lcmp X0.here hx rfl (hb hby at_6) rfl k))))) ?_
  show own_Go p.tables e below RR (s₁.setTop (mkF m 7 #[.val (.long p1), .second, .val (.long p2), .second, .val (.long p3), .second, .val (.long p4), .second, .unset, .unset, .unset, .unset, .unset, .unset, .unset, .unset, .unset, .unset, .unset, .unset, .unset, .unset, .unset, .unset, .unset] [(.int (lcmpW (p1 &&& (7 : Int64)) (0 : Int64)))]))
  by_cases hc7_1 : (p1 &&& (7 : Int64)) = (0 : Int64)
  · refine own_st (fun _ k => XS.ifNo X0.here hx rfl (hb hby at_7) rfl ((if0 _ _).trans (teq ((lw_eq _ _).mpr hc7_1)).2) (XS.iconst X0.here hx rfl (hb hby at_10) (XS.goto X0.here hx rfl (pc0 := 11) (pc' := 15) rfl (hb hby at_11) (by decide) (by decide) (XS.istore X0.here hx rfl (hb hby at_15) rfl (l' := #[.val (.long p1), .second, .val (.long p2), .second, .val (.long p3), .second, .val (.long p4), .second, .val (.int (1 : Int32)), .unset, .unset, .unset, .unset, .unset, .unset, .unset, .unset, .unset, .unset, .unset, .unset, .unset, .unset, .unset, .unset]) rfl (XS.iload X0.here hx rfl (hb hby at_17) rfl k))))) ?_
    show own_Go p.tables e below RR (s₁.setTop (mkF m 19 #[.val (.long p1), .second, .val (.long p2), .second, .val (.long p3), .second, .val (.long p4), .second, .val (.int (1 : Int32)), .unset, .unset, .unset, .unset, .unset, .unset, .unset, .unset, .unset, .unset, .unset, .unset, .unset, .unset, .unset, .unset] [(.int (1 : Int32))]))
    refine own_st (fun _ k => XS.ifNo X0.here hx rfl (hb hby at_19) rfl ((if0 _ _).trans (feq (by decide)).1) k) ?_
    show own_Go p.tables e below RR (s₁.setTop (mkF m 22 #[.val (.long p1), .second, .val (.long p2), .second, .val (.long p3), .second, .val (.long p4), .second, .val (.int (1 : Int32)), .unset, .unset, .unset, .unset, .unset, .unset, .unset, .unset, .unset, .unset, .unset, .unset, .unset, .unset, .unset, .unset] []))
    obtain ⟨T2, h2, X2, e2, E2, A2, D2, -, st2⟩ := newO X0 hx hZ hown (hw _ (List.mem_of_getElem? (i := 4) rfl)) (hw _ (List.mem_of_getElem? (i := 5) rfl)) (hw _ (List.mem_of_getElem? (i := 6) rfl)) e0 (g := (mkF m 22 #[.val (.long p1), .second, .val (.long p2), .second, .val (.long p3), .second, .val (.long p4), .second, .val (.int (1 : Int32)), .unset, .unset, .unset, .unset, .unset, .unset, .unset, .unset, .unset, .unset, .unset, .unset, .unset, .unset, .unset, .unset] [])) rfl (hb hby at_22) (by decide) (by decide)
    obtain ⟨b2, gb2⟩ : ∃ z, z = h0.size := ⟨_, rfl⟩
    rw [← gb2] at A2 D2 st2
    have ge2 : n0 ≤ b2 := Nat.le_trans Z0 (Nat.le_of_eq gb2.symm)
    refine own_st st2 ?_
    have z3 : n0 ≤ h2.size := Nat.le_trans Z0 E2.1
    have F2_19 : Fld Z h2 b2 "com/example/candex/candex/index/FieldStatistics" "docCount" "J" (.long (0 : Int64)) := D2 (Or.inr (hw _ (List.mem_of_getElem? (i := 19) rfl))) (ty := .long) (by decide)
    have F2_21 : Fld Z h2 b2 "com/example/candex/candex/index/FieldStatistics" "totalLength" "J" (.long (0 : Int64)) := D2 (Or.inr (hw _ (List.mem_of_getElem? (i := 21) rfl))) (ty := .long) (by decide)
    show own_Go p.tables e below RR (T2.setTop (mkF m 25 #[.val (.long p1), .second, .val (.long p2), .second, .val (.long p3), .second, .val (.long p4), .second, .val (.int (1 : Int32)), .unset, .unset, .unset, .unset, .unset, .unset, .unset, .unset, .unset, .unset, .unset, .unset, .unset, .unset, .unset, .unset] [(.ref b2)]))
    refine own_st (fun _ k => XS.dup X2.here hx rfl (hb hby at_25) rfl rfl (XS.lconst X2.here hx rfl (hb hby at_26) (XS.lload X2.here hx rfl (hb hby at_27) rfl k))) ?_
    show own_Go p.tables e below RR (T2.setTop (mkF m 29 #[.val (.long p1), .second, .val (.long p2), .second, .val (.long p3), .second, .val (.long p4), .second, .val (.int (1 : Int32)), .unset, .unset, .unset, .unset, .unset, .unset, .unset, .unset, .unset, .unset, .unset, .unset, .unset, .unset, .unset, .unset] [(.long p4), (.long (0 : Int64)), (.ref b2), (.ref b2)]))
    obtain ⟨_, _, ⟨T4, L4, k4, n4⟩, -, X4, ⟨Lc4, hQ4, l4, y4, z4⟩, st4⟩ := X2.specialBack hx (y := (⟨"com/example/candex/candex/index/FieldStatistics", "<init>", "(JJ)V"⟩ : MethodName)) rfl hown (mvT hZ (hw _ (List.mem_of_getElem? (i := 7) rfl))) (mvT hZ (hw _ (List.mem_of_getElem? (i := 8) rfl))) (mvT hZ (hw _ (List.mem_of_getElem? (i := 9) rfl))) (by decide) (backOf (W := 1) (own_rmFI l Z a0 hw [] b2 (0 : Int64) p4 h2 n0 z3 ge2 A2 F2_19 F2_21) hZ (hw _ (List.mem_of_getElem? (i := 9) rfl)) (hw _ (List.mem_of_getElem? (i := 6) rfl)) (by decide) (by decide)) (g := (mkF m 29 #[.val (.long p1), .second, .val (.long p2), .second, .val (.long p3), .second, .val (.long p4), .second, .val (.int (1 : Int32)), .unset, .unset, .unset, .unset, .unset, .unset, .unset, .unset, .unset, .unset, .unset, .unset, .unset, .unset, .unset, .unset] [(.long p4), (.long (0 : Int64)), (.ref b2), (.ref b2)])) rfl (by rw [hml]; rfl) (Steps.refl _) (a := b2) (argsL := [(.long (0 : Int64)), (.long p4)]) (rest := [(.ref b2)]) (lenOf own_pd__JJ_V rfl) rfl (by show 2 * 0 + _ ≤ _; exact Nat.le_of_eq rfl) (hb hby at_29) (fun _ _ => ⟨rfl, e2, (by decide : 1 + 0 ≤ _), (by decide : 2 + 0 ≤ _)⟩)
    dsimp only [Pt.U, Pt.locs, Pt.cells, Pt.slots] at X4 l4 y4 z4 st4 hQ4
    rw [l4, y4, z4] at X4
    obtain ⟨rfl, Nq4, Kq4, Eq4, Fd4, Ft4⟩ := hQ4
    have N4 := Fr.app N0 Nq4
    refine own_st (fun _ k => st4.trans k) ?_
    have z5 : n0 ≤ T4.heap.size := Nat.le_trans z3 Kq4.1
    show own_Go p.tables e below RR (T4.setTop (mkF m 32 #[.val (.long p1), .second, .val (.long p2), .second, .val (.long p3), .second, .val (.long p4), .second, .val (.int (1 : Int32)), .unset, .unset, .unset, .unset, .unset, .unset, .unset, .unset, .unset, .unset, .unset, .unset, .unset, .unset, .unset, .unset] [(.ref b2)]))
    obtain ⟨cq6, kq6, q6a, q6b, q6c⟩ := isOf hZ rfl Eq4
    obtain ⟨_, _, ⟨T6, L6, k6, n6⟩, -, X6, ⟨Lc6, hQ6, l6, y6, z6⟩, st6⟩ := X4.virtualBack hx (y := (⟨"com/example/candex/candex/index/FieldStatistics", "averageLength", "()D"⟩ : MethodName)) (z := (⟨"com/example/candex/candex/index/FieldStatistics", "averageLength", "()D"⟩ : MethodName)) hown (mvT hZ (hw _ (List.mem_of_getElem? (i := 22) rfl))) (mvT hZ (hw _ (List.mem_of_getElem? (i := 23) rfl))) (notFace_of_selects (args := #[]) (mvT hZ (hw _ (List.mem_of_getElem? (i := 25) rfl)))) (mvT hZ (hw _ (List.mem_of_getElem? (i := 25) rfl))) (mvT hZ (hw _ (List.mem_of_getElem? (i := 24) rfl))) (by decide) (backOf (W := 0) (own_rmA0 l Z a0 hw [] b2 T4.heap n0 z5 Fd4) hZ (hw _ (List.mem_of_getElem? (i := 26) rfl)) (hw _ (List.mem_of_getElem? (i := 6) rfl)) (by decide) (by decide)) q6a q6c (g := (mkF m 32 #[.val (.long p1), .second, .val (.long p2), .second, .val (.long p3), .second, .val (.long p4), .second, .val (.int (1 : Int32)), .unset, .unset, .unset, .unset, .unset, .unset, .unset, .unset, .unset, .unset, .unset, .unset, .unset, .unset, .unset, .unset] [(.ref b2)])) rfl (by rw [hml]; rfl) (Steps.refl _) (argsL := []) (rest := []) (lenOf own_pd___D rfl) rfl (by show 2 * 0 + _ ≤ _; exact Nat.le_of_eq rfl) (hb hby at_32) (fun _ _ => ⟨rfl, rfl, (by decide : 1 + 0 ≤ _), (by decide : 2 + 0 ≤ _)⟩)
    dsimp only [Pt.U, Pt.locs, Pt.cells, Pt.slots] at X6 l6 y6 z6 st6 hQ6
    rw [l6, y6, z6] at X6
    obtain ⟨rfl, Nq6, eq6⟩ := hQ6
    have N6 := Fr.app N4 Nq6
    refine own_st (fun _ k => st6.trans k) ?_
    show own_Go p.tables e below RR (T6.setTop (mkF m 35 #[.val (.long p1), .second, .val (.long p2), .second, .val (.long p3), .second, .val (.long p4), .second, .val (.int (1 : Int32)), .unset, .unset, .unset, .unset, .unset, .unset, .unset, .unset, .unset, .unset, .unset, .unset, .unset, .unset, .unset, .unset] [(.double (FP.l2d 0))]))
    refine own_st (fun _ k => XS.dstore X6.here hx rfl (hb hby at_35) rfl (l' := #[.val (.long p1), .second, .val (.long p2), .second, .val (.long p3), .second, .val (.long p4), .second, .val (.int (1 : Int32)), .val (.double (FP.l2d 0)), .second, .unset, .unset, .unset, .unset, .unset, .unset, .unset, .unset, .unset, .unset, .unset, .unset, .unset, .unset]) rfl k) ?_
    show own_Go p.tables e below RR (T6.setTop (mkF m 37 #[.val (.long p1), .second, .val (.long p2), .second, .val (.long p3), .second, .val (.long p4), .second, .val (.int (1 : Int32)), .val (.double (FP.l2d 0)), .second, .unset, .unset, .unset, .unset, .unset, .unset, .unset, .unset, .unset, .unset, .unset, .unset, .unset, .unset] []))
    refine own_st (fun _ k => XS.dload X6.here hx rfl (hb hby at_37) rfl k) ?_
    show own_Go p.tables e below RR (T6.setTop (mkF m 39 #[.val (.long p1), .second, .val (.long p2), .second, .val (.long p3), .second, .val (.long p4), .second, .val (.int (1 : Int32)), .val (.double (FP.l2d 0)), .second, .unset, .unset, .unset, .unset, .unset, .unset, .unset, .unset, .unset, .unset, .unset, .unset, .unset, .unset] [(.double (FP.l2d 0))]))
    refine own_st (fun _ k => XS.dconst0 X6.here hx rfl (hb hby at_39) own_dc0 k) ?_
    show own_Go p.tables e below RR (T6.setTop (mkF m 40 #[.val (.long p1), .second, .val (.long p2), .second, .val (.long p3), .second, .val (.long p4), .second, .val (.int (1 : Int32)), .val (.double (FP.l2d 0)), .second, .unset, .unset, .unset, .unset, .unset, .unset, .unset, .unset, .unset, .unset, .unset, .unset, .unset, .unset] [(.double (FP.l2d 0)), (.double (FP.l2d 0))]))
    refine own_st (fun _ k => XS.dcmpS X6.here hx rfl (hb hby at_40) rfl (v := (0 : Int32)) own_z00 k) ?_
    show own_Go p.tables e below RR (T6.setTop (mkF m 41 #[.val (.long p1), .second, .val (.long p2), .second, .val (.long p3), .second, .val (.long p4), .second, .val (.int (1 : Int32)), .val (.double (FP.l2d 0)), .second, .unset, .unset, .unset, .unset, .unset, .unset, .unset, .unset, .unset, .unset, .unset, .unset, .unset, .unset] [(.int (0 : Int32))]))
    refine own_st (fun _ k => XS.ifNo X6.here hx rfl (hb hby at_41) rfl ((if0 _ _).trans (teq (by decide)).2) (XS.iconst X6.here hx rfl (hb hby at_44) (XS.goto X6.here hx rfl (pc0 := 45) (pc' := 49) rfl (hb hby at_45) (by decide) (by decide) k))) ?_
    show own_Go p.tables e below RR (T6.setTop (mkF m 49 #[.val (.long p1), .second, .val (.long p2), .second, .val (.long p3), .second, .val (.long p4), .second, .val (.int (1 : Int32)), .val (.double (FP.l2d 0)), .second, .unset, .unset, .unset, .unset, .unset, .unset, .unset, .unset, .unset, .unset, .unset, .unset, .unset, .unset] [(.int (1 : Int32))]))
    obtain ⟨fs, hrt_, hrun, hended, hW, hsame⟩ := X6.leave (v := some (.int (1 : Int32))) (fun h => by rw [Bd.returns] at h; cases h)
    refine own_fin (retN X6 hx (t := .boolean) Bd.returns (by simp) (hb hby at_49) hrt_) (hRR _ ⟨_, hrun, hended, _, _, rfl, ?_, ⟨_, rfl⟩, hW, hsame.mono (by decide) (by decide)⟩)
    show own_Q0 Z p1 p2 p3 p4 h0 n0 _ T6.heap _
    rw [eq6]
    exact ⟨rfl, N6⟩
  · refine own_st (fun _ k => XS.ifYes X0.here hx rfl (pc0 := 7) (pc' := 14) rfl (hb hby at_7) rfl ((if0 _ _).trans (feq (fun q => hc7_1 ((lw_eq _ _).mp q))).2) (by decide) (by decide) (XS.iconst X0.here hx rfl (hb hby at_14) (XS.istore X0.here hx rfl (hb hby at_15) rfl (l' := #[.val (.long p1), .second, .val (.long p2), .second, .val (.long p3), .second, .val (.long p4), .second, .val (.int (0 : Int32)), .unset, .unset, .unset, .unset, .unset, .unset, .unset, .unset, .unset, .unset, .unset, .unset, .unset, .unset, .unset, .unset]) rfl (XS.iload X0.here hx rfl (hb hby at_17) rfl k)))) ?_
    show own_Go p.tables e below RR (s₁.setTop (mkF m 19 #[.val (.long p1), .second, .val (.long p2), .second, .val (.long p3), .second, .val (.long p4), .second, .val (.int (0 : Int32)), .unset, .unset, .unset, .unset, .unset, .unset, .unset, .unset, .unset, .unset, .unset, .unset, .unset, .unset, .unset, .unset] [(.int (0 : Int32))]))
    refine own_st (fun _ k => XS.ifYes X0.here hx rfl (pc0 := 19) (pc' := 50) rfl (hb hby at_19) rfl ((if0 _ _).trans (teq (by decide)).1) (by decide) (by decide) (XS.lconst X0.here hx rfl (hb hby at_50) (XS.lloadN X0.here hx rfl (hb hby at_51) rfl (XS.iconst X0.here hx rfl (hb hby at_52) (XS.lushr X0.here hx rfl (hb hby at_53) rfl (X0.ldc2Long hx hown (mvT hZ (hw _ (List.mem_of_getElem? (i := 1) rfl))) (g := (mkF m 54 #[.val (.long p1), .second, .val (.long p2), .second, .val (.long p3), .second, .val (.long p4), .second, .val (.int (0 : Int32)), .unset, .unset, .unset, .unset, .unset, .unset, .unset, .unset, .unset, .unset, .unset, .unset, .unset, .unset, .unset, .unset] [(.long ((p1.toUInt64 >>> ((3 : Int32) &&& 0x3f).toInt64.toUInt64).toInt64)), (.long (1 : Int64))])) rfl (hb hby at_54) _ (XS.land X0.here hx rfl (hb hby at_57) rfl (XS.ladd X0.here hx rfl (hb hby at_58) rfl k)))))))) ?_
    show own_Go p.tables e below RR (s₁.setTop (mkF m 59 #[.val (.long p1), .second, .val (.long p2), .second, .val (.long p3), .second, .val (.long p4), .second, .val (.int (0 : Int32)), .unset, .unset, .unset, .unset, .unset, .unset, .unset, .unset, .unset, .unset, .unset, .unset, .unset, .unset, .unset, .unset] [(.long ((1 : Int64) + (((p1.toUInt64 >>> ((3 : Int32) &&& 0x3f).toInt64.toUInt64).toInt64) &&& (1048575 : Int64))))]))
    generalize gv7 : ((1 : Int64) + (((p1.toUInt64 >>> ((3 : Int32) &&& 0x3f).toInt64.toUInt64).toInt64) &&& (1048575 : Int64))) = v7
    show own_Go p.tables e below RR (s₁.setTop (mkF m 59 #[.val (.long p1), .second, .val (.long p2), .second, .val (.long p3), .second, .val (.long p4), .second, .val (.int (0 : Int32)), .unset, .unset, .unset, .unset, .unset, .unset, .unset, .unset, .unset, .unset, .unset, .unset, .unset, .unset, .unset, .unset] [(.long v7)]))
    refine own_st (fun _ k => XS.lstore X0.here hx rfl (hb hby at_59) rfl (l' := #[.val (.long p1), .second, .val (.long p2), .second, .val (.long p3), .second, .val (.long p4), .second, .val (.int (0 : Int32)), .val (.long v7), .second, .unset, .unset, .unset, .unset, .unset, .unset, .unset, .unset, .unset, .unset, .unset, .unset, .unset, .unset]) rfl (XS.lloadN X0.here hx rfl (hb hby at_61) rfl (X0.ldc2Long hx hown (mvT hZ (hw _ (List.mem_of_getElem? (i := 2) rfl))) (g := (mkF m 62 #[.val (.long p1), .second, .val (.long p2), .second, .val (.long p3), .second, .val (.long p4), .second, .val (.int (0 : Int32)), .val (.long v7), .second, .unset, .unset, .unset, .unset, .unset, .unset, .unset, .unset, .unset, .unset, .unset, .unset, .unset, .unset] [(.long p2)])) rfl (hb hby at_62) _ (XS.land X0.here hx rfl (hb hby at_65) rfl k)))) ?_
    show own_Go p.tables e below RR (s₁.setTop (mkF m 66 #[.val (.long p1), .second, .val (.long p2), .second, .val (.long p3), .second, .val (.long p4), .second, .val (.int (0 : Int32)), .val (.long v7), .second, .unset, .unset, .unset, .unset, .unset, .unset, .unset, .unset, .unset, .unset, .unset, .unset, .unset, .unset] [(.long (p2 &&& (2147483647 : Int64)))]))
    generalize gv8 : (p2 &&& (2147483647 : Int64)) = v8
    show own_Go p.tables e below RR (s₁.setTop (mkF m 66 #[.val (.long p1), .second, .val (.long p2), .second, .val (.long p3), .second, .val (.long p4), .second, .val (.int (0 : Int32)), .val (.long v7), .second, .unset, .unset, .unset, .unset, .unset, .unset, .unset, .unset, .unset, .unset, .unset, .unset, .unset, .unset] [(.long v8)]))
    refine own_st (fun _ k => XS.lstore X0.here hx rfl (hb hby at_66) rfl (l' := #[.val (.long p1), .second, .val (.long p2), .second, .val (.long p3), .second, .val (.long p4), .second, .val (.int (0 : Int32)), .val (.long v7), .second, .val (.long v8), .second, .unset, .unset, .unset, .unset, .unset, .unset, .unset, .unset, .unset, .unset, .unset, .unset]) rfl k) ?_
    show own_Go p.tables e below RR (s₁.setTop (mkF m 68 #[.val (.long p1), .second, .val (.long p2), .second, .val (.long p3), .second, .val (.long p4), .second, .val (.int (0 : Int32)), .val (.long v7), .second, .val (.long v8), .second, .unset, .unset, .unset, .unset, .unset, .unset, .unset, .unset, .unset, .unset, .unset, .unset] []))
    have hRd := own_Rd gv7
    have hRq := own_Rq gv8
    show own_Go p.tables e below RR (s₁.setTop (mkF m 68 #[.val (.long p1), .second, .val (.long p2), .second, .val (.long p3), .second, .val (.long p4), .second, .val (.int (0 : Int32)), .val (.long v7), .second, .val (.long v8), .second, .unset, .unset, .unset, .unset, .unset, .unset, .unset, .unset, .unset, .unset, .unset, .unset] []))
    refine own_st (fun _ k => XS.lload X0.here hx rfl (hb hby at_68) rfl (X0.ldc2Long hx hown (mvT hZ (hw _ (List.mem_of_getElem? (i := 3) rfl))) (g := (mkF m 70 #[.val (.long p1), .second, .val (.long p2), .second, .val (.long p3), .second, .val (.long p4), .second, .val (.int (0 : Int32)), .val (.long v7), .second, .val (.long v8), .second, .unset, .unset, .unset, .unset, .unset, .unset, .unset, .unset, .unset, .unset, .unset, .unset] [(.long p3)])) rfl (hb hby at_70) _ (XS.land X0.here hx rfl (hb hby at_73) rfl (XS.lload X0.here hx rfl (hb hby at_74) rfl k)))) ?_
    show own_Go p.tables e below RR (s₁.setTop (mkF m 76 #[.val (.long p1), .second, .val (.long p2), .second, .val (.long p3), .second, .val (.long p4), .second, .val (.int (0 : Int32)), .val (.long v7), .second, .val (.long v8), .second, .unset, .unset, .unset, .unset, .unset, .unset, .unset, .unset, .unset, .unset, .unset, .unset] [(.long v7), (.long (p3 &&& (9223372036854775807 : Int64)))]))
    refine own_st (fun _ k => XS.lrem X0.here hx rfl (hb hby at_76) rfl (own_nzd hRd.1) k) ?_
    show own_Go p.tables e below RR (s₁.setTop (mkF m 77 #[.val (.long p1), .second, .val (.long p2), .second, .val (.long p3), .second, .val (.long p4), .second, .val (.int (0 : Int32)), .val (.long v7), .second, .val (.long v8), .second, .unset, .unset, .unset, .unset, .unset, .unset, .unset, .unset, .unset, .unset, .unset, .unset] [(.long ((p3 &&& (9223372036854775807 : Int64)) - ((p3 &&& (9223372036854775807 : Int64)) / v7) * v7))]))
    rw [lrem_mod (p3 &&& (9223372036854775807 : Int64)) v7]
    show own_Go p.tables e below RR (s₁.setTop (mkF m 77 #[.val (.long p1), .second, .val (.long p2), .second, .val (.long p3), .second, .val (.long p4), .second, .val (.int (0 : Int32)), .val (.long v7), .second, .val (.long v8), .second, .unset, .unset, .unset, .unset, .unset, .unset, .unset, .unset, .unset, .unset, .unset, .unset] [(.long ((p3 &&& (9223372036854775807 : Int64)) % v7))]))
    generalize gv9 : ((p3 &&& (9223372036854775807 : Int64)) % v7) = v9
    show own_Go p.tables e below RR (s₁.setTop (mkF m 77 #[.val (.long p1), .second, .val (.long p2), .second, .val (.long p3), .second, .val (.long p4), .second, .val (.int (0 : Int32)), .val (.long v7), .second, .val (.long v8), .second, .unset, .unset, .unset, .unset, .unset, .unset, .unset, .unset, .unset, .unset, .unset, .unset] [(.long v9)]))
    refine own_st (fun _ k => XS.lstore X0.here hx rfl (hb hby at_77) rfl (l' := #[.val (.long p1), .second, .val (.long p2), .second, .val (.long p3), .second, .val (.long p4), .second, .val (.int (0 : Int32)), .val (.long v7), .second, .val (.long v8), .second, .val (.long v9), .second, .unset, .unset, .unset, .unset, .unset, .unset, .unset, .unset, .unset, .unset]) rfl (XS.lload X0.here hx rfl (hb hby at_79) rfl (XS.lload X0.here hx rfl (hb hby at_81) rfl (XS.lmul X0.here hx rfl (hb hby at_83) rfl (XS.lload X0.here hx rfl (hb hby at_84) rfl (XS.ladd X0.here hx rfl (hb hby at_86) rfl k)))))) ?_
    show own_Go p.tables e below RR (s₁.setTop (mkF m 87 #[.val (.long p1), .second, .val (.long p2), .second, .val (.long p3), .second, .val (.long p4), .second, .val (.int (0 : Int32)), .val (.long v7), .second, .val (.long v8), .second, .val (.long v9), .second, .unset, .unset, .unset, .unset, .unset, .unset, .unset, .unset, .unset, .unset] [(.long ((v8 * v7) + v9))]))
    generalize gv10 : ((v8 * v7) + v9) = v10
    show own_Go p.tables e below RR (s₁.setTop (mkF m 87 #[.val (.long p1), .second, .val (.long p2), .second, .val (.long p3), .second, .val (.long p4), .second, .val (.int (0 : Int32)), .val (.long v7), .second, .val (.long v8), .second, .val (.long v9), .second, .unset, .unset, .unset, .unset, .unset, .unset, .unset, .unset, .unset, .unset] [(.long v10)]))
    refine own_st (fun _ k => XS.lstore X0.here hx rfl (hb hby at_87) rfl (l' := #[.val (.long p1), .second, .val (.long p2), .second, .val (.long p3), .second, .val (.long p4), .second, .val (.int (0 : Int32)), .val (.long v7), .second, .val (.long v8), .second, .val (.long v9), .second, .val (.long v10), .second, .unset, .unset, .unset, .unset, .unset, .unset, .unset, .unset]) rfl k) ?_
    show own_Go p.tables e below RR (s₁.setTop (mkF m 89 #[.val (.long p1), .second, .val (.long p2), .second, .val (.long p3), .second, .val (.long p4), .second, .val (.int (0 : Int32)), .val (.long v7), .second, .val (.long v8), .second, .val (.long v9), .second, .val (.long v10), .second, .unset, .unset, .unset, .unset, .unset, .unset, .unset, .unset] []))
    have hRr := own_Rr hRd.1 gv9
    have hR := own_Rt hRq hRd hRr gv10
    obtain ⟨na, hVa, a0_, a1_, a2_, a3_, a4_, a5_⟩ := own_avg hR
    have hVq := own_Vl hRq.1 (Int.lt_trans hRq.2 (by decide))
    have hV1 := own_V1 hRq
    have hVh := own_Vhalf hRq.1 (by have := hRq.2; omega)
    by_cases hc89_11 : v9 = (0 : Int64)
    · show own_Go p.tables e below RR (s₁.setTop (mkF m 89 #[.val (.long p1), .second, .val (.long p2), .second, .val (.long p3), .second, .val (.long p4), .second, .val (.int (0 : Int32)), .val (.long v7), .second, .val (.long v8), .second, .val (.long v9), .second, .val (.long v10), .second, .unset, .unset, .unset, .unset, .unset, .unset, .unset, .unset] []))
      obtain ⟨T12, h12, X12, e12, E12, A12, D12, -, st12⟩ := newO X0 hx hZ hown (hw _ (List.mem_of_getElem? (i := 4) rfl)) (hw _ (List.mem_of_getElem? (i := 5) rfl)) (hw _ (List.mem_of_getElem? (i := 6) rfl)) e0 (g := (mkF m 89 #[.val (.long p1), .second, .val (.long p2), .second, .val (.long p3), .second, .val (.long p4), .second, .val (.int (0 : Int32)), .val (.long v7), .second, .val (.long v8), .second, .val (.long v9), .second, .val (.long v10), .second, .unset, .unset, .unset, .unset, .unset, .unset, .unset, .unset] [])) rfl (hb hby at_89) (by decide) (by decide)
      obtain ⟨b12, gb12⟩ : ∃ z, z = h0.size := ⟨_, rfl⟩
      rw [← gb12] at A12 D12 st12
      have ge12 : n0 ≤ b12 := Nat.le_trans Z0 (Nat.le_of_eq gb12.symm)
      refine own_st st12 ?_
      have z13 : n0 ≤ h12.size := Nat.le_trans Z0 E12.1
      have F12_19 : Fld Z h12 b12 "com/example/candex/candex/index/FieldStatistics" "docCount" "J" (.long (0 : Int64)) := D12 (Or.inr (hw _ (List.mem_of_getElem? (i := 19) rfl))) (ty := .long) (by decide)
      have F12_21 : Fld Z h12 b12 "com/example/candex/candex/index/FieldStatistics" "totalLength" "J" (.long (0 : Int64)) := D12 (Or.inr (hw _ (List.mem_of_getElem? (i := 21) rfl))) (ty := .long) (by decide)
      show own_Go p.tables e below RR (T12.setTop (mkF m 92 #[.val (.long p1), .second, .val (.long p2), .second, .val (.long p3), .second, .val (.long p4), .second, .val (.int (0 : Int32)), .val (.long v7), .second, .val (.long v8), .second, .val (.long v9), .second, .val (.long v10), .second, .unset, .unset, .unset, .unset, .unset, .unset, .unset, .unset] [(.ref b12)]))
      refine own_st (fun _ k => XS.dup X12.here hx rfl (hb hby at_92) rfl rfl (XS.lload X12.here hx rfl (hb hby at_93) rfl (XS.lload X12.here hx rfl (hb hby at_95) rfl k))) ?_
      show own_Go p.tables e below RR (T12.setTop (mkF m 97 #[.val (.long p1), .second, .val (.long p2), .second, .val (.long p3), .second, .val (.long p4), .second, .val (.int (0 : Int32)), .val (.long v7), .second, .val (.long v8), .second, .val (.long v9), .second, .val (.long v10), .second, .unset, .unset, .unset, .unset, .unset, .unset, .unset, .unset] [(.long v10), (.long v7), (.ref b12), (.ref b12)]))
      obtain ⟨_, _, ⟨T14, L14, k14, n14⟩, -, X14, ⟨Lc14, hQ14, l14, y14, z14⟩, st14⟩ := X12.specialBack hx (y := (⟨"com/example/candex/candex/index/FieldStatistics", "<init>", "(JJ)V"⟩ : MethodName)) rfl hown (mvT hZ (hw _ (List.mem_of_getElem? (i := 7) rfl))) (mvT hZ (hw _ (List.mem_of_getElem? (i := 8) rfl))) (mvT hZ (hw _ (List.mem_of_getElem? (i := 9) rfl))) (by decide) (backOf (W := 1) (own_rmFI l Z a0 hw [] b12 v7 v10 h12 n0 z13 ge12 A12 F12_19 F12_21) hZ (hw _ (List.mem_of_getElem? (i := 9) rfl)) (hw _ (List.mem_of_getElem? (i := 6) rfl)) (by decide) (by decide)) (g := (mkF m 97 #[.val (.long p1), .second, .val (.long p2), .second, .val (.long p3), .second, .val (.long p4), .second, .val (.int (0 : Int32)), .val (.long v7), .second, .val (.long v8), .second, .val (.long v9), .second, .val (.long v10), .second, .unset, .unset, .unset, .unset, .unset, .unset, .unset, .unset] [(.long v10), (.long v7), (.ref b12), (.ref b12)])) rfl (by rw [hml]; rfl) (Steps.refl _) (a := b12) (argsL := [(.long v7), (.long v10)]) (rest := [(.ref b12)]) (lenOf own_pd__JJ_V rfl) rfl (by show 2 * 0 + _ ≤ _; exact Nat.le_of_eq rfl) (hb hby at_97) (fun _ _ => ⟨rfl, e12, (by decide : 1 + 0 ≤ _), (by decide : 2 + 0 ≤ _)⟩)
      dsimp only [Pt.U, Pt.locs, Pt.cells, Pt.slots] at X14 l14 y14 z14 st14 hQ14
      rw [l14, y14, z14] at X14
      obtain ⟨rfl, Nq14, Kq14, Eq14, Fd14, Ft14⟩ := hQ14
      have N14 := Fr.app N0 Nq14
      refine own_st (fun _ k => st14.trans k) ?_
      have z15 : n0 ≤ T14.heap.size := Nat.le_trans z13 Kq14.1
      show own_Go p.tables e below RR (T14.setTop (mkF m 100 #[.val (.long p1), .second, .val (.long p2), .second, .val (.long p3), .second, .val (.long p4), .second, .val (.int (0 : Int32)), .val (.long v7), .second, .val (.long v8), .second, .val (.long v9), .second, .val (.long v10), .second, .unset, .unset, .unset, .unset, .unset, .unset, .unset, .unset] [(.ref b12)]))
      obtain ⟨cq16, kq16, q16a, q16b, q16c⟩ := isOf hZ rfl Eq14
      obtain ⟨_, _, ⟨T16, L16, k16, n16⟩, -, X16, ⟨Lc16, hQ16, l16, y16, z16⟩, st16⟩ := X14.virtualBack hx (y := (⟨"com/example/candex/candex/index/FieldStatistics", "averageLength", "()D"⟩ : MethodName)) (z := (⟨"com/example/candex/candex/index/FieldStatistics", "averageLength", "()D"⟩ : MethodName)) hown (mvT hZ (hw _ (List.mem_of_getElem? (i := 22) rfl))) (mvT hZ (hw _ (List.mem_of_getElem? (i := 23) rfl))) (notFace_of_selects (args := #[]) (mvT hZ (hw _ (List.mem_of_getElem? (i := 25) rfl)))) (mvT hZ (hw _ (List.mem_of_getElem? (i := 25) rfl))) (mvT hZ (hw _ (List.mem_of_getElem? (i := 24) rfl))) (by decide) (backOf (W := 0) (own_rmAV l Z a0 hw [] b12 v7 v10 T14.heap n0 z15 Fd14 Ft14 (own_nzd hRd.1) (own_nn hVa)) hZ (hw _ (List.mem_of_getElem? (i := 26) rfl)) (hw _ (List.mem_of_getElem? (i := 6) rfl)) (by decide) (by decide)) q16a q16c (g := (mkF m 100 #[.val (.long p1), .second, .val (.long p2), .second, .val (.long p3), .second, .val (.long p4), .second, .val (.int (0 : Int32)), .val (.long v7), .second, .val (.long v8), .second, .val (.long v9), .second, .val (.long v10), .second, .unset, .unset, .unset, .unset, .unset, .unset, .unset, .unset] [(.ref b12)])) rfl (by rw [hml]; rfl) (Steps.refl _) (argsL := []) (rest := []) (lenOf own_pd___D rfl) rfl (by show 2 * 0 + _ ≤ _; exact Nat.le_of_eq rfl) (hb hby at_100) (fun _ _ => ⟨rfl, rfl, (by decide : 1 + 0 ≤ _), (by decide : 2 + 0 ≤ _)⟩)
      dsimp only [Pt.U, Pt.locs, Pt.cells, Pt.slots] at X16 l16 y16 z16 st16 hQ16
      rw [l16, y16, z16] at X16
      obtain ⟨rfl, Nq16, eq16⟩ := hQ16
      have N16 := Fr.app N14 Nq16
      refine own_st (fun _ k => st16.trans k) ?_
      show own_Go p.tables e below RR (T16.setTop (mkF m 103 #[.val (.long p1), .second, .val (.long p2), .second, .val (.long p3), .second, .val (.long p4), .second, .val (.int (0 : Int32)), .val (.long v7), .second, .val (.long v8), .second, .val (.long v9), .second, .val (.long v10), .second, .unset, .unset, .unset, .unset, .unset, .unset, .unset, .unset] [(.double (FP.ddiv (FP.l2d v10) (FP.l2d v7)))]))
      refine own_st (fun _ k => XS.dstore X16.here hx rfl (hb hby at_103) rfl (l' := #[.val (.long p1), .second, .val (.long p2), .second, .val (.long p3), .second, .val (.long p4), .second, .val (.int (0 : Int32)), .val (.long v7), .second, .val (.long v8), .second, .val (.long v9), .second, .val (.long v10), .second, .val (.double (FP.ddiv (FP.l2d v10) (FP.l2d v7))), .second, .unset, .unset, .unset, .unset, .unset, .unset]) rfl (XS.lload X16.here hx rfl (hb hby at_105) rfl k)) ?_
      show own_Go p.tables e below RR (T16.setTop (mkF m 107 #[.val (.long p1), .second, .val (.long p2), .second, .val (.long p3), .second, .val (.long p4), .second, .val (.int (0 : Int32)), .val (.long v7), .second, .val (.long v8), .second, .val (.long v9), .second, .val (.long v10), .second, .val (.double (FP.ddiv (FP.l2d v10) (FP.l2d v7))), .second, .unset, .unset, .unset, .unset, .unset, .unset] [(.long v8)]))
      refine own_st (fun _ k => XS.l2dS X16.here hx rfl (hb hby at_107) rfl rfl k) ?_
      show own_Go p.tables e below RR (T16.setTop (mkF m 108 #[.val (.long p1), .second, .val (.long p2), .second, .val (.long p3), .second, .val (.long p4), .second, .val (.int (0 : Int32)), .val (.long v7), .second, .val (.long v8), .second, .val (.long v9), .second, .val (.long v10), .second, .val (.double (FP.ddiv (FP.l2d v10) (FP.l2d v7))), .second, .unset, .unset, .unset, .unset, .unset, .unset] [(.double (FP.l2d v8))]))
      refine own_st (fun _ k => XS.dstore X16.here hx rfl (hb hby at_108) rfl (l' := #[.val (.long p1), .second, .val (.long p2), .second, .val (.long p3), .second, .val (.long p4), .second, .val (.int (0 : Int32)), .val (.long v7), .second, .val (.long v8), .second, .val (.long v9), .second, .val (.long v10), .second, .val (.double (FP.ddiv (FP.l2d v10) (FP.l2d v7))), .second, .val (.double (FP.l2d v8)), .second, .unset, .unset, .unset, .unset]) rfl k) ?_
      show own_Go p.tables e below RR (T16.setTop (mkF m 110 #[.val (.long p1), .second, .val (.long p2), .second, .val (.long p3), .second, .val (.long p4), .second, .val (.int (0 : Int32)), .val (.long v7), .second, .val (.long v8), .second, .val (.long v9), .second, .val (.long v10), .second, .val (.double (FP.ddiv (FP.l2d v10) (FP.l2d v7))), .second, .val (.double (FP.l2d v8)), .second, .unset, .unset, .unset, .unset] []))
      refine own_st (fun _ k => XS.dload X16.here hx rfl (hb hby at_110) rfl k) ?_
      show own_Go p.tables e below RR (T16.setTop (mkF m 112 #[.val (.long p1), .second, .val (.long p2), .second, .val (.long p3), .second, .val (.long p4), .second, .val (.int (0 : Int32)), .val (.long v7), .second, .val (.long v8), .second, .val (.long v9), .second, .val (.long v10), .second, .val (.double (FP.ddiv (FP.l2d v10) (FP.l2d v7))), .second, .val (.double (FP.l2d v8)), .second, .unset, .unset, .unset, .unset] [(.double (FP.l2d v8))]))
      refine own_st (fun _ k => XS.dload X16.here hx rfl (hb hby at_112) rfl k) ?_
      show own_Go p.tables e below RR (T16.setTop (mkF m 114 #[.val (.long p1), .second, .val (.long p2), .second, .val (.long p3), .second, .val (.long p4), .second, .val (.int (0 : Int32)), .val (.long v7), .second, .val (.long v8), .second, .val (.long v9), .second, .val (.long v10), .second, .val (.double (FP.ddiv (FP.l2d v10) (FP.l2d v7))), .second, .val (.double (FP.l2d v8)), .second, .unset, .unset, .unset, .unset] [(.double (FP.ddiv (FP.l2d v10) (FP.l2d v7))), (.double (FP.l2d v8))]))
      refine own_st (fun _ k => XS.dcmpS X16.here hx rfl (hb hby at_114) rfl (v := (0 : Int32)) (own_ceq _ hVq hVa (a0_ hc89_11).symm) k) ?_
      show own_Go p.tables e below RR (T16.setTop (mkF m 115 #[.val (.long p1), .second, .val (.long p2), .second, .val (.long p3), .second, .val (.long p4), .second, .val (.int (0 : Int32)), .val (.long v7), .second, .val (.long v8), .second, .val (.long v9), .second, .val (.long v10), .second, .val (.double (FP.ddiv (FP.l2d v10) (FP.l2d v7))), .second, .val (.double (FP.l2d v8)), .second, .unset, .unset, .unset, .unset] [(.int (0 : Int32))]))
      refine own_st (fun _ k => XS.ifNo X16.here hx rfl (hb hby at_115) rfl ((if0 _ _).trans (flt (by decide)).2.2.1) k) ?_
      show own_Go p.tables e below RR (T16.setTop (mkF m 118 #[.val (.long p1), .second, .val (.long p2), .second, .val (.long p3), .second, .val (.long p4), .second, .val (.int (0 : Int32)), .val (.long v7), .second, .val (.long v8), .second, .val (.long v9), .second, .val (.long v10), .second, .val (.double (FP.ddiv (FP.l2d v10) (FP.l2d v7))), .second, .val (.double (FP.l2d v8)), .second, .unset, .unset, .unset, .unset] []))
      refine own_st (fun _ k => XS.dload X16.here hx rfl (hb hby at_118) rfl k) ?_
      show own_Go p.tables e below RR (T16.setTop (mkF m 120 #[.val (.long p1), .second, .val (.long p2), .second, .val (.long p3), .second, .val (.long p4), .second, .val (.int (0 : Int32)), .val (.long v7), .second, .val (.long v8), .second, .val (.long v9), .second, .val (.long v10), .second, .val (.double (FP.ddiv (FP.l2d v10) (FP.l2d v7))), .second, .val (.double (FP.l2d v8)), .second, .unset, .unset, .unset, .unset] [(.double (FP.ddiv (FP.l2d v10) (FP.l2d v7)))]))
      refine own_st (fun _ k => XS.dload X16.here hx rfl (hb hby at_120) rfl k) ?_
      show own_Go p.tables e below RR (T16.setTop (mkF m 122 #[.val (.long p1), .second, .val (.long p2), .second, .val (.long p3), .second, .val (.long p4), .second, .val (.int (0 : Int32)), .val (.long v7), .second, .val (.long v8), .second, .val (.long v9), .second, .val (.long v10), .second, .val (.double (FP.ddiv (FP.l2d v10) (FP.l2d v7))), .second, .val (.double (FP.l2d v8)), .second, .unset, .unset, .unset, .unset] [(.double (FP.l2d v8)), (.double (FP.ddiv (FP.l2d v10) (FP.l2d v7)))]))
      refine own_st (fun _ k => XS.dconst1 X16.here hx rfl (hb hby at_122) own_dc1 k) ?_
      show own_Go p.tables e below RR (T16.setTop (mkF m 123 #[.val (.long p1), .second, .val (.long p2), .second, .val (.long p3), .second, .val (.long p4), .second, .val (.int (0 : Int32)), .val (.long v7), .second, .val (.long v8), .second, .val (.long v9), .second, .val (.long v10), .second, .val (.double (FP.ddiv (FP.l2d v10) (FP.l2d v7))), .second, .val (.double (FP.l2d v8)), .second, .unset, .unset, .unset, .unset] [(.double (FP.l2d 1)), (.double (FP.l2d v8)), (.double (FP.ddiv (FP.l2d v10) (FP.l2d v7)))]))
      refine own_st (fun _ k => XS.daddS X16.here hx rfl (hb hby at_123) rfl (own_nn hV1) rfl k) ?_
      show own_Go p.tables e below RR (T16.setTop (mkF m 124 #[.val (.long p1), .second, .val (.long p2), .second, .val (.long p3), .second, .val (.long p4), .second, .val (.int (0 : Int32)), .val (.long v7), .second, .val (.long v8), .second, .val (.long v9), .second, .val (.long v10), .second, .val (.double (FP.ddiv (FP.l2d v10) (FP.l2d v7))), .second, .val (.double (FP.l2d v8)), .second, .unset, .unset, .unset, .unset] [(.double (FP.dadd (FP.l2d v8) (FP.l2d 1))), (.double (FP.ddiv (FP.l2d v10) (FP.l2d v7)))]))
      refine own_st (fun _ k => XS.dcmpS X16.here hx rfl (hb hby at_124) rfl (v := (-1 : Int32)) (own_clt _ hVa hV1 a2_) k) ?_
      show own_Go p.tables e below RR (T16.setTop (mkF m 125 #[.val (.long p1), .second, .val (.long p2), .second, .val (.long p3), .second, .val (.long p4), .second, .val (.int (0 : Int32)), .val (.long v7), .second, .val (.long v8), .second, .val (.long v9), .second, .val (.long v10), .second, .val (.double (FP.ddiv (FP.l2d v10) (FP.l2d v7))), .second, .val (.double (FP.l2d v8)), .second, .unset, .unset, .unset, .unset] [(.int (-1 : Int32))]))
      refine own_st (fun _ k => XS.ifYes X16.here hx rfl (pc0 := 125) (pc' := 130) rfl (hb hby at_125) rfl ((if0 _ _).trans (tlt (by decide)).1) (by decide) (by decide) (XS.lload X16.here hx rfl (hb hby at_130) rfl (XS.lconst X16.here hx rfl (hb hby at_132) (XS.lcmp X16.here hx rfl (hb hby at_133) rfl k)))) ?_
      show own_Go p.tables e below RR (T16.setTop (mkF m 134 #[.val (.long p1), .second, .val (.long p2), .second, .val (.long p3), .second, .val (.long p4), .second, .val (.int (0 : Int32)), .val (.long v7), .second, .val (.long v8), .second, .val (.long v9), .second, .val (.long v10), .second, .val (.double (FP.ddiv (FP.l2d v10) (FP.l2d v7))), .second, .val (.double (FP.l2d v8)), .second, .unset, .unset, .unset, .unset] [(.int (lcmpW v9 (0 : Int64)))]))
      refine own_st (fun _ k => XS.ifNo X16.here hx rfl (hb hby at_134) rfl ((if0 _ _).trans (teq ((lw_eq _ _).mpr hc89_11)).2) k) ?_
      show own_Go p.tables e below RR (T16.setTop (mkF m 137 #[.val (.long p1), .second, .val (.long p2), .second, .val (.long p3), .second, .val (.long p4), .second, .val (.int (0 : Int32)), .val (.long v7), .second, .val (.long v8), .second, .val (.long v9), .second, .val (.long v10), .second, .val (.double (FP.ddiv (FP.l2d v10) (FP.l2d v7))), .second, .val (.double (FP.l2d v8)), .second, .unset, .unset, .unset, .unset] []))
      refine own_st (fun _ k => XS.dload X16.here hx rfl (hb hby at_137) rfl k) ?_
      show own_Go p.tables e below RR (T16.setTop (mkF m 139 #[.val (.long p1), .second, .val (.long p2), .second, .val (.long p3), .second, .val (.long p4), .second, .val (.int (0 : Int32)), .val (.long v7), .second, .val (.long v8), .second, .val (.long v9), .second, .val (.long v10), .second, .val (.double (FP.ddiv (FP.l2d v10) (FP.l2d v7))), .second, .val (.double (FP.l2d v8)), .second, .unset, .unset, .unset, .unset] [(.double (FP.ddiv (FP.l2d v10) (FP.l2d v7)))]))
      refine own_st (fun _ k => XS.dload X16.here hx rfl (hb hby at_139) rfl k) ?_
      show own_Go p.tables e below RR (T16.setTop (mkF m 141 #[.val (.long p1), .second, .val (.long p2), .second, .val (.long p3), .second, .val (.long p4), .second, .val (.int (0 : Int32)), .val (.long v7), .second, .val (.long v8), .second, .val (.long v9), .second, .val (.long v10), .second, .val (.double (FP.ddiv (FP.l2d v10) (FP.l2d v7))), .second, .val (.double (FP.l2d v8)), .second, .unset, .unset, .unset, .unset] [(.double (FP.l2d v8)), (.double (FP.ddiv (FP.l2d v10) (FP.l2d v7)))]))
      refine own_st (fun _ k => XS.dcmpS X16.here hx rfl (hb hby at_141) rfl (v := (0 : Int32)) (own_ceq _ hVa hVq (a0_ hc89_11)) k) ?_
      show own_Go p.tables e below RR (T16.setTop (mkF m 142 #[.val (.long p1), .second, .val (.long p2), .second, .val (.long p3), .second, .val (.long p4), .second, .val (.int (0 : Int32)), .val (.long v7), .second, .val (.long v8), .second, .val (.long v9), .second, .val (.long v10), .second, .val (.double (FP.ddiv (FP.l2d v10) (FP.l2d v7))), .second, .val (.double (FP.l2d v8)), .second, .unset, .unset, .unset, .unset] [(.int (0 : Int32))]))
      refine own_st (fun _ k => XS.ifNo X16.here hx rfl (hb hby at_142) rfl ((if0 _ _).trans (teq (by decide)).2) (XS.iconst X16.here hx rfl (hb hby at_145) (XS.goto X16.here hx rfl (pc0 := 146) (pc' := 150) rfl (hb hby at_146) (by decide) (by decide) k))) ?_
      show own_Go p.tables e below RR (T16.setTop (mkF m 150 #[.val (.long p1), .second, .val (.long p2), .second, .val (.long p3), .second, .val (.long p4), .second, .val (.int (0 : Int32)), .val (.long v7), .second, .val (.long v8), .second, .val (.long v9), .second, .val (.long v10), .second, .val (.double (FP.ddiv (FP.l2d v10) (FP.l2d v7))), .second, .val (.double (FP.l2d v8)), .second, .unset, .unset, .unset, .unset] [(.int (1 : Int32))]))
      obtain ⟨fs, hrt_, hrun, hended, hW, hsame⟩ := X16.leave (v := some (.int (1 : Int32))) (fun h => by rw [Bd.returns] at h; cases h)
      refine own_fin (retN X16 hx (t := .boolean) Bd.returns (by simp) (hb hby at_150) hrt_) (hRR _ ⟨_, hrun, hended, _, _, rfl, ?_, ⟨_, rfl⟩, hW, hsame.mono (by decide) (by decide)⟩)
      show own_Q0 Z p1 p2 p3 p4 h0 n0 _ T16.heap _
      rw [eq16]
      exact ⟨rfl, N16⟩
    · show own_Go p.tables e below RR (s₁.setTop (mkF m 89 #[.val (.long p1), .second, .val (.long p2), .second, .val (.long p3), .second, .val (.long p4), .second, .val (.int (0 : Int32)), .val (.long v7), .second, .val (.long v8), .second, .val (.long v9), .second, .val (.long v10), .second, .unset, .unset, .unset, .unset, .unset, .unset, .unset, .unset] []))
      obtain ⟨T17, h17, X17, e17, E17, A17, D17, -, st17⟩ := newO X0 hx hZ hown (hw _ (List.mem_of_getElem? (i := 4) rfl)) (hw _ (List.mem_of_getElem? (i := 5) rfl)) (hw _ (List.mem_of_getElem? (i := 6) rfl)) e0 (g := (mkF m 89 #[.val (.long p1), .second, .val (.long p2), .second, .val (.long p3), .second, .val (.long p4), .second, .val (.int (0 : Int32)), .val (.long v7), .second, .val (.long v8), .second, .val (.long v9), .second, .val (.long v10), .second, .unset, .unset, .unset, .unset, .unset, .unset, .unset, .unset] [])) rfl (hb hby at_89) (by decide) (by decide)
      obtain ⟨b17, gb17⟩ : ∃ z, z = h0.size := ⟨_, rfl⟩
      rw [← gb17] at A17 D17 st17
      have ge17 : n0 ≤ b17 := Nat.le_trans Z0 (Nat.le_of_eq gb17.symm)
      refine own_st st17 ?_
      have z18 : n0 ≤ h17.size := Nat.le_trans Z0 E17.1
      have F17_19 : Fld Z h17 b17 "com/example/candex/candex/index/FieldStatistics" "docCount" "J" (.long (0 : Int64)) := D17 (Or.inr (hw _ (List.mem_of_getElem? (i := 19) rfl))) (ty := .long) (by decide)
      have F17_21 : Fld Z h17 b17 "com/example/candex/candex/index/FieldStatistics" "totalLength" "J" (.long (0 : Int64)) := D17 (Or.inr (hw _ (List.mem_of_getElem? (i := 21) rfl))) (ty := .long) (by decide)
      show own_Go p.tables e below RR (T17.setTop (mkF m 92 #[.val (.long p1), .second, .val (.long p2), .second, .val (.long p3), .second, .val (.long p4), .second, .val (.int (0 : Int32)), .val (.long v7), .second, .val (.long v8), .second, .val (.long v9), .second, .val (.long v10), .second, .unset, .unset, .unset, .unset, .unset, .unset, .unset, .unset] [(.ref b17)]))
      refine own_st (fun _ k => XS.dup X17.here hx rfl (hb hby at_92) rfl rfl (XS.lload X17.here hx rfl (hb hby at_93) rfl (XS.lload X17.here hx rfl (hb hby at_95) rfl k))) ?_
      show own_Go p.tables e below RR (T17.setTop (mkF m 97 #[.val (.long p1), .second, .val (.long p2), .second, .val (.long p3), .second, .val (.long p4), .second, .val (.int (0 : Int32)), .val (.long v7), .second, .val (.long v8), .second, .val (.long v9), .second, .val (.long v10), .second, .unset, .unset, .unset, .unset, .unset, .unset, .unset, .unset] [(.long v10), (.long v7), (.ref b17), (.ref b17)]))
      obtain ⟨_, _, ⟨T19, L19, k19, n19⟩, -, X19, ⟨Lc19, hQ19, l19, y19, z19⟩, st19⟩ := X17.specialBack hx (y := (⟨"com/example/candex/candex/index/FieldStatistics", "<init>", "(JJ)V"⟩ : MethodName)) rfl hown (mvT hZ (hw _ (List.mem_of_getElem? (i := 7) rfl))) (mvT hZ (hw _ (List.mem_of_getElem? (i := 8) rfl))) (mvT hZ (hw _ (List.mem_of_getElem? (i := 9) rfl))) (by decide) (backOf (W := 1) (own_rmFI l Z a0 hw [] b17 v7 v10 h17 n0 z18 ge17 A17 F17_19 F17_21) hZ (hw _ (List.mem_of_getElem? (i := 9) rfl)) (hw _ (List.mem_of_getElem? (i := 6) rfl)) (by decide) (by decide)) (g := (mkF m 97 #[.val (.long p1), .second, .val (.long p2), .second, .val (.long p3), .second, .val (.long p4), .second, .val (.int (0 : Int32)), .val (.long v7), .second, .val (.long v8), .second, .val (.long v9), .second, .val (.long v10), .second, .unset, .unset, .unset, .unset, .unset, .unset, .unset, .unset] [(.long v10), (.long v7), (.ref b17), (.ref b17)])) rfl (by rw [hml]; rfl) (Steps.refl _) (a := b17) (argsL := [(.long v7), (.long v10)]) (rest := [(.ref b17)]) (lenOf own_pd__JJ_V rfl) rfl (by show 2 * 0 + _ ≤ _; exact Nat.le_of_eq rfl) (hb hby at_97) (fun _ _ => ⟨rfl, e17, (by decide : 1 + 0 ≤ _), (by decide : 2 + 0 ≤ _)⟩)
      dsimp only [Pt.U, Pt.locs, Pt.cells, Pt.slots] at X19 l19 y19 z19 st19 hQ19
      rw [l19, y19, z19] at X19
      obtain ⟨rfl, Nq19, Kq19, Eq19, Fd19, Ft19⟩ := hQ19
      have N19 := Fr.app N0 Nq19
      refine own_st (fun _ k => st19.trans k) ?_
      have z20 : n0 ≤ T19.heap.size := Nat.le_trans z18 Kq19.1
      show own_Go p.tables e below RR (T19.setTop (mkF m 100 #[.val (.long p1), .second, .val (.long p2), .second, .val (.long p3), .second, .val (.long p4), .second, .val (.int (0 : Int32)), .val (.long v7), .second, .val (.long v8), .second, .val (.long v9), .second, .val (.long v10), .second, .unset, .unset, .unset, .unset, .unset, .unset, .unset, .unset] [(.ref b17)]))
      obtain ⟨cq21, kq21, q21a, q21b, q21c⟩ := isOf hZ rfl Eq19
      obtain ⟨_, _, ⟨T21, L21, k21, n21⟩, -, X21, ⟨Lc21, hQ21, l21, y21, z21⟩, st21⟩ := X19.virtualBack hx (y := (⟨"com/example/candex/candex/index/FieldStatistics", "averageLength", "()D"⟩ : MethodName)) (z := (⟨"com/example/candex/candex/index/FieldStatistics", "averageLength", "()D"⟩ : MethodName)) hown (mvT hZ (hw _ (List.mem_of_getElem? (i := 22) rfl))) (mvT hZ (hw _ (List.mem_of_getElem? (i := 23) rfl))) (notFace_of_selects (args := #[]) (mvT hZ (hw _ (List.mem_of_getElem? (i := 25) rfl)))) (mvT hZ (hw _ (List.mem_of_getElem? (i := 25) rfl))) (mvT hZ (hw _ (List.mem_of_getElem? (i := 24) rfl))) (by decide) (backOf (W := 0) (own_rmAV l Z a0 hw [] b17 v7 v10 T19.heap n0 z20 Fd19 Ft19 (own_nzd hRd.1) (own_nn hVa)) hZ (hw _ (List.mem_of_getElem? (i := 26) rfl)) (hw _ (List.mem_of_getElem? (i := 6) rfl)) (by decide) (by decide)) q21a q21c (g := (mkF m 100 #[.val (.long p1), .second, .val (.long p2), .second, .val (.long p3), .second, .val (.long p4), .second, .val (.int (0 : Int32)), .val (.long v7), .second, .val (.long v8), .second, .val (.long v9), .second, .val (.long v10), .second, .unset, .unset, .unset, .unset, .unset, .unset, .unset, .unset] [(.ref b17)])) rfl (by rw [hml]; rfl) (Steps.refl _) (argsL := []) (rest := []) (lenOf own_pd___D rfl) rfl (by show 2 * 0 + _ ≤ _; exact Nat.le_of_eq rfl) (hb hby at_100) (fun _ _ => ⟨rfl, rfl, (by decide : 1 + 0 ≤ _), (by decide : 2 + 0 ≤ _)⟩)
      dsimp only [Pt.U, Pt.locs, Pt.cells, Pt.slots] at X21 l21 y21 z21 st21 hQ21
      rw [l21, y21, z21] at X21
      obtain ⟨rfl, Nq21, eq21⟩ := hQ21
      have N21 := Fr.app N19 Nq21
      refine own_st (fun _ k => st21.trans k) ?_
      show own_Go p.tables e below RR (T21.setTop (mkF m 103 #[.val (.long p1), .second, .val (.long p2), .second, .val (.long p3), .second, .val (.long p4), .second, .val (.int (0 : Int32)), .val (.long v7), .second, .val (.long v8), .second, .val (.long v9), .second, .val (.long v10), .second, .unset, .unset, .unset, .unset, .unset, .unset, .unset, .unset] [(.double (FP.ddiv (FP.l2d v10) (FP.l2d v7)))]))
      refine own_st (fun _ k => XS.dstore X21.here hx rfl (hb hby at_103) rfl (l' := #[.val (.long p1), .second, .val (.long p2), .second, .val (.long p3), .second, .val (.long p4), .second, .val (.int (0 : Int32)), .val (.long v7), .second, .val (.long v8), .second, .val (.long v9), .second, .val (.long v10), .second, .val (.double (FP.ddiv (FP.l2d v10) (FP.l2d v7))), .second, .unset, .unset, .unset, .unset, .unset, .unset]) rfl (XS.lload X21.here hx rfl (hb hby at_105) rfl k)) ?_
      show own_Go p.tables e below RR (T21.setTop (mkF m 107 #[.val (.long p1), .second, .val (.long p2), .second, .val (.long p3), .second, .val (.long p4), .second, .val (.int (0 : Int32)), .val (.long v7), .second, .val (.long v8), .second, .val (.long v9), .second, .val (.long v10), .second, .val (.double (FP.ddiv (FP.l2d v10) (FP.l2d v7))), .second, .unset, .unset, .unset, .unset, .unset, .unset] [(.long v8)]))
      refine own_st (fun _ k => XS.l2dS X21.here hx rfl (hb hby at_107) rfl rfl k) ?_
      show own_Go p.tables e below RR (T21.setTop (mkF m 108 #[.val (.long p1), .second, .val (.long p2), .second, .val (.long p3), .second, .val (.long p4), .second, .val (.int (0 : Int32)), .val (.long v7), .second, .val (.long v8), .second, .val (.long v9), .second, .val (.long v10), .second, .val (.double (FP.ddiv (FP.l2d v10) (FP.l2d v7))), .second, .unset, .unset, .unset, .unset, .unset, .unset] [(.double (FP.l2d v8))]))
      refine own_st (fun _ k => XS.dstore X21.here hx rfl (hb hby at_108) rfl (l' := #[.val (.long p1), .second, .val (.long p2), .second, .val (.long p3), .second, .val (.long p4), .second, .val (.int (0 : Int32)), .val (.long v7), .second, .val (.long v8), .second, .val (.long v9), .second, .val (.long v10), .second, .val (.double (FP.ddiv (FP.l2d v10) (FP.l2d v7))), .second, .val (.double (FP.l2d v8)), .second, .unset, .unset, .unset, .unset]) rfl k) ?_
      show own_Go p.tables e below RR (T21.setTop (mkF m 110 #[.val (.long p1), .second, .val (.long p2), .second, .val (.long p3), .second, .val (.long p4), .second, .val (.int (0 : Int32)), .val (.long v7), .second, .val (.long v8), .second, .val (.long v9), .second, .val (.long v10), .second, .val (.double (FP.ddiv (FP.l2d v10) (FP.l2d v7))), .second, .val (.double (FP.l2d v8)), .second, .unset, .unset, .unset, .unset] []))
      refine own_st (fun _ k => XS.dload X21.here hx rfl (hb hby at_110) rfl k) ?_
      show own_Go p.tables e below RR (T21.setTop (mkF m 112 #[.val (.long p1), .second, .val (.long p2), .second, .val (.long p3), .second, .val (.long p4), .second, .val (.int (0 : Int32)), .val (.long v7), .second, .val (.long v8), .second, .val (.long v9), .second, .val (.long v10), .second, .val (.double (FP.ddiv (FP.l2d v10) (FP.l2d v7))), .second, .val (.double (FP.l2d v8)), .second, .unset, .unset, .unset, .unset] [(.double (FP.l2d v8))]))
      refine own_st (fun _ k => XS.dload X21.here hx rfl (hb hby at_112) rfl k) ?_
      show own_Go p.tables e below RR (T21.setTop (mkF m 114 #[.val (.long p1), .second, .val (.long p2), .second, .val (.long p3), .second, .val (.long p4), .second, .val (.int (0 : Int32)), .val (.long v7), .second, .val (.long v8), .second, .val (.long v9), .second, .val (.long v10), .second, .val (.double (FP.ddiv (FP.l2d v10) (FP.l2d v7))), .second, .val (.double (FP.l2d v8)), .second, .unset, .unset, .unset, .unset] [(.double (FP.ddiv (FP.l2d v10) (FP.l2d v7))), (.double (FP.l2d v8))]))
      refine own_st (fun _ k => XS.dcmpS X21.here hx rfl (hb hby at_114) rfl (v := (-1 : Int32)) (own_clt _ hVq hVa (a1_ hc89_11)) k) ?_
      show own_Go p.tables e below RR (T21.setTop (mkF m 115 #[.val (.long p1), .second, .val (.long p2), .second, .val (.long p3), .second, .val (.long p4), .second, .val (.int (0 : Int32)), .val (.long v7), .second, .val (.long v8), .second, .val (.long v9), .second, .val (.long v10), .second, .val (.double (FP.ddiv (FP.l2d v10) (FP.l2d v7))), .second, .val (.double (FP.l2d v8)), .second, .unset, .unset, .unset, .unset] [(.int (-1 : Int32))]))
      refine own_st (fun _ k => XS.ifNo X21.here hx rfl (hb hby at_115) rfl ((if0 _ _).trans (flt (by decide)).2.2.1) k) ?_
      show own_Go p.tables e below RR (T21.setTop (mkF m 118 #[.val (.long p1), .second, .val (.long p2), .second, .val (.long p3), .second, .val (.long p4), .second, .val (.int (0 : Int32)), .val (.long v7), .second, .val (.long v8), .second, .val (.long v9), .second, .val (.long v10), .second, .val (.double (FP.ddiv (FP.l2d v10) (FP.l2d v7))), .second, .val (.double (FP.l2d v8)), .second, .unset, .unset, .unset, .unset] []))
      refine own_st (fun _ k => XS.dload X21.here hx rfl (hb hby at_118) rfl k) ?_
      show own_Go p.tables e below RR (T21.setTop (mkF m 120 #[.val (.long p1), .second, .val (.long p2), .second, .val (.long p3), .second, .val (.long p4), .second, .val (.int (0 : Int32)), .val (.long v7), .second, .val (.long v8), .second, .val (.long v9), .second, .val (.long v10), .second, .val (.double (FP.ddiv (FP.l2d v10) (FP.l2d v7))), .second, .val (.double (FP.l2d v8)), .second, .unset, .unset, .unset, .unset] [(.double (FP.ddiv (FP.l2d v10) (FP.l2d v7)))]))
      refine own_st (fun _ k => XS.dload X21.here hx rfl (hb hby at_120) rfl k) ?_
      show own_Go p.tables e below RR (T21.setTop (mkF m 122 #[.val (.long p1), .second, .val (.long p2), .second, .val (.long p3), .second, .val (.long p4), .second, .val (.int (0 : Int32)), .val (.long v7), .second, .val (.long v8), .second, .val (.long v9), .second, .val (.long v10), .second, .val (.double (FP.ddiv (FP.l2d v10) (FP.l2d v7))), .second, .val (.double (FP.l2d v8)), .second, .unset, .unset, .unset, .unset] [(.double (FP.l2d v8)), (.double (FP.ddiv (FP.l2d v10) (FP.l2d v7)))]))
      refine own_st (fun _ k => XS.dconst1 X21.here hx rfl (hb hby at_122) own_dc1 k) ?_
      show own_Go p.tables e below RR (T21.setTop (mkF m 123 #[.val (.long p1), .second, .val (.long p2), .second, .val (.long p3), .second, .val (.long p4), .second, .val (.int (0 : Int32)), .val (.long v7), .second, .val (.long v8), .second, .val (.long v9), .second, .val (.long v10), .second, .val (.double (FP.ddiv (FP.l2d v10) (FP.l2d v7))), .second, .val (.double (FP.l2d v8)), .second, .unset, .unset, .unset, .unset] [(.double (FP.l2d 1)), (.double (FP.l2d v8)), (.double (FP.ddiv (FP.l2d v10) (FP.l2d v7)))]))
      refine own_st (fun _ k => XS.daddS X21.here hx rfl (hb hby at_123) rfl (own_nn hV1) rfl k) ?_
      show own_Go p.tables e below RR (T21.setTop (mkF m 124 #[.val (.long p1), .second, .val (.long p2), .second, .val (.long p3), .second, .val (.long p4), .second, .val (.int (0 : Int32)), .val (.long v7), .second, .val (.long v8), .second, .val (.long v9), .second, .val (.long v10), .second, .val (.double (FP.ddiv (FP.l2d v10) (FP.l2d v7))), .second, .val (.double (FP.l2d v8)), .second, .unset, .unset, .unset, .unset] [(.double (FP.dadd (FP.l2d v8) (FP.l2d 1))), (.double (FP.ddiv (FP.l2d v10) (FP.l2d v7)))]))
      refine own_st (fun _ k => XS.dcmpS X21.here hx rfl (hb hby at_124) rfl (v := (-1 : Int32)) (own_clt _ hVa hV1 a2_) k) ?_
      show own_Go p.tables e below RR (T21.setTop (mkF m 125 #[.val (.long p1), .second, .val (.long p2), .second, .val (.long p3), .second, .val (.long p4), .second, .val (.int (0 : Int32)), .val (.long v7), .second, .val (.long v8), .second, .val (.long v9), .second, .val (.long v10), .second, .val (.double (FP.ddiv (FP.l2d v10) (FP.l2d v7))), .second, .val (.double (FP.l2d v8)), .second, .unset, .unset, .unset, .unset] [(.int (-1 : Int32))]))
      refine own_st (fun _ k => XS.ifYes X21.here hx rfl (pc0 := 125) (pc' := 130) rfl (hb hby at_125) rfl ((if0 _ _).trans (tlt (by decide)).1) (by decide) (by decide) (XS.lload X21.here hx rfl (hb hby at_130) rfl (XS.lconst X21.here hx rfl (hb hby at_132) (XS.lcmp X21.here hx rfl (hb hby at_133) rfl k)))) ?_
      show own_Go p.tables e below RR (T21.setTop (mkF m 134 #[.val (.long p1), .second, .val (.long p2), .second, .val (.long p3), .second, .val (.long p4), .second, .val (.int (0 : Int32)), .val (.long v7), .second, .val (.long v8), .second, .val (.long v9), .second, .val (.long v10), .second, .val (.double (FP.ddiv (FP.l2d v10) (FP.l2d v7))), .second, .val (.double (FP.l2d v8)), .second, .unset, .unset, .unset, .unset] [(.int (lcmpW v9 (0 : Int64)))]))
      refine own_st (fun _ k => XS.ifYes X21.here hx rfl (pc0 := 134) (pc' := 151) rfl (hb hby at_134) rfl ((if0 _ _).trans (feq (fun q => hc89_11 ((lw_eq _ _).mp q))).2) (by decide) (by decide) (X21.ldc2Long hx hown (mvT hZ (hw _ (List.mem_of_getElem? (i := 27) rfl))) (g := (mkF m 151 #[.val (.long p1), .second, .val (.long p2), .second, .val (.long p3), .second, .val (.long p4), .second, .val (.int (0 : Int32)), .val (.long v7), .second, .val (.long v8), .second, .val (.long v9), .second, .val (.long v10), .second, .val (.double (FP.ddiv (FP.l2d v10) (FP.l2d v7))), .second, .val (.double (FP.l2d v8)), .second, .unset, .unset, .unset, .unset] [])) rfl (hb hby at_151) _ (XS.lload X21.here hx rfl (hb hby at_154) rfl (XS.lmul X21.here hx rfl (hb hby at_156) rfl (XS.lstore X21.here hx rfl (hb hby at_157) rfl (l' := #[.val (.long p1), .second, .val (.long p2), .second, .val (.long p3), .second, .val (.long p4), .second, .val (.int (0 : Int32)), .val (.long v7), .second, .val (.long v8), .second, .val (.long v9), .second, .val (.long v10), .second, .val (.double (FP.ddiv (FP.l2d v10) (FP.l2d v7))), .second, .val (.double (FP.l2d v8)), .second, .val (.long ((2 : Int64) * v9)), .second, .unset, .unset]) rfl k))))) ?_
      show own_Go p.tables e below RR (T21.setTop (mkF m 159 #[.val (.long p1), .second, .val (.long p2), .second, .val (.long p3), .second, .val (.long p4), .second, .val (.int (0 : Int32)), .val (.long v7), .second, .val (.long v8), .second, .val (.long v9), .second, .val (.long v10), .second, .val (.double (FP.ddiv (FP.l2d v10) (FP.l2d v7))), .second, .val (.double (FP.l2d v8)), .second, .val (.long ((2 : Int64) * v9)), .second, .unset, .unset] []))
      refine own_st (fun _ k => XS.dload X21.here hx rfl (hb hby at_159) rfl k) ?_
      show own_Go p.tables e below RR (T21.setTop (mkF m 161 #[.val (.long p1), .second, .val (.long p2), .second, .val (.long p3), .second, .val (.long p4), .second, .val (.int (0 : Int32)), .val (.long v7), .second, .val (.long v8), .second, .val (.long v9), .second, .val (.long v10), .second, .val (.double (FP.ddiv (FP.l2d v10) (FP.l2d v7))), .second, .val (.double (FP.l2d v8)), .second, .val (.long ((2 : Int64) * v9)), .second, .unset, .unset] [(.double (FP.l2d v8))]))
      refine own_st (fun _ k => X21.ldc2DoubleC hx hown (mvT hZ (hw _ (List.mem_of_getElem? (i := 28) rfl))) (g := (mkF m 161 #[.val (.long p1), .second, .val (.long p2), .second, .val (.long p3), .second, .val (.long p4), .second, .val (.int (0 : Int32)), .val (.long v7), .second, .val (.long v8), .second, .val (.long v9), .second, .val (.long v10), .second, .val (.double (FP.ddiv (FP.l2d v10) (FP.l2d v7))), .second, .val (.double (FP.l2d v8)), .second, .val (.long ((2 : Int64) * v9)), .second, .unset, .unset] [(.double (FP.l2d v8))])) rfl (hb hby at_161) _ k) ?_
      show own_Go p.tables e below RR (T21.setTop (mkF m 164 #[.val (.long p1), .second, .val (.long p2), .second, .val (.long p3), .second, .val (.long p4), .second, .val (.int (0 : Int32)), .val (.long v7), .second, .val (.long v8), .second, .val (.long v9), .second, .val (.long v10), .second, .val (.double (FP.ddiv (FP.l2d v10) (FP.l2d v7))), .second, .val (.double (FP.l2d v8)), .second, .val (.long ((2 : Int64) * v9)), .second, .unset, .unset] [(.double (4602678819172646912 : UInt64)), (.double (FP.l2d v8))]))
      refine own_st (fun _ k => XS.daddS X21.here hx rfl (hb hby at_164) rfl (own_nn hVh) rfl k) ?_
      show own_Go p.tables e below RR (T21.setTop (mkF m 165 #[.val (.long p1), .second, .val (.long p2), .second, .val (.long p3), .second, .val (.long p4), .second, .val (.int (0 : Int32)), .val (.long v7), .second, .val (.long v8), .second, .val (.long v9), .second, .val (.long v10), .second, .val (.double (FP.ddiv (FP.l2d v10) (FP.l2d v7))), .second, .val (.double (FP.l2d v8)), .second, .val (.long ((2 : Int64) * v9)), .second, .unset, .unset] [(.double (FP.dadd (FP.l2d v8) (4602678819172646912 : UInt64)))]))
      refine own_st (fun _ k => XS.dstore X21.here hx rfl (hb hby at_165) rfl (l' := #[.val (.long p1), .second, .val (.long p2), .second, .val (.long p3), .second, .val (.long p4), .second, .val (.int (0 : Int32)), .val (.long v7), .second, .val (.long v8), .second, .val (.long v9), .second, .val (.long v10), .second, .val (.double (FP.ddiv (FP.l2d v10) (FP.l2d v7))), .second, .val (.double (FP.l2d v8)), .second, .val (.long ((2 : Int64) * v9)), .second, .val (.double (FP.dadd (FP.l2d v8) (4602678819172646912 : UInt64))), .second]) rfl (XS.lload X21.here hx rfl (hb hby at_167) rfl (XS.lload X21.here hx rfl (hb hby at_169) rfl (XS.lcmp X21.here hx rfl (hb hby at_171) rfl k)))) ?_
      show own_Go p.tables e below RR (T21.setTop (mkF m 172 #[.val (.long p1), .second, .val (.long p2), .second, .val (.long p3), .second, .val (.long p4), .second, .val (.int (0 : Int32)), .val (.long v7), .second, .val (.long v8), .second, .val (.long v9), .second, .val (.long v10), .second, .val (.double (FP.ddiv (FP.l2d v10) (FP.l2d v7))), .second, .val (.double (FP.l2d v8)), .second, .val (.long ((2 : Int64) * v9)), .second, .val (.double (FP.dadd (FP.l2d v8) (4602678819172646912 : UInt64))), .second] [(.int (lcmpW ((2 : Int64) * v9) v7))]))
      by_cases hc172_22 : ((2 : Int64) * v9) < v7
      · refine own_st (fun _ k => XS.ifNo X21.here hx rfl (hb hby at_172) rfl ((if0 _ _).trans (tlt ((lw_lt _ _).mpr hc172_22)).2.1) k) ?_
        show own_Go p.tables e below RR (T21.setTop (mkF m 175 #[.val (.long p1), .second, .val (.long p2), .second, .val (.long p3), .second, .val (.long p4), .second, .val (.int (0 : Int32)), .val (.long v7), .second, .val (.long v8), .second, .val (.long v9), .second, .val (.long v10), .second, .val (.double (FP.ddiv (FP.l2d v10) (FP.l2d v7))), .second, .val (.double (FP.l2d v8)), .second, .val (.long ((2 : Int64) * v9)), .second, .val (.double (FP.dadd (FP.l2d v8) (4602678819172646912 : UInt64))), .second] []))
        refine own_st (fun _ k => XS.dload X21.here hx rfl (hb hby at_175) rfl k) ?_
        show own_Go p.tables e below RR (T21.setTop (mkF m 177 #[.val (.long p1), .second, .val (.long p2), .second, .val (.long p3), .second, .val (.long p4), .second, .val (.int (0 : Int32)), .val (.long v7), .second, .val (.long v8), .second, .val (.long v9), .second, .val (.long v10), .second, .val (.double (FP.ddiv (FP.l2d v10) (FP.l2d v7))), .second, .val (.double (FP.l2d v8)), .second, .val (.long ((2 : Int64) * v9)), .second, .val (.double (FP.dadd (FP.l2d v8) (4602678819172646912 : UInt64))), .second] [(.double (FP.ddiv (FP.l2d v10) (FP.l2d v7)))]))
        refine own_st (fun _ k => XS.dload X21.here hx rfl (hb hby at_177) rfl k) ?_
        show own_Go p.tables e below RR (T21.setTop (mkF m 179 #[.val (.long p1), .second, .val (.long p2), .second, .val (.long p3), .second, .val (.long p4), .second, .val (.int (0 : Int32)), .val (.long v7), .second, .val (.long v8), .second, .val (.long v9), .second, .val (.long v10), .second, .val (.double (FP.ddiv (FP.l2d v10) (FP.l2d v7))), .second, .val (.double (FP.l2d v8)), .second, .val (.long ((2 : Int64) * v9)), .second, .val (.double (FP.dadd (FP.l2d v8) (4602678819172646912 : UInt64))), .second] [(.double (FP.dadd (FP.l2d v8) (4602678819172646912 : UInt64))), (.double (FP.ddiv (FP.l2d v10) (FP.l2d v7)))]))
        refine own_st (fun _ k => XS.dcmpS X21.here hx rfl (hb hby at_179) rfl (v := (-1 : Int32)) (own_clt _ hVa hVh (a3_ (own_2l hR hc172_22))) k) ?_
        show own_Go p.tables e below RR (T21.setTop (mkF m 180 #[.val (.long p1), .second, .val (.long p2), .second, .val (.long p3), .second, .val (.long p4), .second, .val (.int (0 : Int32)), .val (.long v7), .second, .val (.long v8), .second, .val (.long v9), .second, .val (.long v10), .second, .val (.double (FP.ddiv (FP.l2d v10) (FP.l2d v7))), .second, .val (.double (FP.l2d v8)), .second, .val (.long ((2 : Int64) * v9)), .second, .val (.double (FP.dadd (FP.l2d v8) (4602678819172646912 : UInt64))), .second] [(.int (-1 : Int32))]))
        refine own_st (fun _ k => XS.ifNo X21.here hx rfl (hb hby at_180) rfl ((if0 _ _).trans (tlt (by decide)).2.1) (XS.iconst X21.here hx rfl (hb hby at_183) (XS.goto X21.here hx rfl (pc0 := 184) (pc' := 188) rfl (hb hby at_184) (by decide) (by decide) k))) ?_
        show own_Go p.tables e below RR (T21.setTop (mkF m 188 #[.val (.long p1), .second, .val (.long p2), .second, .val (.long p3), .second, .val (.long p4), .second, .val (.int (0 : Int32)), .val (.long v7), .second, .val (.long v8), .second, .val (.long v9), .second, .val (.long v10), .second, .val (.double (FP.ddiv (FP.l2d v10) (FP.l2d v7))), .second, .val (.double (FP.l2d v8)), .second, .val (.long ((2 : Int64) * v9)), .second, .val (.double (FP.dadd (FP.l2d v8) (4602678819172646912 : UInt64))), .second] [(.int (1 : Int32))]))
        obtain ⟨fs, hrt_, hrun, hended, hW, hsame⟩ := X21.leave (v := some (.int (1 : Int32))) (fun h => by rw [Bd.returns] at h; cases h)
        refine own_fin (retN X21 hx (t := .boolean) Bd.returns (by simp) (hb hby at_188) hrt_) (hRR _ ⟨_, hrun, hended, _, _, rfl, ?_, ⟨_, rfl⟩, hW, hsame.mono (by decide) (by decide)⟩)
        show own_Q0 Z p1 p2 p3 p4 h0 n0 _ T21.heap _
        rw [eq21]
        exact ⟨rfl, N21⟩
      · refine own_st (fun _ k => XS.ifYes X21.here hx rfl (pc0 := 172) (pc' := 189) rfl (hb hby at_172) rfl ((if0 _ _).trans (flt (fun q => hc172_22 ((lw_lt _ _).mp q))).2.1) (by decide) (by decide) (XS.lload X21.here hx rfl (hb hby at_189) rfl (XS.lload X21.here hx rfl (hb hby at_191) rfl (XS.lcmp X21.here hx rfl (hb hby at_193) rfl k)))) ?_
        show own_Go p.tables e below RR (T21.setTop (mkF m 194 #[.val (.long p1), .second, .val (.long p2), .second, .val (.long p3), .second, .val (.long p4), .second, .val (.int (0 : Int32)), .val (.long v7), .second, .val (.long v8), .second, .val (.long v9), .second, .val (.long v10), .second, .val (.double (FP.ddiv (FP.l2d v10) (FP.l2d v7))), .second, .val (.double (FP.l2d v8)), .second, .val (.long ((2 : Int64) * v9)), .second, .val (.double (FP.dadd (FP.l2d v8) (4602678819172646912 : UInt64))), .second] [(.int (lcmpW ((2 : Int64) * v9) v7))]))
        by_cases hc194_23 : v7 < ((2 : Int64) * v9)
        · refine own_st (fun _ k => XS.ifNo X21.here hx rfl (hb hby at_194) rfl ((if0 _ _).trans (tlt ((lw_gt _ _).mpr hc194_23)).2.2.2) k) ?_
          show own_Go p.tables e below RR (T21.setTop (mkF m 197 #[.val (.long p1), .second, .val (.long p2), .second, .val (.long p3), .second, .val (.long p4), .second, .val (.int (0 : Int32)), .val (.long v7), .second, .val (.long v8), .second, .val (.long v9), .second, .val (.long v10), .second, .val (.double (FP.ddiv (FP.l2d v10) (FP.l2d v7))), .second, .val (.double (FP.l2d v8)), .second, .val (.long ((2 : Int64) * v9)), .second, .val (.double (FP.dadd (FP.l2d v8) (4602678819172646912 : UInt64))), .second] []))
          refine own_st (fun _ k => XS.dload X21.here hx rfl (hb hby at_197) rfl k) ?_
          show own_Go p.tables e below RR (T21.setTop (mkF m 199 #[.val (.long p1), .second, .val (.long p2), .second, .val (.long p3), .second, .val (.long p4), .second, .val (.int (0 : Int32)), .val (.long v7), .second, .val (.long v8), .second, .val (.long v9), .second, .val (.long v10), .second, .val (.double (FP.ddiv (FP.l2d v10) (FP.l2d v7))), .second, .val (.double (FP.l2d v8)), .second, .val (.long ((2 : Int64) * v9)), .second, .val (.double (FP.dadd (FP.l2d v8) (4602678819172646912 : UInt64))), .second] [(.double (FP.ddiv (FP.l2d v10) (FP.l2d v7)))]))
          refine own_st (fun _ k => XS.dload X21.here hx rfl (hb hby at_199) rfl k) ?_
          show own_Go p.tables e below RR (T21.setTop (mkF m 201 #[.val (.long p1), .second, .val (.long p2), .second, .val (.long p3), .second, .val (.long p4), .second, .val (.int (0 : Int32)), .val (.long v7), .second, .val (.long v8), .second, .val (.long v9), .second, .val (.long v10), .second, .val (.double (FP.ddiv (FP.l2d v10) (FP.l2d v7))), .second, .val (.double (FP.l2d v8)), .second, .val (.long ((2 : Int64) * v9)), .second, .val (.double (FP.dadd (FP.l2d v8) (4602678819172646912 : UInt64))), .second] [(.double (FP.dadd (FP.l2d v8) (4602678819172646912 : UInt64))), (.double (FP.ddiv (FP.l2d v10) (FP.l2d v7)))]))
          refine own_st (fun _ k => XS.dcmpS X21.here hx rfl (hb hby at_201) rfl (v := (1 : Int32)) (own_cgt _ hVa hVh (a4_ (own_2g hR hc194_23))) k) ?_
          show own_Go p.tables e below RR (T21.setTop (mkF m 202 #[.val (.long p1), .second, .val (.long p2), .second, .val (.long p3), .second, .val (.long p4), .second, .val (.int (0 : Int32)), .val (.long v7), .second, .val (.long v8), .second, .val (.long v9), .second, .val (.long v10), .second, .val (.double (FP.ddiv (FP.l2d v10) (FP.l2d v7))), .second, .val (.double (FP.l2d v8)), .second, .val (.long ((2 : Int64) * v9)), .second, .val (.double (FP.dadd (FP.l2d v8) (4602678819172646912 : UInt64))), .second] [(.int (1 : Int32))]))
          refine own_st (fun _ k => XS.ifNo X21.here hx rfl (hb hby at_202) rfl ((if0 _ _).trans (tlt (by decide)).2.2.2) (XS.iconst X21.here hx rfl (hb hby at_205) (XS.goto X21.here hx rfl (pc0 := 206) (pc' := 210) rfl (hb hby at_206) (by decide) (by decide) k))) ?_
          show own_Go p.tables e below RR (T21.setTop (mkF m 210 #[.val (.long p1), .second, .val (.long p2), .second, .val (.long p3), .second, .val (.long p4), .second, .val (.int (0 : Int32)), .val (.long v7), .second, .val (.long v8), .second, .val (.long v9), .second, .val (.long v10), .second, .val (.double (FP.ddiv (FP.l2d v10) (FP.l2d v7))), .second, .val (.double (FP.l2d v8)), .second, .val (.long ((2 : Int64) * v9)), .second, .val (.double (FP.dadd (FP.l2d v8) (4602678819172646912 : UInt64))), .second] [(.int (1 : Int32))]))
          obtain ⟨fs, hrt_, hrun, hended, hW, hsame⟩ := X21.leave (v := some (.int (1 : Int32))) (fun h => by rw [Bd.returns] at h; cases h)
          refine own_fin (retN X21 hx (t := .boolean) Bd.returns (by simp) (hb hby at_210) hrt_) (hRR _ ⟨_, hrun, hended, _, _, rfl, ?_, ⟨_, rfl⟩, hW, hsame.mono (by decide) (by decide)⟩)
          show own_Q0 Z p1 p2 p3 p4 h0 n0 _ T21.heap _
          rw [eq21]
          exact ⟨rfl, N21⟩
        · refine own_st (fun _ k => XS.ifYes X21.here hx rfl (pc0 := 194) (pc' := 211) rfl (hb hby at_194) rfl ((if0 _ _).trans (flt (fun q => hc194_23 ((lw_gt _ _).mp q))).2.2.2) (by decide) (by decide) k) ?_
          show own_Go p.tables e below RR (T21.setTop (mkF m 211 #[.val (.long p1), .second, .val (.long p2), .second, .val (.long p3), .second, .val (.long p4), .second, .val (.int (0 : Int32)), .val (.long v7), .second, .val (.long v8), .second, .val (.long v9), .second, .val (.long v10), .second, .val (.double (FP.ddiv (FP.l2d v10) (FP.l2d v7))), .second, .val (.double (FP.l2d v8)), .second, .val (.long ((2 : Int64) * v9)), .second, .val (.double (FP.dadd (FP.l2d v8) (4602678819172646912 : UInt64))), .second] []))
          refine own_st (fun _ k => XS.dload X21.here hx rfl (hb hby at_211) rfl k) ?_
          show own_Go p.tables e below RR (T21.setTop (mkF m 213 #[.val (.long p1), .second, .val (.long p2), .second, .val (.long p3), .second, .val (.long p4), .second, .val (.int (0 : Int32)), .val (.long v7), .second, .val (.long v8), .second, .val (.long v9), .second, .val (.long v10), .second, .val (.double (FP.ddiv (FP.l2d v10) (FP.l2d v7))), .second, .val (.double (FP.l2d v8)), .second, .val (.long ((2 : Int64) * v9)), .second, .val (.double (FP.dadd (FP.l2d v8) (4602678819172646912 : UInt64))), .second] [(.double (FP.ddiv (FP.l2d v10) (FP.l2d v7)))]))
          refine own_st (fun _ k => XS.dload X21.here hx rfl (hb hby at_213) rfl k) ?_
          show own_Go p.tables e below RR (T21.setTop (mkF m 215 #[.val (.long p1), .second, .val (.long p2), .second, .val (.long p3), .second, .val (.long p4), .second, .val (.int (0 : Int32)), .val (.long v7), .second, .val (.long v8), .second, .val (.long v9), .second, .val (.long v10), .second, .val (.double (FP.ddiv (FP.l2d v10) (FP.l2d v7))), .second, .val (.double (FP.l2d v8)), .second, .val (.long ((2 : Int64) * v9)), .second, .val (.double (FP.dadd (FP.l2d v8) (4602678819172646912 : UInt64))), .second] [(.double (FP.dadd (FP.l2d v8) (4602678819172646912 : UInt64))), (.double (FP.ddiv (FP.l2d v10) (FP.l2d v7)))]))
          refine own_st (fun _ k => XS.dcmpS X21.here hx rfl (hb hby at_215) rfl (v := (0 : Int32)) (own_ceq _ hVa hVh (a5_ (own_2e hR hc172_22 hc194_23))) k) ?_
          show own_Go p.tables e below RR (T21.setTop (mkF m 216 #[.val (.long p1), .second, .val (.long p2), .second, .val (.long p3), .second, .val (.long p4), .second, .val (.int (0 : Int32)), .val (.long v7), .second, .val (.long v8), .second, .val (.long v9), .second, .val (.long v10), .second, .val (.double (FP.ddiv (FP.l2d v10) (FP.l2d v7))), .second, .val (.double (FP.l2d v8)), .second, .val (.long ((2 : Int64) * v9)), .second, .val (.double (FP.dadd (FP.l2d v8) (4602678819172646912 : UInt64))), .second] [(.int (0 : Int32))]))
          refine own_st (fun _ k => XS.ifNo X21.here hx rfl (hb hby at_216) rfl ((if0 _ _).trans (teq (by decide)).2) (XS.iconst X21.here hx rfl (hb hby at_219) (XS.goto X21.here hx rfl (pc0 := 220) (pc' := 224) rfl (hb hby at_220) (by decide) (by decide) k))) ?_
          show own_Go p.tables e below RR (T21.setTop (mkF m 224 #[.val (.long p1), .second, .val (.long p2), .second, .val (.long p3), .second, .val (.long p4), .second, .val (.int (0 : Int32)), .val (.long v7), .second, .val (.long v8), .second, .val (.long v9), .second, .val (.long v10), .second, .val (.double (FP.ddiv (FP.l2d v10) (FP.l2d v7))), .second, .val (.double (FP.l2d v8)), .second, .val (.long ((2 : Int64) * v9)), .second, .val (.double (FP.dadd (FP.l2d v8) (4602678819172646912 : UInt64))), .second] [(.int (1 : Int32))]))
          obtain ⟨fs, hrt_, hrun, hended, hW, hsame⟩ := X21.leave (v := some (.int (1 : Int32))) (fun h => by rw [Bd.returns] at h; cases h)
          refine own_fin (retN X21 hx (t := .boolean) Bd.returns (by simp) (hb hby at_224) hrt_) (hRR _ ⟨_, hrun, hended, _, _, rfl, ?_, ⟨_, rfl⟩, hW, hsame.mono (by decide) (by decide)⟩)
          show own_Q0 Z p1 p2 p3 p4 h0 n0 _ T21.heap _
          rw [eq21]
          exact ⟨rfl, N21⟩
set_option maxRecDepth 65536 in
set_option maxHeartbeats 40000000 in
theorem own_comes {Post : Tables → Env → Array Value → State → Outcome → State → Prop} (hpost : ∀ tb e args s v u, (limb_1_1.after args s (.returned v) u = true ∧ limb_1_2.after args s (.returned v) u = true ∧ True) → FrameEnd s (.returned v) u (Jvm.fieldLocs frame_1_writes args s ++ Jvm.arrayLocs frame_1_arrays args s ++ Jvm.staticLocs frame_1_statics s) 16 128 → Post tb e args s (.returned v) u) :
    ArmFor flags0 classFile x code maxLocals ret World_1 tables_1 room_1 Calls_1 rest_1 Pre_1 Post := by
  intro l hfl _ _ p e ha hc hk s m args below hf hA hF happ hP
  obtain ⟨hcalls, hrest, hpre⟩ := hP
  obtain ⟨-, -, -, hnamed, -, -, -, hat⟩ := (Spec.applies_iff hf).mp happ
  obtain ⟨hg, hn⟩ := and_e (Cond.before_iff.mp (show (Jvm.Cond.and given_1 narrow_1).before args s = true from hpre))
  obtain ⟨u1a, u1b⟩ := and_e hg
  obtain ⟨u2a, u2b⟩ := and_e u1b
  obtain ⟨u3a, u3b⟩ := and_e u2b
  obtain ⟨u4a, u4b⟩ := and_e u3b
  obtain ⟨w0, w1, w2, w3, rfl⟩ : ∃ w0 w1 w2 w3 : Value, args = #[w0, w1, w2, w3] := by
    have hs : args.size = 4 := by simpa [Cond.value, given_1] using u1a
    obtain ⟨L⟩ := args
    match L, hs with
    | [w0, w1, w2, w3], _ => exact ⟨w0, w1, w2, w3, rfl⟩
  have hw := fun d (hd : d ∈ tables_1) => atoms_spec (ws := Jvm.Cond.code x code maxLocals ret :: tables_1) hat d (List.mem_cons_of_mem _ hd)
  have hfit : Fit s := fun {y c} hc i hi => by
    obtain ⟨ha, rfl⟩ := Array.getElem?_eq_some_iff.mp hc
    have q := List.all_eq_true.mp ((Array.all_eq_true_iff_forall_mem.mp hF) _ (Array.getElem_mem ha)) i (List.mem_range.mpr hi)
    simpa [Array.getElem?_eq_getElem hi] using q
  obtain ⟨i0, ei0⟩ := isL_v u2a
  obtain rfl : w0 = (.long i0) := Option.some.inj ei0
  obtain ⟨i1, ei1⟩ := isL_v u3a
  obtain rfl : w1 = (.long i1) := Option.some.inj ei1
  obtain ⟨i2, ei2⟩ := isL_v u4a
  obtain rfl : w2 = (.long i2) := Option.some.inj ei2
  obtain ⟨i3, ei3⟩ := isL_v u4b
  obtain rfl : w3 = (.long i3) := Option.some.inj ei3
  obtain ⟨n, o, h1, h2, h3, _, L, rfl, ⟨rfl, N⟩, hq⟩ := own_rm0 l s _ hw tables_1 i0 i1 i2 i3 s.heap s.heap.size (Nat.le_refl _)  p e ha hc hk s m _ below hf ((Spec.applies_iff_loose hf).mp happ).1 ⟨rfl, State.Warmed39.refl s, rfl⟩ trivial
  refine ⟨n, _, h1, h2, h3, hpost _ _ _ _ _ _ ⟨Cond.after_iff.mpr rfl, Cond.after_iff.mpr (eq_i res_at (Term.int_eval (1)) rfl), trivial⟩ ⟨hq.1, hq.2.1, (hq.2.2.sift fun y hy => Or.inr (N y hy)).mono (by decide) (by decide)⟩⟩
theorem main_1_1 : Claimed_1_1 := own_comes fun _ _ _ _ _ _ h hF => ⟨h.1, hF⟩
theorem main_1_2 : Claimed_1_2 := own_comes fun _ _ _ _ _ _ h hF => ⟨h.2.1, hF⟩
end Jvm.Pilot.@@N@@
namespace Jvm.Pilot.@@N@@
open Jvm Jvm.ClassFile Sem Op Lib Jvm.Free Jvm.Stand Jvm.Pilot.@@N@@.Jvm.D
/-! MADE BY PROGRAM (witnessworld.py) out of the Statement's table words and the real class files: 10 classes; the members and pool entries that the words name. The judged class is class 1, her method 1. -/
namespace start1
open Jvm.ClassFile
def u (s : String) : CpInfo := .utf8 (stringToUtf16 s)
/-- a pool by its gaps: so many unusable entries, then the entry; so many at the end -/
def gap : Nat → List CpInfo → List CpInfo
  | 0, r => r
  | n + 1, r => .unusable :: gap n r
def poolList (es : List (Nat × CpInfo)) (last : Nat) : List CpInfo := es.foldr (fun e r => gap e.1 (e.2 :: r)) (gap last [])
def pool (es : List (Nat × CpInfo)) (last : Nat) : Array CpInfo := ⟨poolList es last⟩
def fileOf (pool : Array CpInfo) (this : Nat) (attrs : Array Attribute := #[]) (ms : Array MethodInfo := #[]) (fl : Nat := 33) (sup : Nat := 0) (ifs : Array Nat := #[]) (fds : Array FieldInfo := #[]) : ClassFile where
  minorVersion := 0
  majorVersion := 65
  constantPool := pool
  accessFlags := fl
  thisClass := this
  superClass := sup
  interfaces := ifs
  fields := fds
  methods := ms
  attributes := attrs
def plain (name : String) (sup : Option ClassId) : Class where
  name := name
  kind := .ordinary
  loader := none
  accessFlags := 33
  super := sup
  interfaces := #[]
  cf := none
  fields := #[]
  methods := #[]
  instanceTypes := #[]
  staticTypes := #[]
  resolved := #[]
  callSites := []
  init := .initialized
  statics := none
  mirror := none

def pool0 : Array CpInfo := pool [(5, u "<init>"), (0, u "()V"), (1, .class_ 10), (1, u "java/lang/Object")] 113

def k0c0 : Code := { maxStack := 0, maxLocals := 1, code := object_method_1_code, exceptionTable := #[], attributes := #[] }
def k0m0 : Method := { name := "<init>", desc := "()V", sig := { parameters := [], returnType := none }, accessFlags := 1, code := some k0c0 }
/-- java/lang/Object -/
def k0 : Class := { plain "java/lang/Object" none with
  accessFlags := 33
  interfaces := #[]
  cf := some (fileOf pool0 8 #[] #[{ accessFlags := 1, nameIndex := 5, descriptorIndex := 6, attributes := #[] }] 33 0 #[] #[])
  fields := #[]
  methods := #[k0m0]
  instanceTypes := #[]
  staticTypes := #[]
  resolved := Array.replicate 124 none
  statics := none }

def pool1 : Array CpInfo := pool [(2, .class_ 4), (1, u "java/lang/Object"), (0, u "<init>"), (0, u "()V"), (0, .long 7), (1, .class_ 10), (0, u "com/example/candex/candex/index/FieldStatistics"), (0, .methodref 9 12), (0, .nameAndType 5 13), (0, u "(JJ)V"), (0, .methodref 9 15), (0, .nameAndType 16 17), (0, u "averageLength"), (0, u "()D"), (0, .long 1048575), (1, .long 2147483647), (3, .long 9223372036854775807), (1, .long 2), (1, .double 4602678819172646912), (1, .class_ 31), (0, u "com/example/candex/candex/index/FieldStatisticsAverageLengthPinLaw"), (2, u "law"), (0, u "(JJJJ)Z")] 3

def k1m0 : Method := { name := "<init>", desc := "()V", sig := { parameters := [], returnType := none }, accessFlags := 1, code := none }
def k1c1 : Code := { maxStack := 6, maxLocals := 25, code := code, exceptionTable := #[], attributes := #[] }
def k1m1 : Method := { name := "law", desc := "(JJJJ)Z", sig := { parameters := [.long, .long, .long, .long], returnType := some .boolean }, accessFlags := 9, code := some k1c1 }
/-- com/example/candex/candex/index/FieldStatisticsAverageLengthPinLaw -/
def k1 : Class := { plain "com/example/candex/candex/index/FieldStatisticsAverageLengthPinLaw" (some 0) with
  accessFlags := 49
  interfaces := #[]
  cf := some (fileOf pool1 30 #[] #[{ accessFlags := 1, nameIndex := 5, descriptorIndex := 6, attributes := #[] }, { accessFlags := 9, nameIndex := 34, descriptorIndex := 35, attributes := #[] }] 49 2 #[] #[])
  fields := #[]
  methods := #[k1m0, k1m1]
  instanceTypes := #[]
  staticTypes := #[]
  resolved := Array.replicate 39 none
  statics := none }

def pool2 : Array CpInfo := pool [(1, .methodref 2 3), (0, .class_ 4), (0, .nameAndType 5 6), (0, u "java/lang/Object"), (0, u "<init>"), (0, u "()V"), (0, .class_ 8), (0, u "java/lang/Record")] 13

def k2c0 : Code := { maxStack := 1, maxLocals := 1, code := jdk_30_method_1_code, exceptionTable := #[], attributes := #[] }
def k2m0 : Method := { name := "<init>", desc := "()V", sig := { parameters := [], returnType := none }, accessFlags := 4, code := some k2c0 }
/-- java/lang/Record -/
def k2 : Class := { plain "java/lang/Record" (some 0) with
  accessFlags := 1057
  interfaces := #[]
  cf := some (fileOf pool2 7 #[] #[{ accessFlags := 4, nameIndex := 5, descriptorIndex := 6, attributes := #[] }] 1057 2 #[] #[])
  fields := #[]
  methods := #[k2m0]
  instanceTypes := #[]
  staticTypes := #[]
  resolved := Array.replicate 22 none
  statics := none }

def pool3 : Array CpInfo := pool [(1, .methodref 2 3), (0, .class_ 4), (0, .nameAndType 5 6), (0, u "java/lang/Record"), (0, u "<init>"), (0, u "()V"), (0, .fieldref 8 9), (0, .class_ 10), (0, .nameAndType 11 12), (0, u "com/example/candex/candex/index/FieldStatistics"), (0, u "docCount"), (0, u "J"), (0, .fieldref 8 14), (0, .nameAndType 15 12), (0, u "totalLength"), (12, u "(JJ)V"), (3, u "averageLength"), (0, u "()D")] 26

def k3c0 : Code := { maxStack := 3, maxLocals := 5, code := prog_15_method_1_code, exceptionTable := #[], attributes := #[] }
def k3m0 : Method := { name := "<init>", desc := "(JJ)V", sig := { parameters := [.long, .long], returnType := none }, accessFlags := 1, code := some k3c0 }
def k3c1 : Code := { maxStack := 4, maxLocals := 1, code := prog_15_method_2_code, exceptionTable := #[], attributes := #[] }
def k3m1 : Method := { name := "averageLength", desc := "()D", sig := { parameters := [], returnType := some .double }, accessFlags := 1, code := some k3c1 }
/-- com/example/candex/candex/index/FieldStatistics -/
def k3 : Class := { plain "com/example/candex/candex/index/FieldStatistics" (some 2) with
  accessFlags := 49
  interfaces := #[]
  cf := some (fileOf pool3 8 #[] #[{ accessFlags := 1, nameIndex := 5, descriptorIndex := 28, attributes := #[] }, { accessFlags := 1, nameIndex := 32, descriptorIndex := 33, attributes := #[] }] 49 2 #[] #[{ accessFlags := 18, nameIndex := 11, descriptorIndex := 12, attributes := #[] }, { accessFlags := 18, nameIndex := 15, descriptorIndex := 12, attributes := #[] }])
  fields := #[{ name := "docCount", type := .long, accessFlags := 18, slot := 0, constantValue := 0 }, { name := "totalLength", type := .long, accessFlags := 18, slot := 1, constantValue := 0 }]
  methods := #[k3m0, k3m1]
  instanceTypes := #[.long, .long]
  staticTypes := #[]
  resolved := Array.replicate 60 none
  statics := none }

def pool4 : Array CpInfo := pool [(1, u "java/lang/Cloneable"), (0, .class_ 1), (0, u "java/lang/Object"), (0, .class_ 3)] 3

/-- java/lang/Cloneable -/
def k4 : Class := { plain "java/lang/Cloneable" (some 0) with
  accessFlags := 1537
  interfaces := #[]
  cf := some (fileOf pool4 2 #[] #[] 1537 4 #[] #[])
  fields := #[]
  methods := #[]
  instanceTypes := #[]
  staticTypes := #[]
  resolved := Array.replicate 8 none
  statics := none }

def pool5 : Array CpInfo := pool [(1, u "java/io/Serializable"), (0, .class_ 1), (0, u "java/lang/Object"), (0, .class_ 3)] 3

/-- java/io/Serializable -/
def k5 : Class := { plain "java/io/Serializable" (some 0) with
  accessFlags := 1537
  interfaces := #[]
  cf := some (fileOf pool5 2 #[] #[] 1537 4 #[] #[])
  fields := #[]
  methods := #[]
  instanceTypes := #[]
  staticTypes := #[]
  resolved := Array.replicate 8 none
  statics := none }

/-- the primitive byte -/
def k6 : Class := { plain "byte" none with kind := .primitive 'B', accessFlags := 0x411 }
/-- [B -/
def k7 : Class := { plain "[B" (some 0) with kind := .array 6 .byte, interfaces := #[4, 5], accessFlags := 1041 }

/-- the primitive int -/
def k8 : Class := { plain "int" none with kind := .primitive 'I', accessFlags := 0x411 }
/-- [I -/
def k9 : Class := { plain "[I" (some 0) with kind := .array 8 .int, interfaces := #[4, 5], accessFlags := 1041 }

def heap : Heap := #[]
def classes : Array Class := #[k0, k1, k2, k3, k4, k5, k6, k7, k8, k9]
def interned : List (Array UInt16 × Addr) := []
def slotsUsed : Nat := 0
def theMethod : MethodId := ⟨1, 1⟩
def args0 : Array Value := #[.long 9, .long 5, .long 7, .long 3]
def aboutOver (below : List Frame) : State where
  vm := { classes := classes, interned := interned.toArray }
  heap := heap
  slotsUsed := slotsUsed
  threads := #[{ frames := .invoking theMethod args0 :: below }]
def below0 : List Frame := [.native { method := ⟨0, 0⟩, args := #[] }]
def about1 : State := aboutOver below0
def p0 : Program := .bare "" "" ""
def e0 : Env := launch0.env 0 0 0
theorem w_frames : about1.frames = Frame.invoking theMethod args0 :: below0 := rfl
set_option maxRecDepth 65536 in
theorem w_args : argsFit about1.vm theMethod args0 = true := by decide +kernel
set_option maxRecDepth 65536 in
theorem w_heap : heapFits about1 = true := by decide +kernel
set_option maxRecDepth 65536 in
theorem w_runnable : about1.curStatus? = some .runnable := by decide +kernel
set_option maxRecDepth 65536 in
theorem w_alone : about1.alone = true := by decide +kernel
set_option maxRecDepth 65536 in
theorem w_named : about1.methodNamed? x = some theMethod := by decide +kernel
set_option maxRecDepth 65536 in
theorem w_hears : about1.hears theMethod below0 = true := by decide +kernel
set_option maxRecDepth 65536 in
theorem w_ripe : about1.ripe theMethod args0 below0 = true := by decide +kernel
theorem w_running : about1.status = .running := rfl
set_option maxRecDepth 65536 in
theorem w_room : about1.hasRoom e0.platform room_1 = true :=
  launch0.hasRoom_least _ room_1 (by decide +kernel) (by decide +kernel) (by decide +kernel) (by decide +kernel) (by decide +kernel) (by decide +kernel)
theorem allAtoms_all (ts : List Jvm.Cond) (a : Array Jvm.Value) (st : Jvm.State) : (allAtoms ts).before a st = ts.all (fun c => c.before a st) := by
  induction ts with
  | nil => rfl
  | cons c t ih =>
    show (Jvm.Cond.and c (allAtoms t)).before a st = _
    rw [Jvm.Cond.before_and, ih, List.all_cons]
def words1 : List Jvm.Cond := Jvm.Cond.code x code maxLocals ret :: tables_1
/-- a 'code' word, met by the world's own term for the bytes: nothing is compared byte by byte -/
theorem code_word {y : MethodName} {bytes : ByteArray} {mx : Nat} {rt : Option FieldType} {a : Array Value} {s : State} {m : MethodId} {meth : Method} {c : Code} (h1 : s.methodNamed? y = some m) (h2 : s.vm.method? m = some meth) (h3 : meth.code = some c) (h4 : c.code = bytes)
    (h5 : (c.maxLocals == mx && c.exceptionTable.isEmpty && decide (c.maxStack ≤ mostOperands) && decide (meth.sig.returnType = rt) && !meth.locks && decide (parseMethodDescriptor y.desc = some meth.sig)) = true) : (Jvm.Cond.code y bytes mx rt).before a s = true := by
  simp only [Bool.and_eq_true, beq_iff_eq, Bool.not_eq_true', decide_eq_true_eq] at h5
  obtain ⟨⟨⟨⟨⟨g1, g2⟩, g3⟩, g4⟩, g5⟩, g6⟩ := h5
  simp [Cond.before, Cond.holds, Cond.value, h1, h2, h3, h4, g1, g2, g3, g4, g5, g6]
def isCode : Jvm.Cond → Bool
  | .code _ _ _ _ => true
  | _ => false
theorem all_split {L : List Jvm.Cond} {P : Jvm.Cond → Bool} (h1 : L.all (fun c => isCode c || P c) = true) (h2 : ∀ c ∈ L.filter isCode, P c = true) : L.all P = true := by
  refine List.all_eq_true.mpr fun c hc => ?_
  have h := List.all_eq_true.mp h1 c hc
  rcases Bool.eq_false_or_eq_true (isCode c) with hi | hi
  · exact h2 c (List.mem_filter.mpr ⟨hc, hi⟩)
  · simpa [hi] using h
set_option maxRecDepth 65536 in
theorem w_c0 : (Jvm.Cond.code x code maxLocals ret).before args0 about1 = true := code_word (m := ⟨1, 1⟩) (meth := k1m1) (c := k1c1) (by decide +kernel) rfl rfl rfl (by decide +kernel)
set_option maxRecDepth 65536 in
theorem w_c1 : (Jvm.Cond.code ({ cls := "com/example/candex/candex/index/FieldStatistics", name := "<init>", desc := "(JJ)V" } : Jvm.MethodName) prog_15_method_1_code (5 : Nat) (Option.none : Option Jvm.ClassFile.FieldType)).before args0 about1 = true := code_word (m := ⟨3, 0⟩) (meth := k3m0) (c := k3c0) (by decide +kernel) rfl rfl rfl (by decide +kernel)
set_option maxRecDepth 65536 in
theorem w_c2 : (Jvm.Cond.code ({ cls := "java/lang/Record", name := "<init>", desc := "()V" } : Jvm.MethodName) jdk_30_method_1_code (1 : Nat) (Option.none : Option Jvm.ClassFile.FieldType)).before args0 about1 = true := code_word (m := ⟨2, 0⟩) (meth := k2m0) (c := k2c0) (by decide +kernel) rfl rfl rfl (by decide +kernel)
set_option maxRecDepth 65536 in
theorem w_c3 : (Jvm.Cond.code ({ cls := "java/lang/Object", name := "<init>", desc := "()V" } : Jvm.MethodName) object_method_1_code (1 : Nat) (Option.none : Option Jvm.ClassFile.FieldType)).before args0 about1 = true := code_word (m := ⟨0, 0⟩) (meth := k0m0) (c := k0c0) (by decide +kernel) rfl rfl rfl (by decide +kernel)
set_option maxRecDepth 65536 in
theorem w_c4 : (Jvm.Cond.code ({ cls := "com/example/candex/candex/index/FieldStatistics", name := "averageLength", desc := "()D" } : Jvm.MethodName) prog_15_method_2_code (1 : Nat) (Option.some Jvm.ClassFile.FieldType.double)).before args0 about1 = true := code_word (m := ⟨3, 1⟩) (meth := k3m1) (c := k3c1) (by decide +kernel) rfl rfl rfl (by decide +kernel)
def codes1 : List Jvm.Cond := [Jvm.Cond.code x code maxLocals ret, Jvm.Cond.code ({ cls := "com/example/candex/candex/index/FieldStatistics", name := "<init>", desc := "(JJ)V" } : Jvm.MethodName) prog_15_method_1_code (5 : Nat) (Option.none : Option Jvm.ClassFile.FieldType), Jvm.Cond.code ({ cls := "java/lang/Record", name := "<init>", desc := "()V" } : Jvm.MethodName) jdk_30_method_1_code (1 : Nat) (Option.none : Option Jvm.ClassFile.FieldType), Jvm.Cond.code ({ cls := "java/lang/Object", name := "<init>", desc := "()V" } : Jvm.MethodName) object_method_1_code (1 : Nat) (Option.none : Option Jvm.ClassFile.FieldType), Jvm.Cond.code ({ cls := "com/example/candex/candex/index/FieldStatistics", name := "averageLength", desc := "()D" } : Jvm.MethodName) prog_15_method_2_code (1 : Nat) (Option.some Jvm.ClassFile.FieldType.double)]
set_option maxRecDepth 65536 in
theorem codes_eq : words1.filter isCode = codes1 := rfl
theorem w_codes : ∀ c ∈ words1.filter isCode, c.before args0 about1 = true := by
  rw [codes_eq]
  intro c hc
  simp only [codes1, List.mem_cons, List.not_mem_nil, or_false] at hc
  rcases hc with rfl | rfl | rfl | rfl | rfl
  · exact w_c0
  · exact w_c1
  · exact w_c2
  · exact w_c3
  · exact w_c4
set_option maxRecDepth 65536 in
theorem w_t1 : (words1.take 24).all (fun c => isCode c || c.before args0 about1) = true := by decide +kernel
set_option maxRecDepth 65536 in
theorem w_t2 : (words1.drop 24).all (fun c => isCode c || c.before args0 about1) = true := by decide +kernel
theorem w_tables : (allAtoms (Jvm.Cond.code x code maxLocals ret :: tables_1)).before args0 about1 = true := by
  rw [allAtoms_all]
  show words1.all (fun c => c.before args0 about1) = true
  refine all_split ?_ w_codes
  rw [← List.take_append_drop 24 words1, List.all_append, w_t1, w_t2]
  rfl
set_option maxRecDepth 65536 in
theorem w_case : (Jvm.Cond.and given_1 narrow_1).before args0 about1 = true := by decide +kernel
theorem w_applies : (headSpec (Jvm.Cond.code x code maxLocals ret :: tables_1) room_1).applies x e0.platform about1 = true :=
  (Spec.applies_iff w_frames).mpr ⟨w_running, w_runnable, w_alone, w_named, w_hears, w_ripe, w_room, w_tables⟩
theorem atStart : AtStart classFile x code maxLocals ret World_1 tables_1 room_1 Calls_1 rest_1 Pre_1 launch0 p0 e0 about1 theMethod args0 below0 :=
  ⟨lists_1, trivial, launch0.admits_env _ _ _, launch0.least_env, fairChoices_fair.cas, fairChoices_fair.clock, w_frames, w_args, w_heap, w_applies, trivial, trivial, w_case⟩
end start1
theorem witness_1 : WitnessClaimed_1 := ⟨start1.p0, start1.e0, start1.about1, start1.theMethod, start1.args0, start1.below0, start1.atStart⟩
end Jvm.Pilot.@@N@@
