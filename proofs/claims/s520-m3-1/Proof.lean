import JvmDerived
import JvmDerived.Pilot.@@N@@Statement
import JvmDerived.Pilot.@@N@@Code
set_option linter.unusedVariables false
set_option linter.unusedSimpArgs false
namespace Jvm.RoadKit
open Sem ClassFile Op Lib Jvm.Stand Jvm.Free Jvm.LawKit
section Own
/-- from u a state is reached where R holds -/
def own_Go (tb : Tables) (e : Env) (below : List Frame) (R : State → Prop) (u : State) : Prop := ∃ t, Steps tb e below u t ∧ R t
theorem own_st {tb : Tables} {e : Env} {below : List Frame} {R : State → Prop} {u v : State} (h : ∀ t, Steps tb e below v t → Steps tb e below u t) (g : own_Go tb e below R v) : own_Go tb e below R u := by
  obtain ⟨t, h1, h2⟩ := g
  exact ⟨t, h t h1, h2⟩
theorem own_fin {tb : Tables} {e : Env} {below : List Frame} {R : State → Prop} {u t : State} (h : Steps tb e below u t) (r : R t) : own_Go tb e below R u := ⟨t, h, r⟩
theorem own_in {tb : Tables} {e : Env} {below : List Frame} {u v : State} {P : State → Outcome → Prop} (h : ∀ t, Steps tb e below v t → Steps tb e below u t)
    (g : ∀ RR : State → Prop, (∀ t, (∃ o, t.status = .running ∧ P t o) → RR t) → own_Go tb e below RR v) : ∃ t o, Steps tb e below u t ∧ t.status = .running ∧ P t o := by
  obtain ⟨t, h1, o, h2, h3⟩ := g (fun t => ∃ o, t.status = .running ∧ P t o) fun _ q => q
  exact ⟨t, o, h t h1, h2, h3⟩
theorem own_ri {x y : Int32} (h : x = y) : some (Value.int x) = some (Value.int y) := h ▸ rfl
theorem own_rj {x y : Int64} (h : x = y) : some (Value.long x) = some (Value.long y) := h ▸ rfl
theorem own_rr {x y : Addr} (h : x = y) : some (Value.ref x) = some (Value.ref y) := h ▸ rfl
theorem own_eq_int {args : Array Value} {first s : State} {o : Option Outcome} {idx : List Nat} {a : Term} {k : Int32} (h : (Cond.eq a (.int k)).value args first o s idx = some true) : a.eval args first o idx s = some (.int k) := by
  simp only [Cond.value, Term.eval] at h
  cases ht : a.eval args first o idx s with
  | none => simp [ht] at h
  | some x => cases x <;> simp [ht] at h ⊢; exact h
theorem own_eq_long {args : Array Value} {first s : State} {o : Option Outcome} {idx : List Nat} {a : Term} {k : Int64} (h : (Cond.eq a (.long k)).value args first o s idx = some true) : a.eval args first o idx s = some (.long k) := by
  simp only [Cond.value, Term.eval] at h
  cases ht : a.eval args first o idx s with
  | none => simp [ht] at h
  | some x => cases x <;> simp [ht] at h ⊢; exact h
theorem own_staK {Z : State} {h h' : Heap} {C n d : String} {w : Value} {ws : List Addr} (F : Sta Z h C n d w) (K : Keep h h' ws) (q : ∀ x ∈ ws, ∀ cell : Cell, h[x]? = some cell → cell.vm.isStatics = false) : Sta Z h' C n d w := by
  obtain ⟨cf, i, k, f, st, cell, h1, h2, h3, h4, h5, h6, h7⟩ := F
  exact ⟨cf, i, k, f, st, cell, h1, h2, h3, h4, K.2.1 st cell h5 (fun m => by have := q st m cell h5; rw [h6] at this; cases this), h6, h7⟩
theorem own_selP {s : State} {args : Array Value} {y : MethodName} {n : Nat} (wi : (Cond.instantiable y.cls n).before args s = true) (hp : s.PrivateAt y) (hi : (Cond.instanceMethod y).before args s = true) (hy : y.cls ≠ "java/lang/invoke/MethodHandle" ∧ y.cls ≠ "java/lang/invoke/VarHandle") : (Cond.selects y.cls y y).before args s = true := by
  obtain ⟨c, k, h1, h2, -, h4, -⟩ := Cond.instantiable_spec wi
  exact selects_self_of_private h1 h2 (Bool.or_eq_false_iff.mp h4).1 hp hi hy
variable {p : Program} {l : Launch} {e : Env} {R : Room} {s : State} {m : MethodId} {args : Array Value} {below : List Frame} {meth : Method} {c : Code} {T : State} {locs : List Loc} {cells slots : Nat} {Z : State} {h : Heap}
theorem retI (X : Stand p l e R s m args below meth c T locs cells slots) (hx : p.tables.exec = Jvm.exec) {pc : Nat} {Ls : Array Slot} {z : Int32} {rest : List Value} (hret : meth.sig.returnType = some .int) (hd : decode c.code pc = .ok (.ireturn, 1)) {fs : List Frame}
    (hl : ∀ (f : JFrame) (acts : List Action), f.method = m → f.locked = none → f.entered = [] → (doReturn e (T.setTop f) acts (some (.int z))).1 = T.setFrames fs) : Steps p.tables e below (T.setTop (mkF m pc Ls (.int z :: rest))) (T.setFrames fs) :=
  retOut X hx hret rfl (Or.inl ⟨rfl, Or.inl rfl, z, rfl⟩) hd hl
theorem own_len (X : Stand p l e R s m args below meth c T locs cells slots) (hx : p.tables.exec = Jvm.exec) (hZ : Z.Warmed39 s.vm) (eT : T.heap = h) {a : Addr} {cl : Cell} {ty : FieldType} (A : Arr Z h a cl ty) {z : Int32} (S : cl.slots.size = z.toNatClampNeg) (N : ¬ z < 0)
    {g : JFrame} (hg : g.method = m) {rest : List Value} (hs : g.stack = .ref a :: rest) (hd : decode c.code g.pc = .ok (.arraylength, 1)) {target : State}
    (k : Steps p.tables e below (T.setTop { g with pc := g.pc + 1, stack := .int z :: rest }) target) : Steps p.tables e below (T.setTop g) target :=
  X.arraylength hx (by rw [eT]; exact A.1) (State.isArrayOf_alike hZ.alike A.2.1) hg hs hd target (by rw [len_of S N]; exact k)
end Own
end Jvm.RoadKit
namespace Jvm.Pilot.@@N@@
open Jvm Jvm.ClassFile Sem Op Lib Jvm.Free Jvm.Stand Jvm.LawKit Jvm.RoadKit Bundle Jvm.Pilot.@@N@@.Jvm.D
def own_fl (n i : Nat) (v d : Value) : List Value := List.replicate i v ++ List.replicate (n - i) d
theorem own_fl_len {n i : Nat} (h : i ≤ n) (v d : Value) : (own_fl n i v d).length = n := by
  simp only [own_fl, List.length_append, List.length_replicate]
  omega
theorem own_flS {n i : Nat} (h : i < n) (v d : Value) : (own_fl n i v d).set i v = own_fl n (i + 1) v d := by
  have e : n - i = (n - (i + 1)) + 1 := by omega
  have e1 : own_fl n i v d = List.replicate i v ++ d :: List.replicate (n - (i + 1)) d := by
    unfold own_fl
    rw [e]
    rfl
  have e2 : own_fl n (i + 1) v d = List.replicate i v ++ v :: List.replicate (n - (i + 1)) d := by
    unfold own_fl
    rw [List.replicate_succ' (n := i) (a := v), List.append_assoc]
    rfl
  rw [e1, e2, List.set_append_right i v (by rw [List.length_replicate]; exact Nat.le_refl i), List.length_replicate, Nat.sub_self]
  rfl
theorem own_flg {n j : Nat} (h : j < n) (v d d' : Value) : (own_fl n n v d).getD j d' = v := by
  rw [List.getD_eq_getElem?_getD]
  have : (own_fl n n v d)[j]? = some v := by
    unfold own_fl
    rw [List.getElem?_append_left (by rw [List.length_replicate]; exact h), List.getElem?_replicate, if_pos h]
  rw [this]
  rfl
theorem own_ls {L : List Value} {i n : Nat} {v : Value} (h : L.length = n) : (L.set i v).length = n := by
  rw [List.length_set]
  exact h
theorem own_hit {L : List Value} {i j n : Nat} {v d : Value} (hl : L.length = n) (hi : i < n) (h : j = i) : (L.set i v).getD j d = v := by
  subst h
  rw [List.getD_eq_getElem?_getD, List.getElem?_set_self (by rw [hl]; exact hi)]
  rfl
theorem own_miss {L : List Value} {i j : Nat} {v d w : Value} (h : j ≠ i) (r : L.getD j d = w) : (L.set i v).getD j d = w := by
  rw [List.getD_eq_getElem?_getD, List.getElem?_set_ne (Ne.symm h), ← List.getD_eq_getElem?_getD]
  exact r
theorem own_nn0 {x : Int32} (h : 0 ≤ x.toInt) : ¬ x < (0 : Int32) := by
  rw [Int32.lt_iff_toInt_lt]
  have : (0 : Int32).toInt = 0 := by decide
  omega
theorem own_ltv {x y : Int32} {n : Int} (hy : y.toInt = n) (h : x.toInt < n) : x < y := by
  rw [Int32.lt_iff_toInt_lt, hy]
  exact h
theorem own_nci {x : Int32} {i : Nat} (h : x.toInt = (i : Int)) : x.toNatClampNeg = i := by
  show x.toInt.toNat = i
  rw [h]
  rfl
theorem own_ncl {x : Int32} (h : 0 ≤ x.toInt ∧ x.toInt < 256) : x.toNatClampNeg < 256 := by
  show x.toInt.toNat < 256
  omega
theorem own_ncne {x y : Int32} (hx : 0 ≤ x.toInt) (hy : 0 ≤ y.toInt) (h : ¬ x = y) : x.toNatClampNeg ≠ y.toNatClampNeg := by
  intro q
  apply h
  apply Int32.toInt_inj.mp
  have q' : x.toInt.toNat = y.toInt.toNat := q
  omega
theorem own_hb {p : Int32} (h : 0 ≤ p.toInt ∧ p.toInt < 65536) : ((p.toUInt32 >>> ((8 : Int32) &&& 31).toUInt32).toInt32).toInt = p.toInt / 256 := by
  have h1 := c_iushr p 8 8 (by decide) (by decide)
  have e : ((2 ^ 8 : Nat) : Int) = 256 := by decide
  rw [e] at h1
  rw [h1, Int.emod_eq_of_lt h.1 (by omega)]
theorem own_lb (p : Int32) : (p &&& (255 : Int32)).toInt = p.toInt % 256 := by
  have h1 := c_mask p 255 8 (by decide) (by decide)
  have e : ((2 ^ 8 : Nat) : Int) = 256 := by decide
  rw [e] at h1
  exact h1
theorem own_hr {p : Int32} (h : 0 ≤ p.toInt ∧ p.toInt < 65536) : 0 ≤ ((p.toUInt32 >>> ((8 : Int32) &&& 31).toUInt32).toInt32).toInt ∧ ((p.toUInt32 >>> ((8 : Int32) &&& 31).toUInt32).toInt32).toInt < 256 := by
  rw [own_hb h]
  omega
theorem own_lr (p : Int32) : 0 ≤ (p &&& (255 : Int32)).toInt ∧ (p &&& (255 : Int32)).toInt < 256 := by
  rw [own_lb p]
  omega
theorem own_i256 {x : Int32} (h : 0 ≤ x.toInt ∧ x.toInt < 256) : ¬ x < (0 : Int32) ∧ x < (256 : Int32) := ⟨own_nn0 h.1, own_ltv (n := 256) (by decide) h.2⟩
/-- the high and the low half say which it is -/
theorem own_two {p c : Int32} (hp : 0 ≤ p.toInt ∧ p.toInt < 65536) (hc : 0 ≤ c.toInt ∧ c.toInt < 65536) (h1 : ((p.toUInt32 >>> ((8 : Int32) &&& 31).toUInt32).toInt32) = ((c.toUInt32 >>> ((8 : Int32) &&& 31).toUInt32).toInt32)) (h2 : p &&& (255 : Int32) = c &&& (255 : Int32)) : p = c := by
  apply Int32.toInt_inj.mp
  have a1 := own_hb hp
  have a2 := own_hb hc
  have a3 := own_lb p
  have a4 := own_lb c
  rw [h1, a2] at a1
  rw [h2, a4] at a3
  omega
theorem own_xorb {p q : Int32} (hp : 0 ≤ p.toInt ∧ p.toInt < 65536) (hq : 0 ≤ q.toInt ∧ q.toInt < 65536) : 0 ≤ (p ^^^ q).toInt ∧ (p ^^^ q).toInt < 65536 := by
  have nat : ∀ x : Int32, 0 ≤ x.toInt ∧ x.toInt < 65536 → x.toBitVec.toNat < 2 ^ 16 := by
    intro x h
    have h2 := x.toBitVec.isLt
    obtain ⟨a, b⟩ := h
    change 0 ≤ x.toBitVec.toInt at a
    change x.toBitVec.toInt < 65536 at b
    rw [BitVec.toInt_eq_toNat_cond] at a b
    by_cases k : 2 * x.toBitVec.toNat < 2 ^ 32
    · rw [if_pos k] at a b
      omega
    · rw [if_neg k] at a b
      omega
  have n3 : (p ^^^ q).toBitVec.toNat < 2 ^ 16 := by
    show (p.toBitVec ^^^ q.toBitVec).toNat < _
    rw [BitVec.toNat_xor]
    exact Nat.xor_lt_two_pow (nat p hp) (nat q hq)
  show 0 ≤ (p ^^^ q).toBitVec.toInt ∧ (p ^^^ q).toBitVec.toInt < 65536
  rw [BitVec.toInt_eq_toNat_cond, if_pos (by omega)]
  omega
def own_I (Z : State) (h : Heap) (hs : Nat) (ab : Addr) (N : Nat) (vs : List Value) : Prop := vs.length = N ∧ ∀ j, j < N → vs.getD j .null = .ref ab ∨ ∃ q, vs.getD j .null = .ref q ∧ hs ≤ q ∧ ∃ (k : ClassId) (ps : List Value), ps.length = 256 ∧ Arv Z h q k .long (256 : Int32) ps (.long (0 : Int64))
theorem own_I0 (Z : State) (h : Heap) (hs : Nat) (ab : Addr) (N : Nat) (d : Value) : own_I Z h hs ab N (own_fl N N (.ref ab) d) := ⟨own_fl_len (Nat.le_refl N) _ _, fun j hj => Or.inl (own_flg hj _ _ _)⟩
theorem own_I_new {Z : State} {h h1 h2 : Heap} {hs : Nat} {ab b a : Addr} {N j sl : Nat} {vs : List Value} {k : ClassId} {v : Value} (I : own_I Z h hs ab N vs) (E : Ext h h1) (hb : hs ≤ b) (A : Arv Z h1 b k .long (256 : Int32) [] (.long (0 : Int64))) (W : Wr h1 h2 a sl v) (ha : a < hs) (hj : j < N) : own_I Z h2 hs ab N (vs.set j (.ref b)) := by
  refine ⟨own_ls I.1, fun i hi => ?_⟩
  by_cases e : i = j
  · exact Or.inr ⟨b, own_hit I.1 hj e, hb, k, List.replicate 256 (Value.long (0 : Int64)), List.length_replicate, (A.pad (pad_rep [] (.long (0 : Int64)) 256)).other W (Nat.ne_of_gt (Nat.lt_of_lt_of_le ha hb))⟩
  · rcases I.2 i hi with q | ⟨q, h3, h4, k', ps, h5, F⟩
    · exact Or.inl (own_miss e q)
    · exact Or.inr ⟨q, own_miss e h3, h4, k', ps, h5, (F.ext E).other W (Nat.ne_of_gt (Nat.lt_of_lt_of_le ha h4))⟩
theorem own_I_wr {Z : State} {h h' : Heap} {hs : Nat} {ab q : Addr} {N sl : Nat} {vs ps' : List Value} {k : ClassId} {v : Value} (I : own_I Z h hs ab N vs) (W : Wr h h' q sl v) (hl : ps'.length = 256) (F : Arv Z h' q k .long (256 : Int32) ps' (.long (0 : Int64))) : own_I Z h' hs ab N vs := by
  refine ⟨I.1, fun i hi => ?_⟩
  rcases I.2 i hi with r | ⟨q', h3, h4, k', ps, h5, G⟩
  · exact Or.inl r
  · by_cases e : q' = q
    · subst e
      exact Or.inr ⟨q', h3, h4, k, ps', hl, F⟩
    · exact Or.inr ⟨q', h3, h4, k', ps, h5, G.other W e⟩
def own_U (vs : List Value) (ab : Addr) (a b c np : Nat) : Prop := ∃ u0 ua ub, np + u0 + ua + ub ≤ 3 ∧ (vs.getD a .null = .ref ab → 1 ≤ u0) ∧ (vs.getD b .null = .ref ab → 1 ≤ ua) ∧ (vs.getD c .null = .ref ab → 1 ≤ ub)
theorem own_U0 (vs : List Value) (ab : Addr) (a b c : Nat) : own_U vs ab a b c 0 := ⟨1, 1, 1, by decide, fun _ => Nat.le_refl 1, fun _ => Nat.le_refl 1, fun _ => Nat.le_refl 1⟩
theorem own_U_le {vs : List Value} {ab : Addr} {a b c np : Nat} (U : own_U vs ab a b c np) : np ≤ 3 := by
  obtain ⟨u0, ua, ub, h, -⟩ := U
  omega
theorem own_U_lt {vs : List Value} {ab : Addr} {a b c np j : Nat} (U : own_U vs ab a b c np) (hj : j = a ∨ j = b ∨ j = c) (h : vs.getD j .null = .ref ab) : np + 1 ≤ 3 := by
  obtain ⟨u0, ua, ub, h1, h2, h3, h4⟩ := U
  rcases hj with e | e | e <;> subst e
  · have := h2 h
    omega
  · have := h3 h
    omega
  · have := h4 h
    omega
theorem own_gsV {L : List Value} {i j : Nat} {b ab : Addr} (hl : i < L.length) (hb : b ≠ ab) (h : (L.set i (.ref b)).getD j .null = .ref ab) : j ≠ i ∧ L.getD j .null = .ref ab := by
  by_cases e : j = i
  · rw [own_hit rfl hl e] at h
    exact absurd (Value.ref.inj h) hb
  · refine ⟨e, ?_⟩
    rw [own_miss e rfl] at h
    exact h
theorem own_U_new {vs : List Value} {ab pg : Addr} {a b c np j : Nat} (U : own_U vs ab a b c np) (hj : j = a ∨ j = b ∨ j = c) (h : vs.getD j .null = .ref ab) (hl : j < vs.length) (hb : pg ≠ ab) : own_U (vs.set j (.ref pg)) ab a b c (np + 1) := by
  obtain ⟨u0, ua, ub, h1, h2, h3, h4⟩ := U
  rcases hj with e | e | e <;> subst e
  · have := h2 h
    exact ⟨u0 - 1, ua, ub, by omega, fun q => absurd rfl (own_gsV hl hb q).1, fun q => h3 (own_gsV hl hb q).2, fun q => h4 (own_gsV hl hb q).2⟩
  · have := h3 h
    exact ⟨u0, ua - 1, ub, by omega, fun q => h2 (own_gsV hl hb q).2, fun q => absurd rfl (own_gsV hl hb q).1, fun q => h4 (own_gsV hl hb q).2⟩
  · have := h4 h
    exact ⟨u0, ua, ub - 1, by omega, fun q => h2 (own_gsV hl hb q).2, fun q => h3 (own_gsV hl hb q).2, fun q => absurd rfl (own_gsV hl hb q).1⟩
def own_pat (pl : List Value) (va vb : Int32) : Prop := ∀ k, k < 132 → ∃ z : Int32, pl.getD k (.int (0 : Int32)) = .int z ∧ (z = 0 ∨ z = va ∨ z = vb)
theorem own_patL (va vb : Int32) (i j : Nat) (hi : i < 132) (hj : j < 132) : own_pat (((List.replicate 132 (Value.int (0 : Int32))).set i (.int va)).set j (.int vb)) va vb := by
  intro k hk
  have l0 : (List.replicate 132 (Value.int (0 : Int32))).length = 132 := List.length_replicate
  by_cases e : k = j
  · exact ⟨vb, own_hit (own_ls l0) hj e, Or.inr (Or.inr rfl)⟩
  · by_cases e2 : k = i
    · exact ⟨va, own_miss e (own_hit l0 hi e2), Or.inr (Or.inl rfl)⟩
    · refine ⟨0, own_miss e (own_miss e2 ?_), Or.inl rfl⟩
      rw [List.getD_eq_getElem?_getD, List.getElem?_replicate, if_pos hk]
      rfl
theorem own_hrN {z : Int32} {N : Int} (h : 0 ≤ z.toInt ∧ z.toInt < 256 * N) (hN : N ≤ 256) : 0 ≤ ((z.toUInt32 >>> ((8 : Int32) &&& 31).toUInt32).toInt32).toInt ∧ ((z.toUInt32 >>> ((8 : Int32) &&& 31).toUInt32).toInt32).toInt < N := by
  rw [own_hb ⟨h.1, by omega⟩]
  omega
theorem own_zb {z va vb : Int32} {M : Int} (h : z = 0 ∨ z = va ∨ z = vb) (hM : 0 < M) (ha : 0 ≤ va.toInt ∧ va.toInt < M) (hb : 0 ≤ vb.toInt ∧ vb.toInt < M) : 0 ≤ z.toInt ∧ z.toInt < M := by
  rcases h with rfl | rfl | rfl
  · have : (0 : Int32).toInt = 0 := by decide
    omega
  · exact ha
  · exact hb
theorem own_D {z va vb : Int32} (h : z = 0 ∨ z = va ∨ z = vb) : ((z.toUInt32 >>> ((8 : Int32) &&& 31).toUInt32).toInt32).toNatClampNeg = (((0 : Int32).toUInt32 >>> ((8 : Int32) &&& 31).toUInt32).toInt32).toNatClampNeg ∨ ((z.toUInt32 >>> ((8 : Int32) &&& 31).toUInt32).toInt32).toNatClampNeg = ((va.toUInt32 >>> ((8 : Int32) &&& 31).toUInt32).toInt32).toNatClampNeg ∨ ((z.toUInt32 >>> ((8 : Int32) &&& 31).toUInt32).toInt32).toNatClampNeg = ((vb.toUInt32 >>> ((8 : Int32) &&& 31).toUInt32).toInt32).toNatClampNeg := by
  rcases h with rfl | rfl | rfl
  · exact Or.inl rfl
  · exact Or.inr (Or.inl rfl)
  · exact Or.inr (Or.inr rfl)
theorem own_inN {x y : Int32} {n : Int} (hy : y.toInt = n) (h : 0 ≤ x.toInt ∧ x.toInt < n) : ¬ x < (0 : Int32) ∧ x < y := ⟨own_nn0 h.1, own_ltv hy h.2⟩
theorem own_tnN {x : Int32} {n : Nat} (h : 0 ≤ x.toInt ∧ x.toInt < (n : Int)) : x.toNatClampNeg < n := by
  show x.toInt.toNat < n
  omega
theorem own_fitL {c : Cell} {vs : List Value} {d : Value} {k : Nat} (G : ∀ i, i < c.slots.size → fits .long (vs.getD i d) = true) (s : c.slots.size = (256 : Int32).toNatClampNeg) (hk : k < 256) : ∃ v : Int64, vs.getD k d = .long v := fit_J (G k (by rw [s]; exact hk))
theorem own_ix {ln wd xi : Int32} {i : Nat} (hln : 5 ≤ ln.toInt ∧ ln.toInt ≤ 132) (hwd : 4 ≤ wd.toInt ∧ wd.toInt ≤ ln.toInt) (hi : xi.toInt = (i : Int)) (h : xi < wd) : 0 ≤ ((ln - wd) + xi).toInt ∧ ((ln - wd) + xi).toInt < ln.toInt := by
  rw [Int32.lt_iff_toInt_lt] at h
  have h1 := c_isub ln wd
  have h2 := c_iadd (ln - wd) xi
  have := rng32 (ln - wd)
  have := rng32 ((ln - wd) + xi)
  omega
theorem own_inc {x y : Int32} {i : Nat} (h : x.toInt = (i : Int)) (hi : x < y) : (x + (1 : Int32)).toInt = ((i + 1 : Nat) : Int) := by
  rw [Int32.lt_iff_toInt_lt] at hi
  have h1 := c_iadd x 1
  have e : (1 : Int32).toInt = 1 := by decide
  rw [e] at h1
  have := rng32 (x + (1 : Int32))
  have := rng32 y
  omega
theorem own_lti {x y : Int32} {i : Nat} (h : x.toInt = (i : Int)) (hi : x < y) : ((i + 1 : Nat) : Int) ≤ y.toInt := by
  rw [Int32.lt_iff_toInt_lt] at hi
  omega
theorem own_ti (x : Int64) : 0 ≤ ((((x * (-7046029254386353131 : Int64)).toUInt64 >>> ((51 : Int32) &&& 0x3f).toInt64.toUInt64).toInt64).toInt32).toInt ∧ ((((x * (-7046029254386353131 : Int64)).toUInt64 >>> ((51 : Int32) &&& 0x3f).toInt64.toUInt64).toInt64).toInt32).toInt < 8192 := by
  have h1 := c_lushr (x * (-7046029254386353131 : Int64)) 51 51 (by decide) (by decide)
  have h2 := c_l2i (((x * (-7046029254386353131 : Int64)).toUInt64 >>> ((51 : Int32) &&& 0x3f).toInt64.toUInt64).toInt64)
  have e : ((2 ^ 51 : Nat) : Int) = 2251799813685248 := by decide
  rw [e] at h1
  have := rng32 ((((x * (-7046029254386353131 : Int64)).toUInt64 >>> ((51 : Int32) &&& 0x3f).toInt64.toUInt64).toInt64).toInt32)
  omega
def own_z8 : List Value := List.replicate 8192 (Value.int (0 : Int32))
theorem own_z8len : own_z8.length = 8192 := List.length_replicate
theorem own_z8pad {Z : State} {h : Heap} {a : Addr} {k : ClassId} {z : Int32} (F : Arv Z h a k .byte z [] (.int (0 : Int32))) : Arv Z h a k .byte z own_z8 (.int (0 : Int32)) := F.pad (pad_rep [] (.int (0 : Int32)) 8192)
theorem own_p132 {Z : State} {h : Heap} {a : Addr} {k : ClassId} {z : Int32} (F : Arv Z h a k .int z [] (.int (0 : Int32))) : Arv Z h a k .int z (List.replicate 132 (Value.int (0 : Int32))) (.int (0 : Int32)) := F.pad (pad_rep [] (.int (0 : Int32)) 132)
theorem own_ln {x v : Int32} (h : (5 : Int32) + (x &&& (127 : Int32)) = v) : 5 ≤ v.toInt ∧ v.toInt ≤ 132 := by
  have h1 := c_and x 127 (by decide)
  have h2 := c_iadd 5 (x &&& 127)
  have e : (127 : Int32).toInt = 127 := by decide
  have e5 : (5 : Int32).toInt = 5 := by decide
  rw [h, e5] at h2
  have := rng32 v
  omega
theorem own_l1 {v : Int32} (h : 5 ≤ v.toInt ∧ v.toInt ≤ 132) : 0 ≤ (v - (1 : Int32)).toInt ∧ (v - (1 : Int32)).toInt < v.toInt := by
  have h2 := c_isub v 1
  have e : (1 : Int32).toInt = 1 := by decide
  rw [e] at h2
  have := rng32 (v - (1 : Int32))
  omega
theorem own_mk {x k : Int32} {n : Int} (hk : k.toInt = n) (h0 : 0 ≤ n) : 0 ≤ (x &&& k).toInt ∧ (x &&& k).toInt < n + 1 := by
  have h1 := c_and x k (by omega)
  omega
def own_mn (x y : Int32) : Int32 := if y < x then y else x
def own_mx (x y : Int32) : Int32 := if x < y then y else x
theorem own_mnI (x y : Int32) : (own_mn x y).toInt = if y.toInt < x.toInt then y.toInt else x.toInt := by
  unfold own_mn
  simp only [Int32.lt_iff_toInt_lt]
  split <;> rfl
theorem own_mxI (x y : Int32) : (own_mx x y).toInt = if x.toInt < y.toInt then y.toInt else x.toInt := by
  unfold own_mx
  simp only [Int32.lt_iff_toInt_lt]
  split <;> rfl
def own_gm (w : Int32) : Int32 := own_mn 6 (own_mx 4 ((w + (2 : Int32)) / (3 : Int32)))
theorem own_wd {v : Int32} (h : 5 ≤ v.toInt ∧ v.toInt ≤ 132) : (own_mn v 64).toInt = (if 64 < v.toInt then 64 else v.toInt) ∧ 4 ≤ (own_mn v 64).toInt ∧ (own_mn v 64).toInt ≤ v.toInt := by
  have h1 := own_mnI v 64
  have e : (64 : Int32).toInt = 64 := by decide
  rw [e] at h1
  rw [h1]
  refine ⟨rfl, ?_, ?_⟩ <;> split <;> omega
theorem own_gmI {w : Int32} (h : 4 ≤ w.toInt ∧ w.toInt ≤ 64) : (own_gm w).toInt = (if (if 4 < (w.toInt + 2) / 3 then (w.toInt + 2) / 3 else 4) < 6 then (if 4 < (w.toInt + 2) / 3 then (w.toInt + 2) / 3 else 4) else 6) := by
  have h1 := c_iadd w 2
  have e2 : (2 : Int32).toInt = 2 := by decide
  have e4 : (4 : Int32).toInt = 4 := by decide
  have e6 : (6 : Int32).toInt = 6 := by decide
  rw [e2] at h1
  have := rng32 (w + (2 : Int32))
  have h2 : (w + (2 : Int32)).toInt = w.toInt + 2 := by omega
  have h3 := (c_idiv (w + (2 : Int32)) 3 3 (by decide) (by decide)).1 (by omega)
  unfold own_gm
  rw [own_mnI, own_mxI, h3, h2, e4, e6]
theorem own_gmB {w : Int32} (h : 4 ≤ w.toInt ∧ w.toInt ≤ 64) : 4 ≤ (own_gm w).toInt ∧ (own_gm w).toInt ≤ 6 ∧ (own_gm w).toInt ≤ w.toInt := by
  rw [own_gmI h]
  refine ⟨?_, ?_, ?_⟩ <;> (repeat' split) <;> omega
theorem own_cw {v : Int32} (h : 5 ≤ v.toInt ∧ v.toInt ≤ 132) : ((((own_mn v 64) - (own_gm (own_mn v 64))) + (1 : Int32)).toInt64 < (own_gm (own_mn v 64)).toInt64 * (8 : Int64)) ↔ v < (53 : Int32) := by
  obtain ⟨w1, w2, w3⟩ := own_wd h
  have w4 : (own_mn v 64).toInt ≤ 64 := by
    rw [w1]
    split <;> omega
  have g1 := own_gmI (w := own_mn v 64) ⟨w2, w4⟩
  have g2 := own_gmB (w := own_mn v 64) ⟨w2, w4⟩
  generalize own_mn v 64 = W at *
  generalize own_gm W = G at *
  have s1 := c_isub W G
  have s2 := c_iadd (W - G) 1
  have e1 : (1 : Int32).toInt = 1 := by decide
  rw [e1] at s2
  have := rng32 (W - G)
  have := rng32 ((W - G) + (1 : Int32))
  have s3 : ((W - G) + (1 : Int32)).toInt = W.toInt - G.toInt + 1 := by omega
  have m1 := c_lmul G.toInt64 8
  have e8 : (8 : Int64).toInt = 8 := by decide
  rw [e8, c_i2l] at m1
  have := rng64 (G.toInt64 * (8 : Int64))
  have m2 : (G.toInt64 * (8 : Int64)).toInt = G.toInt * 8 := by omega
  rw [Int64.lt_iff_toInt_lt, Int32.lt_iff_toInt_lt, c_i2l, s3, m2]
  have e53 : (53 : Int32).toInt = 53 := by decide
  rw [e53, g1]
  split at w1 <;> split <;> split <;> (try split) <;> omega
theorem own_fe {ln wd gm : Int32} (hln : 5 ≤ ln.toInt ∧ ln.toInt ≤ 132) (hwd : 4 ≤ wd.toInt ∧ wd.toInt ≤ ln.toInt) (hgm : 4 ≤ gm.toInt ∧ gm.toInt ≤ 6 ∧ gm.toInt ≤ wd.toInt) : (((ln - wd) + gm) - (1 : Int32)).toInt = ln.toInt - wd.toInt + gm.toInt - 1 := by
  have h1 := c_isub ln wd
  have h2 := c_iadd (ln - wd) gm
  have h3 := c_isub ((ln - wd) + gm) 1
  have e1 : (1 : Int32).toInt = 1 := by decide
  rw [e1] at h3
  have := rng32 (ln - wd)
  have := rng32 ((ln - wd) + gm)
  have := rng32 (((ln - wd) + gm) - (1 : Int32))
  omega
theorem own_ej {ln gm xe xj : Int32} {j : Nat} (hln : 5 ≤ ln.toInt ∧ ln.toInt ≤ 132) (he : gm.toInt - 1 ≤ xe.toInt) (he2 : xe < ln) (hj : xj.toInt = (j : Int)) (h : xj < gm) : 0 ≤ (xe - xj).toInt ∧ (xe - xj).toInt < ln.toInt := by
  rw [Int32.lt_iff_toInt_lt] at h he2
  have h1 := c_isub xe xj
  have := rng32 (xe - xj)
  have := rng32 gm
  have := rng32 xe
  omega
theorem own_e1 {ln gm xe : Int32} (hln : 5 ≤ ln.toInt ∧ ln.toInt ≤ 132) (hg : 4 ≤ gm.toInt) (he : gm.toInt - 1 ≤ xe.toInt) (he2 : xe < ln) : gm.toInt - 1 ≤ (xe + (1 : Int32)).toInt ∧ (xe + (1 : Int32)).toInt = xe.toInt + 1 ∧ xe.toInt < ln.toInt := by
  rw [Int32.lt_iff_toInt_lt] at he2
  have h1 := c_iadd xe 1
  have e1 : (1 : Int32).toInt = 1 := by decide
  rw [e1] at h1
  have := rng32 (xe + (1 : Int32))
  omega
def own_low (q1 q2 : Int32) : Int64 := (((q1 &&& (255 : Int32)).toInt64) <<< ((((64 : Int32) - ((8 : Int32) * (q2 + (1 : Int32))))) &&& 0x3f).toInt64)
theorem own_rl256 : ([] ++ List.replicate 256 (Value.long (0 : Int64))).length = 256 := by rw [List.nil_append, List.length_replicate]
theorem own_pf_java_lang_Mathmin : plainFor (⟨"java/lang/Math", "min", "(II)I"⟩ : MethodName) = true := by first | exact Jvm.Free.JP.mathPlain rfl (by decide +kernel) | decide +kernel
theorem own_djdk_29_method_69_code_0 : decode jdk_29_method_69_code 0 = .ok (.iload_n 0, 1) := by decide +kernel
theorem own_djdk_29_method_69_code_1 : decode jdk_29_method_69_code 1 = .ok (.iload_n 1, 1) := by decide +kernel
theorem own_djdk_29_method_69_code_2 : decode jdk_29_method_69_code 2 = .ok (.if_icmp .gt 7, 3) := by decide +kernel
theorem own_djdk_29_method_69_code_9 : decode jdk_29_method_69_code 9 = .ok (.iload_n 1, 1) := by decide +kernel
theorem own_djdk_29_method_69_code_10 : decode jdk_29_method_69_code 10 = .ok (.ireturn, 1) := by decide +kernel
theorem own_djdk_29_method_69_code_5 : decode jdk_29_method_69_code 5 = .ok (.iload_n 0, 1) := by decide +kernel
theorem own_djdk_29_method_69_code_6 : decode jdk_29_method_69_code 6 = .ok (.goto 4, 3) := by decide +kernel
theorem own_efMN (m : MethodId) (q1 : Int32) (q2 : Int32) : entryFrame m #[(.int q1), (.int q2)] 2 = mkF m 0 #[.val (.int q1), .val (.int q2)] [] := by first | (simp [entryFrame, mkF, argsToLocals, Value.category]; done) | rfl
def own_QMN (Z : State) (q1 : Int32) (q2 : Int32) (h0 : Heap) (n0 : Nat) (rv__ : Option Value) (h : Heap) (rL__ : List Loc) : Prop := rv__ = some (.int (own_mn q1 q2)) ∧ Fr n0 rL__ ∧ h = h0
abbrev own_RMN : Room := { frames := 0, cells := 0, slots := 0, locals := 0 }
set_option maxRecDepth 65536 in
set_option maxHeartbeats 40000000 in
theorem own_rmMN (l : Launch) (Z : State) (a0 : Array Value) (hw : ∀ d ∈ tables_1, d.before a0 Z = true) (ws : List Jvm.Cond) (q1 : Int32) (q2 : Int32) (h0 : Heap) (n0 : Nat) (Z0 : n0 ≤ h0.size)  :
    MetFree l (⟨"java/lang/Math", "min", "(II)I"⟩ : MethodName) (head1 (Jvm.Cond.code (⟨"java/lang/Math", "min", "(II)I"⟩ : MethodName) jdk_29_method_69_code 2 (some .int) :: ws) own_RMN) (fun aa__ U => aa__ = #[(.int q1), (.int q2)] ∧ Z.Warmed39 U.vm ∧ U.heap = h0) (fun _ _ _ _ _ => True) (fun _ U oc_ U' => ∃ rv__ rL__, oc_ = .returned rv__ ∧ own_QMN Z q1 q2 h0 n0 rv__ U'.heap rL__ ∧ FrameEnd U oc_ U' rL__ own_RMN.cells own_RMN.slots) := by
  refine MetFree.of_bodySF own_pf_java_lang_Mathmin hisR ?_
  intro p e s m args below meth c s₁ Bd hml0 hP hK
  obtain ⟨rfl, hZ, hh⟩ := hP
  have hx := Bd.exec
  have hby := Bd.bytes
  have hml : c.maxLocals = 2 := hml0
  have hown : s.vm.findClass "java/lang/Math" = some m.cls := findClass_of_methodNamed Bd.named
  have hnm := (name_of_methodNamed Bd.named Bd.method).1
  have X0 : Stand p l e own_RMN s m #[(.int q1), (.int q2)] below meth c s₁ [] 0 0 := Stand.of_body Bd
  have e0 : s₁.heap = h0 := by rw [← hh, Bd.state]; rfl
  have N0 := Fr.nil n0
  refine own_in (fun _ k => castTop (own_efMN m q1 q2) k) ?_
  intro RR hRR
  show own_Go p.tables e below RR (s₁.setTop (mkF m 0 #[.val (.int q1), .val (.int q2)] []))
  refine own_st (fun _ k => XS.iloadN X0.here hx rfl (hb hby own_djdk_29_method_69_code_0) rfl (XS.iloadN X0.here hx rfl (hb hby own_djdk_29_method_69_code_1) rfl k)) ?_
  show own_Go p.tables e below RR (s₁.setTop (mkF m 2 #[.val (.int q1), .val (.int q2)] [(.int q2), (.int q1)]))
  by_cases hc2_1 : q2 < q1
  · refine own_st (fun _ k => XS.icmpYes X0.here hx rfl (pc0 := 2) (pc' := 9) rfl (hb hby own_djdk_29_method_69_code_2) rfl (tlt hc2_1).2.2.1 (by decide) (by decide) (XS.iloadN X0.here hx rfl (hb hby own_djdk_29_method_69_code_9) rfl k)) ?_
    show own_Go p.tables e below RR (s₁.setTop (mkF m 10 #[.val (.int q1), .val (.int q2)] [(.int q2)]))
    obtain ⟨fs, hrt_, hrun, hended, hW, hsame⟩ := X0.leave (v := some (.int q2)) (fun h => by rw [Bd.returns] at h; cases h)
    refine own_fin (retI X0 hx Bd.returns (hb hby own_djdk_29_method_69_code_10) hrt_) (hRR _ ⟨_, hrun, hended, _, _, rfl, ?_, ⟨_, rfl⟩, hW, hsame.mono (by decide) (by decide)⟩)
    show own_QMN Z q1 q2 h0 n0 _ s₁.heap _
    rw [e0]
    exact ⟨own_ri ((by unfold own_mn; rw [if_pos hc2_1])), N0, rfl⟩
  · refine own_st (fun _ k => XS.icmpNo X0.here hx rfl (hb hby own_djdk_29_method_69_code_2) rfl (flt hc2_1).2.2.1 (XS.iloadN X0.here hx rfl (hb hby own_djdk_29_method_69_code_5) rfl (XS.goto X0.here hx rfl (pc0 := 6) (pc' := 10) rfl (hb hby own_djdk_29_method_69_code_6) (by decide) (by decide) k))) ?_
    show own_Go p.tables e below RR (s₁.setTop (mkF m 10 #[.val (.int q1), .val (.int q2)] [(.int q1)]))
    obtain ⟨fs, hrt_, hrun, hended, hW, hsame⟩ := X0.leave (v := some (.int q1)) (fun h => by rw [Bd.returns] at h; cases h)
    refine own_fin (retI X0 hx Bd.returns (hb hby own_djdk_29_method_69_code_10) hrt_) (hRR _ ⟨_, hrun, hended, _, _, rfl, ?_, ⟨_, rfl⟩, hW, hsame.mono (by decide) (by decide)⟩)
    show own_QMN Z q1 q2 h0 n0 _ s₁.heap _
    rw [e0]
    exact ⟨own_ri ((by unfold own_mn; rw [if_neg hc2_1])), N0, rfl⟩
theorem own_pf_java_lang_Mathmax : plainFor (⟨"java/lang/Math", "max", "(II)I"⟩ : MethodName) = true := by first | exact Jvm.Free.JP.mathPlain rfl (by decide +kernel) | decide +kernel
theorem own_djdk_29_method_65_code_0 : decode jdk_29_method_65_code 0 = .ok (.iload_n 0, 1) := by decide +kernel
theorem own_djdk_29_method_65_code_1 : decode jdk_29_method_65_code 1 = .ok (.iload_n 1, 1) := by decide +kernel
theorem own_djdk_29_method_65_code_2 : decode jdk_29_method_65_code 2 = .ok (.if_icmp .lt 7, 3) := by decide +kernel
theorem own_djdk_29_method_65_code_9 : decode jdk_29_method_65_code 9 = .ok (.iload_n 1, 1) := by decide +kernel
theorem own_djdk_29_method_65_code_10 : decode jdk_29_method_65_code 10 = .ok (.ireturn, 1) := by decide +kernel
theorem own_djdk_29_method_65_code_5 : decode jdk_29_method_65_code 5 = .ok (.iload_n 0, 1) := by decide +kernel
theorem own_djdk_29_method_65_code_6 : decode jdk_29_method_65_code 6 = .ok (.goto 4, 3) := by decide +kernel
theorem own_efMX (m : MethodId) (q1 : Int32) (q2 : Int32) : entryFrame m #[(.int q1), (.int q2)] 2 = mkF m 0 #[.val (.int q1), .val (.int q2)] [] := by first | (simp [entryFrame, mkF, argsToLocals, Value.category]; done) | rfl
def own_QMX (Z : State) (q1 : Int32) (q2 : Int32) (h0 : Heap) (n0 : Nat) (rv__ : Option Value) (h : Heap) (rL__ : List Loc) : Prop := rv__ = some (.int (own_mx q1 q2)) ∧ Fr n0 rL__ ∧ h = h0
abbrev own_RMX : Room := { frames := 0, cells := 0, slots := 0, locals := 0 }
set_option maxRecDepth 65536 in
set_option maxHeartbeats 40000000 in
theorem own_rmMX (l : Launch) (Z : State) (a0 : Array Value) (hw : ∀ d ∈ tables_1, d.before a0 Z = true) (ws : List Jvm.Cond) (q1 : Int32) (q2 : Int32) (h0 : Heap) (n0 : Nat) (Z0 : n0 ≤ h0.size)  :
    MetFree l (⟨"java/lang/Math", "max", "(II)I"⟩ : MethodName) (head1 (Jvm.Cond.code (⟨"java/lang/Math", "max", "(II)I"⟩ : MethodName) jdk_29_method_65_code 2 (some .int) :: ws) own_RMX) (fun aa__ U => aa__ = #[(.int q1), (.int q2)] ∧ Z.Warmed39 U.vm ∧ U.heap = h0) (fun _ _ _ _ _ => True) (fun _ U oc_ U' => ∃ rv__ rL__, oc_ = .returned rv__ ∧ own_QMX Z q1 q2 h0 n0 rv__ U'.heap rL__ ∧ FrameEnd U oc_ U' rL__ own_RMX.cells own_RMX.slots) := by
  refine MetFree.of_bodySF own_pf_java_lang_Mathmax hisR ?_
  intro p e s m args below meth c s₁ Bd hml0 hP hK
  obtain ⟨rfl, hZ, hh⟩ := hP
  have hx := Bd.exec
  have hby := Bd.bytes
  have hml : c.maxLocals = 2 := hml0
  have hown : s.vm.findClass "java/lang/Math" = some m.cls := findClass_of_methodNamed Bd.named
  have hnm := (name_of_methodNamed Bd.named Bd.method).1
  have X0 : Stand p l e own_RMX s m #[(.int q1), (.int q2)] below meth c s₁ [] 0 0 := Stand.of_body Bd
  have e0 : s₁.heap = h0 := by rw [← hh, Bd.state]; rfl
  have N0 := Fr.nil n0
  refine own_in (fun _ k => castTop (own_efMX m q1 q2) k) ?_
  intro RR hRR
  show own_Go p.tables e below RR (s₁.setTop (mkF m 0 #[.val (.int q1), .val (.int q2)] []))
  refine own_st (fun _ k => XS.iloadN X0.here hx rfl (hb hby own_djdk_29_method_65_code_0) rfl (XS.iloadN X0.here hx rfl (hb hby own_djdk_29_method_65_code_1) rfl k)) ?_
  show own_Go p.tables e below RR (s₁.setTop (mkF m 2 #[.val (.int q1), .val (.int q2)] [(.int q2), (.int q1)]))
  by_cases hc2_1 : q1 < q2
  · refine own_st (fun _ k => XS.icmpYes X0.here hx rfl (pc0 := 2) (pc' := 9) rfl (hb hby own_djdk_29_method_65_code_2) rfl (tlt hc2_1).1 (by decide) (by decide) (XS.iloadN X0.here hx rfl (hb hby own_djdk_29_method_65_code_9) rfl k)) ?_
    show own_Go p.tables e below RR (s₁.setTop (mkF m 10 #[.val (.int q1), .val (.int q2)] [(.int q2)]))
    obtain ⟨fs, hrt_, hrun, hended, hW, hsame⟩ := X0.leave (v := some (.int q2)) (fun h => by rw [Bd.returns] at h; cases h)
    refine own_fin (retI X0 hx Bd.returns (hb hby own_djdk_29_method_65_code_10) hrt_) (hRR _ ⟨_, hrun, hended, _, _, rfl, ?_, ⟨_, rfl⟩, hW, hsame.mono (by decide) (by decide)⟩)
    show own_QMX Z q1 q2 h0 n0 _ s₁.heap _
    rw [e0]
    exact ⟨own_ri ((by unfold own_mx; rw [if_pos hc2_1])), N0, rfl⟩
  · refine own_st (fun _ k => XS.icmpNo X0.here hx rfl (hb hby own_djdk_29_method_65_code_2) rfl (flt hc2_1).1 (XS.iloadN X0.here hx rfl (hb hby own_djdk_29_method_65_code_5) rfl (XS.goto X0.here hx rfl (pc0 := 6) (pc' := 10) rfl (hb hby own_djdk_29_method_65_code_6) (by decide) (by decide) k))) ?_
    show own_Go p.tables e below RR (s₁.setTop (mkF m 10 #[.val (.int q1), .val (.int q2)] [(.int q1)]))
    obtain ⟨fs, hrt_, hrun, hended, hW, hsame⟩ := X0.leave (v := some (.int q1)) (fun h => by rw [Bd.returns] at h; cases h)
    refine own_fin (retI X0 hx Bd.returns (hb hby own_djdk_29_method_65_code_10) hrt_) (hRR _ ⟨_, hrun, hended, _, _, rfl, ?_, ⟨_, rfl⟩, hW, hsame.mono (by decide) (by decide)⟩)
    show own_QMX Z q1 q2 h0 n0 _ s₁.heap _
    rw [e0]
    exact ⟨own_ri ((by unfold own_mx; rw [if_neg hc2_1])), N0, rfl⟩
theorem own_pn_com_example_shiftwise_shiftwise_search_FactorSkip : plainName "com/example/shiftwise/shiftwise/search/FactorSkip" = true := by first | (simp [plainName, overriddenIn]; done) | decide +kernel
theorem own_dprog_35_method_21_code_0 : decode prog_35_method_21_code 0 = .ok (.bipush 6, 2) := by decide +kernel
theorem own_dprog_35_method_21_code_2 : decode prog_35_method_21_code 2 = .ok (.iconst 4, 1) := by decide +kernel
theorem own_dprog_35_method_21_code_3 : decode prog_35_method_21_code 3 = .ok (.iload_n 0, 1) := by decide +kernel
theorem own_dprog_35_method_21_code_4 : decode prog_35_method_21_code 4 = .ok (.iconst 2, 1) := by decide +kernel
theorem own_dprog_35_method_21_code_5 : decode prog_35_method_21_code 5 = .ok (.iadd, 1) := by decide +kernel
theorem own_dprog_35_method_21_code_6 : decode prog_35_method_21_code 6 = .ok (.iconst 3, 1) := by decide +kernel
theorem own_dprog_35_method_21_code_7 : decode prog_35_method_21_code 7 = .ok (.idiv, 1) := by decide +kernel
theorem own_pd__II_I : parseMethodDescriptor "(II)I" = some ⟨[.int, .int], some .int⟩ := by decide +kernel
theorem own_dprog_35_method_21_code_8 : decode prog_35_method_21_code 8 = .ok (.invokestatic 185, 3) := by decide +kernel
theorem own_dprog_35_method_21_code_11 : decode prog_35_method_21_code 11 = .ok (.invokestatic 15, 3) := by decide +kernel
theorem own_dprog_35_method_21_code_14 : decode prog_35_method_21_code 14 = .ok (.ireturn, 1) := by decide +kernel
theorem own_efGL (m : MethodId) (q1 : Int32) : entryFrame m #[(.int q1)] 1 = mkF m 0 #[.val (.int q1)] [] := by first | (simp [entryFrame, mkF, argsToLocals, Value.category]; done) | rfl
def own_QGL (Z : State) (q1 : Int32) (h0 : Heap) (n0 : Nat) (rv__ : Option Value) (h : Heap) (rL__ : List Loc) : Prop := rv__ = some (.int (own_gm q1)) ∧ Fr n0 rL__ ∧ h = h0
abbrev own_RGL : Room := { frames := 1, cells := 0, slots := 0, locals := 14 }
set_option maxRecDepth 65536 in
set_option maxHeartbeats 40000000 in
theorem own_rmGL (l : Launch) (Z : State) (a0 : Array Value) (hw : ∀ d ∈ tables_1, d.before a0 Z = true) (ws : List Jvm.Cond) (q1 : Int32) (h0 : Heap) (n0 : Nat) (Z0 : n0 ≤ h0.size)  :
    MetFree l (⟨"com/example/shiftwise/shiftwise/search/FactorSkip", "gramLength", "(I)I"⟩ : MethodName) (head1 (Jvm.Cond.code (⟨"com/example/shiftwise/shiftwise/search/FactorSkip", "gramLength", "(I)I"⟩ : MethodName) prog_35_method_21_code 1 (some .int) :: ws) own_RGL) (fun aa__ U => aa__ = #[(.int q1)] ∧ Z.Warmed39 U.vm ∧ U.heap = h0) (fun _ _ _ _ _ => True) (fun _ U oc_ U' => ∃ rv__ rL__, oc_ = .returned rv__ ∧ own_QGL Z q1 h0 n0 rv__ U'.heap rL__ ∧ FrameEnd U oc_ U' rL__ own_RGL.cells own_RGL.slots) := by
  refine MetFree.of_bodySF (plainFor_of_name own_pn_com_example_shiftwise_shiftwise_search_FactorSkip) hisR ?_
  intro p e s m args below meth c s₁ Bd hml0 hP hK
  obtain ⟨rfl, hZ, hh⟩ := hP
  have hx := Bd.exec
  have hby := Bd.bytes
  have hml : c.maxLocals = 1 := hml0
  have hown : s.vm.findClass "com/example/shiftwise/shiftwise/search/FactorSkip" = some m.cls := findClass_of_methodNamed Bd.named
  have hnm := (name_of_methodNamed Bd.named Bd.method).1
  have X0 : Stand p l e own_RGL s m #[(.int q1)] below meth c s₁ [] 0 0 := Stand.of_body Bd
  have e0 : s₁.heap = h0 := by rw [← hh, Bd.state]; rfl
  have N0 := Fr.nil n0
  refine own_in (fun _ k => castTop (own_efGL m q1) k) ?_
  intro RR hRR
  show own_Go p.tables e below RR (s₁.setTop (mkF m 0 #[.val (.int q1)] []))
  refine own_st (fun _ k => XS.bipush X0.here hx rfl (hb hby own_dprog_35_method_21_code_0) (XS.iconst X0.here hx rfl (hb hby own_dprog_35_method_21_code_2) (XS.iloadN X0.here hx rfl (hb hby own_dprog_35_method_21_code_3) rfl (XS.iconst X0.here hx rfl (hb hby own_dprog_35_method_21_code_4) (XS.iadd X0.here hx rfl (hb hby own_dprog_35_method_21_code_5) rfl (XS.iconst X0.here hx rfl (hb hby own_dprog_35_method_21_code_6) k)))))) ?_
  show own_Go p.tables e below RR (s₁.setTop (mkF m 7 #[.val (.int q1)] [(.int (3 : Int32)), (.int (q1 + (2 : Int32))), (.int (4 : Int32)), (.int (6 : Int32))]))
  refine own_st (fun _ k => XS.idiv X0.here hx rfl (hb hby own_dprog_35_method_21_code_7) rfl (by decide) k) ?_
  show own_Go p.tables e below RR (s₁.setTop (mkF m 8 #[.val (.int q1)] [(.int ((q1 + (2 : Int32)) / (3 : Int32))), (.int (4 : Int32)), (.int (6 : Int32))]))
  obtain ⟨_, _, ⟨T1, L1, k1, n1⟩, -, X1, ⟨Lc1, hQ1, l1, y1, z1⟩, st1⟩ := Jvm.LawKit.callS X0 hx (y := (⟨"java/lang/Math", "max", "(II)I"⟩ : MethodName)) hown (mvT hZ (hw _ (List.mem_of_getElem? (i := 22) rfl))) (mvT hZ (hw _ (List.mem_of_getElem? (i := 23) rfl))) (mvT hZ (hw _ (List.mem_of_getElem? (i := 15) rfl))) (mvT hZ (hw _ (List.mem_of_getElem? (i := 24) rfl))) (by decide) (backOf (W := 1) (own_rmMX l Z a0 hw [] (4 : Int32) ((q1 + (2 : Int32)) / (3 : Int32)) h0 n0 Z0 ) hZ (hw _ (List.mem_of_getElem? (i := 24) rfl)) (hw _ (List.mem_of_getElem? (i := 15) rfl)) (by decide) (by decide)) (g := (mkF m 8 #[.val (.int q1)] [(.int ((q1 + (2 : Int32)) / (3 : Int32))), (.int (4 : Int32)), (.int (6 : Int32))])) rfl (by rw [hml]; rfl) (argsL := [(.int (4 : Int32)), (.int ((q1 + (2 : Int32)) / (3 : Int32)))]) (rest := [(.int (6 : Int32))]) (lenOf own_pd__II_I rfl) rfl (by show 2 * 0 + _ ≤ _; exact Nat.le_of_eq rfl) (hb hby own_dprog_35_method_21_code_8) (fun _ _ => ⟨rfl, e0, (by decide : 0 + 0 ≤ _), (by decide : 0 + 0 ≤ _)⟩)
  dsimp only [Pt.U, Pt.locs, Pt.cells, Pt.slots] at X1 l1 y1 z1 st1 hQ1
  subst l1 y1 z1
  obtain ⟨rfl, Nq1, eq1⟩ := hQ1
  have N1 := Fr.app N0 Nq1
  refine own_st st1 ?_
  show own_Go p.tables e below RR (T1.setTop (mkF m 11 #[.val (.int q1)] [(.int (own_mx (4 : Int32) ((q1 + (2 : Int32)) / (3 : Int32)))), (.int (6 : Int32))]))
  obtain ⟨_, _, ⟨T2, L2, k2, n2⟩, -, X2, ⟨Lc2, hQ2, l2, y2, z2⟩, st2⟩ := Jvm.LawKit.callS X1 hx (y := (⟨"java/lang/Math", "min", "(II)I"⟩ : MethodName)) hown (mvT hZ (hw _ (List.mem_of_getElem? (i := 13) rfl))) (mvT hZ (hw _ (List.mem_of_getElem? (i := 14) rfl))) (mvT hZ (hw _ (List.mem_of_getElem? (i := 15) rfl))) (mvT hZ (hw _ (List.mem_of_getElem? (i := 16) rfl))) (by decide) (backOf (W := 0) (own_rmMN l Z a0 hw [] (6 : Int32) (own_mx (4 : Int32) ((q1 + (2 : Int32)) / (3 : Int32))) h0 n0 Z0 ) hZ (hw _ (List.mem_of_getElem? (i := 16) rfl)) (hw _ (List.mem_of_getElem? (i := 15) rfl)) (by decide) (by decide)) (g := (mkF m 11 #[.val (.int q1)] [(.int (own_mx (4 : Int32) ((q1 + (2 : Int32)) / (3 : Int32)))), (.int (6 : Int32))])) rfl (by rw [hml]; rfl) (argsL := [(.int (6 : Int32)), (.int (own_mx (4 : Int32) ((q1 + (2 : Int32)) / (3 : Int32))))]) (rest := []) (lenOf own_pd__II_I rfl) rfl (by show 2 * 0 + _ ≤ _; exact Nat.le_of_eq rfl) (hb hby own_dprog_35_method_21_code_11) (fun _ _ => ⟨rfl, eq1, (by decide : 0 + 0 ≤ _), (by decide : 0 + 0 ≤ _)⟩)
  dsimp only [Pt.U, Pt.locs, Pt.cells, Pt.slots] at X2 l2 y2 z2 st2 hQ2
  subst l2 y2 z2
  obtain ⟨rfl, Nq2, eq2⟩ := hQ2
  have N2 := Fr.app N1 Nq2
  refine own_st st2 ?_
  show own_Go p.tables e below RR (T2.setTop (mkF m 14 #[.val (.int q1)] [(.int (own_mn (6 : Int32) (own_mx (4 : Int32) ((q1 + (2 : Int32)) / (3 : Int32)))))]))
  obtain ⟨fs, hrt_, hrun, hended, hW, hsame⟩ := X2.leave (v := some (.int (own_mn (6 : Int32) (own_mx (4 : Int32) ((q1 + (2 : Int32)) / (3 : Int32)))))) (fun h => by rw [Bd.returns] at h; cases h)
  refine own_fin (retI X2 hx Bd.returns (hb hby own_dprog_35_method_21_code_14) hrt_) (hRR _ ⟨_, hrun, hended, _, _, rfl, ?_, ⟨_, rfl⟩, hW, hsame.mono (by decide) (by decide)⟩)
  show own_QGL Z q1 h0 n0 _ T2.heap _
  rw [eq2]
  exact ⟨rfl, N2, rfl⟩
theorem own_dprog_35_method_19_code_0 : decode prog_35_method_19_code 0 = .ok (.iload_n 0, 1) := by decide +kernel
theorem own_dprog_35_method_19_code_1 : decode prog_35_method_19_code 1 = .ok (.sipush 255, 3) := by decide +kernel
theorem own_dprog_35_method_19_code_4 : decode prog_35_method_19_code 4 = .ok (.iand, 1) := by decide +kernel
theorem own_dprog_35_method_19_code_5 : decode prog_35_method_19_code 5 = .ok (.i2l, 1) := by decide +kernel
theorem own_dprog_35_method_19_code_6 : decode prog_35_method_19_code 6 = .ok (.bipush 64, 2) := by decide +kernel
theorem own_dprog_35_method_19_code_8 : decode prog_35_method_19_code 8 = .ok (.bipush 8, 2) := by decide +kernel
theorem own_dprog_35_method_19_code_10 : decode prog_35_method_19_code 10 = .ok (.iload_n 1, 1) := by decide +kernel
theorem own_dprog_35_method_19_code_11 : decode prog_35_method_19_code 11 = .ok (.iconst 1, 1) := by decide +kernel
theorem own_dprog_35_method_19_code_12 : decode prog_35_method_19_code 12 = .ok (.iadd, 1) := by decide +kernel
theorem own_dprog_35_method_19_code_13 : decode prog_35_method_19_code 13 = .ok (.imul, 1) := by decide +kernel
theorem own_dprog_35_method_19_code_14 : decode prog_35_method_19_code 14 = .ok (.isub, 1) := by decide +kernel
theorem own_dprog_35_method_19_code_15 : decode prog_35_method_19_code 15 = .ok (.lshl, 1) := by decide +kernel
theorem own_dprog_35_method_19_code_16 : decode prog_35_method_19_code 16 = .ok (.lreturn, 1) := by decide +kernel
theorem own_efLB (m : MethodId) (q1 : Int32) (q2 : Int32) : entryFrame m #[(.int q1), (.int q2)] 2 = mkF m 0 #[.val (.int q1), .val (.int q2)] [] := by first | (simp [entryFrame, mkF, argsToLocals, Value.category]; done) | rfl
def own_QLB (Z : State) (q1 : Int32) (q2 : Int32) (h0 : Heap) (n0 : Nat) (rv__ : Option Value) (h : Heap) (rL__ : List Loc) : Prop := rv__ = some (.long (own_low q1 q2)) ∧ Fr n0 rL__ ∧ h = h0
abbrev own_RLB : Room := { frames := 0, cells := 0, slots := 0, locals := 0 }
set_option maxRecDepth 65536 in
set_option maxHeartbeats 40000000 in
theorem own_rmLB (l : Launch) (Z : State) (a0 : Array Value) (hw : ∀ d ∈ tables_1, d.before a0 Z = true) (ws : List Jvm.Cond) (q1 : Int32) (q2 : Int32) (h0 : Heap) (n0 : Nat) (Z0 : n0 ≤ h0.size)  :
    MetFree l (⟨"com/example/shiftwise/shiftwise/search/FactorSkip", "lowByte", "(II)J"⟩ : MethodName) (head1 (Jvm.Cond.code (⟨"com/example/shiftwise/shiftwise/search/FactorSkip", "lowByte", "(II)J"⟩ : MethodName) prog_35_method_19_code 2 (some .long) :: ws) own_RLB) (fun aa__ U => aa__ = #[(.int q1), (.int q2)] ∧ Z.Warmed39 U.vm ∧ U.heap = h0) (fun _ _ _ _ _ => True) (fun _ U oc_ U' => ∃ rv__ rL__, oc_ = .returned rv__ ∧ own_QLB Z q1 q2 h0 n0 rv__ U'.heap rL__ ∧ FrameEnd U oc_ U' rL__ own_RLB.cells own_RLB.slots) := by
  refine MetFree.of_bodySF (plainFor_of_name own_pn_com_example_shiftwise_shiftwise_search_FactorSkip) hisR ?_
  intro p e s m args below meth c s₁ Bd hml0 hP hK
  obtain ⟨rfl, hZ, hh⟩ := hP
  have hx := Bd.exec
  have hby := Bd.bytes
  have hml : c.maxLocals = 2 := hml0
  have hown : s.vm.findClass "com/example/shiftwise/shiftwise/search/FactorSkip" = some m.cls := findClass_of_methodNamed Bd.named
  have hnm := (name_of_methodNamed Bd.named Bd.method).1
  have X0 : Stand p l e own_RLB s m #[(.int q1), (.int q2)] below meth c s₁ [] 0 0 := Stand.of_body Bd
  have e0 : s₁.heap = h0 := by rw [← hh, Bd.state]; rfl
  have N0 := Fr.nil n0
  refine own_in (fun _ k => castTop (own_efLB m q1 q2) k) ?_
  intro RR hRR
  show own_Go p.tables e below RR (s₁.setTop (mkF m 0 #[.val (.int q1), .val (.int q2)] []))
  refine own_st (fun _ k => XS.iloadN X0.here hx rfl (hb hby own_dprog_35_method_19_code_0) rfl (XS.sipush X0.here hx rfl (hb hby own_dprog_35_method_19_code_1) (XS.iand X0.here hx rfl (hb hby own_dprog_35_method_19_code_4) rfl (XS.i2l X0.here hx rfl (hb hby own_dprog_35_method_19_code_5) rfl (XS.bipush X0.here hx rfl (hb hby own_dprog_35_method_19_code_6) (XS.bipush X0.here hx rfl (hb hby own_dprog_35_method_19_code_8) (XS.iloadN X0.here hx rfl (hb hby own_dprog_35_method_19_code_10) rfl (XS.iconst X0.here hx rfl (hb hby own_dprog_35_method_19_code_11) k)))))))) ?_
  show own_Go p.tables e below RR (s₁.setTop (mkF m 12 #[.val (.int q1), .val (.int q2)] [(.int (1 : Int32)), (.int q2), (.int (8 : Int32)), (.int (64 : Int32)), (.long ((q1 &&& (255 : Int32)).toInt64))]))
  refine own_st (fun _ k => XS.iadd X0.here hx rfl (hb hby own_dprog_35_method_19_code_12) rfl (XS.imul X0.here hx rfl (hb hby own_dprog_35_method_19_code_13) rfl (XS.isub X0.here hx rfl (hb hby own_dprog_35_method_19_code_14) rfl (XS.lshl X0.here hx rfl (hb hby own_dprog_35_method_19_code_15) rfl k)))) ?_
  show own_Go p.tables e below RR (s₁.setTop (mkF m 16 #[.val (.int q1), .val (.int q2)] [(.long (((q1 &&& (255 : Int32)).toInt64) <<< (((64 : Int32) - ((8 : Int32) * (q2 + (1 : Int32)))) &&& 0x3f).toInt64))]))
  obtain ⟨fs, hrt_, hrun, hended, hW, hsame⟩ := X0.leave (v := some (.long (((q1 &&& (255 : Int32)).toInt64) <<< (((64 : Int32) - ((8 : Int32) * (q2 + (1 : Int32)))) &&& 0x3f).toInt64))) (fun h => by rw [Bd.returns] at h; cases h)
  refine own_fin (retOut X0 hx Bd.returns rfl (Or.inr (Or.inl ⟨rfl, rfl, _, rfl⟩)) (hb hby own_dprog_35_method_19_code_16) hrt_) (hRR _ ⟨_, hrun, hended, _, _, rfl, ?_, ⟨_, rfl⟩, hW, hsame.mono (by decide) (by decide)⟩)
  show own_QLB Z q1 q2 h0 n0 _ s₁.heap _
  rw [e0]
  exact ⟨rfl, N0, rfl⟩
theorem own_dprog_35_method_20_code_0 : decode prog_35_method_20_code 0 = .ok (.lload_n 0, 1) := by decide +kernel
theorem own_dprog_35_method_20_code_1 : decode prog_35_method_20_code 1 = .ok (.ldc2_w 183, 3) := by decide +kernel
theorem own_dprog_35_method_20_code_4 : decode prog_35_method_20_code 4 = .ok (.lmul, 1) := by decide +kernel
theorem own_dprog_35_method_20_code_5 : decode prog_35_method_20_code 5 = .ok (.bipush 51, 2) := by decide +kernel
theorem own_dprog_35_method_20_code_7 : decode prog_35_method_20_code 7 = .ok (.lushr, 1) := by decide +kernel
theorem own_dprog_35_method_20_code_8 : decode prog_35_method_20_code 8 = .ok (.l2i, 1) := by decide +kernel
theorem own_dprog_35_method_20_code_9 : decode prog_35_method_20_code 9 = .ok (.ireturn, 1) := by decide +kernel
theorem own_efTI (m : MethodId) (q1 : Int64) : entryFrame m #[(.long q1)] 2 = mkF m 0 #[.val (.long q1), .second] [] := by first | (simp [entryFrame, mkF, argsToLocals, Value.category]; done) | rfl
def own_QTI (Z : State) (q1 : Int64) (h0 : Heap) (n0 : Nat) (rv__ : Option Value) (h : Heap) (rL__ : List Loc) : Prop := rv__ = some (.int ((((q1 * (-7046029254386353131 : Int64)).toUInt64 >>> ((51 : Int32) &&& 0x3f).toInt64.toUInt64).toInt64).toInt32)) ∧ Fr n0 rL__ ∧ h = h0
abbrev own_RTI : Room := { frames := 0, cells := 0, slots := 0, locals := 0 }
set_option maxRecDepth 65536 in
set_option maxHeartbeats 40000000 in
theorem own_rmTI (l : Launch) (Z : State) (a0 : Array Value) (hw : ∀ d ∈ tables_1, d.before a0 Z = true) (ws : List Jvm.Cond) (q1 : Int64) (h0 : Heap) (n0 : Nat) (Z0 : n0 ≤ h0.size)  :
    MetFree l (⟨"com/example/shiftwise/shiftwise/search/FactorSkip", "tableIndex", "(J)I"⟩ : MethodName) (head1 (Jvm.Cond.code (⟨"com/example/shiftwise/shiftwise/search/FactorSkip", "tableIndex", "(J)I"⟩ : MethodName) prog_35_method_20_code 2 (some .int) :: ws) own_RTI) (fun aa__ U => aa__ = #[(.long q1)] ∧ Z.Warmed39 U.vm ∧ U.heap = h0) (fun _ _ _ _ _ => True) (fun _ U oc_ U' => ∃ rv__ rL__, oc_ = .returned rv__ ∧ own_QTI Z q1 h0 n0 rv__ U'.heap rL__ ∧ FrameEnd U oc_ U' rL__ own_RTI.cells own_RTI.slots) := by
  refine MetFree.of_bodySF (plainFor_of_name own_pn_com_example_shiftwise_shiftwise_search_FactorSkip) hisR ?_
  intro p e s m args below meth c s₁ Bd hml0 hP hK
  obtain ⟨rfl, hZ, hh⟩ := hP
  have hx := Bd.exec
  have hby := Bd.bytes
  have hml : c.maxLocals = 2 := hml0
  have hown : s.vm.findClass "com/example/shiftwise/shiftwise/search/FactorSkip" = some m.cls := findClass_of_methodNamed Bd.named
  have hnm := (name_of_methodNamed Bd.named Bd.method).1
  have X0 : Stand p l e own_RTI s m #[(.long q1)] below meth c s₁ [] 0 0 := Stand.of_body Bd
  have e0 : s₁.heap = h0 := by rw [← hh, Bd.state]; rfl
  have N0 := Fr.nil n0
  refine own_in (fun _ k => castTop (own_efTI m q1) k) ?_
  intro RR hRR
  show own_Go p.tables e below RR (s₁.setTop (mkF m 0 #[.val (.long q1), .second] []))
  refine own_st (fun _ k => XS.lloadN X0.here hx rfl (hb hby own_dprog_35_method_20_code_0) rfl (X0.ldc2Long hx hown (mvT hZ (hw _ (List.mem_of_getElem? (i := 57) rfl))) (g := (mkF m 1 #[.val (.long q1), .second] [(.long q1)])) rfl (hb hby own_dprog_35_method_20_code_1) _ (XS.lmul X0.here hx rfl (hb hby own_dprog_35_method_20_code_4) rfl (XS.bipush X0.here hx rfl (hb hby own_dprog_35_method_20_code_5) (XS.lushr X0.here hx rfl (hb hby own_dprog_35_method_20_code_7) rfl (XS.l2i X0.here hx rfl (hb hby own_dprog_35_method_20_code_8) rfl k)))))) ?_
  show own_Go p.tables e below RR (s₁.setTop (mkF m 9 #[.val (.long q1), .second] [(.int ((((q1 * (-7046029254386353131 : Int64)).toUInt64 >>> ((51 : Int32) &&& 0x3f).toInt64.toUInt64).toInt64).toInt32))]))
  obtain ⟨fs, hrt_, hrun, hended, hW, hsame⟩ := X0.leave (v := some (.int ((((q1 * (-7046029254386353131 : Int64)).toUInt64 >>> ((51 : Int32) &&& 0x3f).toInt64.toUInt64).toInt64).toInt32))) (fun h => by rw [Bd.returns] at h; cases h)
  refine own_fin (retI X0 hx Bd.returns (hb hby own_dprog_35_method_20_code_9) hrt_) (hRR _ ⟨_, hrun, hended, _, _, rfl, ?_, ⟨_, rfl⟩, hW, hsame.mono (by decide) (by decide)⟩)
  show own_QTI Z q1 h0 n0 _ s₁.heap _
  rw [e0]
  exact ⟨rfl, N0, rfl⟩
theorem own_pn_java_util_Arrays : plainName "java/util/Arrays" = true := by first | (simp [plainName, overriddenIn]; done) | decide +kernel
theorem own_djdk_65_method_117_code_0 : decode jdk_65_method_117_code 0 = .ok (.iconst 0, 1) := by decide +kernel
theorem own_djdk_65_method_117_code_1 : decode jdk_65_method_117_code 1 = .ok (.istore_n 2, 1) := by decide +kernel
theorem own_djdk_65_method_117_code_2 : decode jdk_65_method_117_code 2 = .ok (.aload_n 0, 1) := by decide +kernel
theorem own_djdk_65_method_117_code_3 : decode jdk_65_method_117_code 3 = .ok (.arraylength, 1) := by decide +kernel
theorem own_djdk_65_method_117_code_4 : decode jdk_65_method_117_code 4 = .ok (.istore_n 3, 1) := by decide +kernel
theorem own_djdk_65_method_117_code_5 : decode jdk_65_method_117_code 5 = .ok (.iload_n 2, 1) := by decide +kernel
theorem own_djdk_65_method_117_code_6 : decode jdk_65_method_117_code 6 = .ok (.iload_n 3, 1) := by decide +kernel
theorem own_djdk_65_method_117_code_7 : decode jdk_65_method_117_code 7 = .ok (.if_icmp .ge 13, 3) := by decide +kernel
theorem own_djdk_65_method_117_code_10 : decode jdk_65_method_117_code 10 = .ok (.aload_n 0, 1) := by decide +kernel
theorem own_djdk_65_method_117_code_11 : decode jdk_65_method_117_code 11 = .ok (.iload_n 2, 1) := by decide +kernel
theorem own_djdk_65_method_117_code_12 : decode jdk_65_method_117_code 12 = .ok (.aload_n 1, 1) := by decide +kernel
theorem own_djdk_65_method_117_code_13 : decode jdk_65_method_117_code 13 = .ok (.aastore, 1) := by decide +kernel
theorem own_djdk_65_method_117_code_14 : decode jdk_65_method_117_code 14 = .ok (.iinc 2 1, 3) := by decide +kernel
theorem own_djdk_65_method_117_code_17 : decode jdk_65_method_117_code 17 = .ok (.goto (-12), 3) := by decide +kernel
theorem own_djdk_65_method_117_code_20 : decode jdk_65_method_117_code 20 = .ok (.return_, 1) := by decide +kernel
theorem own_efFO256 (m : MethodId) (oa : Addr) (ov : Addr) : entryFrame m #[(.ref oa), (.ref ov)] 4 = mkF m 0 #[.val (.ref oa), .val (.ref ov), .unset, .unset] [] := by first | (simp [entryFrame, mkF, argsToLocals, Value.category]; done) | rfl
def own_QFO256 (Z : State) (oa : Addr) (ov : Addr) (ka : ClassId) (h0 : Heap) (n0 : Nat) (rv__ : Option Value) (h : Heap) (rL__ : List Loc) : Prop := rv__ = none ∧ Fr n0 rL__ ∧ Keep h0 h [oa] ∧ Arv Z h oa ka (.array .long) (256 : Int32) (own_fl 256 256 (.ref ov) .null) .null
abbrev own_RFO256 : Room := { frames := 0, cells := 0, slots := 0, locals := 0 }
set_option maxRecDepth 65536 in
set_option maxHeartbeats 40000000 in
theorem own_rmFO256 (l : Launch) (Z : State) (a0 : Array Value) (hw : ∀ d ∈ tables_1, d.before a0 Z = true) (ws : List Jvm.Cond) (oa : Addr) (ov : Addr) (ka : ClassId) (h0 : Heap) (n0 : Nat) (Z0 : n0 ≤ h0.size) (g_a : n0 ≤ oa) (Va : Arv Z h0 oa ka (.array .long) (256 : Int32) [] .null) (Oa : OvrA Z ka .long "[J") (Ev : Exa Z h0 ov "[J") :
    MetFree l (⟨"java/util/Arrays", "fill", "([Ljava/lang/Object;Ljava/lang/Object;)V"⟩ : MethodName) (head1 (Jvm.Cond.code (⟨"java/util/Arrays", "fill", "([Ljava/lang/Object;Ljava/lang/Object;)V"⟩ : MethodName) jdk_65_method_117_code 4 none :: ws) own_RFO256) (fun aa__ U => aa__ = #[(.ref oa), (.ref ov)] ∧ Z.Warmed39 U.vm ∧ U.heap = h0) (fun _ _ _ _ _ => True) (fun _ U oc_ U' => ∃ rv__ rL__, oc_ = .returned rv__ ∧ own_QFO256 Z oa ov ka h0 n0 rv__ U'.heap rL__ ∧ FrameEnd U oc_ U' rL__ own_RFO256.cells own_RFO256.slots) := by
  refine MetFree.of_bodySF (plainFor_of_name own_pn_java_util_Arrays) hisR ?_
  intro p e s m args below meth c s₁ Bd hml0 hP hK
  obtain ⟨rfl, hZ, hh⟩ := hP
  have hx := Bd.exec
  have hby := Bd.bytes
  have hml : c.maxLocals = 4 := hml0
  have hown : s.vm.findClass "java/util/Arrays" = some m.cls := findClass_of_methodNamed Bd.named
  have hnm := (name_of_methodNamed Bd.named Bd.method).1
  have X0 : Stand p l e own_RFO256 s m #[(.ref oa), (.ref ov)] below meth c s₁ [] 0 0 := Stand.of_body Bd
  have e0 : s₁.heap = h0 := by rw [← hh, Bd.state]; rfl
  have N0 := Fr.nil n0
  refine own_in (fun _ k => castTop (own_efFO256 m oa ov) k) ?_
  intro RR hRR
  show own_Go p.tables e below RR (s₁.setTop (mkF m 0 #[.val (.ref oa), .val (.ref ov), .unset, .unset] []))
  refine own_st (fun _ k => XS.iconst X0.here hx rfl (hb hby own_djdk_65_method_117_code_0) (XS.istoreN X0.here hx rfl (hb hby own_djdk_65_method_117_code_1) rfl (l' := #[.val (.ref oa), .val (.ref ov), .val (.int (0 : Int32)), .unset]) rfl (XS.aloadN X0.here hx rfl (hb hby own_djdk_65_method_117_code_2) rfl rfl k))) ?_
  show own_Go p.tables e below RR (s₁.setTop (mkF m 3 #[.val (.ref oa), .val (.ref ov), .val (.int (0 : Int32)), .unset] [(.ref oa)]))
  obtain ⟨c1, A1, -, s1, m1, -, -⟩ := id Va
  refine own_st (fun _ k => own_len X0 hx hZ e0 A1 s1 m1 (g := (mkF m 3 #[.val (.ref oa), .val (.ref ov), .val (.int (0 : Int32)), .unset] [(.ref oa)])) rfl rfl (hb hby own_djdk_65_method_117_code_3) (XS.istoreN X0.here hx rfl (hb hby own_djdk_65_method_117_code_4) rfl (l' := #[.val (.ref oa), .val (.ref ov), .val (.int (0 : Int32)), .val (.int (256 : Int32))]) rfl k)) ?_
  show own_Go p.tables e below RR (s₁.setTop (mkF m 5 #[.val (.ref oa), .val (.ref ov), .val (.int (0 : Int32)), .val (.int (256 : Int32))] []))
  have loop2 : ∀ (k : Nat) (T2 : State) (lo2 : List Loc) (hh2 : Heap) (xi : Int32) (i_ : Nat) (X2 : Stand p l e own_RFO256 s m #[(.ref oa), (.ref ov)] below meth c T2 lo2 0 0) (e2 : T2.heap = hh2) (N2 : Fr n0 lo2) (K2 : Keep h0 hh2 [oa]) (V2 : Arv Z hh2 oa ka (.array .long) (256 : Int32) (own_fl 256 i_ (.ref ov) .null) .null) (hi_ : xi.toInt = (i_ : Int)) (hle : i_ ≤ 256) (_ : 256 - i_ = k), own_Go p.tables e below RR (T2.setTop (mkF m 5 #[.val (.ref oa), .val (.ref ov), .val (.int xi), .val (.int (256 : Int32))] [])) := by
    intro k
    induction k using Nat.strongRecOn with
    | _ k ih2 =>
      intro T2 lo2 hh2 xi i_ X2 e2 N2 K2 V2 hi_ hle hk
      have z3 : n0 ≤ hh2.size := Nat.le_trans Z0 K2.1
      show own_Go p.tables e below RR (T2.setTop (mkF m 5 #[.val (.ref oa), .val (.ref ov), .val (.int xi), .val (.int (256 : Int32))] []))
      refine own_st (fun _ k => XS.iloadN X2.here hx rfl (hb hby own_djdk_65_method_117_code_5) rfl (XS.iloadN X2.here hx rfl (hb hby own_djdk_65_method_117_code_6) rfl k)) ?_
      show own_Go p.tables e below RR (T2.setTop (mkF m 7 #[.val (.ref oa), .val (.ref ov), .val (.int xi), .val (.int (256 : Int32))] [(.int (256 : Int32)), (.int xi)]))
      by_cases hc7_4 : xi < (256 : Int32)
      · refine own_st (fun _ k => XS.icmpNo X2.here hx rfl (hb hby own_djdk_65_method_117_code_7) rfl (tlt hc7_4).2.1 (XS.aloadN X2.here hx rfl (hb hby own_djdk_65_method_117_code_10) rfl rfl (XS.iloadN X2.here hx rfl (hb hby own_djdk_65_method_117_code_11) rfl (XS.aloadN X2.here hx rfl (hb hby own_djdk_65_method_117_code_12) rfl rfl k)))) ?_
        show own_Go p.tables e below RR (T2.setTop (mkF m 13 #[.val (.ref oa), .val (.ref ov), .val (.int xi), .val (.int (256 : Int32))] [(.ref ov), (.int xi), (.ref oa)]))
        obtain ⟨c5, A5, q5, s5, m5, H5, G5⟩ := id V2
        have f6 := (Ev.keep K2)
        obtain ⟨T7, h7, X7, e7, W7, st7⟩ := stR X2 hx hZ e2 A5 (j := xi) (inb_of s5 ⟨own_nn0 (by omega), hc7_4⟩) rfl (Sto.ofVA A5 q5 Oa (Ins.self f6)) (g := (mkF m 13 #[.val (.ref oa), .val (.ref ov), .val (.int xi), .val (.int (256 : Int32))] [(.ref ov), (.int xi), (.ref oa)])) rfl rfl (hb hby own_djdk_65_method_117_code_13)
        have il7 : i_ < 256 := (by have q := hc7_4; rw [Int32.lt_iff_toInt_lt] at q; have e : (256 : Int32).toInt = 256 := (by decide); omega)
        have U7 := Arv.set A5 q5 s5 m5 H5 G5 rfl W7 i_ (own_nci hi_) (by rw [own_fl_len hle]; exact il7)
        have V7 : Arv Z h7 oa ka (.array .long) (256 : Int32) (own_fl 256 (i_ + 1) (.ref ov) .null) .null := by rw [← own_flS il7]; exact U7
        have N7 := Fr.snoc X7 N2 g_a
        refine own_st st7 ?_
        have z8 : n0 ≤ h7.size := Nat.le_trans z3 (Keep.of_wr W7).1
        show own_Go p.tables e below RR (T7.setTop (mkF m 14 #[.val (.ref oa), .val (.ref ov), .val (.int xi), .val (.int (256 : Int32))] []))
        refine own_st (fun _ k => XS.iinc X7.here hx rfl (hb hby own_djdk_65_method_117_code_14) rfl (l' := #[.val (.ref oa), .val (.ref ov), .val (.int (xi + (1 : Int32))), .val (.int (256 : Int32))]) rfl (XS.goto X7.here hx rfl (pc0 := 17) (pc' := 5) rfl (hb hby own_djdk_65_method_117_code_17) (by decide) (by decide) k)) ?_
        show own_Go p.tables e below RR (T7.setTop (mkF m 5 #[.val (.ref oa), .val (.ref ov), .val (.int (xi + (1 : Int32))), .val (.int (256 : Int32))] []))
        exact ih2 _ (by have q : i_ < 256 := (by have q := hc7_4; rw [Int32.lt_iff_toInt_lt] at q; have e : (256 : Int32).toInt = 256 := (by decide); omega); omega) T7 _ h7 (xi + (1 : Int32)) (i_ + 1) X7 e7 N7 (K2.wr W7 (Or.inl (List.mem_of_getElem? (i := 0) rfl))) V7 (own_inc hi_ hc7_4) (by have q := hc7_4; rw [Int32.lt_iff_toInt_lt] at q; have e : (256 : Int32).toInt = 256 := (by decide); omega) rfl
      · refine own_st (fun _ k => XS.icmpYes X2.here hx rfl (pc0 := 7) (pc' := 20) rfl (hb hby own_djdk_65_method_117_code_7) rfl (flt hc7_4).2.1 (by decide) (by decide) k) ?_
        show own_Go p.tables e below RR (T2.setTop (mkF m 20 #[.val (.ref oa), .val (.ref ov), .val (.int xi), .val (.int (256 : Int32))] []))
        obtain ⟨fs, hrt_, hrun, hended, hW, hsame⟩ := X2.leave (v := none) (fun _ => rfl)
        refine own_fin (X2.returnOut hx Bd.returns (hb hby own_djdk_65_method_117_code_20) hrt_) (hRR _ ⟨_, hrun, hended, _, _, rfl, ?_, ⟨_, rfl⟩, hW, hsame.mono (by decide) (by decide)⟩)
        show own_QFO256 Z oa ov ka h0 n0 _ T2.heap _
        rw [e2]
        obtain rfl : i_ = 256 := by have q := hc7_4; rw [Int32.lt_iff_toInt_lt] at q; have e : (256 : Int32).toInt = 256 := (by decide); omega
        exact ⟨rfl, N2, K2, V2⟩
  exact loop2 _ s₁ _ h0 (0 : Int32) 0 X0 e0 N0 (Keep.refl h0 [oa]) (Va.pad (pad_rep [] .null 256)) (by decide) (by decide) rfl
theorem own_dprog_35_method_22_code_0 : decode prog_35_method_22_code 0 = .ok (.iload_n 2, 1) := by decide +kernel
theorem own_dprog_35_method_22_code_1 : decode prog_35_method_22_code 1 = .ok (.bipush 8, 2) := by decide +kernel
theorem own_dprog_35_method_22_code_3 : decode prog_35_method_22_code 3 = .ok (.iushr, 1) := by decide +kernel
theorem own_dprog_35_method_22_code_4 : decode prog_35_method_22_code 4 = .ok (.anewarray 188, 3) := by decide +kernel
theorem own_dprog_35_method_22_code_7 : decode prog_35_method_22_code 7 = .ok (.astore_n 3, 1) := by decide +kernel
theorem own_dprog_35_method_22_code_8 : decode prog_35_method_22_code 8 = .ok (.aload_n 3, 1) := by decide +kernel
theorem own_dprog_35_method_22_code_9 : decode prog_35_method_22_code 9 = .ok (.getstatic 190, 3) := by decide +kernel
theorem own_pd___Ljava_lang_Object_Ljava_lang_Object__V : parseMethodDescriptor "([Ljava/lang/Object;Ljava/lang/Object;)V" = some ⟨[(.array (.object "java/lang/Object")), (.object "java/lang/Object")], none⟩ := by decide +kernel
theorem own_dprog_35_method_22_code_12 : decode prog_35_method_22_code 12 = .ok (.invokestatic 193, 3) := by decide +kernel
theorem own_dprog_35_method_22_code_15 : decode prog_35_method_22_code 15 = .ok (.aload_n 0, 1) := by decide +kernel
theorem own_dprog_35_method_22_code_16 : decode prog_35_method_22_code 16 = .ok (.arraylength, 1) := by decide +kernel
theorem own_dprog_35_method_22_code_17 : decode prog_35_method_22_code 17 = .ok (.iload_n 1, 1) := by decide +kernel
theorem own_dprog_35_method_22_code_18 : decode prog_35_method_22_code 18 = .ok (.isub, 1) := by decide +kernel
theorem own_dprog_35_method_22_code_19 : decode prog_35_method_22_code 19 = .ok (.istore 4, 2) := by decide +kernel
theorem own_dprog_35_method_22_code_21 : decode prog_35_method_22_code 21 = .ok (.iconst 0, 1) := by decide +kernel
theorem own_dprog_35_method_22_code_22 : decode prog_35_method_22_code 22 = .ok (.istore 5, 2) := by decide +kernel
theorem own_dprog_35_method_22_code_24 : decode prog_35_method_22_code 24 = .ok (.iload 5, 2) := by decide +kernel
theorem own_dprog_35_method_22_code_26 : decode prog_35_method_22_code 26 = .ok (.iload_n 1, 1) := by decide +kernel
theorem own_dprog_35_method_22_code_27 : decode prog_35_method_22_code 27 = .ok (.if_icmp .ge 62, 3) := by decide +kernel
theorem own_dprog_35_method_22_code_30 : decode prog_35_method_22_code 30 = .ok (.aload_n 0, 1) := by decide +kernel
theorem own_dprog_35_method_22_code_31 : decode prog_35_method_22_code 31 = .ok (.iload 4, 2) := by decide +kernel
theorem own_dprog_35_method_22_code_33 : decode prog_35_method_22_code 33 = .ok (.iload 5, 2) := by decide +kernel
theorem own_dprog_35_method_22_code_35 : decode prog_35_method_22_code 35 = .ok (.iadd, 1) := by decide +kernel
theorem own_dprog_35_method_22_code_36 : decode prog_35_method_22_code 36 = .ok (.iaload, 1) := by decide +kernel
theorem own_dprog_35_method_22_code_37 : decode prog_35_method_22_code 37 = .ok (.istore 6, 2) := by decide +kernel
theorem own_dprog_35_method_22_code_39 : decode prog_35_method_22_code 39 = .ok (.iload 6, 2) := by decide +kernel
theorem own_dprog_35_method_22_code_41 : decode prog_35_method_22_code 41 = .ok (.bipush 8, 2) := by decide +kernel
theorem own_dprog_35_method_22_code_43 : decode prog_35_method_22_code 43 = .ok (.iushr, 1) := by decide +kernel
theorem own_dprog_35_method_22_code_44 : decode prog_35_method_22_code 44 = .ok (.istore 7, 2) := by decide +kernel
theorem own_dprog_35_method_22_code_46 : decode prog_35_method_22_code 46 = .ok (.aload_n 3, 1) := by decide +kernel
theorem own_dprog_35_method_22_code_47 : decode prog_35_method_22_code 47 = .ok (.iload 7, 2) := by decide +kernel
theorem own_dprog_35_method_22_code_49 : decode prog_35_method_22_code 49 = .ok (.aaload, 1) := by decide +kernel
theorem own_dprog_35_method_22_code_50 : decode prog_35_method_22_code 50 = .ok (.getstatic 190, 3) := by decide +kernel
theorem own_dprog_35_method_22_code_53 : decode prog_35_method_22_code 53 = .ok (.if_acmp .ne 12, 3) := by decide +kernel
theorem own_dprog_35_method_22_code_56 : decode prog_35_method_22_code 56 = .ok (.aload_n 3, 1) := by decide +kernel
theorem own_dprog_35_method_22_code_57 : decode prog_35_method_22_code 57 = .ok (.iload 7, 2) := by decide +kernel
theorem own_dprog_35_method_22_code_59 : decode prog_35_method_22_code 59 = .ok (.sipush 256, 3) := by decide +kernel
theorem own_dprog_35_method_22_code_62 : decode prog_35_method_22_code 62 = .ok (.newarray .long, 2) := by decide +kernel
theorem own_dprog_35_method_22_code_64 : decode prog_35_method_22_code 64 = .ok (.aastore, 1) := by decide +kernel
theorem own_dprog_35_method_22_code_65 : decode prog_35_method_22_code 65 = .ok (.aload_n 3, 1) := by decide +kernel
theorem own_dprog_35_method_22_code_66 : decode prog_35_method_22_code 66 = .ok (.iload 7, 2) := by decide +kernel
theorem own_dprog_35_method_22_code_68 : decode prog_35_method_22_code 68 = .ok (.aaload, 1) := by decide +kernel
theorem own_dprog_35_method_22_code_69 : decode prog_35_method_22_code 69 = .ok (.iload 6, 2) := by decide +kernel
theorem own_dprog_35_method_22_code_71 : decode prog_35_method_22_code 71 = .ok (.sipush 255, 3) := by decide +kernel
theorem own_dprog_35_method_22_code_74 : decode prog_35_method_22_code 74 = .ok (.iand, 1) := by decide +kernel
theorem own_dprog_35_method_22_code_75 : decode prog_35_method_22_code 75 = .ok (.dup2, 1) := by decide +kernel
theorem own_dprog_35_method_22_code_76 : decode prog_35_method_22_code 76 = .ok (.laload, 1) := by decide +kernel
theorem own_dprog_35_method_22_code_77 : decode prog_35_method_22_code 77 = .ok (.lconst 1, 1) := by decide +kernel
theorem own_dprog_35_method_22_code_78 : decode prog_35_method_22_code 78 = .ok (.iload 5, 2) := by decide +kernel
theorem own_dprog_35_method_22_code_80 : decode prog_35_method_22_code 80 = .ok (.lshl, 1) := by decide +kernel
theorem own_dprog_35_method_22_code_81 : decode prog_35_method_22_code 81 = .ok (.lor, 1) := by decide +kernel
theorem own_dprog_35_method_22_code_82 : decode prog_35_method_22_code 82 = .ok (.lastore, 1) := by decide +kernel
theorem own_dprog_35_method_22_code_83 : decode prog_35_method_22_code 83 = .ok (.iinc 5 1, 3) := by decide +kernel
theorem own_dprog_35_method_22_code_86 : decode prog_35_method_22_code 86 = .ok (.goto (-62), 3) := by decide +kernel
theorem own_dprog_35_method_22_code_89 : decode prog_35_method_22_code 89 = .ok (.aload_n 3, 1) := by decide +kernel
theorem own_dprog_35_method_22_code_90 : decode prog_35_method_22_code 90 = .ok (.areturn, 1) := by decide +kernel
theorem own_efPO256 (m : MethodId) (pa : Addr) (wd : Int32) : entryFrame m #[(.ref pa), (.int wd), (.int (65536 : Int32))] 8 = mkF m 0 #[.val (.ref pa), .val (.int wd), .val (.int (65536 : Int32)), .unset, .unset, .unset, .unset, .unset] [] := by first | (simp [entryFrame, mkF, argsToLocals, Value.category]; done) | rfl
def own_QPO256 (Z : State) (pa : Addr) (kp : ClassId) (ln : Int32) (pl : List Value) (va : Int32) (vb : Int32) (wd : Int32) (ab : Addr) (h0 : Heap) (n0 : Nat) (rv__ : Option Value) (h : Heap) (rL__ : List Loc) : Prop := ∃ r__ : Addr, rv__ = some (.ref r__) ∧ Fr n0 rL__ ∧ Keep h0 h []
abbrev own_RPO256 : Room := { frames := 1, cells := 4, slots := 1024, locals := 15 }
set_option maxRecDepth 65536 in
set_option maxHeartbeats 40000000 in
theorem own_rmPO256 (l : Launch) (Z : State) (a0 : Array Value) (hw : ∀ d ∈ tables_1, d.before a0 Z = true) (ws : List Jvm.Cond) (pa : Addr) (kp : ClassId) (ln : Int32) (pl : List Value) (va : Int32) (vb : Int32) (wd : Int32) (ab : Addr) (h0 : Heap) (n0 : Nat) (Z0 : n0 ≤ h0.size) (Vp : Arv Z h0 pa kp .int ln pl (.int (0 : Int32))) (hpat : own_pat pl va vb) (hln : 5 ≤ ln.toInt ∧ ln.toInt ≤ 132) (hwd : 4 ≤ wd.toInt ∧ wd.toInt ≤ ln.toInt) (hva : 0 ≤ va.toInt ∧ va.toInt < 65536) (hvb : 0 ≤ vb.toInt ∧ vb.toInt < 65536) (Sa : Sta Z h0 "com/example/shiftwise/shiftwise/search/FactorSkip" "ABSENT" "[J" (.ref ab)) (Ea : Exa Z h0 ab "[J") :
    MetFree l (⟨"com/example/shiftwise/shiftwise/search/FactorSkip", "positions", "([III)[[J"⟩ : MethodName) (head1 (Jvm.Cond.code (⟨"com/example/shiftwise/shiftwise/search/FactorSkip", "positions", "([III)[[J"⟩ : MethodName) prog_35_method_22_code 8 (some (.array (.array .long))) :: ws) own_RPO256) (fun aa__ U => aa__ = #[(.ref pa), (.int wd), (.int (65536 : Int32))] ∧ Z.Warmed39 U.vm ∧ U.heap = h0) (fun _ _ _ _ _ => True) (fun _ U oc_ U' => ∃ rv__ rL__, oc_ = .returned rv__ ∧ own_QPO256 Z pa kp ln pl va vb wd ab h0 n0 rv__ U'.heap rL__ ∧ FrameEnd U oc_ U' rL__ own_RPO256.cells own_RPO256.slots) := by
  refine MetFree.of_bodySF (plainFor_of_name own_pn_com_example_shiftwise_shiftwise_search_FactorSkip) hisR ?_
  intro p e s m args below meth c s₁ Bd hml0 hP hK
  obtain ⟨rfl, hZ, hh⟩ := hP
  have hx := Bd.exec
  have hby := Bd.bytes
  have hml : c.maxLocals = 8 := hml0
  have hown : s.vm.findClass "com/example/shiftwise/shiftwise/search/FactorSkip" = some m.cls := findClass_of_methodNamed Bd.named
  have hnm := (name_of_methodNamed Bd.named Bd.method).1
  have X0 : Stand p l e own_RPO256 s m #[(.ref pa), (.int wd), (.int (65536 : Int32))] below meth c s₁ [] 0 0 := Stand.of_body Bd
  have e0 : s₁.heap = h0 := by rw [← hh, Bd.state]; rfl
  have N0 := Fr.nil n0
  refine own_in (fun _ k => castTop (own_efPO256 m pa wd) k) ?_
  intro RR hRR
  show own_Go p.tables e below RR (s₁.setTop (mkF m 0 #[.val (.ref pa), .val (.int wd), .val (.int (65536 : Int32)), .unset, .unset, .unset, .unset, .unset] []))
  refine own_st (fun _ k => XS.iloadN X0.here hx rfl (hb hby own_dprog_35_method_22_code_0) rfl (XS.bipush X0.here hx rfl (hb hby own_dprog_35_method_22_code_1) (XS.iushr X0.here hx rfl (hb hby own_dprog_35_method_22_code_3) rfl k))) ?_
  show own_Go p.tables e below RR (s₁.setTop (mkF m 4 #[.val (.ref pa), .val (.int wd), .val (.int (65536 : Int32)), .unset, .unset, .unset, .unset, .unset] [(.int (((65536 : Int32).toUInt32 >>> ((8 : Int32) &&& 31).toUInt32).toInt32))]))
  rw [show (((65536 : Int32).toUInt32 >>> ((8 : Int32) &&& 31).toUInt32).toInt32) = (256 : Int32) from by decide]
  show own_Go p.tables e below RR (s₁.setTop (mkF m 4 #[.val (.ref pa), .val (.int wd), .val (.int (65536 : Int32)), .unset, .unset, .unset, .unset, .unset] [(.int (256 : Int32))]))
  obtain ⟨T1, h1, k1, X1, e1, E1, A1, B1, O1, st1⟩ := newRA X0 hx hZ hown (ty := .long) (C := "[J") (by decide) (hw _ (List.mem_of_getElem? (i := 35) rfl)) (hw _ (List.mem_of_getElem? (i := 36) rfl)) e0 (g := (mkF m 4 #[.val (.ref pa), .val (.int wd), .val (.int (65536 : Int32)), .unset, .unset, .unset, .unset, .unset] [(.int (256 : Int32))])) rfl (hb hby own_dprog_35_method_22_code_4) rfl (by decide) (cap := 256) (by decide) (by decide) (by decide) (by decide) (ad := "[[J") (by decide)
  obtain ⟨b1, gb1⟩ : ∃ z, z = h0.size := ⟨_, rfl⟩
  rw [← gb1] at A1 B1 st1
  have ge1 : n0 ≤ b1 := Nat.le_trans Z0 (Nat.le_of_eq gb1.symm)
  have sz1 : h0.size ≤ b1 := Nat.le_trans (Keep.refl h0 []).1 (Nat.le_of_eq gb1.symm)
  refine own_st st1 ?_
  have z2 : n0 ≤ h1.size := Nat.le_trans Z0 E1.1
  have kk3 : Keep h0 h1 [] := (Keep.refl h0 []).ext E1
  have V1 : Arv Z h1 b1 k1 (.array .long) (256 : Int32) [] .null := Arv.new A1 (by decide)
  show own_Go p.tables e below RR (T1.setTop (mkF m 7 #[.val (.ref pa), .val (.int wd), .val (.int (65536 : Int32)), .unset, .unset, .unset, .unset, .unset] [(.ref b1)]))
  refine own_st (fun _ k => XS.astoreN X1.here hx rfl (hb hby own_dprog_35_method_22_code_7) rfl rfl (l' := #[.val (.ref pa), .val (.int wd), .val (.int (65536 : Int32)), .val (.ref b1), .unset, .unset, .unset, .unset]) rfl (XS.aloadN X1.here hx rfl (hb hby own_dprog_35_method_22_code_8) rfl rfl k)) ?_
  show own_Go p.tables e below RR (T1.setTop (mkF m 9 #[.val (.ref pa), .val (.int wd), .val (.int (65536 : Int32)), .val (.ref b1), .unset, .unset, .unset, .unset] [(.ref b1)]))
  have f4 := (Sa.ext E1)
  obtain ⟨T5, X5, e5, st5⟩ := getS2 X1 hx hZ hown (host := "") (Or.inl (hw _ (List.mem_of_getElem? (i := 37) rfl))) Via.refl e1 f4 (g := (mkF m 9 #[.val (.ref pa), .val (.int wd), .val (.int (65536 : Int32)), .val (.ref b1), .unset, .unset, .unset, .unset] [(.ref b1)])) rfl (hb hby own_dprog_35_method_22_code_9)
  refine own_st st5 ?_
  show own_Go p.tables e below RR (T5.setTop (mkF m 12 #[.val (.ref pa), .val (.int wd), .val (.int (65536 : Int32)), .val (.ref b1), .unset, .unset, .unset, .unset] [(.ref ab), (.ref b1)]))
  have f6 := (Ea.ext E1)
  obtain ⟨_, _, ⟨T7, L7, k7, n7⟩, -, X7, ⟨Lc7, hQ7, l7, y7, z7⟩, st7⟩ := Jvm.LawKit.callS X5 hx (y := (⟨"java/util/Arrays", "fill", "([Ljava/lang/Object;Ljava/lang/Object;)V"⟩ : MethodName)) hown (mvT hZ (hw _ (List.mem_of_getElem? (i := 39) rfl))) (mvT hZ (hw _ (List.mem_of_getElem? (i := 40) rfl))) (mvT hZ (hw _ (List.mem_of_getElem? (i := 41) rfl))) (mvT hZ (hw _ (List.mem_of_getElem? (i := 42) rfl))) (by decide) (backOf (W := 0) (own_rmFO256 l Z a0 hw [] b1 ab k1 h1 n0 z2 ge1 V1 O1 f6) hZ (hw _ (List.mem_of_getElem? (i := 42) rfl)) (hw _ (List.mem_of_getElem? (i := 41) rfl)) (by decide) (by decide)) (g := (mkF m 12 #[.val (.ref pa), .val (.int wd), .val (.int (65536 : Int32)), .val (.ref b1), .unset, .unset, .unset, .unset] [(.ref ab), (.ref b1)])) rfl (by rw [hml]; rfl) (argsL := [(.ref b1), (.ref ab)]) (rest := []) (lenOf own_pd___Ljava_lang_Object_Ljava_lang_Object__V rfl) rfl (by show 2 * 0 + _ ≤ _; exact Nat.le_of_eq rfl) (hb hby own_dprog_35_method_22_code_12) (fun _ _ => ⟨rfl, e5, (by decide : 1 + 0 ≤ _), (by decide : 256 + 0 ≤ _)⟩)
  dsimp only [Pt.U, Pt.locs, Pt.cells, Pt.slots] at X7 l7 y7 z7 st7 hQ7
  subst l7 y7 z7
  obtain ⟨rfl, Nq7, Kq7, Vq7⟩ := hQ7
  have N7 := Fr.app N0 Nq7
  refine own_st st7 ?_
  have z8 : n0 ≤ T7.heap.size := Nat.le_trans z2 Kq7.1
  have kk9 : Keep h0 T7.heap [] := kk3.trans Kq7 (allS (Or.inr sz1) all0)
  have I0_ : own_I Z T7.heap T7.heap.size ab 256 (own_fl 256 256 (.ref ab) .null) := own_I0 _ _ _ _ _ _
  have U0_ : own_U (own_fl 256 256 (.ref ab) .null) ab (((0 : Int32).toUInt32 >>> ((8 : Int32) &&& 31).toUInt32).toInt32).toNatClampNeg ((va.toUInt32 >>> ((8 : Int32) &&& 31).toUInt32).toInt32).toNatClampNeg ((vb.toUInt32 >>> ((8 : Int32) &&& 31).toUInt32).toInt32).toNatClampNeg 0 := own_U0 _ _ _ _ _
  have blt : b1 < T7.heap.size := Vq7.lt
  have f10 := (f6.keep Kq7)
  have alt : ab < T7.heap.size := f10.lt
  show own_Go p.tables e below RR (T7.setTop (mkF m 15 #[.val (.ref pa), .val (.int wd), .val (.int (65536 : Int32)), .val (.ref b1), .unset, .unset, .unset, .unset] []))
  refine own_st (fun _ k => XS.aloadN X7.here hx rfl (hb hby own_dprog_35_method_22_code_15) rfl rfl k) ?_
  show own_Go p.tables e below RR (T7.setTop (mkF m 16 #[.val (.ref pa), .val (.int wd), .val (.int (65536 : Int32)), .val (.ref b1), .unset, .unset, .unset, .unset] [(.ref pa)]))
  have ne11 : pa ≠ b1 := (Nat.ne_of_lt (Nat.lt_of_lt_of_le Vp.lt (Nat.le_of_eq gb1.symm)))
  have f12 := ((Vp.ext E1).keep Kq7 (ninS ne11 nin0))
  obtain ⟨c13, A13, -, s13, m13, -, -⟩ := id f12
  refine own_st (fun _ k => own_len X7 hx hZ rfl A13 s13 m13 (g := (mkF m 16 #[.val (.ref pa), .val (.int wd), .val (.int (65536 : Int32)), .val (.ref b1), .unset, .unset, .unset, .unset] [(.ref pa)])) rfl rfl (hb hby own_dprog_35_method_22_code_16) (XS.iloadN X7.here hx rfl (hb hby own_dprog_35_method_22_code_17) rfl (XS.isub X7.here hx rfl (hb hby own_dprog_35_method_22_code_18) rfl (XS.istore X7.here hx rfl (hb hby own_dprog_35_method_22_code_19) rfl (l' := #[.val (.ref pa), .val (.int wd), .val (.int (65536 : Int32)), .val (.ref b1), .val (.int (ln - wd)), .unset, .unset, .unset]) rfl (XS.iconst X7.here hx rfl (hb hby own_dprog_35_method_22_code_21) (XS.istore X7.here hx rfl (hb hby own_dprog_35_method_22_code_22) rfl (l' := #[.val (.ref pa), .val (.int wd), .val (.int (65536 : Int32)), .val (.ref b1), .val (.int (ln - wd)), .val (.int (0 : Int32)), .unset, .unset]) rfl k)))))) ?_
  show own_Go p.tables e below RR (T7.setTop (mkF m 24 #[.val (.ref pa), .val (.int wd), .val (.int (65536 : Int32)), .val (.ref b1), .val (.int (ln - wd)), .val (.int (0 : Int32)), .unset, .unset] []))
  show own_Go p.tables e below RR (T7.setTop (mkF m 24 #[.val (.ref pa), .val (.int wd), .val (.int (65536 : Int32)), .val (.ref b1), .val (.int (ln - wd)), .val (.int (0 : Int32)), .unset, .unset] []))
  refine own_st (fun _ k => XS.iload X7.here hx rfl (hb hby own_dprog_35_method_22_code_24) rfl (XS.iloadN X7.here hx rfl (hb hby own_dprog_35_method_22_code_26) rfl k)) ?_
  show own_Go p.tables e below RR (T7.setTop (mkF m 27 #[.val (.ref pa), .val (.int wd), .val (.int (65536 : Int32)), .val (.ref b1), .val (.int (ln - wd)), .val (.int (0 : Int32)), .unset, .unset] [(.int wd), (.int (0 : Int32))]))
  have hc27_14 : (0 : Int32) < wd := (by rw [Int32.lt_iff_toInt_lt]; have e : (0 : Int32).toInt = 0 := (by decide); omega)
  refine own_st (fun _ k => XS.icmpNo X7.here hx rfl (hb hby own_dprog_35_method_22_code_27) rfl (tlt hc27_14).2.1 k) ?_
  show own_Go p.tables e below RR (T7.setTop (mkF m 30 #[.val (.ref pa), .val (.int wd), .val (.int (65536 : Int32)), .val (.ref b1), .val (.int (ln - wd)), .val (.int (0 : Int32)), .unset, .unset] []))
  show own_Go p.tables e below RR (T7.setTop (mkF m 30 #[.val (.ref pa), .val (.int wd), .val (.int (65536 : Int32)), .val (.ref b1), .val (.int (ln - wd)), .val (.int (0 : Int32)), .unset, .unset] []))
  refine own_st (fun _ k => XS.aloadN X7.here hx rfl (hb hby own_dprog_35_method_22_code_30) rfl rfl (XS.iload X7.here hx rfl (hb hby own_dprog_35_method_22_code_31) rfl (XS.iload X7.here hx rfl (hb hby own_dprog_35_method_22_code_33) rfl (XS.iadd X7.here hx rfl (hb hby own_dprog_35_method_22_code_35) rfl k)))) ?_
  show own_Go p.tables e below RR (T7.setTop (mkF m 36 #[.val (.ref pa), .val (.int wd), .val (.int (65536 : Int32)), .val (.ref b1), .val (.int (ln - wd)), .val (.int (0 : Int32)), .unset, .unset] [(.int ((ln - wd) + (0 : Int32))), (.ref pa)]))
  obtain ⟨c15, A15, q15, s15, m15, H15, G15⟩ := id f12
  have ix16 := own_ix (xi := (0 : Int32)) (i := 0) hln hwd (by decide) hc27_14
  obtain ⟨zv16, hzv16, hzd16⟩ := hpat ((ln - wd) + (0 : Int32)).toNatClampNeg (own_tnN (n := 132) ⟨ix16.1, by omega⟩)
  have hzb16 := own_zb (M := 65536) hzd16 (by decide) hva hvb
  have hj16 : 0 ≤ ((zv16.toUInt32 >>> ((8 : Int32) &&& 31).toUInt32).toInt32).toInt ∧ ((zv16.toUInt32 >>> ((8 : Int32) &&& 31).toUInt32).toInt32).toInt < 256 := own_hrN (N := 256) hzb16 (by decide)
  have hjn16 : ((zv16.toUInt32 >>> ((8 : Int32) &&& 31).toUInt32).toInt32).toNatClampNeg < 256 := own_tnN (n := 256) hj16
  have b15 := inb_of (j := ((ln - wd) + (0 : Int32))) s15 ⟨own_nn0 ix16.1, own_ltv rfl ix16.2⟩
  refine own_st (fun _ k => X7.iaload hx (j := ((ln - wd) + (0 : Int32))) (v := (.int zv16)) (by exact A15.1) (State.isArrayOf_alike hZ.alike A15.2.1) A15.2.2 b15 (Has.at H15 b15 hzv16) (g := (mkF m 36 #[.val (.ref pa), .val (.int wd), .val (.int (65536 : Int32)), .val (.ref b1), .val (.int (ln - wd)), .val (.int (0 : Int32)), .unset, .unset] [(.int ((ln - wd) + (0 : Int32))), (.ref pa)])) rfl rfl (hb hby own_dprog_35_method_22_code_36) _ (XS.istore X7.here hx rfl (hb hby own_dprog_35_method_22_code_37) rfl (l' := #[.val (.ref pa), .val (.int wd), .val (.int (65536 : Int32)), .val (.ref b1), .val (.int (ln - wd)), .val (.int (0 : Int32)), .val (.int zv16), .unset]) rfl (XS.iload X7.here hx rfl (hb hby own_dprog_35_method_22_code_39) rfl (XS.bipush X7.here hx rfl (hb hby own_dprog_35_method_22_code_41) (XS.iushr X7.here hx rfl (hb hby own_dprog_35_method_22_code_43) rfl (XS.istore X7.here hx rfl (hb hby own_dprog_35_method_22_code_44) rfl (l' := #[.val (.ref pa), .val (.int wd), .val (.int (65536 : Int32)), .val (.ref b1), .val (.int (ln - wd)), .val (.int (0 : Int32)), .val (.int zv16), .val (.int ((zv16.toUInt32 >>> ((8 : Int32) &&& 31).toUInt32).toInt32))]) rfl k)))))) ?_
  show own_Go p.tables e below RR (T7.setTop (mkF m 46 #[.val (.ref pa), .val (.int wd), .val (.int (65536 : Int32)), .val (.ref b1), .val (.int (ln - wd)), .val (.int (0 : Int32)), .val (.int zv16), .val (.int ((zv16.toUInt32 >>> ((8 : Int32) &&& 31).toUInt32).toInt32))] []))
  have hq16 : (own_fl 256 256 (.ref ab) .null).getD ((zv16.toUInt32 >>> ((8 : Int32) &&& 31).toUInt32).toInt32).toNatClampNeg .null = .ref ab := own_flg hjn16 _ _ _
  show own_Go p.tables e below RR (T7.setTop (mkF m 46 #[.val (.ref pa), .val (.int wd), .val (.int (65536 : Int32)), .val (.ref b1), .val (.int (ln - wd)), .val (.int (0 : Int32)), .val (.int zv16), .val (.int ((zv16.toUInt32 >>> ((8 : Int32) &&& 31).toUInt32).toInt32))] []))
  refine own_st (fun _ k => XS.aloadN X7.here hx rfl (hb hby own_dprog_35_method_22_code_46) rfl rfl (XS.iload X7.here hx rfl (hb hby own_dprog_35_method_22_code_47) rfl k)) ?_
  show own_Go p.tables e below RR (T7.setTop (mkF m 49 #[.val (.ref pa), .val (.int wd), .val (.int (65536 : Int32)), .val (.ref b1), .val (.int (ln - wd)), .val (.int (0 : Int32)), .val (.int zv16), .val (.int ((zv16.toUInt32 >>> ((8 : Int32) &&& 31).toUInt32).toInt32))] [(.int ((zv16.toUInt32 >>> ((8 : Int32) &&& 31).toUInt32).toInt32)), (.ref b1)]))
  obtain ⟨c17, A17, q17, s17, m17, H17, G17⟩ := id Vq7
  have b17 := inb_of (j := ((zv16.toUInt32 >>> ((8 : Int32) &&& 31).toUInt32).toInt32)) s17 (own_inN (n := 256) (by decide) hj16)
  refine own_st (fun _ k => X7.aaload hx (j := ((zv16.toUInt32 >>> ((8 : Int32) &&& 31).toUInt32).toInt32)) (v := (.ref ab)) (by exact A17.1) (State.isArrayOf_alike hZ.alike A17.2.1) rfl A17.2.2 b17 (Has.at H17 b17 hq16) (g := (mkF m 49 #[.val (.ref pa), .val (.int wd), .val (.int (65536 : Int32)), .val (.ref b1), .val (.int (ln - wd)), .val (.int (0 : Int32)), .val (.int zv16), .val (.int ((zv16.toUInt32 >>> ((8 : Int32) &&& 31).toUInt32).toInt32))] [(.int ((zv16.toUInt32 >>> ((8 : Int32) &&& 31).toUInt32).toInt32)), (.ref b1)])) rfl rfl (hb hby own_dprog_35_method_22_code_49) _ k) ?_
  show own_Go p.tables e below RR (T7.setTop (mkF m 50 #[.val (.ref pa), .val (.int wd), .val (.int (65536 : Int32)), .val (.ref b1), .val (.int (ln - wd)), .val (.int (0 : Int32)), .val (.int zv16), .val (.int ((zv16.toUInt32 >>> ((8 : Int32) &&& 31).toUInt32).toInt32))] [(.ref ab)]))
  have f18 := (own_staK f4 Kq7 (allS B1.nostat all0))
  obtain ⟨T19, X19, e19, st19⟩ := getS2 X7 hx hZ hown (host := "") (Or.inl (hw _ (List.mem_of_getElem? (i := 37) rfl))) Via.refl rfl f18 (g := (mkF m 50 #[.val (.ref pa), .val (.int wd), .val (.int (65536 : Int32)), .val (.ref b1), .val (.int (ln - wd)), .val (.int (0 : Int32)), .val (.int zv16), .val (.int ((zv16.toUInt32 >>> ((8 : Int32) &&& 31).toUInt32).toInt32))] [(.ref ab)])) rfl (hb hby own_dprog_35_method_22_code_50)
  refine own_st st19 ?_
  show own_Go p.tables e below RR (T19.setTop (mkF m 53 #[.val (.ref pa), .val (.int wd), .val (.int (65536 : Int32)), .val (.ref b1), .val (.int (ln - wd)), .val (.int (0 : Int32)), .val (.int zv16), .val (.int ((zv16.toUInt32 >>> ((8 : Int32) &&& 31).toUInt32).toInt32))] [(.ref ab), (.ref ab)]))
  refine own_st (fun _ k => Jvm.RoadKit.acmp (g := (mkF m 53 #[.val (.ref pa), .val (.int wd), .val (.int (65536 : Int32)), .val (.ref b1), .val (.int (ln - wd)), .val (.int (0 : Int32)), .val (.int zv16), .val (.int ((zv16.toUInt32 >>> ((8 : Int32) &&& 31).toUInt32).toInt32))] [(.ref ab), (.ref ab)])) X19 hx rfl rfl rfl (pc0 := 53) (pc' := 56) (same := true) rfl (hb hby own_dprog_35_method_22_code_53) rfl (decide_eq_true rfl) (by decide) (by decide) (XS.aloadN X19.here hx rfl (hb hby own_dprog_35_method_22_code_56) rfl rfl (XS.iload X19.here hx rfl (hb hby own_dprog_35_method_22_code_57) rfl (XS.sipush X19.here hx rfl (hb hby own_dprog_35_method_22_code_59) k)))) ?_
  show own_Go p.tables e below RR (T19.setTop (mkF m 62 #[.val (.ref pa), .val (.int wd), .val (.int (65536 : Int32)), .val (.ref b1), .val (.int (ln - wd)), .val (.int (0 : Int32)), .val (.int zv16), .val (.int ((zv16.toUInt32 >>> ((8 : Int32) &&& 31).toUInt32).toInt32))] [(.int (256 : Int32)), (.int ((zv16.toUInt32 >>> ((8 : Int32) &&& 31).toUInt32).toInt32)), (.ref b1)]))
  obtain ⟨T20, h20, k20, X20, e20, E20, A20, B20, st20⟩ := newPE X19 hx hZ (hw _ (List.mem_of_getElem? (i := 44) rfl)) e19 (g := (mkF m 62 #[.val (.ref pa), .val (.int wd), .val (.int (65536 : Int32)), .val (.ref b1), .val (.int (ln - wd)), .val (.int (0 : Int32)), .val (.int zv16), .val (.int ((zv16.toUInt32 >>> ((8 : Int32) &&& 31).toUInt32).toInt32))] [(.int (256 : Int32)), (.int ((zv16.toUInt32 >>> ((8 : Int32) &&& 31).toUInt32).toInt32)), (.ref b1)])) rfl (hb hby own_dprog_35_method_22_code_62) rfl (by decide) (cap := 256) (by decide) (by decide) (by decide) (by decide) (ad := "[J") (by decide)
  obtain ⟨b20, gb20⟩ : ∃ z, z = T7.heap.size := ⟨_, rfl⟩
  rw [← gb20] at A20 B20 st20
  have ge20 : n0 ≤ b20 := Nat.le_trans z8 (Nat.le_of_eq gb20.symm)
  have sz20 : h0.size ≤ b20 := Nat.le_trans kk9.1 (Nat.le_of_eq gb20.symm)
  refine own_st st20 ?_
  have z21 : n0 ≤ h20.size := Nat.le_trans z8 E20.1
  have kk22 : Keep h0 h20 [] := kk9.ext E20
  have V20 : Arv Z h20 b20 k20 .long (256 : Int32) [] (.long (0 : Int64)) := Arv.new A20 (by decide)
  show own_Go p.tables e below RR (T20.setTop (mkF m 64 #[.val (.ref pa), .val (.int wd), .val (.int (65536 : Int32)), .val (.ref b1), .val (.int (ln - wd)), .val (.int (0 : Int32)), .val (.int zv16), .val (.int ((zv16.toUInt32 >>> ((8 : Int32) &&& 31).toUInt32).toInt32))] [(.ref b20), (.int ((zv16.toUInt32 >>> ((8 : Int32) &&& 31).toUInt32).toInt32)), (.ref b1)]))
  have f23 := (Vq7.ext E20)
  obtain ⟨c24, A24, q24, s24, m24, H24, G24⟩ := id f23
  obtain ⟨T25, h25, X25, e25, W25, st25⟩ := stR X20 hx hZ e20 A24 (j := ((zv16.toUInt32 >>> ((8 : Int32) &&& 31).toUInt32).toInt32)) (inb_of s24 (own_inN (n := 256) (by decide) hj16)) rfl (Sto.ofVA A24 q24 O1 (Ins.self B20)) (g := (mkF m 64 #[.val (.ref pa), .val (.int wd), .val (.int (65536 : Int32)), .val (.ref b1), .val (.int (ln - wd)), .val (.int (0 : Int32)), .val (.int zv16), .val (.int ((zv16.toUInt32 >>> ((8 : Int32) &&& 31).toUInt32).toInt32))] [(.ref b20), (.int ((zv16.toUInt32 >>> ((8 : Int32) &&& 31).toUInt32).toInt32)), (.ref b1)])) rfl rfl (hb hby own_dprog_35_method_22_code_64)
  have U25 := Arv.set A24 q24 s24 m24 H24 G24 rfl W25 ((zv16.toUInt32 >>> ((8 : Int32) &&& 31).toUInt32).toInt32).toNatClampNeg rfl (by rw [I0_.1]; exact hjn16)
  have V25 : Arv Z h25 b1 k1 (.array .long) (256 : Int32) ((own_fl 256 256 (.ref ab) .null).set ((zv16.toUInt32 >>> ((8 : Int32) &&& 31).toUInt32).toInt32).toNatClampNeg (.ref b20)) .null := U25
  have hbs25 : T7.heap.size ≤ b20 := Nat.le_trans (Keep.refl T7.heap []).1 (Nat.le_of_eq gb20.symm)
  have I25 := own_I_new I0_ E20 hbs25 V20 W25 blt hjn16
  have Un25 := own_U_new U0_ (own_D hzd16) hq16 (by rw [I0_.1]; exact hjn16) (Nat.ne_of_gt (Nat.lt_of_lt_of_le alt hbs25))
  have Vpd25 := (V20.pad (pad_rep [] (.long (0 : Int64)) 256)).other W25 (Nat.ne_of_gt (Nat.lt_of_lt_of_le blt hbs25))
  have hql25 : ((own_fl 256 256 (.ref ab) .null).set ((zv16.toUInt32 >>> ((8 : Int32) &&& 31).toUInt32).toInt32).toNatClampNeg (.ref b20)).getD ((zv16.toUInt32 >>> ((8 : Int32) &&& 31).toUInt32).toInt32).toNatClampNeg .null = .ref b20 := own_hit I0_.1 hjn16 rfl
  have N25 := Fr.snoc X25 N7 ge1
  refine own_st st25 ?_
  have z26 : n0 ≤ h25.size := Nat.le_trans z21 (Keep.of_wr W25).1
  have kk27 : Keep h0 h25 [] := kk22.wr W25 (Or.inr sz1)
  show own_Go p.tables e below RR (T25.setTop (mkF m 65 #[.val (.ref pa), .val (.int wd), .val (.int (65536 : Int32)), .val (.ref b1), .val (.int (ln - wd)), .val (.int (0 : Int32)), .val (.int zv16), .val (.int ((zv16.toUInt32 >>> ((8 : Int32) &&& 31).toUInt32).toInt32))] []))
  show own_Go p.tables e below RR (T25.setTop (mkF m 65 #[.val (.ref pa), .val (.int wd), .val (.int (65536 : Int32)), .val (.ref b1), .val (.int (ln - wd)), .val (.int (0 : Int32)), .val (.int zv16), .val (.int ((zv16.toUInt32 >>> ((8 : Int32) &&& 31).toUInt32).toInt32))] []))
  refine own_st (fun _ k => XS.aloadN X25.here hx rfl (hb hby own_dprog_35_method_22_code_65) rfl rfl (XS.iload X25.here hx rfl (hb hby own_dprog_35_method_22_code_66) rfl k)) ?_
  show own_Go p.tables e below RR (T25.setTop (mkF m 68 #[.val (.ref pa), .val (.int wd), .val (.int (65536 : Int32)), .val (.ref b1), .val (.int (ln - wd)), .val (.int (0 : Int32)), .val (.int zv16), .val (.int ((zv16.toUInt32 >>> ((8 : Int32) &&& 31).toUInt32).toInt32))] [(.int ((zv16.toUInt32 >>> ((8 : Int32) &&& 31).toUInt32).toInt32)), (.ref b1)]))
  obtain ⟨c28, A28, q28, s28, m28, H28, G28⟩ := id V25
  have b28 := inb_of (j := ((zv16.toUInt32 >>> ((8 : Int32) &&& 31).toUInt32).toInt32)) s28 (own_inN (n := 256) (by decide) hj16)
  refine own_st (fun _ k => X25.aaload hx (j := ((zv16.toUInt32 >>> ((8 : Int32) &&& 31).toUInt32).toInt32)) (v := (.ref b20)) (by rw [e25]; exact A28.1) (State.isArrayOf_alike hZ.alike A28.2.1) rfl A28.2.2 b28 (Has.at H28 b28 hql25) (g := (mkF m 68 #[.val (.ref pa), .val (.int wd), .val (.int (65536 : Int32)), .val (.ref b1), .val (.int (ln - wd)), .val (.int (0 : Int32)), .val (.int zv16), .val (.int ((zv16.toUInt32 >>> ((8 : Int32) &&& 31).toUInt32).toInt32))] [(.int ((zv16.toUInt32 >>> ((8 : Int32) &&& 31).toUInt32).toInt32)), (.ref b1)])) rfl rfl (hb hby own_dprog_35_method_22_code_68) _ (XS.iload X25.here hx rfl (hb hby own_dprog_35_method_22_code_69) rfl (XS.sipush X25.here hx rfl (hb hby own_dprog_35_method_22_code_71) (XS.iand X25.here hx rfl (hb hby own_dprog_35_method_22_code_74) rfl (XT.dup2 X25.here hx rfl (hb hby own_dprog_35_method_22_code_75) rfl rfl rfl k))))) ?_
  show own_Go p.tables e below RR (T25.setTop (mkF m 76 #[.val (.ref pa), .val (.int wd), .val (.int (65536 : Int32)), .val (.ref b1), .val (.int (ln - wd)), .val (.int (0 : Int32)), .val (.int zv16), .val (.int ((zv16.toUInt32 >>> ((8 : Int32) &&& 31).toUInt32).toInt32))] [(.int (zv16 &&& (255 : Int32))), (.ref b20), (.int (zv16 &&& (255 : Int32))), (.ref b20)]))
  obtain ⟨c29, A29, q29, s29, m29, H29, G29⟩ := id Vpd25
  obtain ⟨lv30, hlv30⟩ := own_fitL (k := (zv16 &&& (255 : Int32)).toNatClampNeg) G29 s29 (own_ncl (own_lr _))
  have b29 := inb_of (j := (zv16 &&& (255 : Int32))) s29 (own_i256 (own_lr _))
  refine own_st (fun _ k => X25.laload hx (j := (zv16 &&& (255 : Int32))) (v := (.long lv30)) (by rw [e25]; exact A29.1) (State.isArrayOf_alike hZ.alike A29.2.1) A29.2.2 b29 (Has.at H29 b29 hlv30) (g := (mkF m 76 #[.val (.ref pa), .val (.int wd), .val (.int (65536 : Int32)), .val (.ref b1), .val (.int (ln - wd)), .val (.int (0 : Int32)), .val (.int zv16), .val (.int ((zv16.toUInt32 >>> ((8 : Int32) &&& 31).toUInt32).toInt32))] [(.int (zv16 &&& (255 : Int32))), (.ref b20), (.int (zv16 &&& (255 : Int32))), (.ref b20)])) rfl rfl (hb hby own_dprog_35_method_22_code_76) _ (XS.lconst X25.here hx rfl (hb hby own_dprog_35_method_22_code_77) (XS.iload X25.here hx rfl (hb hby own_dprog_35_method_22_code_78) rfl (XS.lshl X25.here hx rfl (hb hby own_dprog_35_method_22_code_80) rfl k)))) ?_
  show own_Go p.tables e below RR (T25.setTop (mkF m 81 #[.val (.ref pa), .val (.int wd), .val (.int (65536 : Int32)), .val (.ref b1), .val (.int (ln - wd)), .val (.int (0 : Int32)), .val (.int zv16), .val (.int ((zv16.toUInt32 >>> ((8 : Int32) &&& 31).toUInt32).toInt32))] [(.long ((1 : Int64) <<< ((0 : Int32) &&& 0x3f).toInt64)), (.long lv30), (.int (zv16 &&& (255 : Int32))), (.ref b20)]))
  rw [show ((1 : Int64) <<< ((0 : Int32) &&& 0x3f).toInt64) = (1 : Int64) from by decide]
  show own_Go p.tables e below RR (T25.setTop (mkF m 81 #[.val (.ref pa), .val (.int wd), .val (.int (65536 : Int32)), .val (.ref b1), .val (.int (ln - wd)), .val (.int (0 : Int32)), .val (.int zv16), .val (.int ((zv16.toUInt32 >>> ((8 : Int32) &&& 31).toUInt32).toInt32))] [(.long (1 : Int64)), (.long lv30), (.int (zv16 &&& (255 : Int32))), (.ref b20)]))
  refine own_st (fun _ k => XS.lor X25.here hx rfl (hb hby own_dprog_35_method_22_code_81) rfl k) ?_
  show own_Go p.tables e below RR (T25.setTop (mkF m 82 #[.val (.ref pa), .val (.int wd), .val (.int (65536 : Int32)), .val (.ref b1), .val (.int (ln - wd)), .val (.int (0 : Int32)), .val (.int zv16), .val (.int ((zv16.toUInt32 >>> ((8 : Int32) &&& 31).toUInt32).toInt32))] [(.long (lv30 ||| (1 : Int64))), (.int (zv16 &&& (255 : Int32))), (.ref b20)]))
  obtain ⟨c31, A31, q31, s31, m31, H31, G31⟩ := id Vpd25
  obtain ⟨T32, h32, X32, e32, W32, st32⟩ := stJ X25 hx hZ e25 A31 (j := (zv16 &&& (255 : Int32))) (inb_of s31 (own_i256 (own_lr _))) (g := (mkF m 82 #[.val (.ref pa), .val (.int wd), .val (.int (65536 : Int32)), .val (.ref b1), .val (.int (ln - wd)), .val (.int (0 : Int32)), .val (.int zv16), .val (.int ((zv16.toUInt32 >>> ((8 : Int32) &&& 31).toUInt32).toInt32))] [(.long (lv30 ||| (1 : Int64))), (.int (zv16 &&& (255 : Int32))), (.ref b20)])) rfl rfl (hb hby own_dprog_35_method_22_code_82)
  have U32 := Arv.set A31 q31 s31 m31 H31 G31 rfl W32 (zv16 &&& (255 : Int32)).toNatClampNeg rfl (by rw [own_rl256]; exact own_ncl (own_lr _))
  have V32 : Arv Z h32 b20 k20 .long (256 : Int32) (([] ++ List.replicate 256 (Value.long (0 : Int64))).set (zv16 &&& (255 : Int32)).toNatClampNeg (.long (lv30 ||| (1 : Int64)))) (.long (0 : Int64)) := U32
  have Iw32 := own_I_wr I25 W32 (own_ls own_rl256) V32
  have N32 := Fr.snoc X32 N25 ge20
  refine own_st st32 ?_
  have z33 : n0 ≤ h32.size := Nat.le_trans z26 (Keep.of_wr W32).1
  have kk34 : Keep h0 h32 [] := kk27.wr W32 (Or.inr sz20)
  show own_Go p.tables e below RR (T32.setTop (mkF m 83 #[.val (.ref pa), .val (.int wd), .val (.int (65536 : Int32)), .val (.ref b1), .val (.int (ln - wd)), .val (.int (0 : Int32)), .val (.int zv16), .val (.int ((zv16.toUInt32 >>> ((8 : Int32) &&& 31).toUInt32).toInt32))] []))
  refine own_st (fun _ k => XS.iinc X32.here hx rfl (hb hby own_dprog_35_method_22_code_83) rfl (l' := #[.val (.ref pa), .val (.int wd), .val (.int (65536 : Int32)), .val (.ref b1), .val (.int (ln - wd)), .val (.int (1 : Int32)), .val (.int zv16), .val (.int ((zv16.toUInt32 >>> ((8 : Int32) &&& 31).toUInt32).toInt32))]) rfl (XS.goto X32.here hx rfl (pc0 := 86) (pc' := 24) rfl (hb hby own_dprog_35_method_22_code_86) (by decide) (by decide) k)) ?_
  show own_Go p.tables e below RR (T32.setTop (mkF m 24 #[.val (.ref pa), .val (.int wd), .val (.int (65536 : Int32)), .val (.ref b1), .val (.int (ln - wd)), .val (.int (1 : Int32)), .val (.int zv16), .val (.int ((zv16.toUInt32 >>> ((8 : Int32) &&& 31).toUInt32).toInt32))] []))
  have ne35 : b1 ≠ b20 := (Nat.ne_of_lt (Nat.lt_of_lt_of_le (B1.keep Kq7).lt (Nat.le_of_eq gb20.symm)))
  have f36 := (V25.other W32 ne35)
  have loop37 : ∀ (k : Nat) (T37 : State) (lo37 : List Loc) (hh2 : Heap) (xi : Int32) (i_ : Nat) (z6 : Int32) (z7 : Int32) (vs2 : List Value) (np : Nat) (X37 : Stand p l e own_RPO256 s m #[(.ref pa), (.int wd), (.int (65536 : Int32))] below meth c T37 lo37 (1 + np) (256 + 256 * np)) (e37 : T37.heap = hh2) (N37 : Fr n0 lo37) (K2 : Keep T7.heap hh2 [b1]) (V2 : Arv Z hh2 b1 k1 (.array .long) (256 : Int32) vs2 .null) (I2 : own_I Z hh2 T7.heap.size ab 256 vs2) (U2 : own_U vs2 ab (((0 : Int32).toUInt32 >>> ((8 : Int32) &&& 31).toUInt32).toInt32).toNatClampNeg ((va.toUInt32 >>> ((8 : Int32) &&& 31).toUInt32).toInt32).toNatClampNeg ((vb.toUInt32 >>> ((8 : Int32) &&& 31).toUInt32).toInt32).toNatClampNeg np) (hi_ : xi.toInt = (i_ : Int)) (hile : (i_ : Int) ≤ wd.toInt) (_ : (wd.toInt - (i_ : Int)).toNat = k), own_Go p.tables e below RR (T37.setTop (mkF m 24 #[.val (.ref pa), .val (.int wd), .val (.int (65536 : Int32)), .val (.ref b1), .val (.int (ln - wd)), .val (.int xi), .val (.int z6), .val (.int z7)] [])) := by
    intro k
    induction k using Nat.strongRecOn with
    | _ k ih37 =>
      intro T37 lo37 hh2 xi i_ z6 z7 vs2 np X37 e37 N37 K2 V2 I2 U2 hi_ hile hk
      have z38 : n0 ≤ hh2.size := Nat.le_trans z8 K2.1
      have kk39 : Keep h0 hh2 [] := kk9.trans K2 (allS (Or.inr sz1) all0)
      show own_Go p.tables e below RR (T37.setTop (mkF m 24 #[.val (.ref pa), .val (.int wd), .val (.int (65536 : Int32)), .val (.ref b1), .val (.int (ln - wd)), .val (.int xi), .val (.int z6), .val (.int z7)] []))
      refine own_st (fun _ k => XS.iload X37.here hx rfl (hb hby own_dprog_35_method_22_code_24) rfl (XS.iloadN X37.here hx rfl (hb hby own_dprog_35_method_22_code_26) rfl k)) ?_
      show own_Go p.tables e below RR (T37.setTop (mkF m 27 #[.val (.ref pa), .val (.int wd), .val (.int (65536 : Int32)), .val (.ref b1), .val (.int (ln - wd)), .val (.int xi), .val (.int z6), .val (.int z7)] [(.int wd), (.int xi)]))
      by_cases hc27_40 : xi < wd
      · refine own_st (fun _ k => XS.icmpNo X37.here hx rfl (hb hby own_dprog_35_method_22_code_27) rfl (tlt hc27_40).2.1 k) ?_
        show own_Go p.tables e below RR (T37.setTop (mkF m 30 #[.val (.ref pa), .val (.int wd), .val (.int (65536 : Int32)), .val (.ref b1), .val (.int (ln - wd)), .val (.int xi), .val (.int z6), .val (.int z7)] []))
        show own_Go p.tables e below RR (T37.setTop (mkF m 30 #[.val (.ref pa), .val (.int wd), .val (.int (65536 : Int32)), .val (.ref b1), .val (.int (ln - wd)), .val (.int xi), .val (.int z6), .val (.int z7)] []))
        refine own_st (fun _ k => XS.aloadN X37.here hx rfl (hb hby own_dprog_35_method_22_code_30) rfl rfl (XS.iload X37.here hx rfl (hb hby own_dprog_35_method_22_code_31) rfl (XS.iload X37.here hx rfl (hb hby own_dprog_35_method_22_code_33) rfl (XS.iadd X37.here hx rfl (hb hby own_dprog_35_method_22_code_35) rfl k)))) ?_
        show own_Go p.tables e below RR (T37.setTop (mkF m 36 #[.val (.ref pa), .val (.int wd), .val (.int (65536 : Int32)), .val (.ref b1), .val (.int (ln - wd)), .val (.int xi), .val (.int z6), .val (.int z7)] [(.int ((ln - wd) + xi)), (.ref pa)]))
        have f41 := (f12.keep K2 (ninS ne11 nin0))
        obtain ⟨c42, A42, q42, s42, m42, H42, G42⟩ := id f41
        have ix43 := own_ix hln hwd hi_ hc27_40
        obtain ⟨zv43, hzv43, hzd43⟩ := hpat ((ln - wd) + xi).toNatClampNeg (own_tnN (n := 132) ⟨ix43.1, by omega⟩)
        have hzb43 := own_zb (M := 65536) hzd43 (by decide) hva hvb
        have hj43 : 0 ≤ ((zv43.toUInt32 >>> ((8 : Int32) &&& 31).toUInt32).toInt32).toInt ∧ ((zv43.toUInt32 >>> ((8 : Int32) &&& 31).toUInt32).toInt32).toInt < 256 := own_hrN (N := 256) hzb43 (by decide)
        have hjn43 : ((zv43.toUInt32 >>> ((8 : Int32) &&& 31).toUInt32).toInt32).toNatClampNeg < 256 := own_tnN (n := 256) hj43
        have b42 := inb_of (j := ((ln - wd) + xi)) s42 ⟨own_nn0 ix43.1, own_ltv rfl ix43.2⟩
        refine own_st (fun _ k => X37.iaload hx (j := ((ln - wd) + xi)) (v := (.int zv43)) (by rw [e37]; exact A42.1) (State.isArrayOf_alike hZ.alike A42.2.1) A42.2.2 b42 (Has.at H42 b42 hzv43) (g := (mkF m 36 #[.val (.ref pa), .val (.int wd), .val (.int (65536 : Int32)), .val (.ref b1), .val (.int (ln - wd)), .val (.int xi), .val (.int z6), .val (.int z7)] [(.int ((ln - wd) + xi)), (.ref pa)])) rfl rfl (hb hby own_dprog_35_method_22_code_36) _ (XS.istore X37.here hx rfl (hb hby own_dprog_35_method_22_code_37) rfl (l' := #[.val (.ref pa), .val (.int wd), .val (.int (65536 : Int32)), .val (.ref b1), .val (.int (ln - wd)), .val (.int xi), .val (.int zv43), .val (.int z7)]) rfl (XS.iload X37.here hx rfl (hb hby own_dprog_35_method_22_code_39) rfl (XS.bipush X37.here hx rfl (hb hby own_dprog_35_method_22_code_41) (XS.iushr X37.here hx rfl (hb hby own_dprog_35_method_22_code_43) rfl (XS.istore X37.here hx rfl (hb hby own_dprog_35_method_22_code_44) rfl (l' := #[.val (.ref pa), .val (.int wd), .val (.int (65536 : Int32)), .val (.ref b1), .val (.int (ln - wd)), .val (.int xi), .val (.int zv43), .val (.int ((zv43.toUInt32 >>> ((8 : Int32) &&& 31).toUInt32).toInt32))]) rfl k)))))) ?_
        show own_Go p.tables e below RR (T37.setTop (mkF m 46 #[.val (.ref pa), .val (.int wd), .val (.int (65536 : Int32)), .val (.ref b1), .val (.int (ln - wd)), .val (.int xi), .val (.int zv43), .val (.int ((zv43.toUInt32 >>> ((8 : Int32) &&& 31).toUInt32).toInt32))] []))
        rcases I2.2 ((zv43.toUInt32 >>> ((8 : Int32) &&& 31).toUInt32).toInt32).toNatClampNeg hjn43 with hq43 | ⟨pq43, hq43, hqs43, kq43, ps43, hpl43, Vpq43⟩
        · show own_Go p.tables e below RR (T37.setTop (mkF m 46 #[.val (.ref pa), .val (.int wd), .val (.int (65536 : Int32)), .val (.ref b1), .val (.int (ln - wd)), .val (.int xi), .val (.int zv43), .val (.int ((zv43.toUInt32 >>> ((8 : Int32) &&& 31).toUInt32).toInt32))] []))
          refine own_st (fun _ k => XS.aloadN X37.here hx rfl (hb hby own_dprog_35_method_22_code_46) rfl rfl (XS.iload X37.here hx rfl (hb hby own_dprog_35_method_22_code_47) rfl k)) ?_
          show own_Go p.tables e below RR (T37.setTop (mkF m 49 #[.val (.ref pa), .val (.int wd), .val (.int (65536 : Int32)), .val (.ref b1), .val (.int (ln - wd)), .val (.int xi), .val (.int zv43), .val (.int ((zv43.toUInt32 >>> ((8 : Int32) &&& 31).toUInt32).toInt32))] [(.int ((zv43.toUInt32 >>> ((8 : Int32) &&& 31).toUInt32).toInt32)), (.ref b1)]))
          obtain ⟨c44, A44, q44, s44, m44, H44, G44⟩ := id V2
          have b44 := inb_of (j := ((zv43.toUInt32 >>> ((8 : Int32) &&& 31).toUInt32).toInt32)) s44 (own_inN (n := 256) (by decide) hj43)
          refine own_st (fun _ k => X37.aaload hx (j := ((zv43.toUInt32 >>> ((8 : Int32) &&& 31).toUInt32).toInt32)) (v := (.ref ab)) (by rw [e37]; exact A44.1) (State.isArrayOf_alike hZ.alike A44.2.1) rfl A44.2.2 b44 (Has.at H44 b44 hq43) (g := (mkF m 49 #[.val (.ref pa), .val (.int wd), .val (.int (65536 : Int32)), .val (.ref b1), .val (.int (ln - wd)), .val (.int xi), .val (.int zv43), .val (.int ((zv43.toUInt32 >>> ((8 : Int32) &&& 31).toUInt32).toInt32))] [(.int ((zv43.toUInt32 >>> ((8 : Int32) &&& 31).toUInt32).toInt32)), (.ref b1)])) rfl rfl (hb hby own_dprog_35_method_22_code_49) _ k) ?_
          show own_Go p.tables e below RR (T37.setTop (mkF m 50 #[.val (.ref pa), .val (.int wd), .val (.int (65536 : Int32)), .val (.ref b1), .val (.int (ln - wd)), .val (.int xi), .val (.int zv43), .val (.int ((zv43.toUInt32 >>> ((8 : Int32) &&& 31).toUInt32).toInt32))] [(.ref ab)]))
          have f45 := (own_staK f18 K2 (allS (B1.keep Kq7).nostat all0))
          obtain ⟨T46, X46, e46, st46⟩ := getS2 X37 hx hZ hown (host := "") (Or.inl (hw _ (List.mem_of_getElem? (i := 37) rfl))) Via.refl e37 f45 (g := (mkF m 50 #[.val (.ref pa), .val (.int wd), .val (.int (65536 : Int32)), .val (.ref b1), .val (.int (ln - wd)), .val (.int xi), .val (.int zv43), .val (.int ((zv43.toUInt32 >>> ((8 : Int32) &&& 31).toUInt32).toInt32))] [(.ref ab)])) rfl (hb hby own_dprog_35_method_22_code_50)
          refine own_st st46 ?_
          show own_Go p.tables e below RR (T46.setTop (mkF m 53 #[.val (.ref pa), .val (.int wd), .val (.int (65536 : Int32)), .val (.ref b1), .val (.int (ln - wd)), .val (.int xi), .val (.int zv43), .val (.int ((zv43.toUInt32 >>> ((8 : Int32) &&& 31).toUInt32).toInt32))] [(.ref ab), (.ref ab)]))
          refine own_st (fun _ k => Jvm.RoadKit.acmp (g := (mkF m 53 #[.val (.ref pa), .val (.int wd), .val (.int (65536 : Int32)), .val (.ref b1), .val (.int (ln - wd)), .val (.int xi), .val (.int zv43), .val (.int ((zv43.toUInt32 >>> ((8 : Int32) &&& 31).toUInt32).toInt32))] [(.ref ab), (.ref ab)])) X46 hx rfl rfl rfl (pc0 := 53) (pc' := 56) (same := true) rfl (hb hby own_dprog_35_method_22_code_53) rfl (decide_eq_true rfl) (by decide) (by decide) (XS.aloadN X46.here hx rfl (hb hby own_dprog_35_method_22_code_56) rfl rfl (XS.iload X46.here hx rfl (hb hby own_dprog_35_method_22_code_57) rfl (XS.sipush X46.here hx rfl (hb hby own_dprog_35_method_22_code_59) k)))) ?_
          show own_Go p.tables e below RR (T46.setTop (mkF m 62 #[.val (.ref pa), .val (.int wd), .val (.int (65536 : Int32)), .val (.ref b1), .val (.int (ln - wd)), .val (.int xi), .val (.int zv43), .val (.int ((zv43.toUInt32 >>> ((8 : Int32) &&& 31).toUInt32).toInt32))] [(.int (256 : Int32)), (.int ((zv43.toUInt32 >>> ((8 : Int32) &&& 31).toUInt32).toInt32)), (.ref b1)]))
          have lt43 := own_U_lt U2 (own_D hzd43) hq43
          obtain ⟨T47, h47, k47, X47, e47, E47, A47, B47, st47⟩ := newPE X46 hx hZ (hw _ (List.mem_of_getElem? (i := 44) rfl)) e46 (g := (mkF m 62 #[.val (.ref pa), .val (.int wd), .val (.int (65536 : Int32)), .val (.ref b1), .val (.int (ln - wd)), .val (.int xi), .val (.int zv43), .val (.int ((zv43.toUInt32 >>> ((8 : Int32) &&& 31).toUInt32).toInt32))] [(.int (256 : Int32)), (.int ((zv43.toUInt32 >>> ((8 : Int32) &&& 31).toUInt32).toInt32)), (.ref b1)])) rfl (hb hby own_dprog_35_method_22_code_62) rfl (by decide) (cap := 256) (by decide) (by decide) (by show 1 + np + 1 ≤ 4; omega) (by show 256 + 256 * np + 256 ≤ 1024; omega) (ad := "[J") (by decide)
          obtain ⟨b47, gb47⟩ : ∃ z, z = hh2.size := ⟨_, rfl⟩
          rw [← gb47] at A47 B47 st47
          have ge47 : n0 ≤ b47 := Nat.le_trans z38 (Nat.le_of_eq gb47.symm)
          have sz47 : h0.size ≤ b47 := Nat.le_trans kk39.1 (Nat.le_of_eq gb47.symm)
          refine own_st st47 ?_
          have z48 : n0 ≤ h47.size := Nat.le_trans z38 E47.1
          have kk49 : Keep h0 h47 [] := kk39.ext E47
          have V47 : Arv Z h47 b47 k47 .long (256 : Int32) [] (.long (0 : Int64)) := Arv.new A47 (by decide)
          show own_Go p.tables e below RR (T47.setTop (mkF m 64 #[.val (.ref pa), .val (.int wd), .val (.int (65536 : Int32)), .val (.ref b1), .val (.int (ln - wd)), .val (.int xi), .val (.int zv43), .val (.int ((zv43.toUInt32 >>> ((8 : Int32) &&& 31).toUInt32).toInt32))] [(.ref b47), (.int ((zv43.toUInt32 >>> ((8 : Int32) &&& 31).toUInt32).toInt32)), (.ref b1)]))
          have f50 := (V2.ext E47)
          obtain ⟨c51, A51, q51, s51, m51, H51, G51⟩ := id f50
          obtain ⟨T52, h52, X52, e52, W52, st52⟩ := stR X47 hx hZ e47 A51 (j := ((zv43.toUInt32 >>> ((8 : Int32) &&& 31).toUInt32).toInt32)) (inb_of s51 (own_inN (n := 256) (by decide) hj43)) rfl (Sto.ofVA A51 q51 O1 (Ins.self B47)) (g := (mkF m 64 #[.val (.ref pa), .val (.int wd), .val (.int (65536 : Int32)), .val (.ref b1), .val (.int (ln - wd)), .val (.int xi), .val (.int zv43), .val (.int ((zv43.toUInt32 >>> ((8 : Int32) &&& 31).toUInt32).toInt32))] [(.ref b47), (.int ((zv43.toUInt32 >>> ((8 : Int32) &&& 31).toUInt32).toInt32)), (.ref b1)])) rfl rfl (hb hby own_dprog_35_method_22_code_64)
          have U52 := Arv.set A51 q51 s51 m51 H51 G51 rfl W52 ((zv43.toUInt32 >>> ((8 : Int32) &&& 31).toUInt32).toInt32).toNatClampNeg rfl (by rw [I2.1]; exact hjn43)
          have V52 : Arv Z h52 b1 k1 (.array .long) (256 : Int32) (vs2.set ((zv43.toUInt32 >>> ((8 : Int32) &&& 31).toUInt32).toInt32).toNatClampNeg (.ref b47)) .null := U52
          have hbs52 : T7.heap.size ≤ b47 := Nat.le_trans K2.1 (Nat.le_of_eq gb47.symm)
          have I52 := own_I_new I2 E47 hbs52 V47 W52 blt hjn43
          have Un52 := own_U_new U2 (own_D hzd43) hq43 (by rw [I2.1]; exact hjn43) (Nat.ne_of_gt (Nat.lt_of_lt_of_le alt hbs52))
          have Vpd52 := (V47.pad (pad_rep [] (.long (0 : Int64)) 256)).other W52 (Nat.ne_of_gt (Nat.lt_of_lt_of_le blt hbs52))
          have hql52 : (vs2.set ((zv43.toUInt32 >>> ((8 : Int32) &&& 31).toUInt32).toInt32).toNatClampNeg (.ref b47)).getD ((zv43.toUInt32 >>> ((8 : Int32) &&& 31).toUInt32).toInt32).toNatClampNeg .null = .ref b47 := own_hit I2.1 hjn43 rfl
          have N52 := Fr.snoc X52 N37 ge1
          refine own_st st52 ?_
          have z53 : n0 ≤ h52.size := Nat.le_trans z48 (Keep.of_wr W52).1
          have kk54 : Keep h0 h52 [] := kk49.wr W52 (Or.inr sz1)
          show own_Go p.tables e below RR (T52.setTop (mkF m 65 #[.val (.ref pa), .val (.int wd), .val (.int (65536 : Int32)), .val (.ref b1), .val (.int (ln - wd)), .val (.int xi), .val (.int zv43), .val (.int ((zv43.toUInt32 >>> ((8 : Int32) &&& 31).toUInt32).toInt32))] []))
          show own_Go p.tables e below RR (T52.setTop (mkF m 65 #[.val (.ref pa), .val (.int wd), .val (.int (65536 : Int32)), .val (.ref b1), .val (.int (ln - wd)), .val (.int xi), .val (.int zv43), .val (.int ((zv43.toUInt32 >>> ((8 : Int32) &&& 31).toUInt32).toInt32))] []))
          refine own_st (fun _ k => XS.aloadN X52.here hx rfl (hb hby own_dprog_35_method_22_code_65) rfl rfl (XS.iload X52.here hx rfl (hb hby own_dprog_35_method_22_code_66) rfl k)) ?_
          show own_Go p.tables e below RR (T52.setTop (mkF m 68 #[.val (.ref pa), .val (.int wd), .val (.int (65536 : Int32)), .val (.ref b1), .val (.int (ln - wd)), .val (.int xi), .val (.int zv43), .val (.int ((zv43.toUInt32 >>> ((8 : Int32) &&& 31).toUInt32).toInt32))] [(.int ((zv43.toUInt32 >>> ((8 : Int32) &&& 31).toUInt32).toInt32)), (.ref b1)]))
          obtain ⟨c55, A55, q55, s55, m55, H55, G55⟩ := id V52
          have b55 := inb_of (j := ((zv43.toUInt32 >>> ((8 : Int32) &&& 31).toUInt32).toInt32)) s55 (own_inN (n := 256) (by decide) hj43)
          refine own_st (fun _ k => X52.aaload hx (j := ((zv43.toUInt32 >>> ((8 : Int32) &&& 31).toUInt32).toInt32)) (v := (.ref b47)) (by rw [e52]; exact A55.1) (State.isArrayOf_alike hZ.alike A55.2.1) rfl A55.2.2 b55 (Has.at H55 b55 hql52) (g := (mkF m 68 #[.val (.ref pa), .val (.int wd), .val (.int (65536 : Int32)), .val (.ref b1), .val (.int (ln - wd)), .val (.int xi), .val (.int zv43), .val (.int ((zv43.toUInt32 >>> ((8 : Int32) &&& 31).toUInt32).toInt32))] [(.int ((zv43.toUInt32 >>> ((8 : Int32) &&& 31).toUInt32).toInt32)), (.ref b1)])) rfl rfl (hb hby own_dprog_35_method_22_code_68) _ (XS.iload X52.here hx rfl (hb hby own_dprog_35_method_22_code_69) rfl (XS.sipush X52.here hx rfl (hb hby own_dprog_35_method_22_code_71) (XS.iand X52.here hx rfl (hb hby own_dprog_35_method_22_code_74) rfl (XT.dup2 X52.here hx rfl (hb hby own_dprog_35_method_22_code_75) rfl rfl rfl k))))) ?_
          show own_Go p.tables e below RR (T52.setTop (mkF m 76 #[.val (.ref pa), .val (.int wd), .val (.int (65536 : Int32)), .val (.ref b1), .val (.int (ln - wd)), .val (.int xi), .val (.int zv43), .val (.int ((zv43.toUInt32 >>> ((8 : Int32) &&& 31).toUInt32).toInt32))] [(.int (zv43 &&& (255 : Int32))), (.ref b47), (.int (zv43 &&& (255 : Int32))), (.ref b47)]))
          obtain ⟨c56, A56, q56, s56, m56, H56, G56⟩ := id Vpd52
          obtain ⟨lv57, hlv57⟩ := own_fitL (k := (zv43 &&& (255 : Int32)).toNatClampNeg) G56 s56 (own_ncl (own_lr _))
          have b56 := inb_of (j := (zv43 &&& (255 : Int32))) s56 (own_i256 (own_lr _))
          refine own_st (fun _ k => X52.laload hx (j := (zv43 &&& (255 : Int32))) (v := (.long lv57)) (by rw [e52]; exact A56.1) (State.isArrayOf_alike hZ.alike A56.2.1) A56.2.2 b56 (Has.at H56 b56 hlv57) (g := (mkF m 76 #[.val (.ref pa), .val (.int wd), .val (.int (65536 : Int32)), .val (.ref b1), .val (.int (ln - wd)), .val (.int xi), .val (.int zv43), .val (.int ((zv43.toUInt32 >>> ((8 : Int32) &&& 31).toUInt32).toInt32))] [(.int (zv43 &&& (255 : Int32))), (.ref b47), (.int (zv43 &&& (255 : Int32))), (.ref b47)])) rfl rfl (hb hby own_dprog_35_method_22_code_76) _ (XS.lconst X52.here hx rfl (hb hby own_dprog_35_method_22_code_77) (XS.iload X52.here hx rfl (hb hby own_dprog_35_method_22_code_78) rfl (XS.lshl X52.here hx rfl (hb hby own_dprog_35_method_22_code_80) rfl (XS.lor X52.here hx rfl (hb hby own_dprog_35_method_22_code_81) rfl k))))) ?_
          show own_Go p.tables e below RR (T52.setTop (mkF m 82 #[.val (.ref pa), .val (.int wd), .val (.int (65536 : Int32)), .val (.ref b1), .val (.int (ln - wd)), .val (.int xi), .val (.int zv43), .val (.int ((zv43.toUInt32 >>> ((8 : Int32) &&& 31).toUInt32).toInt32))] [(.long (lv57 ||| ((1 : Int64) <<< (xi &&& 0x3f).toInt64))), (.int (zv43 &&& (255 : Int32))), (.ref b47)]))
          obtain ⟨c58, A58, q58, s58, m58, H58, G58⟩ := id Vpd52
          obtain ⟨T59, h59, X59, e59, W59, st59⟩ := stJ X52 hx hZ e52 A58 (j := (zv43 &&& (255 : Int32))) (inb_of s58 (own_i256 (own_lr _))) (g := (mkF m 82 #[.val (.ref pa), .val (.int wd), .val (.int (65536 : Int32)), .val (.ref b1), .val (.int (ln - wd)), .val (.int xi), .val (.int zv43), .val (.int ((zv43.toUInt32 >>> ((8 : Int32) &&& 31).toUInt32).toInt32))] [(.long (lv57 ||| ((1 : Int64) <<< (xi &&& 0x3f).toInt64))), (.int (zv43 &&& (255 : Int32))), (.ref b47)])) rfl rfl (hb hby own_dprog_35_method_22_code_82)
          have U59 := Arv.set A58 q58 s58 m58 H58 G58 rfl W59 (zv43 &&& (255 : Int32)).toNatClampNeg rfl (by rw [own_rl256]; exact own_ncl (own_lr _))
          have V59 : Arv Z h59 b47 k47 .long (256 : Int32) (([] ++ List.replicate 256 (Value.long (0 : Int64))).set (zv43 &&& (255 : Int32)).toNatClampNeg (.long (lv57 ||| ((1 : Int64) <<< (xi &&& 0x3f).toInt64)))) (.long (0 : Int64)) := U59
          have Iw59 := own_I_wr I52 W59 (own_ls own_rl256) V59
          have N59 := Fr.snoc X59 N52 ge47
          refine own_st st59 ?_
          have z60 : n0 ≤ h59.size := Nat.le_trans z53 (Keep.of_wr W59).1
          have kk61 : Keep h0 h59 [] := kk54.wr W59 (Or.inr sz47)
          show own_Go p.tables e below RR (T59.setTop (mkF m 83 #[.val (.ref pa), .val (.int wd), .val (.int (65536 : Int32)), .val (.ref b1), .val (.int (ln - wd)), .val (.int xi), .val (.int zv43), .val (.int ((zv43.toUInt32 >>> ((8 : Int32) &&& 31).toUInt32).toInt32))] []))
          refine own_st (fun _ k => XS.iinc X59.here hx rfl (hb hby own_dprog_35_method_22_code_83) rfl (l' := #[.val (.ref pa), .val (.int wd), .val (.int (65536 : Int32)), .val (.ref b1), .val (.int (ln - wd)), .val (.int (xi + (1 : Int32))), .val (.int zv43), .val (.int ((zv43.toUInt32 >>> ((8 : Int32) &&& 31).toUInt32).toInt32))]) rfl (XS.goto X59.here hx rfl (pc0 := 86) (pc' := 24) rfl (hb hby own_dprog_35_method_22_code_86) (by decide) (by decide) k)) ?_
          show own_Go p.tables e below RR (T59.setTop (mkF m 24 #[.val (.ref pa), .val (.int wd), .val (.int (65536 : Int32)), .val (.ref b1), .val (.int (ln - wd)), .val (.int (xi + (1 : Int32))), .val (.int zv43), .val (.int ((zv43.toUInt32 >>> ((8 : Int32) &&& 31).toUInt32).toInt32))] []))
          have XX62 := X59
          rw [show 1 + np + 1 = 1 + (np + 1) by omega, show 256 + 256 * np + 256 = 256 + 256 * (np + 1) by omega] at XX62
          have ne63 : b1 ≠ b47 := (Nat.ne_of_lt (Nat.lt_of_lt_of_le ((B1.keep Kq7).keep K2).lt (Nat.le_of_eq gb47.symm)))
          have f64 := (V52.other W59 ne63)
          exact ih37 _ (by have q := own_lti hi_ hc27_40; omega) T59 _ h59 (xi + (1 : Int32)) (i_ + 1) zv43 ((zv43.toUInt32 >>> ((8 : Int32) &&& 31).toUInt32).toInt32) (vs2.set ((zv43.toUInt32 >>> ((8 : Int32) &&& 31).toUInt32).toInt32).toNatClampNeg (.ref b47)) (np + 1) XX62 e59 N59 (((K2.ext E47).wr W52 (Or.inl (List.mem_of_getElem? (i := 0) rfl))).wr W59 (Or.inr hbs52)) f64 Iw59 Un52 (own_inc hi_ hc27_40) (own_lti hi_ hc27_40) rfl
        · have neo43 : b1 ≠ pq43 := Nat.ne_of_lt (Nat.lt_of_lt_of_le blt hqs43)
          have nab43 : pq43 ≠ ab := Nat.ne_of_gt (Nat.lt_of_lt_of_le alt hqs43)
          show own_Go p.tables e below RR (T37.setTop (mkF m 46 #[.val (.ref pa), .val (.int wd), .val (.int (65536 : Int32)), .val (.ref b1), .val (.int (ln - wd)), .val (.int xi), .val (.int zv43), .val (.int ((zv43.toUInt32 >>> ((8 : Int32) &&& 31).toUInt32).toInt32))] []))
          refine own_st (fun _ k => XS.aloadN X37.here hx rfl (hb hby own_dprog_35_method_22_code_46) rfl rfl (XS.iload X37.here hx rfl (hb hby own_dprog_35_method_22_code_47) rfl k)) ?_
          show own_Go p.tables e below RR (T37.setTop (mkF m 49 #[.val (.ref pa), .val (.int wd), .val (.int (65536 : Int32)), .val (.ref b1), .val (.int (ln - wd)), .val (.int xi), .val (.int zv43), .val (.int ((zv43.toUInt32 >>> ((8 : Int32) &&& 31).toUInt32).toInt32))] [(.int ((zv43.toUInt32 >>> ((8 : Int32) &&& 31).toUInt32).toInt32)), (.ref b1)]))
          obtain ⟨c65, A65, q65, s65, m65, H65, G65⟩ := id V2
          have b65 := inb_of (j := ((zv43.toUInt32 >>> ((8 : Int32) &&& 31).toUInt32).toInt32)) s65 (own_inN (n := 256) (by decide) hj43)
          refine own_st (fun _ k => X37.aaload hx (j := ((zv43.toUInt32 >>> ((8 : Int32) &&& 31).toUInt32).toInt32)) (v := (.ref pq43)) (by rw [e37]; exact A65.1) (State.isArrayOf_alike hZ.alike A65.2.1) rfl A65.2.2 b65 (Has.at H65 b65 hq43) (g := (mkF m 49 #[.val (.ref pa), .val (.int wd), .val (.int (65536 : Int32)), .val (.ref b1), .val (.int (ln - wd)), .val (.int xi), .val (.int zv43), .val (.int ((zv43.toUInt32 >>> ((8 : Int32) &&& 31).toUInt32).toInt32))] [(.int ((zv43.toUInt32 >>> ((8 : Int32) &&& 31).toUInt32).toInt32)), (.ref b1)])) rfl rfl (hb hby own_dprog_35_method_22_code_49) _ k) ?_
          show own_Go p.tables e below RR (T37.setTop (mkF m 50 #[.val (.ref pa), .val (.int wd), .val (.int (65536 : Int32)), .val (.ref b1), .val (.int (ln - wd)), .val (.int xi), .val (.int zv43), .val (.int ((zv43.toUInt32 >>> ((8 : Int32) &&& 31).toUInt32).toInt32))] [(.ref pq43)]))
          have f66 := (own_staK f18 K2 (allS (B1.keep Kq7).nostat all0))
          obtain ⟨T67, X67, e67, st67⟩ := getS2 X37 hx hZ hown (host := "") (Or.inl (hw _ (List.mem_of_getElem? (i := 37) rfl))) Via.refl e37 f66 (g := (mkF m 50 #[.val (.ref pa), .val (.int wd), .val (.int (65536 : Int32)), .val (.ref b1), .val (.int (ln - wd)), .val (.int xi), .val (.int zv43), .val (.int ((zv43.toUInt32 >>> ((8 : Int32) &&& 31).toUInt32).toInt32))] [(.ref pq43)])) rfl (hb hby own_dprog_35_method_22_code_50)
          refine own_st st67 ?_
          show own_Go p.tables e below RR (T67.setTop (mkF m 53 #[.val (.ref pa), .val (.int wd), .val (.int (65536 : Int32)), .val (.ref b1), .val (.int (ln - wd)), .val (.int xi), .val (.int zv43), .val (.int ((zv43.toUInt32 >>> ((8 : Int32) &&& 31).toUInt32).toInt32))] [(.ref ab), (.ref pq43)]))
          have hc53_68 : ¬ (pq43 = ab) := nab43
          refine own_st (fun _ k => Jvm.RoadKit.acmp (g := (mkF m 53 #[.val (.ref pa), .val (.int wd), .val (.int (65536 : Int32)), .val (.ref b1), .val (.int (ln - wd)), .val (.int xi), .val (.int zv43), .val (.int ((zv43.toUInt32 >>> ((8 : Int32) &&& 31).toUInt32).toInt32))] [(.ref ab), (.ref pq43)])) X67 hx rfl rfl rfl (pc0 := 53) (pc' := 65) (same := false) rfl (hb hby own_dprog_35_method_22_code_53) rfl (decide_eq_false fun q => hc53_68 (Value.ref.inj q)) (by decide) (by decide) k) ?_
          show own_Go p.tables e below RR (T67.setTop (mkF m 65 #[.val (.ref pa), .val (.int wd), .val (.int (65536 : Int32)), .val (.ref b1), .val (.int (ln - wd)), .val (.int xi), .val (.int zv43), .val (.int ((zv43.toUInt32 >>> ((8 : Int32) &&& 31).toUInt32).toInt32))] []))
          show own_Go p.tables e below RR (T67.setTop (mkF m 65 #[.val (.ref pa), .val (.int wd), .val (.int (65536 : Int32)), .val (.ref b1), .val (.int (ln - wd)), .val (.int xi), .val (.int zv43), .val (.int ((zv43.toUInt32 >>> ((8 : Int32) &&& 31).toUInt32).toInt32))] []))
          refine own_st (fun _ k => XS.aloadN X67.here hx rfl (hb hby own_dprog_35_method_22_code_65) rfl rfl (XS.iload X67.here hx rfl (hb hby own_dprog_35_method_22_code_66) rfl k)) ?_
          show own_Go p.tables e below RR (T67.setTop (mkF m 68 #[.val (.ref pa), .val (.int wd), .val (.int (65536 : Int32)), .val (.ref b1), .val (.int (ln - wd)), .val (.int xi), .val (.int zv43), .val (.int ((zv43.toUInt32 >>> ((8 : Int32) &&& 31).toUInt32).toInt32))] [(.int ((zv43.toUInt32 >>> ((8 : Int32) &&& 31).toUInt32).toInt32)), (.ref b1)]))
          obtain ⟨c69, A69, q69, s69, m69, H69, G69⟩ := id V2
          have b69 := inb_of (j := ((zv43.toUInt32 >>> ((8 : Int32) &&& 31).toUInt32).toInt32)) s69 (own_inN (n := 256) (by decide) hj43)
          refine own_st (fun _ k => X67.aaload hx (j := ((zv43.toUInt32 >>> ((8 : Int32) &&& 31).toUInt32).toInt32)) (v := (.ref pq43)) (by rw [e67]; exact A69.1) (State.isArrayOf_alike hZ.alike A69.2.1) rfl A69.2.2 b69 (Has.at H69 b69 hq43) (g := (mkF m 68 #[.val (.ref pa), .val (.int wd), .val (.int (65536 : Int32)), .val (.ref b1), .val (.int (ln - wd)), .val (.int xi), .val (.int zv43), .val (.int ((zv43.toUInt32 >>> ((8 : Int32) &&& 31).toUInt32).toInt32))] [(.int ((zv43.toUInt32 >>> ((8 : Int32) &&& 31).toUInt32).toInt32)), (.ref b1)])) rfl rfl (hb hby own_dprog_35_method_22_code_68) _ (XS.iload X67.here hx rfl (hb hby own_dprog_35_method_22_code_69) rfl (XS.sipush X67.here hx rfl (hb hby own_dprog_35_method_22_code_71) (XS.iand X67.here hx rfl (hb hby own_dprog_35_method_22_code_74) rfl (XT.dup2 X67.here hx rfl (hb hby own_dprog_35_method_22_code_75) rfl rfl rfl k))))) ?_
          show own_Go p.tables e below RR (T67.setTop (mkF m 76 #[.val (.ref pa), .val (.int wd), .val (.int (65536 : Int32)), .val (.ref b1), .val (.int (ln - wd)), .val (.int xi), .val (.int zv43), .val (.int ((zv43.toUInt32 >>> ((8 : Int32) &&& 31).toUInt32).toInt32))] [(.int (zv43 &&& (255 : Int32))), (.ref pq43), (.int (zv43 &&& (255 : Int32))), (.ref pq43)]))
          obtain ⟨c70, A70, q70, s70, m70, H70, G70⟩ := id Vpq43
          obtain ⟨lv71, hlv71⟩ := own_fitL (k := (zv43 &&& (255 : Int32)).toNatClampNeg) G70 s70 (own_ncl (own_lr _))
          have b70 := inb_of (j := (zv43 &&& (255 : Int32))) s70 (own_i256 (own_lr _))
          refine own_st (fun _ k => X67.laload hx (j := (zv43 &&& (255 : Int32))) (v := (.long lv71)) (by rw [e67]; exact A70.1) (State.isArrayOf_alike hZ.alike A70.2.1) A70.2.2 b70 (Has.at H70 b70 hlv71) (g := (mkF m 76 #[.val (.ref pa), .val (.int wd), .val (.int (65536 : Int32)), .val (.ref b1), .val (.int (ln - wd)), .val (.int xi), .val (.int zv43), .val (.int ((zv43.toUInt32 >>> ((8 : Int32) &&& 31).toUInt32).toInt32))] [(.int (zv43 &&& (255 : Int32))), (.ref pq43), (.int (zv43 &&& (255 : Int32))), (.ref pq43)])) rfl rfl (hb hby own_dprog_35_method_22_code_76) _ (XS.lconst X67.here hx rfl (hb hby own_dprog_35_method_22_code_77) (XS.iload X67.here hx rfl (hb hby own_dprog_35_method_22_code_78) rfl (XS.lshl X67.here hx rfl (hb hby own_dprog_35_method_22_code_80) rfl (XS.lor X67.here hx rfl (hb hby own_dprog_35_method_22_code_81) rfl k))))) ?_
          show own_Go p.tables e below RR (T67.setTop (mkF m 82 #[.val (.ref pa), .val (.int wd), .val (.int (65536 : Int32)), .val (.ref b1), .val (.int (ln - wd)), .val (.int xi), .val (.int zv43), .val (.int ((zv43.toUInt32 >>> ((8 : Int32) &&& 31).toUInt32).toInt32))] [(.long (lv71 ||| ((1 : Int64) <<< (xi &&& 0x3f).toInt64))), (.int (zv43 &&& (255 : Int32))), (.ref pq43)]))
          obtain ⟨c72, A72, q72, s72, m72, H72, G72⟩ := id Vpq43
          obtain ⟨T73, h73, X73, e73, W73, st73⟩ := stJ X67 hx hZ e67 A72 (j := (zv43 &&& (255 : Int32))) (inb_of s72 (own_i256 (own_lr _))) (g := (mkF m 82 #[.val (.ref pa), .val (.int wd), .val (.int (65536 : Int32)), .val (.ref b1), .val (.int (ln - wd)), .val (.int xi), .val (.int zv43), .val (.int ((zv43.toUInt32 >>> ((8 : Int32) &&& 31).toUInt32).toInt32))] [(.long (lv71 ||| ((1 : Int64) <<< (xi &&& 0x3f).toInt64))), (.int (zv43 &&& (255 : Int32))), (.ref pq43)])) rfl rfl (hb hby own_dprog_35_method_22_code_82)
          have U73 := Arv.set A72 q72 s72 m72 H72 G72 rfl W73 (zv43 &&& (255 : Int32)).toNatClampNeg rfl (by rw [hpl43]; exact own_ncl (own_lr _))
          have V73 : Arv Z h73 pq43 kq43 .long (256 : Int32) (ps43.set (zv43 &&& (255 : Int32)).toNatClampNeg (.long (lv71 ||| ((1 : Int64) <<< (xi &&& 0x3f).toInt64)))) (.long (0 : Int64)) := U73
          have Iw73 := own_I_wr I2 W73 (own_ls hpl43) V73
          have N73 := Fr.snoc X73 N37 (Nat.le_trans z8 hqs43)
          refine own_st st73 ?_
          have z74 : n0 ≤ h73.size := Nat.le_trans z38 (Keep.of_wr W73).1
          have kk75 : Keep h0 h73 [] := kk39.wr W73 (Or.inr (Nat.le_trans kk9.1 hqs43))
          show own_Go p.tables e below RR (T73.setTop (mkF m 83 #[.val (.ref pa), .val (.int wd), .val (.int (65536 : Int32)), .val (.ref b1), .val (.int (ln - wd)), .val (.int xi), .val (.int zv43), .val (.int ((zv43.toUInt32 >>> ((8 : Int32) &&& 31).toUInt32).toInt32))] []))
          refine own_st (fun _ k => XS.iinc X73.here hx rfl (hb hby own_dprog_35_method_22_code_83) rfl (l' := #[.val (.ref pa), .val (.int wd), .val (.int (65536 : Int32)), .val (.ref b1), .val (.int (ln - wd)), .val (.int (xi + (1 : Int32))), .val (.int zv43), .val (.int ((zv43.toUInt32 >>> ((8 : Int32) &&& 31).toUInt32).toInt32))]) rfl (XS.goto X73.here hx rfl (pc0 := 86) (pc' := 24) rfl (hb hby own_dprog_35_method_22_code_86) (by decide) (by decide) k)) ?_
          show own_Go p.tables e below RR (T73.setTop (mkF m 24 #[.val (.ref pa), .val (.int wd), .val (.int (65536 : Int32)), .val (.ref b1), .val (.int (ln - wd)), .val (.int (xi + (1 : Int32))), .val (.int zv43), .val (.int ((zv43.toUInt32 >>> ((8 : Int32) &&& 31).toUInt32).toInt32))] []))
          have f77 := (V2.other W73 neo43)
          exact ih37 _ (by have q := own_lti hi_ hc27_40; omega) T73 _ h73 (xi + (1 : Int32)) (i_ + 1) zv43 ((zv43.toUInt32 >>> ((8 : Int32) &&& 31).toUInt32).toInt32) vs2 np X73 e73 N73 (K2.wr W73 (Or.inr hqs43)) f77 Iw73 U2 (own_inc hi_ hc27_40) (own_lti hi_ hc27_40) rfl
      · refine own_st (fun _ k => XS.icmpYes X37.here hx rfl (pc0 := 27) (pc' := 89) rfl (hb hby own_dprog_35_method_22_code_27) rfl (flt hc27_40).2.1 (by decide) (by decide) k) ?_
        show own_Go p.tables e below RR (T37.setTop (mkF m 89 #[.val (.ref pa), .val (.int wd), .val (.int (65536 : Int32)), .val (.ref b1), .val (.int (ln - wd)), .val (.int xi), .val (.int z6), .val (.int z7)] []))
        show own_Go p.tables e below RR (T37.setTop (mkF m 89 #[.val (.ref pa), .val (.int wd), .val (.int (65536 : Int32)), .val (.ref b1), .val (.int (ln - wd)), .val (.int xi), .val (.int z6), .val (.int z7)] []))
        refine own_st (fun _ k => XS.aloadN X37.here hx rfl (hb hby own_dprog_35_method_22_code_89) rfl rfl k) ?_
        show own_Go p.tables e below RR (T37.setTop (mkF m 90 #[.val (.ref pa), .val (.int wd), .val (.int (65536 : Int32)), .val (.ref b1), .val (.int (ln - wd)), .val (.int xi), .val (.int z6), .val (.int z7)] [(.ref b1)]))
        obtain ⟨fs, hrt_, hrun, hended, hW, hsame⟩ := X37.leave (v := some (.ref b1)) (fun h => by rw [Bd.returns] at h; cases h)
        refine own_fin (retOut X37 hx Bd.returns rfl (Or.inr (Or.inr (Or.inr (Or.inr ⟨rfl, rfl, rfl⟩)))) (hb hby own_dprog_35_method_22_code_90) hrt_) (hRR _ ⟨_, hrun, hended, _, _, rfl, ?_, ⟨_, rfl⟩, hW, hsame.mono (by show 1 + np ≤ 4; have := own_U_le U2; omega) (by show 256 + 256 * np ≤ 1024; have := own_U_le U2; omega)⟩)
        show own_QPO256 Z pa kp ln pl va vb wd ab h0 n0 _ T37.heap _
        rw [e37]
        exact ⟨_, rfl, N37, kk39⟩
  exact loop37 _ T32 _ h32 (1 : Int32) 1 zv16 ((zv16.toUInt32 >>> ((8 : Int32) &&& 31).toUInt32).toInt32) ((own_fl 256 256 (.ref ab) .null).set ((zv16.toUInt32 >>> ((8 : Int32) &&& 31).toUInt32).toInt32).toNatClampNeg (.ref b20)) 1 X32 e32 N32 ((((Keep.refl T7.heap [b1]).ext E20).wr W25 (Or.inl (List.mem_of_getElem? (i := 0) rfl))).wr W32 (Or.inr hbs25)) f36 Iw32 Un25 (by decide) (by omega) rfl
theorem own_efFO1 (m : MethodId) (oa : Addr) (ov : Addr) : entryFrame m #[(.ref oa), (.ref ov)] 4 = mkF m 0 #[.val (.ref oa), .val (.ref ov), .unset, .unset] [] := by first | (simp [entryFrame, mkF, argsToLocals, Value.category]; done) | rfl
def own_QFO1 (Z : State) (oa : Addr) (ov : Addr) (ka : ClassId) (h0 : Heap) (n0 : Nat) (rv__ : Option Value) (h : Heap) (rL__ : List Loc) : Prop := rv__ = none ∧ Fr n0 rL__ ∧ Keep h0 h [oa] ∧ Arv Z h oa ka (.array .long) (1 : Int32) (own_fl 1 1 (.ref ov) .null) .null
abbrev own_RFO1 : Room := { frames := 0, cells := 0, slots := 0, locals := 0 }
set_option maxRecDepth 65536 in
set_option maxHeartbeats 40000000 in
theorem own_rmFO1 (l : Launch) (Z : State) (a0 : Array Value) (hw : ∀ d ∈ tables_1, d.before a0 Z = true) (ws : List Jvm.Cond) (oa : Addr) (ov : Addr) (ka : ClassId) (h0 : Heap) (n0 : Nat) (Z0 : n0 ≤ h0.size) (g_a : n0 ≤ oa) (Va : Arv Z h0 oa ka (.array .long) (1 : Int32) [.null] .null) (Oa : OvrA Z ka .long "[J") (Ev : Exa Z h0 ov "[J") :
    MetFree l (⟨"java/util/Arrays", "fill", "([Ljava/lang/Object;Ljava/lang/Object;)V"⟩ : MethodName) (head1 (Jvm.Cond.code (⟨"java/util/Arrays", "fill", "([Ljava/lang/Object;Ljava/lang/Object;)V"⟩ : MethodName) jdk_65_method_117_code 4 none :: ws) own_RFO1) (fun aa__ U => aa__ = #[(.ref oa), (.ref ov)] ∧ Z.Warmed39 U.vm ∧ U.heap = h0) (fun _ _ _ _ _ => True) (fun _ U oc_ U' => ∃ rv__ rL__, oc_ = .returned rv__ ∧ own_QFO1 Z oa ov ka h0 n0 rv__ U'.heap rL__ ∧ FrameEnd U oc_ U' rL__ own_RFO1.cells own_RFO1.slots) := by
  refine MetFree.of_bodySF (plainFor_of_name own_pn_java_util_Arrays) hisR ?_
  intro p e s m args below meth c s₁ Bd hml0 hP hK
  obtain ⟨rfl, hZ, hh⟩ := hP
  have hx := Bd.exec
  have hby := Bd.bytes
  have hml : c.maxLocals = 4 := hml0
  have hown : s.vm.findClass "java/util/Arrays" = some m.cls := findClass_of_methodNamed Bd.named
  have hnm := (name_of_methodNamed Bd.named Bd.method).1
  have X0 : Stand p l e own_RFO1 s m #[(.ref oa), (.ref ov)] below meth c s₁ [] 0 0 := Stand.of_body Bd
  have e0 : s₁.heap = h0 := by rw [← hh, Bd.state]; rfl
  have N0 := Fr.nil n0
  refine own_in (fun _ k => castTop (own_efFO1 m oa ov) k) ?_
  intro RR hRR
  show own_Go p.tables e below RR (s₁.setTop (mkF m 0 #[.val (.ref oa), .val (.ref ov), .unset, .unset] []))
  refine own_st (fun _ k => XS.iconst X0.here hx rfl (hb hby own_djdk_65_method_117_code_0) (XS.istoreN X0.here hx rfl (hb hby own_djdk_65_method_117_code_1) rfl (l' := #[.val (.ref oa), .val (.ref ov), .val (.int (0 : Int32)), .unset]) rfl (XS.aloadN X0.here hx rfl (hb hby own_djdk_65_method_117_code_2) rfl rfl k))) ?_
  show own_Go p.tables e below RR (s₁.setTop (mkF m 3 #[.val (.ref oa), .val (.ref ov), .val (.int (0 : Int32)), .unset] [(.ref oa)]))
  obtain ⟨c1, A1, -, s1, m1, -, -⟩ := id Va
  refine own_st (fun _ k => own_len X0 hx hZ e0 A1 s1 m1 (g := (mkF m 3 #[.val (.ref oa), .val (.ref ov), .val (.int (0 : Int32)), .unset] [(.ref oa)])) rfl rfl (hb hby own_djdk_65_method_117_code_3) (XS.istoreN X0.here hx rfl (hb hby own_djdk_65_method_117_code_4) rfl (l' := #[.val (.ref oa), .val (.ref ov), .val (.int (0 : Int32)), .val (.int (1 : Int32))]) rfl k)) ?_
  show own_Go p.tables e below RR (s₁.setTop (mkF m 5 #[.val (.ref oa), .val (.ref ov), .val (.int (0 : Int32)), .val (.int (1 : Int32))] []))
  have loop2 : ∀ (k : Nat) (T2 : State) (lo2 : List Loc) (hh2 : Heap) (xi : Int32) (i_ : Nat) (X2 : Stand p l e own_RFO1 s m #[(.ref oa), (.ref ov)] below meth c T2 lo2 0 0) (e2 : T2.heap = hh2) (N2 : Fr n0 lo2) (K2 : Keep h0 hh2 [oa]) (V2 : Arv Z hh2 oa ka (.array .long) (1 : Int32) (own_fl 1 i_ (.ref ov) .null) .null) (hi_ : xi.toInt = (i_ : Int)) (hle : i_ ≤ 1) (_ : 1 - i_ = k), own_Go p.tables e below RR (T2.setTop (mkF m 5 #[.val (.ref oa), .val (.ref ov), .val (.int xi), .val (.int (1 : Int32))] [])) := by
    intro k
    induction k using Nat.strongRecOn with
    | _ k ih2 =>
      intro T2 lo2 hh2 xi i_ X2 e2 N2 K2 V2 hi_ hle hk
      have z3 : n0 ≤ hh2.size := Nat.le_trans Z0 K2.1
      show own_Go p.tables e below RR (T2.setTop (mkF m 5 #[.val (.ref oa), .val (.ref ov), .val (.int xi), .val (.int (1 : Int32))] []))
      refine own_st (fun _ k => XS.iloadN X2.here hx rfl (hb hby own_djdk_65_method_117_code_5) rfl (XS.iloadN X2.here hx rfl (hb hby own_djdk_65_method_117_code_6) rfl k)) ?_
      show own_Go p.tables e below RR (T2.setTop (mkF m 7 #[.val (.ref oa), .val (.ref ov), .val (.int xi), .val (.int (1 : Int32))] [(.int (1 : Int32)), (.int xi)]))
      by_cases hc7_4 : xi < (1 : Int32)
      · refine own_st (fun _ k => XS.icmpNo X2.here hx rfl (hb hby own_djdk_65_method_117_code_7) rfl (tlt hc7_4).2.1 (XS.aloadN X2.here hx rfl (hb hby own_djdk_65_method_117_code_10) rfl rfl (XS.iloadN X2.here hx rfl (hb hby own_djdk_65_method_117_code_11) rfl (XS.aloadN X2.here hx rfl (hb hby own_djdk_65_method_117_code_12) rfl rfl k)))) ?_
        show own_Go p.tables e below RR (T2.setTop (mkF m 13 #[.val (.ref oa), .val (.ref ov), .val (.int xi), .val (.int (1 : Int32))] [(.ref ov), (.int xi), (.ref oa)]))
        obtain ⟨c5, A5, q5, s5, m5, H5, G5⟩ := id V2
        have f6 := (Ev.keep K2)
        obtain ⟨T7, h7, X7, e7, W7, st7⟩ := stR X2 hx hZ e2 A5 (j := xi) (inb_of s5 ⟨own_nn0 (by omega), hc7_4⟩) rfl (Sto.ofVA A5 q5 Oa (Ins.self f6)) (g := (mkF m 13 #[.val (.ref oa), .val (.ref ov), .val (.int xi), .val (.int (1 : Int32))] [(.ref ov), (.int xi), (.ref oa)])) rfl rfl (hb hby own_djdk_65_method_117_code_13)
        have il7 : i_ < 1 := (by have q := hc7_4; rw [Int32.lt_iff_toInt_lt] at q; have e : (1 : Int32).toInt = 1 := (by decide); omega)
        have U7 := Arv.set A5 q5 s5 m5 H5 G5 rfl W7 i_ (own_nci hi_) (by rw [own_fl_len hle]; exact il7)
        have V7 : Arv Z h7 oa ka (.array .long) (1 : Int32) (own_fl 1 (i_ + 1) (.ref ov) .null) .null := by rw [← own_flS il7]; exact U7
        have N7 := Fr.snoc X7 N2 g_a
        refine own_st st7 ?_
        have z8 : n0 ≤ h7.size := Nat.le_trans z3 (Keep.of_wr W7).1
        show own_Go p.tables e below RR (T7.setTop (mkF m 14 #[.val (.ref oa), .val (.ref ov), .val (.int xi), .val (.int (1 : Int32))] []))
        refine own_st (fun _ k => XS.iinc X7.here hx rfl (hb hby own_djdk_65_method_117_code_14) rfl (l' := #[.val (.ref oa), .val (.ref ov), .val (.int (xi + (1 : Int32))), .val (.int (1 : Int32))]) rfl (XS.goto X7.here hx rfl (pc0 := 17) (pc' := 5) rfl (hb hby own_djdk_65_method_117_code_17) (by decide) (by decide) k)) ?_
        show own_Go p.tables e below RR (T7.setTop (mkF m 5 #[.val (.ref oa), .val (.ref ov), .val (.int (xi + (1 : Int32))), .val (.int (1 : Int32))] []))
        exact ih2 _ (by have q : i_ < 1 := (by have q := hc7_4; rw [Int32.lt_iff_toInt_lt] at q; have e : (1 : Int32).toInt = 1 := (by decide); omega); omega) T7 _ h7 (xi + (1 : Int32)) (i_ + 1) X7 e7 N7 (K2.wr W7 (Or.inl (List.mem_of_getElem? (i := 0) rfl))) V7 (own_inc hi_ hc7_4) (by have q := hc7_4; rw [Int32.lt_iff_toInt_lt] at q; have e : (1 : Int32).toInt = 1 := (by decide); omega) rfl
      · refine own_st (fun _ k => XS.icmpYes X2.here hx rfl (pc0 := 7) (pc' := 20) rfl (hb hby own_djdk_65_method_117_code_7) rfl (flt hc7_4).2.1 (by decide) (by decide) k) ?_
        show own_Go p.tables e below RR (T2.setTop (mkF m 20 #[.val (.ref oa), .val (.ref ov), .val (.int xi), .val (.int (1 : Int32))] []))
        obtain ⟨fs, hrt_, hrun, hended, hW, hsame⟩ := X2.leave (v := none) (fun _ => rfl)
        refine own_fin (X2.returnOut hx Bd.returns (hb hby own_djdk_65_method_117_code_20) hrt_) (hRR _ ⟨_, hrun, hended, _, _, rfl, ?_, ⟨_, rfl⟩, hW, hsame.mono (by decide) (by decide)⟩)
        show own_QFO1 Z oa ov ka h0 n0 _ T2.heap _
        rw [e2]
        obtain rfl : i_ = 1 := by have q := hc7_4; rw [Int32.lt_iff_toInt_lt] at q; have e : (1 : Int32).toInt = 1 := (by decide); omega
        exact ⟨rfl, N2, K2, V2⟩
  exact loop2 _ s₁ _ h0 (0 : Int32) 0 X0 e0 N0 (Keep.refl h0 [oa]) Va (by decide) (by decide) rfl
theorem own_efPO1 (m : MethodId) (pa : Addr) (wd : Int32) : entryFrame m #[(.ref pa), (.int wd), (.int (256 : Int32))] 8 = mkF m 0 #[.val (.ref pa), .val (.int wd), .val (.int (256 : Int32)), .unset, .unset, .unset, .unset, .unset] [] := by first | (simp [entryFrame, mkF, argsToLocals, Value.category]; done) | rfl
def own_QPO1 (Z : State) (pa : Addr) (kp : ClassId) (ln : Int32) (pl : List Value) (va : Int32) (vb : Int32) (wd : Int32) (ab : Addr) (h0 : Heap) (n0 : Nat) (rv__ : Option Value) (h : Heap) (rL__ : List Loc) : Prop := ∃ r__ : Addr, rv__ = some (.ref r__) ∧ Fr n0 rL__ ∧ Keep h0 h []
abbrev own_RPO1 : Room := { frames := 1, cells := 4, slots := 769, locals := 15 }
set_option maxRecDepth 65536 in
set_option maxHeartbeats 40000000 in
theorem own_rmPO1 (l : Launch) (Z : State) (a0 : Array Value) (hw : ∀ d ∈ tables_1, d.before a0 Z = true) (ws : List Jvm.Cond) (pa : Addr) (kp : ClassId) (ln : Int32) (pl : List Value) (va : Int32) (vb : Int32) (wd : Int32) (ab : Addr) (h0 : Heap) (n0 : Nat) (Z0 : n0 ≤ h0.size) (Vp : Arv Z h0 pa kp .int ln pl (.int (0 : Int32))) (hpat : own_pat pl va vb) (hln : 5 ≤ ln.toInt ∧ ln.toInt ≤ 132) (hwd : 4 ≤ wd.toInt ∧ wd.toInt ≤ ln.toInt) (hva : 0 ≤ va.toInt ∧ va.toInt < 256) (hvb : 0 ≤ vb.toInt ∧ vb.toInt < 256) (Sa : Sta Z h0 "com/example/shiftwise/shiftwise/search/FactorSkip" "ABSENT" "[J" (.ref ab)) (Ea : Exa Z h0 ab "[J") :
    MetFree l (⟨"com/example/shiftwise/shiftwise/search/FactorSkip", "positions", "([III)[[J"⟩ : MethodName) (head1 (Jvm.Cond.code (⟨"com/example/shiftwise/shiftwise/search/FactorSkip", "positions", "([III)[[J"⟩ : MethodName) prog_35_method_22_code 8 (some (.array (.array .long))) :: ws) own_RPO1) (fun aa__ U => aa__ = #[(.ref pa), (.int wd), (.int (256 : Int32))] ∧ Z.Warmed39 U.vm ∧ U.heap = h0) (fun _ _ _ _ _ => True) (fun _ U oc_ U' => ∃ rv__ rL__, oc_ = .returned rv__ ∧ own_QPO1 Z pa kp ln pl va vb wd ab h0 n0 rv__ U'.heap rL__ ∧ FrameEnd U oc_ U' rL__ own_RPO1.cells own_RPO1.slots) := by
  refine MetFree.of_bodySF (plainFor_of_name own_pn_com_example_shiftwise_shiftwise_search_FactorSkip) hisR ?_
  intro p e s m args below meth c s₁ Bd hml0 hP hK
  obtain ⟨rfl, hZ, hh⟩ := hP
  have hx := Bd.exec
  have hby := Bd.bytes
  have hml : c.maxLocals = 8 := hml0
  have hown : s.vm.findClass "com/example/shiftwise/shiftwise/search/FactorSkip" = some m.cls := findClass_of_methodNamed Bd.named
  have hnm := (name_of_methodNamed Bd.named Bd.method).1
  have X0 : Stand p l e own_RPO1 s m #[(.ref pa), (.int wd), (.int (256 : Int32))] below meth c s₁ [] 0 0 := Stand.of_body Bd
  have e0 : s₁.heap = h0 := by rw [← hh, Bd.state]; rfl
  have N0 := Fr.nil n0
  refine own_in (fun _ k => castTop (own_efPO1 m pa wd) k) ?_
  intro RR hRR
  show own_Go p.tables e below RR (s₁.setTop (mkF m 0 #[.val (.ref pa), .val (.int wd), .val (.int (256 : Int32)), .unset, .unset, .unset, .unset, .unset] []))
  refine own_st (fun _ k => XS.iloadN X0.here hx rfl (hb hby own_dprog_35_method_22_code_0) rfl (XS.bipush X0.here hx rfl (hb hby own_dprog_35_method_22_code_1) (XS.iushr X0.here hx rfl (hb hby own_dprog_35_method_22_code_3) rfl k))) ?_
  show own_Go p.tables e below RR (s₁.setTop (mkF m 4 #[.val (.ref pa), .val (.int wd), .val (.int (256 : Int32)), .unset, .unset, .unset, .unset, .unset] [(.int (((256 : Int32).toUInt32 >>> ((8 : Int32) &&& 31).toUInt32).toInt32))]))
  rw [show (((256 : Int32).toUInt32 >>> ((8 : Int32) &&& 31).toUInt32).toInt32) = (1 : Int32) from by decide]
  show own_Go p.tables e below RR (s₁.setTop (mkF m 4 #[.val (.ref pa), .val (.int wd), .val (.int (256 : Int32)), .unset, .unset, .unset, .unset, .unset] [(.int (1 : Int32))]))
  obtain ⟨T1, h1, k1, X1, e1, E1, A1, B1, O1, st1⟩ := newRA X0 hx hZ hown (ty := .long) (C := "[J") (by decide) (hw _ (List.mem_of_getElem? (i := 35) rfl)) (hw _ (List.mem_of_getElem? (i := 36) rfl)) e0 (g := (mkF m 4 #[.val (.ref pa), .val (.int wd), .val (.int (256 : Int32)), .unset, .unset, .unset, .unset, .unset] [(.int (1 : Int32))])) rfl (hb hby own_dprog_35_method_22_code_4) rfl (by decide) (cap := 1) (by decide) (by decide) (by decide) (by decide) (ad := "[[J") (by decide)
  obtain ⟨b1, gb1⟩ : ∃ z, z = h0.size := ⟨_, rfl⟩
  rw [← gb1] at A1 B1 st1
  have ge1 : n0 ≤ b1 := Nat.le_trans Z0 (Nat.le_of_eq gb1.symm)
  have sz1 : h0.size ≤ b1 := Nat.le_trans (Keep.refl h0 []).1 (Nat.le_of_eq gb1.symm)
  refine own_st st1 ?_
  have z2 : n0 ≤ h1.size := Nat.le_trans Z0 E1.1
  have kk3 : Keep h0 h1 [] := (Keep.refl h0 []).ext E1
  have V1 : Arv Z h1 b1 k1 (.array .long) (1 : Int32) [.null] .null := (Arv.new A1 (by decide)).pad (pad_rep [] .null 1)
  show own_Go p.tables e below RR (T1.setTop (mkF m 7 #[.val (.ref pa), .val (.int wd), .val (.int (256 : Int32)), .unset, .unset, .unset, .unset, .unset] [(.ref b1)]))
  refine own_st (fun _ k => XS.astoreN X1.here hx rfl (hb hby own_dprog_35_method_22_code_7) rfl rfl (l' := #[.val (.ref pa), .val (.int wd), .val (.int (256 : Int32)), .val (.ref b1), .unset, .unset, .unset, .unset]) rfl (XS.aloadN X1.here hx rfl (hb hby own_dprog_35_method_22_code_8) rfl rfl k)) ?_
  show own_Go p.tables e below RR (T1.setTop (mkF m 9 #[.val (.ref pa), .val (.int wd), .val (.int (256 : Int32)), .val (.ref b1), .unset, .unset, .unset, .unset] [(.ref b1)]))
  have f4 := (Sa.ext E1)
  obtain ⟨T5, X5, e5, st5⟩ := getS2 X1 hx hZ hown (host := "") (Or.inl (hw _ (List.mem_of_getElem? (i := 37) rfl))) Via.refl e1 f4 (g := (mkF m 9 #[.val (.ref pa), .val (.int wd), .val (.int (256 : Int32)), .val (.ref b1), .unset, .unset, .unset, .unset] [(.ref b1)])) rfl (hb hby own_dprog_35_method_22_code_9)
  refine own_st st5 ?_
  show own_Go p.tables e below RR (T5.setTop (mkF m 12 #[.val (.ref pa), .val (.int wd), .val (.int (256 : Int32)), .val (.ref b1), .unset, .unset, .unset, .unset] [(.ref ab), (.ref b1)]))
  have f6 := (Ea.ext E1)
  obtain ⟨_, _, ⟨T7, L7, k7, n7⟩, -, X7, ⟨Lc7, hQ7, l7, y7, z7⟩, st7⟩ := Jvm.LawKit.callS X5 hx (y := (⟨"java/util/Arrays", "fill", "([Ljava/lang/Object;Ljava/lang/Object;)V"⟩ : MethodName)) hown (mvT hZ (hw _ (List.mem_of_getElem? (i := 39) rfl))) (mvT hZ (hw _ (List.mem_of_getElem? (i := 40) rfl))) (mvT hZ (hw _ (List.mem_of_getElem? (i := 41) rfl))) (mvT hZ (hw _ (List.mem_of_getElem? (i := 42) rfl))) (by decide) (backOf (W := 0) (own_rmFO1 l Z a0 hw [] b1 ab k1 h1 n0 z2 ge1 V1 O1 f6) hZ (hw _ (List.mem_of_getElem? (i := 42) rfl)) (hw _ (List.mem_of_getElem? (i := 41) rfl)) (by decide) (by decide)) (g := (mkF m 12 #[.val (.ref pa), .val (.int wd), .val (.int (256 : Int32)), .val (.ref b1), .unset, .unset, .unset, .unset] [(.ref ab), (.ref b1)])) rfl (by rw [hml]; rfl) (argsL := [(.ref b1), (.ref ab)]) (rest := []) (lenOf own_pd___Ljava_lang_Object_Ljava_lang_Object__V rfl) rfl (by show 2 * 0 + _ ≤ _; exact Nat.le_of_eq rfl) (hb hby own_dprog_35_method_22_code_12) (fun _ _ => ⟨rfl, e5, (by decide : 1 + 0 ≤ _), (by decide : 1 + 0 ≤ _)⟩)
  dsimp only [Pt.U, Pt.locs, Pt.cells, Pt.slots] at X7 l7 y7 z7 st7 hQ7
  subst l7 y7 z7
  obtain ⟨rfl, Nq7, Kq7, Vq7⟩ := hQ7
  have N7 := Fr.app N0 Nq7
  refine own_st st7 ?_
  have z8 : n0 ≤ T7.heap.size := Nat.le_trans z2 Kq7.1
  have kk9 : Keep h0 T7.heap [] := kk3.trans Kq7 (allS (Or.inr sz1) all0)
  have I0_ : own_I Z T7.heap T7.heap.size ab 1 (own_fl 1 1 (.ref ab) .null) := own_I0 _ _ _ _ _ _
  have U0_ : own_U (own_fl 1 1 (.ref ab) .null) ab (((0 : Int32).toUInt32 >>> ((8 : Int32) &&& 31).toUInt32).toInt32).toNatClampNeg ((va.toUInt32 >>> ((8 : Int32) &&& 31).toUInt32).toInt32).toNatClampNeg ((vb.toUInt32 >>> ((8 : Int32) &&& 31).toUInt32).toInt32).toNatClampNeg 0 := own_U0 _ _ _ _ _
  have blt : b1 < T7.heap.size := Vq7.lt
  have f10 := (f6.keep Kq7)
  have alt : ab < T7.heap.size := f10.lt
  show own_Go p.tables e below RR (T7.setTop (mkF m 15 #[.val (.ref pa), .val (.int wd), .val (.int (256 : Int32)), .val (.ref b1), .unset, .unset, .unset, .unset] []))
  refine own_st (fun _ k => XS.aloadN X7.here hx rfl (hb hby own_dprog_35_method_22_code_15) rfl rfl k) ?_
  show own_Go p.tables e below RR (T7.setTop (mkF m 16 #[.val (.ref pa), .val (.int wd), .val (.int (256 : Int32)), .val (.ref b1), .unset, .unset, .unset, .unset] [(.ref pa)]))
  have ne11 : pa ≠ b1 := (Nat.ne_of_lt (Nat.lt_of_lt_of_le Vp.lt (Nat.le_of_eq gb1.symm)))
  have f12 := ((Vp.ext E1).keep Kq7 (ninS ne11 nin0))
  obtain ⟨c13, A13, -, s13, m13, -, -⟩ := id f12
  refine own_st (fun _ k => own_len X7 hx hZ rfl A13 s13 m13 (g := (mkF m 16 #[.val (.ref pa), .val (.int wd), .val (.int (256 : Int32)), .val (.ref b1), .unset, .unset, .unset, .unset] [(.ref pa)])) rfl rfl (hb hby own_dprog_35_method_22_code_16) (XS.iloadN X7.here hx rfl (hb hby own_dprog_35_method_22_code_17) rfl (XS.isub X7.here hx rfl (hb hby own_dprog_35_method_22_code_18) rfl (XS.istore X7.here hx rfl (hb hby own_dprog_35_method_22_code_19) rfl (l' := #[.val (.ref pa), .val (.int wd), .val (.int (256 : Int32)), .val (.ref b1), .val (.int (ln - wd)), .unset, .unset, .unset]) rfl (XS.iconst X7.here hx rfl (hb hby own_dprog_35_method_22_code_21) (XS.istore X7.here hx rfl (hb hby own_dprog_35_method_22_code_22) rfl (l' := #[.val (.ref pa), .val (.int wd), .val (.int (256 : Int32)), .val (.ref b1), .val (.int (ln - wd)), .val (.int (0 : Int32)), .unset, .unset]) rfl k)))))) ?_
  show own_Go p.tables e below RR (T7.setTop (mkF m 24 #[.val (.ref pa), .val (.int wd), .val (.int (256 : Int32)), .val (.ref b1), .val (.int (ln - wd)), .val (.int (0 : Int32)), .unset, .unset] []))
  show own_Go p.tables e below RR (T7.setTop (mkF m 24 #[.val (.ref pa), .val (.int wd), .val (.int (256 : Int32)), .val (.ref b1), .val (.int (ln - wd)), .val (.int (0 : Int32)), .unset, .unset] []))
  refine own_st (fun _ k => XS.iload X7.here hx rfl (hb hby own_dprog_35_method_22_code_24) rfl (XS.iloadN X7.here hx rfl (hb hby own_dprog_35_method_22_code_26) rfl k)) ?_
  show own_Go p.tables e below RR (T7.setTop (mkF m 27 #[.val (.ref pa), .val (.int wd), .val (.int (256 : Int32)), .val (.ref b1), .val (.int (ln - wd)), .val (.int (0 : Int32)), .unset, .unset] [(.int wd), (.int (0 : Int32))]))
  have hc27_14 : (0 : Int32) < wd := (by rw [Int32.lt_iff_toInt_lt]; have e : (0 : Int32).toInt = 0 := (by decide); omega)
  refine own_st (fun _ k => XS.icmpNo X7.here hx rfl (hb hby own_dprog_35_method_22_code_27) rfl (tlt hc27_14).2.1 k) ?_
  show own_Go p.tables e below RR (T7.setTop (mkF m 30 #[.val (.ref pa), .val (.int wd), .val (.int (256 : Int32)), .val (.ref b1), .val (.int (ln - wd)), .val (.int (0 : Int32)), .unset, .unset] []))
  show own_Go p.tables e below RR (T7.setTop (mkF m 30 #[.val (.ref pa), .val (.int wd), .val (.int (256 : Int32)), .val (.ref b1), .val (.int (ln - wd)), .val (.int (0 : Int32)), .unset, .unset] []))
  refine own_st (fun _ k => XS.aloadN X7.here hx rfl (hb hby own_dprog_35_method_22_code_30) rfl rfl (XS.iload X7.here hx rfl (hb hby own_dprog_35_method_22_code_31) rfl (XS.iload X7.here hx rfl (hb hby own_dprog_35_method_22_code_33) rfl (XS.iadd X7.here hx rfl (hb hby own_dprog_35_method_22_code_35) rfl k)))) ?_
  show own_Go p.tables e below RR (T7.setTop (mkF m 36 #[.val (.ref pa), .val (.int wd), .val (.int (256 : Int32)), .val (.ref b1), .val (.int (ln - wd)), .val (.int (0 : Int32)), .unset, .unset] [(.int ((ln - wd) + (0 : Int32))), (.ref pa)]))
  obtain ⟨c15, A15, q15, s15, m15, H15, G15⟩ := id f12
  have ix16 := own_ix (xi := (0 : Int32)) (i := 0) hln hwd (by decide) hc27_14
  obtain ⟨zv16, hzv16, hzd16⟩ := hpat ((ln - wd) + (0 : Int32)).toNatClampNeg (own_tnN (n := 132) ⟨ix16.1, by omega⟩)
  have hzb16 := own_zb (M := 256) hzd16 (by decide) hva hvb
  have hj16 : 0 ≤ ((zv16.toUInt32 >>> ((8 : Int32) &&& 31).toUInt32).toInt32).toInt ∧ ((zv16.toUInt32 >>> ((8 : Int32) &&& 31).toUInt32).toInt32).toInt < 1 := own_hrN (N := 1) hzb16 (by decide)
  have hjn16 : ((zv16.toUInt32 >>> ((8 : Int32) &&& 31).toUInt32).toInt32).toNatClampNeg < 1 := own_tnN (n := 1) hj16
  have b15 := inb_of (j := ((ln - wd) + (0 : Int32))) s15 ⟨own_nn0 ix16.1, own_ltv rfl ix16.2⟩
  refine own_st (fun _ k => X7.iaload hx (j := ((ln - wd) + (0 : Int32))) (v := (.int zv16)) (by exact A15.1) (State.isArrayOf_alike hZ.alike A15.2.1) A15.2.2 b15 (Has.at H15 b15 hzv16) (g := (mkF m 36 #[.val (.ref pa), .val (.int wd), .val (.int (256 : Int32)), .val (.ref b1), .val (.int (ln - wd)), .val (.int (0 : Int32)), .unset, .unset] [(.int ((ln - wd) + (0 : Int32))), (.ref pa)])) rfl rfl (hb hby own_dprog_35_method_22_code_36) _ (XS.istore X7.here hx rfl (hb hby own_dprog_35_method_22_code_37) rfl (l' := #[.val (.ref pa), .val (.int wd), .val (.int (256 : Int32)), .val (.ref b1), .val (.int (ln - wd)), .val (.int (0 : Int32)), .val (.int zv16), .unset]) rfl (XS.iload X7.here hx rfl (hb hby own_dprog_35_method_22_code_39) rfl (XS.bipush X7.here hx rfl (hb hby own_dprog_35_method_22_code_41) (XS.iushr X7.here hx rfl (hb hby own_dprog_35_method_22_code_43) rfl (XS.istore X7.here hx rfl (hb hby own_dprog_35_method_22_code_44) rfl (l' := #[.val (.ref pa), .val (.int wd), .val (.int (256 : Int32)), .val (.ref b1), .val (.int (ln - wd)), .val (.int (0 : Int32)), .val (.int zv16), .val (.int ((zv16.toUInt32 >>> ((8 : Int32) &&& 31).toUInt32).toInt32))]) rfl k)))))) ?_
  show own_Go p.tables e below RR (T7.setTop (mkF m 46 #[.val (.ref pa), .val (.int wd), .val (.int (256 : Int32)), .val (.ref b1), .val (.int (ln - wd)), .val (.int (0 : Int32)), .val (.int zv16), .val (.int ((zv16.toUInt32 >>> ((8 : Int32) &&& 31).toUInt32).toInt32))] []))
  have hq16 : (own_fl 1 1 (.ref ab) .null).getD ((zv16.toUInt32 >>> ((8 : Int32) &&& 31).toUInt32).toInt32).toNatClampNeg .null = .ref ab := own_flg hjn16 _ _ _
  show own_Go p.tables e below RR (T7.setTop (mkF m 46 #[.val (.ref pa), .val (.int wd), .val (.int (256 : Int32)), .val (.ref b1), .val (.int (ln - wd)), .val (.int (0 : Int32)), .val (.int zv16), .val (.int ((zv16.toUInt32 >>> ((8 : Int32) &&& 31).toUInt32).toInt32))] []))
  refine own_st (fun _ k => XS.aloadN X7.here hx rfl (hb hby own_dprog_35_method_22_code_46) rfl rfl (XS.iload X7.here hx rfl (hb hby own_dprog_35_method_22_code_47) rfl k)) ?_
  show own_Go p.tables e below RR (T7.setTop (mkF m 49 #[.val (.ref pa), .val (.int wd), .val (.int (256 : Int32)), .val (.ref b1), .val (.int (ln - wd)), .val (.int (0 : Int32)), .val (.int zv16), .val (.int ((zv16.toUInt32 >>> ((8 : Int32) &&& 31).toUInt32).toInt32))] [(.int ((zv16.toUInt32 >>> ((8 : Int32) &&& 31).toUInt32).toInt32)), (.ref b1)]))
  obtain ⟨c17, A17, q17, s17, m17, H17, G17⟩ := id Vq7
  have b17 := inb_of (j := ((zv16.toUInt32 >>> ((8 : Int32) &&& 31).toUInt32).toInt32)) s17 (own_inN (n := 1) (by decide) hj16)
  refine own_st (fun _ k => X7.aaload hx (j := ((zv16.toUInt32 >>> ((8 : Int32) &&& 31).toUInt32).toInt32)) (v := (.ref ab)) (by exact A17.1) (State.isArrayOf_alike hZ.alike A17.2.1) rfl A17.2.2 b17 (Has.at H17 b17 hq16) (g := (mkF m 49 #[.val (.ref pa), .val (.int wd), .val (.int (256 : Int32)), .val (.ref b1), .val (.int (ln - wd)), .val (.int (0 : Int32)), .val (.int zv16), .val (.int ((zv16.toUInt32 >>> ((8 : Int32) &&& 31).toUInt32).toInt32))] [(.int ((zv16.toUInt32 >>> ((8 : Int32) &&& 31).toUInt32).toInt32)), (.ref b1)])) rfl rfl (hb hby own_dprog_35_method_22_code_49) _ k) ?_
  show own_Go p.tables e below RR (T7.setTop (mkF m 50 #[.val (.ref pa), .val (.int wd), .val (.int (256 : Int32)), .val (.ref b1), .val (.int (ln - wd)), .val (.int (0 : Int32)), .val (.int zv16), .val (.int ((zv16.toUInt32 >>> ((8 : Int32) &&& 31).toUInt32).toInt32))] [(.ref ab)]))
  have f18 := (own_staK f4 Kq7 (allS B1.nostat all0))
  obtain ⟨T19, X19, e19, st19⟩ := getS2 X7 hx hZ hown (host := "") (Or.inl (hw _ (List.mem_of_getElem? (i := 37) rfl))) Via.refl rfl f18 (g := (mkF m 50 #[.val (.ref pa), .val (.int wd), .val (.int (256 : Int32)), .val (.ref b1), .val (.int (ln - wd)), .val (.int (0 : Int32)), .val (.int zv16), .val (.int ((zv16.toUInt32 >>> ((8 : Int32) &&& 31).toUInt32).toInt32))] [(.ref ab)])) rfl (hb hby own_dprog_35_method_22_code_50)
  refine own_st st19 ?_
  show own_Go p.tables e below RR (T19.setTop (mkF m 53 #[.val (.ref pa), .val (.int wd), .val (.int (256 : Int32)), .val (.ref b1), .val (.int (ln - wd)), .val (.int (0 : Int32)), .val (.int zv16), .val (.int ((zv16.toUInt32 >>> ((8 : Int32) &&& 31).toUInt32).toInt32))] [(.ref ab), (.ref ab)]))
  refine own_st (fun _ k => Jvm.RoadKit.acmp (g := (mkF m 53 #[.val (.ref pa), .val (.int wd), .val (.int (256 : Int32)), .val (.ref b1), .val (.int (ln - wd)), .val (.int (0 : Int32)), .val (.int zv16), .val (.int ((zv16.toUInt32 >>> ((8 : Int32) &&& 31).toUInt32).toInt32))] [(.ref ab), (.ref ab)])) X19 hx rfl rfl rfl (pc0 := 53) (pc' := 56) (same := true) rfl (hb hby own_dprog_35_method_22_code_53) rfl (decide_eq_true rfl) (by decide) (by decide) (XS.aloadN X19.here hx rfl (hb hby own_dprog_35_method_22_code_56) rfl rfl (XS.iload X19.here hx rfl (hb hby own_dprog_35_method_22_code_57) rfl (XS.sipush X19.here hx rfl (hb hby own_dprog_35_method_22_code_59) k)))) ?_
  show own_Go p.tables e below RR (T19.setTop (mkF m 62 #[.val (.ref pa), .val (.int wd), .val (.int (256 : Int32)), .val (.ref b1), .val (.int (ln - wd)), .val (.int (0 : Int32)), .val (.int zv16), .val (.int ((zv16.toUInt32 >>> ((8 : Int32) &&& 31).toUInt32).toInt32))] [(.int (256 : Int32)), (.int ((zv16.toUInt32 >>> ((8 : Int32) &&& 31).toUInt32).toInt32)), (.ref b1)]))
  obtain ⟨T20, h20, k20, X20, e20, E20, A20, B20, st20⟩ := newPE X19 hx hZ (hw _ (List.mem_of_getElem? (i := 44) rfl)) e19 (g := (mkF m 62 #[.val (.ref pa), .val (.int wd), .val (.int (256 : Int32)), .val (.ref b1), .val (.int (ln - wd)), .val (.int (0 : Int32)), .val (.int zv16), .val (.int ((zv16.toUInt32 >>> ((8 : Int32) &&& 31).toUInt32).toInt32))] [(.int (256 : Int32)), (.int ((zv16.toUInt32 >>> ((8 : Int32) &&& 31).toUInt32).toInt32)), (.ref b1)])) rfl (hb hby own_dprog_35_method_22_code_62) rfl (by decide) (cap := 256) (by decide) (by decide) (by decide) (by decide) (ad := "[J") (by decide)
  obtain ⟨b20, gb20⟩ : ∃ z, z = T7.heap.size := ⟨_, rfl⟩
  rw [← gb20] at A20 B20 st20
  have ge20 : n0 ≤ b20 := Nat.le_trans z8 (Nat.le_of_eq gb20.symm)
  have sz20 : h0.size ≤ b20 := Nat.le_trans kk9.1 (Nat.le_of_eq gb20.symm)
  refine own_st st20 ?_
  have z21 : n0 ≤ h20.size := Nat.le_trans z8 E20.1
  have kk22 : Keep h0 h20 [] := kk9.ext E20
  have V20 : Arv Z h20 b20 k20 .long (256 : Int32) [] (.long (0 : Int64)) := Arv.new A20 (by decide)
  show own_Go p.tables e below RR (T20.setTop (mkF m 64 #[.val (.ref pa), .val (.int wd), .val (.int (256 : Int32)), .val (.ref b1), .val (.int (ln - wd)), .val (.int (0 : Int32)), .val (.int zv16), .val (.int ((zv16.toUInt32 >>> ((8 : Int32) &&& 31).toUInt32).toInt32))] [(.ref b20), (.int ((zv16.toUInt32 >>> ((8 : Int32) &&& 31).toUInt32).toInt32)), (.ref b1)]))
  have f23 := (Vq7.ext E20)
  obtain ⟨c24, A24, q24, s24, m24, H24, G24⟩ := id f23
  obtain ⟨T25, h25, X25, e25, W25, st25⟩ := stR X20 hx hZ e20 A24 (j := ((zv16.toUInt32 >>> ((8 : Int32) &&& 31).toUInt32).toInt32)) (inb_of s24 (own_inN (n := 1) (by decide) hj16)) rfl (Sto.ofVA A24 q24 O1 (Ins.self B20)) (g := (mkF m 64 #[.val (.ref pa), .val (.int wd), .val (.int (256 : Int32)), .val (.ref b1), .val (.int (ln - wd)), .val (.int (0 : Int32)), .val (.int zv16), .val (.int ((zv16.toUInt32 >>> ((8 : Int32) &&& 31).toUInt32).toInt32))] [(.ref b20), (.int ((zv16.toUInt32 >>> ((8 : Int32) &&& 31).toUInt32).toInt32)), (.ref b1)])) rfl rfl (hb hby own_dprog_35_method_22_code_64)
  have U25 := Arv.set A24 q24 s24 m24 H24 G24 rfl W25 ((zv16.toUInt32 >>> ((8 : Int32) &&& 31).toUInt32).toInt32).toNatClampNeg rfl (by rw [I0_.1]; exact hjn16)
  have V25 : Arv Z h25 b1 k1 (.array .long) (1 : Int32) ((own_fl 1 1 (.ref ab) .null).set ((zv16.toUInt32 >>> ((8 : Int32) &&& 31).toUInt32).toInt32).toNatClampNeg (.ref b20)) .null := U25
  have hbs25 : T7.heap.size ≤ b20 := Nat.le_trans (Keep.refl T7.heap []).1 (Nat.le_of_eq gb20.symm)
  have I25 := own_I_new I0_ E20 hbs25 V20 W25 blt hjn16
  have Un25 := own_U_new U0_ (own_D hzd16) hq16 (by rw [I0_.1]; exact hjn16) (Nat.ne_of_gt (Nat.lt_of_lt_of_le alt hbs25))
  have Vpd25 := (V20.pad (pad_rep [] (.long (0 : Int64)) 256)).other W25 (Nat.ne_of_gt (Nat.lt_of_lt_of_le blt hbs25))
  have hql25 : ((own_fl 1 1 (.ref ab) .null).set ((zv16.toUInt32 >>> ((8 : Int32) &&& 31).toUInt32).toInt32).toNatClampNeg (.ref b20)).getD ((zv16.toUInt32 >>> ((8 : Int32) &&& 31).toUInt32).toInt32).toNatClampNeg .null = .ref b20 := own_hit I0_.1 hjn16 rfl
  have N25 := Fr.snoc X25 N7 ge1
  refine own_st st25 ?_
  have z26 : n0 ≤ h25.size := Nat.le_trans z21 (Keep.of_wr W25).1
  have kk27 : Keep h0 h25 [] := kk22.wr W25 (Or.inr sz1)
  show own_Go p.tables e below RR (T25.setTop (mkF m 65 #[.val (.ref pa), .val (.int wd), .val (.int (256 : Int32)), .val (.ref b1), .val (.int (ln - wd)), .val (.int (0 : Int32)), .val (.int zv16), .val (.int ((zv16.toUInt32 >>> ((8 : Int32) &&& 31).toUInt32).toInt32))] []))
  show own_Go p.tables e below RR (T25.setTop (mkF m 65 #[.val (.ref pa), .val (.int wd), .val (.int (256 : Int32)), .val (.ref b1), .val (.int (ln - wd)), .val (.int (0 : Int32)), .val (.int zv16), .val (.int ((zv16.toUInt32 >>> ((8 : Int32) &&& 31).toUInt32).toInt32))] []))
  refine own_st (fun _ k => XS.aloadN X25.here hx rfl (hb hby own_dprog_35_method_22_code_65) rfl rfl (XS.iload X25.here hx rfl (hb hby own_dprog_35_method_22_code_66) rfl k)) ?_
  show own_Go p.tables e below RR (T25.setTop (mkF m 68 #[.val (.ref pa), .val (.int wd), .val (.int (256 : Int32)), .val (.ref b1), .val (.int (ln - wd)), .val (.int (0 : Int32)), .val (.int zv16), .val (.int ((zv16.toUInt32 >>> ((8 : Int32) &&& 31).toUInt32).toInt32))] [(.int ((zv16.toUInt32 >>> ((8 : Int32) &&& 31).toUInt32).toInt32)), (.ref b1)]))
  obtain ⟨c28, A28, q28, s28, m28, H28, G28⟩ := id V25
  have b28 := inb_of (j := ((zv16.toUInt32 >>> ((8 : Int32) &&& 31).toUInt32).toInt32)) s28 (own_inN (n := 1) (by decide) hj16)
  refine own_st (fun _ k => X25.aaload hx (j := ((zv16.toUInt32 >>> ((8 : Int32) &&& 31).toUInt32).toInt32)) (v := (.ref b20)) (by rw [e25]; exact A28.1) (State.isArrayOf_alike hZ.alike A28.2.1) rfl A28.2.2 b28 (Has.at H28 b28 hql25) (g := (mkF m 68 #[.val (.ref pa), .val (.int wd), .val (.int (256 : Int32)), .val (.ref b1), .val (.int (ln - wd)), .val (.int (0 : Int32)), .val (.int zv16), .val (.int ((zv16.toUInt32 >>> ((8 : Int32) &&& 31).toUInt32).toInt32))] [(.int ((zv16.toUInt32 >>> ((8 : Int32) &&& 31).toUInt32).toInt32)), (.ref b1)])) rfl rfl (hb hby own_dprog_35_method_22_code_68) _ (XS.iload X25.here hx rfl (hb hby own_dprog_35_method_22_code_69) rfl (XS.sipush X25.here hx rfl (hb hby own_dprog_35_method_22_code_71) (XS.iand X25.here hx rfl (hb hby own_dprog_35_method_22_code_74) rfl (XT.dup2 X25.here hx rfl (hb hby own_dprog_35_method_22_code_75) rfl rfl rfl k))))) ?_
  show own_Go p.tables e below RR (T25.setTop (mkF m 76 #[.val (.ref pa), .val (.int wd), .val (.int (256 : Int32)), .val (.ref b1), .val (.int (ln - wd)), .val (.int (0 : Int32)), .val (.int zv16), .val (.int ((zv16.toUInt32 >>> ((8 : Int32) &&& 31).toUInt32).toInt32))] [(.int (zv16 &&& (255 : Int32))), (.ref b20), (.int (zv16 &&& (255 : Int32))), (.ref b20)]))
  obtain ⟨c29, A29, q29, s29, m29, H29, G29⟩ := id Vpd25
  obtain ⟨lv30, hlv30⟩ := own_fitL (k := (zv16 &&& (255 : Int32)).toNatClampNeg) G29 s29 (own_ncl (own_lr _))
  have b29 := inb_of (j := (zv16 &&& (255 : Int32))) s29 (own_i256 (own_lr _))
  refine own_st (fun _ k => X25.laload hx (j := (zv16 &&& (255 : Int32))) (v := (.long lv30)) (by rw [e25]; exact A29.1) (State.isArrayOf_alike hZ.alike A29.2.1) A29.2.2 b29 (Has.at H29 b29 hlv30) (g := (mkF m 76 #[.val (.ref pa), .val (.int wd), .val (.int (256 : Int32)), .val (.ref b1), .val (.int (ln - wd)), .val (.int (0 : Int32)), .val (.int zv16), .val (.int ((zv16.toUInt32 >>> ((8 : Int32) &&& 31).toUInt32).toInt32))] [(.int (zv16 &&& (255 : Int32))), (.ref b20), (.int (zv16 &&& (255 : Int32))), (.ref b20)])) rfl rfl (hb hby own_dprog_35_method_22_code_76) _ (XS.lconst X25.here hx rfl (hb hby own_dprog_35_method_22_code_77) (XS.iload X25.here hx rfl (hb hby own_dprog_35_method_22_code_78) rfl (XS.lshl X25.here hx rfl (hb hby own_dprog_35_method_22_code_80) rfl k)))) ?_
  show own_Go p.tables e below RR (T25.setTop (mkF m 81 #[.val (.ref pa), .val (.int wd), .val (.int (256 : Int32)), .val (.ref b1), .val (.int (ln - wd)), .val (.int (0 : Int32)), .val (.int zv16), .val (.int ((zv16.toUInt32 >>> ((8 : Int32) &&& 31).toUInt32).toInt32))] [(.long ((1 : Int64) <<< ((0 : Int32) &&& 0x3f).toInt64)), (.long lv30), (.int (zv16 &&& (255 : Int32))), (.ref b20)]))
  rw [show ((1 : Int64) <<< ((0 : Int32) &&& 0x3f).toInt64) = (1 : Int64) from by decide]
  show own_Go p.tables e below RR (T25.setTop (mkF m 81 #[.val (.ref pa), .val (.int wd), .val (.int (256 : Int32)), .val (.ref b1), .val (.int (ln - wd)), .val (.int (0 : Int32)), .val (.int zv16), .val (.int ((zv16.toUInt32 >>> ((8 : Int32) &&& 31).toUInt32).toInt32))] [(.long (1 : Int64)), (.long lv30), (.int (zv16 &&& (255 : Int32))), (.ref b20)]))
  refine own_st (fun _ k => XS.lor X25.here hx rfl (hb hby own_dprog_35_method_22_code_81) rfl k) ?_
  show own_Go p.tables e below RR (T25.setTop (mkF m 82 #[.val (.ref pa), .val (.int wd), .val (.int (256 : Int32)), .val (.ref b1), .val (.int (ln - wd)), .val (.int (0 : Int32)), .val (.int zv16), .val (.int ((zv16.toUInt32 >>> ((8 : Int32) &&& 31).toUInt32).toInt32))] [(.long (lv30 ||| (1 : Int64))), (.int (zv16 &&& (255 : Int32))), (.ref b20)]))
  obtain ⟨c31, A31, q31, s31, m31, H31, G31⟩ := id Vpd25
  obtain ⟨T32, h32, X32, e32, W32, st32⟩ := stJ X25 hx hZ e25 A31 (j := (zv16 &&& (255 : Int32))) (inb_of s31 (own_i256 (own_lr _))) (g := (mkF m 82 #[.val (.ref pa), .val (.int wd), .val (.int (256 : Int32)), .val (.ref b1), .val (.int (ln - wd)), .val (.int (0 : Int32)), .val (.int zv16), .val (.int ((zv16.toUInt32 >>> ((8 : Int32) &&& 31).toUInt32).toInt32))] [(.long (lv30 ||| (1 : Int64))), (.int (zv16 &&& (255 : Int32))), (.ref b20)])) rfl rfl (hb hby own_dprog_35_method_22_code_82)
  have U32 := Arv.set A31 q31 s31 m31 H31 G31 rfl W32 (zv16 &&& (255 : Int32)).toNatClampNeg rfl (by rw [own_rl256]; exact own_ncl (own_lr _))
  have V32 : Arv Z h32 b20 k20 .long (256 : Int32) (([] ++ List.replicate 256 (Value.long (0 : Int64))).set (zv16 &&& (255 : Int32)).toNatClampNeg (.long (lv30 ||| (1 : Int64)))) (.long (0 : Int64)) := U32
  have Iw32 := own_I_wr I25 W32 (own_ls own_rl256) V32
  have N32 := Fr.snoc X32 N25 ge20
  refine own_st st32 ?_
  have z33 : n0 ≤ h32.size := Nat.le_trans z26 (Keep.of_wr W32).1
  have kk34 : Keep h0 h32 [] := kk27.wr W32 (Or.inr sz20)
  show own_Go p.tables e below RR (T32.setTop (mkF m 83 #[.val (.ref pa), .val (.int wd), .val (.int (256 : Int32)), .val (.ref b1), .val (.int (ln - wd)), .val (.int (0 : Int32)), .val (.int zv16), .val (.int ((zv16.toUInt32 >>> ((8 : Int32) &&& 31).toUInt32).toInt32))] []))
  refine own_st (fun _ k => XS.iinc X32.here hx rfl (hb hby own_dprog_35_method_22_code_83) rfl (l' := #[.val (.ref pa), .val (.int wd), .val (.int (256 : Int32)), .val (.ref b1), .val (.int (ln - wd)), .val (.int (1 : Int32)), .val (.int zv16), .val (.int ((zv16.toUInt32 >>> ((8 : Int32) &&& 31).toUInt32).toInt32))]) rfl (XS.goto X32.here hx rfl (pc0 := 86) (pc' := 24) rfl (hb hby own_dprog_35_method_22_code_86) (by decide) (by decide) k)) ?_
  show own_Go p.tables e below RR (T32.setTop (mkF m 24 #[.val (.ref pa), .val (.int wd), .val (.int (256 : Int32)), .val (.ref b1), .val (.int (ln - wd)), .val (.int (1 : Int32)), .val (.int zv16), .val (.int ((zv16.toUInt32 >>> ((8 : Int32) &&& 31).toUInt32).toInt32))] []))
  have ne35 : b1 ≠ b20 := (Nat.ne_of_lt (Nat.lt_of_lt_of_le (B1.keep Kq7).lt (Nat.le_of_eq gb20.symm)))
  have f36 := (V25.other W32 ne35)
  have loop37 : ∀ (k : Nat) (T37 : State) (lo37 : List Loc) (hh2 : Heap) (xi : Int32) (i_ : Nat) (z6 : Int32) (z7 : Int32) (vs2 : List Value) (np : Nat) (X37 : Stand p l e own_RPO1 s m #[(.ref pa), (.int wd), (.int (256 : Int32))] below meth c T37 lo37 (1 + np) (1 + 256 * np)) (e37 : T37.heap = hh2) (N37 : Fr n0 lo37) (K2 : Keep T7.heap hh2 [b1]) (V2 : Arv Z hh2 b1 k1 (.array .long) (1 : Int32) vs2 .null) (I2 : own_I Z hh2 T7.heap.size ab 1 vs2) (U2 : own_U vs2 ab (((0 : Int32).toUInt32 >>> ((8 : Int32) &&& 31).toUInt32).toInt32).toNatClampNeg ((va.toUInt32 >>> ((8 : Int32) &&& 31).toUInt32).toInt32).toNatClampNeg ((vb.toUInt32 >>> ((8 : Int32) &&& 31).toUInt32).toInt32).toNatClampNeg np) (hi_ : xi.toInt = (i_ : Int)) (hile : (i_ : Int) ≤ wd.toInt) (_ : (wd.toInt - (i_ : Int)).toNat = k), own_Go p.tables e below RR (T37.setTop (mkF m 24 #[.val (.ref pa), .val (.int wd), .val (.int (256 : Int32)), .val (.ref b1), .val (.int (ln - wd)), .val (.int xi), .val (.int z6), .val (.int z7)] [])) := by
    intro k
    induction k using Nat.strongRecOn with
    | _ k ih37 =>
      intro T37 lo37 hh2 xi i_ z6 z7 vs2 np X37 e37 N37 K2 V2 I2 U2 hi_ hile hk
      have z38 : n0 ≤ hh2.size := Nat.le_trans z8 K2.1
      have kk39 : Keep h0 hh2 [] := kk9.trans K2 (allS (Or.inr sz1) all0)
      show own_Go p.tables e below RR (T37.setTop (mkF m 24 #[.val (.ref pa), .val (.int wd), .val (.int (256 : Int32)), .val (.ref b1), .val (.int (ln - wd)), .val (.int xi), .val (.int z6), .val (.int z7)] []))
      refine own_st (fun _ k => XS.iload X37.here hx rfl (hb hby own_dprog_35_method_22_code_24) rfl (XS.iloadN X37.here hx rfl (hb hby own_dprog_35_method_22_code_26) rfl k)) ?_
      show own_Go p.tables e below RR (T37.setTop (mkF m 27 #[.val (.ref pa), .val (.int wd), .val (.int (256 : Int32)), .val (.ref b1), .val (.int (ln - wd)), .val (.int xi), .val (.int z6), .val (.int z7)] [(.int wd), (.int xi)]))
      by_cases hc27_40 : xi < wd
      · refine own_st (fun _ k => XS.icmpNo X37.here hx rfl (hb hby own_dprog_35_method_22_code_27) rfl (tlt hc27_40).2.1 k) ?_
        show own_Go p.tables e below RR (T37.setTop (mkF m 30 #[.val (.ref pa), .val (.int wd), .val (.int (256 : Int32)), .val (.ref b1), .val (.int (ln - wd)), .val (.int xi), .val (.int z6), .val (.int z7)] []))
        show own_Go p.tables e below RR (T37.setTop (mkF m 30 #[.val (.ref pa), .val (.int wd), .val (.int (256 : Int32)), .val (.ref b1), .val (.int (ln - wd)), .val (.int xi), .val (.int z6), .val (.int z7)] []))
        refine own_st (fun _ k => XS.aloadN X37.here hx rfl (hb hby own_dprog_35_method_22_code_30) rfl rfl (XS.iload X37.here hx rfl (hb hby own_dprog_35_method_22_code_31) rfl (XS.iload X37.here hx rfl (hb hby own_dprog_35_method_22_code_33) rfl (XS.iadd X37.here hx rfl (hb hby own_dprog_35_method_22_code_35) rfl k)))) ?_
        show own_Go p.tables e below RR (T37.setTop (mkF m 36 #[.val (.ref pa), .val (.int wd), .val (.int (256 : Int32)), .val (.ref b1), .val (.int (ln - wd)), .val (.int xi), .val (.int z6), .val (.int z7)] [(.int ((ln - wd) + xi)), (.ref pa)]))
        have f41 := (f12.keep K2 (ninS ne11 nin0))
        obtain ⟨c42, A42, q42, s42, m42, H42, G42⟩ := id f41
        have ix43 := own_ix hln hwd hi_ hc27_40
        obtain ⟨zv43, hzv43, hzd43⟩ := hpat ((ln - wd) + xi).toNatClampNeg (own_tnN (n := 132) ⟨ix43.1, by omega⟩)
        have hzb43 := own_zb (M := 256) hzd43 (by decide) hva hvb
        have hj43 : 0 ≤ ((zv43.toUInt32 >>> ((8 : Int32) &&& 31).toUInt32).toInt32).toInt ∧ ((zv43.toUInt32 >>> ((8 : Int32) &&& 31).toUInt32).toInt32).toInt < 1 := own_hrN (N := 1) hzb43 (by decide)
        have hjn43 : ((zv43.toUInt32 >>> ((8 : Int32) &&& 31).toUInt32).toInt32).toNatClampNeg < 1 := own_tnN (n := 1) hj43
        have b42 := inb_of (j := ((ln - wd) + xi)) s42 ⟨own_nn0 ix43.1, own_ltv rfl ix43.2⟩
        refine own_st (fun _ k => X37.iaload hx (j := ((ln - wd) + xi)) (v := (.int zv43)) (by rw [e37]; exact A42.1) (State.isArrayOf_alike hZ.alike A42.2.1) A42.2.2 b42 (Has.at H42 b42 hzv43) (g := (mkF m 36 #[.val (.ref pa), .val (.int wd), .val (.int (256 : Int32)), .val (.ref b1), .val (.int (ln - wd)), .val (.int xi), .val (.int z6), .val (.int z7)] [(.int ((ln - wd) + xi)), (.ref pa)])) rfl rfl (hb hby own_dprog_35_method_22_code_36) _ (XS.istore X37.here hx rfl (hb hby own_dprog_35_method_22_code_37) rfl (l' := #[.val (.ref pa), .val (.int wd), .val (.int (256 : Int32)), .val (.ref b1), .val (.int (ln - wd)), .val (.int xi), .val (.int zv43), .val (.int z7)]) rfl (XS.iload X37.here hx rfl (hb hby own_dprog_35_method_22_code_39) rfl (XS.bipush X37.here hx rfl (hb hby own_dprog_35_method_22_code_41) (XS.iushr X37.here hx rfl (hb hby own_dprog_35_method_22_code_43) rfl (XS.istore X37.here hx rfl (hb hby own_dprog_35_method_22_code_44) rfl (l' := #[.val (.ref pa), .val (.int wd), .val (.int (256 : Int32)), .val (.ref b1), .val (.int (ln - wd)), .val (.int xi), .val (.int zv43), .val (.int ((zv43.toUInt32 >>> ((8 : Int32) &&& 31).toUInt32).toInt32))]) rfl k)))))) ?_
        show own_Go p.tables e below RR (T37.setTop (mkF m 46 #[.val (.ref pa), .val (.int wd), .val (.int (256 : Int32)), .val (.ref b1), .val (.int (ln - wd)), .val (.int xi), .val (.int zv43), .val (.int ((zv43.toUInt32 >>> ((8 : Int32) &&& 31).toUInt32).toInt32))] []))
        rcases I2.2 ((zv43.toUInt32 >>> ((8 : Int32) &&& 31).toUInt32).toInt32).toNatClampNeg hjn43 with hq43 | ⟨pq43, hq43, hqs43, kq43, ps43, hpl43, Vpq43⟩
        · show own_Go p.tables e below RR (T37.setTop (mkF m 46 #[.val (.ref pa), .val (.int wd), .val (.int (256 : Int32)), .val (.ref b1), .val (.int (ln - wd)), .val (.int xi), .val (.int zv43), .val (.int ((zv43.toUInt32 >>> ((8 : Int32) &&& 31).toUInt32).toInt32))] []))
          refine own_st (fun _ k => XS.aloadN X37.here hx rfl (hb hby own_dprog_35_method_22_code_46) rfl rfl (XS.iload X37.here hx rfl (hb hby own_dprog_35_method_22_code_47) rfl k)) ?_
          show own_Go p.tables e below RR (T37.setTop (mkF m 49 #[.val (.ref pa), .val (.int wd), .val (.int (256 : Int32)), .val (.ref b1), .val (.int (ln - wd)), .val (.int xi), .val (.int zv43), .val (.int ((zv43.toUInt32 >>> ((8 : Int32) &&& 31).toUInt32).toInt32))] [(.int ((zv43.toUInt32 >>> ((8 : Int32) &&& 31).toUInt32).toInt32)), (.ref b1)]))
          obtain ⟨c44, A44, q44, s44, m44, H44, G44⟩ := id V2
          have b44 := inb_of (j := ((zv43.toUInt32 >>> ((8 : Int32) &&& 31).toUInt32).toInt32)) s44 (own_inN (n := 1) (by decide) hj43)
          refine own_st (fun _ k => X37.aaload hx (j := ((zv43.toUInt32 >>> ((8 : Int32) &&& 31).toUInt32).toInt32)) (v := (.ref ab)) (by rw [e37]; exact A44.1) (State.isArrayOf_alike hZ.alike A44.2.1) rfl A44.2.2 b44 (Has.at H44 b44 hq43) (g := (mkF m 49 #[.val (.ref pa), .val (.int wd), .val (.int (256 : Int32)), .val (.ref b1), .val (.int (ln - wd)), .val (.int xi), .val (.int zv43), .val (.int ((zv43.toUInt32 >>> ((8 : Int32) &&& 31).toUInt32).toInt32))] [(.int ((zv43.toUInt32 >>> ((8 : Int32) &&& 31).toUInt32).toInt32)), (.ref b1)])) rfl rfl (hb hby own_dprog_35_method_22_code_49) _ k) ?_
          show own_Go p.tables e below RR (T37.setTop (mkF m 50 #[.val (.ref pa), .val (.int wd), .val (.int (256 : Int32)), .val (.ref b1), .val (.int (ln - wd)), .val (.int xi), .val (.int zv43), .val (.int ((zv43.toUInt32 >>> ((8 : Int32) &&& 31).toUInt32).toInt32))] [(.ref ab)]))
          have f45 := (own_staK f18 K2 (allS (B1.keep Kq7).nostat all0))
          obtain ⟨T46, X46, e46, st46⟩ := getS2 X37 hx hZ hown (host := "") (Or.inl (hw _ (List.mem_of_getElem? (i := 37) rfl))) Via.refl e37 f45 (g := (mkF m 50 #[.val (.ref pa), .val (.int wd), .val (.int (256 : Int32)), .val (.ref b1), .val (.int (ln - wd)), .val (.int xi), .val (.int zv43), .val (.int ((zv43.toUInt32 >>> ((8 : Int32) &&& 31).toUInt32).toInt32))] [(.ref ab)])) rfl (hb hby own_dprog_35_method_22_code_50)
          refine own_st st46 ?_
          show own_Go p.tables e below RR (T46.setTop (mkF m 53 #[.val (.ref pa), .val (.int wd), .val (.int (256 : Int32)), .val (.ref b1), .val (.int (ln - wd)), .val (.int xi), .val (.int zv43), .val (.int ((zv43.toUInt32 >>> ((8 : Int32) &&& 31).toUInt32).toInt32))] [(.ref ab), (.ref ab)]))
          refine own_st (fun _ k => Jvm.RoadKit.acmp (g := (mkF m 53 #[.val (.ref pa), .val (.int wd), .val (.int (256 : Int32)), .val (.ref b1), .val (.int (ln - wd)), .val (.int xi), .val (.int zv43), .val (.int ((zv43.toUInt32 >>> ((8 : Int32) &&& 31).toUInt32).toInt32))] [(.ref ab), (.ref ab)])) X46 hx rfl rfl rfl (pc0 := 53) (pc' := 56) (same := true) rfl (hb hby own_dprog_35_method_22_code_53) rfl (decide_eq_true rfl) (by decide) (by decide) (XS.aloadN X46.here hx rfl (hb hby own_dprog_35_method_22_code_56) rfl rfl (XS.iload X46.here hx rfl (hb hby own_dprog_35_method_22_code_57) rfl (XS.sipush X46.here hx rfl (hb hby own_dprog_35_method_22_code_59) k)))) ?_
          show own_Go p.tables e below RR (T46.setTop (mkF m 62 #[.val (.ref pa), .val (.int wd), .val (.int (256 : Int32)), .val (.ref b1), .val (.int (ln - wd)), .val (.int xi), .val (.int zv43), .val (.int ((zv43.toUInt32 >>> ((8 : Int32) &&& 31).toUInt32).toInt32))] [(.int (256 : Int32)), (.int ((zv43.toUInt32 >>> ((8 : Int32) &&& 31).toUInt32).toInt32)), (.ref b1)]))
          have lt43 := own_U_lt U2 (own_D hzd43) hq43
          obtain ⟨T47, h47, k47, X47, e47, E47, A47, B47, st47⟩ := newPE X46 hx hZ (hw _ (List.mem_of_getElem? (i := 44) rfl)) e46 (g := (mkF m 62 #[.val (.ref pa), .val (.int wd), .val (.int (256 : Int32)), .val (.ref b1), .val (.int (ln - wd)), .val (.int xi), .val (.int zv43), .val (.int ((zv43.toUInt32 >>> ((8 : Int32) &&& 31).toUInt32).toInt32))] [(.int (256 : Int32)), (.int ((zv43.toUInt32 >>> ((8 : Int32) &&& 31).toUInt32).toInt32)), (.ref b1)])) rfl (hb hby own_dprog_35_method_22_code_62) rfl (by decide) (cap := 256) (by decide) (by decide) (by show 1 + np + 1 ≤ 4; omega) (by show 1 + 256 * np + 256 ≤ 769; omega) (ad := "[J") (by decide)
          obtain ⟨b47, gb47⟩ : ∃ z, z = hh2.size := ⟨_, rfl⟩
          rw [← gb47] at A47 B47 st47
          have ge47 : n0 ≤ b47 := Nat.le_trans z38 (Nat.le_of_eq gb47.symm)
          have sz47 : h0.size ≤ b47 := Nat.le_trans kk39.1 (Nat.le_of_eq gb47.symm)
          refine own_st st47 ?_
          have z48 : n0 ≤ h47.size := Nat.le_trans z38 E47.1
          have kk49 : Keep h0 h47 [] := kk39.ext E47
          have V47 : Arv Z h47 b47 k47 .long (256 : Int32) [] (.long (0 : Int64)) := Arv.new A47 (by decide)
          show own_Go p.tables e below RR (T47.setTop (mkF m 64 #[.val (.ref pa), .val (.int wd), .val (.int (256 : Int32)), .val (.ref b1), .val (.int (ln - wd)), .val (.int xi), .val (.int zv43), .val (.int ((zv43.toUInt32 >>> ((8 : Int32) &&& 31).toUInt32).toInt32))] [(.ref b47), (.int ((zv43.toUInt32 >>> ((8 : Int32) &&& 31).toUInt32).toInt32)), (.ref b1)]))
          have f50 := (V2.ext E47)
          obtain ⟨c51, A51, q51, s51, m51, H51, G51⟩ := id f50
          obtain ⟨T52, h52, X52, e52, W52, st52⟩ := stR X47 hx hZ e47 A51 (j := ((zv43.toUInt32 >>> ((8 : Int32) &&& 31).toUInt32).toInt32)) (inb_of s51 (own_inN (n := 1) (by decide) hj43)) rfl (Sto.ofVA A51 q51 O1 (Ins.self B47)) (g := (mkF m 64 #[.val (.ref pa), .val (.int wd), .val (.int (256 : Int32)), .val (.ref b1), .val (.int (ln - wd)), .val (.int xi), .val (.int zv43), .val (.int ((zv43.toUInt32 >>> ((8 : Int32) &&& 31).toUInt32).toInt32))] [(.ref b47), (.int ((zv43.toUInt32 >>> ((8 : Int32) &&& 31).toUInt32).toInt32)), (.ref b1)])) rfl rfl (hb hby own_dprog_35_method_22_code_64)
          have U52 := Arv.set A51 q51 s51 m51 H51 G51 rfl W52 ((zv43.toUInt32 >>> ((8 : Int32) &&& 31).toUInt32).toInt32).toNatClampNeg rfl (by rw [I2.1]; exact hjn43)
          have V52 : Arv Z h52 b1 k1 (.array .long) (1 : Int32) (vs2.set ((zv43.toUInt32 >>> ((8 : Int32) &&& 31).toUInt32).toInt32).toNatClampNeg (.ref b47)) .null := U52
          have hbs52 : T7.heap.size ≤ b47 := Nat.le_trans K2.1 (Nat.le_of_eq gb47.symm)
          have I52 := own_I_new I2 E47 hbs52 V47 W52 blt hjn43
          have Un52 := own_U_new U2 (own_D hzd43) hq43 (by rw [I2.1]; exact hjn43) (Nat.ne_of_gt (Nat.lt_of_lt_of_le alt hbs52))
          have Vpd52 := (V47.pad (pad_rep [] (.long (0 : Int64)) 256)).other W52 (Nat.ne_of_gt (Nat.lt_of_lt_of_le blt hbs52))
          have hql52 : (vs2.set ((zv43.toUInt32 >>> ((8 : Int32) &&& 31).toUInt32).toInt32).toNatClampNeg (.ref b47)).getD ((zv43.toUInt32 >>> ((8 : Int32) &&& 31).toUInt32).toInt32).toNatClampNeg .null = .ref b47 := own_hit I2.1 hjn43 rfl
          have N52 := Fr.snoc X52 N37 ge1
          refine own_st st52 ?_
          have z53 : n0 ≤ h52.size := Nat.le_trans z48 (Keep.of_wr W52).1
          have kk54 : Keep h0 h52 [] := kk49.wr W52 (Or.inr sz1)
          show own_Go p.tables e below RR (T52.setTop (mkF m 65 #[.val (.ref pa), .val (.int wd), .val (.int (256 : Int32)), .val (.ref b1), .val (.int (ln - wd)), .val (.int xi), .val (.int zv43), .val (.int ((zv43.toUInt32 >>> ((8 : Int32) &&& 31).toUInt32).toInt32))] []))
          show own_Go p.tables e below RR (T52.setTop (mkF m 65 #[.val (.ref pa), .val (.int wd), .val (.int (256 : Int32)), .val (.ref b1), .val (.int (ln - wd)), .val (.int xi), .val (.int zv43), .val (.int ((zv43.toUInt32 >>> ((8 : Int32) &&& 31).toUInt32).toInt32))] []))
          refine own_st (fun _ k => XS.aloadN X52.here hx rfl (hb hby own_dprog_35_method_22_code_65) rfl rfl (XS.iload X52.here hx rfl (hb hby own_dprog_35_method_22_code_66) rfl k)) ?_
          show own_Go p.tables e below RR (T52.setTop (mkF m 68 #[.val (.ref pa), .val (.int wd), .val (.int (256 : Int32)), .val (.ref b1), .val (.int (ln - wd)), .val (.int xi), .val (.int zv43), .val (.int ((zv43.toUInt32 >>> ((8 : Int32) &&& 31).toUInt32).toInt32))] [(.int ((zv43.toUInt32 >>> ((8 : Int32) &&& 31).toUInt32).toInt32)), (.ref b1)]))
          obtain ⟨c55, A55, q55, s55, m55, H55, G55⟩ := id V52
          have b55 := inb_of (j := ((zv43.toUInt32 >>> ((8 : Int32) &&& 31).toUInt32).toInt32)) s55 (own_inN (n := 1) (by decide) hj43)
          refine own_st (fun _ k => X52.aaload hx (j := ((zv43.toUInt32 >>> ((8 : Int32) &&& 31).toUInt32).toInt32)) (v := (.ref b47)) (by rw [e52]; exact A55.1) (State.isArrayOf_alike hZ.alike A55.2.1) rfl A55.2.2 b55 (Has.at H55 b55 hql52) (g := (mkF m 68 #[.val (.ref pa), .val (.int wd), .val (.int (256 : Int32)), .val (.ref b1), .val (.int (ln - wd)), .val (.int xi), .val (.int zv43), .val (.int ((zv43.toUInt32 >>> ((8 : Int32) &&& 31).toUInt32).toInt32))] [(.int ((zv43.toUInt32 >>> ((8 : Int32) &&& 31).toUInt32).toInt32)), (.ref b1)])) rfl rfl (hb hby own_dprog_35_method_22_code_68) _ (XS.iload X52.here hx rfl (hb hby own_dprog_35_method_22_code_69) rfl (XS.sipush X52.here hx rfl (hb hby own_dprog_35_method_22_code_71) (XS.iand X52.here hx rfl (hb hby own_dprog_35_method_22_code_74) rfl (XT.dup2 X52.here hx rfl (hb hby own_dprog_35_method_22_code_75) rfl rfl rfl k))))) ?_
          show own_Go p.tables e below RR (T52.setTop (mkF m 76 #[.val (.ref pa), .val (.int wd), .val (.int (256 : Int32)), .val (.ref b1), .val (.int (ln - wd)), .val (.int xi), .val (.int zv43), .val (.int ((zv43.toUInt32 >>> ((8 : Int32) &&& 31).toUInt32).toInt32))] [(.int (zv43 &&& (255 : Int32))), (.ref b47), (.int (zv43 &&& (255 : Int32))), (.ref b47)]))
          obtain ⟨c56, A56, q56, s56, m56, H56, G56⟩ := id Vpd52
          obtain ⟨lv57, hlv57⟩ := own_fitL (k := (zv43 &&& (255 : Int32)).toNatClampNeg) G56 s56 (own_ncl (own_lr _))
          have b56 := inb_of (j := (zv43 &&& (255 : Int32))) s56 (own_i256 (own_lr _))
          refine own_st (fun _ k => X52.laload hx (j := (zv43 &&& (255 : Int32))) (v := (.long lv57)) (by rw [e52]; exact A56.1) (State.isArrayOf_alike hZ.alike A56.2.1) A56.2.2 b56 (Has.at H56 b56 hlv57) (g := (mkF m 76 #[.val (.ref pa), .val (.int wd), .val (.int (256 : Int32)), .val (.ref b1), .val (.int (ln - wd)), .val (.int xi), .val (.int zv43), .val (.int ((zv43.toUInt32 >>> ((8 : Int32) &&& 31).toUInt32).toInt32))] [(.int (zv43 &&& (255 : Int32))), (.ref b47), (.int (zv43 &&& (255 : Int32))), (.ref b47)])) rfl rfl (hb hby own_dprog_35_method_22_code_76) _ (XS.lconst X52.here hx rfl (hb hby own_dprog_35_method_22_code_77) (XS.iload X52.here hx rfl (hb hby own_dprog_35_method_22_code_78) rfl (XS.lshl X52.here hx rfl (hb hby own_dprog_35_method_22_code_80) rfl (XS.lor X52.here hx rfl (hb hby own_dprog_35_method_22_code_81) rfl k))))) ?_
          show own_Go p.tables e below RR (T52.setTop (mkF m 82 #[.val (.ref pa), .val (.int wd), .val (.int (256 : Int32)), .val (.ref b1), .val (.int (ln - wd)), .val (.int xi), .val (.int zv43), .val (.int ((zv43.toUInt32 >>> ((8 : Int32) &&& 31).toUInt32).toInt32))] [(.long (lv57 ||| ((1 : Int64) <<< (xi &&& 0x3f).toInt64))), (.int (zv43 &&& (255 : Int32))), (.ref b47)]))
          obtain ⟨c58, A58, q58, s58, m58, H58, G58⟩ := id Vpd52
          obtain ⟨T59, h59, X59, e59, W59, st59⟩ := stJ X52 hx hZ e52 A58 (j := (zv43 &&& (255 : Int32))) (inb_of s58 (own_i256 (own_lr _))) (g := (mkF m 82 #[.val (.ref pa), .val (.int wd), .val (.int (256 : Int32)), .val (.ref b1), .val (.int (ln - wd)), .val (.int xi), .val (.int zv43), .val (.int ((zv43.toUInt32 >>> ((8 : Int32) &&& 31).toUInt32).toInt32))] [(.long (lv57 ||| ((1 : Int64) <<< (xi &&& 0x3f).toInt64))), (.int (zv43 &&& (255 : Int32))), (.ref b47)])) rfl rfl (hb hby own_dprog_35_method_22_code_82)
          have U59 := Arv.set A58 q58 s58 m58 H58 G58 rfl W59 (zv43 &&& (255 : Int32)).toNatClampNeg rfl (by rw [own_rl256]; exact own_ncl (own_lr _))
          have V59 : Arv Z h59 b47 k47 .long (256 : Int32) (([] ++ List.replicate 256 (Value.long (0 : Int64))).set (zv43 &&& (255 : Int32)).toNatClampNeg (.long (lv57 ||| ((1 : Int64) <<< (xi &&& 0x3f).toInt64)))) (.long (0 : Int64)) := U59
          have Iw59 := own_I_wr I52 W59 (own_ls own_rl256) V59
          have N59 := Fr.snoc X59 N52 ge47
          refine own_st st59 ?_
          have z60 : n0 ≤ h59.size := Nat.le_trans z53 (Keep.of_wr W59).1
          have kk61 : Keep h0 h59 [] := kk54.wr W59 (Or.inr sz47)
          show own_Go p.tables e below RR (T59.setTop (mkF m 83 #[.val (.ref pa), .val (.int wd), .val (.int (256 : Int32)), .val (.ref b1), .val (.int (ln - wd)), .val (.int xi), .val (.int zv43), .val (.int ((zv43.toUInt32 >>> ((8 : Int32) &&& 31).toUInt32).toInt32))] []))
          refine own_st (fun _ k => XS.iinc X59.here hx rfl (hb hby own_dprog_35_method_22_code_83) rfl (l' := #[.val (.ref pa), .val (.int wd), .val (.int (256 : Int32)), .val (.ref b1), .val (.int (ln - wd)), .val (.int (xi + (1 : Int32))), .val (.int zv43), .val (.int ((zv43.toUInt32 >>> ((8 : Int32) &&& 31).toUInt32).toInt32))]) rfl (XS.goto X59.here hx rfl (pc0 := 86) (pc' := 24) rfl (hb hby own_dprog_35_method_22_code_86) (by decide) (by decide) k)) ?_
          show own_Go p.tables e below RR (T59.setTop (mkF m 24 #[.val (.ref pa), .val (.int wd), .val (.int (256 : Int32)), .val (.ref b1), .val (.int (ln - wd)), .val (.int (xi + (1 : Int32))), .val (.int zv43), .val (.int ((zv43.toUInt32 >>> ((8 : Int32) &&& 31).toUInt32).toInt32))] []))
          have XX62 := X59
          rw [show 1 + np + 1 = 1 + (np + 1) by omega, show 1 + 256 * np + 256 = 1 + 256 * (np + 1) by omega] at XX62
          have ne63 : b1 ≠ b47 := (Nat.ne_of_lt (Nat.lt_of_lt_of_le ((B1.keep Kq7).keep K2).lt (Nat.le_of_eq gb47.symm)))
          have f64 := (V52.other W59 ne63)
          exact ih37 _ (by have q := own_lti hi_ hc27_40; omega) T59 _ h59 (xi + (1 : Int32)) (i_ + 1) zv43 ((zv43.toUInt32 >>> ((8 : Int32) &&& 31).toUInt32).toInt32) (vs2.set ((zv43.toUInt32 >>> ((8 : Int32) &&& 31).toUInt32).toInt32).toNatClampNeg (.ref b47)) (np + 1) XX62 e59 N59 (((K2.ext E47).wr W52 (Or.inl (List.mem_of_getElem? (i := 0) rfl))).wr W59 (Or.inr hbs52)) f64 Iw59 Un52 (own_inc hi_ hc27_40) (own_lti hi_ hc27_40) rfl
        · have neo43 : b1 ≠ pq43 := Nat.ne_of_lt (Nat.lt_of_lt_of_le blt hqs43)
          have nab43 : pq43 ≠ ab := Nat.ne_of_gt (Nat.lt_of_lt_of_le alt hqs43)
          show own_Go p.tables e below RR (T37.setTop (mkF m 46 #[.val (.ref pa), .val (.int wd), .val (.int (256 : Int32)), .val (.ref b1), .val (.int (ln - wd)), .val (.int xi), .val (.int zv43), .val (.int ((zv43.toUInt32 >>> ((8 : Int32) &&& 31).toUInt32).toInt32))] []))
          refine own_st (fun _ k => XS.aloadN X37.here hx rfl (hb hby own_dprog_35_method_22_code_46) rfl rfl (XS.iload X37.here hx rfl (hb hby own_dprog_35_method_22_code_47) rfl k)) ?_
          show own_Go p.tables e below RR (T37.setTop (mkF m 49 #[.val (.ref pa), .val (.int wd), .val (.int (256 : Int32)), .val (.ref b1), .val (.int (ln - wd)), .val (.int xi), .val (.int zv43), .val (.int ((zv43.toUInt32 >>> ((8 : Int32) &&& 31).toUInt32).toInt32))] [(.int ((zv43.toUInt32 >>> ((8 : Int32) &&& 31).toUInt32).toInt32)), (.ref b1)]))
          obtain ⟨c65, A65, q65, s65, m65, H65, G65⟩ := id V2
          have b65 := inb_of (j := ((zv43.toUInt32 >>> ((8 : Int32) &&& 31).toUInt32).toInt32)) s65 (own_inN (n := 1) (by decide) hj43)
          refine own_st (fun _ k => X37.aaload hx (j := ((zv43.toUInt32 >>> ((8 : Int32) &&& 31).toUInt32).toInt32)) (v := (.ref pq43)) (by rw [e37]; exact A65.1) (State.isArrayOf_alike hZ.alike A65.2.1) rfl A65.2.2 b65 (Has.at H65 b65 hq43) (g := (mkF m 49 #[.val (.ref pa), .val (.int wd), .val (.int (256 : Int32)), .val (.ref b1), .val (.int (ln - wd)), .val (.int xi), .val (.int zv43), .val (.int ((zv43.toUInt32 >>> ((8 : Int32) &&& 31).toUInt32).toInt32))] [(.int ((zv43.toUInt32 >>> ((8 : Int32) &&& 31).toUInt32).toInt32)), (.ref b1)])) rfl rfl (hb hby own_dprog_35_method_22_code_49) _ k) ?_
          show own_Go p.tables e below RR (T37.setTop (mkF m 50 #[.val (.ref pa), .val (.int wd), .val (.int (256 : Int32)), .val (.ref b1), .val (.int (ln - wd)), .val (.int xi), .val (.int zv43), .val (.int ((zv43.toUInt32 >>> ((8 : Int32) &&& 31).toUInt32).toInt32))] [(.ref pq43)]))
          have f66 := (own_staK f18 K2 (allS (B1.keep Kq7).nostat all0))
          obtain ⟨T67, X67, e67, st67⟩ := getS2 X37 hx hZ hown (host := "") (Or.inl (hw _ (List.mem_of_getElem? (i := 37) rfl))) Via.refl e37 f66 (g := (mkF m 50 #[.val (.ref pa), .val (.int wd), .val (.int (256 : Int32)), .val (.ref b1), .val (.int (ln - wd)), .val (.int xi), .val (.int zv43), .val (.int ((zv43.toUInt32 >>> ((8 : Int32) &&& 31).toUInt32).toInt32))] [(.ref pq43)])) rfl (hb hby own_dprog_35_method_22_code_50)
          refine own_st st67 ?_
          show own_Go p.tables e below RR (T67.setTop (mkF m 53 #[.val (.ref pa), .val (.int wd), .val (.int (256 : Int32)), .val (.ref b1), .val (.int (ln - wd)), .val (.int xi), .val (.int zv43), .val (.int ((zv43.toUInt32 >>> ((8 : Int32) &&& 31).toUInt32).toInt32))] [(.ref ab), (.ref pq43)]))
          have hc53_68 : ¬ (pq43 = ab) := nab43
          refine own_st (fun _ k => Jvm.RoadKit.acmp (g := (mkF m 53 #[.val (.ref pa), .val (.int wd), .val (.int (256 : Int32)), .val (.ref b1), .val (.int (ln - wd)), .val (.int xi), .val (.int zv43), .val (.int ((zv43.toUInt32 >>> ((8 : Int32) &&& 31).toUInt32).toInt32))] [(.ref ab), (.ref pq43)])) X67 hx rfl rfl rfl (pc0 := 53) (pc' := 65) (same := false) rfl (hb hby own_dprog_35_method_22_code_53) rfl (decide_eq_false fun q => hc53_68 (Value.ref.inj q)) (by decide) (by decide) k) ?_
          show own_Go p.tables e below RR (T67.setTop (mkF m 65 #[.val (.ref pa), .val (.int wd), .val (.int (256 : Int32)), .val (.ref b1), .val (.int (ln - wd)), .val (.int xi), .val (.int zv43), .val (.int ((zv43.toUInt32 >>> ((8 : Int32) &&& 31).toUInt32).toInt32))] []))
          show own_Go p.tables e below RR (T67.setTop (mkF m 65 #[.val (.ref pa), .val (.int wd), .val (.int (256 : Int32)), .val (.ref b1), .val (.int (ln - wd)), .val (.int xi), .val (.int zv43), .val (.int ((zv43.toUInt32 >>> ((8 : Int32) &&& 31).toUInt32).toInt32))] []))
          refine own_st (fun _ k => XS.aloadN X67.here hx rfl (hb hby own_dprog_35_method_22_code_65) rfl rfl (XS.iload X67.here hx rfl (hb hby own_dprog_35_method_22_code_66) rfl k)) ?_
          show own_Go p.tables e below RR (T67.setTop (mkF m 68 #[.val (.ref pa), .val (.int wd), .val (.int (256 : Int32)), .val (.ref b1), .val (.int (ln - wd)), .val (.int xi), .val (.int zv43), .val (.int ((zv43.toUInt32 >>> ((8 : Int32) &&& 31).toUInt32).toInt32))] [(.int ((zv43.toUInt32 >>> ((8 : Int32) &&& 31).toUInt32).toInt32)), (.ref b1)]))
          obtain ⟨c69, A69, q69, s69, m69, H69, G69⟩ := id V2
          have b69 := inb_of (j := ((zv43.toUInt32 >>> ((8 : Int32) &&& 31).toUInt32).toInt32)) s69 (own_inN (n := 1) (by decide) hj43)
          refine own_st (fun _ k => X67.aaload hx (j := ((zv43.toUInt32 >>> ((8 : Int32) &&& 31).toUInt32).toInt32)) (v := (.ref pq43)) (by rw [e67]; exact A69.1) (State.isArrayOf_alike hZ.alike A69.2.1) rfl A69.2.2 b69 (Has.at H69 b69 hq43) (g := (mkF m 68 #[.val (.ref pa), .val (.int wd), .val (.int (256 : Int32)), .val (.ref b1), .val (.int (ln - wd)), .val (.int xi), .val (.int zv43), .val (.int ((zv43.toUInt32 >>> ((8 : Int32) &&& 31).toUInt32).toInt32))] [(.int ((zv43.toUInt32 >>> ((8 : Int32) &&& 31).toUInt32).toInt32)), (.ref b1)])) rfl rfl (hb hby own_dprog_35_method_22_code_68) _ (XS.iload X67.here hx rfl (hb hby own_dprog_35_method_22_code_69) rfl (XS.sipush X67.here hx rfl (hb hby own_dprog_35_method_22_code_71) (XS.iand X67.here hx rfl (hb hby own_dprog_35_method_22_code_74) rfl (XT.dup2 X67.here hx rfl (hb hby own_dprog_35_method_22_code_75) rfl rfl rfl k))))) ?_
          show own_Go p.tables e below RR (T67.setTop (mkF m 76 #[.val (.ref pa), .val (.int wd), .val (.int (256 : Int32)), .val (.ref b1), .val (.int (ln - wd)), .val (.int xi), .val (.int zv43), .val (.int ((zv43.toUInt32 >>> ((8 : Int32) &&& 31).toUInt32).toInt32))] [(.int (zv43 &&& (255 : Int32))), (.ref pq43), (.int (zv43 &&& (255 : Int32))), (.ref pq43)]))
          obtain ⟨c70, A70, q70, s70, m70, H70, G70⟩ := id Vpq43
          obtain ⟨lv71, hlv71⟩ := own_fitL (k := (zv43 &&& (255 : Int32)).toNatClampNeg) G70 s70 (own_ncl (own_lr _))
          have b70 := inb_of (j := (zv43 &&& (255 : Int32))) s70 (own_i256 (own_lr _))
          refine own_st (fun _ k => X67.laload hx (j := (zv43 &&& (255 : Int32))) (v := (.long lv71)) (by rw [e67]; exact A70.1) (State.isArrayOf_alike hZ.alike A70.2.1) A70.2.2 b70 (Has.at H70 b70 hlv71) (g := (mkF m 76 #[.val (.ref pa), .val (.int wd), .val (.int (256 : Int32)), .val (.ref b1), .val (.int (ln - wd)), .val (.int xi), .val (.int zv43), .val (.int ((zv43.toUInt32 >>> ((8 : Int32) &&& 31).toUInt32).toInt32))] [(.int (zv43 &&& (255 : Int32))), (.ref pq43), (.int (zv43 &&& (255 : Int32))), (.ref pq43)])) rfl rfl (hb hby own_dprog_35_method_22_code_76) _ (XS.lconst X67.here hx rfl (hb hby own_dprog_35_method_22_code_77) (XS.iload X67.here hx rfl (hb hby own_dprog_35_method_22_code_78) rfl (XS.lshl X67.here hx rfl (hb hby own_dprog_35_method_22_code_80) rfl (XS.lor X67.here hx rfl (hb hby own_dprog_35_method_22_code_81) rfl k))))) ?_
          show own_Go p.tables e below RR (T67.setTop (mkF m 82 #[.val (.ref pa), .val (.int wd), .val (.int (256 : Int32)), .val (.ref b1), .val (.int (ln - wd)), .val (.int xi), .val (.int zv43), .val (.int ((zv43.toUInt32 >>> ((8 : Int32) &&& 31).toUInt32).toInt32))] [(.long (lv71 ||| ((1 : Int64) <<< (xi &&& 0x3f).toInt64))), (.int (zv43 &&& (255 : Int32))), (.ref pq43)]))
          obtain ⟨c72, A72, q72, s72, m72, H72, G72⟩ := id Vpq43
          obtain ⟨T73, h73, X73, e73, W73, st73⟩ := stJ X67 hx hZ e67 A72 (j := (zv43 &&& (255 : Int32))) (inb_of s72 (own_i256 (own_lr _))) (g := (mkF m 82 #[.val (.ref pa), .val (.int wd), .val (.int (256 : Int32)), .val (.ref b1), .val (.int (ln - wd)), .val (.int xi), .val (.int zv43), .val (.int ((zv43.toUInt32 >>> ((8 : Int32) &&& 31).toUInt32).toInt32))] [(.long (lv71 ||| ((1 : Int64) <<< (xi &&& 0x3f).toInt64))), (.int (zv43 &&& (255 : Int32))), (.ref pq43)])) rfl rfl (hb hby own_dprog_35_method_22_code_82)
          have U73 := Arv.set A72 q72 s72 m72 H72 G72 rfl W73 (zv43 &&& (255 : Int32)).toNatClampNeg rfl (by rw [hpl43]; exact own_ncl (own_lr _))
          have V73 : Arv Z h73 pq43 kq43 .long (256 : Int32) (ps43.set (zv43 &&& (255 : Int32)).toNatClampNeg (.long (lv71 ||| ((1 : Int64) <<< (xi &&& 0x3f).toInt64)))) (.long (0 : Int64)) := U73
          have Iw73 := own_I_wr I2 W73 (own_ls hpl43) V73
          have N73 := Fr.snoc X73 N37 (Nat.le_trans z8 hqs43)
          refine own_st st73 ?_
          have z74 : n0 ≤ h73.size := Nat.le_trans z38 (Keep.of_wr W73).1
          have kk75 : Keep h0 h73 [] := kk39.wr W73 (Or.inr (Nat.le_trans kk9.1 hqs43))
          show own_Go p.tables e below RR (T73.setTop (mkF m 83 #[.val (.ref pa), .val (.int wd), .val (.int (256 : Int32)), .val (.ref b1), .val (.int (ln - wd)), .val (.int xi), .val (.int zv43), .val (.int ((zv43.toUInt32 >>> ((8 : Int32) &&& 31).toUInt32).toInt32))] []))
          refine own_st (fun _ k => XS.iinc X73.here hx rfl (hb hby own_dprog_35_method_22_code_83) rfl (l' := #[.val (.ref pa), .val (.int wd), .val (.int (256 : Int32)), .val (.ref b1), .val (.int (ln - wd)), .val (.int (xi + (1 : Int32))), .val (.int zv43), .val (.int ((zv43.toUInt32 >>> ((8 : Int32) &&& 31).toUInt32).toInt32))]) rfl (XS.goto X73.here hx rfl (pc0 := 86) (pc' := 24) rfl (hb hby own_dprog_35_method_22_code_86) (by decide) (by decide) k)) ?_
          show own_Go p.tables e below RR (T73.setTop (mkF m 24 #[.val (.ref pa), .val (.int wd), .val (.int (256 : Int32)), .val (.ref b1), .val (.int (ln - wd)), .val (.int (xi + (1 : Int32))), .val (.int zv43), .val (.int ((zv43.toUInt32 >>> ((8 : Int32) &&& 31).toUInt32).toInt32))] []))
          have f77 := (V2.other W73 neo43)
          exact ih37 _ (by have q := own_lti hi_ hc27_40; omega) T73 _ h73 (xi + (1 : Int32)) (i_ + 1) zv43 ((zv43.toUInt32 >>> ((8 : Int32) &&& 31).toUInt32).toInt32) vs2 np X73 e73 N73 (K2.wr W73 (Or.inr hqs43)) f77 Iw73 U2 (own_inc hi_ hc27_40) (own_lti hi_ hc27_40) rfl
      · refine own_st (fun _ k => XS.icmpYes X37.here hx rfl (pc0 := 27) (pc' := 89) rfl (hb hby own_dprog_35_method_22_code_27) rfl (flt hc27_40).2.1 (by decide) (by decide) k) ?_
        show own_Go p.tables e below RR (T37.setTop (mkF m 89 #[.val (.ref pa), .val (.int wd), .val (.int (256 : Int32)), .val (.ref b1), .val (.int (ln - wd)), .val (.int xi), .val (.int z6), .val (.int z7)] []))
        show own_Go p.tables e below RR (T37.setTop (mkF m 89 #[.val (.ref pa), .val (.int wd), .val (.int (256 : Int32)), .val (.ref b1), .val (.int (ln - wd)), .val (.int xi), .val (.int z6), .val (.int z7)] []))
        refine own_st (fun _ k => XS.aloadN X37.here hx rfl (hb hby own_dprog_35_method_22_code_89) rfl rfl k) ?_
        show own_Go p.tables e below RR (T37.setTop (mkF m 90 #[.val (.ref pa), .val (.int wd), .val (.int (256 : Int32)), .val (.ref b1), .val (.int (ln - wd)), .val (.int xi), .val (.int z6), .val (.int z7)] [(.ref b1)]))
        obtain ⟨fs, hrt_, hrun, hended, hW, hsame⟩ := X37.leave (v := some (.ref b1)) (fun h => by rw [Bd.returns] at h; cases h)
        refine own_fin (retOut X37 hx Bd.returns rfl (Or.inr (Or.inr (Or.inr (Or.inr ⟨rfl, rfl, rfl⟩)))) (hb hby own_dprog_35_method_22_code_90) hrt_) (hRR _ ⟨_, hrun, hended, _, _, rfl, ?_, ⟨_, rfl⟩, hW, hsame.mono (by show 1 + np ≤ 4; have := own_U_le U2; omega) (by show 1 + 256 * np ≤ 769; have := own_U_le U2; omega)⟩)
        show own_QPO1 Z pa kp ln pl va vb wd ab h0 n0 _ T37.heap _
        rw [e37]
        exact ⟨_, rfl, N37, kk39⟩
  exact loop37 _ T32 _ h32 (1 : Int32) 1 zv16 ((zv16.toUInt32 >>> ((8 : Int32) &&& 31).toUInt32).toInt32) ((own_fl 1 1 (.ref ab) .null).set ((zv16.toUInt32 >>> ((8 : Int32) &&& 31).toUInt32).toInt32).toNatClampNeg (.ref b20)) 1 X32 e32 N32 ((((Keep.refl T7.heap [b1]).ext E20).wr W25 (Or.inl (List.mem_of_getElem? (i := 0) rfl))).wr W32 (Or.inr hbs25)) f36 Iw32 Un25 (by decide) (by omega) rfl
theorem own_dprog_35_method_23_code_0 : decode prog_35_method_23_code 0 = .ok (.sipush 8192, 3) := by decide +kernel
theorem own_dprog_35_method_23_code_3 : decode prog_35_method_23_code 3 = .ok (.newarray .byte, 2) := by decide +kernel
theorem own_dprog_35_method_23_code_5 : decode prog_35_method_23_code 5 = .ok (.astore_n 3, 1) := by decide +kernel
theorem own_dprog_35_method_23_code_6 : decode prog_35_method_23_code 6 = .ok (.aload_n 0, 1) := by decide +kernel
theorem own_dprog_35_method_23_code_7 : decode prog_35_method_23_code 7 = .ok (.arraylength, 1) := by decide +kernel
theorem own_dprog_35_method_23_code_8 : decode prog_35_method_23_code 8 = .ok (.iload_n 1, 1) := by decide +kernel
theorem own_dprog_35_method_23_code_9 : decode prog_35_method_23_code 9 = .ok (.isub, 1) := by decide +kernel
theorem own_dprog_35_method_23_code_10 : decode prog_35_method_23_code 10 = .ok (.iload_n 2, 1) := by decide +kernel
theorem own_dprog_35_method_23_code_11 : decode prog_35_method_23_code 11 = .ok (.iadd, 1) := by decide +kernel
theorem own_dprog_35_method_23_code_12 : decode prog_35_method_23_code 12 = .ok (.iconst 1, 1) := by decide +kernel
theorem own_dprog_35_method_23_code_13 : decode prog_35_method_23_code 13 = .ok (.isub, 1) := by decide +kernel
theorem own_dprog_35_method_23_code_14 : decode prog_35_method_23_code 14 = .ok (.istore 4, 2) := by decide +kernel
theorem own_dprog_35_method_23_code_16 : decode prog_35_method_23_code 16 = .ok (.iload 4, 2) := by decide +kernel
theorem own_dprog_35_method_23_code_18 : decode prog_35_method_23_code 18 = .ok (.aload_n 0, 1) := by decide +kernel
theorem own_dprog_35_method_23_code_19 : decode prog_35_method_23_code 19 = .ok (.arraylength, 1) := by decide +kernel
theorem own_dprog_35_method_23_code_20 : decode prog_35_method_23_code 20 = .ok (.if_icmp .ge 52, 3) := by decide +kernel
theorem own_dprog_35_method_23_code_23 : decode prog_35_method_23_code 23 = .ok (.lconst 0, 1) := by decide +kernel
theorem own_dprog_35_method_23_code_24 : decode prog_35_method_23_code 24 = .ok (.lstore 5, 2) := by decide +kernel
theorem own_dprog_35_method_23_code_26 : decode prog_35_method_23_code 26 = .ok (.iconst 0, 1) := by decide +kernel
theorem own_dprog_35_method_23_code_27 : decode prog_35_method_23_code 27 = .ok (.istore 7, 2) := by decide +kernel
theorem own_dprog_35_method_23_code_29 : decode prog_35_method_23_code 29 = .ok (.iload 7, 2) := by decide +kernel
theorem own_dprog_35_method_23_code_31 : decode prog_35_method_23_code 31 = .ok (.iload_n 2, 1) := by decide +kernel
theorem own_dprog_35_method_23_code_32 : decode prog_35_method_23_code 32 = .ok (.if_icmp .ge 26, 3) := by decide +kernel
theorem own_dprog_35_method_23_code_35 : decode prog_35_method_23_code 35 = .ok (.lload 5, 2) := by decide +kernel
theorem own_dprog_35_method_23_code_37 : decode prog_35_method_23_code 37 = .ok (.aload_n 0, 1) := by decide +kernel
theorem own_dprog_35_method_23_code_38 : decode prog_35_method_23_code 38 = .ok (.iload 4, 2) := by decide +kernel
theorem own_dprog_35_method_23_code_40 : decode prog_35_method_23_code 40 = .ok (.iload 7, 2) := by decide +kernel
theorem own_dprog_35_method_23_code_42 : decode prog_35_method_23_code 42 = .ok (.isub, 1) := by decide +kernel
theorem own_dprog_35_method_23_code_43 : decode prog_35_method_23_code 43 = .ok (.iaload, 1) := by decide +kernel
theorem own_dprog_35_method_23_code_44 : decode prog_35_method_23_code 44 = .ok (.iload 7, 2) := by decide +kernel
theorem own_pd__II_J : parseMethodDescriptor "(II)J" = some ⟨[.int, .int], some .long⟩ := by decide +kernel
theorem own_dprog_35_method_23_code_46 : decode prog_35_method_23_code 46 = .ok (.invokestatic 179, 3) := by decide +kernel
theorem own_dprog_35_method_23_code_49 : decode prog_35_method_23_code 49 = .ok (.lor, 1) := by decide +kernel
theorem own_dprog_35_method_23_code_50 : decode prog_35_method_23_code 50 = .ok (.lstore 5, 2) := by decide +kernel
theorem own_dprog_35_method_23_code_52 : decode prog_35_method_23_code 52 = .ok (.iinc 7 1, 3) := by decide +kernel
theorem own_dprog_35_method_23_code_55 : decode prog_35_method_23_code 55 = .ok (.goto (-26), 3) := by decide +kernel
theorem own_dprog_35_method_23_code_58 : decode prog_35_method_23_code 58 = .ok (.aload_n 3, 1) := by decide +kernel
theorem own_dprog_35_method_23_code_59 : decode prog_35_method_23_code 59 = .ok (.lload 5, 2) := by decide +kernel
theorem own_pd__J_I : parseMethodDescriptor "(J)I" = some ⟨[.long], some .int⟩ := by decide +kernel
theorem own_dprog_35_method_23_code_61 : decode prog_35_method_23_code 61 = .ok (.invokestatic 143, 3) := by decide +kernel
theorem own_dprog_35_method_23_code_64 : decode prog_35_method_23_code 64 = .ok (.iconst 1, 1) := by decide +kernel
theorem own_dprog_35_method_23_code_65 : decode prog_35_method_23_code 65 = .ok (.bastore, 1) := by decide +kernel
theorem own_dprog_35_method_23_code_66 : decode prog_35_method_23_code 66 = .ok (.iinc 4 1, 3) := by decide +kernel
theorem own_dprog_35_method_23_code_69 : decode prog_35_method_23_code 69 = .ok (.goto (-53), 3) := by decide +kernel
theorem own_dprog_35_method_23_code_72 : decode prog_35_method_23_code 72 = .ok (.aload_n 3, 1) := by decide +kernel
theorem own_dprog_35_method_23_code_73 : decode prog_35_method_23_code 73 = .ok (.areturn, 1) := by decide +kernel
theorem own_efFG (m : MethodId) (pa : Addr) (wd : Int32) (gm : Int32) : entryFrame m #[(.ref pa), (.int wd), (.int gm)] 8 = mkF m 0 #[.val (.ref pa), .val (.int wd), .val (.int gm), .unset, .unset, .unset, .unset, .unset] [] := by first | (simp [entryFrame, mkF, argsToLocals, Value.category]; done) | rfl
def own_QFG (Z : State) (pa : Addr) (kp : ClassId) (ln : Int32) (pl : List Value) (va : Int32) (vb : Int32) (wd : Int32) (gm : Int32) (h0 : Heap) (n0 : Nat) (rv__ : Option Value) (h : Heap) (rL__ : List Loc) : Prop := ∃ r__ : Addr, rv__ = some (.ref r__) ∧ Fr n0 rL__ ∧ Keep h0 h []
abbrev own_RFG : Room := { frames := 1, cells := 1, slots := 8192, locals := 15 }
set_option maxRecDepth 65536 in
set_option maxHeartbeats 40000000 in
theorem own_rmFG (l : Launch) (Z : State) (a0 : Array Value) (hw : ∀ d ∈ tables_1, d.before a0 Z = true) (ws : List Jvm.Cond) (pa : Addr) (kp : ClassId) (ln : Int32) (pl : List Value) (va : Int32) (vb : Int32) (wd : Int32) (gm : Int32) (h0 : Heap) (n0 : Nat) (Z0 : n0 ≤ h0.size) (Vp : Arv Z h0 pa kp .int ln pl (.int (0 : Int32))) (hpat : own_pat pl va vb) (hln : 5 ≤ ln.toInt ∧ ln.toInt ≤ 132) (hwd : 4 ≤ wd.toInt ∧ wd.toInt ≤ ln.toInt) (hgm : 4 ≤ gm.toInt ∧ gm.toInt ≤ 6 ∧ gm.toInt ≤ wd.toInt) :
    MetFree l (⟨"com/example/shiftwise/shiftwise/search/FactorSkip", "factorGrams", "([III)[B"⟩ : MethodName) (head1 (Jvm.Cond.code (⟨"com/example/shiftwise/shiftwise/search/FactorSkip", "factorGrams", "([III)[B"⟩ : MethodName) prog_35_method_23_code 8 (some (.array .byte)) :: ws) own_RFG) (fun aa__ U => aa__ = #[(.ref pa), (.int wd), (.int gm)] ∧ Z.Warmed39 U.vm ∧ U.heap = h0) (fun _ _ _ _ _ => True) (fun _ U oc_ U' => ∃ rv__ rL__, oc_ = .returned rv__ ∧ own_QFG Z pa kp ln pl va vb wd gm h0 n0 rv__ U'.heap rL__ ∧ FrameEnd U oc_ U' rL__ own_RFG.cells own_RFG.slots) := by
  refine MetFree.of_bodySF (plainFor_of_name own_pn_com_example_shiftwise_shiftwise_search_FactorSkip) hisR ?_
  intro p e s m args below meth c s₁ Bd hml0 hP hK
  obtain ⟨rfl, hZ, hh⟩ := hP
  have hx := Bd.exec
  have hby := Bd.bytes
  have hml : c.maxLocals = 8 := hml0
  have hown : s.vm.findClass "com/example/shiftwise/shiftwise/search/FactorSkip" = some m.cls := findClass_of_methodNamed Bd.named
  have hnm := (name_of_methodNamed Bd.named Bd.method).1
  have X0 : Stand p l e own_RFG s m #[(.ref pa), (.int wd), (.int gm)] below meth c s₁ [] 0 0 := Stand.of_body Bd
  have e0 : s₁.heap = h0 := by rw [← hh, Bd.state]; rfl
  have N0 := Fr.nil n0
  refine own_in (fun _ k => castTop (own_efFG m pa wd gm) k) ?_
  intro RR hRR
  show own_Go p.tables e below RR (s₁.setTop (mkF m 0 #[.val (.ref pa), .val (.int wd), .val (.int gm), .unset, .unset, .unset, .unset, .unset] []))
  refine own_st (fun _ k => XS.sipush X0.here hx rfl (hb hby own_dprog_35_method_23_code_0) k) ?_
  show own_Go p.tables e below RR (s₁.setTop (mkF m 3 #[.val (.ref pa), .val (.int wd), .val (.int gm), .unset, .unset, .unset, .unset, .unset] [(.int (8192 : Int32))]))
  obtain ⟨T1, h1, k1, X1, e1, E1, A1, st1⟩ := newP X0 hx hZ (hw _ (List.mem_of_getElem? (i := 50) rfl)) e0 (g := (mkF m 3 #[.val (.ref pa), .val (.int wd), .val (.int gm), .unset, .unset, .unset, .unset, .unset] [(.int (8192 : Int32))])) rfl (hb hby own_dprog_35_method_23_code_3) rfl (by decide) (cap := 8192) (by decide) (by decide) (by decide) (by decide)
  obtain ⟨b1, gb1⟩ : ∃ z, z = h0.size := ⟨_, rfl⟩
  rw [← gb1] at A1 st1
  have ge1 : n0 ≤ b1 := Nat.le_trans Z0 (Nat.le_of_eq gb1.symm)
  have sz1 : h0.size ≤ b1 := Nat.le_trans (Keep.refl h0 []).1 (Nat.le_of_eq gb1.symm)
  refine own_st st1 ?_
  have z2 : n0 ≤ h1.size := Nat.le_trans Z0 E1.1
  have kk3 : Keep h0 h1 [] := (Keep.refl h0 []).ext E1
  have V1 : Arv Z h1 b1 k1 .byte (8192 : Int32) [] (.int (0 : Int32)) := Arv.new A1 (by decide)
  show own_Go p.tables e below RR (T1.setTop (mkF m 5 #[.val (.ref pa), .val (.int wd), .val (.int gm), .unset, .unset, .unset, .unset, .unset] [(.ref b1)]))
  have Vz8 := own_z8pad V1
  show own_Go p.tables e below RR (T1.setTop (mkF m 5 #[.val (.ref pa), .val (.int wd), .val (.int gm), .unset, .unset, .unset, .unset, .unset] [(.ref b1)]))
  refine own_st (fun _ k => XS.astoreN X1.here hx rfl (hb hby own_dprog_35_method_23_code_5) rfl rfl (l' := #[.val (.ref pa), .val (.int wd), .val (.int gm), .val (.ref b1), .unset, .unset, .unset, .unset]) rfl (XS.aloadN X1.here hx rfl (hb hby own_dprog_35_method_23_code_6) rfl rfl k)) ?_
  show own_Go p.tables e below RR (T1.setTop (mkF m 7 #[.val (.ref pa), .val (.int wd), .val (.int gm), .val (.ref b1), .unset, .unset, .unset, .unset] [(.ref pa)]))
  have f4 := (Vp.ext E1)
  obtain ⟨c5, A5, -, s5, m5, -, -⟩ := id f4
  refine own_st (fun _ k => own_len X1 hx hZ e1 A5 s5 m5 (g := (mkF m 7 #[.val (.ref pa), .val (.int wd), .val (.int gm), .val (.ref b1), .unset, .unset, .unset, .unset] [(.ref pa)])) rfl rfl (hb hby own_dprog_35_method_23_code_7) (XS.iloadN X1.here hx rfl (hb hby own_dprog_35_method_23_code_8) rfl (XS.isub X1.here hx rfl (hb hby own_dprog_35_method_23_code_9) rfl (XS.iloadN X1.here hx rfl (hb hby own_dprog_35_method_23_code_10) rfl (XS.iadd X1.here hx rfl (hb hby own_dprog_35_method_23_code_11) rfl (XS.iconst X1.here hx rfl (hb hby own_dprog_35_method_23_code_12) (XS.isub X1.here hx rfl (hb hby own_dprog_35_method_23_code_13) rfl (XS.istore X1.here hx rfl (hb hby own_dprog_35_method_23_code_14) rfl (l' := #[.val (.ref pa), .val (.int wd), .val (.int gm), .val (.ref b1), .val (.int (((ln - wd) + gm) - (1 : Int32))), .unset, .unset, .unset]) rfl k)))))))) ?_
  show own_Go p.tables e below RR (T1.setTop (mkF m 16 #[.val (.ref pa), .val (.int wd), .val (.int gm), .val (.ref b1), .val (.int (((ln - wd) + gm) - (1 : Int32))), .unset, .unset, .unset] []))
  show own_Go p.tables e below RR (T1.setTop (mkF m 16 #[.val (.ref pa), .val (.int wd), .val (.int gm), .val (.ref b1), .val (.int (((ln - wd) + gm) - (1 : Int32))), .unset, .unset, .unset] []))
  refine own_st (fun _ k => XS.iload X1.here hx rfl (hb hby own_dprog_35_method_23_code_16) rfl (XS.aloadN X1.here hx rfl (hb hby own_dprog_35_method_23_code_18) rfl rfl k)) ?_
  show own_Go p.tables e below RR (T1.setTop (mkF m 19 #[.val (.ref pa), .val (.int wd), .val (.int gm), .val (.ref b1), .val (.int (((ln - wd) + gm) - (1 : Int32))), .unset, .unset, .unset] [(.ref pa), (.int (((ln - wd) + gm) - (1 : Int32)))]))
  obtain ⟨c6, A6, -, s6, m6, -, -⟩ := id f4
  refine own_st (fun _ k => own_len X1 hx hZ e1 A6 s6 m6 (g := (mkF m 19 #[.val (.ref pa), .val (.int wd), .val (.int gm), .val (.ref b1), .val (.int (((ln - wd) + gm) - (1 : Int32))), .unset, .unset, .unset] [(.ref pa), (.int (((ln - wd) + gm) - (1 : Int32)))])) rfl rfl (hb hby own_dprog_35_method_23_code_19) k) ?_
  show own_Go p.tables e below RR (T1.setTop (mkF m 20 #[.val (.ref pa), .val (.int wd), .val (.int gm), .val (.ref b1), .val (.int (((ln - wd) + gm) - (1 : Int32))), .unset, .unset, .unset] [(.int ln), (.int (((ln - wd) + gm) - (1 : Int32)))]))
  have hc20_7 : (((ln - wd) + gm) - (1 : Int32)) < ln := (by rw [Int32.lt_iff_toInt_lt]; have := own_fe hln hwd hgm; omega)
  refine own_st (fun _ k => XS.icmpNo X1.here hx rfl (hb hby own_dprog_35_method_23_code_20) rfl (tlt hc20_7).2.1 k) ?_
  show own_Go p.tables e below RR (T1.setTop (mkF m 23 #[.val (.ref pa), .val (.int wd), .val (.int gm), .val (.ref b1), .val (.int (((ln - wd) + gm) - (1 : Int32))), .unset, .unset, .unset] []))
  show own_Go p.tables e below RR (T1.setTop (mkF m 23 #[.val (.ref pa), .val (.int wd), .val (.int gm), .val (.ref b1), .val (.int (((ln - wd) + gm) - (1 : Int32))), .unset, .unset, .unset] []))
  refine own_st (fun _ k => XS.lconst X1.here hx rfl (hb hby own_dprog_35_method_23_code_23) (XS.lstore X1.here hx rfl (hb hby own_dprog_35_method_23_code_24) rfl (l' := #[.val (.ref pa), .val (.int wd), .val (.int gm), .val (.ref b1), .val (.int (((ln - wd) + gm) - (1 : Int32))), .val (.long (0 : Int64)), .second, .unset]) rfl (XS.iconst X1.here hx rfl (hb hby own_dprog_35_method_23_code_26) (XS.istore X1.here hx rfl (hb hby own_dprog_35_method_23_code_27) rfl (l' := #[.val (.ref pa), .val (.int wd), .val (.int gm), .val (.ref b1), .val (.int (((ln - wd) + gm) - (1 : Int32))), .val (.long (0 : Int64)), .second, .val (.int (0 : Int32))]) rfl k)))) ?_
  show own_Go p.tables e below RR (T1.setTop (mkF m 29 #[.val (.ref pa), .val (.int wd), .val (.int gm), .val (.ref b1), .val (.int (((ln - wd) + gm) - (1 : Int32))), .val (.long (0 : Int64)), .second, .val (.int (0 : Int32))] []))
  have hee8 : gm.toInt - 1 ≤ (((ln - wd) + gm) - (1 : Int32)).toInt := (by have := own_fe hln hwd hgm; omega)
  have loop9 : ∀ (k : Nat) (T9 : State) (lo9 : List Loc) (xb : Int64) (xj : Int32) (j_ : Nat) (X9 : Stand p l e own_RFG s m #[(.ref pa), (.int wd), (.int gm)] below meth c T9 lo9 1 8192) (e9 : T9.heap = h1) (N9 : Fr n0 lo9) (hj_ : xj.toInt = (j_ : Int)) (hjle : (j_ : Int) ≤ gm.toInt) (_ : (gm.toInt - (j_ : Int)).toNat = k), own_Go p.tables e below RR (T9.setTop (mkF m 29 #[.val (.ref pa), .val (.int wd), .val (.int gm), .val (.ref b1), .val (.int (((ln - wd) + gm) - (1 : Int32))), .val (.long xb), .second, .val (.int xj)] [])) := by
    intro k
    induction k using Nat.strongRecOn with
    | _ k ih9 =>
      intro T9 lo9 xb xj j_ X9 e9 N9 hj_ hjle hk
      show own_Go p.tables e below RR (T9.setTop (mkF m 29 #[.val (.ref pa), .val (.int wd), .val (.int gm), .val (.ref b1), .val (.int (((ln - wd) + gm) - (1 : Int32))), .val (.long xb), .second, .val (.int xj)] []))
      refine own_st (fun _ k => XS.iload X9.here hx rfl (hb hby own_dprog_35_method_23_code_29) rfl (XS.iloadN X9.here hx rfl (hb hby own_dprog_35_method_23_code_31) rfl k)) ?_
      show own_Go p.tables e below RR (T9.setTop (mkF m 32 #[.val (.ref pa), .val (.int wd), .val (.int gm), .val (.ref b1), .val (.int (((ln - wd) + gm) - (1 : Int32))), .val (.long xb), .second, .val (.int xj)] [(.int gm), (.int xj)]))
      by_cases hc32_10 : xj < gm
      · refine own_st (fun _ k => XS.icmpNo X9.here hx rfl (hb hby own_dprog_35_method_23_code_32) rfl (tlt hc32_10).2.1 (XS.lload X9.here hx rfl (hb hby own_dprog_35_method_23_code_35) rfl (XS.aloadN X9.here hx rfl (hb hby own_dprog_35_method_23_code_37) rfl rfl (XS.iload X9.here hx rfl (hb hby own_dprog_35_method_23_code_38) rfl (XS.iload X9.here hx rfl (hb hby own_dprog_35_method_23_code_40) rfl (XS.isub X9.here hx rfl (hb hby own_dprog_35_method_23_code_42) rfl k)))))) ?_
        show own_Go p.tables e below RR (T9.setTop (mkF m 43 #[.val (.ref pa), .val (.int wd), .val (.int gm), .val (.ref b1), .val (.int (((ln - wd) + gm) - (1 : Int32))), .val (.long xb), .second, .val (.int xj)] [(.int ((((ln - wd) + gm) - (1 : Int32)) - xj)), (.ref pa), (.long xb)]))
        obtain ⟨c11, A11, q11, s11, m11, H11, G11⟩ := id f4
        have ij12 := own_ej hln hee8 hc20_7 hj_ hc32_10
        obtain ⟨zv12, hzv12, -⟩ := hpat ((((ln - wd) + gm) - (1 : Int32)) - xj).toNatClampNeg (own_tnN (n := 132) ⟨ij12.1, by omega⟩)
        have b11 := inb_of (j := ((((ln - wd) + gm) - (1 : Int32)) - xj)) s11 ⟨own_nn0 ij12.1, own_ltv rfl ij12.2⟩
        refine own_st (fun _ k => X9.iaload hx (j := ((((ln - wd) + gm) - (1 : Int32)) - xj)) (v := (.int zv12)) (by rw [e9]; exact A11.1) (State.isArrayOf_alike hZ.alike A11.2.1) A11.2.2 b11 (Has.at H11 b11 hzv12) (g := (mkF m 43 #[.val (.ref pa), .val (.int wd), .val (.int gm), .val (.ref b1), .val (.int (((ln - wd) + gm) - (1 : Int32))), .val (.long xb), .second, .val (.int xj)] [(.int ((((ln - wd) + gm) - (1 : Int32)) - xj)), (.ref pa), (.long xb)])) rfl rfl (hb hby own_dprog_35_method_23_code_43) _ (XS.iload X9.here hx rfl (hb hby own_dprog_35_method_23_code_44) rfl k)) ?_
        show own_Go p.tables e below RR (T9.setTop (mkF m 46 #[.val (.ref pa), .val (.int wd), .val (.int gm), .val (.ref b1), .val (.int (((ln - wd) + gm) - (1 : Int32))), .val (.long xb), .second, .val (.int xj)] [(.int xj), (.int zv12), (.long xb)]))
        obtain ⟨_, _, ⟨T13, L13, k13, n13⟩, -, X13, ⟨Lc13, hQ13, l13, y13, z13⟩, st13⟩ := Jvm.LawKit.callS X9 hx (y := (⟨"com/example/shiftwise/shiftwise/search/FactorSkip", "lowByte", "(II)J"⟩ : MethodName)) hown (mvT hZ (hw _ (List.mem_of_getElem? (i := 51) rfl))) (mvT hZ (hw _ (List.mem_of_getElem? (i := 52) rfl))) (mvT hZ (hw _ (List.mem_of_getElem? (i := 4) rfl))) (mvT hZ (hw _ (List.mem_of_getElem? (i := 53) rfl))) (by decide) (backOf (W := 2) (own_rmLB l Z a0 hw [] zv12 xj h1 n0 z2 ) hZ (hw _ (List.mem_of_getElem? (i := 53) rfl)) (hw _ (List.mem_of_getElem? (i := 4) rfl)) (by decide) (by decide)) (g := (mkF m 46 #[.val (.ref pa), .val (.int wd), .val (.int gm), .val (.ref b1), .val (.int (((ln - wd) + gm) - (1 : Int32))), .val (.long xb), .second, .val (.int xj)] [(.int xj), (.int zv12), (.long xb)])) rfl (by rw [hml]; rfl) (argsL := [(.int zv12), (.int xj)]) (rest := [(.long xb)]) (lenOf own_pd__II_J rfl) rfl (by show 2 * 0 + _ ≤ _; exact Nat.le_of_eq rfl) (hb hby own_dprog_35_method_23_code_46) (fun _ _ => ⟨rfl, e9, (by decide : 1 + 0 ≤ _), (by decide : 8192 + 0 ≤ _)⟩)
        dsimp only [Pt.U, Pt.locs, Pt.cells, Pt.slots] at X13 l13 y13 z13 st13 hQ13
        subst l13 y13 z13
        obtain ⟨rfl, Nq13, eq13⟩ := hQ13
        have N13 := Fr.app N9 Nq13
        refine own_st st13 ?_
        show own_Go p.tables e below RR (T13.setTop (mkF m 49 #[.val (.ref pa), .val (.int wd), .val (.int gm), .val (.ref b1), .val (.int (((ln - wd) + gm) - (1 : Int32))), .val (.long xb), .second, .val (.int xj)] [(.long (own_low zv12 xj)), (.long xb)]))
        refine own_st (fun _ k => XS.lor X13.here hx rfl (hb hby own_dprog_35_method_23_code_49) rfl (XS.lstore X13.here hx rfl (hb hby own_dprog_35_method_23_code_50) rfl (l' := #[.val (.ref pa), .val (.int wd), .val (.int gm), .val (.ref b1), .val (.int (((ln - wd) + gm) - (1 : Int32))), .val (.long (xb ||| (own_low zv12 xj))), .second, .val (.int xj)]) rfl (XS.iinc X13.here hx rfl (hb hby own_dprog_35_method_23_code_52) rfl (l' := #[.val (.ref pa), .val (.int wd), .val (.int gm), .val (.ref b1), .val (.int (((ln - wd) + gm) - (1 : Int32))), .val (.long (xb ||| (own_low zv12 xj))), .second, .val (.int (xj + (1 : Int32)))]) rfl (XS.goto X13.here hx rfl (pc0 := 55) (pc' := 29) rfl (hb hby own_dprog_35_method_23_code_55) (by decide) (by decide) k)))) ?_
        show own_Go p.tables e below RR (T13.setTop (mkF m 29 #[.val (.ref pa), .val (.int wd), .val (.int gm), .val (.ref b1), .val (.int (((ln - wd) + gm) - (1 : Int32))), .val (.long (xb ||| (own_low zv12 xj))), .second, .val (.int (xj + (1 : Int32)))] []))
        exact ih9 _ (by have q := own_lti hj_ hc32_10; omega) T13 _ (xb ||| (own_low zv12 xj)) (xj + (1 : Int32)) (j_ + 1) X13 eq13 N13 (own_inc hj_ hc32_10) (own_lti hj_ hc32_10) rfl
      · refine own_st (fun _ k => XS.icmpYes X9.here hx rfl (pc0 := 32) (pc' := 58) rfl (hb hby own_dprog_35_method_23_code_32) rfl (flt hc32_10).2.1 (by decide) (by decide) (XS.aloadN X9.here hx rfl (hb hby own_dprog_35_method_23_code_58) rfl rfl (XS.lload X9.here hx rfl (hb hby own_dprog_35_method_23_code_59) rfl k))) ?_
        show own_Go p.tables e below RR (T9.setTop (mkF m 61 #[.val (.ref pa), .val (.int wd), .val (.int gm), .val (.ref b1), .val (.int (((ln - wd) + gm) - (1 : Int32))), .val (.long xb), .second, .val (.int xj)] [(.long xb), (.ref b1)]))
        obtain ⟨_, _, ⟨T14, L14, k14, n14⟩, -, X14, ⟨Lc14, hQ14, l14, y14, z14⟩, st14⟩ := Jvm.LawKit.callS X9 hx (y := (⟨"com/example/shiftwise/shiftwise/search/FactorSkip", "tableIndex", "(J)I"⟩ : MethodName)) hown (mvT hZ (hw _ (List.mem_of_getElem? (i := 54) rfl))) (mvT hZ (hw _ (List.mem_of_getElem? (i := 55) rfl))) (mvT hZ (hw _ (List.mem_of_getElem? (i := 4) rfl))) (mvT hZ (hw _ (List.mem_of_getElem? (i := 56) rfl))) (by decide) (backOf (W := 1) (own_rmTI l Z a0 hw [] xb h1 n0 z2 ) hZ (hw _ (List.mem_of_getElem? (i := 56) rfl)) (hw _ (List.mem_of_getElem? (i := 4) rfl)) (by decide) (by decide)) (g := (mkF m 61 #[.val (.ref pa), .val (.int wd), .val (.int gm), .val (.ref b1), .val (.int (((ln - wd) + gm) - (1 : Int32))), .val (.long xb), .second, .val (.int xj)] [(.long xb), (.ref b1)])) rfl (by rw [hml]; rfl) (argsL := [(.long xb)]) (rest := [(.ref b1)]) (lenOf own_pd__J_I rfl) rfl (by show 2 * 0 + _ ≤ _; exact Nat.le_of_eq rfl) (hb hby own_dprog_35_method_23_code_61) (fun _ _ => ⟨rfl, e9, (by decide : 1 + 0 ≤ _), (by decide : 8192 + 0 ≤ _)⟩)
        dsimp only [Pt.U, Pt.locs, Pt.cells, Pt.slots] at X14 l14 y14 z14 st14 hQ14
        subst l14 y14 z14
        obtain ⟨rfl, Nq14, eq14⟩ := hQ14
        have N14 := Fr.app N9 Nq14
        refine own_st st14 ?_
        show own_Go p.tables e below RR (T14.setTop (mkF m 64 #[.val (.ref pa), .val (.int wd), .val (.int gm), .val (.ref b1), .val (.int (((ln - wd) + gm) - (1 : Int32))), .val (.long xb), .second, .val (.int xj)] [(.int ((((xb * (-7046029254386353131 : Int64)).toUInt64 >>> ((51 : Int32) &&& 0x3f).toInt64.toUInt64).toInt64).toInt32)), (.ref b1)]))
        refine own_st (fun _ k => XS.iconst X14.here hx rfl (hb hby own_dprog_35_method_23_code_64) k) ?_
        show own_Go p.tables e below RR (T14.setTop (mkF m 65 #[.val (.ref pa), .val (.int wd), .val (.int gm), .val (.ref b1), .val (.int (((ln - wd) + gm) - (1 : Int32))), .val (.long xb), .second, .val (.int xj)] [(.int (1 : Int32)), (.int ((((xb * (-7046029254386353131 : Int64)).toUInt64 >>> ((51 : Int32) &&& 0x3f).toInt64.toUInt64).toInt64).toInt32)), (.ref b1)]))
        obtain ⟨c15, A15, q15, s15, m15, H15, G15⟩ := id Vz8
        obtain ⟨T16, h16, X16, e16, W16, st16⟩ := stB X14 hx hZ eq14 A15 (j := ((((xb * (-7046029254386353131 : Int64)).toUInt64 >>> ((51 : Int32) &&& 0x3f).toInt64.toUInt64).toInt64).toInt32)) (inb_of s15 (own_inN (n := 8192) (by decide) (own_ti _))) (g := (mkF m 65 #[.val (.ref pa), .val (.int wd), .val (.int gm), .val (.ref b1), .val (.int (((ln - wd) + gm) - (1 : Int32))), .val (.long xb), .second, .val (.int xj)] [(.int (1 : Int32)), (.int ((((xb * (-7046029254386353131 : Int64)).toUInt64 >>> ((51 : Int32) &&& 0x3f).toInt64.toUInt64).toInt64).toInt32)), (.ref b1)])) rfl rfl (hb hby own_dprog_35_method_23_code_65)
        have U16 := Arv.set A15 q15 s15 m15 H15 G15 (fits_nar_byte _) W16 ((((xb * (-7046029254386353131 : Int64)).toUInt64 >>> ((51 : Int32) &&& 0x3f).toInt64.toUInt64).toInt64).toInt32).toNatClampNeg rfl (by rw [own_z8len]; exact own_tnN (n := 8192) (own_ti _))
        have V16 : Arv Z h16 b1 k1 .byte (8192 : Int32) (own_z8.set ((((xb * (-7046029254386353131 : Int64)).toUInt64 >>> ((51 : Int32) &&& 0x3f).toInt64.toUInt64).toInt64).toInt32).toNatClampNeg (.int (1 : Int32))) (.int (0 : Int32)) := U16
        have N16 := Fr.snoc X16 N14 ge1
        refine own_st st16 ?_
        have z17 : n0 ≤ h16.size := Nat.le_trans z2 (Keep.of_wr W16).1
        have kk18 : Keep h0 h16 [] := kk3.wr W16 (Or.inr sz1)
        show own_Go p.tables e below RR (T16.setTop (mkF m 66 #[.val (.ref pa), .val (.int wd), .val (.int gm), .val (.ref b1), .val (.int (((ln - wd) + gm) - (1 : Int32))), .val (.long xb), .second, .val (.int xj)] []))
        refine own_st (fun _ k => XS.iinc X16.here hx rfl (hb hby own_dprog_35_method_23_code_66) rfl (l' := #[.val (.ref pa), .val (.int wd), .val (.int gm), .val (.ref b1), .val (.int ((((ln - wd) + gm) - (1 : Int32)) + (1 : Int32))), .val (.long xb), .second, .val (.int xj)]) rfl (XS.goto X16.here hx rfl (pc0 := 69) (pc' := 16) rfl (hb hby own_dprog_35_method_23_code_69) (by decide) (by decide) k)) ?_
        show own_Go p.tables e below RR (T16.setTop (mkF m 16 #[.val (.ref pa), .val (.int wd), .val (.int gm), .val (.ref b1), .val (.int ((((ln - wd) + gm) - (1 : Int32)) + (1 : Int32))), .val (.long xb), .second, .val (.int xj)] []))
        have loop19 : ∀ (k : Nat) (T19 : State) (lo19 : List Loc) (hh2 : Heap) (xe : Int32) (xb0 : Int64) (xj0 : Int32) (bl2 : List Value) (X19 : Stand p l e own_RFG s m #[(.ref pa), (.int wd), (.int gm)] below meth c T19 lo19 1 8192) (e19 : T19.heap = hh2) (N19 : Fr n0 lo19) (K2 : Keep h16 hh2 [b1]) (V2 : Arv Z hh2 b1 k1 .byte (8192 : Int32) bl2 (.int (0 : Int32))) (hbl : bl2.length = 8192) (hxe : gm.toInt - 1 ≤ xe.toInt) (_ : (ln.toInt - xe.toInt).toNat = k), own_Go p.tables e below RR (T19.setTop (mkF m 16 #[.val (.ref pa), .val (.int wd), .val (.int gm), .val (.ref b1), .val (.int xe), .val (.long xb0), .second, .val (.int xj0)] [])) := by
          intro k
          induction k using Nat.strongRecOn with
          | _ k ih19 =>
            intro T19 lo19 hh2 xe xb0 xj0 bl2 X19 e19 N19 K2 V2 hbl hxe hk
            have z20 : n0 ≤ hh2.size := Nat.le_trans z17 K2.1
            have kk21 : Keep h0 hh2 [] := kk18.trans K2 (allS (Or.inr sz1) all0)
            show own_Go p.tables e below RR (T19.setTop (mkF m 16 #[.val (.ref pa), .val (.int wd), .val (.int gm), .val (.ref b1), .val (.int xe), .val (.long xb0), .second, .val (.int xj0)] []))
            refine own_st (fun _ k => XS.iload X19.here hx rfl (hb hby own_dprog_35_method_23_code_16) rfl (XS.aloadN X19.here hx rfl (hb hby own_dprog_35_method_23_code_18) rfl rfl k)) ?_
            show own_Go p.tables e below RR (T19.setTop (mkF m 19 #[.val (.ref pa), .val (.int wd), .val (.int gm), .val (.ref b1), .val (.int xe), .val (.long xb0), .second, .val (.int xj0)] [(.ref pa), (.int xe)]))
            have ne22 : pa ≠ b1 := (Nat.ne_of_lt (Nat.lt_of_lt_of_le Vp.lt (Nat.le_of_eq gb1.symm)))
            have f23 := ((f4.other W16 ne22).keep K2 (ninS ne22 nin0))
            obtain ⟨c24, A24, -, s24, m24, -, -⟩ := id f23
            refine own_st (fun _ k => own_len X19 hx hZ e19 A24 s24 m24 (g := (mkF m 19 #[.val (.ref pa), .val (.int wd), .val (.int gm), .val (.ref b1), .val (.int xe), .val (.long xb0), .second, .val (.int xj0)] [(.ref pa), (.int xe)])) rfl rfl (hb hby own_dprog_35_method_23_code_19) k) ?_
            show own_Go p.tables e below RR (T19.setTop (mkF m 20 #[.val (.ref pa), .val (.int wd), .val (.int gm), .val (.ref b1), .val (.int xe), .val (.long xb0), .second, .val (.int xj0)] [(.int ln), (.int xe)]))
            by_cases hc20_25 : xe < ln
            · refine own_st (fun _ k => XS.icmpNo X19.here hx rfl (hb hby own_dprog_35_method_23_code_20) rfl (tlt hc20_25).2.1 k) ?_
              show own_Go p.tables e below RR (T19.setTop (mkF m 23 #[.val (.ref pa), .val (.int wd), .val (.int gm), .val (.ref b1), .val (.int xe), .val (.long xb0), .second, .val (.int xj0)] []))
              show own_Go p.tables e below RR (T19.setTop (mkF m 23 #[.val (.ref pa), .val (.int wd), .val (.int gm), .val (.ref b1), .val (.int xe), .val (.long xb0), .second, .val (.int xj0)] []))
              refine own_st (fun _ k => XS.lconst X19.here hx rfl (hb hby own_dprog_35_method_23_code_23) (XS.lstore X19.here hx rfl (hb hby own_dprog_35_method_23_code_24) rfl (l' := #[.val (.ref pa), .val (.int wd), .val (.int gm), .val (.ref b1), .val (.int xe), .val (.long (0 : Int64)), .second, .val (.int xj0)]) rfl (XS.iconst X19.here hx rfl (hb hby own_dprog_35_method_23_code_26) (XS.istore X19.here hx rfl (hb hby own_dprog_35_method_23_code_27) rfl (l' := #[.val (.ref pa), .val (.int wd), .val (.int gm), .val (.ref b1), .val (.int xe), .val (.long (0 : Int64)), .second, .val (.int (0 : Int32))]) rfl k)))) ?_
              show own_Go p.tables e below RR (T19.setTop (mkF m 29 #[.val (.ref pa), .val (.int wd), .val (.int gm), .val (.ref b1), .val (.int xe), .val (.long (0 : Int64)), .second, .val (.int (0 : Int32))] []))
              have hee26 : gm.toInt - 1 ≤ xe.toInt := hxe
              have loop27 : ∀ (k : Nat) (T27 : State) (lo27 : List Loc) (xb : Int64) (xj : Int32) (j_ : Nat) (X27 : Stand p l e own_RFG s m #[(.ref pa), (.int wd), (.int gm)] below meth c T27 lo27 1 8192) (e27 : T27.heap = hh2) (N27 : Fr n0 lo27) (hj_ : xj.toInt = (j_ : Int)) (hjle : (j_ : Int) ≤ gm.toInt) (_ : (gm.toInt - (j_ : Int)).toNat = k), own_Go p.tables e below RR (T27.setTop (mkF m 29 #[.val (.ref pa), .val (.int wd), .val (.int gm), .val (.ref b1), .val (.int xe), .val (.long xb), .second, .val (.int xj)] [])) := by
                intro k
                induction k using Nat.strongRecOn with
                | _ k ih27 =>
                  intro T27 lo27 xb xj j_ X27 e27 N27 hj_ hjle hk
                  show own_Go p.tables e below RR (T27.setTop (mkF m 29 #[.val (.ref pa), .val (.int wd), .val (.int gm), .val (.ref b1), .val (.int xe), .val (.long xb), .second, .val (.int xj)] []))
                  refine own_st (fun _ k => XS.iload X27.here hx rfl (hb hby own_dprog_35_method_23_code_29) rfl (XS.iloadN X27.here hx rfl (hb hby own_dprog_35_method_23_code_31) rfl k)) ?_
                  show own_Go p.tables e below RR (T27.setTop (mkF m 32 #[.val (.ref pa), .val (.int wd), .val (.int gm), .val (.ref b1), .val (.int xe), .val (.long xb), .second, .val (.int xj)] [(.int gm), (.int xj)]))
                  by_cases hc32_28 : xj < gm
                  · refine own_st (fun _ k => XS.icmpNo X27.here hx rfl (hb hby own_dprog_35_method_23_code_32) rfl (tlt hc32_28).2.1 (XS.lload X27.here hx rfl (hb hby own_dprog_35_method_23_code_35) rfl (XS.aloadN X27.here hx rfl (hb hby own_dprog_35_method_23_code_37) rfl rfl (XS.iload X27.here hx rfl (hb hby own_dprog_35_method_23_code_38) rfl (XS.iload X27.here hx rfl (hb hby own_dprog_35_method_23_code_40) rfl (XS.isub X27.here hx rfl (hb hby own_dprog_35_method_23_code_42) rfl k)))))) ?_
                    show own_Go p.tables e below RR (T27.setTop (mkF m 43 #[.val (.ref pa), .val (.int wd), .val (.int gm), .val (.ref b1), .val (.int xe), .val (.long xb), .second, .val (.int xj)] [(.int (xe - xj)), (.ref pa), (.long xb)]))
                    obtain ⟨c29, A29, q29, s29, m29, H29, G29⟩ := id f23
                    have ij30 := own_ej hln hee26 hc20_25 hj_ hc32_28
                    obtain ⟨zv30, hzv30, -⟩ := hpat (xe - xj).toNatClampNeg (own_tnN (n := 132) ⟨ij30.1, by omega⟩)
                    have b29 := inb_of (j := (xe - xj)) s29 ⟨own_nn0 ij30.1, own_ltv rfl ij30.2⟩
                    refine own_st (fun _ k => X27.iaload hx (j := (xe - xj)) (v := (.int zv30)) (by rw [e27]; exact A29.1) (State.isArrayOf_alike hZ.alike A29.2.1) A29.2.2 b29 (Has.at H29 b29 hzv30) (g := (mkF m 43 #[.val (.ref pa), .val (.int wd), .val (.int gm), .val (.ref b1), .val (.int xe), .val (.long xb), .second, .val (.int xj)] [(.int (xe - xj)), (.ref pa), (.long xb)])) rfl rfl (hb hby own_dprog_35_method_23_code_43) _ (XS.iload X27.here hx rfl (hb hby own_dprog_35_method_23_code_44) rfl k)) ?_
                    show own_Go p.tables e below RR (T27.setTop (mkF m 46 #[.val (.ref pa), .val (.int wd), .val (.int gm), .val (.ref b1), .val (.int xe), .val (.long xb), .second, .val (.int xj)] [(.int xj), (.int zv30), (.long xb)]))
                    obtain ⟨_, _, ⟨T31, L31, k31, n31⟩, -, X31, ⟨Lc31, hQ31, l31, y31, z31⟩, st31⟩ := Jvm.LawKit.callS X27 hx (y := (⟨"com/example/shiftwise/shiftwise/search/FactorSkip", "lowByte", "(II)J"⟩ : MethodName)) hown (mvT hZ (hw _ (List.mem_of_getElem? (i := 51) rfl))) (mvT hZ (hw _ (List.mem_of_getElem? (i := 52) rfl))) (mvT hZ (hw _ (List.mem_of_getElem? (i := 4) rfl))) (mvT hZ (hw _ (List.mem_of_getElem? (i := 53) rfl))) (by decide) (backOf (W := 2) (own_rmLB l Z a0 hw [] zv30 xj hh2 n0 z20 ) hZ (hw _ (List.mem_of_getElem? (i := 53) rfl)) (hw _ (List.mem_of_getElem? (i := 4) rfl)) (by decide) (by decide)) (g := (mkF m 46 #[.val (.ref pa), .val (.int wd), .val (.int gm), .val (.ref b1), .val (.int xe), .val (.long xb), .second, .val (.int xj)] [(.int xj), (.int zv30), (.long xb)])) rfl (by rw [hml]; rfl) (argsL := [(.int zv30), (.int xj)]) (rest := [(.long xb)]) (lenOf own_pd__II_J rfl) rfl (by show 2 * 0 + _ ≤ _; exact Nat.le_of_eq rfl) (hb hby own_dprog_35_method_23_code_46) (fun _ _ => ⟨rfl, e27, (by decide : 1 + 0 ≤ _), (by decide : 8192 + 0 ≤ _)⟩)
                    dsimp only [Pt.U, Pt.locs, Pt.cells, Pt.slots] at X31 l31 y31 z31 st31 hQ31
                    subst l31 y31 z31
                    obtain ⟨rfl, Nq31, eq31⟩ := hQ31
                    have N31 := Fr.app N27 Nq31
                    refine own_st st31 ?_
                    show own_Go p.tables e below RR (T31.setTop (mkF m 49 #[.val (.ref pa), .val (.int wd), .val (.int gm), .val (.ref b1), .val (.int xe), .val (.long xb), .second, .val (.int xj)] [(.long (own_low zv30 xj)), (.long xb)]))
                    refine own_st (fun _ k => XS.lor X31.here hx rfl (hb hby own_dprog_35_method_23_code_49) rfl (XS.lstore X31.here hx rfl (hb hby own_dprog_35_method_23_code_50) rfl (l' := #[.val (.ref pa), .val (.int wd), .val (.int gm), .val (.ref b1), .val (.int xe), .val (.long (xb ||| (own_low zv30 xj))), .second, .val (.int xj)]) rfl (XS.iinc X31.here hx rfl (hb hby own_dprog_35_method_23_code_52) rfl (l' := #[.val (.ref pa), .val (.int wd), .val (.int gm), .val (.ref b1), .val (.int xe), .val (.long (xb ||| (own_low zv30 xj))), .second, .val (.int (xj + (1 : Int32)))]) rfl (XS.goto X31.here hx rfl (pc0 := 55) (pc' := 29) rfl (hb hby own_dprog_35_method_23_code_55) (by decide) (by decide) k)))) ?_
                    show own_Go p.tables e below RR (T31.setTop (mkF m 29 #[.val (.ref pa), .val (.int wd), .val (.int gm), .val (.ref b1), .val (.int xe), .val (.long (xb ||| (own_low zv30 xj))), .second, .val (.int (xj + (1 : Int32)))] []))
                    exact ih27 _ (by have q := own_lti hj_ hc32_28; omega) T31 _ (xb ||| (own_low zv30 xj)) (xj + (1 : Int32)) (j_ + 1) X31 eq31 N31 (own_inc hj_ hc32_28) (own_lti hj_ hc32_28) rfl
                  · refine own_st (fun _ k => XS.icmpYes X27.here hx rfl (pc0 := 32) (pc' := 58) rfl (hb hby own_dprog_35_method_23_code_32) rfl (flt hc32_28).2.1 (by decide) (by decide) (XS.aloadN X27.here hx rfl (hb hby own_dprog_35_method_23_code_58) rfl rfl (XS.lload X27.here hx rfl (hb hby own_dprog_35_method_23_code_59) rfl k))) ?_
                    show own_Go p.tables e below RR (T27.setTop (mkF m 61 #[.val (.ref pa), .val (.int wd), .val (.int gm), .val (.ref b1), .val (.int xe), .val (.long xb), .second, .val (.int xj)] [(.long xb), (.ref b1)]))
                    obtain ⟨_, _, ⟨T32, L32, k32, n32⟩, -, X32, ⟨Lc32, hQ32, l32, y32, z32⟩, st32⟩ := Jvm.LawKit.callS X27 hx (y := (⟨"com/example/shiftwise/shiftwise/search/FactorSkip", "tableIndex", "(J)I"⟩ : MethodName)) hown (mvT hZ (hw _ (List.mem_of_getElem? (i := 54) rfl))) (mvT hZ (hw _ (List.mem_of_getElem? (i := 55) rfl))) (mvT hZ (hw _ (List.mem_of_getElem? (i := 4) rfl))) (mvT hZ (hw _ (List.mem_of_getElem? (i := 56) rfl))) (by decide) (backOf (W := 1) (own_rmTI l Z a0 hw [] xb hh2 n0 z20 ) hZ (hw _ (List.mem_of_getElem? (i := 56) rfl)) (hw _ (List.mem_of_getElem? (i := 4) rfl)) (by decide) (by decide)) (g := (mkF m 61 #[.val (.ref pa), .val (.int wd), .val (.int gm), .val (.ref b1), .val (.int xe), .val (.long xb), .second, .val (.int xj)] [(.long xb), (.ref b1)])) rfl (by rw [hml]; rfl) (argsL := [(.long xb)]) (rest := [(.ref b1)]) (lenOf own_pd__J_I rfl) rfl (by show 2 * 0 + _ ≤ _; exact Nat.le_of_eq rfl) (hb hby own_dprog_35_method_23_code_61) (fun _ _ => ⟨rfl, e27, (by decide : 1 + 0 ≤ _), (by decide : 8192 + 0 ≤ _)⟩)
                    dsimp only [Pt.U, Pt.locs, Pt.cells, Pt.slots] at X32 l32 y32 z32 st32 hQ32
                    subst l32 y32 z32
                    obtain ⟨rfl, Nq32, eq32⟩ := hQ32
                    have N32 := Fr.app N27 Nq32
                    refine own_st st32 ?_
                    show own_Go p.tables e below RR (T32.setTop (mkF m 64 #[.val (.ref pa), .val (.int wd), .val (.int gm), .val (.ref b1), .val (.int xe), .val (.long xb), .second, .val (.int xj)] [(.int ((((xb * (-7046029254386353131 : Int64)).toUInt64 >>> ((51 : Int32) &&& 0x3f).toInt64.toUInt64).toInt64).toInt32)), (.ref b1)]))
                    refine own_st (fun _ k => XS.iconst X32.here hx rfl (hb hby own_dprog_35_method_23_code_64) k) ?_
                    show own_Go p.tables e below RR (T32.setTop (mkF m 65 #[.val (.ref pa), .val (.int wd), .val (.int gm), .val (.ref b1), .val (.int xe), .val (.long xb), .second, .val (.int xj)] [(.int (1 : Int32)), (.int ((((xb * (-7046029254386353131 : Int64)).toUInt64 >>> ((51 : Int32) &&& 0x3f).toInt64.toUInt64).toInt64).toInt32)), (.ref b1)]))
                    obtain ⟨c33, A33, q33, s33, m33, H33, G33⟩ := id V2
                    obtain ⟨T34, h34, X34, e34, W34, st34⟩ := stB X32 hx hZ eq32 A33 (j := ((((xb * (-7046029254386353131 : Int64)).toUInt64 >>> ((51 : Int32) &&& 0x3f).toInt64.toUInt64).toInt64).toInt32)) (inb_of s33 (own_inN (n := 8192) (by decide) (own_ti _))) (g := (mkF m 65 #[.val (.ref pa), .val (.int wd), .val (.int gm), .val (.ref b1), .val (.int xe), .val (.long xb), .second, .val (.int xj)] [(.int (1 : Int32)), (.int ((((xb * (-7046029254386353131 : Int64)).toUInt64 >>> ((51 : Int32) &&& 0x3f).toInt64.toUInt64).toInt64).toInt32)), (.ref b1)])) rfl rfl (hb hby own_dprog_35_method_23_code_65)
                    have U34 := Arv.set A33 q33 s33 m33 H33 G33 (fits_nar_byte _) W34 ((((xb * (-7046029254386353131 : Int64)).toUInt64 >>> ((51 : Int32) &&& 0x3f).toInt64.toUInt64).toInt64).toInt32).toNatClampNeg rfl (by rw [hbl]; exact own_tnN (n := 8192) (own_ti _))
                    have V34 : Arv Z h34 b1 k1 .byte (8192 : Int32) (bl2.set ((((xb * (-7046029254386353131 : Int64)).toUInt64 >>> ((51 : Int32) &&& 0x3f).toInt64.toUInt64).toInt64).toInt32).toNatClampNeg (.int (1 : Int32))) (.int (0 : Int32)) := U34
                    have N34 := Fr.snoc X34 N32 ge1
                    refine own_st st34 ?_
                    have z35 : n0 ≤ h34.size := Nat.le_trans z20 (Keep.of_wr W34).1
                    have kk36 : Keep h0 h34 [] := kk21.wr W34 (Or.inr sz1)
                    show own_Go p.tables e below RR (T34.setTop (mkF m 66 #[.val (.ref pa), .val (.int wd), .val (.int gm), .val (.ref b1), .val (.int xe), .val (.long xb), .second, .val (.int xj)] []))
                    refine own_st (fun _ k => XS.iinc X34.here hx rfl (hb hby own_dprog_35_method_23_code_66) rfl (l' := #[.val (.ref pa), .val (.int wd), .val (.int gm), .val (.ref b1), .val (.int (xe + (1 : Int32))), .val (.long xb), .second, .val (.int xj)]) rfl (XS.goto X34.here hx rfl (pc0 := 69) (pc' := 16) rfl (hb hby own_dprog_35_method_23_code_69) (by decide) (by decide) k)) ?_
                    show own_Go p.tables e below RR (T34.setTop (mkF m 16 #[.val (.ref pa), .val (.int wd), .val (.int gm), .val (.ref b1), .val (.int (xe + (1 : Int32))), .val (.long xb), .second, .val (.int xj)] []))
                    exact ih19 _ (by have q := own_e1 hln hgm.1 hxe hc20_25; omega) T34 _ h34 (xe + (1 : Int32)) xb xj (bl2.set ((((xb * (-7046029254386353131 : Int64)).toUInt64 >>> ((51 : Int32) &&& 0x3f).toInt64.toUInt64).toInt64).toInt32).toNatClampNeg (.int (1 : Int32))) X34 e34 N34 (K2.wr W34 (Or.inl (List.mem_of_getElem? (i := 0) rfl))) V34 (own_ls hbl) (own_e1 hln hgm.1 hxe hc20_25).1 rfl
              exact loop27 _ T19 _ (0 : Int64) (0 : Int32) 0 X19 e19 N19 (by decide) (by omega) rfl
            · refine own_st (fun _ k => XS.icmpYes X19.here hx rfl (pc0 := 20) (pc' := 72) rfl (hb hby own_dprog_35_method_23_code_20) rfl (flt hc20_25).2.1 (by decide) (by decide) (XS.aloadN X19.here hx rfl (hb hby own_dprog_35_method_23_code_72) rfl rfl k)) ?_
              show own_Go p.tables e below RR (T19.setTop (mkF m 73 #[.val (.ref pa), .val (.int wd), .val (.int gm), .val (.ref b1), .val (.int xe), .val (.long xb0), .second, .val (.int xj0)] [(.ref b1)]))
              obtain ⟨fs, hrt_, hrun, hended, hW, hsame⟩ := X19.leave (v := some (.ref b1)) (fun h => by rw [Bd.returns] at h; cases h)
              refine own_fin (retOut X19 hx Bd.returns rfl (Or.inr (Or.inr (Or.inr (Or.inr ⟨rfl, rfl, rfl⟩)))) (hb hby own_dprog_35_method_23_code_73) hrt_) (hRR _ ⟨_, hrun, hended, _, _, rfl, ?_, ⟨_, rfl⟩, hW, hsame.mono (by decide) (by decide)⟩)
              show own_QFG Z pa kp ln pl va vb wd gm h0 n0 _ T19.heap _
              rw [e19]
              exact ⟨_, rfl, N19, kk21⟩
        exact loop19 _ T16 _ h16 ((((ln - wd) + gm) - (1 : Int32)) + (1 : Int32)) xb xj (own_z8.set ((((xb * (-7046029254386353131 : Int64)).toUInt64 >>> ((51 : Int32) &&& 0x3f).toInt64.toUInt64).toInt64).toInt32).toNatClampNeg (.int (1 : Int32))) X16 e16 N16 (Keep.refl _ _) V16 (own_ls own_z8len) (own_e1 hln hgm.1 (by have := own_fe hln hwd hgm; omega) hc20_7).1 rfl
  exact loop9 _ T1 _ (0 : Int64) (0 : Int32) 0 X1 e1 N0 (by decide) (by omega) rfl
theorem own_dprog_35_method_1_code_0 : decode prog_35_method_1_code 0 = .ok (.aload_n 0, 1) := by decide +kernel
theorem own_dprog_35_method_1_code_1 : decode prog_35_method_1_code 1 = .ok (.invokespecial 5, 3) := by decide +kernel
theorem own_dprog_35_method_1_code_4 : decode prog_35_method_1_code 4 = .ok (.aload_n 0, 1) := by decide +kernel
theorem own_dprog_35_method_1_code_5 : decode prog_35_method_1_code 5 = .ok (.aload_n 1, 1) := by decide +kernel
theorem own_dprog_35_method_1_code_6 : decode prog_35_method_1_code 6 = .ok (.putfield 11, 3) := by decide +kernel
theorem own_dprog_35_method_1_code_9 : decode prog_35_method_1_code 9 = .ok (.aload_n 0, 1) := by decide +kernel
theorem own_dprog_35_method_1_code_10 : decode prog_35_method_1_code 10 = .ok (.aload_n 1, 1) := by decide +kernel
theorem own_dprog_35_method_1_code_11 : decode prog_35_method_1_code 11 = .ok (.arraylength, 1) := by decide +kernel
theorem own_dprog_35_method_1_code_12 : decode prog_35_method_1_code 12 = .ok (.bipush 64, 2) := by decide +kernel
theorem own_dprog_35_method_1_code_14 : decode prog_35_method_1_code 14 = .ok (.invokestatic 15, 3) := by decide +kernel
theorem own_dprog_35_method_1_code_17 : decode prog_35_method_1_code 17 = .ok (.putfield 21, 3) := by decide +kernel
theorem own_dprog_35_method_1_code_20 : decode prog_35_method_1_code 20 = .ok (.aload_n 0, 1) := by decide +kernel
theorem own_dprog_35_method_1_code_21 : decode prog_35_method_1_code 21 = .ok (.aload_n 0, 1) := by decide +kernel
theorem own_dprog_35_method_1_code_22 : decode prog_35_method_1_code 22 = .ok (.getfield 21, 3) := by decide +kernel
theorem own_pd__I_I : parseMethodDescriptor "(I)I" = some ⟨[.int], some .int⟩ := by decide +kernel
theorem own_dprog_35_method_1_code_25 : decode prog_35_method_1_code 25 = .ok (.invokestatic 25, 3) := by decide +kernel
theorem own_dprog_35_method_1_code_28 : decode prog_35_method_1_code 28 = .ok (.putfield 29, 3) := by decide +kernel
theorem own_dprog_35_method_1_code_31 : decode prog_35_method_1_code 31 = .ok (.aload_n 0, 1) := by decide +kernel
theorem own_dprog_35_method_1_code_32 : decode prog_35_method_1_code 32 = .ok (.aload_n 0, 1) := by decide +kernel
theorem own_dprog_35_method_1_code_33 : decode prog_35_method_1_code 33 = .ok (.getfield 21, 3) := by decide +kernel
theorem own_dprog_35_method_1_code_36 : decode prog_35_method_1_code 36 = .ok (.aload_n 0, 1) := by decide +kernel
theorem own_dprog_35_method_1_code_37 : decode prog_35_method_1_code 37 = .ok (.getfield 29, 3) := by decide +kernel
theorem own_dprog_35_method_1_code_40 : decode prog_35_method_1_code 40 = .ok (.isub, 1) := by decide +kernel
theorem own_dprog_35_method_1_code_41 : decode prog_35_method_1_code 41 = .ok (.iconst 1, 1) := by decide +kernel
theorem own_dprog_35_method_1_code_42 : decode prog_35_method_1_code 42 = .ok (.iadd, 1) := by decide +kernel
theorem own_dprog_35_method_1_code_43 : decode prog_35_method_1_code 43 = .ok (.putfield 32, 3) := by decide +kernel
theorem own_dprog_35_method_1_code_46 : decode prog_35_method_1_code 46 = .ok (.aload_n 0, 1) := by decide +kernel
theorem own_dprog_35_method_1_code_47 : decode prog_35_method_1_code 47 = .ok (.ldc2_w 35, 3) := by decide +kernel
theorem own_dprog_35_method_1_code_50 : decode prog_35_method_1_code 50 = .ok (.bipush 64, 2) := by decide +kernel
theorem own_dprog_35_method_1_code_52 : decode prog_35_method_1_code 52 = .ok (.bipush 8, 2) := by decide +kernel
theorem own_dprog_35_method_1_code_54 : decode prog_35_method_1_code 54 = .ok (.aload_n 0, 1) := by decide +kernel
theorem own_dprog_35_method_1_code_55 : decode prog_35_method_1_code 55 = .ok (.getfield 29, 3) := by decide +kernel
theorem own_dprog_35_method_1_code_58 : decode prog_35_method_1_code 58 = .ok (.imul, 1) := by decide +kernel
theorem own_dprog_35_method_1_code_59 : decode prog_35_method_1_code 59 = .ok (.isub, 1) := by decide +kernel
theorem own_dprog_35_method_1_code_60 : decode prog_35_method_1_code 60 = .ok (.lshl, 1) := by decide +kernel
theorem own_dprog_35_method_1_code_61 : decode prog_35_method_1_code 61 = .ok (.putfield 39, 3) := by decide +kernel
theorem own_dprog_35_method_1_code_64 : decode prog_35_method_1_code 64 = .ok (.aload_n 0, 1) := by decide +kernel
theorem own_dprog_35_method_1_code_65 : decode prog_35_method_1_code 65 = .ok (.aload_n 1, 1) := by decide +kernel
theorem own_dprog_35_method_1_code_66 : decode prog_35_method_1_code 66 = .ok (.aload_n 0, 1) := by decide +kernel
theorem own_dprog_35_method_1_code_67 : decode prog_35_method_1_code 67 = .ok (.getfield 21, 3) := by decide +kernel
theorem own_dprog_35_method_1_code_70 : decode prog_35_method_1_code 70 = .ok (.iload_n 2, 1) := by decide +kernel
theorem own_pd___III___J : parseMethodDescriptor "([III)[[J" = some ⟨[(.array .int), .int, .int], some (.array (.array .long))⟩ := by decide +kernel
theorem own_dprog_35_method_1_code_71 : decode prog_35_method_1_code 71 = .ok (.invokestatic 43, 3) := by decide +kernel
theorem own_dprog_35_method_1_code_74 : decode prog_35_method_1_code 74 = .ok (.putfield 47, 3) := by decide +kernel
theorem own_dprog_35_method_1_code_77 : decode prog_35_method_1_code 77 = .ok (.aload_n 0, 1) := by decide +kernel
theorem own_dprog_35_method_1_code_78 : decode prog_35_method_1_code 78 = .ok (.aload_n 1, 1) := by decide +kernel
theorem own_dprog_35_method_1_code_79 : decode prog_35_method_1_code 79 = .ok (.aload_n 0, 1) := by decide +kernel
theorem own_dprog_35_method_1_code_80 : decode prog_35_method_1_code 80 = .ok (.getfield 21, 3) := by decide +kernel
theorem own_dprog_35_method_1_code_83 : decode prog_35_method_1_code 83 = .ok (.aload_n 0, 1) := by decide +kernel
theorem own_dprog_35_method_1_code_84 : decode prog_35_method_1_code 84 = .ok (.getfield 29, 3) := by decide +kernel
theorem own_pd___III__B : parseMethodDescriptor "([III)[B" = some ⟨[(.array .int), .int, .int], some (.array .byte)⟩ := by decide +kernel
theorem own_dprog_35_method_1_code_87 : decode prog_35_method_1_code 87 = .ok (.invokestatic 50, 3) := by decide +kernel
theorem own_dprog_35_method_1_code_90 : decode prog_35_method_1_code 90 = .ok (.putfield 54, 3) := by decide +kernel
theorem own_dprog_35_method_1_code_93 : decode prog_35_method_1_code 93 = .ok (.return_, 1) := by decide +kernel
theorem own_efIN256 (m : MethodId) (o : Addr) (pa : Addr) : entryFrame m #[(.ref o), (.ref pa), (.int (65536 : Int32))] 3 = mkF m 0 #[.val (.ref o), .val (.ref pa), .val (.int (65536 : Int32))] [] := by first | (simp [entryFrame, mkF, argsToLocals, Value.category]; done) | rfl
def own_QIN256 (Z : State) (o : Addr) (pa : Addr) (kp : ClassId) (ln : Int32) (pl : List Value) (va : Int32) (vb : Int32) (ab : Addr) (h0 : Heap) (n0 : Nat) (rv__ : Option Value) (h : Heap) (rL__ : List Loc) : Prop := rv__ = none ∧ Fr n0 rL__ ∧ Keep h0 h [o] ∧ Fld Z h o "com/example/shiftwise/shiftwise/search/FactorSkip" "gram" "I" (.int (own_gm (own_mn ln (64 : Int32)))) ∧ Fld Z h o "com/example/shiftwise/shiftwise/search/FactorSkip" "stride" "I" (.int (((own_mn ln (64 : Int32)) - (own_gm (own_mn ln (64 : Int32)))) + (1 : Int32))) ∧ Exa Z h o "com/example/shiftwise/shiftwise/search/FactorSkip"
abbrev own_RIN256 : Room := { frames := 2, cells := 5, slots := 9216, locals := 35 }
set_option maxRecDepth 65536 in
set_option maxHeartbeats 40000000 in
theorem own_rmIN256 (l : Launch) (Z : State) (a0 : Array Value) (hw : ∀ d ∈ tables_1, d.before a0 Z = true) (ws : List Jvm.Cond) (o : Addr) (pa : Addr) (kp : ClassId) (ln : Int32) (pl : List Value) (va : Int32) (vb : Int32) (ab : Addr) (h0 : Heap) (n0 : Nat) (Z0 : n0 ≤ h0.size) (g_o : n0 ≤ o) (E : Exa Z h0 o "com/example/shiftwise/shiftwise/search/FactorSkip") (F_pattern : Fld Z h0 o "com/example/shiftwise/shiftwise/search/FactorSkip" "pattern" "[I" .null) (F_width : Fld Z h0 o "com/example/shiftwise/shiftwise/search/FactorSkip" "width" "I" (.int (0 : Int32))) (F_gram : Fld Z h0 o "com/example/shiftwise/shiftwise/search/FactorSkip" "gram" "I" (.int (0 : Int32))) (F_stride : Fld Z h0 o "com/example/shiftwise/shiftwise/search/FactorSkip" "stride" "I" (.int (0 : Int32))) (F_gramBytes : Fld Z h0 o "com/example/shiftwise/shiftwise/search/FactorSkip" "gramBytes" "J" (.long (0 : Int64))) (F_positions : Fld Z h0 o "com/example/shiftwise/shiftwise/search/FactorSkip" "positions" "[[J" .null) (F_factorGrams : Fld Z h0 o "com/example/shiftwise/shiftwise/search/FactorSkip" "factorGrams" "[B" .null) (Vp : Arv Z h0 pa kp .int ln pl (.int (0 : Int32))) (hpat : own_pat pl va vb) (hln : 5 ≤ ln.toInt ∧ ln.toInt ≤ 132) (hva : 0 ≤ va.toInt ∧ va.toInt < 65536) (hvb : 0 ≤ vb.toInt ∧ vb.toInt < 65536) (Sa : Sta Z h0 "com/example/shiftwise/shiftwise/search/FactorSkip" "ABSENT" "[J" (.ref ab)) (Ea : Exa Z h0 ab "[J") :
    MetFree l (⟨"com/example/shiftwise/shiftwise/search/FactorSkip", "<init>", "([II)V"⟩ : MethodName) (head1 (Jvm.Cond.code (⟨"com/example/shiftwise/shiftwise/search/FactorSkip", "<init>", "([II)V"⟩ : MethodName) prog_35_method_1_code 3 none :: ws) own_RIN256) (fun aa__ U => aa__ = #[(.ref o), (.ref pa), (.int (65536 : Int32))] ∧ Z.Warmed39 U.vm ∧ U.heap = h0) (fun _ _ _ _ _ => True) (fun _ U oc_ U' => ∃ rv__ rL__, oc_ = .returned rv__ ∧ own_QIN256 Z o pa kp ln pl va vb ab h0 n0 rv__ U'.heap rL__ ∧ FrameEnd U oc_ U' rL__ own_RIN256.cells own_RIN256.slots) := by
  refine MetFree.of_bodySF (plainFor_of_name own_pn_com_example_shiftwise_shiftwise_search_FactorSkip) hisR ?_
  intro p e s m args below meth c s₁ Bd hml0 hP hK
  obtain ⟨rfl, hZ, hh⟩ := hP
  have hx := Bd.exec
  have hby := Bd.bytes
  have hml : c.maxLocals = 3 := hml0
  have hown : s.vm.findClass "com/example/shiftwise/shiftwise/search/FactorSkip" = some m.cls := findClass_of_methodNamed Bd.named
  have hnm := (name_of_methodNamed Bd.named Bd.method).1
  have X0 : Stand p l e own_RIN256 s m #[(.ref o), (.ref pa), (.int (65536 : Int32))] below meth c s₁ [] 0 0 := Stand.of_body Bd
  have e0 : s₁.heap = h0 := by rw [← hh, Bd.state]; rfl
  have N0 := Fr.nil n0
  refine own_in (fun _ k => castTop (own_efIN256 m o pa) k) ?_
  intro RR hRR
  have neop : o ≠ pa := Exa.neArv E Vp (hw _ (List.mem_of_getElem? (i := 3) rfl))
  show own_Go p.tables e below RR (s₁.setTop (mkF m 0 #[.val (.ref o), .val (.ref pa), .val (.int (65536 : Int32))] []))
  refine own_st (fun _ k => XS.aloadN X0.here hx rfl (hb hby own_dprog_35_method_1_code_0) rfl rfl k) ?_
  show own_Go p.tables e below RR (s₁.setTop (mkF m 1 #[.val (.ref o), .val (.ref pa), .val (.int (65536 : Int32))] [(.ref o)]))
  obtain ⟨T1, X1, e1, st1⟩ := initO X0 hx hZ hown (hw _ (List.mem_of_getElem? (i := 8) rfl)) (hw _ (List.mem_of_getElem? (i := 9) rfl)) (hw _ (List.mem_of_getElem? (i := 10) rfl)) e0 (g := (mkF m 1 #[.val (.ref o), .val (.ref pa), .val (.int (65536 : Int32))] [(.ref o)])) rfl (by rw [hml]; rfl) rfl (hb hby own_dprog_35_method_1_code_1) (by decide) (W := 0) (by show 2 * 0 + _ ≤ _; exact Nat.le_of_eq rfl) (by decide)
  refine own_st st1 ?_
  show own_Go p.tables e below RR (T1.setTop (mkF m 4 #[.val (.ref o), .val (.ref pa), .val (.int (65536 : Int32))] []))
  refine own_st (fun _ k => XS.aloadN X1.here hx rfl (hb hby own_dprog_35_method_1_code_4) rfl rfl (XS.aloadN X1.here hx rfl (hb hby own_dprog_35_method_1_code_5) rfl rfl k)) ?_
  show own_Go p.tables e below RR (T1.setTop (mkF m 6 #[.val (.ref o), .val (.ref pa), .val (.int (65536 : Int32))] [(.ref pa), (.ref o)]))
  obtain ⟨T2, h2, X2, e2, W2, st2⟩ := putF X1 hx hZ hown (host := "") (Or.inl (hw _ (List.mem_of_getElem? (i := 11) rfl))) Via.refl e1 F_pattern E (Or.inr ⟨(hw _ (List.mem_of_getElem? (i := 12) rfl)), rfl, hnm⟩) (hw _ (List.mem_of_getElem? (i := 3) rfl)) (ty := (.array .int)) (by decide) rfl rfl (g := (mkF m 6 #[.val (.ref o), .val (.ref pa), .val (.int (65536 : Int32))] [(.ref pa), (.ref o)])) rfl rfl (hb hby own_dprog_35_method_1_code_6)
  have Fw2 := F_pattern.same W2
  have N2 := Fr.snoc X2 N0 g_o
  refine own_st st2 ?_
  have z3 : n0 ≤ h2.size := Nat.le_trans Z0 (Keep.of_wr W2).1
  have kk4 : Keep h0 h2 [o] := (Keep.refl h0 [o]).wr W2 (Or.inl (List.mem_of_getElem? (i := 0) rfl))
  show own_Go p.tables e below RR (T2.setTop (mkF m 9 #[.val (.ref o), .val (.ref pa), .val (.int (65536 : Int32))] []))
  refine own_st (fun _ k => XS.aloadN X2.here hx rfl (hb hby own_dprog_35_method_1_code_9) rfl rfl (XS.aloadN X2.here hx rfl (hb hby own_dprog_35_method_1_code_10) rfl rfl k)) ?_
  show own_Go p.tables e below RR (T2.setTop (mkF m 11 #[.val (.ref o), .val (.ref pa), .val (.int (65536 : Int32))] [(.ref pa), (.ref o)]))
  have f5 := (Vp.other W2 (Ne.symm neop))
  obtain ⟨c6, A6, -, s6, m6, -, -⟩ := id f5
  refine own_st (fun _ k => own_len X2 hx hZ e2 A6 s6 m6 (g := (mkF m 11 #[.val (.ref o), .val (.ref pa), .val (.int (65536 : Int32))] [(.ref pa), (.ref o)])) rfl rfl (hb hby own_dprog_35_method_1_code_11) (XS.bipush X2.here hx rfl (hb hby own_dprog_35_method_1_code_12) k)) ?_
  show own_Go p.tables e below RR (T2.setTop (mkF m 14 #[.val (.ref o), .val (.ref pa), .val (.int (65536 : Int32))] [(.int (64 : Int32)), (.int ln), (.ref o)]))
  obtain ⟨_, _, ⟨T7, L7, k7, n7⟩, -, X7, ⟨Lc7, hQ7, l7, y7, z7⟩, st7⟩ := Jvm.LawKit.callS X2 hx (y := (⟨"java/lang/Math", "min", "(II)I"⟩ : MethodName)) hown (mvT hZ (hw _ (List.mem_of_getElem? (i := 13) rfl))) (mvT hZ (hw _ (List.mem_of_getElem? (i := 14) rfl))) (mvT hZ (hw _ (List.mem_of_getElem? (i := 15) rfl))) (mvT hZ (hw _ (List.mem_of_getElem? (i := 16) rfl))) (by decide) (backOf (W := 1) (own_rmMN l Z a0 hw [] ln (64 : Int32) h2 n0 z3 ) hZ (hw _ (List.mem_of_getElem? (i := 16) rfl)) (hw _ (List.mem_of_getElem? (i := 15) rfl)) (by decide) (by decide)) (g := (mkF m 14 #[.val (.ref o), .val (.ref pa), .val (.int (65536 : Int32))] [(.int (64 : Int32)), (.int ln), (.ref o)])) rfl (by rw [hml]; rfl) (argsL := [(.int ln), (.int (64 : Int32))]) (rest := [(.ref o)]) (lenOf own_pd__II_I rfl) rfl (by show 2 * 0 + _ ≤ _; exact Nat.le_of_eq rfl) (hb hby own_dprog_35_method_1_code_14) (fun _ _ => ⟨rfl, e2, (by decide : 0 + 0 ≤ _), (by decide : 0 + 0 ≤ _)⟩)
  dsimp only [Pt.U, Pt.locs, Pt.cells, Pt.slots] at X7 l7 y7 z7 st7 hQ7
  subst l7 y7 z7
  obtain ⟨rfl, Nq7, eq7⟩ := hQ7
  have N7 := Fr.app N2 Nq7
  refine own_st st7 ?_
  show own_Go p.tables e below RR (T7.setTop (mkF m 17 #[.val (.ref o), .val (.ref pa), .val (.int (65536 : Int32))] [(.int (own_mn ln (64 : Int32))), (.ref o)]))
  have f8 := (F_width.other W2 (Or.inr (slot_ne (Or.inr (hw _ (List.mem_of_getElem? (i := 18) rfl))) (Or.inr (hw _ (List.mem_of_getElem? (i := 12) rfl))) (by decide) (t := .int) (t' := (.array .int)) (by decide) (by decide))))
  have f9 := (E.wr W2)
  obtain ⟨T10, h10, X10, e10, W10, st10⟩ := putF X7 hx hZ hown (host := "") (Or.inl (hw _ (List.mem_of_getElem? (i := 17) rfl))) Via.refl eq7 f8 f9 (Or.inr ⟨(hw _ (List.mem_of_getElem? (i := 18) rfl)), rfl, hnm⟩) (hw _ (List.mem_of_getElem? (i := 3) rfl)) (ty := .int) (by decide) rfl rfl (g := (mkF m 17 #[.val (.ref o), .val (.ref pa), .val (.int (65536 : Int32))] [(.int (own_mn ln (64 : Int32))), (.ref o)])) rfl rfl (hb hby own_dprog_35_method_1_code_17)
  have Fw10 := f8.same W10
  have N10 := Fr.snoc X10 N7 g_o
  refine own_st st10 ?_
  have z11 : n0 ≤ h10.size := Nat.le_trans z3 (Keep.of_wr W10).1
  have kk12 : Keep h0 h10 [o] := kk4.wr W10 (Or.inl (List.mem_of_getElem? (i := 0) rfl))
  show own_Go p.tables e below RR (T10.setTop (mkF m 20 #[.val (.ref o), .val (.ref pa), .val (.int (65536 : Int32))] []))
  refine own_st (fun _ k => XS.aloadN X10.here hx rfl (hb hby own_dprog_35_method_1_code_20) rfl rfl (XS.aloadN X10.here hx rfl (hb hby own_dprog_35_method_1_code_21) rfl rfl k)) ?_
  show own_Go p.tables e below RR (T10.setTop (mkF m 22 #[.val (.ref o), .val (.ref pa), .val (.int (65536 : Int32))] [(.ref o), (.ref o)]))
  obtain ⟨T13, X13, e13, st13⟩ := getF X10 hx hZ hown (host := "") (Or.inl (hw _ (List.mem_of_getElem? (i := 17) rfl))) Via.refl e10 Fw10 (g := (mkF m 22 #[.val (.ref o), .val (.ref pa), .val (.int (65536 : Int32))] [(.ref o), (.ref o)])) rfl rfl (hb hby own_dprog_35_method_1_code_22)
  refine own_st st13 ?_
  show own_Go p.tables e below RR (T13.setTop (mkF m 25 #[.val (.ref o), .val (.ref pa), .val (.int (65536 : Int32))] [(.int (own_mn ln (64 : Int32))), (.ref o)]))
  obtain ⟨_, _, ⟨T14, L14, k14, n14⟩, -, X14, ⟨Lc14, hQ14, l14, y14, z14⟩, st14⟩ := Jvm.LawKit.callS X13 hx (y := (⟨"com/example/shiftwise/shiftwise/search/FactorSkip", "gramLength", "(I)I"⟩ : MethodName)) hown (mvT hZ (hw _ (List.mem_of_getElem? (i := 19) rfl))) (mvT hZ (hw _ (List.mem_of_getElem? (i := 20) rfl))) (mvT hZ (hw _ (List.mem_of_getElem? (i := 4) rfl))) (mvT hZ (hw _ (List.mem_of_getElem? (i := 21) rfl))) (by decide) (backOf (W := 1) (own_rmGL l Z a0 hw [] (own_mn ln (64 : Int32)) h10 n0 z11 ) hZ (hw _ (List.mem_of_getElem? (i := 21) rfl)) (hw _ (List.mem_of_getElem? (i := 4) rfl)) (by decide) (by decide)) (g := (mkF m 25 #[.val (.ref o), .val (.ref pa), .val (.int (65536 : Int32))] [(.int (own_mn ln (64 : Int32))), (.ref o)])) rfl (by rw [hml]; rfl) (argsL := [(.int (own_mn ln (64 : Int32)))]) (rest := [(.ref o)]) (lenOf own_pd__I_I rfl) rfl (by show 2 * 0 + _ ≤ _; exact Nat.le_of_eq rfl) (hb hby own_dprog_35_method_1_code_25) (fun _ _ => ⟨rfl, e13, (by decide : 0 + 0 ≤ _), (by decide : 0 + 0 ≤ _)⟩)
  dsimp only [Pt.U, Pt.locs, Pt.cells, Pt.slots] at X14 l14 y14 z14 st14 hQ14
  subst l14 y14 z14
  obtain ⟨rfl, Nq14, eq14⟩ := hQ14
  have N14 := Fr.app N10 Nq14
  refine own_st st14 ?_
  show own_Go p.tables e below RR (T14.setTop (mkF m 28 #[.val (.ref o), .val (.ref pa), .val (.int (65536 : Int32))] [(.int (own_gm (own_mn ln (64 : Int32)))), (.ref o)]))
  have f15 := ((F_gram.other W2 (Or.inr (slot_ne (Or.inr (hw _ (List.mem_of_getElem? (i := 26) rfl))) (Or.inr (hw _ (List.mem_of_getElem? (i := 12) rfl))) (by decide) (t := .int) (t' := (.array .int)) (by decide) (by decide)))).other W10 (Or.inr (slot_ne (Or.inr (hw _ (List.mem_of_getElem? (i := 26) rfl))) (Or.inr (hw _ (List.mem_of_getElem? (i := 18) rfl))) (by decide) (t := .int) (t' := .int) (by decide) (by decide))))
  have f16 := (f9.wr W10)
  obtain ⟨T17, h17, X17, e17, W17, st17⟩ := putF X14 hx hZ hown (host := "") (Or.inl (hw _ (List.mem_of_getElem? (i := 25) rfl))) Via.refl eq14 f15 f16 (Or.inr ⟨(hw _ (List.mem_of_getElem? (i := 26) rfl)), rfl, hnm⟩) (hw _ (List.mem_of_getElem? (i := 3) rfl)) (ty := .int) (by decide) rfl rfl (g := (mkF m 28 #[.val (.ref o), .val (.ref pa), .val (.int (65536 : Int32))] [(.int (own_gm (own_mn ln (64 : Int32)))), (.ref o)])) rfl rfl (hb hby own_dprog_35_method_1_code_28)
  have Fw17 := f15.same W17
  have N17 := Fr.snoc X17 N14 g_o
  refine own_st st17 ?_
  have z18 : n0 ≤ h17.size := Nat.le_trans z11 (Keep.of_wr W17).1
  have kk19 : Keep h0 h17 [o] := kk12.wr W17 (Or.inl (List.mem_of_getElem? (i := 0) rfl))
  show own_Go p.tables e below RR (T17.setTop (mkF m 31 #[.val (.ref o), .val (.ref pa), .val (.int (65536 : Int32))] []))
  refine own_st (fun _ k => XS.aloadN X17.here hx rfl (hb hby own_dprog_35_method_1_code_31) rfl rfl (XS.aloadN X17.here hx rfl (hb hby own_dprog_35_method_1_code_32) rfl rfl k)) ?_
  show own_Go p.tables e below RR (T17.setTop (mkF m 33 #[.val (.ref o), .val (.ref pa), .val (.int (65536 : Int32))] [(.ref o), (.ref o)]))
  have f20 := (Fw10.other W17 (Or.inr (slot_ne (Or.inr (hw _ (List.mem_of_getElem? (i := 18) rfl))) (Or.inr (hw _ (List.mem_of_getElem? (i := 26) rfl))) (by decide) (t := .int) (t' := .int) (by decide) (by decide))))
  obtain ⟨T21, X21, e21, st21⟩ := getF X17 hx hZ hown (host := "") (Or.inl (hw _ (List.mem_of_getElem? (i := 17) rfl))) Via.refl e17 f20 (g := (mkF m 33 #[.val (.ref o), .val (.ref pa), .val (.int (65536 : Int32))] [(.ref o), (.ref o)])) rfl rfl (hb hby own_dprog_35_method_1_code_33)
  refine own_st st21 ?_
  show own_Go p.tables e below RR (T21.setTop (mkF m 36 #[.val (.ref o), .val (.ref pa), .val (.int (65536 : Int32))] [(.int (own_mn ln (64 : Int32))), (.ref o)]))
  refine own_st (fun _ k => XS.aloadN X21.here hx rfl (hb hby own_dprog_35_method_1_code_36) rfl rfl k) ?_
  show own_Go p.tables e below RR (T21.setTop (mkF m 37 #[.val (.ref o), .val (.ref pa), .val (.int (65536 : Int32))] [(.ref o), (.int (own_mn ln (64 : Int32))), (.ref o)]))
  obtain ⟨T22, X22, e22, st22⟩ := getF X21 hx hZ hown (host := "") (Or.inl (hw _ (List.mem_of_getElem? (i := 25) rfl))) Via.refl e21 Fw17 (g := (mkF m 37 #[.val (.ref o), .val (.ref pa), .val (.int (65536 : Int32))] [(.ref o), (.int (own_mn ln (64 : Int32))), (.ref o)])) rfl rfl (hb hby own_dprog_35_method_1_code_37)
  refine own_st st22 ?_
  show own_Go p.tables e below RR (T22.setTop (mkF m 40 #[.val (.ref o), .val (.ref pa), .val (.int (65536 : Int32))] [(.int (own_gm (own_mn ln (64 : Int32)))), (.int (own_mn ln (64 : Int32))), (.ref o)]))
  refine own_st (fun _ k => XS.isub X22.here hx rfl (hb hby own_dprog_35_method_1_code_40) rfl (XS.iconst X22.here hx rfl (hb hby own_dprog_35_method_1_code_41) (XS.iadd X22.here hx rfl (hb hby own_dprog_35_method_1_code_42) rfl k))) ?_
  show own_Go p.tables e below RR (T22.setTop (mkF m 43 #[.val (.ref o), .val (.ref pa), .val (.int (65536 : Int32))] [(.int (((own_mn ln (64 : Int32)) - (own_gm (own_mn ln (64 : Int32)))) + (1 : Int32))), (.ref o)]))
  have f23 := (((F_stride.other W2 (Or.inr (slot_ne (Or.inr (hw _ (List.mem_of_getElem? (i := 28) rfl))) (Or.inr (hw _ (List.mem_of_getElem? (i := 12) rfl))) (by decide) (t := .int) (t' := (.array .int)) (by decide) (by decide)))).other W10 (Or.inr (slot_ne (Or.inr (hw _ (List.mem_of_getElem? (i := 28) rfl))) (Or.inr (hw _ (List.mem_of_getElem? (i := 18) rfl))) (by decide) (t := .int) (t' := .int) (by decide) (by decide)))).other W17 (Or.inr (slot_ne (Or.inr (hw _ (List.mem_of_getElem? (i := 28) rfl))) (Or.inr (hw _ (List.mem_of_getElem? (i := 26) rfl))) (by decide) (t := .int) (t' := .int) (by decide) (by decide))))
  have f24 := (f16.wr W17)
  obtain ⟨T25, h25, X25, e25, W25, st25⟩ := putF X22 hx hZ hown (host := "") (Or.inl (hw _ (List.mem_of_getElem? (i := 27) rfl))) Via.refl e22 f23 f24 (Or.inr ⟨(hw _ (List.mem_of_getElem? (i := 28) rfl)), rfl, hnm⟩) (hw _ (List.mem_of_getElem? (i := 3) rfl)) (ty := .int) (by decide) rfl rfl (g := (mkF m 43 #[.val (.ref o), .val (.ref pa), .val (.int (65536 : Int32))] [(.int (((own_mn ln (64 : Int32)) - (own_gm (own_mn ln (64 : Int32)))) + (1 : Int32))), (.ref o)])) rfl rfl (hb hby own_dprog_35_method_1_code_43)
  have Fw25 := f23.same W25
  have N25 := Fr.snoc X25 N17 g_o
  refine own_st st25 ?_
  have z26 : n0 ≤ h25.size := Nat.le_trans z18 (Keep.of_wr W25).1
  have kk27 : Keep h0 h25 [o] := kk19.wr W25 (Or.inl (List.mem_of_getElem? (i := 0) rfl))
  show own_Go p.tables e below RR (T25.setTop (mkF m 46 #[.val (.ref o), .val (.ref pa), .val (.int (65536 : Int32))] []))
  refine own_st (fun _ k => XS.aloadN X25.here hx rfl (hb hby own_dprog_35_method_1_code_46) rfl rfl (X25.ldc2Long hx hown (mvT hZ (hw _ (List.mem_of_getElem? (i := 29) rfl))) (g := (mkF m 47 #[.val (.ref o), .val (.ref pa), .val (.int (65536 : Int32))] [(.ref o)])) rfl (hb hby own_dprog_35_method_1_code_47) _ (XS.bipush X25.here hx rfl (hb hby own_dprog_35_method_1_code_50) (XS.bipush X25.here hx rfl (hb hby own_dprog_35_method_1_code_52) (XS.aloadN X25.here hx rfl (hb hby own_dprog_35_method_1_code_54) rfl rfl k))))) ?_
  show own_Go p.tables e below RR (T25.setTop (mkF m 55 #[.val (.ref o), .val (.ref pa), .val (.int (65536 : Int32))] [(.ref o), (.int (8 : Int32)), (.int (64 : Int32)), (.long (-1 : Int64)), (.ref o)]))
  have f28 := (Fw17.other W25 (Or.inr (slot_ne (Or.inr (hw _ (List.mem_of_getElem? (i := 26) rfl))) (Or.inr (hw _ (List.mem_of_getElem? (i := 28) rfl))) (by decide) (t := .int) (t' := .int) (by decide) (by decide))))
  obtain ⟨T29, X29, e29, st29⟩ := getF X25 hx hZ hown (host := "") (Or.inl (hw _ (List.mem_of_getElem? (i := 25) rfl))) Via.refl e25 f28 (g := (mkF m 55 #[.val (.ref o), .val (.ref pa), .val (.int (65536 : Int32))] [(.ref o), (.int (8 : Int32)), (.int (64 : Int32)), (.long (-1 : Int64)), (.ref o)])) rfl rfl (hb hby own_dprog_35_method_1_code_55)
  refine own_st st29 ?_
  show own_Go p.tables e below RR (T29.setTop (mkF m 58 #[.val (.ref o), .val (.ref pa), .val (.int (65536 : Int32))] [(.int (own_gm (own_mn ln (64 : Int32)))), (.int (8 : Int32)), (.int (64 : Int32)), (.long (-1 : Int64)), (.ref o)]))
  refine own_st (fun _ k => XS.imul X29.here hx rfl (hb hby own_dprog_35_method_1_code_58) rfl (XS.isub X29.here hx rfl (hb hby own_dprog_35_method_1_code_59) rfl (XS.lshl X29.here hx rfl (hb hby own_dprog_35_method_1_code_60) rfl k))) ?_
  show own_Go p.tables e below RR (T29.setTop (mkF m 61 #[.val (.ref o), .val (.ref pa), .val (.int (65536 : Int32))] [(.long ((-1 : Int64) <<< (((64 : Int32) - ((8 : Int32) * (own_gm (own_mn ln (64 : Int32))))) &&& 0x3f).toInt64)), (.ref o)]))
  have f30 := ((((F_gramBytes.other W2 (Or.inr (slot_ne (Or.inr (hw _ (List.mem_of_getElem? (i := 31) rfl))) (Or.inr (hw _ (List.mem_of_getElem? (i := 12) rfl))) (by decide) (t := .long) (t' := (.array .int)) (by decide) (by decide)))).other W10 (Or.inr (slot_ne (Or.inr (hw _ (List.mem_of_getElem? (i := 31) rfl))) (Or.inr (hw _ (List.mem_of_getElem? (i := 18) rfl))) (by decide) (t := .long) (t' := .int) (by decide) (by decide)))).other W17 (Or.inr (slot_ne (Or.inr (hw _ (List.mem_of_getElem? (i := 31) rfl))) (Or.inr (hw _ (List.mem_of_getElem? (i := 26) rfl))) (by decide) (t := .long) (t' := .int) (by decide) (by decide)))).other W25 (Or.inr (slot_ne (Or.inr (hw _ (List.mem_of_getElem? (i := 31) rfl))) (Or.inr (hw _ (List.mem_of_getElem? (i := 28) rfl))) (by decide) (t := .long) (t' := .int) (by decide) (by decide))))
  have f31 := (f24.wr W25)
  obtain ⟨T32, h32, X32, e32, W32, st32⟩ := putF X29 hx hZ hown (host := "") (Or.inl (hw _ (List.mem_of_getElem? (i := 30) rfl))) Via.refl e29 f30 f31 (Or.inr ⟨(hw _ (List.mem_of_getElem? (i := 31) rfl)), rfl, hnm⟩) (hw _ (List.mem_of_getElem? (i := 3) rfl)) (ty := .long) (by decide) rfl rfl (g := (mkF m 61 #[.val (.ref o), .val (.ref pa), .val (.int (65536 : Int32))] [(.long ((-1 : Int64) <<< (((64 : Int32) - ((8 : Int32) * (own_gm (own_mn ln (64 : Int32))))) &&& 0x3f).toInt64)), (.ref o)])) rfl rfl (hb hby own_dprog_35_method_1_code_61)
  have Fw32 := f30.same W32
  have N32 := Fr.snoc X32 N25 g_o
  refine own_st st32 ?_
  have z33 : n0 ≤ h32.size := Nat.le_trans z26 (Keep.of_wr W32).1
  have kk34 : Keep h0 h32 [o] := kk27.wr W32 (Or.inl (List.mem_of_getElem? (i := 0) rfl))
  show own_Go p.tables e below RR (T32.setTop (mkF m 64 #[.val (.ref o), .val (.ref pa), .val (.int (65536 : Int32))] []))
  refine own_st (fun _ k => XS.aloadN X32.here hx rfl (hb hby own_dprog_35_method_1_code_64) rfl rfl (XS.aloadN X32.here hx rfl (hb hby own_dprog_35_method_1_code_65) rfl rfl (XS.aloadN X32.here hx rfl (hb hby own_dprog_35_method_1_code_66) rfl rfl k))) ?_
  show own_Go p.tables e below RR (T32.setTop (mkF m 67 #[.val (.ref o), .val (.ref pa), .val (.int (65536 : Int32))] [(.ref o), (.ref pa), (.ref o)]))
  have f35 := ((f20.other W25 (Or.inr (slot_ne (Or.inr (hw _ (List.mem_of_getElem? (i := 18) rfl))) (Or.inr (hw _ (List.mem_of_getElem? (i := 28) rfl))) (by decide) (t := .int) (t' := .int) (by decide) (by decide)))).other W32 (Or.inr (slot_ne (Or.inr (hw _ (List.mem_of_getElem? (i := 18) rfl))) (Or.inr (hw _ (List.mem_of_getElem? (i := 31) rfl))) (by decide) (t := .int) (t' := .long) (by decide) (by decide))))
  obtain ⟨T36, X36, e36, st36⟩ := getF X32 hx hZ hown (host := "") (Or.inl (hw _ (List.mem_of_getElem? (i := 17) rfl))) Via.refl e32 f35 (g := (mkF m 67 #[.val (.ref o), .val (.ref pa), .val (.int (65536 : Int32))] [(.ref o), (.ref pa), (.ref o)])) rfl rfl (hb hby own_dprog_35_method_1_code_67)
  refine own_st st36 ?_
  show own_Go p.tables e below RR (T36.setTop (mkF m 70 #[.val (.ref o), .val (.ref pa), .val (.int (65536 : Int32))] [(.int (own_mn ln (64 : Int32))), (.ref pa), (.ref o)]))
  refine own_st (fun _ k => XS.iloadN X36.here hx rfl (hb hby own_dprog_35_method_1_code_70) rfl k) ?_
  show own_Go p.tables e below RR (T36.setTop (mkF m 71 #[.val (.ref o), .val (.ref pa), .val (.int (65536 : Int32))] [(.int (65536 : Int32)), (.int (own_mn ln (64 : Int32))), (.ref pa), (.ref o)]))
  have f37 := ((((f5.other W10 (Ne.symm neop)).other W17 (Ne.symm neop)).other W25 (Ne.symm neop)).other W32 (Ne.symm neop))
  have f38 := (((((Sa.wr W2).wr W10).wr W17).wr W25).wr W32)
  have f39 := (((((Ea.wr W2).wr W10).wr W17).wr W25).wr W32)
  obtain ⟨_, _, ⟨T40, L40, k40, n40⟩, -, X40, ⟨Lc40, hQ40, l40, y40, z40⟩, st40⟩ := Jvm.LawKit.callS X36 hx (y := (⟨"com/example/shiftwise/shiftwise/search/FactorSkip", "positions", "([III)[[J"⟩ : MethodName)) hown (mvT hZ (hw _ (List.mem_of_getElem? (i := 32) rfl))) (mvT hZ (hw _ (List.mem_of_getElem? (i := 33) rfl))) (mvT hZ (hw _ (List.mem_of_getElem? (i := 4) rfl))) (mvT hZ (hw _ (List.mem_of_getElem? (i := 34) rfl))) (by decide) (backOf (W := 1) (own_rmPO256 l Z a0 hw [] pa kp ln pl va vb (own_mn ln (64 : Int32)) ab h32 n0 z33 f37 hpat hln (own_wd hln).2 hva hvb f38 f39) hZ (hw _ (List.mem_of_getElem? (i := 34) rfl)) (hw _ (List.mem_of_getElem? (i := 4) rfl)) (by decide) (by decide)) (g := (mkF m 71 #[.val (.ref o), .val (.ref pa), .val (.int (65536 : Int32))] [(.int (65536 : Int32)), (.int (own_mn ln (64 : Int32))), (.ref pa), (.ref o)])) rfl (by rw [hml]; rfl) (argsL := [(.ref pa), (.int (own_mn ln (64 : Int32))), (.int (65536 : Int32))]) (rest := [(.ref o)]) (lenOf own_pd___III___J rfl) rfl (by show 2 * 0 + _ ≤ _; exact Nat.le_of_eq rfl) (hb hby own_dprog_35_method_1_code_71) (fun _ _ => ⟨rfl, e36, (by decide : 0 + 4 ≤ _), (by decide : 0 + 1024 ≤ _)⟩)
  dsimp only [Pt.U, Pt.locs, Pt.cells, Pt.slots] at X40 l40 y40 z40 st40 hQ40
  subst l40 y40 z40
  obtain ⟨rx40, rfl, Nq40, Kq40⟩ := hQ40
  have N40 := Fr.app N32 Nq40
  refine own_st st40 ?_
  have z41 : n0 ≤ T40.heap.size := Nat.le_trans z33 Kq40.1
  have kk42 : Keep h0 T40.heap [o] := kk34.trans Kq40 all0
  show own_Go p.tables e below RR (T40.setTop (mkF m 74 #[.val (.ref o), .val (.ref pa), .val (.int (65536 : Int32))] [(.ref rx40), (.ref o)]))
  have f43 := ((((((F_positions.other W2 (Or.inr (slot_ne (Or.inr (hw _ (List.mem_of_getElem? (i := 46) rfl))) (Or.inr (hw _ (List.mem_of_getElem? (i := 12) rfl))) (by decide) (t := (.array (.array .long))) (t' := (.array .int)) (by decide) (by decide)))).other W10 (Or.inr (slot_ne (Or.inr (hw _ (List.mem_of_getElem? (i := 46) rfl))) (Or.inr (hw _ (List.mem_of_getElem? (i := 18) rfl))) (by decide) (t := (.array (.array .long))) (t' := .int) (by decide) (by decide)))).other W17 (Or.inr (slot_ne (Or.inr (hw _ (List.mem_of_getElem? (i := 46) rfl))) (Or.inr (hw _ (List.mem_of_getElem? (i := 26) rfl))) (by decide) (t := (.array (.array .long))) (t' := .int) (by decide) (by decide)))).other W25 (Or.inr (slot_ne (Or.inr (hw _ (List.mem_of_getElem? (i := 46) rfl))) (Or.inr (hw _ (List.mem_of_getElem? (i := 28) rfl))) (by decide) (t := (.array (.array .long))) (t' := .int) (by decide) (by decide)))).other W32 (Or.inr (slot_ne (Or.inr (hw _ (List.mem_of_getElem? (i := 46) rfl))) (Or.inr (hw _ (List.mem_of_getElem? (i := 31) rfl))) (by decide) (t := (.array (.array .long))) (t' := .long) (by decide) (by decide)))).keep Kq40 nin0)
  have f44 := ((f31.wr W32).keep Kq40)
  obtain ⟨T45, h45, X45, e45, W45, st45⟩ := putF X40 hx hZ hown (host := "") (Or.inl (hw _ (List.mem_of_getElem? (i := 45) rfl))) Via.refl rfl f43 f44 (Or.inr ⟨(hw _ (List.mem_of_getElem? (i := 46) rfl)), rfl, hnm⟩) (hw _ (List.mem_of_getElem? (i := 3) rfl)) (ty := (.array (.array .long))) (by decide) rfl rfl (g := (mkF m 74 #[.val (.ref o), .val (.ref pa), .val (.int (65536 : Int32))] [(.ref rx40), (.ref o)])) rfl rfl (hb hby own_dprog_35_method_1_code_74)
  have Fw45 := f43.same W45
  have N45 := Fr.snoc X45 N40 g_o
  refine own_st st45 ?_
  have z46 : n0 ≤ h45.size := Nat.le_trans z41 (Keep.of_wr W45).1
  have kk47 : Keep h0 h45 [o] := kk42.wr W45 (Or.inl (List.mem_of_getElem? (i := 0) rfl))
  show own_Go p.tables e below RR (T45.setTop (mkF m 77 #[.val (.ref o), .val (.ref pa), .val (.int (65536 : Int32))] []))
  refine own_st (fun _ k => XS.aloadN X45.here hx rfl (hb hby own_dprog_35_method_1_code_77) rfl rfl (XS.aloadN X45.here hx rfl (hb hby own_dprog_35_method_1_code_78) rfl rfl (XS.aloadN X45.here hx rfl (hb hby own_dprog_35_method_1_code_79) rfl rfl k))) ?_
  show own_Go p.tables e below RR (T45.setTop (mkF m 80 #[.val (.ref o), .val (.ref pa), .val (.int (65536 : Int32))] [(.ref o), (.ref pa), (.ref o)]))
  have f48 := ((f35.keep Kq40 nin0).other W45 (Or.inr (slot_ne (Or.inr (hw _ (List.mem_of_getElem? (i := 18) rfl))) (Or.inr (hw _ (List.mem_of_getElem? (i := 46) rfl))) (by decide) (t := .int) (t' := (.array (.array .long))) (by decide) (by decide))))
  obtain ⟨T49, X49, e49, st49⟩ := getF X45 hx hZ hown (host := "") (Or.inl (hw _ (List.mem_of_getElem? (i := 17) rfl))) Via.refl e45 f48 (g := (mkF m 80 #[.val (.ref o), .val (.ref pa), .val (.int (65536 : Int32))] [(.ref o), (.ref pa), (.ref o)])) rfl rfl (hb hby own_dprog_35_method_1_code_80)
  refine own_st st49 ?_
  show own_Go p.tables e below RR (T49.setTop (mkF m 83 #[.val (.ref o), .val (.ref pa), .val (.int (65536 : Int32))] [(.int (own_mn ln (64 : Int32))), (.ref pa), (.ref o)]))
  refine own_st (fun _ k => XS.aloadN X49.here hx rfl (hb hby own_dprog_35_method_1_code_83) rfl rfl k) ?_
  show own_Go p.tables e below RR (T49.setTop (mkF m 84 #[.val (.ref o), .val (.ref pa), .val (.int (65536 : Int32))] [(.ref o), (.int (own_mn ln (64 : Int32))), (.ref pa), (.ref o)]))
  have f50 := (((f28.other W32 (Or.inr (slot_ne (Or.inr (hw _ (List.mem_of_getElem? (i := 26) rfl))) (Or.inr (hw _ (List.mem_of_getElem? (i := 31) rfl))) (by decide) (t := .int) (t' := .long) (by decide) (by decide)))).keep Kq40 nin0).other W45 (Or.inr (slot_ne (Or.inr (hw _ (List.mem_of_getElem? (i := 26) rfl))) (Or.inr (hw _ (List.mem_of_getElem? (i := 46) rfl))) (by decide) (t := .int) (t' := (.array (.array .long))) (by decide) (by decide))))
  obtain ⟨T51, X51, e51, st51⟩ := getF X49 hx hZ hown (host := "") (Or.inl (hw _ (List.mem_of_getElem? (i := 25) rfl))) Via.refl e49 f50 (g := (mkF m 84 #[.val (.ref o), .val (.ref pa), .val (.int (65536 : Int32))] [(.ref o), (.int (own_mn ln (64 : Int32))), (.ref pa), (.ref o)])) rfl rfl (hb hby own_dprog_35_method_1_code_84)
  refine own_st st51 ?_
  show own_Go p.tables e below RR (T51.setTop (mkF m 87 #[.val (.ref o), .val (.ref pa), .val (.int (65536 : Int32))] [(.int (own_gm (own_mn ln (64 : Int32)))), (.int (own_mn ln (64 : Int32))), (.ref pa), (.ref o)]))
  have f52 := ((f37.keep Kq40 nin0).other W45 (Ne.symm neop))
  obtain ⟨_, _, ⟨T53, L53, k53, n53⟩, -, X53, ⟨Lc53, hQ53, l53, y53, z53⟩, st53⟩ := Jvm.LawKit.callS X51 hx (y := (⟨"com/example/shiftwise/shiftwise/search/FactorSkip", "factorGrams", "([III)[B"⟩ : MethodName)) hown (mvT hZ (hw _ (List.mem_of_getElem? (i := 47) rfl))) (mvT hZ (hw _ (List.mem_of_getElem? (i := 48) rfl))) (mvT hZ (hw _ (List.mem_of_getElem? (i := 4) rfl))) (mvT hZ (hw _ (List.mem_of_getElem? (i := 49) rfl))) (by decide) (backOf (W := 1) (own_rmFG l Z a0 hw [] pa kp ln pl va vb (own_mn ln (64 : Int32)) (own_gm (own_mn ln (64 : Int32))) h45 n0 z46 f52 hpat hln (own_wd hln).2 (own_gmB ⟨(own_wd hln).2.1, by have := (own_wd hln).1; split at this <;> omega⟩)) hZ (hw _ (List.mem_of_getElem? (i := 49) rfl)) (hw _ (List.mem_of_getElem? (i := 4) rfl)) (by decide) (by decide)) (g := (mkF m 87 #[.val (.ref o), .val (.ref pa), .val (.int (65536 : Int32))] [(.int (own_gm (own_mn ln (64 : Int32)))), (.int (own_mn ln (64 : Int32))), (.ref pa), (.ref o)])) rfl (by rw [hml]; rfl) (argsL := [(.ref pa), (.int (own_mn ln (64 : Int32))), (.int (own_gm (own_mn ln (64 : Int32))))]) (rest := [(.ref o)]) (lenOf own_pd___III__B rfl) rfl (by show 2 * 0 + _ ≤ _; exact Nat.le_of_eq rfl) (hb hby own_dprog_35_method_1_code_87) (fun _ _ => ⟨rfl, e51, (by decide : 4 + 1 ≤ _), (by decide : 1024 + 8192 ≤ _)⟩)
  dsimp only [Pt.U, Pt.locs, Pt.cells, Pt.slots] at X53 l53 y53 z53 st53 hQ53
  subst l53 y53 z53
  obtain ⟨rx53, rfl, Nq53, Kq53⟩ := hQ53
  have N53 := Fr.app N45 Nq53
  refine own_st st53 ?_
  have z54 : n0 ≤ T53.heap.size := Nat.le_trans z46 Kq53.1
  have kk55 : Keep h0 T53.heap [o] := kk47.trans Kq53 all0
  show own_Go p.tables e below RR (T53.setTop (mkF m 90 #[.val (.ref o), .val (.ref pa), .val (.int (65536 : Int32))] [(.ref rx53), (.ref o)]))
  have f56 := ((((((((F_factorGrams.other W2 (Or.inr (slot_ne (Or.inr (hw _ (List.mem_of_getElem? (i := 59) rfl))) (Or.inr (hw _ (List.mem_of_getElem? (i := 12) rfl))) (by decide) (t := (.array .byte)) (t' := (.array .int)) (by decide) (by decide)))).other W10 (Or.inr (slot_ne (Or.inr (hw _ (List.mem_of_getElem? (i := 59) rfl))) (Or.inr (hw _ (List.mem_of_getElem? (i := 18) rfl))) (by decide) (t := (.array .byte)) (t' := .int) (by decide) (by decide)))).other W17 (Or.inr (slot_ne (Or.inr (hw _ (List.mem_of_getElem? (i := 59) rfl))) (Or.inr (hw _ (List.mem_of_getElem? (i := 26) rfl))) (by decide) (t := (.array .byte)) (t' := .int) (by decide) (by decide)))).other W25 (Or.inr (slot_ne (Or.inr (hw _ (List.mem_of_getElem? (i := 59) rfl))) (Or.inr (hw _ (List.mem_of_getElem? (i := 28) rfl))) (by decide) (t := (.array .byte)) (t' := .int) (by decide) (by decide)))).other W32 (Or.inr (slot_ne (Or.inr (hw _ (List.mem_of_getElem? (i := 59) rfl))) (Or.inr (hw _ (List.mem_of_getElem? (i := 31) rfl))) (by decide) (t := (.array .byte)) (t' := .long) (by decide) (by decide)))).keep Kq40 nin0).other W45 (Or.inr (slot_ne (Or.inr (hw _ (List.mem_of_getElem? (i := 59) rfl))) (Or.inr (hw _ (List.mem_of_getElem? (i := 46) rfl))) (by decide) (t := (.array .byte)) (t' := (.array (.array .long))) (by decide) (by decide)))).keep Kq53 nin0)
  have f57 := ((f44.wr W45).keep Kq53)
  obtain ⟨T58, h58, X58, e58, W58, st58⟩ := putF X53 hx hZ hown (host := "") (Or.inl (hw _ (List.mem_of_getElem? (i := 58) rfl))) Via.refl rfl f56 f57 (Or.inr ⟨(hw _ (List.mem_of_getElem? (i := 59) rfl)), rfl, hnm⟩) (hw _ (List.mem_of_getElem? (i := 3) rfl)) (ty := (.array .byte)) (by decide) rfl rfl (g := (mkF m 90 #[.val (.ref o), .val (.ref pa), .val (.int (65536 : Int32))] [(.ref rx53), (.ref o)])) rfl rfl (hb hby own_dprog_35_method_1_code_90)
  have Fw58 := f56.same W58
  have N58 := Fr.snoc X58 N53 g_o
  refine own_st st58 ?_
  have z59 : n0 ≤ h58.size := Nat.le_trans z54 (Keep.of_wr W58).1
  have kk60 : Keep h0 h58 [o] := kk55.wr W58 (Or.inl (List.mem_of_getElem? (i := 0) rfl))
  show own_Go p.tables e below RR (T58.setTop (mkF m 93 #[.val (.ref o), .val (.ref pa), .val (.int (65536 : Int32))] []))
  obtain ⟨fs, hrt_, hrun, hended, hW, hsame⟩ := X58.leave (v := none) (fun _ => rfl)
  refine own_fin (X58.returnOut hx Bd.returns (hb hby own_dprog_35_method_1_code_93) hrt_) (hRR _ ⟨_, hrun, hended, _, _, rfl, ?_, ⟨_, rfl⟩, hW, hsame.mono (by decide) (by decide)⟩)
  show own_QIN256 Z o pa kp ln pl va vb ab h0 n0 _ T58.heap _
  rw [e58]
  have f61 := ((f50.keep Kq53 nin0).other W58 (Or.inr (slot_ne (Or.inr (hw _ (List.mem_of_getElem? (i := 26) rfl))) (Or.inr (hw _ (List.mem_of_getElem? (i := 59) rfl))) (by decide) (t := .int) (t' := (.array .byte)) (by decide) (by decide))))
  have f62 := (((((Fw25.other W32 (Or.inr (slot_ne (Or.inr (hw _ (List.mem_of_getElem? (i := 28) rfl))) (Or.inr (hw _ (List.mem_of_getElem? (i := 31) rfl))) (by decide) (t := .int) (t' := .long) (by decide) (by decide)))).keep Kq40 nin0).other W45 (Or.inr (slot_ne (Or.inr (hw _ (List.mem_of_getElem? (i := 28) rfl))) (Or.inr (hw _ (List.mem_of_getElem? (i := 46) rfl))) (by decide) (t := .int) (t' := (.array (.array .long))) (by decide) (by decide)))).keep Kq53 nin0).other W58 (Or.inr (slot_ne (Or.inr (hw _ (List.mem_of_getElem? (i := 28) rfl))) (Or.inr (hw _ (List.mem_of_getElem? (i := 59) rfl))) (by decide) (t := .int) (t' := (.array .byte)) (by decide) (by decide))))
  have f63 := (f57.wr W58)
  exact ⟨rfl, N58, kk60, f61, f62, f63⟩
theorem own_efIN1 (m : MethodId) (o : Addr) (pa : Addr) : entryFrame m #[(.ref o), (.ref pa), (.int (256 : Int32))] 3 = mkF m 0 #[.val (.ref o), .val (.ref pa), .val (.int (256 : Int32))] [] := by first | (simp [entryFrame, mkF, argsToLocals, Value.category]; done) | rfl
def own_QIN1 (Z : State) (o : Addr) (pa : Addr) (kp : ClassId) (ln : Int32) (pl : List Value) (va : Int32) (vb : Int32) (ab : Addr) (h0 : Heap) (n0 : Nat) (rv__ : Option Value) (h : Heap) (rL__ : List Loc) : Prop := rv__ = none ∧ Fr n0 rL__ ∧ Keep h0 h [o] ∧ Fld Z h o "com/example/shiftwise/shiftwise/search/FactorSkip" "gram" "I" (.int (own_gm (own_mn ln (64 : Int32)))) ∧ Fld Z h o "com/example/shiftwise/shiftwise/search/FactorSkip" "stride" "I" (.int (((own_mn ln (64 : Int32)) - (own_gm (own_mn ln (64 : Int32)))) + (1 : Int32))) ∧ Exa Z h o "com/example/shiftwise/shiftwise/search/FactorSkip"
abbrev own_RIN1 : Room := { frames := 2, cells := 5, slots := 8961, locals := 35 }
set_option maxRecDepth 65536 in
set_option maxHeartbeats 40000000 in
theorem own_rmIN1 (l : Launch) (Z : State) (a0 : Array Value) (hw : ∀ d ∈ tables_1, d.before a0 Z = true) (ws : List Jvm.Cond) (o : Addr) (pa : Addr) (kp : ClassId) (ln : Int32) (pl : List Value) (va : Int32) (vb : Int32) (ab : Addr) (h0 : Heap) (n0 : Nat) (Z0 : n0 ≤ h0.size) (g_o : n0 ≤ o) (E : Exa Z h0 o "com/example/shiftwise/shiftwise/search/FactorSkip") (F_pattern : Fld Z h0 o "com/example/shiftwise/shiftwise/search/FactorSkip" "pattern" "[I" .null) (F_width : Fld Z h0 o "com/example/shiftwise/shiftwise/search/FactorSkip" "width" "I" (.int (0 : Int32))) (F_gram : Fld Z h0 o "com/example/shiftwise/shiftwise/search/FactorSkip" "gram" "I" (.int (0 : Int32))) (F_stride : Fld Z h0 o "com/example/shiftwise/shiftwise/search/FactorSkip" "stride" "I" (.int (0 : Int32))) (F_gramBytes : Fld Z h0 o "com/example/shiftwise/shiftwise/search/FactorSkip" "gramBytes" "J" (.long (0 : Int64))) (F_positions : Fld Z h0 o "com/example/shiftwise/shiftwise/search/FactorSkip" "positions" "[[J" .null) (F_factorGrams : Fld Z h0 o "com/example/shiftwise/shiftwise/search/FactorSkip" "factorGrams" "[B" .null) (Vp : Arv Z h0 pa kp .int ln pl (.int (0 : Int32))) (hpat : own_pat pl va vb) (hln : 5 ≤ ln.toInt ∧ ln.toInt ≤ 132) (hva : 0 ≤ va.toInt ∧ va.toInt < 256) (hvb : 0 ≤ vb.toInt ∧ vb.toInt < 256) (Sa : Sta Z h0 "com/example/shiftwise/shiftwise/search/FactorSkip" "ABSENT" "[J" (.ref ab)) (Ea : Exa Z h0 ab "[J") :
    MetFree l (⟨"com/example/shiftwise/shiftwise/search/FactorSkip", "<init>", "([II)V"⟩ : MethodName) (head1 (Jvm.Cond.code (⟨"com/example/shiftwise/shiftwise/search/FactorSkip", "<init>", "([II)V"⟩ : MethodName) prog_35_method_1_code 3 none :: ws) own_RIN1) (fun aa__ U => aa__ = #[(.ref o), (.ref pa), (.int (256 : Int32))] ∧ Z.Warmed39 U.vm ∧ U.heap = h0) (fun _ _ _ _ _ => True) (fun _ U oc_ U' => ∃ rv__ rL__, oc_ = .returned rv__ ∧ own_QIN1 Z o pa kp ln pl va vb ab h0 n0 rv__ U'.heap rL__ ∧ FrameEnd U oc_ U' rL__ own_RIN1.cells own_RIN1.slots) := by
  refine MetFree.of_bodySF (plainFor_of_name own_pn_com_example_shiftwise_shiftwise_search_FactorSkip) hisR ?_
  intro p e s m args below meth c s₁ Bd hml0 hP hK
  obtain ⟨rfl, hZ, hh⟩ := hP
  have hx := Bd.exec
  have hby := Bd.bytes
  have hml : c.maxLocals = 3 := hml0
  have hown : s.vm.findClass "com/example/shiftwise/shiftwise/search/FactorSkip" = some m.cls := findClass_of_methodNamed Bd.named
  have hnm := (name_of_methodNamed Bd.named Bd.method).1
  have X0 : Stand p l e own_RIN1 s m #[(.ref o), (.ref pa), (.int (256 : Int32))] below meth c s₁ [] 0 0 := Stand.of_body Bd
  have e0 : s₁.heap = h0 := by rw [← hh, Bd.state]; rfl
  have N0 := Fr.nil n0
  refine own_in (fun _ k => castTop (own_efIN1 m o pa) k) ?_
  intro RR hRR
  have neop : o ≠ pa := Exa.neArv E Vp (hw _ (List.mem_of_getElem? (i := 3) rfl))
  show own_Go p.tables e below RR (s₁.setTop (mkF m 0 #[.val (.ref o), .val (.ref pa), .val (.int (256 : Int32))] []))
  refine own_st (fun _ k => XS.aloadN X0.here hx rfl (hb hby own_dprog_35_method_1_code_0) rfl rfl k) ?_
  show own_Go p.tables e below RR (s₁.setTop (mkF m 1 #[.val (.ref o), .val (.ref pa), .val (.int (256 : Int32))] [(.ref o)]))
  obtain ⟨T1, X1, e1, st1⟩ := initO X0 hx hZ hown (hw _ (List.mem_of_getElem? (i := 8) rfl)) (hw _ (List.mem_of_getElem? (i := 9) rfl)) (hw _ (List.mem_of_getElem? (i := 10) rfl)) e0 (g := (mkF m 1 #[.val (.ref o), .val (.ref pa), .val (.int (256 : Int32))] [(.ref o)])) rfl (by rw [hml]; rfl) rfl (hb hby own_dprog_35_method_1_code_1) (by decide) (W := 0) (by show 2 * 0 + _ ≤ _; exact Nat.le_of_eq rfl) (by decide)
  refine own_st st1 ?_
  show own_Go p.tables e below RR (T1.setTop (mkF m 4 #[.val (.ref o), .val (.ref pa), .val (.int (256 : Int32))] []))
  refine own_st (fun _ k => XS.aloadN X1.here hx rfl (hb hby own_dprog_35_method_1_code_4) rfl rfl (XS.aloadN X1.here hx rfl (hb hby own_dprog_35_method_1_code_5) rfl rfl k)) ?_
  show own_Go p.tables e below RR (T1.setTop (mkF m 6 #[.val (.ref o), .val (.ref pa), .val (.int (256 : Int32))] [(.ref pa), (.ref o)]))
  obtain ⟨T2, h2, X2, e2, W2, st2⟩ := putF X1 hx hZ hown (host := "") (Or.inl (hw _ (List.mem_of_getElem? (i := 11) rfl))) Via.refl e1 F_pattern E (Or.inr ⟨(hw _ (List.mem_of_getElem? (i := 12) rfl)), rfl, hnm⟩) (hw _ (List.mem_of_getElem? (i := 3) rfl)) (ty := (.array .int)) (by decide) rfl rfl (g := (mkF m 6 #[.val (.ref o), .val (.ref pa), .val (.int (256 : Int32))] [(.ref pa), (.ref o)])) rfl rfl (hb hby own_dprog_35_method_1_code_6)
  have Fw2 := F_pattern.same W2
  have N2 := Fr.snoc X2 N0 g_o
  refine own_st st2 ?_
  have z3 : n0 ≤ h2.size := Nat.le_trans Z0 (Keep.of_wr W2).1
  have kk4 : Keep h0 h2 [o] := (Keep.refl h0 [o]).wr W2 (Or.inl (List.mem_of_getElem? (i := 0) rfl))
  show own_Go p.tables e below RR (T2.setTop (mkF m 9 #[.val (.ref o), .val (.ref pa), .val (.int (256 : Int32))] []))
  refine own_st (fun _ k => XS.aloadN X2.here hx rfl (hb hby own_dprog_35_method_1_code_9) rfl rfl (XS.aloadN X2.here hx rfl (hb hby own_dprog_35_method_1_code_10) rfl rfl k)) ?_
  show own_Go p.tables e below RR (T2.setTop (mkF m 11 #[.val (.ref o), .val (.ref pa), .val (.int (256 : Int32))] [(.ref pa), (.ref o)]))
  have f5 := (Vp.other W2 (Ne.symm neop))
  obtain ⟨c6, A6, -, s6, m6, -, -⟩ := id f5
  refine own_st (fun _ k => own_len X2 hx hZ e2 A6 s6 m6 (g := (mkF m 11 #[.val (.ref o), .val (.ref pa), .val (.int (256 : Int32))] [(.ref pa), (.ref o)])) rfl rfl (hb hby own_dprog_35_method_1_code_11) (XS.bipush X2.here hx rfl (hb hby own_dprog_35_method_1_code_12) k)) ?_
  show own_Go p.tables e below RR (T2.setTop (mkF m 14 #[.val (.ref o), .val (.ref pa), .val (.int (256 : Int32))] [(.int (64 : Int32)), (.int ln), (.ref o)]))
  obtain ⟨_, _, ⟨T7, L7, k7, n7⟩, -, X7, ⟨Lc7, hQ7, l7, y7, z7⟩, st7⟩ := Jvm.LawKit.callS X2 hx (y := (⟨"java/lang/Math", "min", "(II)I"⟩ : MethodName)) hown (mvT hZ (hw _ (List.mem_of_getElem? (i := 13) rfl))) (mvT hZ (hw _ (List.mem_of_getElem? (i := 14) rfl))) (mvT hZ (hw _ (List.mem_of_getElem? (i := 15) rfl))) (mvT hZ (hw _ (List.mem_of_getElem? (i := 16) rfl))) (by decide) (backOf (W := 1) (own_rmMN l Z a0 hw [] ln (64 : Int32) h2 n0 z3 ) hZ (hw _ (List.mem_of_getElem? (i := 16) rfl)) (hw _ (List.mem_of_getElem? (i := 15) rfl)) (by decide) (by decide)) (g := (mkF m 14 #[.val (.ref o), .val (.ref pa), .val (.int (256 : Int32))] [(.int (64 : Int32)), (.int ln), (.ref o)])) rfl (by rw [hml]; rfl) (argsL := [(.int ln), (.int (64 : Int32))]) (rest := [(.ref o)]) (lenOf own_pd__II_I rfl) rfl (by show 2 * 0 + _ ≤ _; exact Nat.le_of_eq rfl) (hb hby own_dprog_35_method_1_code_14) (fun _ _ => ⟨rfl, e2, (by decide : 0 + 0 ≤ _), (by decide : 0 + 0 ≤ _)⟩)
  dsimp only [Pt.U, Pt.locs, Pt.cells, Pt.slots] at X7 l7 y7 z7 st7 hQ7
  subst l7 y7 z7
  obtain ⟨rfl, Nq7, eq7⟩ := hQ7
  have N7 := Fr.app N2 Nq7
  refine own_st st7 ?_
  show own_Go p.tables e below RR (T7.setTop (mkF m 17 #[.val (.ref o), .val (.ref pa), .val (.int (256 : Int32))] [(.int (own_mn ln (64 : Int32))), (.ref o)]))
  have f8 := (F_width.other W2 (Or.inr (slot_ne (Or.inr (hw _ (List.mem_of_getElem? (i := 18) rfl))) (Or.inr (hw _ (List.mem_of_getElem? (i := 12) rfl))) (by decide) (t := .int) (t' := (.array .int)) (by decide) (by decide))))
  have f9 := (E.wr W2)
  obtain ⟨T10, h10, X10, e10, W10, st10⟩ := putF X7 hx hZ hown (host := "") (Or.inl (hw _ (List.mem_of_getElem? (i := 17) rfl))) Via.refl eq7 f8 f9 (Or.inr ⟨(hw _ (List.mem_of_getElem? (i := 18) rfl)), rfl, hnm⟩) (hw _ (List.mem_of_getElem? (i := 3) rfl)) (ty := .int) (by decide) rfl rfl (g := (mkF m 17 #[.val (.ref o), .val (.ref pa), .val (.int (256 : Int32))] [(.int (own_mn ln (64 : Int32))), (.ref o)])) rfl rfl (hb hby own_dprog_35_method_1_code_17)
  have Fw10 := f8.same W10
  have N10 := Fr.snoc X10 N7 g_o
  refine own_st st10 ?_
  have z11 : n0 ≤ h10.size := Nat.le_trans z3 (Keep.of_wr W10).1
  have kk12 : Keep h0 h10 [o] := kk4.wr W10 (Or.inl (List.mem_of_getElem? (i := 0) rfl))
  show own_Go p.tables e below RR (T10.setTop (mkF m 20 #[.val (.ref o), .val (.ref pa), .val (.int (256 : Int32))] []))
  refine own_st (fun _ k => XS.aloadN X10.here hx rfl (hb hby own_dprog_35_method_1_code_20) rfl rfl (XS.aloadN X10.here hx rfl (hb hby own_dprog_35_method_1_code_21) rfl rfl k)) ?_
  show own_Go p.tables e below RR (T10.setTop (mkF m 22 #[.val (.ref o), .val (.ref pa), .val (.int (256 : Int32))] [(.ref o), (.ref o)]))
  obtain ⟨T13, X13, e13, st13⟩ := getF X10 hx hZ hown (host := "") (Or.inl (hw _ (List.mem_of_getElem? (i := 17) rfl))) Via.refl e10 Fw10 (g := (mkF m 22 #[.val (.ref o), .val (.ref pa), .val (.int (256 : Int32))] [(.ref o), (.ref o)])) rfl rfl (hb hby own_dprog_35_method_1_code_22)
  refine own_st st13 ?_
  show own_Go p.tables e below RR (T13.setTop (mkF m 25 #[.val (.ref o), .val (.ref pa), .val (.int (256 : Int32))] [(.int (own_mn ln (64 : Int32))), (.ref o)]))
  obtain ⟨_, _, ⟨T14, L14, k14, n14⟩, -, X14, ⟨Lc14, hQ14, l14, y14, z14⟩, st14⟩ := Jvm.LawKit.callS X13 hx (y := (⟨"com/example/shiftwise/shiftwise/search/FactorSkip", "gramLength", "(I)I"⟩ : MethodName)) hown (mvT hZ (hw _ (List.mem_of_getElem? (i := 19) rfl))) (mvT hZ (hw _ (List.mem_of_getElem? (i := 20) rfl))) (mvT hZ (hw _ (List.mem_of_getElem? (i := 4) rfl))) (mvT hZ (hw _ (List.mem_of_getElem? (i := 21) rfl))) (by decide) (backOf (W := 1) (own_rmGL l Z a0 hw [] (own_mn ln (64 : Int32)) h10 n0 z11 ) hZ (hw _ (List.mem_of_getElem? (i := 21) rfl)) (hw _ (List.mem_of_getElem? (i := 4) rfl)) (by decide) (by decide)) (g := (mkF m 25 #[.val (.ref o), .val (.ref pa), .val (.int (256 : Int32))] [(.int (own_mn ln (64 : Int32))), (.ref o)])) rfl (by rw [hml]; rfl) (argsL := [(.int (own_mn ln (64 : Int32)))]) (rest := [(.ref o)]) (lenOf own_pd__I_I rfl) rfl (by show 2 * 0 + _ ≤ _; exact Nat.le_of_eq rfl) (hb hby own_dprog_35_method_1_code_25) (fun _ _ => ⟨rfl, e13, (by decide : 0 + 0 ≤ _), (by decide : 0 + 0 ≤ _)⟩)
  dsimp only [Pt.U, Pt.locs, Pt.cells, Pt.slots] at X14 l14 y14 z14 st14 hQ14
  subst l14 y14 z14
  obtain ⟨rfl, Nq14, eq14⟩ := hQ14
  have N14 := Fr.app N10 Nq14
  refine own_st st14 ?_
  show own_Go p.tables e below RR (T14.setTop (mkF m 28 #[.val (.ref o), .val (.ref pa), .val (.int (256 : Int32))] [(.int (own_gm (own_mn ln (64 : Int32)))), (.ref o)]))
  have f15 := ((F_gram.other W2 (Or.inr (slot_ne (Or.inr (hw _ (List.mem_of_getElem? (i := 26) rfl))) (Or.inr (hw _ (List.mem_of_getElem? (i := 12) rfl))) (by decide) (t := .int) (t' := (.array .int)) (by decide) (by decide)))).other W10 (Or.inr (slot_ne (Or.inr (hw _ (List.mem_of_getElem? (i := 26) rfl))) (Or.inr (hw _ (List.mem_of_getElem? (i := 18) rfl))) (by decide) (t := .int) (t' := .int) (by decide) (by decide))))
  have f16 := (f9.wr W10)
  obtain ⟨T17, h17, X17, e17, W17, st17⟩ := putF X14 hx hZ hown (host := "") (Or.inl (hw _ (List.mem_of_getElem? (i := 25) rfl))) Via.refl eq14 f15 f16 (Or.inr ⟨(hw _ (List.mem_of_getElem? (i := 26) rfl)), rfl, hnm⟩) (hw _ (List.mem_of_getElem? (i := 3) rfl)) (ty := .int) (by decide) rfl rfl (g := (mkF m 28 #[.val (.ref o), .val (.ref pa), .val (.int (256 : Int32))] [(.int (own_gm (own_mn ln (64 : Int32)))), (.ref o)])) rfl rfl (hb hby own_dprog_35_method_1_code_28)
  have Fw17 := f15.same W17
  have N17 := Fr.snoc X17 N14 g_o
  refine own_st st17 ?_
  have z18 : n0 ≤ h17.size := Nat.le_trans z11 (Keep.of_wr W17).1
  have kk19 : Keep h0 h17 [o] := kk12.wr W17 (Or.inl (List.mem_of_getElem? (i := 0) rfl))
  show own_Go p.tables e below RR (T17.setTop (mkF m 31 #[.val (.ref o), .val (.ref pa), .val (.int (256 : Int32))] []))
  refine own_st (fun _ k => XS.aloadN X17.here hx rfl (hb hby own_dprog_35_method_1_code_31) rfl rfl (XS.aloadN X17.here hx rfl (hb hby own_dprog_35_method_1_code_32) rfl rfl k)) ?_
  show own_Go p.tables e below RR (T17.setTop (mkF m 33 #[.val (.ref o), .val (.ref pa), .val (.int (256 : Int32))] [(.ref o), (.ref o)]))
  have f20 := (Fw10.other W17 (Or.inr (slot_ne (Or.inr (hw _ (List.mem_of_getElem? (i := 18) rfl))) (Or.inr (hw _ (List.mem_of_getElem? (i := 26) rfl))) (by decide) (t := .int) (t' := .int) (by decide) (by decide))))
  obtain ⟨T21, X21, e21, st21⟩ := getF X17 hx hZ hown (host := "") (Or.inl (hw _ (List.mem_of_getElem? (i := 17) rfl))) Via.refl e17 f20 (g := (mkF m 33 #[.val (.ref o), .val (.ref pa), .val (.int (256 : Int32))] [(.ref o), (.ref o)])) rfl rfl (hb hby own_dprog_35_method_1_code_33)
  refine own_st st21 ?_
  show own_Go p.tables e below RR (T21.setTop (mkF m 36 #[.val (.ref o), .val (.ref pa), .val (.int (256 : Int32))] [(.int (own_mn ln (64 : Int32))), (.ref o)]))
  refine own_st (fun _ k => XS.aloadN X21.here hx rfl (hb hby own_dprog_35_method_1_code_36) rfl rfl k) ?_
  show own_Go p.tables e below RR (T21.setTop (mkF m 37 #[.val (.ref o), .val (.ref pa), .val (.int (256 : Int32))] [(.ref o), (.int (own_mn ln (64 : Int32))), (.ref o)]))
  obtain ⟨T22, X22, e22, st22⟩ := getF X21 hx hZ hown (host := "") (Or.inl (hw _ (List.mem_of_getElem? (i := 25) rfl))) Via.refl e21 Fw17 (g := (mkF m 37 #[.val (.ref o), .val (.ref pa), .val (.int (256 : Int32))] [(.ref o), (.int (own_mn ln (64 : Int32))), (.ref o)])) rfl rfl (hb hby own_dprog_35_method_1_code_37)
  refine own_st st22 ?_
  show own_Go p.tables e below RR (T22.setTop (mkF m 40 #[.val (.ref o), .val (.ref pa), .val (.int (256 : Int32))] [(.int (own_gm (own_mn ln (64 : Int32)))), (.int (own_mn ln (64 : Int32))), (.ref o)]))
  refine own_st (fun _ k => XS.isub X22.here hx rfl (hb hby own_dprog_35_method_1_code_40) rfl (XS.iconst X22.here hx rfl (hb hby own_dprog_35_method_1_code_41) (XS.iadd X22.here hx rfl (hb hby own_dprog_35_method_1_code_42) rfl k))) ?_
  show own_Go p.tables e below RR (T22.setTop (mkF m 43 #[.val (.ref o), .val (.ref pa), .val (.int (256 : Int32))] [(.int (((own_mn ln (64 : Int32)) - (own_gm (own_mn ln (64 : Int32)))) + (1 : Int32))), (.ref o)]))
  have f23 := (((F_stride.other W2 (Or.inr (slot_ne (Or.inr (hw _ (List.mem_of_getElem? (i := 28) rfl))) (Or.inr (hw _ (List.mem_of_getElem? (i := 12) rfl))) (by decide) (t := .int) (t' := (.array .int)) (by decide) (by decide)))).other W10 (Or.inr (slot_ne (Or.inr (hw _ (List.mem_of_getElem? (i := 28) rfl))) (Or.inr (hw _ (List.mem_of_getElem? (i := 18) rfl))) (by decide) (t := .int) (t' := .int) (by decide) (by decide)))).other W17 (Or.inr (slot_ne (Or.inr (hw _ (List.mem_of_getElem? (i := 28) rfl))) (Or.inr (hw _ (List.mem_of_getElem? (i := 26) rfl))) (by decide) (t := .int) (t' := .int) (by decide) (by decide))))
  have f24 := (f16.wr W17)
  obtain ⟨T25, h25, X25, e25, W25, st25⟩ := putF X22 hx hZ hown (host := "") (Or.inl (hw _ (List.mem_of_getElem? (i := 27) rfl))) Via.refl e22 f23 f24 (Or.inr ⟨(hw _ (List.mem_of_getElem? (i := 28) rfl)), rfl, hnm⟩) (hw _ (List.mem_of_getElem? (i := 3) rfl)) (ty := .int) (by decide) rfl rfl (g := (mkF m 43 #[.val (.ref o), .val (.ref pa), .val (.int (256 : Int32))] [(.int (((own_mn ln (64 : Int32)) - (own_gm (own_mn ln (64 : Int32)))) + (1 : Int32))), (.ref o)])) rfl rfl (hb hby own_dprog_35_method_1_code_43)
  have Fw25 := f23.same W25
  have N25 := Fr.snoc X25 N17 g_o
  refine own_st st25 ?_
  have z26 : n0 ≤ h25.size := Nat.le_trans z18 (Keep.of_wr W25).1
  have kk27 : Keep h0 h25 [o] := kk19.wr W25 (Or.inl (List.mem_of_getElem? (i := 0) rfl))
  show own_Go p.tables e below RR (T25.setTop (mkF m 46 #[.val (.ref o), .val (.ref pa), .val (.int (256 : Int32))] []))
  refine own_st (fun _ k => XS.aloadN X25.here hx rfl (hb hby own_dprog_35_method_1_code_46) rfl rfl (X25.ldc2Long hx hown (mvT hZ (hw _ (List.mem_of_getElem? (i := 29) rfl))) (g := (mkF m 47 #[.val (.ref o), .val (.ref pa), .val (.int (256 : Int32))] [(.ref o)])) rfl (hb hby own_dprog_35_method_1_code_47) _ (XS.bipush X25.here hx rfl (hb hby own_dprog_35_method_1_code_50) (XS.bipush X25.here hx rfl (hb hby own_dprog_35_method_1_code_52) (XS.aloadN X25.here hx rfl (hb hby own_dprog_35_method_1_code_54) rfl rfl k))))) ?_
  show own_Go p.tables e below RR (T25.setTop (mkF m 55 #[.val (.ref o), .val (.ref pa), .val (.int (256 : Int32))] [(.ref o), (.int (8 : Int32)), (.int (64 : Int32)), (.long (-1 : Int64)), (.ref o)]))
  have f28 := (Fw17.other W25 (Or.inr (slot_ne (Or.inr (hw _ (List.mem_of_getElem? (i := 26) rfl))) (Or.inr (hw _ (List.mem_of_getElem? (i := 28) rfl))) (by decide) (t := .int) (t' := .int) (by decide) (by decide))))
  obtain ⟨T29, X29, e29, st29⟩ := getF X25 hx hZ hown (host := "") (Or.inl (hw _ (List.mem_of_getElem? (i := 25) rfl))) Via.refl e25 f28 (g := (mkF m 55 #[.val (.ref o), .val (.ref pa), .val (.int (256 : Int32))] [(.ref o), (.int (8 : Int32)), (.int (64 : Int32)), (.long (-1 : Int64)), (.ref o)])) rfl rfl (hb hby own_dprog_35_method_1_code_55)
  refine own_st st29 ?_
  show own_Go p.tables e below RR (T29.setTop (mkF m 58 #[.val (.ref o), .val (.ref pa), .val (.int (256 : Int32))] [(.int (own_gm (own_mn ln (64 : Int32)))), (.int (8 : Int32)), (.int (64 : Int32)), (.long (-1 : Int64)), (.ref o)]))
  refine own_st (fun _ k => XS.imul X29.here hx rfl (hb hby own_dprog_35_method_1_code_58) rfl (XS.isub X29.here hx rfl (hb hby own_dprog_35_method_1_code_59) rfl (XS.lshl X29.here hx rfl (hb hby own_dprog_35_method_1_code_60) rfl k))) ?_
  show own_Go p.tables e below RR (T29.setTop (mkF m 61 #[.val (.ref o), .val (.ref pa), .val (.int (256 : Int32))] [(.long ((-1 : Int64) <<< (((64 : Int32) - ((8 : Int32) * (own_gm (own_mn ln (64 : Int32))))) &&& 0x3f).toInt64)), (.ref o)]))
  have f30 := ((((F_gramBytes.other W2 (Or.inr (slot_ne (Or.inr (hw _ (List.mem_of_getElem? (i := 31) rfl))) (Or.inr (hw _ (List.mem_of_getElem? (i := 12) rfl))) (by decide) (t := .long) (t' := (.array .int)) (by decide) (by decide)))).other W10 (Or.inr (slot_ne (Or.inr (hw _ (List.mem_of_getElem? (i := 31) rfl))) (Or.inr (hw _ (List.mem_of_getElem? (i := 18) rfl))) (by decide) (t := .long) (t' := .int) (by decide) (by decide)))).other W17 (Or.inr (slot_ne (Or.inr (hw _ (List.mem_of_getElem? (i := 31) rfl))) (Or.inr (hw _ (List.mem_of_getElem? (i := 26) rfl))) (by decide) (t := .long) (t' := .int) (by decide) (by decide)))).other W25 (Or.inr (slot_ne (Or.inr (hw _ (List.mem_of_getElem? (i := 31) rfl))) (Or.inr (hw _ (List.mem_of_getElem? (i := 28) rfl))) (by decide) (t := .long) (t' := .int) (by decide) (by decide))))
  have f31 := (f24.wr W25)
  obtain ⟨T32, h32, X32, e32, W32, st32⟩ := putF X29 hx hZ hown (host := "") (Or.inl (hw _ (List.mem_of_getElem? (i := 30) rfl))) Via.refl e29 f30 f31 (Or.inr ⟨(hw _ (List.mem_of_getElem? (i := 31) rfl)), rfl, hnm⟩) (hw _ (List.mem_of_getElem? (i := 3) rfl)) (ty := .long) (by decide) rfl rfl (g := (mkF m 61 #[.val (.ref o), .val (.ref pa), .val (.int (256 : Int32))] [(.long ((-1 : Int64) <<< (((64 : Int32) - ((8 : Int32) * (own_gm (own_mn ln (64 : Int32))))) &&& 0x3f).toInt64)), (.ref o)])) rfl rfl (hb hby own_dprog_35_method_1_code_61)
  have Fw32 := f30.same W32
  have N32 := Fr.snoc X32 N25 g_o
  refine own_st st32 ?_
  have z33 : n0 ≤ h32.size := Nat.le_trans z26 (Keep.of_wr W32).1
  have kk34 : Keep h0 h32 [o] := kk27.wr W32 (Or.inl (List.mem_of_getElem? (i := 0) rfl))
  show own_Go p.tables e below RR (T32.setTop (mkF m 64 #[.val (.ref o), .val (.ref pa), .val (.int (256 : Int32))] []))
  refine own_st (fun _ k => XS.aloadN X32.here hx rfl (hb hby own_dprog_35_method_1_code_64) rfl rfl (XS.aloadN X32.here hx rfl (hb hby own_dprog_35_method_1_code_65) rfl rfl (XS.aloadN X32.here hx rfl (hb hby own_dprog_35_method_1_code_66) rfl rfl k))) ?_
  show own_Go p.tables e below RR (T32.setTop (mkF m 67 #[.val (.ref o), .val (.ref pa), .val (.int (256 : Int32))] [(.ref o), (.ref pa), (.ref o)]))
  have f35 := ((f20.other W25 (Or.inr (slot_ne (Or.inr (hw _ (List.mem_of_getElem? (i := 18) rfl))) (Or.inr (hw _ (List.mem_of_getElem? (i := 28) rfl))) (by decide) (t := .int) (t' := .int) (by decide) (by decide)))).other W32 (Or.inr (slot_ne (Or.inr (hw _ (List.mem_of_getElem? (i := 18) rfl))) (Or.inr (hw _ (List.mem_of_getElem? (i := 31) rfl))) (by decide) (t := .int) (t' := .long) (by decide) (by decide))))
  obtain ⟨T36, X36, e36, st36⟩ := getF X32 hx hZ hown (host := "") (Or.inl (hw _ (List.mem_of_getElem? (i := 17) rfl))) Via.refl e32 f35 (g := (mkF m 67 #[.val (.ref o), .val (.ref pa), .val (.int (256 : Int32))] [(.ref o), (.ref pa), (.ref o)])) rfl rfl (hb hby own_dprog_35_method_1_code_67)
  refine own_st st36 ?_
  show own_Go p.tables e below RR (T36.setTop (mkF m 70 #[.val (.ref o), .val (.ref pa), .val (.int (256 : Int32))] [(.int (own_mn ln (64 : Int32))), (.ref pa), (.ref o)]))
  refine own_st (fun _ k => XS.iloadN X36.here hx rfl (hb hby own_dprog_35_method_1_code_70) rfl k) ?_
  show own_Go p.tables e below RR (T36.setTop (mkF m 71 #[.val (.ref o), .val (.ref pa), .val (.int (256 : Int32))] [(.int (256 : Int32)), (.int (own_mn ln (64 : Int32))), (.ref pa), (.ref o)]))
  have f37 := ((((f5.other W10 (Ne.symm neop)).other W17 (Ne.symm neop)).other W25 (Ne.symm neop)).other W32 (Ne.symm neop))
  have f38 := (((((Sa.wr W2).wr W10).wr W17).wr W25).wr W32)
  have f39 := (((((Ea.wr W2).wr W10).wr W17).wr W25).wr W32)
  obtain ⟨_, _, ⟨T40, L40, k40, n40⟩, -, X40, ⟨Lc40, hQ40, l40, y40, z40⟩, st40⟩ := Jvm.LawKit.callS X36 hx (y := (⟨"com/example/shiftwise/shiftwise/search/FactorSkip", "positions", "([III)[[J"⟩ : MethodName)) hown (mvT hZ (hw _ (List.mem_of_getElem? (i := 32) rfl))) (mvT hZ (hw _ (List.mem_of_getElem? (i := 33) rfl))) (mvT hZ (hw _ (List.mem_of_getElem? (i := 4) rfl))) (mvT hZ (hw _ (List.mem_of_getElem? (i := 34) rfl))) (by decide) (backOf (W := 1) (own_rmPO1 l Z a0 hw [] pa kp ln pl va vb (own_mn ln (64 : Int32)) ab h32 n0 z33 f37 hpat hln (own_wd hln).2 hva hvb f38 f39) hZ (hw _ (List.mem_of_getElem? (i := 34) rfl)) (hw _ (List.mem_of_getElem? (i := 4) rfl)) (by decide) (by decide)) (g := (mkF m 71 #[.val (.ref o), .val (.ref pa), .val (.int (256 : Int32))] [(.int (256 : Int32)), (.int (own_mn ln (64 : Int32))), (.ref pa), (.ref o)])) rfl (by rw [hml]; rfl) (argsL := [(.ref pa), (.int (own_mn ln (64 : Int32))), (.int (256 : Int32))]) (rest := [(.ref o)]) (lenOf own_pd___III___J rfl) rfl (by show 2 * 0 + _ ≤ _; exact Nat.le_of_eq rfl) (hb hby own_dprog_35_method_1_code_71) (fun _ _ => ⟨rfl, e36, (by decide : 0 + 4 ≤ _), (by decide : 0 + 769 ≤ _)⟩)
  dsimp only [Pt.U, Pt.locs, Pt.cells, Pt.slots] at X40 l40 y40 z40 st40 hQ40
  subst l40 y40 z40
  obtain ⟨rx40, rfl, Nq40, Kq40⟩ := hQ40
  have N40 := Fr.app N32 Nq40
  refine own_st st40 ?_
  have z41 : n0 ≤ T40.heap.size := Nat.le_trans z33 Kq40.1
  have kk42 : Keep h0 T40.heap [o] := kk34.trans Kq40 all0
  show own_Go p.tables e below RR (T40.setTop (mkF m 74 #[.val (.ref o), .val (.ref pa), .val (.int (256 : Int32))] [(.ref rx40), (.ref o)]))
  have f43 := ((((((F_positions.other W2 (Or.inr (slot_ne (Or.inr (hw _ (List.mem_of_getElem? (i := 46) rfl))) (Or.inr (hw _ (List.mem_of_getElem? (i := 12) rfl))) (by decide) (t := (.array (.array .long))) (t' := (.array .int)) (by decide) (by decide)))).other W10 (Or.inr (slot_ne (Or.inr (hw _ (List.mem_of_getElem? (i := 46) rfl))) (Or.inr (hw _ (List.mem_of_getElem? (i := 18) rfl))) (by decide) (t := (.array (.array .long))) (t' := .int) (by decide) (by decide)))).other W17 (Or.inr (slot_ne (Or.inr (hw _ (List.mem_of_getElem? (i := 46) rfl))) (Or.inr (hw _ (List.mem_of_getElem? (i := 26) rfl))) (by decide) (t := (.array (.array .long))) (t' := .int) (by decide) (by decide)))).other W25 (Or.inr (slot_ne (Or.inr (hw _ (List.mem_of_getElem? (i := 46) rfl))) (Or.inr (hw _ (List.mem_of_getElem? (i := 28) rfl))) (by decide) (t := (.array (.array .long))) (t' := .int) (by decide) (by decide)))).other W32 (Or.inr (slot_ne (Or.inr (hw _ (List.mem_of_getElem? (i := 46) rfl))) (Or.inr (hw _ (List.mem_of_getElem? (i := 31) rfl))) (by decide) (t := (.array (.array .long))) (t' := .long) (by decide) (by decide)))).keep Kq40 nin0)
  have f44 := ((f31.wr W32).keep Kq40)
  obtain ⟨T45, h45, X45, e45, W45, st45⟩ := putF X40 hx hZ hown (host := "") (Or.inl (hw _ (List.mem_of_getElem? (i := 45) rfl))) Via.refl rfl f43 f44 (Or.inr ⟨(hw _ (List.mem_of_getElem? (i := 46) rfl)), rfl, hnm⟩) (hw _ (List.mem_of_getElem? (i := 3) rfl)) (ty := (.array (.array .long))) (by decide) rfl rfl (g := (mkF m 74 #[.val (.ref o), .val (.ref pa), .val (.int (256 : Int32))] [(.ref rx40), (.ref o)])) rfl rfl (hb hby own_dprog_35_method_1_code_74)
  have Fw45 := f43.same W45
  have N45 := Fr.snoc X45 N40 g_o
  refine own_st st45 ?_
  have z46 : n0 ≤ h45.size := Nat.le_trans z41 (Keep.of_wr W45).1
  have kk47 : Keep h0 h45 [o] := kk42.wr W45 (Or.inl (List.mem_of_getElem? (i := 0) rfl))
  show own_Go p.tables e below RR (T45.setTop (mkF m 77 #[.val (.ref o), .val (.ref pa), .val (.int (256 : Int32))] []))
  refine own_st (fun _ k => XS.aloadN X45.here hx rfl (hb hby own_dprog_35_method_1_code_77) rfl rfl (XS.aloadN X45.here hx rfl (hb hby own_dprog_35_method_1_code_78) rfl rfl (XS.aloadN X45.here hx rfl (hb hby own_dprog_35_method_1_code_79) rfl rfl k))) ?_
  show own_Go p.tables e below RR (T45.setTop (mkF m 80 #[.val (.ref o), .val (.ref pa), .val (.int (256 : Int32))] [(.ref o), (.ref pa), (.ref o)]))
  have f48 := ((f35.keep Kq40 nin0).other W45 (Or.inr (slot_ne (Or.inr (hw _ (List.mem_of_getElem? (i := 18) rfl))) (Or.inr (hw _ (List.mem_of_getElem? (i := 46) rfl))) (by decide) (t := .int) (t' := (.array (.array .long))) (by decide) (by decide))))
  obtain ⟨T49, X49, e49, st49⟩ := getF X45 hx hZ hown (host := "") (Or.inl (hw _ (List.mem_of_getElem? (i := 17) rfl))) Via.refl e45 f48 (g := (mkF m 80 #[.val (.ref o), .val (.ref pa), .val (.int (256 : Int32))] [(.ref o), (.ref pa), (.ref o)])) rfl rfl (hb hby own_dprog_35_method_1_code_80)
  refine own_st st49 ?_
  show own_Go p.tables e below RR (T49.setTop (mkF m 83 #[.val (.ref o), .val (.ref pa), .val (.int (256 : Int32))] [(.int (own_mn ln (64 : Int32))), (.ref pa), (.ref o)]))
  refine own_st (fun _ k => XS.aloadN X49.here hx rfl (hb hby own_dprog_35_method_1_code_83) rfl rfl k) ?_
  show own_Go p.tables e below RR (T49.setTop (mkF m 84 #[.val (.ref o), .val (.ref pa), .val (.int (256 : Int32))] [(.ref o), (.int (own_mn ln (64 : Int32))), (.ref pa), (.ref o)]))
  have f50 := (((f28.other W32 (Or.inr (slot_ne (Or.inr (hw _ (List.mem_of_getElem? (i := 26) rfl))) (Or.inr (hw _ (List.mem_of_getElem? (i := 31) rfl))) (by decide) (t := .int) (t' := .long) (by decide) (by decide)))).keep Kq40 nin0).other W45 (Or.inr (slot_ne (Or.inr (hw _ (List.mem_of_getElem? (i := 26) rfl))) (Or.inr (hw _ (List.mem_of_getElem? (i := 46) rfl))) (by decide) (t := .int) (t' := (.array (.array .long))) (by decide) (by decide))))
  obtain ⟨T51, X51, e51, st51⟩ := getF X49 hx hZ hown (host := "") (Or.inl (hw _ (List.mem_of_getElem? (i := 25) rfl))) Via.refl e49 f50 (g := (mkF m 84 #[.val (.ref o), .val (.ref pa), .val (.int (256 : Int32))] [(.ref o), (.int (own_mn ln (64 : Int32))), (.ref pa), (.ref o)])) rfl rfl (hb hby own_dprog_35_method_1_code_84)
  refine own_st st51 ?_
  show own_Go p.tables e below RR (T51.setTop (mkF m 87 #[.val (.ref o), .val (.ref pa), .val (.int (256 : Int32))] [(.int (own_gm (own_mn ln (64 : Int32)))), (.int (own_mn ln (64 : Int32))), (.ref pa), (.ref o)]))
  have f52 := ((f37.keep Kq40 nin0).other W45 (Ne.symm neop))
  obtain ⟨_, _, ⟨T53, L53, k53, n53⟩, -, X53, ⟨Lc53, hQ53, l53, y53, z53⟩, st53⟩ := Jvm.LawKit.callS X51 hx (y := (⟨"com/example/shiftwise/shiftwise/search/FactorSkip", "factorGrams", "([III)[B"⟩ : MethodName)) hown (mvT hZ (hw _ (List.mem_of_getElem? (i := 47) rfl))) (mvT hZ (hw _ (List.mem_of_getElem? (i := 48) rfl))) (mvT hZ (hw _ (List.mem_of_getElem? (i := 4) rfl))) (mvT hZ (hw _ (List.mem_of_getElem? (i := 49) rfl))) (by decide) (backOf (W := 1) (own_rmFG l Z a0 hw [] pa kp ln pl va vb (own_mn ln (64 : Int32)) (own_gm (own_mn ln (64 : Int32))) h45 n0 z46 f52 hpat hln (own_wd hln).2 (own_gmB ⟨(own_wd hln).2.1, by have := (own_wd hln).1; split at this <;> omega⟩)) hZ (hw _ (List.mem_of_getElem? (i := 49) rfl)) (hw _ (List.mem_of_getElem? (i := 4) rfl)) (by decide) (by decide)) (g := (mkF m 87 #[.val (.ref o), .val (.ref pa), .val (.int (256 : Int32))] [(.int (own_gm (own_mn ln (64 : Int32)))), (.int (own_mn ln (64 : Int32))), (.ref pa), (.ref o)])) rfl (by rw [hml]; rfl) (argsL := [(.ref pa), (.int (own_mn ln (64 : Int32))), (.int (own_gm (own_mn ln (64 : Int32))))]) (rest := [(.ref o)]) (lenOf own_pd___III__B rfl) rfl (by show 2 * 0 + _ ≤ _; exact Nat.le_of_eq rfl) (hb hby own_dprog_35_method_1_code_87) (fun _ _ => ⟨rfl, e51, (by decide : 4 + 1 ≤ _), (by decide : 769 + 8192 ≤ _)⟩)
  dsimp only [Pt.U, Pt.locs, Pt.cells, Pt.slots] at X53 l53 y53 z53 st53 hQ53
  subst l53 y53 z53
  obtain ⟨rx53, rfl, Nq53, Kq53⟩ := hQ53
  have N53 := Fr.app N45 Nq53
  refine own_st st53 ?_
  have z54 : n0 ≤ T53.heap.size := Nat.le_trans z46 Kq53.1
  have kk55 : Keep h0 T53.heap [o] := kk47.trans Kq53 all0
  show own_Go p.tables e below RR (T53.setTop (mkF m 90 #[.val (.ref o), .val (.ref pa), .val (.int (256 : Int32))] [(.ref rx53), (.ref o)]))
  have f56 := ((((((((F_factorGrams.other W2 (Or.inr (slot_ne (Or.inr (hw _ (List.mem_of_getElem? (i := 59) rfl))) (Or.inr (hw _ (List.mem_of_getElem? (i := 12) rfl))) (by decide) (t := (.array .byte)) (t' := (.array .int)) (by decide) (by decide)))).other W10 (Or.inr (slot_ne (Or.inr (hw _ (List.mem_of_getElem? (i := 59) rfl))) (Or.inr (hw _ (List.mem_of_getElem? (i := 18) rfl))) (by decide) (t := (.array .byte)) (t' := .int) (by decide) (by decide)))).other W17 (Or.inr (slot_ne (Or.inr (hw _ (List.mem_of_getElem? (i := 59) rfl))) (Or.inr (hw _ (List.mem_of_getElem? (i := 26) rfl))) (by decide) (t := (.array .byte)) (t' := .int) (by decide) (by decide)))).other W25 (Or.inr (slot_ne (Or.inr (hw _ (List.mem_of_getElem? (i := 59) rfl))) (Or.inr (hw _ (List.mem_of_getElem? (i := 28) rfl))) (by decide) (t := (.array .byte)) (t' := .int) (by decide) (by decide)))).other W32 (Or.inr (slot_ne (Or.inr (hw _ (List.mem_of_getElem? (i := 59) rfl))) (Or.inr (hw _ (List.mem_of_getElem? (i := 31) rfl))) (by decide) (t := (.array .byte)) (t' := .long) (by decide) (by decide)))).keep Kq40 nin0).other W45 (Or.inr (slot_ne (Or.inr (hw _ (List.mem_of_getElem? (i := 59) rfl))) (Or.inr (hw _ (List.mem_of_getElem? (i := 46) rfl))) (by decide) (t := (.array .byte)) (t' := (.array (.array .long))) (by decide) (by decide)))).keep Kq53 nin0)
  have f57 := ((f44.wr W45).keep Kq53)
  obtain ⟨T58, h58, X58, e58, W58, st58⟩ := putF X53 hx hZ hown (host := "") (Or.inl (hw _ (List.mem_of_getElem? (i := 58) rfl))) Via.refl rfl f56 f57 (Or.inr ⟨(hw _ (List.mem_of_getElem? (i := 59) rfl)), rfl, hnm⟩) (hw _ (List.mem_of_getElem? (i := 3) rfl)) (ty := (.array .byte)) (by decide) rfl rfl (g := (mkF m 90 #[.val (.ref o), .val (.ref pa), .val (.int (256 : Int32))] [(.ref rx53), (.ref o)])) rfl rfl (hb hby own_dprog_35_method_1_code_90)
  have Fw58 := f56.same W58
  have N58 := Fr.snoc X58 N53 g_o
  refine own_st st58 ?_
  have z59 : n0 ≤ h58.size := Nat.le_trans z54 (Keep.of_wr W58).1
  have kk60 : Keep h0 h58 [o] := kk55.wr W58 (Or.inl (List.mem_of_getElem? (i := 0) rfl))
  show own_Go p.tables e below RR (T58.setTop (mkF m 93 #[.val (.ref o), .val (.ref pa), .val (.int (256 : Int32))] []))
  obtain ⟨fs, hrt_, hrun, hended, hW, hsame⟩ := X58.leave (v := none) (fun _ => rfl)
  refine own_fin (X58.returnOut hx Bd.returns (hb hby own_dprog_35_method_1_code_93) hrt_) (hRR _ ⟨_, hrun, hended, _, _, rfl, ?_, ⟨_, rfl⟩, hW, hsame.mono (by decide) (by decide)⟩)
  show own_QIN1 Z o pa kp ln pl va vb ab h0 n0 _ T58.heap _
  rw [e58]
  have f61 := ((f50.keep Kq53 nin0).other W58 (Or.inr (slot_ne (Or.inr (hw _ (List.mem_of_getElem? (i := 26) rfl))) (Or.inr (hw _ (List.mem_of_getElem? (i := 59) rfl))) (by decide) (t := .int) (t' := (.array .byte)) (by decide) (by decide))))
  have f62 := (((((Fw25.other W32 (Or.inr (slot_ne (Or.inr (hw _ (List.mem_of_getElem? (i := 28) rfl))) (Or.inr (hw _ (List.mem_of_getElem? (i := 31) rfl))) (by decide) (t := .int) (t' := .long) (by decide) (by decide)))).keep Kq40 nin0).other W45 (Or.inr (slot_ne (Or.inr (hw _ (List.mem_of_getElem? (i := 28) rfl))) (Or.inr (hw _ (List.mem_of_getElem? (i := 46) rfl))) (by decide) (t := .int) (t' := (.array (.array .long))) (by decide) (by decide)))).keep Kq53 nin0).other W58 (Or.inr (slot_ne (Or.inr (hw _ (List.mem_of_getElem? (i := 28) rfl))) (Or.inr (hw _ (List.mem_of_getElem? (i := 59) rfl))) (by decide) (t := .int) (t' := (.array .byte)) (by decide) (by decide))))
  have f63 := (f57.wr W58)
  exact ⟨rfl, N58, kk60, f61, f62, f63⟩
theorem own_dprog_35_method_3_code_0 : decode prog_35_method_3_code 0 = .ok (.aload_n 0, 1) := by decide +kernel
theorem own_dprog_35_method_3_code_1 : decode prog_35_method_3_code 1 = .ok (.getfield 29, 3) := by decide +kernel
theorem own_dprog_35_method_3_code_4 : decode prog_35_method_3_code 4 = .ok (.i2l, 1) := by decide +kernel
theorem own_dprog_35_method_3_code_5 : decode prog_35_method_3_code 5 = .ok (.ldc2_w 85, 3) := by decide +kernel
theorem own_dprog_35_method_3_code_8 : decode prog_35_method_3_code 8 = .ok (.lmul, 1) := by decide +kernel
theorem own_dprog_35_method_3_code_9 : decode prog_35_method_3_code 9 = .ok (.aload_n 0, 1) := by decide +kernel
theorem own_dprog_35_method_3_code_10 : decode prog_35_method_3_code 10 = .ok (.getfield 32, 3) := by decide +kernel
theorem own_dprog_35_method_3_code_13 : decode prog_35_method_3_code 13 = .ok (.i2l, 1) := by decide +kernel
theorem own_dprog_35_method_3_code_14 : decode prog_35_method_3_code 14 = .ok (.lcmp, 1) := by decide +kernel
theorem own_dprog_35_method_3_code_15 : decode prog_35_method_3_code 15 = .ok (.ifCond .gt 9, 3) := by decide +kernel
theorem own_dprog_35_method_3_code_24 : decode prog_35_method_3_code 24 = .ok (.getstatic 93, 3) := by decide +kernel
theorem own_dprog_35_method_3_code_27 : decode prog_35_method_3_code 27 = .ok (.areturn, 1) := by decide +kernel
theorem own_dprog_35_method_3_code_18 : decode prog_35_method_3_code 18 = .ok (.getstatic 87, 3) := by decide +kernel
theorem own_dprog_35_method_3_code_21 : decode prog_35_method_3_code 21 = .ok (.goto 6, 3) := by decide +kernel
theorem own_efCW (m : MethodId) (o : Addr) : entryFrame m #[(.ref o)] 1 = mkF m 0 #[.val (.ref o)] [] := by first | (simp [entryFrame, mkF, argsToLocals, Value.category]; done) | rfl
def own_QCW (Z : State) (o : Addr) (gm : Int32) (sd : Int32) (aW : Addr) (aB : Addr) (r : Addr) (h0 : Heap) (n0 : Nat) (rv__ : Option Value) (h : Heap) (rL__ : List Loc) : Prop := rv__ = some (.ref r) ∧ Fr n0 rL__ ∧ h = h0
abbrev own_RCW : Room := { frames := 0, cells := 0, slots := 0, locals := 0 }
set_option maxRecDepth 65536 in
set_option maxHeartbeats 40000000 in
theorem own_rmCW (l : Launch) (Z : State) (a0 : Array Value) (hw : ∀ d ∈ tables_1, d.before a0 Z = true) (ws : List Jvm.Cond) (o : Addr) (gm : Int32) (sd : Int32) (aW : Addr) (aB : Addr) (r : Addr) (h0 : Heap) (n0 : Nat) (Z0 : n0 ≤ h0.size) (Fg : Fld Z h0 o "com/example/shiftwise/shiftwise/search/FactorSkip" "gram" "I" (.int gm)) (Fs : Fld Z h0 o "com/example/shiftwise/shiftwise/search/FactorSkip" "stride" "I" (.int sd)) (SW : Sta Z h0 "com/example/shiftwise/shiftwise/search/CharWindows" "WHOLE" "Lcom/example/shiftwise/shiftwise/search/CharWindows;" (.ref aW)) (SB : Sta Z h0 "com/example/shiftwise/shiftwise/search/CharWindows" "BYTES_IF_HELD" "Lcom/example/shiftwise/shiftwise/search/CharWindows;" (.ref aB)) (hr : (if (sd.toInt64) < ((gm.toInt64) * (8 : Int64)) then aB else aW) = r) :
    MetFree l (⟨"com/example/shiftwise/shiftwise/search/FactorSkip", "charWindows", "()Lcom/example/shiftwise/shiftwise/search/CharWindows;"⟩ : MethodName) (head1 (Jvm.Cond.code (⟨"com/example/shiftwise/shiftwise/search/FactorSkip", "charWindows", "()Lcom/example/shiftwise/shiftwise/search/CharWindows;"⟩ : MethodName) prog_35_method_3_code 1 (some (.object "com/example/shiftwise/shiftwise/search/CharWindows")) :: ws) own_RCW) (fun aa__ U => aa__ = #[(.ref o)] ∧ Z.Warmed39 U.vm ∧ U.heap = h0) (fun _ _ _ _ _ => True) (fun _ U oc_ U' => ∃ rv__ rL__, oc_ = .returned rv__ ∧ own_QCW Z o gm sd aW aB r h0 n0 rv__ U'.heap rL__ ∧ FrameEnd U oc_ U' rL__ own_RCW.cells own_RCW.slots) := by
  refine MetFree.of_bodySF (plainFor_of_name own_pn_com_example_shiftwise_shiftwise_search_FactorSkip) hisR ?_
  intro p e s m args below meth c s₁ Bd hml0 hP hK
  obtain ⟨rfl, hZ, hh⟩ := hP
  have hx := Bd.exec
  have hby := Bd.bytes
  have hml : c.maxLocals = 1 := hml0
  have hown : s.vm.findClass "com/example/shiftwise/shiftwise/search/FactorSkip" = some m.cls := findClass_of_methodNamed Bd.named
  have hnm := (name_of_methodNamed Bd.named Bd.method).1
  have X0 : Stand p l e own_RCW s m #[(.ref o)] below meth c s₁ [] 0 0 := Stand.of_body Bd
  have e0 : s₁.heap = h0 := by rw [← hh, Bd.state]; rfl
  have N0 := Fr.nil n0
  refine own_in (fun _ k => castTop (own_efCW m o) k) ?_
  intro RR hRR
  show own_Go p.tables e below RR (s₁.setTop (mkF m 0 #[.val (.ref o)] []))
  refine own_st (fun _ k => XS.aloadN X0.here hx rfl (hb hby own_dprog_35_method_3_code_0) rfl rfl k) ?_
  show own_Go p.tables e below RR (s₁.setTop (mkF m 1 #[.val (.ref o)] [(.ref o)]))
  obtain ⟨T1, X1, e1, st1⟩ := getF X0 hx hZ hown (host := "") (Or.inl (hw _ (List.mem_of_getElem? (i := 25) rfl))) Via.refl e0 Fg (g := (mkF m 1 #[.val (.ref o)] [(.ref o)])) rfl rfl (hb hby own_dprog_35_method_3_code_1)
  refine own_st st1 ?_
  show own_Go p.tables e below RR (T1.setTop (mkF m 4 #[.val (.ref o)] [(.int gm)]))
  refine own_st (fun _ k => XS.i2l X1.here hx rfl (hb hby own_dprog_35_method_3_code_4) rfl (X1.ldc2Long hx hown (mvT hZ (hw _ (List.mem_of_getElem? (i := 68) rfl))) (g := (mkF m 5 #[.val (.ref o)] [(.long (gm.toInt64))])) rfl (hb hby own_dprog_35_method_3_code_5) _ (XS.lmul X1.here hx rfl (hb hby own_dprog_35_method_3_code_8) rfl (XS.aloadN X1.here hx rfl (hb hby own_dprog_35_method_3_code_9) rfl rfl k)))) ?_
  show own_Go p.tables e below RR (T1.setTop (mkF m 10 #[.val (.ref o)] [(.ref o), (.long ((gm.toInt64) * (8 : Int64)))]))
  obtain ⟨T2, X2, e2, st2⟩ := getF X1 hx hZ hown (host := "") (Or.inl (hw _ (List.mem_of_getElem? (i := 27) rfl))) Via.refl e1 Fs (g := (mkF m 10 #[.val (.ref o)] [(.ref o), (.long ((gm.toInt64) * (8 : Int64)))])) rfl rfl (hb hby own_dprog_35_method_3_code_10)
  refine own_st st2 ?_
  show own_Go p.tables e below RR (T2.setTop (mkF m 13 #[.val (.ref o)] [(.int sd), (.long ((gm.toInt64) * (8 : Int64)))]))
  refine own_st (fun _ k => XS.i2l X2.here hx rfl (hb hby own_dprog_35_method_3_code_13) rfl (XS.lcmp X2.here hx rfl (hb hby own_dprog_35_method_3_code_14) rfl k)) ?_
  show own_Go p.tables e below RR (T2.setTop (mkF m 15 #[.val (.ref o)] [(.int (lcmpW ((gm.toInt64) * (8 : Int64)) (sd.toInt64)))]))
  by_cases hc15_3 : (sd.toInt64) < ((gm.toInt64) * (8 : Int64))
  · refine own_st (fun _ k => XS.ifYes X2.here hx rfl (pc0 := 15) (pc' := 24) rfl (hb hby own_dprog_35_method_3_code_15) rfl ((if0 _ _).trans (tlt ((lw_gt _ _).mpr hc15_3)).2.2.1) (by decide) (by decide) k) ?_
    show own_Go p.tables e below RR (T2.setTop (mkF m 24 #[.val (.ref o)] []))
    obtain ⟨T4, X4, e4, st4⟩ := getS2 X2 hx hZ hown (host := "") (Or.inl (hw _ (List.mem_of_getElem? (i := 69) rfl))) Via.refl e2 SB (g := (mkF m 24 #[.val (.ref o)] [])) rfl (hb hby own_dprog_35_method_3_code_24)
    refine own_st st4 ?_
    show own_Go p.tables e below RR (T4.setTop (mkF m 27 #[.val (.ref o)] [(.ref aB)]))
    obtain ⟨fs, hrt_, hrun, hended, hW, hsame⟩ := X4.leave (v := some (.ref aB)) (fun h => by rw [Bd.returns] at h; cases h)
    refine own_fin (retOut X4 hx Bd.returns rfl (Or.inr (Or.inr (Or.inr (Or.inr ⟨rfl, rfl, rfl⟩)))) (hb hby own_dprog_35_method_3_code_27) hrt_) (hRR _ ⟨_, hrun, hended, _, _, rfl, ?_, ⟨_, rfl⟩, hW, hsame.mono (by decide) (by decide)⟩)
    show own_QCW Z o gm sd aW aB r h0 n0 _ T4.heap _
    rw [e4]
    exact ⟨own_rr ((by rw [← hr, if_pos hc15_3])), N0, rfl⟩
  · refine own_st (fun _ k => XS.ifNo X2.here hx rfl (hb hby own_dprog_35_method_3_code_15) rfl ((if0 _ _).trans (flt (fun q => hc15_3 ((lw_gt _ _).mp q))).2.2.1) k) ?_
    show own_Go p.tables e below RR (T2.setTop (mkF m 18 #[.val (.ref o)] []))
    obtain ⟨T5, X5, e5, st5⟩ := getS2 X2 hx hZ hown (host := "") (Or.inl (hw _ (List.mem_of_getElem? (i := 72) rfl))) Via.refl e2 SW (g := (mkF m 18 #[.val (.ref o)] [])) rfl (hb hby own_dprog_35_method_3_code_18)
    refine own_st st5 ?_
    show own_Go p.tables e below RR (T5.setTop (mkF m 21 #[.val (.ref o)] [(.ref aW)]))
    refine own_st (fun _ k => XS.goto X5.here hx rfl (pc0 := 21) (pc' := 27) rfl (hb hby own_dprog_35_method_3_code_21) (by decide) (by decide) k) ?_
    show own_Go p.tables e below RR (T5.setTop (mkF m 27 #[.val (.ref o)] [(.ref aW)]))
    obtain ⟨fs, hrt_, hrun, hended, hW, hsame⟩ := X5.leave (v := some (.ref aW)) (fun h => by rw [Bd.returns] at h; cases h)
    refine own_fin (retOut X5 hx Bd.returns rfl (Or.inr (Or.inr (Or.inr (Or.inr ⟨rfl, rfl, rfl⟩)))) (hb hby own_dprog_35_method_3_code_27) hrt_) (hRR _ ⟨_, hrun, hended, _, _, rfl, ?_, ⟨_, rfl⟩, hW, hsame.mono (by decide) (by decide)⟩)
    show own_QCW Z o gm sd aW aB r h0 n0 _ T5.heap _
    rw [e5]
    exact ⟨own_rr ((by rw [← hr, if_neg hc15_3])), N0, rfl⟩
theorem own_pn_com_example_shiftwise_shiftwise_search_FactorSkipCharWindowsPinLaw : plainName "com/example/shiftwise/shiftwise/search/FactorSkipCharWindowsPinLaw" = true := by first | (simp [plainName, overriddenIn]; done) | decide +kernel
theorem own_pd___II_V : parseMethodDescriptor "([II)V" = some ⟨[(.array .int), .int], none⟩ := by decide +kernel
theorem own_pd___Lcom_example_shiftwise_shiftwise_search_CharWindows_ : parseMethodDescriptor "()Lcom/example/shiftwise/shiftwise/search/CharWindows;" = some ⟨[], some (.object "com/example/shiftwise/shiftwise/search/CharWindows")⟩ := by decide +kernel
theorem own_ef0 (m : MethodId) (p1 : Int32) (p2 : Int32) (p3 : Int32) (p4 : Int32) : entryFrame m #[(.int p1), (.int p2), (.int p3), (.int p4)] maxLocals = mkF m 0 #[.val (.int p1), .val (.int p2), .val (.int p3), .val (.int p4), .unset, .unset, .unset, .unset, .unset, .unset, .unset] [] := by first | (simp [entryFrame, mkF, argsToLocals, Value.category, maxLocals]; done) | rfl
def own_Q0 (Z : State) (p1 : Int32) (p2 : Int32) (p3 : Int32) (p4 : Int32) (a_ABSENT : Addr) (a_BYTES_IF_HELD : Addr) (a_WHOLE : Addr) (h0 : Heap) (n0 : Nat) (rv__ : Option Value) (h : Heap) (rL__ : List Loc) : Prop := rv__ = some (.int 1) ∧ Fr n0 rL__
set_option maxRecDepth 65536 in
set_option maxHeartbeats 40000000 in
theorem own_rm0 (l : Launch) (Z : State) (a0 : Array Value) (hw : ∀ d ∈ tables_1, d.before a0 Z = true) (ws : List Jvm.Cond) (p1 : Int32) (p2 : Int32) (p3 : Int32) (p4 : Int32) (a_ABSENT : Addr) (a_BYTES_IF_HELD : Addr) (a_WHOLE : Addr) (h0 : Heap) (n0 : Nat) (Z0 : n0 ≤ h0.size) (E_ABSENT : Exa Z h0 a_ABSENT "[J") (S_ABSENT : Sta Z h0 "com/example/shiftwise/shiftwise/search/FactorSkip" "ABSENT" "[J" (.ref a_ABSENT)) (E_BYTES_IF_HELD : Exa Z h0 a_BYTES_IF_HELD "com/example/shiftwise/shiftwise/search/CharWindows") (S_BYTES_IF_HELD : Sta Z h0 "com/example/shiftwise/shiftwise/search/CharWindows" "BYTES_IF_HELD" "Lcom/example/shiftwise/shiftwise/search/CharWindows;" (.ref a_BYTES_IF_HELD)) (E_WHOLE : Exa Z h0 a_WHOLE "com/example/shiftwise/shiftwise/search/CharWindows") (S_WHOLE : Sta Z h0 "com/example/shiftwise/shiftwise/search/CharWindows" "WHOLE" "Lcom/example/shiftwise/shiftwise/search/CharWindows;" (.ref a_WHOLE)) :
    MetFree l x (head1 (Jvm.Cond.code x code maxLocals ret :: ws) room_1) (fun aa__ U => aa__ = #[(.int p1), (.int p2), (.int p3), (.int p4)] ∧ Z.Warmed39 U.vm ∧ U.heap = h0) (fun _ _ _ _ _ => True) (fun _ U oc_ U' => ∃ rv__ rL__, oc_ = .returned rv__ ∧ own_Q0 Z p1 p2 p3 p4 a_ABSENT a_BYTES_IF_HELD a_WHOLE h0 n0 rv__ U'.heap rL__ ∧ FrameEnd U oc_ U' rL__ room_1.cells room_1.slots) := by
  refine MetFree.of_bodySF (plainFor_of_name own_pn_com_example_shiftwise_shiftwise_search_FactorSkipCharWindowsPinLaw) hisR ?_
  intro p e s m args below meth c s₁ Bd hml0 hP hK
  obtain ⟨rfl, hZ, hh⟩ := hP
  have hx := Bd.exec
  have hby := Bd.bytes
  have hml : c.maxLocals = 11 := hml0
  have hown : s.vm.findClass "com/example/shiftwise/shiftwise/search/FactorSkipCharWindowsPinLaw" = some m.cls := findClass_of_methodNamed Bd.named
  have hnm := (name_of_methodNamed Bd.named Bd.method).1
  have X0 : Stand p l e room_1 s m #[(.int p1), (.int p2), (.int p3), (.int p4)] below meth c s₁ [] 0 0 := Stand.of_body Bd
  have e0 : s₁.heap = h0 := by rw [← hh, Bd.state]; rfl
  have N0 := Fr.nil n0
  refine own_in (fun _ k => castTop (own_ef0 m p1 p2 p3 p4) k) ?_
  intro RR hRR
  show own_Go p.tables e below RR (s₁.setTop (mkF m 0 #[.val (.int p1), .val (.int p2), .val (.int p3), .val (.int p4), .unset, .unset, .unset, .unset, .unset, .unset, .unset] []))
  refine own_st (fun _ k => XS.iconst X0.here hx rfl (hb hby at_0) (XS.iloadN X0.here hx rfl (hb hby at_1) rfl (XS.bipush X0.here hx rfl (hb hby at_2) (XS.iand X0.here hx rfl (hb hby at_4) rfl (XS.iadd X0.here hx rfl (hb hby at_5) rfl k))))) ?_
  show own_Go p.tables e below RR (s₁.setTop (mkF m 6 #[.val (.int p1), .val (.int p2), .val (.int p3), .val (.int p4), .unset, .unset, .unset, .unset, .unset, .unset, .unset] [(.int ((5 : Int32) + (p1 &&& (127 : Int32))))]))
  generalize gv1 : ((5 : Int32) + (p1 &&& (127 : Int32))) = v1
  show own_Go p.tables e below RR (s₁.setTop (mkF m 6 #[.val (.int p1), .val (.int p2), .val (.int p3), .val (.int p4), .unset, .unset, .unset, .unset, .unset, .unset, .unset] [(.int v1)]))
  refine own_st (fun _ k => XS.istore X0.here hx rfl (hb hby at_6) rfl (l' := #[.val (.int p1), .val (.int p2), .val (.int p3), .val (.int p4), .val (.int v1), .unset, .unset, .unset, .unset, .unset, .unset]) rfl (XS.iloadN X0.here hx rfl (hb hby at_8) rfl (XS.iconst X0.here hx rfl (hb hby at_9) (XS.iand X0.here hx rfl (hb hby at_10) rfl k)))) ?_
  show own_Go p.tables e below RR (s₁.setTop (mkF m 11 #[.val (.int p1), .val (.int p2), .val (.int p3), .val (.int p4), .val (.int v1), .unset, .unset, .unset, .unset, .unset, .unset] [(.int (p4 &&& (1 : Int32)))]))
  by_cases hc11_2 : (p4 &&& (1 : Int32)) = (0 : Int32)
  · refine own_st (fun _ k => XS.ifYes X0.here hx rfl (pc0 := 11) (pc' := 18) rfl (hb hby at_11) rfl ((if0 _ _).trans (teq hc11_2).1) (by decide) (by decide) (XS.iconst X0.here hx rfl (hb hby at_18) (XS.istore X0.here hx rfl (hb hby at_19) rfl (l' := #[.val (.int p1), .val (.int p2), .val (.int p3), .val (.int p4), .val (.int v1), .val (.int (0 : Int32)), .unset, .unset, .unset, .unset, .unset]) rfl (XS.iload X0.here hx rfl (hb hby at_21) rfl k)))) ?_
    show own_Go p.tables e below RR (s₁.setTop (mkF m 23 #[.val (.int p1), .val (.int p2), .val (.int p3), .val (.int p4), .val (.int v1), .val (.int (0 : Int32)), .unset, .unset, .unset, .unset, .unset] [(.int (0 : Int32))]))
    refine own_st (fun _ k => XS.ifYes X0.here hx rfl (pc0 := 23) (pc' := 31) rfl (hb hby at_23) rfl ((if0 _ _).trans (teq (by decide)).1) (by decide) (by decide) (XS.sipush X0.here hx rfl (hb hby at_31) (XS.istore X0.here hx rfl (hb hby at_34) rfl (l' := #[.val (.int p1), .val (.int p2), .val (.int p3), .val (.int p4), .val (.int v1), .val (.int (0 : Int32)), .val (.int (256 : Int32)), .unset, .unset, .unset, .unset]) rfl (XS.iload X0.here hx rfl (hb hby at_36) rfl (XS.iconst X0.here hx rfl (hb hby at_38) (XS.isub X0.here hx rfl (hb hby at_39) rfl (XS.istore X0.here hx rfl (hb hby at_40) rfl (l' := #[.val (.int p1), .val (.int p2), .val (.int p3), .val (.int p4), .val (.int v1), .val (.int (0 : Int32)), .val (.int (256 : Int32)), .val (.int (255 : Int32)), .unset, .unset, .unset]) rfl (XS.iload X0.here hx rfl (hb hby at_42) rfl k)))))))) ?_
    show own_Go p.tables e below RR (s₁.setTop (mkF m 44 #[.val (.int p1), .val (.int p2), .val (.int p3), .val (.int p4), .val (.int v1), .val (.int (0 : Int32)), .val (.int (256 : Int32)), .val (.int (255 : Int32)), .unset, .unset, .unset] [(.int v1)]))
    obtain ⟨T3, h3, k3, X3, e3, E3, A3, st3⟩ := newP X0 hx hZ (hw _ (List.mem_of_getElem? (i := 1) rfl)) e0 (g := (mkF m 44 #[.val (.int p1), .val (.int p2), .val (.int p3), .val (.int p4), .val (.int v1), .val (.int (0 : Int32)), .val (.int (256 : Int32)), .val (.int (255 : Int32)), .unset, .unset, .unset] [(.int v1)])) rfl (hb hby at_44) rfl (own_nn0 (by have := own_ln gv1; omega)) (cap := 132) (by have := own_ln gv1; show v1.toInt.toNat ≤ 132; omega) (by decide) (by decide) (by decide)
    obtain ⟨b3, gb3⟩ : ∃ z, z = h0.size := ⟨_, rfl⟩
    rw [← gb3] at A3 st3
    have ge3 : n0 ≤ b3 := Nat.le_trans Z0 (Nat.le_of_eq gb3.symm)
    refine own_st st3 ?_
    have z4 : n0 ≤ h3.size := Nat.le_trans Z0 E3.1
    have V3 : Arv Z h3 b3 k3 .int v1 [] (.int (0 : Int32)) := Arv.new A3 (own_nn0 (by have := own_ln gv1; omega))
    show own_Go p.tables e below RR (T3.setTop (mkF m 46 #[.val (.int p1), .val (.int p2), .val (.int p3), .val (.int p4), .val (.int v1), .val (.int (0 : Int32)), .val (.int (256 : Int32)), .val (.int (255 : Int32)), .unset, .unset, .unset] [(.ref b3)]))
    have Vp0 := own_p132 V3
    have hln := own_ln gv1
    show own_Go p.tables e below RR (T3.setTop (mkF m 46 #[.val (.int p1), .val (.int p2), .val (.int p3), .val (.int p4), .val (.int v1), .val (.int (0 : Int32)), .val (.int (256 : Int32)), .val (.int (255 : Int32)), .unset, .unset, .unset] [(.ref b3)]))
    refine own_st (fun _ k => XS.astore X3.here hx rfl (hb hby at_46) rfl rfl (l' := #[.val (.int p1), .val (.int p2), .val (.int p3), .val (.int p4), .val (.int v1), .val (.int (0 : Int32)), .val (.int (256 : Int32)), .val (.int (255 : Int32)), .val (.ref b3), .unset, .unset]) rfl (XS.aload X3.here hx rfl (hb hby at_48) rfl rfl (XS.iconst X3.here hx rfl (hb hby at_50) (XS.iloadN X3.here hx rfl (hb hby at_51) rfl (XS.iload X3.here hx rfl (hb hby at_52) rfl (XS.iand X3.here hx rfl (hb hby at_54) rfl k)))))) ?_
    show own_Go p.tables e below RR (T3.setTop (mkF m 55 #[.val (.int p1), .val (.int p2), .val (.int p3), .val (.int p4), .val (.int v1), .val (.int (0 : Int32)), .val (.int (256 : Int32)), .val (.int (255 : Int32)), .val (.ref b3), .unset, .unset] [(.int (p2 &&& (255 : Int32))), (.int (0 : Int32)), (.ref b3)]))
    obtain ⟨c5, A5, q5, s5, m5, H5, G5⟩ := id Vp0
    obtain ⟨T6, h6, X6, e6, W6, st6⟩ := stI X3 hx hZ e3 A5 (j := (0 : Int32)) (inb_of s5 ⟨by decide, own_ltv rfl (by have e : (0 : Int32).toInt = 0 := (by decide); omega)⟩) (g := (mkF m 55 #[.val (.int p1), .val (.int p2), .val (.int p3), .val (.int p4), .val (.int v1), .val (.int (0 : Int32)), .val (.int (256 : Int32)), .val (.int (255 : Int32)), .val (.ref b3), .unset, .unset] [(.int (p2 &&& (255 : Int32))), (.int (0 : Int32)), (.ref b3)])) rfl rfl (hb hby at_55)
    have U6 := Arv.set A5 q5 s5 m5 H5 G5 rfl W6 0 rfl (by rw [List.length_replicate]; decide)
    have V6 : Arv Z h6 b3 k3 .int v1 ((List.replicate 132 (Value.int (0 : Int32))).set 0 (.int (p2 &&& (255 : Int32)))) (.int (0 : Int32)) := U6
    have N6 := Fr.snoc X6 N0 ge3
    refine own_st st6 ?_
    have z7 : n0 ≤ h6.size := Nat.le_trans z4 (Keep.of_wr W6).1
    show own_Go p.tables e below RR (T6.setTop (mkF m 56 #[.val (.int p1), .val (.int p2), .val (.int p3), .val (.int p4), .val (.int v1), .val (.int (0 : Int32)), .val (.int (256 : Int32)), .val (.int (255 : Int32)), .val (.ref b3), .unset, .unset] []))
    refine own_st (fun _ k => XS.aload X6.here hx rfl (hb hby at_56) rfl rfl (XS.iload X6.here hx rfl (hb hby at_58) rfl (XS.iconst X6.here hx rfl (hb hby at_60) (XS.isub X6.here hx rfl (hb hby at_61) rfl (XS.iloadN X6.here hx rfl (hb hby at_62) rfl (XS.iload X6.here hx rfl (hb hby at_63) rfl (XS.iand X6.here hx rfl (hb hby at_65) rfl k))))))) ?_
    show own_Go p.tables e below RR (T6.setTop (mkF m 66 #[.val (.int p1), .val (.int p2), .val (.int p3), .val (.int p4), .val (.int v1), .val (.int (0 : Int32)), .val (.int (256 : Int32)), .val (.int (255 : Int32)), .val (.ref b3), .unset, .unset] [(.int (p3 &&& (255 : Int32))), (.int (v1 - (1 : Int32))), (.ref b3)]))
    obtain ⟨c8, A8, q8, s8, m8, H8, G8⟩ := id V6
    obtain ⟨T9, h9, X9, e9, W9, st9⟩ := stI X6 hx hZ e6 A8 (j := (v1 - (1 : Int32))) (inb_of s8 ⟨own_nn0 (own_l1 hln).1, own_ltv rfl (own_l1 hln).2⟩) (g := (mkF m 66 #[.val (.int p1), .val (.int p2), .val (.int p3), .val (.int p4), .val (.int v1), .val (.int (0 : Int32)), .val (.int (256 : Int32)), .val (.int (255 : Int32)), .val (.ref b3), .unset, .unset] [(.int (p3 &&& (255 : Int32))), (.int (v1 - (1 : Int32))), (.ref b3)])) rfl rfl (hb hby at_66)
    have ij : (v1 - (1 : Int32)).toNatClampNeg < 132 := own_tnN (n := 132) (by have := own_l1 hln; omega)
    have U9 := Arv.set A8 q8 s8 m8 H8 G8 rfl W9 (v1 - (1 : Int32)).toNatClampNeg rfl (by rw [List.length_set, List.length_replicate]; exact ij)
    have V9 : Arv Z h9 b3 k3 .int v1 (((List.replicate 132 (Value.int (0 : Int32))).set 0 (.int (p2 &&& (255 : Int32)))).set (v1 - (1 : Int32)).toNatClampNeg (.int (p3 &&& (255 : Int32)))) (.int (0 : Int32)) := U9
    have hpat : own_pat (((List.replicate 132 (Value.int (0 : Int32))).set 0 (.int (p2 &&& (255 : Int32)))).set (v1 - (1 : Int32)).toNatClampNeg (.int (p3 &&& (255 : Int32)))) (p2 &&& (255 : Int32)) (p3 &&& (255 : Int32)) := own_patL _ _ _ _ (by decide) ij
    have N9 := Fr.snoc X9 N6 ge3
    refine own_st st9 ?_
    have z10 : n0 ≤ h9.size := Nat.le_trans z7 (Keep.of_wr W9).1
    show own_Go p.tables e below RR (T9.setTop (mkF m 67 #[.val (.int p1), .val (.int p2), .val (.int p3), .val (.int p4), .val (.int v1), .val (.int (0 : Int32)), .val (.int (256 : Int32)), .val (.int (255 : Int32)), .val (.ref b3), .unset, .unset] []))
    obtain ⟨T11, h11, X11, e11, E11, A11, D11, -, st11⟩ := newO X9 hx hZ hown (hw _ (List.mem_of_getElem? (i := 2) rfl)) (hw _ (List.mem_of_getElem? (i := 3) rfl)) (hw _ (List.mem_of_getElem? (i := 4) rfl)) e9 (g := (mkF m 67 #[.val (.int p1), .val (.int p2), .val (.int p3), .val (.int p4), .val (.int v1), .val (.int (0 : Int32)), .val (.int (256 : Int32)), .val (.int (255 : Int32)), .val (.ref b3), .unset, .unset] [])) rfl (hb hby at_67) (by decide) (by decide)
    obtain ⟨b11, gb11⟩ : ∃ z, z = h9.size := ⟨_, rfl⟩
    rw [← gb11] at A11 D11 st11
    have ge11 : n0 ≤ b11 := Nat.le_trans z10 (Nat.le_of_eq gb11.symm)
    refine own_st st11 ?_
    have z12 : n0 ≤ h11.size := Nat.le_trans z10 E11.1
    have F11_12 : Fld Z h11 b11 "com/example/shiftwise/shiftwise/search/FactorSkip" "pattern" "[I" .null := D11 (Or.inr (hw _ (List.mem_of_getElem? (i := 12) rfl))) (ty := (.array .int)) (by decide)
    have F11_18 : Fld Z h11 b11 "com/example/shiftwise/shiftwise/search/FactorSkip" "width" "I" (.int (0 : Int32)) := D11 (Or.inr (hw _ (List.mem_of_getElem? (i := 18) rfl))) (ty := .int) (by decide)
    have F11_26 : Fld Z h11 b11 "com/example/shiftwise/shiftwise/search/FactorSkip" "gram" "I" (.int (0 : Int32)) := D11 (Or.inr (hw _ (List.mem_of_getElem? (i := 26) rfl))) (ty := .int) (by decide)
    have F11_28 : Fld Z h11 b11 "com/example/shiftwise/shiftwise/search/FactorSkip" "stride" "I" (.int (0 : Int32)) := D11 (Or.inr (hw _ (List.mem_of_getElem? (i := 28) rfl))) (ty := .int) (by decide)
    have F11_31 : Fld Z h11 b11 "com/example/shiftwise/shiftwise/search/FactorSkip" "gramBytes" "J" (.long (0 : Int64)) := D11 (Or.inr (hw _ (List.mem_of_getElem? (i := 31) rfl))) (ty := .long) (by decide)
    have F11_46 : Fld Z h11 b11 "com/example/shiftwise/shiftwise/search/FactorSkip" "positions" "[[J" .null := D11 (Or.inr (hw _ (List.mem_of_getElem? (i := 46) rfl))) (ty := (.array (.array .long))) (by decide)
    have F11_59 : Fld Z h11 b11 "com/example/shiftwise/shiftwise/search/FactorSkip" "factorGrams" "[B" .null := D11 (Or.inr (hw _ (List.mem_of_getElem? (i := 59) rfl))) (ty := (.array .byte)) (by decide)
    show own_Go p.tables e below RR (T11.setTop (mkF m 70 #[.val (.int p1), .val (.int p2), .val (.int p3), .val (.int p4), .val (.int v1), .val (.int (0 : Int32)), .val (.int (256 : Int32)), .val (.int (255 : Int32)), .val (.ref b3), .unset, .unset] [(.ref b11)]))
    refine own_st (fun _ k => XS.dup X11.here hx rfl (hb hby at_70) rfl rfl (XS.aload X11.here hx rfl (hb hby at_71) rfl rfl (XS.iload X11.here hx rfl (hb hby at_73) rfl k))) ?_
    show own_Go p.tables e below RR (T11.setTop (mkF m 75 #[.val (.int p1), .val (.int p2), .val (.int p3), .val (.int p4), .val (.int v1), .val (.int (0 : Int32)), .val (.int (256 : Int32)), .val (.int (255 : Int32)), .val (.ref b3), .unset, .unset] [(.int (256 : Int32)), (.ref b3), (.ref b11), (.ref b11)]))
    have f13 := (V9.ext E11)
    have f14 := ((((S_ABSENT.ext E3).wr W6).wr W9).ext E11)
    have f15 := ((((E_ABSENT.ext E3).wr W6).wr W9).ext E11)
    obtain ⟨_, _, ⟨T16, L16, k16, n16⟩, -, X16, ⟨Lc16, hQ16, l16, y16, z16⟩, st16⟩ := X11.specialBack hx (y := (⟨"com/example/shiftwise/shiftwise/search/FactorSkip", "<init>", "([II)V"⟩ : MethodName)) rfl hown (mvT hZ (hw _ (List.mem_of_getElem? (i := 5) rfl))) (mvT hZ (hw _ (List.mem_of_getElem? (i := 6) rfl))) (mvT hZ (hw _ (List.mem_of_getElem? (i := 7) rfl))) (by decide) (backOf (W := 1) (own_rmIN1 l Z a0 hw [] b11 b3 k3 v1 (((List.replicate 132 (Value.int (0 : Int32))).set 0 (.int (p2 &&& (255 : Int32)))).set (v1 - (1 : Int32)).toNatClampNeg (.int (p3 &&& (255 : Int32)))) (p2 &&& (255 : Int32)) (p3 &&& (255 : Int32)) a_ABSENT h11 n0 z12 ge11 A11 F11_12 F11_18 F11_26 F11_28 F11_31 F11_46 F11_59 f13 hpat hln (own_mk (n := 255) (by decide) (by decide)) (own_mk (n := 255) (by decide) (by decide)) f14 f15) hZ (hw _ (List.mem_of_getElem? (i := 7) rfl)) (hw _ (List.mem_of_getElem? (i := 4) rfl)) (by decide) (by decide)) (g := (mkF m 75 #[.val (.int p1), .val (.int p2), .val (.int p3), .val (.int p4), .val (.int v1), .val (.int (0 : Int32)), .val (.int (256 : Int32)), .val (.int (255 : Int32)), .val (.ref b3), .unset, .unset] [(.int (256 : Int32)), (.ref b3), (.ref b11), (.ref b11)])) rfl (by rw [hml]; rfl) (Steps.refl _) (a := b11) (argsL := [(.ref b3), (.int (256 : Int32))]) (rest := [(.ref b11)]) (lenOf own_pd___II_V rfl) rfl (by show 2 * 0 + _ ≤ _; exact Nat.le_of_eq rfl) (hb hby at_75) (fun _ _ => ⟨rfl, e11, (by decide : 2 + 5 ≤ _), (by decide : 139 + 8961 ≤ _)⟩)
    dsimp only [Pt.U, Pt.locs, Pt.cells, Pt.slots] at X16 l16 y16 z16 st16 hQ16
    subst l16 y16 z16
    obtain ⟨rfl, Nq16, Kq16, Fg16, Fs16, Eq16⟩ := hQ16
    have N16 := Fr.app N9 Nq16
    refine own_st (fun _ k => st16.trans k) ?_
    have z17 : n0 ≤ T16.heap.size := Nat.le_trans z12 Kq16.1
    show own_Go p.tables e below RR (T16.setTop (mkF m 78 #[.val (.int p1), .val (.int p2), .val (.int p3), .val (.int p4), .val (.int v1), .val (.int (0 : Int32)), .val (.int (256 : Int32)), .val (.int (255 : Int32)), .val (.ref b3), .unset, .unset] [(.ref b11)]))
    refine own_st (fun _ k => XS.astore X16.here hx rfl (hb hby at_78) rfl rfl (l' := #[.val (.int p1), .val (.int p2), .val (.int p3), .val (.int p4), .val (.int v1), .val (.int (0 : Int32)), .val (.int (256 : Int32)), .val (.int (255 : Int32)), .val (.ref b3), .val (.ref b11), .unset]) rfl (XS.iload X16.here hx rfl (hb hby at_80) rfl (XS.bipush X16.here hx rfl (hb hby at_82) k))) ?_
    show own_Go p.tables e below RR (T16.setTop (mkF m 84 #[.val (.int p1), .val (.int p2), .val (.int p3), .val (.int p4), .val (.int v1), .val (.int (0 : Int32)), .val (.int (256 : Int32)), .val (.int (255 : Int32)), .val (.ref b3), .val (.ref b11), .unset] [(.int (53 : Int32)), (.int v1)]))
    by_cases hc84_18 : v1 < (53 : Int32)
    · refine own_st (fun _ k => XS.icmpYes X16.here hx rfl (pc0 := 84) (pc' := 93) rfl (hb hby at_84) rfl (tlt hc84_18).1 (by decide) (by decide) k) ?_
      show own_Go p.tables e below RR (T16.setTop (mkF m 93 #[.val (.int p1), .val (.int p2), .val (.int p3), .val (.int p4), .val (.int v1), .val (.int (0 : Int32)), .val (.int (256 : Int32)), .val (.int (255 : Int32)), .val (.ref b3), .val (.ref b11), .unset] []))
      have f19 := (own_staK ((((S_BYTES_IF_HELD.ext E3).wr W6).wr W9).ext E11) Kq16 (allS A11.nostat all0))
      obtain ⟨T20, X20, e20, st20⟩ := getS2 X16 hx hZ hown (host := "") (Or.inl (hw _ (List.mem_of_getElem? (i := 60) rfl))) Via.refl rfl f19 (g := (mkF m 93 #[.val (.int p1), .val (.int p2), .val (.int p3), .val (.int p4), .val (.int v1), .val (.int (0 : Int32)), .val (.int (256 : Int32)), .val (.int (255 : Int32)), .val (.ref b3), .val (.ref b11), .unset] [])) rfl (hb hby at_93)
      refine own_st st20 ?_
      show own_Go p.tables e below RR (T20.setTop (mkF m 96 #[.val (.int p1), .val (.int p2), .val (.int p3), .val (.int p4), .val (.int v1), .val (.int (0 : Int32)), .val (.int (256 : Int32)), .val (.int (255 : Int32)), .val (.ref b3), .val (.ref b11), .unset] [(.ref a_BYTES_IF_HELD)]))
      refine own_st (fun _ k => XS.astore X20.here hx rfl (hb hby at_96) rfl rfl (l' := #[.val (.int p1), .val (.int p2), .val (.int p3), .val (.int p4), .val (.int v1), .val (.int (0 : Int32)), .val (.int (256 : Int32)), .val (.int (255 : Int32)), .val (.ref b3), .val (.ref b11), .val (.ref a_BYTES_IF_HELD)]) rfl (XS.aload X20.here hx rfl (hb hby at_98) rfl rfl k)) ?_
      show own_Go p.tables e below RR (T20.setTop (mkF m 100 #[.val (.int p1), .val (.int p2), .val (.int p3), .val (.int p4), .val (.int v1), .val (.int (0 : Int32)), .val (.int (256 : Int32)), .val (.int (255 : Int32)), .val (.ref b3), .val (.ref b11), .val (.ref a_BYTES_IF_HELD)] [(.ref b11)]))
      have f21 := (own_staK ((((S_WHOLE.ext E3).wr W6).wr W9).ext E11) Kq16 (allS A11.nostat all0))
      obtain ⟨cq22, kq22, q22a, q22b, q22c⟩ := isOf hZ e20 Eq16
      obtain ⟨_, _, ⟨T22, L22, k22, n22⟩, -, X22, ⟨Lc22, hQ22, l22, y22, z22⟩, st22⟩ := X20.virtualBack hx (y := (⟨"com/example/shiftwise/shiftwise/search/FactorSkip", "charWindows", "()Lcom/example/shiftwise/shiftwise/search/CharWindows;"⟩ : MethodName)) (z := (⟨"com/example/shiftwise/shiftwise/search/FactorSkip", "charWindows", "()Lcom/example/shiftwise/shiftwise/search/CharWindows;"⟩ : MethodName)) hown (mvT hZ (hw _ (List.mem_of_getElem? (i := 63) rfl))) (mvT hZ (hw _ (List.mem_of_getElem? (i := 64) rfl))) (notFace_of_selects (args := #[]) (mvT hZ (hw _ (List.mem_of_getElem? (i := 66) rfl)))) (mvT hZ (hw _ (List.mem_of_getElem? (i := 66) rfl))) (mvT hZ (hw _ (List.mem_of_getElem? (i := 65) rfl))) (by decide) (backOf (W := 0) (own_rmCW l Z a0 hw [] b11 (own_gm (own_mn v1 (64 : Int32))) (((own_mn v1 (64 : Int32)) - (own_gm (own_mn v1 (64 : Int32)))) + (1 : Int32)) a_WHOLE a_BYTES_IF_HELD a_BYTES_IF_HELD T16.heap n0 z17 Fg16 Fs16 f21 f19 (if_pos ((own_cw hln).mpr hc84_18))) hZ (hw _ (List.mem_of_getElem? (i := 67) rfl)) (hw _ (List.mem_of_getElem? (i := 4) rfl)) (by decide) (by decide)) q22a q22c (g := (mkF m 100 #[.val (.int p1), .val (.int p2), .val (.int p3), .val (.int p4), .val (.int v1), .val (.int (0 : Int32)), .val (.int (256 : Int32)), .val (.int (255 : Int32)), .val (.ref b3), .val (.ref b11), .val (.ref a_BYTES_IF_HELD)] [(.ref b11)])) rfl (by rw [hml]; rfl) (Steps.refl _) (argsL := []) (rest := []) (lenOf own_pd___Lcom_example_shiftwise_shiftwise_search_CharWindows_ rfl) rfl (by show 2 * 0 + _ ≤ _; exact Nat.le_of_eq rfl) (hb hby at_100) (fun _ _ => ⟨rfl, e20, (by decide : 7 + 0 ≤ _), (by decide : 9100 + 0 ≤ _)⟩)
      dsimp only [Pt.U, Pt.locs, Pt.cells, Pt.slots] at X22 l22 y22 z22 st22 hQ22
      subst l22 y22 z22
      obtain ⟨rfl, Nq22, eq22⟩ := hQ22
      have N22 := Fr.app N16 Nq22
      refine own_st (fun _ k => st22.trans k) ?_
      show own_Go p.tables e below RR (T22.setTop (mkF m 103 #[.val (.int p1), .val (.int p2), .val (.int p3), .val (.int p4), .val (.int v1), .val (.int (0 : Int32)), .val (.int (256 : Int32)), .val (.int (255 : Int32)), .val (.ref b3), .val (.ref b11), .val (.ref a_BYTES_IF_HELD)] [(.ref a_BYTES_IF_HELD)]))
      refine own_st (fun _ k => XS.aload X22.here hx rfl (hb hby at_103) rfl rfl k) ?_
      show own_Go p.tables e below RR (T22.setTop (mkF m 105 #[.val (.int p1), .val (.int p2), .val (.int p3), .val (.int p4), .val (.int v1), .val (.int (0 : Int32)), .val (.int (256 : Int32)), .val (.int (255 : Int32)), .val (.ref b3), .val (.ref b11), .val (.ref a_BYTES_IF_HELD)] [(.ref a_BYTES_IF_HELD), (.ref a_BYTES_IF_HELD)]))
      refine own_st (fun _ k => Jvm.RoadKit.acmp (g := (mkF m 105 #[.val (.int p1), .val (.int p2), .val (.int p3), .val (.int p4), .val (.int v1), .val (.int (0 : Int32)), .val (.int (256 : Int32)), .val (.int (255 : Int32)), .val (.ref b3), .val (.ref b11), .val (.ref a_BYTES_IF_HELD)] [(.ref a_BYTES_IF_HELD), (.ref a_BYTES_IF_HELD)])) X22 hx rfl rfl rfl (pc0 := 105) (pc' := 108) (same := true) rfl (hb hby at_105) rfl (decide_eq_true rfl) (by decide) (by decide) (XS.iconst X22.here hx rfl (hb hby at_108) (XS.goto X22.here hx rfl (pc0 := 109) (pc' := 113) rfl (hb hby at_109) (by decide) (by decide) k))) ?_
      show own_Go p.tables e below RR (T22.setTop (mkF m 113 #[.val (.int p1), .val (.int p2), .val (.int p3), .val (.int p4), .val (.int v1), .val (.int (0 : Int32)), .val (.int (256 : Int32)), .val (.int (255 : Int32)), .val (.ref b3), .val (.ref b11), .val (.ref a_BYTES_IF_HELD)] [(.int (1 : Int32))]))
      obtain ⟨fs, hrt_, hrun, hended, hW, hsame⟩ := X22.leave (v := some (.int (1 : Int32))) (fun h => by rw [Bd.returns] at h; cases h)
      refine own_fin (retN X22 hx (t := .boolean) Bd.returns (by simp) (hb hby at_113) hrt_) (hRR _ ⟨_, hrun, hended, _, _, rfl, ?_, ⟨_, rfl⟩, hW, hsame.mono (by decide) (by decide)⟩)
      show own_Q0 Z p1 p2 p3 p4 a_ABSENT a_BYTES_IF_HELD a_WHOLE h0 n0 _ T22.heap _
      rw [eq22]
      exact ⟨rfl, N22⟩
    · refine own_st (fun _ k => XS.icmpNo X16.here hx rfl (hb hby at_84) rfl (flt hc84_18).1 k) ?_
      show own_Go p.tables e below RR (T16.setTop (mkF m 87 #[.val (.int p1), .val (.int p2), .val (.int p3), .val (.int p4), .val (.int v1), .val (.int (0 : Int32)), .val (.int (256 : Int32)), .val (.int (255 : Int32)), .val (.ref b3), .val (.ref b11), .unset] []))
      have f23 := (own_staK ((((S_WHOLE.ext E3).wr W6).wr W9).ext E11) Kq16 (allS A11.nostat all0))
      obtain ⟨T24, X24, e24, st24⟩ := getS2 X16 hx hZ hown (host := "") (Or.inl (hw _ (List.mem_of_getElem? (i := 70) rfl))) Via.refl rfl f23 (g := (mkF m 87 #[.val (.int p1), .val (.int p2), .val (.int p3), .val (.int p4), .val (.int v1), .val (.int (0 : Int32)), .val (.int (256 : Int32)), .val (.int (255 : Int32)), .val (.ref b3), .val (.ref b11), .unset] [])) rfl (hb hby at_87)
      refine own_st st24 ?_
      show own_Go p.tables e below RR (T24.setTop (mkF m 90 #[.val (.int p1), .val (.int p2), .val (.int p3), .val (.int p4), .val (.int v1), .val (.int (0 : Int32)), .val (.int (256 : Int32)), .val (.int (255 : Int32)), .val (.ref b3), .val (.ref b11), .unset] [(.ref a_WHOLE)]))
      refine own_st (fun _ k => XS.goto X24.here hx rfl (pc0 := 90) (pc' := 96) rfl (hb hby at_90) (by decide) (by decide) (XS.astore X24.here hx rfl (hb hby at_96) rfl rfl (l' := #[.val (.int p1), .val (.int p2), .val (.int p3), .val (.int p4), .val (.int v1), .val (.int (0 : Int32)), .val (.int (256 : Int32)), .val (.int (255 : Int32)), .val (.ref b3), .val (.ref b11), .val (.ref a_WHOLE)]) rfl (XS.aload X24.here hx rfl (hb hby at_98) rfl rfl k))) ?_
      show own_Go p.tables e below RR (T24.setTop (mkF m 100 #[.val (.int p1), .val (.int p2), .val (.int p3), .val (.int p4), .val (.int v1), .val (.int (0 : Int32)), .val (.int (256 : Int32)), .val (.int (255 : Int32)), .val (.ref b3), .val (.ref b11), .val (.ref a_WHOLE)] [(.ref b11)]))
      have f25 := (own_staK ((((S_BYTES_IF_HELD.ext E3).wr W6).wr W9).ext E11) Kq16 (allS A11.nostat all0))
      obtain ⟨cq26, kq26, q26a, q26b, q26c⟩ := isOf hZ e24 Eq16
      obtain ⟨_, _, ⟨T26, L26, k26, n26⟩, -, X26, ⟨Lc26, hQ26, l26, y26, z26⟩, st26⟩ := X24.virtualBack hx (y := (⟨"com/example/shiftwise/shiftwise/search/FactorSkip", "charWindows", "()Lcom/example/shiftwise/shiftwise/search/CharWindows;"⟩ : MethodName)) (z := (⟨"com/example/shiftwise/shiftwise/search/FactorSkip", "charWindows", "()Lcom/example/shiftwise/shiftwise/search/CharWindows;"⟩ : MethodName)) hown (mvT hZ (hw _ (List.mem_of_getElem? (i := 63) rfl))) (mvT hZ (hw _ (List.mem_of_getElem? (i := 64) rfl))) (notFace_of_selects (args := #[]) (mvT hZ (hw _ (List.mem_of_getElem? (i := 66) rfl)))) (mvT hZ (hw _ (List.mem_of_getElem? (i := 66) rfl))) (mvT hZ (hw _ (List.mem_of_getElem? (i := 65) rfl))) (by decide) (backOf (W := 0) (own_rmCW l Z a0 hw [] b11 (own_gm (own_mn v1 (64 : Int32))) (((own_mn v1 (64 : Int32)) - (own_gm (own_mn v1 (64 : Int32)))) + (1 : Int32)) a_WHOLE a_BYTES_IF_HELD a_WHOLE T16.heap n0 z17 Fg16 Fs16 f23 f25 (if_neg (fun q => hc84_18 ((own_cw hln).mp q)))) hZ (hw _ (List.mem_of_getElem? (i := 67) rfl)) (hw _ (List.mem_of_getElem? (i := 4) rfl)) (by decide) (by decide)) q26a q26c (g := (mkF m 100 #[.val (.int p1), .val (.int p2), .val (.int p3), .val (.int p4), .val (.int v1), .val (.int (0 : Int32)), .val (.int (256 : Int32)), .val (.int (255 : Int32)), .val (.ref b3), .val (.ref b11), .val (.ref a_WHOLE)] [(.ref b11)])) rfl (by rw [hml]; rfl) (Steps.refl _) (argsL := []) (rest := []) (lenOf own_pd___Lcom_example_shiftwise_shiftwise_search_CharWindows_ rfl) rfl (by show 2 * 0 + _ ≤ _; exact Nat.le_of_eq rfl) (hb hby at_100) (fun _ _ => ⟨rfl, e24, (by decide : 7 + 0 ≤ _), (by decide : 9100 + 0 ≤ _)⟩)
      dsimp only [Pt.U, Pt.locs, Pt.cells, Pt.slots] at X26 l26 y26 z26 st26 hQ26
      subst l26 y26 z26
      obtain ⟨rfl, Nq26, eq26⟩ := hQ26
      have N26 := Fr.app N16 Nq26
      refine own_st (fun _ k => st26.trans k) ?_
      show own_Go p.tables e below RR (T26.setTop (mkF m 103 #[.val (.int p1), .val (.int p2), .val (.int p3), .val (.int p4), .val (.int v1), .val (.int (0 : Int32)), .val (.int (256 : Int32)), .val (.int (255 : Int32)), .val (.ref b3), .val (.ref b11), .val (.ref a_WHOLE)] [(.ref a_WHOLE)]))
      refine own_st (fun _ k => XS.aload X26.here hx rfl (hb hby at_103) rfl rfl k) ?_
      show own_Go p.tables e below RR (T26.setTop (mkF m 105 #[.val (.int p1), .val (.int p2), .val (.int p3), .val (.int p4), .val (.int v1), .val (.int (0 : Int32)), .val (.int (256 : Int32)), .val (.int (255 : Int32)), .val (.ref b3), .val (.ref b11), .val (.ref a_WHOLE)] [(.ref a_WHOLE), (.ref a_WHOLE)]))
      refine own_st (fun _ k => Jvm.RoadKit.acmp (g := (mkF m 105 #[.val (.int p1), .val (.int p2), .val (.int p3), .val (.int p4), .val (.int v1), .val (.int (0 : Int32)), .val (.int (256 : Int32)), .val (.int (255 : Int32)), .val (.ref b3), .val (.ref b11), .val (.ref a_WHOLE)] [(.ref a_WHOLE), (.ref a_WHOLE)])) X26 hx rfl rfl rfl (pc0 := 105) (pc' := 108) (same := true) rfl (hb hby at_105) rfl (decide_eq_true rfl) (by decide) (by decide) (XS.iconst X26.here hx rfl (hb hby at_108) (XS.goto X26.here hx rfl (pc0 := 109) (pc' := 113) rfl (hb hby at_109) (by decide) (by decide) k))) ?_
      show own_Go p.tables e below RR (T26.setTop (mkF m 113 #[.val (.int p1), .val (.int p2), .val (.int p3), .val (.int p4), .val (.int v1), .val (.int (0 : Int32)), .val (.int (256 : Int32)), .val (.int (255 : Int32)), .val (.ref b3), .val (.ref b11), .val (.ref a_WHOLE)] [(.int (1 : Int32))]))
      obtain ⟨fs, hrt_, hrun, hended, hW, hsame⟩ := X26.leave (v := some (.int (1 : Int32))) (fun h => by rw [Bd.returns] at h; cases h)
      refine own_fin (retN X26 hx (t := .boolean) Bd.returns (by simp) (hb hby at_113) hrt_) (hRR _ ⟨_, hrun, hended, _, _, rfl, ?_, ⟨_, rfl⟩, hW, hsame.mono (by decide) (by decide)⟩)
      show own_Q0 Z p1 p2 p3 p4 a_ABSENT a_BYTES_IF_HELD a_WHOLE h0 n0 _ T26.heap _
      rw [eq26]
      exact ⟨rfl, N26⟩
  · refine own_st (fun _ k => XS.ifNo X0.here hx rfl (hb hby at_11) rfl ((if0 _ _).trans (feq hc11_2).1) (XS.iconst X0.here hx rfl (hb hby at_14) (XS.goto X0.here hx rfl (pc0 := 15) (pc' := 19) rfl (hb hby at_15) (by decide) (by decide) (XS.istore X0.here hx rfl (hb hby at_19) rfl (l' := #[.val (.int p1), .val (.int p2), .val (.int p3), .val (.int p4), .val (.int v1), .val (.int (1 : Int32)), .unset, .unset, .unset, .unset, .unset]) rfl (XS.iload X0.here hx rfl (hb hby at_21) rfl k))))) ?_
    show own_Go p.tables e below RR (s₁.setTop (mkF m 23 #[.val (.int p1), .val (.int p2), .val (.int p3), .val (.int p4), .val (.int v1), .val (.int (1 : Int32)), .unset, .unset, .unset, .unset, .unset] [(.int (1 : Int32))]))
    refine own_st (fun _ k => XS.ifNo X0.here hx rfl (hb hby at_23) rfl ((if0 _ _).trans (feq (by decide)).1) (X0.ldcInt hx hown (mvT hZ (hw _ (List.mem_of_getElem? (i := 0) rfl))) (g := (mkF m 26 #[.val (.int p1), .val (.int p2), .val (.int p3), .val (.int p4), .val (.int v1), .val (.int (1 : Int32)), .unset, .unset, .unset, .unset, .unset] [])) rfl (hb hby at_26) _ (XS.goto X0.here hx rfl (pc0 := 28) (pc' := 34) rfl (hb hby at_28) (by decide) (by decide) (XS.istore X0.here hx rfl (hb hby at_34) rfl (l' := #[.val (.int p1), .val (.int p2), .val (.int p3), .val (.int p4), .val (.int v1), .val (.int (1 : Int32)), .val (.int (65536 : Int32)), .unset, .unset, .unset, .unset]) rfl (XS.iload X0.here hx rfl (hb hby at_36) rfl (XS.iconst X0.here hx rfl (hb hby at_38) (XS.isub X0.here hx rfl (hb hby at_39) rfl (XS.istore X0.here hx rfl (hb hby at_40) rfl (l' := #[.val (.int p1), .val (.int p2), .val (.int p3), .val (.int p4), .val (.int v1), .val (.int (1 : Int32)), .val (.int (65536 : Int32)), .val (.int (65535 : Int32)), .unset, .unset, .unset]) rfl k)))))))) ?_
    show own_Go p.tables e below RR (s₁.setTop (mkF m 42 #[.val (.int p1), .val (.int p2), .val (.int p3), .val (.int p4), .val (.int v1), .val (.int (1 : Int32)), .val (.int (65536 : Int32)), .val (.int (65535 : Int32)), .unset, .unset, .unset] []))
    refine own_st (fun _ k => XS.iload X0.here hx rfl (hb hby at_42) rfl k) ?_
    show own_Go p.tables e below RR (s₁.setTop (mkF m 44 #[.val (.int p1), .val (.int p2), .val (.int p3), .val (.int p4), .val (.int v1), .val (.int (1 : Int32)), .val (.int (65536 : Int32)), .val (.int (65535 : Int32)), .unset, .unset, .unset] [(.int v1)]))
    obtain ⟨T27, h27, k27, X27, e27, E27, A27, st27⟩ := newP X0 hx hZ (hw _ (List.mem_of_getElem? (i := 1) rfl)) e0 (g := (mkF m 44 #[.val (.int p1), .val (.int p2), .val (.int p3), .val (.int p4), .val (.int v1), .val (.int (1 : Int32)), .val (.int (65536 : Int32)), .val (.int (65535 : Int32)), .unset, .unset, .unset] [(.int v1)])) rfl (hb hby at_44) rfl (own_nn0 (by have := own_ln gv1; omega)) (cap := 132) (by have := own_ln gv1; show v1.toInt.toNat ≤ 132; omega) (by decide) (by decide) (by decide)
    obtain ⟨b27, gb27⟩ : ∃ z, z = h0.size := ⟨_, rfl⟩
    rw [← gb27] at A27 st27
    have ge27 : n0 ≤ b27 := Nat.le_trans Z0 (Nat.le_of_eq gb27.symm)
    refine own_st st27 ?_
    have z28 : n0 ≤ h27.size := Nat.le_trans Z0 E27.1
    have V27 : Arv Z h27 b27 k27 .int v1 [] (.int (0 : Int32)) := Arv.new A27 (own_nn0 (by have := own_ln gv1; omega))
    show own_Go p.tables e below RR (T27.setTop (mkF m 46 #[.val (.int p1), .val (.int p2), .val (.int p3), .val (.int p4), .val (.int v1), .val (.int (1 : Int32)), .val (.int (65536 : Int32)), .val (.int (65535 : Int32)), .unset, .unset, .unset] [(.ref b27)]))
    have Vp0 := own_p132 V27
    have hln := own_ln gv1
    show own_Go p.tables e below RR (T27.setTop (mkF m 46 #[.val (.int p1), .val (.int p2), .val (.int p3), .val (.int p4), .val (.int v1), .val (.int (1 : Int32)), .val (.int (65536 : Int32)), .val (.int (65535 : Int32)), .unset, .unset, .unset] [(.ref b27)]))
    refine own_st (fun _ k => XS.astore X27.here hx rfl (hb hby at_46) rfl rfl (l' := #[.val (.int p1), .val (.int p2), .val (.int p3), .val (.int p4), .val (.int v1), .val (.int (1 : Int32)), .val (.int (65536 : Int32)), .val (.int (65535 : Int32)), .val (.ref b27), .unset, .unset]) rfl (XS.aload X27.here hx rfl (hb hby at_48) rfl rfl (XS.iconst X27.here hx rfl (hb hby at_50) (XS.iloadN X27.here hx rfl (hb hby at_51) rfl (XS.iload X27.here hx rfl (hb hby at_52) rfl (XS.iand X27.here hx rfl (hb hby at_54) rfl k)))))) ?_
    show own_Go p.tables e below RR (T27.setTop (mkF m 55 #[.val (.int p1), .val (.int p2), .val (.int p3), .val (.int p4), .val (.int v1), .val (.int (1 : Int32)), .val (.int (65536 : Int32)), .val (.int (65535 : Int32)), .val (.ref b27), .unset, .unset] [(.int (p2 &&& (65535 : Int32))), (.int (0 : Int32)), (.ref b27)]))
    obtain ⟨c29, A29, q29, s29, m29, H29, G29⟩ := id Vp0
    obtain ⟨T30, h30, X30, e30, W30, st30⟩ := stI X27 hx hZ e27 A29 (j := (0 : Int32)) (inb_of s29 ⟨by decide, own_ltv rfl (by have e : (0 : Int32).toInt = 0 := (by decide); omega)⟩) (g := (mkF m 55 #[.val (.int p1), .val (.int p2), .val (.int p3), .val (.int p4), .val (.int v1), .val (.int (1 : Int32)), .val (.int (65536 : Int32)), .val (.int (65535 : Int32)), .val (.ref b27), .unset, .unset] [(.int (p2 &&& (65535 : Int32))), (.int (0 : Int32)), (.ref b27)])) rfl rfl (hb hby at_55)
    have U30 := Arv.set A29 q29 s29 m29 H29 G29 rfl W30 0 rfl (by rw [List.length_replicate]; decide)
    have V30 : Arv Z h30 b27 k27 .int v1 ((List.replicate 132 (Value.int (0 : Int32))).set 0 (.int (p2 &&& (65535 : Int32)))) (.int (0 : Int32)) := U30
    have N30 := Fr.snoc X30 N0 ge27
    refine own_st st30 ?_
    have z31 : n0 ≤ h30.size := Nat.le_trans z28 (Keep.of_wr W30).1
    show own_Go p.tables e below RR (T30.setTop (mkF m 56 #[.val (.int p1), .val (.int p2), .val (.int p3), .val (.int p4), .val (.int v1), .val (.int (1 : Int32)), .val (.int (65536 : Int32)), .val (.int (65535 : Int32)), .val (.ref b27), .unset, .unset] []))
    refine own_st (fun _ k => XS.aload X30.here hx rfl (hb hby at_56) rfl rfl (XS.iload X30.here hx rfl (hb hby at_58) rfl (XS.iconst X30.here hx rfl (hb hby at_60) (XS.isub X30.here hx rfl (hb hby at_61) rfl (XS.iloadN X30.here hx rfl (hb hby at_62) rfl (XS.iload X30.here hx rfl (hb hby at_63) rfl (XS.iand X30.here hx rfl (hb hby at_65) rfl k))))))) ?_
    show own_Go p.tables e below RR (T30.setTop (mkF m 66 #[.val (.int p1), .val (.int p2), .val (.int p3), .val (.int p4), .val (.int v1), .val (.int (1 : Int32)), .val (.int (65536 : Int32)), .val (.int (65535 : Int32)), .val (.ref b27), .unset, .unset] [(.int (p3 &&& (65535 : Int32))), (.int (v1 - (1 : Int32))), (.ref b27)]))
    obtain ⟨c32, A32, q32, s32, m32, H32, G32⟩ := id V30
    obtain ⟨T33, h33, X33, e33, W33, st33⟩ := stI X30 hx hZ e30 A32 (j := (v1 - (1 : Int32))) (inb_of s32 ⟨own_nn0 (own_l1 hln).1, own_ltv rfl (own_l1 hln).2⟩) (g := (mkF m 66 #[.val (.int p1), .val (.int p2), .val (.int p3), .val (.int p4), .val (.int v1), .val (.int (1 : Int32)), .val (.int (65536 : Int32)), .val (.int (65535 : Int32)), .val (.ref b27), .unset, .unset] [(.int (p3 &&& (65535 : Int32))), (.int (v1 - (1 : Int32))), (.ref b27)])) rfl rfl (hb hby at_66)
    have ij : (v1 - (1 : Int32)).toNatClampNeg < 132 := own_tnN (n := 132) (by have := own_l1 hln; omega)
    have U33 := Arv.set A32 q32 s32 m32 H32 G32 rfl W33 (v1 - (1 : Int32)).toNatClampNeg rfl (by rw [List.length_set, List.length_replicate]; exact ij)
    have V33 : Arv Z h33 b27 k27 .int v1 (((List.replicate 132 (Value.int (0 : Int32))).set 0 (.int (p2 &&& (65535 : Int32)))).set (v1 - (1 : Int32)).toNatClampNeg (.int (p3 &&& (65535 : Int32)))) (.int (0 : Int32)) := U33
    have hpat : own_pat (((List.replicate 132 (Value.int (0 : Int32))).set 0 (.int (p2 &&& (65535 : Int32)))).set (v1 - (1 : Int32)).toNatClampNeg (.int (p3 &&& (65535 : Int32)))) (p2 &&& (65535 : Int32)) (p3 &&& (65535 : Int32)) := own_patL _ _ _ _ (by decide) ij
    have N33 := Fr.snoc X33 N30 ge27
    refine own_st st33 ?_
    have z34 : n0 ≤ h33.size := Nat.le_trans z31 (Keep.of_wr W33).1
    show own_Go p.tables e below RR (T33.setTop (mkF m 67 #[.val (.int p1), .val (.int p2), .val (.int p3), .val (.int p4), .val (.int v1), .val (.int (1 : Int32)), .val (.int (65536 : Int32)), .val (.int (65535 : Int32)), .val (.ref b27), .unset, .unset] []))
    obtain ⟨T35, h35, X35, e35, E35, A35, D35, -, st35⟩ := newO X33 hx hZ hown (hw _ (List.mem_of_getElem? (i := 2) rfl)) (hw _ (List.mem_of_getElem? (i := 3) rfl)) (hw _ (List.mem_of_getElem? (i := 4) rfl)) e33 (g := (mkF m 67 #[.val (.int p1), .val (.int p2), .val (.int p3), .val (.int p4), .val (.int v1), .val (.int (1 : Int32)), .val (.int (65536 : Int32)), .val (.int (65535 : Int32)), .val (.ref b27), .unset, .unset] [])) rfl (hb hby at_67) (by decide) (by decide)
    obtain ⟨b35, gb35⟩ : ∃ z, z = h33.size := ⟨_, rfl⟩
    rw [← gb35] at A35 D35 st35
    have ge35 : n0 ≤ b35 := Nat.le_trans z34 (Nat.le_of_eq gb35.symm)
    refine own_st st35 ?_
    have z36 : n0 ≤ h35.size := Nat.le_trans z34 E35.1
    have F35_12 : Fld Z h35 b35 "com/example/shiftwise/shiftwise/search/FactorSkip" "pattern" "[I" .null := D35 (Or.inr (hw _ (List.mem_of_getElem? (i := 12) rfl))) (ty := (.array .int)) (by decide)
    have F35_18 : Fld Z h35 b35 "com/example/shiftwise/shiftwise/search/FactorSkip" "width" "I" (.int (0 : Int32)) := D35 (Or.inr (hw _ (List.mem_of_getElem? (i := 18) rfl))) (ty := .int) (by decide)
    have F35_26 : Fld Z h35 b35 "com/example/shiftwise/shiftwise/search/FactorSkip" "gram" "I" (.int (0 : Int32)) := D35 (Or.inr (hw _ (List.mem_of_getElem? (i := 26) rfl))) (ty := .int) (by decide)
    have F35_28 : Fld Z h35 b35 "com/example/shiftwise/shiftwise/search/FactorSkip" "stride" "I" (.int (0 : Int32)) := D35 (Or.inr (hw _ (List.mem_of_getElem? (i := 28) rfl))) (ty := .int) (by decide)
    have F35_31 : Fld Z h35 b35 "com/example/shiftwise/shiftwise/search/FactorSkip" "gramBytes" "J" (.long (0 : Int64)) := D35 (Or.inr (hw _ (List.mem_of_getElem? (i := 31) rfl))) (ty := .long) (by decide)
    have F35_46 : Fld Z h35 b35 "com/example/shiftwise/shiftwise/search/FactorSkip" "positions" "[[J" .null := D35 (Or.inr (hw _ (List.mem_of_getElem? (i := 46) rfl))) (ty := (.array (.array .long))) (by decide)
    have F35_59 : Fld Z h35 b35 "com/example/shiftwise/shiftwise/search/FactorSkip" "factorGrams" "[B" .null := D35 (Or.inr (hw _ (List.mem_of_getElem? (i := 59) rfl))) (ty := (.array .byte)) (by decide)
    show own_Go p.tables e below RR (T35.setTop (mkF m 70 #[.val (.int p1), .val (.int p2), .val (.int p3), .val (.int p4), .val (.int v1), .val (.int (1 : Int32)), .val (.int (65536 : Int32)), .val (.int (65535 : Int32)), .val (.ref b27), .unset, .unset] [(.ref b35)]))
    refine own_st (fun _ k => XS.dup X35.here hx rfl (hb hby at_70) rfl rfl (XS.aload X35.here hx rfl (hb hby at_71) rfl rfl (XS.iload X35.here hx rfl (hb hby at_73) rfl k))) ?_
    show own_Go p.tables e below RR (T35.setTop (mkF m 75 #[.val (.int p1), .val (.int p2), .val (.int p3), .val (.int p4), .val (.int v1), .val (.int (1 : Int32)), .val (.int (65536 : Int32)), .val (.int (65535 : Int32)), .val (.ref b27), .unset, .unset] [(.int (65536 : Int32)), (.ref b27), (.ref b35), (.ref b35)]))
    have f37 := (V33.ext E35)
    have f38 := ((((S_ABSENT.ext E27).wr W30).wr W33).ext E35)
    have f39 := ((((E_ABSENT.ext E27).wr W30).wr W33).ext E35)
    obtain ⟨_, _, ⟨T40, L40, k40, n40⟩, -, X40, ⟨Lc40, hQ40, l40, y40, z40⟩, st40⟩ := X35.specialBack hx (y := (⟨"com/example/shiftwise/shiftwise/search/FactorSkip", "<init>", "([II)V"⟩ : MethodName)) rfl hown (mvT hZ (hw _ (List.mem_of_getElem? (i := 5) rfl))) (mvT hZ (hw _ (List.mem_of_getElem? (i := 6) rfl))) (mvT hZ (hw _ (List.mem_of_getElem? (i := 7) rfl))) (by decide) (backOf (W := 1) (own_rmIN256 l Z a0 hw [] b35 b27 k27 v1 (((List.replicate 132 (Value.int (0 : Int32))).set 0 (.int (p2 &&& (65535 : Int32)))).set (v1 - (1 : Int32)).toNatClampNeg (.int (p3 &&& (65535 : Int32)))) (p2 &&& (65535 : Int32)) (p3 &&& (65535 : Int32)) a_ABSENT h35 n0 z36 ge35 A35 F35_12 F35_18 F35_26 F35_28 F35_31 F35_46 F35_59 f37 hpat hln (own_mk (n := 65535) (by decide) (by decide)) (own_mk (n := 65535) (by decide) (by decide)) f38 f39) hZ (hw _ (List.mem_of_getElem? (i := 7) rfl)) (hw _ (List.mem_of_getElem? (i := 4) rfl)) (by decide) (by decide)) (g := (mkF m 75 #[.val (.int p1), .val (.int p2), .val (.int p3), .val (.int p4), .val (.int v1), .val (.int (1 : Int32)), .val (.int (65536 : Int32)), .val (.int (65535 : Int32)), .val (.ref b27), .unset, .unset] [(.int (65536 : Int32)), (.ref b27), (.ref b35), (.ref b35)])) rfl (by rw [hml]; rfl) (Steps.refl _) (a := b35) (argsL := [(.ref b27), (.int (65536 : Int32))]) (rest := [(.ref b35)]) (lenOf own_pd___II_V rfl) rfl (by show 2 * 0 + _ ≤ _; exact Nat.le_of_eq rfl) (hb hby at_75) (fun _ _ => ⟨rfl, e35, (by decide : 2 + 5 ≤ _), (by decide : 139 + 9216 ≤ _)⟩)
    dsimp only [Pt.U, Pt.locs, Pt.cells, Pt.slots] at X40 l40 y40 z40 st40 hQ40
    subst l40 y40 z40
    obtain ⟨rfl, Nq40, Kq40, Fg40, Fs40, Eq40⟩ := hQ40
    have N40 := Fr.app N33 Nq40
    refine own_st (fun _ k => st40.trans k) ?_
    have z41 : n0 ≤ T40.heap.size := Nat.le_trans z36 Kq40.1
    show own_Go p.tables e below RR (T40.setTop (mkF m 78 #[.val (.int p1), .val (.int p2), .val (.int p3), .val (.int p4), .val (.int v1), .val (.int (1 : Int32)), .val (.int (65536 : Int32)), .val (.int (65535 : Int32)), .val (.ref b27), .unset, .unset] [(.ref b35)]))
    refine own_st (fun _ k => XS.astore X40.here hx rfl (hb hby at_78) rfl rfl (l' := #[.val (.int p1), .val (.int p2), .val (.int p3), .val (.int p4), .val (.int v1), .val (.int (1 : Int32)), .val (.int (65536 : Int32)), .val (.int (65535 : Int32)), .val (.ref b27), .val (.ref b35), .unset]) rfl (XS.iload X40.here hx rfl (hb hby at_80) rfl (XS.bipush X40.here hx rfl (hb hby at_82) k))) ?_
    show own_Go p.tables e below RR (T40.setTop (mkF m 84 #[.val (.int p1), .val (.int p2), .val (.int p3), .val (.int p4), .val (.int v1), .val (.int (1 : Int32)), .val (.int (65536 : Int32)), .val (.int (65535 : Int32)), .val (.ref b27), .val (.ref b35), .unset] [(.int (53 : Int32)), (.int v1)]))
    by_cases hc84_42 : v1 < (53 : Int32)
    · refine own_st (fun _ k => XS.icmpYes X40.here hx rfl (pc0 := 84) (pc' := 93) rfl (hb hby at_84) rfl (tlt hc84_42).1 (by decide) (by decide) k) ?_
      show own_Go p.tables e below RR (T40.setTop (mkF m 93 #[.val (.int p1), .val (.int p2), .val (.int p3), .val (.int p4), .val (.int v1), .val (.int (1 : Int32)), .val (.int (65536 : Int32)), .val (.int (65535 : Int32)), .val (.ref b27), .val (.ref b35), .unset] []))
      have f43 := (own_staK ((((S_BYTES_IF_HELD.ext E27).wr W30).wr W33).ext E35) Kq40 (allS A35.nostat all0))
      obtain ⟨T44, X44, e44, st44⟩ := getS2 X40 hx hZ hown (host := "") (Or.inl (hw _ (List.mem_of_getElem? (i := 60) rfl))) Via.refl rfl f43 (g := (mkF m 93 #[.val (.int p1), .val (.int p2), .val (.int p3), .val (.int p4), .val (.int v1), .val (.int (1 : Int32)), .val (.int (65536 : Int32)), .val (.int (65535 : Int32)), .val (.ref b27), .val (.ref b35), .unset] [])) rfl (hb hby at_93)
      refine own_st st44 ?_
      show own_Go p.tables e below RR (T44.setTop (mkF m 96 #[.val (.int p1), .val (.int p2), .val (.int p3), .val (.int p4), .val (.int v1), .val (.int (1 : Int32)), .val (.int (65536 : Int32)), .val (.int (65535 : Int32)), .val (.ref b27), .val (.ref b35), .unset] [(.ref a_BYTES_IF_HELD)]))
      refine own_st (fun _ k => XS.astore X44.here hx rfl (hb hby at_96) rfl rfl (l' := #[.val (.int p1), .val (.int p2), .val (.int p3), .val (.int p4), .val (.int v1), .val (.int (1 : Int32)), .val (.int (65536 : Int32)), .val (.int (65535 : Int32)), .val (.ref b27), .val (.ref b35), .val (.ref a_BYTES_IF_HELD)]) rfl (XS.aload X44.here hx rfl (hb hby at_98) rfl rfl k)) ?_
      show own_Go p.tables e below RR (T44.setTop (mkF m 100 #[.val (.int p1), .val (.int p2), .val (.int p3), .val (.int p4), .val (.int v1), .val (.int (1 : Int32)), .val (.int (65536 : Int32)), .val (.int (65535 : Int32)), .val (.ref b27), .val (.ref b35), .val (.ref a_BYTES_IF_HELD)] [(.ref b35)]))
      have f45 := (own_staK ((((S_WHOLE.ext E27).wr W30).wr W33).ext E35) Kq40 (allS A35.nostat all0))
      obtain ⟨cq46, kq46, q46a, q46b, q46c⟩ := isOf hZ e44 Eq40
      obtain ⟨_, _, ⟨T46, L46, k46, n46⟩, -, X46, ⟨Lc46, hQ46, l46, y46, z46⟩, st46⟩ := X44.virtualBack hx (y := (⟨"com/example/shiftwise/shiftwise/search/FactorSkip", "charWindows", "()Lcom/example/shiftwise/shiftwise/search/CharWindows;"⟩ : MethodName)) (z := (⟨"com/example/shiftwise/shiftwise/search/FactorSkip", "charWindows", "()Lcom/example/shiftwise/shiftwise/search/CharWindows;"⟩ : MethodName)) hown (mvT hZ (hw _ (List.mem_of_getElem? (i := 63) rfl))) (mvT hZ (hw _ (List.mem_of_getElem? (i := 64) rfl))) (notFace_of_selects (args := #[]) (mvT hZ (hw _ (List.mem_of_getElem? (i := 66) rfl)))) (mvT hZ (hw _ (List.mem_of_getElem? (i := 66) rfl))) (mvT hZ (hw _ (List.mem_of_getElem? (i := 65) rfl))) (by decide) (backOf (W := 0) (own_rmCW l Z a0 hw [] b35 (own_gm (own_mn v1 (64 : Int32))) (((own_mn v1 (64 : Int32)) - (own_gm (own_mn v1 (64 : Int32)))) + (1 : Int32)) a_WHOLE a_BYTES_IF_HELD a_BYTES_IF_HELD T40.heap n0 z41 Fg40 Fs40 f45 f43 (if_pos ((own_cw hln).mpr hc84_42))) hZ (hw _ (List.mem_of_getElem? (i := 67) rfl)) (hw _ (List.mem_of_getElem? (i := 4) rfl)) (by decide) (by decide)) q46a q46c (g := (mkF m 100 #[.val (.int p1), .val (.int p2), .val (.int p3), .val (.int p4), .val (.int v1), .val (.int (1 : Int32)), .val (.int (65536 : Int32)), .val (.int (65535 : Int32)), .val (.ref b27), .val (.ref b35), .val (.ref a_BYTES_IF_HELD)] [(.ref b35)])) rfl (by rw [hml]; rfl) (Steps.refl _) (argsL := []) (rest := []) (lenOf own_pd___Lcom_example_shiftwise_shiftwise_search_CharWindows_ rfl) rfl (by show 2 * 0 + _ ≤ _; exact Nat.le_of_eq rfl) (hb hby at_100) (fun _ _ => ⟨rfl, e44, (by decide : 7 + 0 ≤ _), (by decide : 9355 + 0 ≤ _)⟩)
      dsimp only [Pt.U, Pt.locs, Pt.cells, Pt.slots] at X46 l46 y46 z46 st46 hQ46
      subst l46 y46 z46
      obtain ⟨rfl, Nq46, eq46⟩ := hQ46
      have N46 := Fr.app N40 Nq46
      refine own_st (fun _ k => st46.trans k) ?_
      show own_Go p.tables e below RR (T46.setTop (mkF m 103 #[.val (.int p1), .val (.int p2), .val (.int p3), .val (.int p4), .val (.int v1), .val (.int (1 : Int32)), .val (.int (65536 : Int32)), .val (.int (65535 : Int32)), .val (.ref b27), .val (.ref b35), .val (.ref a_BYTES_IF_HELD)] [(.ref a_BYTES_IF_HELD)]))
      refine own_st (fun _ k => XS.aload X46.here hx rfl (hb hby at_103) rfl rfl k) ?_
      show own_Go p.tables e below RR (T46.setTop (mkF m 105 #[.val (.int p1), .val (.int p2), .val (.int p3), .val (.int p4), .val (.int v1), .val (.int (1 : Int32)), .val (.int (65536 : Int32)), .val (.int (65535 : Int32)), .val (.ref b27), .val (.ref b35), .val (.ref a_BYTES_IF_HELD)] [(.ref a_BYTES_IF_HELD), (.ref a_BYTES_IF_HELD)]))
      refine own_st (fun _ k => Jvm.RoadKit.acmp (g := (mkF m 105 #[.val (.int p1), .val (.int p2), .val (.int p3), .val (.int p4), .val (.int v1), .val (.int (1 : Int32)), .val (.int (65536 : Int32)), .val (.int (65535 : Int32)), .val (.ref b27), .val (.ref b35), .val (.ref a_BYTES_IF_HELD)] [(.ref a_BYTES_IF_HELD), (.ref a_BYTES_IF_HELD)])) X46 hx rfl rfl rfl (pc0 := 105) (pc' := 108) (same := true) rfl (hb hby at_105) rfl (decide_eq_true rfl) (by decide) (by decide) (XS.iconst X46.here hx rfl (hb hby at_108) (XS.goto X46.here hx rfl (pc0 := 109) (pc' := 113) rfl (hb hby at_109) (by decide) (by decide) k))) ?_
      show own_Go p.tables e below RR (T46.setTop (mkF m 113 #[.val (.int p1), .val (.int p2), .val (.int p3), .val (.int p4), .val (.int v1), .val (.int (1 : Int32)), .val (.int (65536 : Int32)), .val (.int (65535 : Int32)), .val (.ref b27), .val (.ref b35), .val (.ref a_BYTES_IF_HELD)] [(.int (1 : Int32))]))
      obtain ⟨fs, hrt_, hrun, hended, hW, hsame⟩ := X46.leave (v := some (.int (1 : Int32))) (fun h => by rw [Bd.returns] at h; cases h)
      refine own_fin (retN X46 hx (t := .boolean) Bd.returns (by simp) (hb hby at_113) hrt_) (hRR _ ⟨_, hrun, hended, _, _, rfl, ?_, ⟨_, rfl⟩, hW, hsame.mono (by decide) (by decide)⟩)
      show own_Q0 Z p1 p2 p3 p4 a_ABSENT a_BYTES_IF_HELD a_WHOLE h0 n0 _ T46.heap _
      rw [eq46]
      exact ⟨rfl, N46⟩
    · refine own_st (fun _ k => XS.icmpNo X40.here hx rfl (hb hby at_84) rfl (flt hc84_42).1 k) ?_
      show own_Go p.tables e below RR (T40.setTop (mkF m 87 #[.val (.int p1), .val (.int p2), .val (.int p3), .val (.int p4), .val (.int v1), .val (.int (1 : Int32)), .val (.int (65536 : Int32)), .val (.int (65535 : Int32)), .val (.ref b27), .val (.ref b35), .unset] []))
      have f47 := (own_staK ((((S_WHOLE.ext E27).wr W30).wr W33).ext E35) Kq40 (allS A35.nostat all0))
      obtain ⟨T48, X48, e48, st48⟩ := getS2 X40 hx hZ hown (host := "") (Or.inl (hw _ (List.mem_of_getElem? (i := 70) rfl))) Via.refl rfl f47 (g := (mkF m 87 #[.val (.int p1), .val (.int p2), .val (.int p3), .val (.int p4), .val (.int v1), .val (.int (1 : Int32)), .val (.int (65536 : Int32)), .val (.int (65535 : Int32)), .val (.ref b27), .val (.ref b35), .unset] [])) rfl (hb hby at_87)
      refine own_st st48 ?_
      show own_Go p.tables e below RR (T48.setTop (mkF m 90 #[.val (.int p1), .val (.int p2), .val (.int p3), .val (.int p4), .val (.int v1), .val (.int (1 : Int32)), .val (.int (65536 : Int32)), .val (.int (65535 : Int32)), .val (.ref b27), .val (.ref b35), .unset] [(.ref a_WHOLE)]))
      refine own_st (fun _ k => XS.goto X48.here hx rfl (pc0 := 90) (pc' := 96) rfl (hb hby at_90) (by decide) (by decide) (XS.astore X48.here hx rfl (hb hby at_96) rfl rfl (l' := #[.val (.int p1), .val (.int p2), .val (.int p3), .val (.int p4), .val (.int v1), .val (.int (1 : Int32)), .val (.int (65536 : Int32)), .val (.int (65535 : Int32)), .val (.ref b27), .val (.ref b35), .val (.ref a_WHOLE)]) rfl (XS.aload X48.here hx rfl (hb hby at_98) rfl rfl k))) ?_
      show own_Go p.tables e below RR (T48.setTop (mkF m 100 #[.val (.int p1), .val (.int p2), .val (.int p3), .val (.int p4), .val (.int v1), .val (.int (1 : Int32)), .val (.int (65536 : Int32)), .val (.int (65535 : Int32)), .val (.ref b27), .val (.ref b35), .val (.ref a_WHOLE)] [(.ref b35)]))
      have f49 := (own_staK ((((S_BYTES_IF_HELD.ext E27).wr W30).wr W33).ext E35) Kq40 (allS A35.nostat all0))
      obtain ⟨cq50, kq50, q50a, q50b, q50c⟩ := isOf hZ e48 Eq40
      obtain ⟨_, _, ⟨T50, L50, k50, n50⟩, -, X50, ⟨Lc50, hQ50, l50, y50, z50⟩, st50⟩ := X48.virtualBack hx (y := (⟨"com/example/shiftwise/shiftwise/search/FactorSkip", "charWindows", "()Lcom/example/shiftwise/shiftwise/search/CharWindows;"⟩ : MethodName)) (z := (⟨"com/example/shiftwise/shiftwise/search/FactorSkip", "charWindows", "()Lcom/example/shiftwise/shiftwise/search/CharWindows;"⟩ : MethodName)) hown (mvT hZ (hw _ (List.mem_of_getElem? (i := 63) rfl))) (mvT hZ (hw _ (List.mem_of_getElem? (i := 64) rfl))) (notFace_of_selects (args := #[]) (mvT hZ (hw _ (List.mem_of_getElem? (i := 66) rfl)))) (mvT hZ (hw _ (List.mem_of_getElem? (i := 66) rfl))) (mvT hZ (hw _ (List.mem_of_getElem? (i := 65) rfl))) (by decide) (backOf (W := 0) (own_rmCW l Z a0 hw [] b35 (own_gm (own_mn v1 (64 : Int32))) (((own_mn v1 (64 : Int32)) - (own_gm (own_mn v1 (64 : Int32)))) + (1 : Int32)) a_WHOLE a_BYTES_IF_HELD a_WHOLE T40.heap n0 z41 Fg40 Fs40 f47 f49 (if_neg (fun q => hc84_42 ((own_cw hln).mp q)))) hZ (hw _ (List.mem_of_getElem? (i := 67) rfl)) (hw _ (List.mem_of_getElem? (i := 4) rfl)) (by decide) (by decide)) q50a q50c (g := (mkF m 100 #[.val (.int p1), .val (.int p2), .val (.int p3), .val (.int p4), .val (.int v1), .val (.int (1 : Int32)), .val (.int (65536 : Int32)), .val (.int (65535 : Int32)), .val (.ref b27), .val (.ref b35), .val (.ref a_WHOLE)] [(.ref b35)])) rfl (by rw [hml]; rfl) (Steps.refl _) (argsL := []) (rest := []) (lenOf own_pd___Lcom_example_shiftwise_shiftwise_search_CharWindows_ rfl) rfl (by show 2 * 0 + _ ≤ _; exact Nat.le_of_eq rfl) (hb hby at_100) (fun _ _ => ⟨rfl, e48, (by decide : 7 + 0 ≤ _), (by decide : 9355 + 0 ≤ _)⟩)
      dsimp only [Pt.U, Pt.locs, Pt.cells, Pt.slots] at X50 l50 y50 z50 st50 hQ50
      subst l50 y50 z50
      obtain ⟨rfl, Nq50, eq50⟩ := hQ50
      have N50 := Fr.app N40 Nq50
      refine own_st (fun _ k => st50.trans k) ?_
      show own_Go p.tables e below RR (T50.setTop (mkF m 103 #[.val (.int p1), .val (.int p2), .val (.int p3), .val (.int p4), .val (.int v1), .val (.int (1 : Int32)), .val (.int (65536 : Int32)), .val (.int (65535 : Int32)), .val (.ref b27), .val (.ref b35), .val (.ref a_WHOLE)] [(.ref a_WHOLE)]))
      refine own_st (fun _ k => XS.aload X50.here hx rfl (hb hby at_103) rfl rfl k) ?_
      show own_Go p.tables e below RR (T50.setTop (mkF m 105 #[.val (.int p1), .val (.int p2), .val (.int p3), .val (.int p4), .val (.int v1), .val (.int (1 : Int32)), .val (.int (65536 : Int32)), .val (.int (65535 : Int32)), .val (.ref b27), .val (.ref b35), .val (.ref a_WHOLE)] [(.ref a_WHOLE), (.ref a_WHOLE)]))
      refine own_st (fun _ k => Jvm.RoadKit.acmp (g := (mkF m 105 #[.val (.int p1), .val (.int p2), .val (.int p3), .val (.int p4), .val (.int v1), .val (.int (1 : Int32)), .val (.int (65536 : Int32)), .val (.int (65535 : Int32)), .val (.ref b27), .val (.ref b35), .val (.ref a_WHOLE)] [(.ref a_WHOLE), (.ref a_WHOLE)])) X50 hx rfl rfl rfl (pc0 := 105) (pc' := 108) (same := true) rfl (hb hby at_105) rfl (decide_eq_true rfl) (by decide) (by decide) (XS.iconst X50.here hx rfl (hb hby at_108) (XS.goto X50.here hx rfl (pc0 := 109) (pc' := 113) rfl (hb hby at_109) (by decide) (by decide) k))) ?_
      show own_Go p.tables e below RR (T50.setTop (mkF m 113 #[.val (.int p1), .val (.int p2), .val (.int p3), .val (.int p4), .val (.int v1), .val (.int (1 : Int32)), .val (.int (65536 : Int32)), .val (.int (65535 : Int32)), .val (.ref b27), .val (.ref b35), .val (.ref a_WHOLE)] [(.int (1 : Int32))]))
      obtain ⟨fs, hrt_, hrun, hended, hW, hsame⟩ := X50.leave (v := some (.int (1 : Int32))) (fun h => by rw [Bd.returns] at h; cases h)
      refine own_fin (retN X50 hx (t := .boolean) Bd.returns (by simp) (hb hby at_113) hrt_) (hRR _ ⟨_, hrun, hended, _, _, rfl, ?_, ⟨_, rfl⟩, hW, hsame.mono (by decide) (by decide)⟩)
      show own_Q0 Z p1 p2 p3 p4 a_ABSENT a_BYTES_IF_HELD a_WHOLE h0 n0 _ T50.heap _
      rw [eq50]
      exact ⟨rfl, N50⟩
set_option maxRecDepth 65536 in
set_option maxHeartbeats 40000000 in
theorem own_comes {Post : Tables → Env → Array Value → State → Outcome → State → Prop} (hpost : ∀ tb e args s v u, (limb_1_1.after args s (.returned v) u = true ∧ limb_1_2.after args s (.returned v) u = true ∧ True) → FrameEnd s (.returned v) u (Jvm.fieldLocs frame_1_writes args s ++ Jvm.arrayLocs frame_1_arrays args s ++ Jvm.staticLocs frame_1_statics s) 24 18688 → Post tb e args s (.returned v) u) :
    ArmFor flags0 classFile x code maxLocals ret World_1 tables_1 room_1 Calls_1 rest_1 Pre_1 Post := by
  intro l hfl _ _ p e ha hc hk s m args below hf hA hF happ hP
  obtain ⟨hcalls, hrest, hpre⟩ := hP
  obtain ⟨-, -, -, hnamed, -, -, -, hat⟩ := (Spec.applies_iff hf).mp happ
  obtain ⟨hg, hn⟩ := and_e (Cond.before_iff.mp (show (Jvm.Cond.and given_1 narrow_1).before args s = true from hpre))
  obtain ⟨u1a, u1b⟩ := and_e hg
  obtain ⟨u2a, u2b⟩ := and_e u1b
  obtain ⟨u3a, u3b⟩ := and_e u2b
  obtain ⟨u4a, u4b⟩ := and_e u3b
  obtain ⟨w0, w1, w2, w3, rfl⟩ : ∃ w0 w1 w2 w3 : Value, args = #[w0, w1, w2, w3] := by
    have hs : args.size = 4 := by simpa [Cond.value, given_1] using u1a
    obtain ⟨L⟩ := args
    match L, hs with
    | [w0, w1, w2, w3], _ => exact ⟨w0, w1, w2, w3, rfl⟩
  have hw := fun d (hd : d ∈ tables_1) => atoms_spec (ws := Jvm.Cond.code x code maxLocals ret :: tables_1) hat d (List.mem_cons_of_mem _ hd)
  have hfit : Fit s := fun {y c} hc i hi => by
    obtain ⟨ha, rfl⟩ := Array.getElem?_eq_some_iff.mp hc
    have q := List.all_eq_true.mp ((Array.all_eq_true_iff_forall_mem.mp hF) _ (Array.getElem_mem ha)) i (List.mem_range.mpr hi)
    simpa [Array.getElem?_eq_getElem hi] using q
  obtain ⟨i0, ei0⟩ := is_v u2a
  obtain rfl : w0 = (.int i0) := Option.some.inj ei0
  obtain ⟨i1, ei1⟩ := is_v u3a
  obtain rfl : w1 = (.int i1) := Option.some.inj ei1
  obtain ⟨i2, ei2⟩ := is_v u4a
  obtain rfl : w2 = (.int i2) := Option.some.inj ei2
  obtain ⟨i3, ei3⟩ := is_v u4b
  obtain rfl : w3 = (.int i3) := Option.some.inj ei3
  obtain ⟨u101a, u101b⟩ := and_e hn
  obtain ⟨u102a, u102b⟩ := and_e u101b
  obtain ⟨u103a, u103b⟩ := and_e u102b
  obtain ⟨u104a, u104b⟩ := and_e u103b
  obtain ⟨a_ABSENT, v_ABSENT⟩ := exa_v u102a
  have E_ABSENT := Exa.start v_ABSENT u102a
  have S_ABSENT := Sta.start v_ABSENT (Or.inr ⟨(hw _ (List.mem_of_getElem? (i := 4) rfl)), (hw _ (List.mem_of_getElem? (i := 38) rfl))⟩)
  obtain ⟨a_BYTES_IF_HELD, v_BYTES_IF_HELD⟩ := exa_v u104a
  have E_BYTES_IF_HELD := Exa.start v_BYTES_IF_HELD u104a
  have S_BYTES_IF_HELD := Sta.start v_BYTES_IF_HELD (Or.inr ⟨(hw _ (List.mem_of_getElem? (i := 61) rfl)), (hw _ (List.mem_of_getElem? (i := 62) rfl))⟩)
  obtain ⟨a_WHOLE, v_WHOLE⟩ := exa_v u104b
  have E_WHOLE := Exa.start v_WHOLE u104b
  have S_WHOLE := Sta.start v_WHOLE (Or.inr ⟨(hw _ (List.mem_of_getElem? (i := 61) rfl)), (hw _ (List.mem_of_getElem? (i := 71) rfl))⟩)
  obtain ⟨n, o, h1, h2, h3, _, L, rfl, ⟨rfl, N⟩, hq⟩ := own_rm0 l s _ hw tables_1 i0 i1 i2 i3 a_ABSENT a_BYTES_IF_HELD a_WHOLE s.heap s.heap.size (Nat.le_refl _) E_ABSENT S_ABSENT E_BYTES_IF_HELD S_BYTES_IF_HELD E_WHOLE S_WHOLE p e ha hc hk s m _ below hf ((Spec.applies_iff_loose hf).mp happ).1 ⟨rfl, State.Warmed39.refl s, rfl⟩ trivial
  refine ⟨n, _, h1, h2, h3, hpost _ _ _ _ _ _ ⟨Cond.after_iff.mpr rfl, Cond.after_iff.mpr (eq_i res_at (Term.int_eval (1)) rfl), trivial⟩ ⟨hq.1, hq.2.1, (hq.2.2.sift fun y hy => Or.inr (N y hy)).mono (by decide) (by decide)⟩⟩
theorem main_1_1 : Claimed_1_1 := own_comes fun _ _ _ _ _ _ h hF => ⟨h.1, hF⟩
theorem main_1_2 : Claimed_1_2 := own_comes fun _ _ _ _ _ _ h hF => ⟨h.2.1, hF⟩
end Jvm.Pilot.@@N@@
namespace Jvm.Pilot.@@N@@
open Jvm Jvm.ClassFile Sem Op Lib Jvm.Free Jvm.Stand Jvm.Pilot.@@N@@.Jvm.D
/-! MADE BY PROGRAM (witnessworld.py) out of the Statement's table words and the real class files: 18 classes; the members and pool entries that the words name. The judged class is class 1, her method 1. -/
namespace start1
open Jvm.ClassFile
def u (s : String) : CpInfo := .utf8 (stringToUtf16 s)
/-- a pool by its gaps: so many unusable entries, then the entry; so many at the end -/
def gap : Nat → List CpInfo → List CpInfo
  | 0, r => r
  | n + 1, r => .unusable :: gap n r
def poolList (es : List (Nat × CpInfo)) (last : Nat) : List CpInfo := es.foldr (fun e r => gap e.1 (e.2 :: r)) (gap last [])
def pool (es : List (Nat × CpInfo)) (last : Nat) : Array CpInfo := ⟨poolList es last⟩
def fileOf (pool : Array CpInfo) (this : Nat) (attrs : Array Attribute := #[]) (ms : Array MethodInfo := #[]) (fl : Nat := 33) (sup : Nat := 0) (ifs : Array Nat := #[]) (fds : Array FieldInfo := #[]) : ClassFile where
  minorVersion := 0
  majorVersion := 65
  constantPool := pool
  accessFlags := fl
  thisClass := this
  superClass := sup
  interfaces := ifs
  fields := fds
  methods := ms
  attributes := attrs
def plain (name : String) (sup : Option ClassId) : Class where
  name := name
  kind := .ordinary
  loader := none
  accessFlags := 33
  super := sup
  interfaces := #[]
  cf := none
  fields := #[]
  methods := #[]
  instanceTypes := #[]
  staticTypes := #[]
  resolved := #[]
  callSites := []
  init := .initialized
  statics := none
  mirror := none

def pool0 : Array CpInfo := pool [(5, u "<init>"), (0, u "()V"), (1, .class_ 10), (1, u "java/lang/Object")] 113

def k0c0 : Code := { maxStack := 0, maxLocals := 1, code := object_method_1_code, exceptionTable := #[], attributes := #[] }
def k0m0 : Method := { name := "<init>", desc := "()V", sig := { parameters := [], returnType := none }, accessFlags := 1, code := some k0c0 }
/-- java/lang/Object -/
def k0 : Class := { plain "java/lang/Object" none with
  accessFlags := 33
  interfaces := #[]
  cf := some (fileOf pool0 8 #[] #[{ accessFlags := 1, nameIndex := 5, descriptorIndex := 6, attributes := #[] }] 33 0 #[] #[])
  fields := #[]
  methods := #[k0m0]
  instanceTypes := #[]
  staticTypes := #[]
  resolved := Array.replicate 124 none
  statics := none }

def pool1 : Array CpInfo := pool [(2, .class_ 4), (1, u "java/lang/Object"), (0, u "<init>"), (0, u "()V"), (0, .integer 65536), (0, .class_ 9), (0, u "com/example/shiftwise/shiftwise/search/FactorSkip"), (0, .methodref 8 11), (0, .nameAndType 5 12), (0, u "([II)V"), (0, .fieldref 14 15), (0, .class_ 16), (0, .nameAndType 17 18), (0, u "com/example/shiftwise/shiftwise/search/CharWindows"), (0, u "WHOLE"), (0, u "Lcom/example/shiftwise/shiftwise/search/CharWindows;"), (0, .fieldref 14 20), (0, .nameAndType 21 18), (0, u "BYTES_IF_HELD"), (0, .methodref 8 23), (0, .nameAndType 24 25), (0, u "charWindows"), (0, u "()Lcom/example/shiftwise/shiftwise/search/CharWindows;"), (0, .class_ 27), (0, u "com/example/shiftwise/shiftwise/search/FactorSkipCharWindowsPinLaw"), (2, u "law"), (0, u "(IIII)Z")] 5

def k1m0 : Method := { name := "<init>", desc := "()V", sig := { parameters := [], returnType := none }, accessFlags := 2, code := none }
def k1c1 : Code := { maxStack := 4, maxLocals := 11, code := code, exceptionTable := #[], attributes := #[] }
def k1m1 : Method := { name := "law", desc := "(IIII)Z", sig := { parameters := [.int, .int, .int, .int], returnType := some .boolean }, accessFlags := 9, code := some k1c1 }
/-- com/example/shiftwise/shiftwise/search/FactorSkipCharWindowsPinLaw -/
def k1 : Class := { plain "com/example/shiftwise/shiftwise/search/FactorSkipCharWindowsPinLaw" (some 0) with
  accessFlags := 49
  interfaces := #[]
  cf := some (fileOf pool1 26 #[] #[{ accessFlags := 2, nameIndex := 5, descriptorIndex := 6, attributes := #[] }, { accessFlags := 9, nameIndex := 30, descriptorIndex := 31, attributes := #[] }] 49 2 #[] #[])
  fields := #[]
  methods := #[k1m0, k1m1]
  instanceTypes := #[]
  staticTypes := #[]
  resolved := Array.replicate 37 none
  statics := none }

def pool2 : Array CpInfo := pool [(1, .class_ 2), (0, u "com/example/shiftwise/shiftwise/search/FirstPhase"), (0, .class_ 4), (0, u "java/lang/Object")] 6

/-- com/example/shiftwise/shiftwise/search/FirstPhase -/
def k2 : Class := { plain "com/example/shiftwise/shiftwise/search/FirstPhase" (some 0) with
  accessFlags := 1536
  interfaces := #[]
  cf := some (fileOf pool2 1 #[] #[] 1536 3 #[] #[])
  fields := #[]
  methods := #[]
  instanceTypes := #[]
  staticTypes := #[]
  resolved := Array.replicate 11 none
  statics := none }

def pool3 : Array CpInfo := pool [(3, .class_ 4), (0, u "com/example/shiftwise/shiftwise/search/FactorSkip"), (0, .methodref 6 7), (0, .class_ 8), (0, .nameAndType 9 10), (0, u "java/lang/Object"), (0, u "<init>"), (0, u "()V"), (0, .fieldref 3 12), (0, .nameAndType 13 14), (0, u "pattern"), (0, u "[I"), (0, .methodref 16 17), (0, .class_ 18), (0, .nameAndType 19 20), (0, u "java/lang/Math"), (0, u "min"), (0, u "(II)I"), (0, .fieldref 3 22), (0, .nameAndType 23 24), (0, u "width"), (0, u "I"), (0, .methodref 3 26), (0, .nameAndType 27 28), (0, u "gramLength"), (0, u "(I)I"), (0, .fieldref 3 30), (0, .nameAndType 31 24), (0, u "gram"), (0, .fieldref 3 33), (0, .nameAndType 34 24), (0, u "stride"), (0, .long 18446744073709551615), (3, .fieldref 3 40), (0, .nameAndType 41 42), (0, u "gramBytes"), (0, u "J"), (0, .methodref 3 44), (0, .nameAndType 45 46), (0, u "positions"), (0, u "([III)[[J"), (0, .fieldref 3 48), (0, .nameAndType 45 49), (0, u "[[J"), (0, .methodref 3 51), (0, .nameAndType 52 53), (0, u "factorGrams"), (0, u "([III)[B"), (0, .fieldref 3 55), (0, .nameAndType 52 56), (0, u "[B"), (28, .long 8), (1, .fieldref 88 89), (0, .class_ 90), (0, .nameAndType 91 92), (0, u "com/example/shiftwise/shiftwise/search/CharWindows"), (0, u "WHOLE"), (0, u "Lcom/example/shiftwise/shiftwise/search/CharWindows;"), (0, .fieldref 88 94), (0, .nameAndType 95 92), (0, u "BYTES_IF_HELD"), (39, u "LONGS"), (0, u "Ljava/lang/invoke/VarHandle;"), (6, .methodref 3 144), (0, .nameAndType 145 146), (0, u "tableIndex"), (0, u "(J)I"), (32, .methodref 3 180), (0, .nameAndType 181 182), (0, u "lowByte"), (0, u "(II)J"), (0, .long 11400714819323198485), (1, .methodref 16 186), (0, .nameAndType 187 20), (0, u "max"), (0, .class_ 189), (0, u "[J"), (0, .fieldref 3 191), (0, .nameAndType 192 189), (0, u "ABSENT"), (0, .methodref 194 195), (0, .class_ 196), (0, .nameAndType 197 198), (0, u "java/util/Arrays"), (0, u "fill"), (0, u "([Ljava/lang/Object;Ljava/lang/Object;)V"), (12, .class_ 212), (0, u "com/example/shiftwise/shiftwise/search/FirstPhase"), (0, u "WIDEST"), (2, u "SHORTEST_GRAM"), (1, u "LONGEST_GRAM"), (1, u "AT_ONCE"), (0, u "SPARSE_READS"), (1, u "PAGE_BITS"), (0, u "PAGE_SIZE"), (1, u "TABLE_BITS"), (1, u "HASH_MULTIPLIER"), (0, u "([II)V"), (7, u "charWindows"), (0, u "()Lcom/example/shiftwise/shiftwise/search/CharWindows;")] 4

def k3c0 : Code := { maxStack := 6, maxLocals := 3, code := prog_35_method_1_code, exceptionTable := #[], attributes := #[] }
def k3m0 : Method := { name := "<init>", desc := "([II)V", sig := { parameters := [(.array .int), .int], returnType := none }, accessFlags := 0, code := some k3c0 }
def k3c1 : Code := { maxStack := 4, maxLocals := 1, code := prog_35_method_3_code, exceptionTable := #[], attributes := #[] }
def k3m1 : Method := { name := "charWindows", desc := "()Lcom/example/shiftwise/shiftwise/search/CharWindows;", sig := { parameters := [], returnType := some (.object "com/example/shiftwise/shiftwise/search/CharWindows") }, accessFlags := 1, code := some k3c1 }
def k3c2 : Code := { maxStack := 6, maxLocals := 2, code := prog_35_method_19_code, exceptionTable := #[], attributes := #[] }
def k3m2 : Method := { name := "lowByte", desc := "(II)J", sig := { parameters := [.int, .int], returnType := some .long }, accessFlags := 10, code := some k3c2 }
def k3c3 : Code := { maxStack := 4, maxLocals := 2, code := prog_35_method_20_code, exceptionTable := #[], attributes := #[] }
def k3m3 : Method := { name := "tableIndex", desc := "(J)I", sig := { parameters := [.long], returnType := some .int }, accessFlags := 10, code := some k3c3 }
def k3c4 : Code := { maxStack := 4, maxLocals := 1, code := prog_35_method_21_code, exceptionTable := #[], attributes := #[] }
def k3m4 : Method := { name := "gramLength", desc := "(I)I", sig := { parameters := [.int], returnType := some .int }, accessFlags := 10, code := some k3c4 }
def k3c5 : Code := { maxStack := 7, maxLocals := 8, code := prog_35_method_22_code, exceptionTable := #[], attributes := #[] }
def k3m5 : Method := { name := "positions", desc := "([III)[[J", sig := { parameters := [(.array .int), .int, .int], returnType := some (.array (.array .long)) }, accessFlags := 10, code := some k3c5 }
def k3c6 : Code := { maxStack := 5, maxLocals := 8, code := prog_35_method_23_code, exceptionTable := #[], attributes := #[] }
def k3m6 : Method := { name := "factorGrams", desc := "([III)[B", sig := { parameters := [(.array .int), .int, .int], returnType := some (.array .byte) }, accessFlags := 10, code := some k3c6 }
/-- com/example/shiftwise/shiftwise/search/FactorSkip -/
def k3 : Class := { plain "com/example/shiftwise/shiftwise/search/FactorSkip" (some 0) with
  accessFlags := 48
  interfaces := #[2]
  cf := some (fileOf pool3 3 #[] #[{ accessFlags := 0, nameIndex := 9, descriptorIndex := 229, attributes := #[] }, { accessFlags := 1, nameIndex := 237, descriptorIndex := 238, attributes := #[] }, { accessFlags := 10, nameIndex := 181, descriptorIndex := 182, attributes := #[] }, { accessFlags := 10, nameIndex := 145, descriptorIndex := 146, attributes := #[] }, { accessFlags := 10, nameIndex := 27, descriptorIndex := 28, attributes := #[] }, { accessFlags := 10, nameIndex := 45, descriptorIndex := 46, attributes := #[] }, { accessFlags := 10, nameIndex := 52, descriptorIndex := 53, attributes := #[] }] 48 6 #[211] #[{ accessFlags := 26, nameIndex := 135, descriptorIndex := 136, attributes := #[] }, { accessFlags := 26, nameIndex := 213, descriptorIndex := 24, attributes := #[] }, { accessFlags := 26, nameIndex := 216, descriptorIndex := 24, attributes := #[] }, { accessFlags := 26, nameIndex := 218, descriptorIndex := 24, attributes := #[] }, { accessFlags := 26, nameIndex := 220, descriptorIndex := 24, attributes := #[] }, { accessFlags := 26, nameIndex := 221, descriptorIndex := 24, attributes := #[] }, { accessFlags := 26, nameIndex := 223, descriptorIndex := 24, attributes := #[] }, { accessFlags := 26, nameIndex := 224, descriptorIndex := 24, attributes := #[] }, { accessFlags := 26, nameIndex := 192, descriptorIndex := 189, attributes := #[] }, { accessFlags := 26, nameIndex := 226, descriptorIndex := 24, attributes := #[] }, { accessFlags := 26, nameIndex := 228, descriptorIndex := 42, attributes := #[] }, { accessFlags := 18, nameIndex := 13, descriptorIndex := 14, attributes := #[] }, { accessFlags := 18, nameIndex := 23, descriptorIndex := 24, attributes := #[] }, { accessFlags := 18, nameIndex := 31, descriptorIndex := 24, attributes := #[] }, { accessFlags := 18, nameIndex := 34, descriptorIndex := 24, attributes := #[] }, { accessFlags := 18, nameIndex := 41, descriptorIndex := 42, attributes := #[] }, { accessFlags := 18, nameIndex := 45, descriptorIndex := 49, attributes := #[] }, { accessFlags := 18, nameIndex := 52, descriptorIndex := 56, attributes := #[] }])
  fields := #[{ name := "LONGS", type := (.object "java/lang/invoke/VarHandle"), accessFlags := 26, slot := 0, constantValue := 0 }, { name := "WIDEST", type := .int, accessFlags := 26, slot := 1, constantValue := 0 }, { name := "SHORTEST_GRAM", type := .int, accessFlags := 26, slot := 2, constantValue := 0 }, { name := "LONGEST_GRAM", type := .int, accessFlags := 26, slot := 3, constantValue := 0 }, { name := "AT_ONCE", type := .int, accessFlags := 26, slot := 4, constantValue := 0 }, { name := "SPARSE_READS", type := .int, accessFlags := 26, slot := 5, constantValue := 0 }, { name := "PAGE_BITS", type := .int, accessFlags := 26, slot := 6, constantValue := 0 }, { name := "PAGE_SIZE", type := .int, accessFlags := 26, slot := 7, constantValue := 0 }, { name := "ABSENT", type := (.array .long), accessFlags := 26, slot := 8, constantValue := 0 }, { name := "TABLE_BITS", type := .int, accessFlags := 26, slot := 9, constantValue := 0 }, { name := "HASH_MULTIPLIER", type := .long, accessFlags := 26, slot := 10, constantValue := 0 }, { name := "pattern", type := (.array .int), accessFlags := 18, slot := 0, constantValue := 0 }, { name := "width", type := .int, accessFlags := 18, slot := 1, constantValue := 0 }, { name := "gram", type := .int, accessFlags := 18, slot := 2, constantValue := 0 }, { name := "stride", type := .int, accessFlags := 18, slot := 3, constantValue := 0 }, { name := "gramBytes", type := .long, accessFlags := 18, slot := 4, constantValue := 0 }, { name := "positions", type := (.array (.array .long)), accessFlags := 18, slot := 5, constantValue := 0 }, { name := "factorGrams", type := (.array .byte), accessFlags := 18, slot := 6, constantValue := 0 }]
  methods := #[k3m0, k3m1, k3m2, k3m3, k3m4, k3m5, k3m6]
  instanceTypes := #[(.array .int), .int, .int, .int, .long, (.array (.array .long)), (.array .byte)]
  staticTypes := #[(.object "java/lang/invoke/VarHandle"), .int, .int, .int, .int, .int, .int, .int, (.array .long), .int, .long]
  resolved := Array.replicate 243 none
  statics := some 0 }

def pool4 : Array CpInfo := pool [(1, .class_ 2), (0, u "java/lang/Math"), (1, .class_ 6), (1, u "java/lang/Object"), (0, u "<init>"), (0, u "()V"), (89, .class_ 100), (1, u "java/lang/Math$RandomNumberGeneratorHolder"), (71, u "negativeZeroFloatBits"), (0, u "J"), (2, u "negativeZeroDoubleBits"), (21, u "max"), (2, u "min"), (43, u "$assertionsDisabled"), (0, u "Z"), (88, u "(II)I"), (2, u "twoToTheDoubleScaleDown"), (0, u "D"), (4, u "twoToTheDoubleScaleUp"), (9, u "E"), (3, u "PI"), (2, u "TAU"), (2, u "DEGREES_TO_RADIANS"), (0, u "RADIANS_TO_DEGREES")] 94

def k4m0 : Method := { name := "<init>", desc := "()V", sig := { parameters := [], returnType := none }, accessFlags := 2, code := none }
def k4c1 : Code := { maxStack := 2, maxLocals := 2, code := jdk_29_method_65_code, exceptionTable := #[], attributes := #[] }
def k4m1 : Method := { name := "max", desc := "(II)I", sig := { parameters := [.int, .int], returnType := some .int }, accessFlags := 9, code := some k4c1 }
def k4c2 : Code := { maxStack := 2, maxLocals := 2, code := jdk_29_method_69_code, exceptionTable := #[], attributes := #[] }
def k4m2 : Method := { name := "min", desc := "(II)I", sig := { parameters := [.int, .int], returnType := some .int }, accessFlags := 9, code := some k4c2 }
/-- java/lang/Math -/
def k4 : Class := { plain "java/lang/Math" (some 0) with
  accessFlags := 49
  interfaces := #[]
  cf := some (fileOf pool4 1 #[.nestMembers #[98]] #[{ accessFlags := 2, nameIndex := 7, descriptorIndex := 8, attributes := #[] }, { accessFlags := 9, nameIndex := 198, descriptorIndex := 335, attributes := #[] }, { accessFlags := 9, nameIndex := 201, descriptorIndex := 335, attributes := #[] }] 49 4 #[] #[{ accessFlags := 25, nameIndex := 354, descriptorIndex := 339, attributes := #[] }, { accessFlags := 25, nameIndex := 358, descriptorIndex := 339, attributes := #[] }, { accessFlags := 25, nameIndex := 361, descriptorIndex := 339, attributes := #[] }, { accessFlags := 26, nameIndex := 364, descriptorIndex := 339, attributes := #[] }, { accessFlags := 26, nameIndex := 365, descriptorIndex := 339, attributes := #[] }, { accessFlags := 26, nameIndex := 172, descriptorIndex := 173, attributes := #[] }, { accessFlags := 26, nameIndex := 176, descriptorIndex := 173, attributes := #[] }, { accessFlags := 8, nameIndex := 344, descriptorIndex := 339, attributes := #[] }, { accessFlags := 8, nameIndex := 338, descriptorIndex := 339, attributes := #[] }, { accessFlags := 4120, nameIndex := 245, descriptorIndex := 246, attributes := #[] }])
  fields := #[{ name := "E", type := .double, accessFlags := 25, slot := 0, constantValue := 0 }, { name := "PI", type := .double, accessFlags := 25, slot := 1, constantValue := 0 }, { name := "TAU", type := .double, accessFlags := 25, slot := 2, constantValue := 0 }, { name := "DEGREES_TO_RADIANS", type := .double, accessFlags := 26, slot := 3, constantValue := 0 }, { name := "RADIANS_TO_DEGREES", type := .double, accessFlags := 26, slot := 4, constantValue := 0 }, { name := "negativeZeroFloatBits", type := .long, accessFlags := 26, slot := 5, constantValue := 0 }, { name := "negativeZeroDoubleBits", type := .long, accessFlags := 26, slot := 6, constantValue := 0 }, { name := "twoToTheDoubleScaleUp", type := .double, accessFlags := 8, slot := 7, constantValue := 0 }, { name := "twoToTheDoubleScaleDown", type := .double, accessFlags := 8, slot := 8, constantValue := 0 }, { name := "$assertionsDisabled", type := .boolean, accessFlags := 4120, slot := 9, constantValue := 0 }]
  methods := #[k4m0, k4m1, k4m2]
  instanceTypes := #[]
  staticTypes := #[.double, .double, .double, .double, .double, .long, .long, .double, .double, .boolean]
  resolved := Array.replicate 460 none
  statics := none }

def pool5 : Array CpInfo := pool [(2, .class_ 4), (1, u "java/lang/Object"), (0, u "<init>"), (0, u "()V"), (7, .class_ 16), (1, u "java/util/Arrays"), (57, .class_ 76), (1, u "java/util/Arrays$NaturalOrder"), (36, .class_ 115), (1, u "java/util/Arrays$LegacyMergeSort"), (1, u "Z"), (257, .class_ 376), (0, u "java/util/Arrays$ArrayList"), (68, u "$assertionsDisabled"), (269, u "MIN_ARRAY_SORT_GRAN"), (0, u "I"), (2, u "INSERTIONSORT_THRESHOLD"), (120, u "fill"), (17, u "([Ljava/lang/Object;Ljava/lang/Object;)V"), (116, .class_ 976), (0, u "java/util/Arrays$ArrayItr")] 52

def k5m0 : Method := { name := "<init>", desc := "()V", sig := { parameters := [], returnType := none }, accessFlags := 2, code := none }
def k5c1 : Code := { maxStack := 3, maxLocals := 4, code := jdk_65_method_117_code, exceptionTable := #[], attributes := #[] }
def k5m1 : Method := { name := "fill", desc := "([Ljava/lang/Object;Ljava/lang/Object;)V", sig := { parameters := [(.array (.object "java/lang/Object")), (.object "java/lang/Object")], returnType := none }, accessFlags := 9, code := some k5c1 }
/-- java/util/Arrays -/
def k5 : Class := { plain "java/util/Arrays" (some 0) with
  accessFlags := 49
  interfaces := #[]
  cf := some (fileOf pool5 14 #[.nestMembers #[975, 375, 113, 74]] #[{ accessFlags := 2, nameIndex := 5, descriptorIndex := 6, attributes := #[] }, { accessFlags := 9, nameIndex := 840, descriptorIndex := 858, attributes := #[] }] 49 2 #[] #[{ accessFlags := 26, nameIndex := 715, descriptorIndex := 716, attributes := #[] }, { accessFlags := 26, nameIndex := 719, descriptorIndex := 716, attributes := #[] }, { accessFlags := 4120, nameIndex := 445, descriptorIndex := 117, attributes := #[] }])
  fields := #[{ name := "MIN_ARRAY_SORT_GRAN", type := .int, accessFlags := 26, slot := 0, constantValue := 0 }, { name := "INSERTIONSORT_THRESHOLD", type := .int, accessFlags := 26, slot := 1, constantValue := 0 }, { name := "$assertionsDisabled", type := .boolean, accessFlags := 4120, slot := 2, constantValue := 0 }]
  methods := #[k5m0, k5m1]
  instanceTypes := #[]
  staticTypes := #[.int, .int, .boolean]
  resolved := Array.replicate 1029 none
  statics := none }

def pool6 : Array CpInfo := pool [(1, .class_ 2), (0, u "java/lang/constant/Constable"), (0, .class_ 4), (0, u "java/lang/Object")] 6

/-- java/lang/constant/Constable -/
def k6 : Class := { plain "java/lang/constant/Constable" (some 0) with
  accessFlags := 1537
  interfaces := #[]
  cf := some (fileOf pool6 1 #[] #[] 1537 3 #[] #[])
  fields := #[]
  methods := #[]
  instanceTypes := #[]
  staticTypes := #[]
  resolved := Array.replicate 11 none
  statics := none }

def pool7 : Array CpInfo := pool [(1, .class_ 2), (0, u "java/lang/Comparable"), (0, .class_ 4), (0, u "java/lang/Object")] 7

/-- java/lang/Comparable -/
def k7 : Class := { plain "java/lang/Comparable" (some 0) with
  accessFlags := 1537
  interfaces := #[]
  cf := some (fileOf pool7 1 #[] #[] 1537 3 #[] #[])
  fields := #[]
  methods := #[]
  instanceTypes := #[]
  staticTypes := #[]
  resolved := Array.replicate 12 none
  statics := none }

def pool8 : Array CpInfo := pool [(1, .class_ 2), (0, u "java/io/Serializable"), (0, .class_ 4), (0, u "java/lang/Object")] 2

/-- java/io/Serializable -/
def k8 : Class := { plain "java/io/Serializable" (some 0) with
  accessFlags := 1537
  interfaces := #[]
  cf := some (fileOf pool8 1 #[] #[] 1537 3 #[] #[])
  fields := #[]
  methods := #[]
  instanceTypes := #[]
  staticTypes := #[]
  resolved := Array.replicate 7 none
  statics := none }

def pool9 : Array CpInfo := pool [(2, .class_ 4), (1, u "java/lang/Enum"), (0, u "name"), (0, u "Ljava/lang/String;"), (2, u "ordinal"), (0, u "I"), (1, .class_ 14), (1, u "java/lang/Object"), (4, u "hash"), (86, .class_ 108), (1, u "java/lang/Enum$EnumDesc"), (2, .class_ 112), (0, u "java/lang/constant/Constable"), (0, .class_ 114), (0, u "java/lang/Comparable"), (0, .class_ 116), (0, u "java/io/Serializable")] 87

/-- java/lang/Enum -/
def k9 : Class := { plain "java/lang/Enum" (some 0) with
  accessFlags := 1057
  interfaces := #[6, 7, 8]
  cf := some (fileOf pool9 2 #[.nestMembers #[106]] #[] 1057 12 #[111, 113, 115] #[{ accessFlags := 18, nameIndex := 5, descriptorIndex := 6, attributes := #[] }, { accessFlags := 18, nameIndex := 9, descriptorIndex := 10, attributes := #[] }, { accessFlags := 2, nameIndex := 19, descriptorIndex := 10, attributes := #[] }])
  fields := #[{ name := "name", type := (.object "java/lang/String"), accessFlags := 18, slot := 0, constantValue := 0 }, { name := "ordinal", type := .int, accessFlags := 18, slot := 1, constantValue := 0 }, { name := "hash", type := .int, accessFlags := 2, slot := 2, constantValue := 0 }]
  methods := #[]
  instanceTypes := #[(.object "java/lang/String"), .int, .int]
  staticTypes := #[]
  resolved := Array.replicate 204 none
  statics := none }

def pool10 : Array CpInfo := pool [(1, .class_ 2), (0, u "com/example/shiftwise/shiftwise/search/CharWindows"), (2, u "WHOLE"), (0, u "Lcom/example/shiftwise/shiftwise/search/CharWindows;"), (2, u "BYTES_IF_HELD"), (2, u "BYTES_WHEREVER"), (2, u "$VALUES"), (0, u "[Lcom/example/shiftwise/shiftwise/search/CharWindows;"), (6, .class_ 25), (1, u "java/lang/Enum")] 25

/-- com/example/shiftwise/shiftwise/search/CharWindows -/
def k10 : Class := { plain "com/example/shiftwise/shiftwise/search/CharWindows" (some 9) with
  accessFlags := 16432
  interfaces := #[]
  cf := some (fileOf pool10 1 #[] #[] 16432 23 #[] #[{ accessFlags := 16409, nameIndex := 5, descriptorIndex := 6, attributes := #[] }, { accessFlags := 16409, nameIndex := 9, descriptorIndex := 6, attributes := #[] }, { accessFlags := 16409, nameIndex := 12, descriptorIndex := 6, attributes := #[] }, { accessFlags := 4122, nameIndex := 15, descriptorIndex := 16, attributes := #[] }])
  fields := #[{ name := "WHOLE", type := (.object "com/example/shiftwise/shiftwise/search/CharWindows"), accessFlags := 16409, slot := 0, constantValue := 0 }, { name := "BYTES_IF_HELD", type := (.object "com/example/shiftwise/shiftwise/search/CharWindows"), accessFlags := 16409, slot := 1, constantValue := 0 }, { name := "BYTES_WHEREVER", type := (.object "com/example/shiftwise/shiftwise/search/CharWindows"), accessFlags := 16409, slot := 2, constantValue := 0 }, { name := "$VALUES", type := (.array (.object "com/example/shiftwise/shiftwise/search/CharWindows")), accessFlags := 4122, slot := 3, constantValue := 0 }]
  methods := #[]
  instanceTypes := #[(.object "java/lang/String"), .int, .int]
  staticTypes := #[(.object "com/example/shiftwise/shiftwise/search/CharWindows"), (.object "com/example/shiftwise/shiftwise/search/CharWindows"), (.object "com/example/shiftwise/shiftwise/search/CharWindows"), (.array (.object "com/example/shiftwise/shiftwise/search/CharWindows"))]
  resolved := Array.replicate 51 none
  statics := some 1 }

def pool11 : Array CpInfo := pool [(1, u "java/lang/Cloneable"), (0, .class_ 1), (0, u "java/lang/Object"), (0, .class_ 3)] 3

/-- java/lang/Cloneable -/
def k11 : Class := { plain "java/lang/Cloneable" (some 0) with
  accessFlags := 1537
  interfaces := #[]
  cf := some (fileOf pool11 2 #[] #[] 1537 4 #[] #[])
  fields := #[]
  methods := #[]
  instanceTypes := #[]
  staticTypes := #[]
  resolved := Array.replicate 8 none
  statics := none }

/-- the primitive byte -/
def k12 : Class := { plain "byte" none with kind := .primitive 'B', accessFlags := 0x411 }
/-- [B -/
def k13 : Class := { plain "[B" (some 0) with kind := .array 12 .byte, interfaces := #[11, 8], accessFlags := 1041 }

/-- the primitive int -/
def k14 : Class := { plain "int" none with kind := .primitive 'I', accessFlags := 0x411 }
/-- [I -/
def k15 : Class := { plain "[I" (some 0) with kind := .array 14 .int, interfaces := #[11, 8], accessFlags := 1041 }

/-- the primitive long -/
def k16 : Class := { plain "long" none with kind := .primitive 'J', accessFlags := 0x411 }
/-- [J -/
def k17 : Class := { plain "[J" (some 0) with kind := .array 16 .long, interfaces := #[11, 8], accessFlags := 1041 }

def heap : Heap := #[{ cls := 3, slots := #[.null, .int 0, .int 0, .int 0, .int 0, .int 0, .int 0, .int 0, .ref 2, .int 0, .long 0], vm := .statics 3 },
  { cls := 10, slots := #[.ref 4, .ref 3, .null, .null], vm := .statics 10 },
  { cls := 17, slots := #[.long 0, .long 0, .long 0, .long 0, .long 0, .long 0, .long 0, .long 0, .long 0, .long 0, .long 0, .long 0, .long 0, .long 0, .long 0, .long 0, .long 0, .long 0, .long 0, .long 0, .long 0, .long 0, .long 0, .long 0, .long 0, .long 0, .long 0, .long 0, .long 0, .long 0, .long 0, .long 0, .long 0, .long 0, .long 0, .long 0, .long 0, .long 0, .long 0, .long 0, .long 0, .long 0, .long 0, .long 0, .long 0, .long 0, .long 0, .long 0, .long 0, .long 0, .long 0, .long 0, .long 0, .long 0, .long 0, .long 0, .long 0, .long 0, .long 0, .long 0, .long 0, .long 0, .long 0, .long 0, .long 0, .long 0, .long 0, .long 0, .long 0, .long 0, .long 0, .long 0, .long 0, .long 0, .long 0, .long 0, .long 0, .long 0, .long 0, .long 0, .long 0, .long 0, .long 0, .long 0, .long 0, .long 0, .long 0, .long 0, .long 0, .long 0, .long 0, .long 0, .long 0, .long 0, .long 0, .long 0, .long 0, .long 0, .long 0, .long 0, .long 0, .long 0, .long 0, .long 0, .long 0, .long 0, .long 0, .long 0, .long 0, .long 0, .long 0, .long 0, .long 0, .long 0, .long 0, .long 0, .long 0, .long 0, .long 0, .long 0, .long 0, .long 0, .long 0, .long 0, .long 0, .long 0, .long 0, .long 0, .long 0, .long 0, .long 0, .long 0, .long 0, .long 0, .long 0, .long 0, .long 0, .long 0, .long 0, .long 0, .long 0, .long 0, .long 0, .long 0, .long 0, .long 0, .long 0, .long 0, .long 0, .long 0, .long 0, .long 0, .long 0, .long 0, .long 0, .long 0, .long 0, .long 0, .long 0, .long 0, .long 0, .long 0, .long 0, .long 0, .long 0, .long 0, .long 0, .long 0, .long 0, .long 0, .long 0, .long 0, .long 0, .long 0, .long 0, .long 0, .long 0, .long 0, .long 0, .long 0, .long 0, .long 0, .long 0, .long 0, .long 0, .long 0, .long 0, .long 0, .long 0, .long 0, .long 0, .long 0, .long 0, .long 0, .long 0, .long 0, .long 0, .long 0, .long 0, .long 0, .long 0, .long 0, .long 0, .long 0, .long 0, .long 0, .long 0, .long 0, .long 0, .long 0, .long 0, .long 0, .long 0, .long 0, .long 0, .long 0, .long 0, .long 0, .long 0, .long 0, .long 0, .long 0, .long 0, .long 0, .long 0, .long 0, .long 0, .long 0, .long 0, .long 0, .long 0, .long 0, .long 0, .long 0, .long 0, .long 0, .long 0, .long 0, .long 0, .long 0, .long 0, .long 0, .long 0, .long 0, .long 0, .long 0, .long 0, .long 0, .long 0, .long 0, .long 0, .long 0, .long 0, .long 0, .long 0, .long 0], vm := .none },
  { cls := 10, slots := #[.null, .int 0, .int 0], vm := .none },
  { cls := 10, slots := #[.null, .int 0, .int 0], vm := .none }]
/-- [[J -/
def k18 : Class := { plain "[[J" (some 0) with kind := .array 17 (.array .long), interfaces := #[11, 8], accessFlags := 1041 }
def classes : Array Class := #[k0, k1, k2, k3, k4, k5, k6, k7, k8, k9, k10, k11, k12, k13, k14, k15, k16, k17, k18]
def interned : List (Array UInt16 × Addr) := []
def slotsUsed : Nat := 277
def theMethod : MethodId := ⟨1, 1⟩
def args0 : Array Value := #[.int 5, .int 3, .int 4, .int 7]
def aboutOver (below : List Frame) : State where
  vm := { classes := classes, interned := interned.toArray }
  heap := heap
  slotsUsed := slotsUsed
  threads := #[{ frames := .invoking theMethod args0 :: below }]
def below0 : List Frame := [.native { method := ⟨0, 0⟩, args := #[] }]
def about1 : State := aboutOver below0
def p0 : Program := .bare "" "" ""
def e0 : Env := launch0.env 0 0 0
theorem w_frames : about1.frames = Frame.invoking theMethod args0 :: below0 := rfl
set_option maxRecDepth 65536 in
theorem w_args : argsFit about1.vm theMethod args0 = true := by decide +kernel
set_option maxRecDepth 65536 in
theorem w_heap : heapFits about1 = true := by decide +kernel
set_option maxRecDepth 65536 in
theorem w_runnable : about1.curStatus? = some .runnable := by decide +kernel
set_option maxRecDepth 65536 in
theorem w_alone : about1.alone = true := by decide +kernel
set_option maxRecDepth 65536 in
theorem w_named : about1.methodNamed? x = some theMethod := by decide +kernel
set_option maxRecDepth 65536 in
theorem w_hears : about1.hears theMethod below0 = true := by decide +kernel
set_option maxRecDepth 65536 in
theorem w_ripe : about1.ripe theMethod args0 below0 = true := by decide +kernel
theorem w_running : about1.status = .running := rfl
set_option maxRecDepth 65536 in
theorem w_room : about1.hasRoom e0.platform room_1 = true :=
  launch0.hasRoom_least _ room_1 (by decide +kernel) (by decide +kernel) (by decide +kernel) (by decide +kernel) (by decide +kernel) (by decide +kernel)
theorem allAtoms_all (ts : List Jvm.Cond) (a : Array Jvm.Value) (st : Jvm.State) : (allAtoms ts).before a st = ts.all (fun c => c.before a st) := by
  induction ts with
  | nil => rfl
  | cons c t ih =>
    show (Jvm.Cond.and c (allAtoms t)).before a st = _
    rw [Jvm.Cond.before_and, ih, List.all_cons]
def words1 : List Jvm.Cond := Jvm.Cond.code x code maxLocals ret :: tables_1
/-- a 'code' word, met by the world's own term for the bytes: nothing is compared byte by byte -/
theorem code_word {y : MethodName} {bytes : ByteArray} {mx : Nat} {rt : Option FieldType} {a : Array Value} {s : State} {m : MethodId} {meth : Method} {c : Code} (h1 : s.methodNamed? y = some m) (h2 : s.vm.method? m = some meth) (h3 : meth.code = some c) (h4 : c.code = bytes)
    (h5 : (c.maxLocals == mx && c.exceptionTable.isEmpty && decide (c.maxStack ≤ mostOperands) && decide (meth.sig.returnType = rt) && !meth.locks && decide (parseMethodDescriptor y.desc = some meth.sig)) = true) : (Jvm.Cond.code y bytes mx rt).before a s = true := by
  simp only [Bool.and_eq_true, beq_iff_eq, Bool.not_eq_true', decide_eq_true_eq] at h5
  obtain ⟨⟨⟨⟨⟨g1, g2⟩, g3⟩, g4⟩, g5⟩, g6⟩ := h5
  simp [Cond.before, Cond.holds, Cond.value, h1, h2, h3, h4, g1, g2, g3, g4, g5, g6]
def isCode : Jvm.Cond → Bool
  | .code _ _ _ _ => true
  | _ => false
theorem all_split {L : List Jvm.Cond} {P : Jvm.Cond → Bool} (h1 : L.all (fun c => isCode c || P c) = true) (h2 : ∀ c ∈ L.filter isCode, P c = true) : L.all P = true := by
  refine List.all_eq_true.mpr fun c hc => ?_
  have h := List.all_eq_true.mp h1 c hc
  rcases Bool.eq_false_or_eq_true (isCode c) with hi | hi
  · exact h2 c (List.mem_filter.mpr ⟨hc, hi⟩)
  · simpa [hi] using h
set_option maxRecDepth 65536 in
theorem w_c0 : (Jvm.Cond.code x code maxLocals ret).before args0 about1 = true := code_word (m := ⟨1, 1⟩) (meth := k1m1) (c := k1c1) (by decide +kernel) rfl rfl rfl (by decide +kernel)
set_option maxRecDepth 65536 in
theorem w_c1 : (Jvm.Cond.code ({ cls := "com/example/shiftwise/shiftwise/search/FactorSkip", name := "<init>", desc := "([II)V" } : Jvm.MethodName) prog_35_method_1_code (3 : Nat) (Option.none : Option Jvm.ClassFile.FieldType)).before args0 about1 = true := code_word (m := ⟨3, 0⟩) (meth := k3m0) (c := k3c0) (by decide +kernel) rfl rfl rfl (by decide +kernel)
set_option maxRecDepth 65536 in
theorem w_c2 : (Jvm.Cond.code ({ cls := "java/lang/Object", name := "<init>", desc := "()V" } : Jvm.MethodName) object_method_1_code (1 : Nat) (Option.none : Option Jvm.ClassFile.FieldType)).before args0 about1 = true := code_word (m := ⟨0, 0⟩) (meth := k0m0) (c := k0c0) (by decide +kernel) rfl rfl rfl (by decide +kernel)
set_option maxRecDepth 65536 in
theorem w_c3 : (Jvm.Cond.code ({ cls := "java/lang/Math", name := "min", desc := "(II)I" } : Jvm.MethodName) jdk_29_method_69_code (2 : Nat) (Option.some Jvm.ClassFile.FieldType.int)).before args0 about1 = true := code_word (m := ⟨4, 2⟩) (meth := k4m2) (c := k4c2) (by decide +kernel) rfl rfl rfl (by decide +kernel)
set_option maxRecDepth 65536 in
theorem w_c4 : (Jvm.Cond.code ({ cls := "com/example/shiftwise/shiftwise/search/FactorSkip", name := "gramLength", desc := "(I)I" } : Jvm.MethodName) prog_35_method_21_code (1 : Nat) (Option.some Jvm.ClassFile.FieldType.int)).before args0 about1 = true := code_word (m := ⟨3, 4⟩) (meth := k3m4) (c := k3c4) (by decide +kernel) rfl rfl rfl (by decide +kernel)
set_option maxRecDepth 65536 in
theorem w_c5 : (Jvm.Cond.code ({ cls := "java/lang/Math", name := "max", desc := "(II)I" } : Jvm.MethodName) jdk_29_method_65_code (2 : Nat) (Option.some Jvm.ClassFile.FieldType.int)).before args0 about1 = true := code_word (m := ⟨4, 1⟩) (meth := k4m1) (c := k4c1) (by decide +kernel) rfl rfl rfl (by decide +kernel)
set_option maxRecDepth 65536 in
theorem w_c6 : (Jvm.Cond.code ({ cls := "com/example/shiftwise/shiftwise/search/FactorSkip", name := "positions", desc := "([III)[[J" } : Jvm.MethodName) prog_35_method_22_code (8 : Nat) (Option.some (Jvm.ClassFile.FieldType.array (Jvm.ClassFile.FieldType.array Jvm.ClassFile.FieldType.long)))).before args0 about1 = true := code_word (m := ⟨3, 5⟩) (meth := k3m5) (c := k3c5) (by decide +kernel) rfl rfl rfl (by decide +kernel)
set_option maxRecDepth 65536 in
theorem w_c7 : (Jvm.Cond.code ({ cls := "java/util/Arrays", name := "fill", desc := "([Ljava/lang/Object;Ljava/lang/Object;)V" } : Jvm.MethodName) jdk_65_method_117_code (4 : Nat) (Option.none : Option Jvm.ClassFile.FieldType)).before args0 about1 = true := code_word (m := ⟨5, 1⟩) (meth := k5m1) (c := k5c1) (by decide +kernel) rfl rfl rfl (by decide +kernel)
set_option maxRecDepth 65536 in
theorem w_c8 : (Jvm.Cond.code ({ cls := "com/example/shiftwise/shiftwise/search/FactorSkip", name := "factorGrams", desc := "([III)[B" } : Jvm.MethodName) prog_35_method_23_code (8 : Nat) (Option.some (Jvm.ClassFile.FieldType.array Jvm.ClassFile.FieldType.byte))).before args0 about1 = true := code_word (m := ⟨3, 6⟩) (meth := k3m6) (c := k3c6) (by decide +kernel) rfl rfl rfl (by decide +kernel)
set_option maxRecDepth 65536 in
theorem w_c9 : (Jvm.Cond.code ({ cls := "com/example/shiftwise/shiftwise/search/FactorSkip", name := "lowByte", desc := "(II)J" } : Jvm.MethodName) prog_35_method_19_code (2 : Nat) (Option.some Jvm.ClassFile.FieldType.long)).before args0 about1 = true := code_word (m := ⟨3, 2⟩) (meth := k3m2) (c := k3c2) (by decide +kernel) rfl rfl rfl (by decide +kernel)
set_option maxRecDepth 65536 in
theorem w_c10 : (Jvm.Cond.code ({ cls := "com/example/shiftwise/shiftwise/search/FactorSkip", name := "tableIndex", desc := "(J)I" } : Jvm.MethodName) prog_35_method_20_code (2 : Nat) (Option.some Jvm.ClassFile.FieldType.int)).before args0 about1 = true := code_word (m := ⟨3, 3⟩) (meth := k3m3) (c := k3c3) (by decide +kernel) rfl rfl rfl (by decide +kernel)
set_option maxRecDepth 65536 in
theorem w_c11 : (Jvm.Cond.code ({ cls := "com/example/shiftwise/shiftwise/search/FactorSkip", name := "charWindows", desc := "()Lcom/example/shiftwise/shiftwise/search/CharWindows;" } : Jvm.MethodName) prog_35_method_3_code (1 : Nat) (Option.some (Jvm.ClassFile.FieldType.object "com/example/shiftwise/shiftwise/search/CharWindows"))).before args0 about1 = true := code_word (m := ⟨3, 1⟩) (meth := k3m1) (c := k3c1) (by decide +kernel) rfl rfl rfl (by decide +kernel)
def codes1 : List Jvm.Cond := [Jvm.Cond.code x code maxLocals ret, Jvm.Cond.code ({ cls := "com/example/shiftwise/shiftwise/search/FactorSkip", name := "<init>", desc := "([II)V" } : Jvm.MethodName) prog_35_method_1_code (3 : Nat) (Option.none : Option Jvm.ClassFile.FieldType), Jvm.Cond.code ({ cls := "java/lang/Object", name := "<init>", desc := "()V" } : Jvm.MethodName) object_method_1_code (1 : Nat) (Option.none : Option Jvm.ClassFile.FieldType), Jvm.Cond.code ({ cls := "java/lang/Math", name := "min", desc := "(II)I" } : Jvm.MethodName) jdk_29_method_69_code (2 : Nat) (Option.some Jvm.ClassFile.FieldType.int), Jvm.Cond.code ({ cls := "com/example/shiftwise/shiftwise/search/FactorSkip", name := "gramLength", desc := "(I)I" } : Jvm.MethodName) prog_35_method_21_code (1 : Nat) (Option.some Jvm.ClassFile.FieldType.int), Jvm.Cond.code ({ cls := "java/lang/Math", name := "max", desc := "(II)I" } : Jvm.MethodName) jdk_29_method_65_code (2 : Nat) (Option.some Jvm.ClassFile.FieldType.int), Jvm.Cond.code ({ cls := "com/example/shiftwise/shiftwise/search/FactorSkip", name := "positions", desc := "([III)[[J" } : Jvm.MethodName) prog_35_method_22_code (8 : Nat) (Option.some (Jvm.ClassFile.FieldType.array (Jvm.ClassFile.FieldType.array Jvm.ClassFile.FieldType.long))), Jvm.Cond.code ({ cls := "java/util/Arrays", name := "fill", desc := "([Ljava/lang/Object;Ljava/lang/Object;)V" } : Jvm.MethodName) jdk_65_method_117_code (4 : Nat) (Option.none : Option Jvm.ClassFile.FieldType), Jvm.Cond.code ({ cls := "com/example/shiftwise/shiftwise/search/FactorSkip", name := "factorGrams", desc := "([III)[B" } : Jvm.MethodName) prog_35_method_23_code (8 : Nat) (Option.some (Jvm.ClassFile.FieldType.array Jvm.ClassFile.FieldType.byte)), Jvm.Cond.code ({ cls := "com/example/shiftwise/shiftwise/search/FactorSkip", name := "lowByte", desc := "(II)J" } : Jvm.MethodName) prog_35_method_19_code (2 : Nat) (Option.some Jvm.ClassFile.FieldType.long), Jvm.Cond.code ({ cls := "com/example/shiftwise/shiftwise/search/FactorSkip", name := "tableIndex", desc := "(J)I" } : Jvm.MethodName) prog_35_method_20_code (2 : Nat) (Option.some Jvm.ClassFile.FieldType.int), Jvm.Cond.code ({ cls := "com/example/shiftwise/shiftwise/search/FactorSkip", name := "charWindows", desc := "()Lcom/example/shiftwise/shiftwise/search/CharWindows;" } : Jvm.MethodName) prog_35_method_3_code (1 : Nat) (Option.some (Jvm.ClassFile.FieldType.object "com/example/shiftwise/shiftwise/search/CharWindows"))]
set_option maxRecDepth 65536 in
theorem codes_eq : words1.filter isCode = codes1 := rfl
theorem w_codes : ∀ c ∈ words1.filter isCode, c.before args0 about1 = true := by
  rw [codes_eq]
  intro c hc
  simp only [codes1, List.mem_cons, List.not_mem_nil, or_false] at hc
  rcases hc with rfl | rfl | rfl | rfl | rfl | rfl | rfl | rfl | rfl | rfl | rfl | rfl
  · exact w_c0
  · exact w_c1
  · exact w_c2
  · exact w_c3
  · exact w_c4
  · exact w_c5
  · exact w_c6
  · exact w_c7
  · exact w_c8
  · exact w_c9
  · exact w_c10
  · exact w_c11
set_option maxRecDepth 65536 in
theorem w_t1 : (words1.take 24).all (fun c => isCode c || c.before args0 about1) = true := by decide +kernel
set_option maxRecDepth 65536 in
theorem w_t2 : ((words1.drop 24).take 24).all (fun c => isCode c || c.before args0 about1) = true := by decide +kernel
set_option maxRecDepth 65536 in
theorem w_t3 : (((words1.drop 24).drop 24).take 24).all (fun c => isCode c || c.before args0 about1) = true := by decide +kernel
set_option maxRecDepth 65536 in
theorem w_t4 : (((words1.drop 24).drop 24).drop 24).all (fun c => isCode c || c.before args0 about1) = true := by decide +kernel
theorem w_tables : (allAtoms (Jvm.Cond.code x code maxLocals ret :: tables_1)).before args0 about1 = true := by
  rw [allAtoms_all]
  show words1.all (fun c => c.before args0 about1) = true
  refine all_split ?_ w_codes
  rw [← List.take_append_drop 24 words1, List.all_append, w_t1, ← List.take_append_drop 24 (words1.drop 24), List.all_append, w_t2, ← List.take_append_drop 24 ((words1.drop 24).drop 24), List.all_append, w_t3, w_t4]
  rfl
set_option maxRecDepth 65536 in
theorem w_case : (Jvm.Cond.and given_1 narrow_1).before args0 about1 = true := by decide +kernel
theorem w_applies : (headSpec (Jvm.Cond.code x code maxLocals ret :: tables_1) room_1).applies x e0.platform about1 = true :=
  (Spec.applies_iff w_frames).mpr ⟨w_running, w_runnable, w_alone, w_named, w_hears, w_ripe, w_room, w_tables⟩
theorem atStart : AtStart classFile x code maxLocals ret World_1 tables_1 room_1 Calls_1 rest_1 Pre_1 launch0 p0 e0 about1 theMethod args0 below0 :=
  ⟨lists_1, trivial, launch0.admits_env _ _ _, launch0.least_env, fairChoices_fair.cas, fairChoices_fair.clock, w_frames, w_args, w_heap, w_applies, trivial, trivial, w_case⟩
end start1
theorem witness_1 : WitnessClaimed_1 := ⟨start1.p0, start1.e0, start1.about1, start1.theMethod, start1.args0, start1.below0, start1.atStart⟩
end Jvm.Pilot.@@N@@
