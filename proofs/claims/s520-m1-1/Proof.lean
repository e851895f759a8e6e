import JvmDerived
import JvmDerived.Pilot.@@N@@Statement
import JvmDerived.Pilot.@@N@@Code
set_option linter.unusedVariables false
set_option linter.unusedSimpArgs false
namespace Jvm.RoadKit
open Sem ClassFile Op Lib Jvm.Stand Jvm.Free Jvm.LawKit
section Own
/-- from u a state is reached where R holds -/
def own_Go (tb : Tables) (e : Env) (below : List Frame) (R : State → Prop) (u : State) : Prop := ∃ t, Steps tb e below u t ∧ R t
theorem own_st {tb : Tables} {e : Env} {below : List Frame} {R : State → Prop} {u v : State} (h : ∀ t, Steps tb e below v t → Steps tb e below u t) (g : own_Go tb e below R v) : own_Go tb e below R u := by
  obtain ⟨t, h1, h2⟩ := g
  exact ⟨t, h t h1, h2⟩
theorem own_fin {tb : Tables} {e : Env} {below : List Frame} {R : State → Prop} {u t : State} (h : Steps tb e below u t) (r : R t) : own_Go tb e below R u := ⟨t, h, r⟩
theorem own_in {tb : Tables} {e : Env} {below : List Frame} {u v : State} {P : State → Outcome → Prop} (h : ∀ t, Steps tb e below v t → Steps tb e below u t)
    (g : ∀ RR : State → Prop, (∀ t, (∃ o, t.status = .running ∧ P t o) → RR t) → own_Go tb e below RR v) : ∃ t o, Steps tb e below u t ∧ t.status = .running ∧ P t o := by
  obtain ⟨t, h1, o, h2, h3⟩ := g (fun t => ∃ o, t.status = .running ∧ P t o) fun _ q => q
  exact ⟨t, o, h t h1, h2, h3⟩
theorem own_ri {x y : Int32} (h : x = y) : some (Value.int x) = some (Value.int y) := h ▸ rfl
theorem own_rj {x y : Int64} (h : x = y) : some (Value.long x) = some (Value.long y) := h ▸ rfl
theorem own_rr {x y : Addr} (h : x = y) : some (Value.ref x) = some (Value.ref y) := h ▸ rfl
theorem own_eq_int {args : Array Value} {first s : State} {o : Option Outcome} {idx : List Nat} {a : Term} {k : Int32} (h : (Cond.eq a (.int k)).value args first o s idx = some true) : a.eval args first o idx s = some (.int k) := by
  simp only [Cond.value, Term.eval] at h
  cases ht : a.eval args first o idx s with
  | none => simp [ht] at h
  | some x => cases x <;> simp [ht] at h ⊢; exact h
theorem own_eq_long {args : Array Value} {first s : State} {o : Option Outcome} {idx : List Nat} {a : Term} {k : Int64} (h : (Cond.eq a (.long k)).value args first o s idx = some true) : a.eval args first o idx s = some (.long k) := by
  simp only [Cond.value, Term.eval] at h
  cases ht : a.eval args first o idx s with
  | none => simp [ht] at h
  | some x => cases x <;> simp [ht] at h ⊢; exact h
theorem own_staK {Z : State} {h h' : Heap} {C n d : String} {w : Value} {ws : List Addr} (F : Sta Z h C n d w) (K : Keep h h' ws) (q : ∀ x ∈ ws, ∀ cell : Cell, h[x]? = some cell → cell.vm.isStatics = false) : Sta Z h' C n d w := by
  obtain ⟨cf, i, k, f, st, cell, h1, h2, h3, h4, h5, h6, h7⟩ := F
  exact ⟨cf, i, k, f, st, cell, h1, h2, h3, h4, K.2.1 st cell h5 (fun m => by have := q st m cell h5; rw [h6] at this; cases this), h6, h7⟩
theorem own_selP {s : State} {args : Array Value} {y : MethodName} {n : Nat} (wi : (Cond.instantiable y.cls n).before args s = true) (hp : s.PrivateAt y) (hi : (Cond.instanceMethod y).before args s = true) (hy : y.cls ≠ "java/lang/invoke/MethodHandle" ∧ y.cls ≠ "java/lang/invoke/VarHandle") : (Cond.selects y.cls y y).before args s = true := by
  obtain ⟨c, k, h1, h2, -, h4, -⟩ := Cond.instantiable_spec wi
  exact selects_self_of_private h1 h2 (Bool.or_eq_false_iff.mp h4).1 hp hi hy
variable {p : Program} {l : Launch} {e : Env} {R : Room} {s : State} {m : MethodId} {args : Array Value} {below : List Frame} {meth : Method} {c : Code} {T : State} {locs : List Loc} {cells slots : Nat} {Z : State} {h : Heap}
theorem retI (X : Stand p l e R s m args below meth c T locs cells slots) (hx : p.tables.exec = Jvm.exec) {pc : Nat} {Ls : Array Slot} {z : Int32} {rest : List Value} (hret : meth.sig.returnType = some .int) (hd : decode c.code pc = .ok (.ireturn, 1)) {fs : List Frame}
    (hl : ∀ (f : JFrame) (acts : List Action), f.method = m → f.locked = none → f.entered = [] → (doReturn e (T.setTop f) acts (some (.int z))).1 = T.setFrames fs) : Steps p.tables e below (T.setTop (mkF m pc Ls (.int z :: rest))) (T.setFrames fs) :=
  retOut X hx hret rfl (Or.inl ⟨rfl, Or.inl rfl, z, rfl⟩) hd hl
theorem own_len (X : Stand p l e R s m args below meth c T locs cells slots) (hx : p.tables.exec = Jvm.exec) (hZ : Z.Warmed39 s.vm) (eT : T.heap = h) {a : Addr} {cl : Cell} {ty : FieldType} (A : Arr Z h a cl ty) {z : Int32} (S : cl.slots.size = z.toNatClampNeg) (N : ¬ z < 0)
    {g : JFrame} (hg : g.method = m) {rest : List Value} (hs : g.stack = .ref a :: rest) (hd : decode c.code g.pc = .ok (.arraylength, 1)) {target : State}
    (k : Steps p.tables e below (T.setTop { g with pc := g.pc + 1, stack := .int z :: rest }) target) : Steps p.tables e below (T.setTop g) target :=
  X.arraylength hx (by rw [eT]; exact A.1) (State.isArrayOf_alike hZ.alike A.2.1) hg hs hd target (by rw [len_of S N]; exact k)
end Own
end Jvm.RoadKit
namespace Jvm.Pilot.@@N@@
open Jvm Jvm.ClassFile Sem Op Lib Jvm.Free Jvm.Stand Jvm.LawKit Jvm.RoadKit Bundle Jvm.Pilot.@@N@@.Jvm.D
def own_fl (n i : Nat) (v d : Value) : List Value := List.replicate i v ++ List.replicate (n - i) d
theorem own_fl_len {n i : Nat} (h : i ≤ n) (v d : Value) : (own_fl n i v d).length = n := by
  simp only [own_fl, List.length_append, List.length_replicate]
  omega
theorem own_flS {n i : Nat} (h : i < n) (v d : Value) : (own_fl n i v d).set i v = own_fl n (i + 1) v d := by
  have e : n - i = (n - (i + 1)) + 1 := by omega
  have e1 : own_fl n i v d = List.replicate i v ++ d :: List.replicate (n - (i + 1)) d := by
    unfold own_fl
    rw [e]
    rfl
  have e2 : own_fl n (i + 1) v d = List.replicate i v ++ v :: List.replicate (n - (i + 1)) d := by
    unfold own_fl
    rw [List.replicate_succ' (n := i) (a := v), List.append_assoc]
    rfl
  rw [e1, e2, List.set_append_right i v (by rw [List.length_replicate]; exact Nat.le_refl i), List.length_replicate, Nat.sub_self]
  rfl
theorem own_flg {n j : Nat} (h : j < n) (v d d' : Value) : (own_fl n n v d).getD j d' = v := by
  rw [List.getD_eq_getElem?_getD]
  have : (own_fl n n v d)[j]? = some v := by
    unfold own_fl
    rw [List.getElem?_append_left (by rw [List.length_replicate]; exact h), List.getElem?_replicate, if_pos h]
  rw [this]
  rfl
theorem own_ls {L : List Value} {i n : Nat} {v : Value} (h : L.length = n) : (L.set i v).length = n := by
  rw [List.length_set]
  exact h
theorem own_hit {L : List Value} {i j n : Nat} {v d : Value} (hl : L.length = n) (hi : i < n) (h : j = i) : (L.set i v).getD j d = v := by
  subst h
  rw [List.getD_eq_getElem?_getD, List.getElem?_set_self (by rw [hl]; exact hi)]
  rfl
theorem own_miss {L : List Value} {i j : Nat} {v d w : Value} (h : j ≠ i) (r : L.getD j d = w) : (L.set i v).getD j d = w := by
  rw [List.getD_eq_getElem?_getD, List.getElem?_set_ne (Ne.symm h), ← List.getD_eq_getElem?_getD]
  exact r
theorem own_nn0 {x : Int32} (h : 0 ≤ x.toInt) : ¬ x < (0 : Int32) := by
  rw [Int32.lt_iff_toInt_lt]
  have : (0 : Int32).toInt = 0 := by decide
  omega
theorem own_ltv {x y : Int32} {n : Int} (hy : y.toInt = n) (h : x.toInt < n) : x < y := by
  rw [Int32.lt_iff_toInt_lt, hy]
  exact h
theorem own_nci {x : Int32} {i : Nat} (h : x.toInt = (i : Int)) : x.toNatClampNeg = i := by
  show x.toInt.toNat = i
  rw [h]
  rfl
theorem own_ncl {x : Int32} (h : 0 ≤ x.toInt ∧ x.toInt < 256) : x.toNatClampNeg < 256 := by
  show x.toInt.toNat < 256
  omega
theorem own_ncne {x y : Int32} (hx : 0 ≤ x.toInt) (hy : 0 ≤ y.toInt) (h : ¬ x = y) : x.toNatClampNeg ≠ y.toNatClampNeg := by
  intro q
  apply h
  apply Int32.toInt_inj.mp
  have q' : x.toInt.toNat = y.toInt.toNat := q
  omega
theorem own_hb {p : Int32} (h : 0 ≤ p.toInt ∧ p.toInt < 65536) : ((p.toUInt32 >>> ((8 : Int32) &&& 31).toUInt32).toInt32).toInt = p.toInt / 256 := by
  have h1 := c_iushr p 8 8 (by decide) (by decide)
  have e : ((2 ^ 8 : Nat) : Int) = 256 := by decide
  rw [e] at h1
  rw [h1, Int.emod_eq_of_lt h.1 (by omega)]
theorem own_lb (p : Int32) : (p &&& (255 : Int32)).toInt = p.toInt % 256 := by
  have h1 := c_mask p 255 8 (by decide) (by decide)
  have e : ((2 ^ 8 : Nat) : Int) = 256 := by decide
  rw [e] at h1
  exact h1
theorem own_hr {p : Int32} (h : 0 ≤ p.toInt ∧ p.toInt < 65536) : 0 ≤ ((p.toUInt32 >>> ((8 : Int32) &&& 31).toUInt32).toInt32).toInt ∧ ((p.toUInt32 >>> ((8 : Int32) &&& 31).toUInt32).toInt32).toInt < 256 := by
  rw [own_hb h]
  omega
theorem own_lr (p : Int32) : 0 ≤ (p &&& (255 : Int32)).toInt ∧ (p &&& (255 : Int32)).toInt < 256 := by
  rw [own_lb p]
  omega
theorem own_i256 {x : Int32} (h : 0 ≤ x.toInt ∧ x.toInt < 256) : ¬ x < (0 : Int32) ∧ x < (256 : Int32) := ⟨own_nn0 h.1, own_ltv (n := 256) (by decide) h.2⟩
/-- the high and the low half say which it is -/
theorem own_two {p c : Int32} (hp : 0 ≤ p.toInt ∧ p.toInt < 65536) (hc : 0 ≤ c.toInt ∧ c.toInt < 65536) (h1 : ((p.toUInt32 >>> ((8 : Int32) &&& 31).toUInt32).toInt32) = ((c.toUInt32 >>> ((8 : Int32) &&& 31).toUInt32).toInt32)) (h2 : p &&& (255 : Int32) = c &&& (255 : Int32)) : p = c := by
  apply Int32.toInt_inj.mp
  have a1 := own_hb hp
  have a2 := own_hb hc
  have a3 := own_lb p
  have a4 := own_lb c
  rw [h1, a2] at a1
  rw [h2, a4] at a3
  omega
theorem own_xorb {p q : Int32} (hp : 0 ≤ p.toInt ∧ p.toInt < 65536) (hq : 0 ≤ q.toInt ∧ q.toInt < 65536) : 0 ≤ (p ^^^ q).toInt ∧ (p ^^^ q).toInt < 65536 := by
  have nat : ∀ x : Int32, 0 ≤ x.toInt ∧ x.toInt < 65536 → x.toBitVec.toNat < 2 ^ 16 := by
    intro x h
    have h2 := x.toBitVec.isLt
    obtain ⟨a, b⟩ := h
    change 0 ≤ x.toBitVec.toInt at a
    change x.toBitVec.toInt < 65536 at b
    rw [BitVec.toInt_eq_toNat_cond] at a b
    by_cases k : 2 * x.toBitVec.toNat < 2 ^ 32
    · rw [if_pos k] at a b
      omega
    · rw [if_neg k] at a b
      omega
  have n3 : (p ^^^ q).toBitVec.toNat < 2 ^ 16 := by
    show (p.toBitVec ^^^ q.toBitVec).toNat < _
    rw [BitVec.toNat_xor]
    exact Nat.xor_lt_two_pow (nat p hp) (nat q hq)
  show 0 ≤ (p ^^^ q).toBitVec.toInt ∧ (p ^^^ q).toBitVec.toInt < 65536
  rw [BitVec.toInt_eq_toNat_cond, if_pos (by omega)]
  omega
theorem own_on {p c t r : Int32} {L : List Value} {d : Value} (hp : 0 ≤ p.toInt ∧ p.toInt < 65536) (hc : 0 ≤ c.toInt ∧ c.toInt < 65536) (hj : ((p.toUInt32 >>> ((8 : Int32) &&& 31).toUInt32).toInt32) = ((c.toUInt32 >>> ((8 : Int32) &&& 31).toUInt32).toInt32)) (hl : L.length = 256) (rest : L.getD (c &&& (255 : Int32)).toNatClampNeg d = .int r) : (L.set (p &&& (255 : Int32)).toNatClampNeg (.int t)).getD (c &&& (255 : Int32)).toNatClampNeg d = .int (if p = c then t else r) := by
  by_cases e : p = c
  · rw [if_pos e]
    subst e
    exact own_hit hl (own_ncl (own_lr p)) rfl
  · rw [if_neg e]
    exact own_miss (own_ncne (own_lr c).1 (own_lr p).1 (fun q => e (own_two hp hc hj q.symm))) rest
theorem own_off {p c t r : Int32} {v : Value} (h : ¬ ((p.toUInt32 >>> ((8 : Int32) &&& 31).toUInt32).toInt32) = ((c.toUInt32 >>> ((8 : Int32) &&& 31).toUInt32).toInt32)) (rest : v = .int r) : v = .int (if p = c then t else r) := by
  rw [if_neg (fun e => h (by rw [e]))]
  exact rest
theorem own_all {Z : State} {args : Array Value} {t : Term} {a : Addr} {c : Cell} {K : Int32} (et : ∀ idx, t.eval args Z none idx Z = some (.ref a)) (A : Arr Z Z.heap a c .int) (q : c.slots.size < 2 ^ 31) (e : c.slots.size.toInt32 = (256 : Int32)) (h : (Cond.all t (.eq (.elem t (.index 0)) (.int K))).value args Z none Z [] = some true) :
    Arv Z Z.heap a c.cls .int (256 : Int32) (own_fl 256 256 (.int K) (.int (0 : Int32))) (.int (0 : Int32)) := by
  have S : c.slots.size = (256 : Int32).toNatClampNeg := by
    rw [← e]
    simp only [Int32.toNatClampNeg, len_toInt q]
    rfl
  have S2 : c.slots.size = 256 := S
  refine ⟨c, A, rfl, S, by decide, fun k hk => ?_, fun k hk => ?_⟩
  · rw [own_flg (n := 256) (j := k) (by omega)]
    have e1 : (Nat.toInt32 k).toNatClampNeg = k := by
      simp only [Int32.toNatClampNeg, len_toInt (Nat.lt_trans hk q)]
      rfl
    have nn : ¬ Nat.toInt32 k < 0 := fun x => idx_in hk q (Or.inl x)
    have u := Cond.all_elim (et []) (A.fin (Vm.Alike.refl _)) h (Nat.toInt32 k).toNatClampNeg (by rw [e1]; exact hk)
    have v := own_eq_int u
    have w := (elem_f (et _) (idx_at nn) (A.fin (Vm.Alike.refl _)) nn).symm.trans v
    rw [e1] at w
    exact w
  · rw [own_flg (n := 256) (j := k) (by omega)]
    rfl
theorem own_lenE {t : Term} {args : Array Value} {first s : State} {o : Option Outcome} {idx : List Nat} {x y : Int32} (h1 : t.eval args first o idx s = some (.int x)) (h2 : t.eval args first o idx s = some (.int y)) : x = y := Value.int.inj (Option.some.inj (h1.symm.trans h2))
theorem own_gsi {s k : Int32} (hs : 0 ≤ s.toInt) (hk : k.toInt ≤ 2) (h : ¬ k < s) : 0 ≤ ((3 : Int32) - s).toInt ∧ ((3 : Int32) - s).toInt < 4 := by
  rw [Int32.lt_iff_toInt_lt] at h
  have h1 := c_isub 3 s
  have e : (3 : Int32).toInt = 3 := by decide
  rw [e] at h1
  have := rng32 ((3 : Int32) - s)
  omega
theorem own_i4 {x : Int32} (h : 0 ≤ x.toInt ∧ x.toInt < 4) : ¬ x < (0 : Int32) ∧ x < (4 : Int32) := ⟨own_nn0 h.1, own_ltv (n := 4) (by decide) h.2⟩
theorem own_n4 {x : Int32} (h : 0 ≤ x.toInt ∧ x.toInt < 4) : x.toNatClampNeg < 4 := by
  show x.toInt.toNat < 4
  omega
theorem own_mb {x m : Int32} (hm : m = 259 ∨ m = 65535) : 0 ≤ (x &&& m).toInt ∧ (x &&& m).toInt < 65536 := by
  rcases hm with rfl | rfl
  · have h := c_and x 259 (by decide)
    have e : (259 : Int32).toInt = 259 := by decide
    omega
  · have h := c_and x 65535 (by decide)
    have e : (65535 : Int32).toInt = 65535 := by decide
    omega
theorem own_inc {x : Int32} {i : Nat} (h : x.toInt = (i : Int)) (hi : i < 256) : (x + (1 : Int32)).toInt = ((i + 1 : Nat) : Int) := by
  have h1 := c_iadd x 1
  have e : (1 : Int32).toInt = 1 := by decide
  rw [e] at h1
  have := rng32 (x + (1 : Int32))
  omega
theorem own_pn_java_util_Arrays : plainName "java/util/Arrays" = true := by first | (simp [plainName, overriddenIn]; done) | decide +kernel
theorem own_djdk_65_method_117_code_0 : decode jdk_65_method_117_code 0 = .ok (.iconst 0, 1) := by decide +kernel
theorem own_djdk_65_method_117_code_1 : decode jdk_65_method_117_code 1 = .ok (.istore_n 2, 1) := by decide +kernel
theorem own_djdk_65_method_117_code_2 : decode jdk_65_method_117_code 2 = .ok (.aload_n 0, 1) := by decide +kernel
theorem own_djdk_65_method_117_code_3 : decode jdk_65_method_117_code 3 = .ok (.arraylength, 1) := by decide +kernel
theorem own_djdk_65_method_117_code_4 : decode jdk_65_method_117_code 4 = .ok (.istore_n 3, 1) := by decide +kernel
theorem own_djdk_65_method_117_code_5 : decode jdk_65_method_117_code 5 = .ok (.iload_n 2, 1) := by decide +kernel
theorem own_djdk_65_method_117_code_6 : decode jdk_65_method_117_code 6 = .ok (.iload_n 3, 1) := by decide +kernel
theorem own_djdk_65_method_117_code_7 : decode jdk_65_method_117_code 7 = .ok (.if_icmp .ge 13, 3) := by decide +kernel
theorem own_djdk_65_method_117_code_10 : decode jdk_65_method_117_code 10 = .ok (.aload_n 0, 1) := by decide +kernel
theorem own_djdk_65_method_117_code_11 : decode jdk_65_method_117_code 11 = .ok (.iload_n 2, 1) := by decide +kernel
theorem own_djdk_65_method_117_code_12 : decode jdk_65_method_117_code 12 = .ok (.aload_n 1, 1) := by decide +kernel
theorem own_djdk_65_method_117_code_13 : decode jdk_65_method_117_code 13 = .ok (.aastore, 1) := by decide +kernel
theorem own_djdk_65_method_117_code_14 : decode jdk_65_method_117_code 14 = .ok (.iinc 2 1, 3) := by decide +kernel
theorem own_djdk_65_method_117_code_17 : decode jdk_65_method_117_code 17 = .ok (.goto (-12), 3) := by decide +kernel
theorem own_djdk_65_method_117_code_20 : decode jdk_65_method_117_code 20 = .ok (.return_, 1) := by decide +kernel
theorem own_efFO (m : MethodId) (oa : Addr) (ov : Addr) : entryFrame m #[(.ref oa), (.ref ov)] 4 = mkF m 0 #[.val (.ref oa), .val (.ref ov), .unset, .unset] [] := by first | (simp [entryFrame, mkF, argsToLocals, Value.category]; done) | rfl
def own_QFO (Z : State) (oa : Addr) (ov : Addr) (ka : ClassId) (h0 : Heap) (n0 : Nat) (rv__ : Option Value) (h : Heap) (rL__ : List Loc) : Prop := rv__ = none ∧ Fr n0 rL__ ∧ Keep h0 h [oa] ∧ Arv Z h oa ka (.array .int) (256 : Int32) (own_fl 256 256 (.ref ov) .null) .null
abbrev own_RFO : Room := { frames := 0, cells := 0, slots := 0, locals := 0 }
set_option maxRecDepth 65536 in
set_option maxHeartbeats 40000000 in
theorem own_rmFO (l : Launch) (Z : State) (a0 : Array Value) (hw : ∀ d ∈ tables_1, d.before a0 Z = true) (ws : List Jvm.Cond) (oa : Addr) (ov : Addr) (ka : ClassId) (h0 : Heap) (n0 : Nat) (Z0 : n0 ≤ h0.size) (g_a : n0 ≤ oa) (Va : Arv Z h0 oa ka (.array .int) (256 : Int32) [] .null) (Oa : OvrA Z ka .int "[I") (Ev : Exa Z h0 ov "[I") :
    MetFree l (⟨"java/util/Arrays", "fill", "([Ljava/lang/Object;Ljava/lang/Object;)V"⟩ : MethodName) (head1 (Jvm.Cond.code (⟨"java/util/Arrays", "fill", "([Ljava/lang/Object;Ljava/lang/Object;)V"⟩ : MethodName) jdk_65_method_117_code 4 none :: ws) own_RFO) (fun aa__ U => aa__ = #[(.ref oa), (.ref ov)] ∧ Z.Warmed39 U.vm ∧ U.heap = h0) (fun _ _ _ _ _ => True) (fun _ U oc_ U' => ∃ rv__ rL__, oc_ = .returned rv__ ∧ own_QFO Z oa ov ka h0 n0 rv__ U'.heap rL__ ∧ FrameEnd U oc_ U' rL__ own_RFO.cells own_RFO.slots) := by
  refine MetFree.of_bodySF (plainFor_of_name own_pn_java_util_Arrays) hisR ?_
  intro p e s m args below meth c s₁ Bd hml0 hP hK
  obtain ⟨rfl, hZ, hh⟩ := hP
  have hx := Bd.exec
  have hby := Bd.bytes
  have hml : c.maxLocals = 4 := hml0
  have hown : s.vm.findClass "java/util/Arrays" = some m.cls := findClass_of_methodNamed Bd.named
  have hnm := (name_of_methodNamed Bd.named Bd.method).1
  have X0 : Stand p l e own_RFO s m #[(.ref oa), (.ref ov)] below meth c s₁ [] 0 0 := Stand.of_body Bd
  have e0 : s₁.heap = h0 := by rw [← hh, Bd.state]; rfl
  have N0 := Fr.nil n0
  refine own_in (fun _ k => castTop (own_efFO m oa ov) k) ?_
  intro RR hRR
  show own_Go p.tables e below RR (s₁.setTop (mkF m 0 #[.val (.ref oa), .val (.ref ov), .unset, .unset] []))
  refine own_st (fun _ k => XS.iconst X0.here hx rfl (hb hby own_djdk_65_method_117_code_0) (XS.istoreN X0.here hx rfl (hb hby own_djdk_65_method_117_code_1) rfl (l' := #[.val (.ref oa), .val (.ref ov), .val (.int (0 : Int32)), .unset]) rfl (XS.aloadN X0.here hx rfl (hb hby own_djdk_65_method_117_code_2) rfl rfl k))) ?_
  show own_Go p.tables e below RR (s₁.setTop (mkF m 3 #[.val (.ref oa), .val (.ref ov), .val (.int (0 : Int32)), .unset] [(.ref oa)]))
  obtain ⟨c1, A1, -, s1, m1, -, -⟩ := id Va
  refine own_st (fun _ k => own_len X0 hx hZ e0 A1 s1 m1 (g := (mkF m 3 #[.val (.ref oa), .val (.ref ov), .val (.int (0 : Int32)), .unset] [(.ref oa)])) rfl rfl (hb hby own_djdk_65_method_117_code_3) (XS.istoreN X0.here hx rfl (hb hby own_djdk_65_method_117_code_4) rfl (l' := #[.val (.ref oa), .val (.ref ov), .val (.int (0 : Int32)), .val (.int (256 : Int32))]) rfl k)) ?_
  show own_Go p.tables e below RR (s₁.setTop (mkF m 5 #[.val (.ref oa), .val (.ref ov), .val (.int (0 : Int32)), .val (.int (256 : Int32))] []))
  have loop2 : ∀ (k : Nat) (T2 : State) (lo2 : List Loc) (hh2 : Heap) (xi : Int32) (i_ : Nat) (X2 : Stand p l e own_RFO s m #[(.ref oa), (.ref ov)] below meth c T2 lo2 0 0) (e2 : T2.heap = hh2) (N2 : Fr n0 lo2) (K2 : Keep h0 hh2 [oa]) (V2 : Arv Z hh2 oa ka (.array .int) (256 : Int32) (own_fl 256 i_ (.ref ov) .null) .null) (hi_ : xi.toInt = (i_ : Int)) (hle : i_ ≤ 256) (_ : 256 - i_ = k), own_Go p.tables e below RR (T2.setTop (mkF m 5 #[.val (.ref oa), .val (.ref ov), .val (.int xi), .val (.int (256 : Int32))] [])) := by
    intro k
    induction k using Nat.strongRecOn with
    | _ k ih2 =>
      intro T2 lo2 hh2 xi i_ X2 e2 N2 K2 V2 hi_ hle hk
      have z3 : n0 ≤ hh2.size := Nat.le_trans Z0 K2.1
      show own_Go p.tables e below RR (T2.setTop (mkF m 5 #[.val (.ref oa), .val (.ref ov), .val (.int xi), .val (.int (256 : Int32))] []))
      refine own_st (fun _ k => XS.iloadN X2.here hx rfl (hb hby own_djdk_65_method_117_code_5) rfl (XS.iloadN X2.here hx rfl (hb hby own_djdk_65_method_117_code_6) rfl k)) ?_
      show own_Go p.tables e below RR (T2.setTop (mkF m 7 #[.val (.ref oa), .val (.ref ov), .val (.int xi), .val (.int (256 : Int32))] [(.int (256 : Int32)), (.int xi)]))
      by_cases hc7_4 : xi < (256 : Int32)
      · refine own_st (fun _ k => XS.icmpNo X2.here hx rfl (hb hby own_djdk_65_method_117_code_7) rfl (tlt hc7_4).2.1 (XS.aloadN X2.here hx rfl (hb hby own_djdk_65_method_117_code_10) rfl rfl (XS.iloadN X2.here hx rfl (hb hby own_djdk_65_method_117_code_11) rfl (XS.aloadN X2.here hx rfl (hb hby own_djdk_65_method_117_code_12) rfl rfl k)))) ?_
        show own_Go p.tables e below RR (T2.setTop (mkF m 13 #[.val (.ref oa), .val (.ref ov), .val (.int xi), .val (.int (256 : Int32))] [(.ref ov), (.int xi), (.ref oa)]))
        obtain ⟨c5, A5, q5, s5, m5, H5, G5⟩ := id V2
        have f6 := (Ev.keep K2)
        obtain ⟨T7, h7, X7, e7, W7, st7⟩ := stR X2 hx hZ e2 A5 (j := xi) (inb_of s5 ⟨own_nn0 (by omega), hc7_4⟩) rfl (Sto.ofVA A5 q5 Oa (Ins.self f6)) (g := (mkF m 13 #[.val (.ref oa), .val (.ref ov), .val (.int xi), .val (.int (256 : Int32))] [(.ref ov), (.int xi), (.ref oa)])) rfl rfl (hb hby own_djdk_65_method_117_code_13)
        have il7 : i_ < 256 := (by have q := hc7_4; rw [Int32.lt_iff_toInt_lt] at q; have e : (256 : Int32).toInt = 256 := (by decide); omega)
        have U7 := Arv.set A5 q5 s5 m5 H5 G5 rfl W7 i_ (own_nci hi_) (by rw [own_fl_len hle]; exact il7)
        have V7 : Arv Z h7 oa ka (.array .int) (256 : Int32) (own_fl 256 (i_ + 1) (.ref ov) .null) .null := by rw [← own_flS il7]; exact U7
        have N7 := Fr.snoc X7 N2 g_a
        refine own_st st7 ?_
        have z8 : n0 ≤ h7.size := Nat.le_trans z3 (Keep.of_wr W7).1
        show own_Go p.tables e below RR (T7.setTop (mkF m 14 #[.val (.ref oa), .val (.ref ov), .val (.int xi), .val (.int (256 : Int32))] []))
        refine own_st (fun _ k => XS.iinc X7.here hx rfl (hb hby own_djdk_65_method_117_code_14) rfl (l' := #[.val (.ref oa), .val (.ref ov), .val (.int (xi + (1 : Int32))), .val (.int (256 : Int32))]) rfl (XS.goto X7.here hx rfl (pc0 := 17) (pc' := 5) rfl (hb hby own_djdk_65_method_117_code_17) (by decide) (by decide) k)) ?_
        show own_Go p.tables e below RR (T7.setTop (mkF m 5 #[.val (.ref oa), .val (.ref ov), .val (.int (xi + (1 : Int32))), .val (.int (256 : Int32))] []))
        exact ih2 _ (by have q : i_ < 256 := (by have q := hc7_4; rw [Int32.lt_iff_toInt_lt] at q; have e : (256 : Int32).toInt = 256 := (by decide); omega); omega) T7 _ h7 (xi + (1 : Int32)) (i_ + 1) X7 e7 N7 (K2.wr W7 (Or.inl (List.mem_of_getElem? (i := 0) rfl))) V7 (own_inc hi_ (by have q := hc7_4; rw [Int32.lt_iff_toInt_lt] at q; have e : (256 : Int32).toInt = 256 := (by decide); omega)) (by have q := hc7_4; rw [Int32.lt_iff_toInt_lt] at q; have e : (256 : Int32).toInt = 256 := (by decide); omega) rfl
      · refine own_st (fun _ k => XS.icmpYes X2.here hx rfl (pc0 := 7) (pc' := 20) rfl (hb hby own_djdk_65_method_117_code_7) rfl (flt hc7_4).2.1 (by decide) (by decide) k) ?_
        show own_Go p.tables e below RR (T2.setTop (mkF m 20 #[.val (.ref oa), .val (.ref ov), .val (.int xi), .val (.int (256 : Int32))] []))
        obtain ⟨fs, hrt_, hrun, hended, hW, hsame⟩ := X2.leave (v := none) (fun _ => rfl)
        refine own_fin (X2.returnOut hx Bd.returns (hb hby own_djdk_65_method_117_code_20) hrt_) (hRR _ ⟨_, hrun, hended, _, _, rfl, ?_, ⟨_, rfl⟩, hW, hsame.mono (by decide) (by decide)⟩)
        show own_QFO Z oa ov ka h0 n0 _ T2.heap _
        rw [e2]
        obtain rfl : i_ = 256 := by have q := hc7_4; rw [Int32.lt_iff_toInt_lt] at q; have e : (256 : Int32).toInt = 256 := (by decide); omega
        exact ⟨rfl, N2, K2, V2⟩
  exact loop2 _ s₁ _ h0 (0 : Int32) 0 X0 e0 N0 (Keep.refl h0 [oa]) (Va.pad (pad_rep [] .null 256)) (by decide) (by decide) rfl
theorem own_djdk_65_method_103_code_0 : decode jdk_65_method_103_code 0 = .ok (.iconst 0, 1) := by decide +kernel
theorem own_djdk_65_method_103_code_1 : decode jdk_65_method_103_code 1 = .ok (.istore_n 2, 1) := by decide +kernel
theorem own_djdk_65_method_103_code_2 : decode jdk_65_method_103_code 2 = .ok (.aload_n 0, 1) := by decide +kernel
theorem own_djdk_65_method_103_code_3 : decode jdk_65_method_103_code 3 = .ok (.arraylength, 1) := by decide +kernel
theorem own_djdk_65_method_103_code_4 : decode jdk_65_method_103_code 4 = .ok (.istore_n 3, 1) := by decide +kernel
theorem own_djdk_65_method_103_code_5 : decode jdk_65_method_103_code 5 = .ok (.iload_n 2, 1) := by decide +kernel
theorem own_djdk_65_method_103_code_6 : decode jdk_65_method_103_code 6 = .ok (.iload_n 3, 1) := by decide +kernel
theorem own_djdk_65_method_103_code_7 : decode jdk_65_method_103_code 7 = .ok (.if_icmp .ge 13, 3) := by decide +kernel
theorem own_djdk_65_method_103_code_10 : decode jdk_65_method_103_code 10 = .ok (.aload_n 0, 1) := by decide +kernel
theorem own_djdk_65_method_103_code_11 : decode jdk_65_method_103_code 11 = .ok (.iload_n 2, 1) := by decide +kernel
theorem own_djdk_65_method_103_code_12 : decode jdk_65_method_103_code 12 = .ok (.iload_n 1, 1) := by decide +kernel
theorem own_djdk_65_method_103_code_13 : decode jdk_65_method_103_code 13 = .ok (.iastore, 1) := by decide +kernel
theorem own_djdk_65_method_103_code_14 : decode jdk_65_method_103_code 14 = .ok (.iinc 2 1, 3) := by decide +kernel
theorem own_djdk_65_method_103_code_17 : decode jdk_65_method_103_code 17 = .ok (.goto (-12), 3) := by decide +kernel
theorem own_djdk_65_method_103_code_20 : decode jdk_65_method_103_code 20 = .ok (.return_, 1) := by decide +kernel
theorem own_efFI (m : MethodId) (oa : Addr) (pv : Int32) : entryFrame m #[(.ref oa), (.int pv)] 4 = mkF m 0 #[.val (.ref oa), .val (.int pv), .unset, .unset] [] := by first | (simp [entryFrame, mkF, argsToLocals, Value.category]; done) | rfl
def own_QFI (Z : State) (oa : Addr) (pv : Int32) (ka : ClassId) (h0 : Heap) (n0 : Nat) (rv__ : Option Value) (h : Heap) (rL__ : List Loc) : Prop := rv__ = none ∧ Fr n0 rL__ ∧ Keep h0 h [oa] ∧ Arv Z h oa ka .int (256 : Int32) (own_fl 256 256 (.int pv) (.int (0 : Int32))) (.int (0 : Int32))
abbrev own_RFI : Room := { frames := 0, cells := 0, slots := 0, locals := 0 }
set_option maxRecDepth 65536 in
set_option maxHeartbeats 40000000 in
theorem own_rmFI (l : Launch) (Z : State) (a0 : Array Value) (hw : ∀ d ∈ tables_1, d.before a0 Z = true) (ws : List Jvm.Cond) (oa : Addr) (pv : Int32) (ka : ClassId) (h0 : Heap) (n0 : Nat) (Z0 : n0 ≤ h0.size) (g_a : n0 ≤ oa) (Va : Arv Z h0 oa ka .int (256 : Int32) [] (.int (0 : Int32))) :
    MetFree l (⟨"java/util/Arrays", "fill", "([II)V"⟩ : MethodName) (head1 (Jvm.Cond.code (⟨"java/util/Arrays", "fill", "([II)V"⟩ : MethodName) jdk_65_method_103_code 4 none :: ws) own_RFI) (fun aa__ U => aa__ = #[(.ref oa), (.int pv)] ∧ Z.Warmed39 U.vm ∧ U.heap = h0) (fun _ _ _ _ _ => True) (fun _ U oc_ U' => ∃ rv__ rL__, oc_ = .returned rv__ ∧ own_QFI Z oa pv ka h0 n0 rv__ U'.heap rL__ ∧ FrameEnd U oc_ U' rL__ own_RFI.cells own_RFI.slots) := by
  refine MetFree.of_bodySF (plainFor_of_name own_pn_java_util_Arrays) hisR ?_
  intro p e s m args below meth c s₁ Bd hml0 hP hK
  obtain ⟨rfl, hZ, hh⟩ := hP
  have hx := Bd.exec
  have hby := Bd.bytes
  have hml : c.maxLocals = 4 := hml0
  have hown : s.vm.findClass "java/util/Arrays" = some m.cls := findClass_of_methodNamed Bd.named
  have hnm := (name_of_methodNamed Bd.named Bd.method).1
  have X0 : Stand p l e own_RFI s m #[(.ref oa), (.int pv)] below meth c s₁ [] 0 0 := Stand.of_body Bd
  have e0 : s₁.heap = h0 := by rw [← hh, Bd.state]; rfl
  have N0 := Fr.nil n0
  refine own_in (fun _ k => castTop (own_efFI m oa pv) k) ?_
  intro RR hRR
  show own_Go p.tables e below RR (s₁.setTop (mkF m 0 #[.val (.ref oa), .val (.int pv), .unset, .unset] []))
  refine own_st (fun _ k => XS.iconst X0.here hx rfl (hb hby own_djdk_65_method_103_code_0) (XS.istoreN X0.here hx rfl (hb hby own_djdk_65_method_103_code_1) rfl (l' := #[.val (.ref oa), .val (.int pv), .val (.int (0 : Int32)), .unset]) rfl (XS.aloadN X0.here hx rfl (hb hby own_djdk_65_method_103_code_2) rfl rfl k))) ?_
  show own_Go p.tables e below RR (s₁.setTop (mkF m 3 #[.val (.ref oa), .val (.int pv), .val (.int (0 : Int32)), .unset] [(.ref oa)]))
  obtain ⟨c1, A1, -, s1, m1, -, -⟩ := id Va
  refine own_st (fun _ k => own_len X0 hx hZ e0 A1 s1 m1 (g := (mkF m 3 #[.val (.ref oa), .val (.int pv), .val (.int (0 : Int32)), .unset] [(.ref oa)])) rfl rfl (hb hby own_djdk_65_method_103_code_3) (XS.istoreN X0.here hx rfl (hb hby own_djdk_65_method_103_code_4) rfl (l' := #[.val (.ref oa), .val (.int pv), .val (.int (0 : Int32)), .val (.int (256 : Int32))]) rfl k)) ?_
  show own_Go p.tables e below RR (s₁.setTop (mkF m 5 #[.val (.ref oa), .val (.int pv), .val (.int (0 : Int32)), .val (.int (256 : Int32))] []))
  have loop2 : ∀ (k : Nat) (T2 : State) (lo2 : List Loc) (hh2 : Heap) (xi : Int32) (i_ : Nat) (X2 : Stand p l e own_RFI s m #[(.ref oa), (.int pv)] below meth c T2 lo2 0 0) (e2 : T2.heap = hh2) (N2 : Fr n0 lo2) (K2 : Keep h0 hh2 [oa]) (V2 : Arv Z hh2 oa ka .int (256 : Int32) (own_fl 256 i_ (.int pv) (.int (0 : Int32))) (.int (0 : Int32))) (hi_ : xi.toInt = (i_ : Int)) (hle : i_ ≤ 256) (_ : 256 - i_ = k), own_Go p.tables e below RR (T2.setTop (mkF m 5 #[.val (.ref oa), .val (.int pv), .val (.int xi), .val (.int (256 : Int32))] [])) := by
    intro k
    induction k using Nat.strongRecOn with
    | _ k ih2 =>
      intro T2 lo2 hh2 xi i_ X2 e2 N2 K2 V2 hi_ hle hk
      have z3 : n0 ≤ hh2.size := Nat.le_trans Z0 K2.1
      show own_Go p.tables e below RR (T2.setTop (mkF m 5 #[.val (.ref oa), .val (.int pv), .val (.int xi), .val (.int (256 : Int32))] []))
      refine own_st (fun _ k => XS.iloadN X2.here hx rfl (hb hby own_djdk_65_method_103_code_5) rfl (XS.iloadN X2.here hx rfl (hb hby own_djdk_65_method_103_code_6) rfl k)) ?_
      show own_Go p.tables e below RR (T2.setTop (mkF m 7 #[.val (.ref oa), .val (.int pv), .val (.int xi), .val (.int (256 : Int32))] [(.int (256 : Int32)), (.int xi)]))
      by_cases hc7_4 : xi < (256 : Int32)
      · refine own_st (fun _ k => XS.icmpNo X2.here hx rfl (hb hby own_djdk_65_method_103_code_7) rfl (tlt hc7_4).2.1 (XS.aloadN X2.here hx rfl (hb hby own_djdk_65_method_103_code_10) rfl rfl (XS.iloadN X2.here hx rfl (hb hby own_djdk_65_method_103_code_11) rfl (XS.iloadN X2.here hx rfl (hb hby own_djdk_65_method_103_code_12) rfl k)))) ?_
        show own_Go p.tables e below RR (T2.setTop (mkF m 13 #[.val (.ref oa), .val (.int pv), .val (.int xi), .val (.int (256 : Int32))] [(.int pv), (.int xi), (.ref oa)]))
        obtain ⟨c5, A5, q5, s5, m5, H5, G5⟩ := id V2
        obtain ⟨T6, h6, X6, e6, W6, st6⟩ := stI X2 hx hZ e2 A5 (j := xi) (inb_of s5 ⟨own_nn0 (by omega), hc7_4⟩) (g := (mkF m 13 #[.val (.ref oa), .val (.int pv), .val (.int xi), .val (.int (256 : Int32))] [(.int pv), (.int xi), (.ref oa)])) rfl rfl (hb hby own_djdk_65_method_103_code_13)
        have il6 : i_ < 256 := (by have q := hc7_4; rw [Int32.lt_iff_toInt_lt] at q; have e : (256 : Int32).toInt = 256 := (by decide); omega)
        have U6 := Arv.set A5 q5 s5 m5 H5 G5 rfl W6 i_ (own_nci hi_) (by rw [own_fl_len hle]; exact il6)
        have V6 : Arv Z h6 oa ka .int (256 : Int32) (own_fl 256 (i_ + 1) (.int pv) (.int (0 : Int32))) (.int (0 : Int32)) := by rw [← own_flS il6]; exact U6
        have N6 := Fr.snoc X6 N2 g_a
        refine own_st st6 ?_
        have z7 : n0 ≤ h6.size := Nat.le_trans z3 (Keep.of_wr W6).1
        show own_Go p.tables e below RR (T6.setTop (mkF m 14 #[.val (.ref oa), .val (.int pv), .val (.int xi), .val (.int (256 : Int32))] []))
        refine own_st (fun _ k => XS.iinc X6.here hx rfl (hb hby own_djdk_65_method_103_code_14) rfl (l' := #[.val (.ref oa), .val (.int pv), .val (.int (xi + (1 : Int32))), .val (.int (256 : Int32))]) rfl (XS.goto X6.here hx rfl (pc0 := 17) (pc' := 5) rfl (hb hby own_djdk_65_method_103_code_17) (by decide) (by decide) k)) ?_
        show own_Go p.tables e below RR (T6.setTop (mkF m 5 #[.val (.ref oa), .val (.int pv), .val (.int (xi + (1 : Int32))), .val (.int (256 : Int32))] []))
        exact ih2 _ (by have q : i_ < 256 := (by have q := hc7_4; rw [Int32.lt_iff_toInt_lt] at q; have e : (256 : Int32).toInt = 256 := (by decide); omega); omega) T6 _ h6 (xi + (1 : Int32)) (i_ + 1) X6 e6 N6 (K2.wr W6 (Or.inl (List.mem_of_getElem? (i := 0) rfl))) V6 (own_inc hi_ (by have q := hc7_4; rw [Int32.lt_iff_toInt_lt] at q; have e : (256 : Int32).toInt = 256 := (by decide); omega)) (by have q := hc7_4; rw [Int32.lt_iff_toInt_lt] at q; have e : (256 : Int32).toInt = 256 := (by decide); omega) rfl
      · refine own_st (fun _ k => XS.icmpYes X2.here hx rfl (pc0 := 7) (pc' := 20) rfl (hb hby own_djdk_65_method_103_code_7) rfl (flt hc7_4).2.1 (by decide) (by decide) k) ?_
        show own_Go p.tables e below RR (T2.setTop (mkF m 20 #[.val (.ref oa), .val (.int pv), .val (.int xi), .val (.int (256 : Int32))] []))
        obtain ⟨fs, hrt_, hrun, hended, hW, hsame⟩ := X2.leave (v := none) (fun _ => rfl)
        refine own_fin (X2.returnOut hx Bd.returns (hb hby own_djdk_65_method_103_code_20) hrt_) (hRR _ ⟨_, hrun, hended, _, _, rfl, ?_, ⟨_, rfl⟩, hW, hsame.mono (by decide) (by decide)⟩)
        show own_QFI Z oa pv ka h0 n0 _ T2.heap _
        rw [e2]
        obtain rfl : i_ = 256 := by have q := hc7_4; rw [Int32.lt_iff_toInt_lt] at q; have e : (256 : Int32).toInt = 256 := (by decide); omega
        exact ⟨rfl, N2, K2, V2⟩
  exact loop2 _ s₁ _ h0 (0 : Int32) 0 X0 e0 N0 (Keep.refl h0 [oa]) (Va.pad (pad_rep [] (.int (0 : Int32)) 256)) (by decide) (by decide) rfl
theorem own_pn_com_example_shiftwise_shiftwise_search_BoyerMooreTables : plainName "com/example/shiftwise/shiftwise/search/BoyerMooreTables" = true := by first | (simp [plainName, overriddenIn]; done) | decide +kernel
theorem own_dprog_30_method_5_code_0 : decode prog_30_method_5_code 0 = .ok (.sipush 256, 3) := by decide +kernel
theorem own_dprog_30_method_5_code_3 : decode prog_30_method_5_code 3 = .ok (.newarray .int, 2) := by decide +kernel
theorem own_dprog_30_method_5_code_5 : decode prog_30_method_5_code 5 = .ok (.astore_n 0, 1) := by decide +kernel
theorem own_dprog_30_method_5_code_6 : decode prog_30_method_5_code 6 = .ok (.aload_n 0, 1) := by decide +kernel
theorem own_dprog_30_method_5_code_7 : decode prog_30_method_5_code 7 = .ok (.iconst (-1), 1) := by decide +kernel
theorem own_pd___II_V : parseMethodDescriptor "([II)V" = some ⟨[(.array .int), .int], none⟩ := by decide +kernel
theorem own_dprog_30_method_5_code_8 : decode prog_30_method_5_code 8 = .ok (.invokestatic 37, 3) := by decide +kernel
theorem own_dprog_30_method_5_code_11 : decode prog_30_method_5_code 11 = .ok (.aload_n 0, 1) := by decide +kernel
theorem own_dprog_30_method_5_code_12 : decode prog_30_method_5_code 12 = .ok (.areturn, 1) := by decide +kernel
theorem own_efAP (m : MethodId)  : entryFrame m #[] 1 = mkF m 0 #[.unset] [] := by first | (simp [entryFrame, mkF, argsToLocals, Value.category]; done) | rfl
def own_QAP (Z : State) (ak : Addr) (h0 : Heap) (n0 : Nat) (rv__ : Option Value) (h : Heap) (rL__ : List Loc) : Prop := rv__ = some (.ref ak) ∧ Fr n0 rL__ ∧ Keep h0 h [] ∧ Exa Z h ak "[I" ∧ ∃ kk : ClassId, Arv Z h ak kk .int (256 : Int32) (own_fl 256 256 (.int (-1 : Int32)) (.int (0 : Int32))) (.int (0 : Int32))
abbrev own_RAP : Room := { frames := 1, cells := 1, slots := 256, locals := 15 }
set_option maxRecDepth 65536 in
set_option maxHeartbeats 40000000 in
theorem own_rmAP (l : Launch) (Z : State) (a0 : Array Value) (hw : ∀ d ∈ tables_1, d.before a0 Z = true) (ws : List Jvm.Cond) (ak : Addr) (h0 : Heap) (n0 : Nat) (Z0 : n0 ≤ h0.size) (hak : ak = h0.size) :
    MetFree l (⟨"com/example/shiftwise/shiftwise/search/BoyerMooreTables", "absentPage", "()[I"⟩ : MethodName) (head1 (Jvm.Cond.code (⟨"com/example/shiftwise/shiftwise/search/BoyerMooreTables", "absentPage", "()[I"⟩ : MethodName) prog_30_method_5_code 1 (some (.array .int)) :: ws) own_RAP) (fun aa__ U => aa__ = #[] ∧ Z.Warmed39 U.vm ∧ U.heap = h0) (fun _ _ _ _ _ => True) (fun _ U oc_ U' => ∃ rv__ rL__, oc_ = .returned rv__ ∧ own_QAP Z ak h0 n0 rv__ U'.heap rL__ ∧ FrameEnd U oc_ U' rL__ own_RAP.cells own_RAP.slots) := by
  refine MetFree.of_bodySF (plainFor_of_name own_pn_com_example_shiftwise_shiftwise_search_BoyerMooreTables) hisR ?_
  intro p e s m args below meth c s₁ Bd hml0 hP hK
  obtain ⟨rfl, hZ, hh⟩ := hP
  have hx := Bd.exec
  have hby := Bd.bytes
  have hml : c.maxLocals = 1 := hml0
  have hown : s.vm.findClass "com/example/shiftwise/shiftwise/search/BoyerMooreTables" = some m.cls := findClass_of_methodNamed Bd.named
  have hnm := (name_of_methodNamed Bd.named Bd.method).1
  have X0 : Stand p l e own_RAP s m #[] below meth c s₁ [] 0 0 := Stand.of_body Bd
  have e0 : s₁.heap = h0 := by rw [← hh, Bd.state]; rfl
  have N0 := Fr.nil n0
  refine own_in (fun _ k => castTop (own_efAP m ) k) ?_
  intro RR hRR
  show own_Go p.tables e below RR (s₁.setTop (mkF m 0 #[.unset] []))
  refine own_st (fun _ k => XS.sipush X0.here hx rfl (hb hby own_dprog_30_method_5_code_0) k) ?_
  show own_Go p.tables e below RR (s₁.setTop (mkF m 3 #[.unset] [(.int (256 : Int32))]))
  obtain ⟨T1, h1, k1, X1, e1, E1, A1, B1, st1⟩ := newPE X0 hx hZ (hw _ (List.mem_of_getElem? (i := 2) rfl)) e0 (g := (mkF m 3 #[.unset] [(.int (256 : Int32))])) rfl (hb hby own_dprog_30_method_5_code_3) rfl (by decide) (cap := 256) (by decide) (by decide) (by decide) (by decide) (ad := "[I") (by decide)
  obtain ⟨b1, gb1⟩ : ∃ z, z = h0.size := ⟨_, rfl⟩
  rw [← gb1] at A1 B1 st1
  have ge1 : n0 ≤ b1 := Nat.le_trans Z0 (Nat.le_of_eq gb1.symm)
  have sz1 : h0.size ≤ b1 := Nat.le_trans (Keep.refl h0 []).1 (Nat.le_of_eq gb1.symm)
  refine own_st st1 ?_
  have z2 : n0 ≤ h1.size := Nat.le_trans Z0 E1.1
  have kk3 : Keep h0 h1 [] := (Keep.refl h0 []).ext E1
  have V1 : Arv Z h1 b1 k1 .int (256 : Int32) [] (.int (0 : Int32)) := Arv.new A1 (by decide)
  show own_Go p.tables e below RR (T1.setTop (mkF m 5 #[.unset] [(.ref b1)]))
  show own_Go p.tables e below RR (T1.setTop (mkF m 5 #[.unset] [(.ref b1)]))
  refine own_st (fun _ k => XS.astoreN X1.here hx rfl (hb hby own_dprog_30_method_5_code_5) rfl rfl (l' := #[.val (.ref b1)]) rfl (XS.aloadN X1.here hx rfl (hb hby own_dprog_30_method_5_code_6) rfl rfl (XS.iconst X1.here hx rfl (hb hby own_dprog_30_method_5_code_7) k))) ?_
  show own_Go p.tables e below RR (T1.setTop (mkF m 8 #[.val (.ref b1)] [(.int (-1 : Int32)), (.ref b1)]))
  obtain ⟨_, _, ⟨T4, L4, k4, n4⟩, -, X4, ⟨Lc4, hQ4, l4, y4, z4⟩, st4⟩ := Jvm.LawKit.callS X1 hx (y := (⟨"java/util/Arrays", "fill", "([II)V"⟩ : MethodName)) hown (mvT hZ (hw _ (List.mem_of_getElem? (i := 28) rfl))) (mvT hZ (hw _ (List.mem_of_getElem? (i := 29) rfl))) (mvT hZ (hw _ (List.mem_of_getElem? (i := 22) rfl))) (mvT hZ (hw _ (List.mem_of_getElem? (i := 30) rfl))) (by decide) (backOf (W := 0) (own_rmFI l Z a0 hw [] b1 (-1 : Int32) k1 h1 n0 z2 ge1 V1) hZ (hw _ (List.mem_of_getElem? (i := 30) rfl)) (hw _ (List.mem_of_getElem? (i := 22) rfl)) (by decide) (by decide)) (g := (mkF m 8 #[.val (.ref b1)] [(.int (-1 : Int32)), (.ref b1)])) rfl (by rw [hml]; rfl) (argsL := [(.ref b1), (.int (-1 : Int32))]) (rest := []) (lenOf own_pd___II_V rfl) rfl (by show 2 * 0 + _ ≤ _; exact Nat.le_of_eq rfl) (hb hby own_dprog_30_method_5_code_8) (fun _ _ => ⟨rfl, e1, (by decide : 1 + 0 ≤ _), (by decide : 256 + 0 ≤ _)⟩)
  dsimp only [Pt.U, Pt.locs, Pt.cells, Pt.slots] at X4 l4 y4 z4 st4 hQ4
  subst l4 y4 z4
  obtain ⟨rfl, Nq4, Kq4, Vq4⟩ := hQ4
  have N4 := Fr.app N0 Nq4
  refine own_st st4 ?_
  have z5 : n0 ≤ T4.heap.size := Nat.le_trans z2 Kq4.1
  have kk6 : Keep h0 T4.heap [] := kk3.trans Kq4 (allS (Or.inr sz1) all0)
  show own_Go p.tables e below RR (T4.setTop (mkF m 11 #[.val (.ref b1)] []))
  refine own_st (fun _ k => XS.aloadN X4.here hx rfl (hb hby own_dprog_30_method_5_code_11) rfl rfl k) ?_
  show own_Go p.tables e below RR (T4.setTop (mkF m 12 #[.val (.ref b1)] [(.ref b1)]))
  obtain ⟨fs, hrt_, hrun, hended, hW, hsame⟩ := X4.leave (v := some (.ref b1)) (fun h => by rw [Bd.returns] at h; cases h)
  refine own_fin (retOut X4 hx Bd.returns rfl (Or.inr (Or.inr (Or.inr (Or.inr ⟨rfl, rfl, rfl⟩)))) (hb hby own_dprog_30_method_5_code_12) hrt_) (hRR _ ⟨_, hrun, hended, _, _, rfl, ?_, ⟨_, rfl⟩, hW, hsame.mono (by decide) (by decide)⟩)
  show own_QAP Z ak h0 n0 _ T4.heap _
  obtain rfl : b1 = ak := gb1.trans hak.symm
  have f7 := (B1.keep Kq4)
  exact ⟨rfl, N4, kk6, f7, _, Vq4⟩
theorem own_dprog_30_method_4_code_0 : decode prog_30_method_4_code 0 = .ok (.iload_n 1, 1) := by decide +kernel
theorem own_dprog_30_method_4_code_1 : decode prog_30_method_4_code 1 = .ok (.bipush 8, 2) := by decide +kernel
theorem own_dprog_30_method_4_code_3 : decode prog_30_method_4_code 3 = .ok (.iushr, 1) := by decide +kernel
theorem own_dprog_30_method_4_code_4 : decode prog_30_method_4_code 4 = .ok (.anewarray 23, 3) := by decide +kernel
theorem own_dprog_30_method_4_code_7 : decode prog_30_method_4_code 7 = .ok (.astore_n 2, 1) := by decide +kernel
theorem own_dprog_30_method_4_code_8 : decode prog_30_method_4_code 8 = .ok (.aload_n 2, 1) := by decide +kernel
theorem own_dprog_30_method_4_code_9 : decode prog_30_method_4_code 9 = .ok (.getstatic 24, 3) := by decide +kernel
theorem own_pd___Ljava_lang_Object_Ljava_lang_Object__V : parseMethodDescriptor "([Ljava/lang/Object;Ljava/lang/Object;)V" = some ⟨[(.array (.object "java/lang/Object")), (.object "java/lang/Object")], none⟩ := by decide +kernel
theorem own_dprog_30_method_4_code_12 : decode prog_30_method_4_code 12 = .ok (.invokestatic 27, 3) := by decide +kernel
theorem own_dprog_30_method_4_code_15 : decode prog_30_method_4_code 15 = .ok (.iconst 0, 1) := by decide +kernel
theorem own_dprog_30_method_4_code_16 : decode prog_30_method_4_code 16 = .ok (.istore_n 3, 1) := by decide +kernel
theorem own_dprog_30_method_4_code_17 : decode prog_30_method_4_code 17 = .ok (.iload_n 3, 1) := by decide +kernel
theorem own_dprog_30_method_4_code_18 : decode prog_30_method_4_code 18 = .ok (.aload_n 0, 1) := by decide +kernel
theorem own_dprog_30_method_4_code_19 : decode prog_30_method_4_code 19 = .ok (.arraylength, 1) := by decide +kernel
theorem own_dprog_30_method_4_code_20 : decode prog_30_method_4_code 20 = .ok (.iconst 1, 1) := by decide +kernel
theorem own_dprog_30_method_4_code_21 : decode prog_30_method_4_code 21 = .ok (.isub, 1) := by decide +kernel
theorem own_dprog_30_method_4_code_22 : decode prog_30_method_4_code 22 = .ok (.if_icmp .ge 47, 3) := by decide +kernel
theorem own_dprog_30_method_4_code_25 : decode prog_30_method_4_code 25 = .ok (.aload_n 0, 1) := by decide +kernel
theorem own_dprog_30_method_4_code_26 : decode prog_30_method_4_code 26 = .ok (.iload_n 3, 1) := by decide +kernel
theorem own_dprog_30_method_4_code_27 : decode prog_30_method_4_code 27 = .ok (.iaload, 1) := by decide +kernel
theorem own_dprog_30_method_4_code_28 : decode prog_30_method_4_code 28 = .ok (.bipush 8, 2) := by decide +kernel
theorem own_dprog_30_method_4_code_30 : decode prog_30_method_4_code 30 = .ok (.iushr, 1) := by decide +kernel
theorem own_dprog_30_method_4_code_31 : decode prog_30_method_4_code 31 = .ok (.istore 4, 2) := by decide +kernel
theorem own_dprog_30_method_4_code_33 : decode prog_30_method_4_code 33 = .ok (.aload_n 2, 1) := by decide +kernel
theorem own_dprog_30_method_4_code_34 : decode prog_30_method_4_code 34 = .ok (.iload 4, 2) := by decide +kernel
theorem own_dprog_30_method_4_code_36 : decode prog_30_method_4_code 36 = .ok (.aaload, 1) := by decide +kernel
theorem own_dprog_30_method_4_code_37 : decode prog_30_method_4_code 37 = .ok (.getstatic 24, 3) := by decide +kernel
theorem own_dprog_30_method_4_code_40 : decode prog_30_method_4_code 40 = .ok (.if_acmp .ne 10, 3) := by decide +kernel
theorem own_dprog_30_method_4_code_43 : decode prog_30_method_4_code 43 = .ok (.aload_n 2, 1) := by decide +kernel
theorem own_dprog_30_method_4_code_44 : decode prog_30_method_4_code 44 = .ok (.iload 4, 2) := by decide +kernel
theorem own_pd____I : parseMethodDescriptor "()[I" = some ⟨[], some (.array .int)⟩ := by decide +kernel
theorem own_dprog_30_method_4_code_46 : decode prog_30_method_4_code 46 = .ok (.invokestatic 33, 3) := by decide +kernel
theorem own_dprog_30_method_4_code_49 : decode prog_30_method_4_code 49 = .ok (.aastore, 1) := by decide +kernel
theorem own_dprog_30_method_4_code_50 : decode prog_30_method_4_code 50 = .ok (.aload_n 2, 1) := by decide +kernel
theorem own_dprog_30_method_4_code_51 : decode prog_30_method_4_code 51 = .ok (.iload 4, 2) := by decide +kernel
theorem own_dprog_30_method_4_code_53 : decode prog_30_method_4_code 53 = .ok (.aaload, 1) := by decide +kernel
theorem own_dprog_30_method_4_code_54 : decode prog_30_method_4_code 54 = .ok (.aload_n 0, 1) := by decide +kernel
theorem own_dprog_30_method_4_code_55 : decode prog_30_method_4_code 55 = .ok (.iload_n 3, 1) := by decide +kernel
theorem own_dprog_30_method_4_code_56 : decode prog_30_method_4_code 56 = .ok (.iaload, 1) := by decide +kernel
theorem own_dprog_30_method_4_code_57 : decode prog_30_method_4_code 57 = .ok (.sipush 255, 3) := by decide +kernel
theorem own_dprog_30_method_4_code_60 : decode prog_30_method_4_code 60 = .ok (.iand, 1) := by decide +kernel
theorem own_dprog_30_method_4_code_61 : decode prog_30_method_4_code 61 = .ok (.iload_n 3, 1) := by decide +kernel
theorem own_dprog_30_method_4_code_62 : decode prog_30_method_4_code 62 = .ok (.iastore, 1) := by decide +kernel
theorem own_dprog_30_method_4_code_63 : decode prog_30_method_4_code 63 = .ok (.iinc 3 1, 3) := by decide +kernel
theorem own_dprog_30_method_4_code_66 : decode prog_30_method_4_code 66 = .ok (.goto (-49), 3) := by decide +kernel
theorem own_dprog_30_method_4_code_69 : decode prog_30_method_4_code 69 = .ok (.aload_n 2, 1) := by decide +kernel
theorem own_dprog_30_method_4_code_70 : decode prog_30_method_4_code 70 = .ok (.areturn, 1) := by decide +kernel
theorem own_efLP (m : MethodId) (pa : Addr) : entryFrame m #[(.ref pa), (.int (65536 : Int32))] 5 = mkF m 0 #[.val (.ref pa), .val (.int (65536 : Int32)), .unset, .unset, .unset] [] := by first | (simp [entryFrame, mkF, argsToLocals, Value.category]; done) | rfl
def own_QLP (Z : State) (pa : Addr) (kp : ClassId) (pp0 : Int32) (pp1 : Int32) (pp2 : Int32) (pp3 : Int32) (ab : Addr) (kb : ClassId) (gc : Int32) (h0 : Heap) (n0 : Nat) (rv__ : Option Value) (h : Heap) (rL__ : List Loc) : Prop := ∃ r__ : Addr, rv__ = some (.ref r__) ∧ Fr n0 rL__ ∧ Keep h0 h [] ∧ ∃ (ko : ClassId) (vs : List Value) (qa : Addr) (kq : ClassId) (ps : List Value), Arv Z h r__ ko (.array .int) (256 : Int32) vs .null ∧ vs.getD ((gc.toUInt32 >>> ((8 : Int32) &&& 31).toUInt32).toInt32).toNatClampNeg .null = .ref qa ∧ Arv Z h qa kq .int (256 : Int32) ps (.int (0 : Int32)) ∧ ps.getD (gc &&& (255 : Int32)).toNatClampNeg (.int (0 : Int32)) = .int (if pp2 = gc then (2 : Int32) else if pp1 = gc then (1 : Int32) else if pp0 = gc then (0 : Int32) else (-1 : Int32))
abbrev own_RLP : Room := { frames := 2, cells := 4, slots := 1024, locals := 29 }
set_option maxRecDepth 65536 in
set_option maxHeartbeats 40000000 in
theorem own_rmLP (l : Launch) (Z : State) (a0 : Array Value) (hw : ∀ d ∈ tables_1, d.before a0 Z = true) (ws : List Jvm.Cond) (pa : Addr) (kp : ClassId) (pp0 : Int32) (pp1 : Int32) (pp2 : Int32) (pp3 : Int32) (ab : Addr) (kb : ClassId) (gc : Int32) (h0 : Heap) (n0 : Nat) (Z0 : n0 ≤ h0.size) (Vp : Arv Z h0 pa kp .int (4 : Int32) [(.int pp0), (.int pp1), (.int pp2), (.int pp3)] (.int (0 : Int32))) (Sa : Sta Z h0 "com/example/shiftwise/shiftwise/search/BoyerMooreTables" "ABSENT" "[I" (.ref ab)) (Ea : Exa Z h0 ab "[I") (Vab : Arv Z h0 ab kb .int (256 : Int32) (own_fl 256 256 (.int (-1 : Int32)) (.int (0 : Int32))) (.int (0 : Int32))) (hb0 : 0 ≤ pp0.toInt ∧ pp0.toInt < 65536) (hb1 : 0 ≤ pp1.toInt ∧ pp1.toInt < 65536) (hb2 : 0 ≤ pp2.toInt ∧ pp2.toInt < 65536) (hbc : 0 ≤ gc.toInt ∧ gc.toInt < 65536) :
    MetFree l (⟨"com/example/shiftwise/shiftwise/search/BoyerMooreTables", "lastPositions", "([II)[[I"⟩ : MethodName) (head1 (Jvm.Cond.code (⟨"com/example/shiftwise/shiftwise/search/BoyerMooreTables", "lastPositions", "([II)[[I"⟩ : MethodName) prog_30_method_4_code 5 (some (.array (.array .int))) :: ws) own_RLP) (fun aa__ U => aa__ = #[(.ref pa), (.int (65536 : Int32))] ∧ Z.Warmed39 U.vm ∧ U.heap = h0) (fun _ _ _ _ _ => True) (fun _ U oc_ U' => ∃ rv__ rL__, oc_ = .returned rv__ ∧ own_QLP Z pa kp pp0 pp1 pp2 pp3 ab kb gc h0 n0 rv__ U'.heap rL__ ∧ FrameEnd U oc_ U' rL__ own_RLP.cells own_RLP.slots) := by
  refine MetFree.of_bodySF (plainFor_of_name own_pn_com_example_shiftwise_shiftwise_search_BoyerMooreTables) hisR ?_
  intro p e s m args below meth c s₁ Bd hml0 hP hK
  obtain ⟨rfl, hZ, hh⟩ := hP
  have hx := Bd.exec
  have hby := Bd.bytes
  have hml : c.maxLocals = 5 := hml0
  have hown : s.vm.findClass "com/example/shiftwise/shiftwise/search/BoyerMooreTables" = some m.cls := findClass_of_methodNamed Bd.named
  have hnm := (name_of_methodNamed Bd.named Bd.method).1
  have X0 : Stand p l e own_RLP s m #[(.ref pa), (.int (65536 : Int32))] below meth c s₁ [] 0 0 := Stand.of_body Bd
  have e0 : s₁.heap = h0 := by rw [← hh, Bd.state]; rfl
  have N0 := Fr.nil n0
  refine own_in (fun _ k => castTop (own_efLP m pa) k) ?_
  intro RR hRR
  show own_Go p.tables e below RR (s₁.setTop (mkF m 0 #[.val (.ref pa), .val (.int (65536 : Int32)), .unset, .unset, .unset] []))
  refine own_st (fun _ k => XS.iloadN X0.here hx rfl (hb hby own_dprog_30_method_4_code_0) rfl (XS.bipush X0.here hx rfl (hb hby own_dprog_30_method_4_code_1) (XS.iushr X0.here hx rfl (hb hby own_dprog_30_method_4_code_3) rfl k))) ?_
  show own_Go p.tables e below RR (s₁.setTop (mkF m 4 #[.val (.ref pa), .val (.int (65536 : Int32)), .unset, .unset, .unset] [(.int (((65536 : Int32).toUInt32 >>> ((8 : Int32) &&& 31).toUInt32).toInt32))]))
  rw [show (((65536 : Int32).toUInt32 >>> ((8 : Int32) &&& 31).toUInt32).toInt32) = (256 : Int32) from by decide]
  show own_Go p.tables e below RR (s₁.setTop (mkF m 4 #[.val (.ref pa), .val (.int (65536 : Int32)), .unset, .unset, .unset] [(.int (256 : Int32))]))
  obtain ⟨T1, h1, k1, X1, e1, E1, A1, B1, O1, st1⟩ := newRA X0 hx hZ hown (ty := .int) (C := "[I") (by decide) (hw _ (List.mem_of_getElem? (i := 16) rfl)) (hw _ (List.mem_of_getElem? (i := 17) rfl)) e0 (g := (mkF m 4 #[.val (.ref pa), .val (.int (65536 : Int32)), .unset, .unset, .unset] [(.int (256 : Int32))])) rfl (hb hby own_dprog_30_method_4_code_4) rfl (by decide) (cap := 256) (by decide) (by decide) (by decide) (by decide) (ad := "[[I") (by decide)
  obtain ⟨b1, gb1⟩ : ∃ z, z = h0.size := ⟨_, rfl⟩
  rw [← gb1] at A1 B1 st1
  have ge1 : n0 ≤ b1 := Nat.le_trans Z0 (Nat.le_of_eq gb1.symm)
  have sz1 : h0.size ≤ b1 := Nat.le_trans (Keep.refl h0 []).1 (Nat.le_of_eq gb1.symm)
  refine own_st st1 ?_
  have z2 : n0 ≤ h1.size := Nat.le_trans Z0 E1.1
  have kk3 : Keep h0 h1 [] := (Keep.refl h0 []).ext E1
  have V1 : Arv Z h1 b1 k1 (.array .int) (256 : Int32) [] .null := Arv.new A1 (by decide)
  show own_Go p.tables e below RR (T1.setTop (mkF m 7 #[.val (.ref pa), .val (.int (65536 : Int32)), .unset, .unset, .unset] [(.ref b1)]))
  refine own_st (fun _ k => XS.astoreN X1.here hx rfl (hb hby own_dprog_30_method_4_code_7) rfl rfl (l' := #[.val (.ref pa), .val (.int (65536 : Int32)), .val (.ref b1), .unset, .unset]) rfl (XS.aloadN X1.here hx rfl (hb hby own_dprog_30_method_4_code_8) rfl rfl k)) ?_
  show own_Go p.tables e below RR (T1.setTop (mkF m 9 #[.val (.ref pa), .val (.int (65536 : Int32)), .val (.ref b1), .unset, .unset] [(.ref b1)]))
  have f4 := (Sa.ext E1)
  obtain ⟨T5, X5, e5, st5⟩ := getS2 X1 hx hZ hown (host := "") (Or.inl (hw _ (List.mem_of_getElem? (i := 18) rfl))) Via.refl e1 f4 (g := (mkF m 9 #[.val (.ref pa), .val (.int (65536 : Int32)), .val (.ref b1), .unset, .unset] [(.ref b1)])) rfl (hb hby own_dprog_30_method_4_code_9)
  refine own_st st5 ?_
  show own_Go p.tables e below RR (T5.setTop (mkF m 12 #[.val (.ref pa), .val (.int (65536 : Int32)), .val (.ref b1), .unset, .unset] [(.ref ab), (.ref b1)]))
  have f6 := (Ea.ext E1)
  obtain ⟨_, _, ⟨T7, L7, k7, n7⟩, -, X7, ⟨Lc7, hQ7, l7, y7, z7⟩, st7⟩ := Jvm.LawKit.callS X5 hx (y := (⟨"java/util/Arrays", "fill", "([Ljava/lang/Object;Ljava/lang/Object;)V"⟩ : MethodName)) hown (mvT hZ (hw _ (List.mem_of_getElem? (i := 20) rfl))) (mvT hZ (hw _ (List.mem_of_getElem? (i := 21) rfl))) (mvT hZ (hw _ (List.mem_of_getElem? (i := 22) rfl))) (mvT hZ (hw _ (List.mem_of_getElem? (i := 23) rfl))) (by decide) (backOf (W := 0) (own_rmFO l Z a0 hw [] b1 ab k1 h1 n0 z2 ge1 V1 O1 f6) hZ (hw _ (List.mem_of_getElem? (i := 23) rfl)) (hw _ (List.mem_of_getElem? (i := 22) rfl)) (by decide) (by decide)) (g := (mkF m 12 #[.val (.ref pa), .val (.int (65536 : Int32)), .val (.ref b1), .unset, .unset] [(.ref ab), (.ref b1)])) rfl (by rw [hml]; rfl) (argsL := [(.ref b1), (.ref ab)]) (rest := []) (lenOf own_pd___Ljava_lang_Object_Ljava_lang_Object__V rfl) rfl (by show 2 * 0 + _ ≤ _; exact Nat.le_of_eq rfl) (hb hby own_dprog_30_method_4_code_12) (fun _ _ => ⟨rfl, e5, (by decide : 1 + 0 ≤ _), (by decide : 256 + 0 ≤ _)⟩)
  dsimp only [Pt.U, Pt.locs, Pt.cells, Pt.slots] at X7 l7 y7 z7 st7 hQ7
  subst l7 y7 z7
  obtain ⟨rfl, Nq7, Kq7, Vq7⟩ := hQ7
  have N7 := Fr.app N0 Nq7
  refine own_st st7 ?_
  have z8 : n0 ≤ T7.heap.size := Nat.le_trans z2 Kq7.1
  have kk9 : Keep h0 T7.heap [] := kk3.trans Kq7 (allS (Or.inr sz1) all0)
  show own_Go p.tables e below RR (T7.setTop (mkF m 15 #[.val (.ref pa), .val (.int (65536 : Int32)), .val (.ref b1), .unset, .unset] []))
  refine own_st (fun _ k => XS.iconst X7.here hx rfl (hb hby own_dprog_30_method_4_code_15) (XS.istoreN X7.here hx rfl (hb hby own_dprog_30_method_4_code_16) rfl (l' := #[.val (.ref pa), .val (.int (65536 : Int32)), .val (.ref b1), .val (.int (0 : Int32)), .unset]) rfl (XS.iloadN X7.here hx rfl (hb hby own_dprog_30_method_4_code_17) rfl (XS.aloadN X7.here hx rfl (hb hby own_dprog_30_method_4_code_18) rfl rfl k)))) ?_
  show own_Go p.tables e below RR (T7.setTop (mkF m 19 #[.val (.ref pa), .val (.int (65536 : Int32)), .val (.ref b1), .val (.int (0 : Int32)), .unset] [(.ref pa), (.int (0 : Int32))]))
  have ne10 : pa ≠ b1 := (Nat.ne_of_lt (Nat.lt_of_lt_of_le Vp.lt (Nat.le_of_eq gb1.symm)))
  have f11 := ((Vp.ext E1).keep Kq7 (ninS ne10 nin0))
  obtain ⟨c12, A12, -, s12, m12, -, -⟩ := id f11
  refine own_st (fun _ k => own_len X7 hx hZ rfl A12 s12 m12 (g := (mkF m 19 #[.val (.ref pa), .val (.int (65536 : Int32)), .val (.ref b1), .val (.int (0 : Int32)), .unset] [(.ref pa), (.int (0 : Int32))])) rfl rfl (hb hby own_dprog_30_method_4_code_19) (XS.iconst X7.here hx rfl (hb hby own_dprog_30_method_4_code_20) (XS.isub X7.here hx rfl (hb hby own_dprog_30_method_4_code_21) rfl k))) ?_
  show own_Go p.tables e below RR (T7.setTop (mkF m 22 #[.val (.ref pa), .val (.int (65536 : Int32)), .val (.ref b1), .val (.int (0 : Int32)), .unset] [(.int (3 : Int32)), (.int (0 : Int32))]))
  refine own_st (fun _ k => XS.icmpNo X7.here hx rfl (hb hby own_dprog_30_method_4_code_22) rfl (tlt (by decide)).2.1 (XS.aloadN X7.here hx rfl (hb hby own_dprog_30_method_4_code_25) rfl rfl (XS.iloadN X7.here hx rfl (hb hby own_dprog_30_method_4_code_26) rfl k))) ?_
  show own_Go p.tables e below RR (T7.setTop (mkF m 27 #[.val (.ref pa), .val (.int (65536 : Int32)), .val (.ref b1), .val (.int (0 : Int32)), .unset] [(.int (0 : Int32)), (.ref pa)]))
  obtain ⟨c13, A13, q13, s13, m13, H13, G13⟩ := id f11
  have b13 := inb_of (j := (0 : Int32)) s13 ⟨by decide, by decide⟩
  refine own_st (fun _ k => X7.iaload hx (j := (0 : Int32)) (v := (.int pp0)) (by exact A13.1) (State.isArrayOf_alike hZ.alike A13.2.1) A13.2.2 b13 (Has.at H13 b13 rfl) (g := (mkF m 27 #[.val (.ref pa), .val (.int (65536 : Int32)), .val (.ref b1), .val (.int (0 : Int32)), .unset] [(.int (0 : Int32)), (.ref pa)])) rfl rfl (hb hby own_dprog_30_method_4_code_27) _ (XS.bipush X7.here hx rfl (hb hby own_dprog_30_method_4_code_28) (XS.iushr X7.here hx rfl (hb hby own_dprog_30_method_4_code_30) rfl (XS.istore X7.here hx rfl (hb hby own_dprog_30_method_4_code_31) rfl (l' := #[.val (.ref pa), .val (.int (65536 : Int32)), .val (.ref b1), .val (.int (0 : Int32)), .val (.int ((pp0.toUInt32 >>> ((8 : Int32) &&& 31).toUInt32).toInt32))]) rfl k)))) ?_
  show own_Go p.tables e below RR (T7.setTop (mkF m 33 #[.val (.ref pa), .val (.int (65536 : Int32)), .val (.ref b1), .val (.int (0 : Int32)), .val (.int ((pp0.toUInt32 >>> ((8 : Int32) &&& 31).toUInt32).toInt32))] []))
  show own_Go p.tables e below RR (T7.setTop (mkF m 33 #[.val (.ref pa), .val (.int (65536 : Int32)), .val (.ref b1), .val (.int (0 : Int32)), .val (.int ((pp0.toUInt32 >>> ((8 : Int32) &&& 31).toUInt32).toInt32))] []))
  refine own_st (fun _ k => XS.aloadN X7.here hx rfl (hb hby own_dprog_30_method_4_code_33) rfl rfl (XS.iload X7.here hx rfl (hb hby own_dprog_30_method_4_code_34) rfl k)) ?_
  show own_Go p.tables e below RR (T7.setTop (mkF m 36 #[.val (.ref pa), .val (.int (65536 : Int32)), .val (.ref b1), .val (.int (0 : Int32)), .val (.int ((pp0.toUInt32 >>> ((8 : Int32) &&& 31).toUInt32).toInt32))] [(.int ((pp0.toUInt32 >>> ((8 : Int32) &&& 31).toUInt32).toInt32)), (.ref b1)]))
  obtain ⟨c14, A14, q14, s14, m14, H14, G14⟩ := id Vq7
  have b14 := inb_of (j := ((pp0.toUInt32 >>> ((8 : Int32) &&& 31).toUInt32).toInt32)) s14 (own_i256 (own_hr hb0))
  refine own_st (fun _ k => X7.aaload hx (j := ((pp0.toUInt32 >>> ((8 : Int32) &&& 31).toUInt32).toInt32)) (v := (.ref ab)) (by exact A14.1) (State.isArrayOf_alike hZ.alike A14.2.1) rfl A14.2.2 b14 (Has.at H14 b14 (own_flg (own_ncl (own_hr hb0)) _ _ _)) (g := (mkF m 36 #[.val (.ref pa), .val (.int (65536 : Int32)), .val (.ref b1), .val (.int (0 : Int32)), .val (.int ((pp0.toUInt32 >>> ((8 : Int32) &&& 31).toUInt32).toInt32))] [(.int ((pp0.toUInt32 >>> ((8 : Int32) &&& 31).toUInt32).toInt32)), (.ref b1)])) rfl rfl (hb hby own_dprog_30_method_4_code_36) _ k) ?_
  show own_Go p.tables e below RR (T7.setTop (mkF m 37 #[.val (.ref pa), .val (.int (65536 : Int32)), .val (.ref b1), .val (.int (0 : Int32)), .val (.int ((pp0.toUInt32 >>> ((8 : Int32) &&& 31).toUInt32).toInt32))] [(.ref ab)]))
  have f15 := (own_staK f4 Kq7 (allS B1.nostat all0))
  obtain ⟨T16, X16, e16, st16⟩ := getS2 X7 hx hZ hown (host := "") (Or.inl (hw _ (List.mem_of_getElem? (i := 18) rfl))) Via.refl rfl f15 (g := (mkF m 37 #[.val (.ref pa), .val (.int (65536 : Int32)), .val (.ref b1), .val (.int (0 : Int32)), .val (.int ((pp0.toUInt32 >>> ((8 : Int32) &&& 31).toUInt32).toInt32))] [(.ref ab)])) rfl (hb hby own_dprog_30_method_4_code_37)
  refine own_st st16 ?_
  show own_Go p.tables e below RR (T16.setTop (mkF m 40 #[.val (.ref pa), .val (.int (65536 : Int32)), .val (.ref b1), .val (.int (0 : Int32)), .val (.int ((pp0.toUInt32 >>> ((8 : Int32) &&& 31).toUInt32).toInt32))] [(.ref ab), (.ref ab)]))
  refine own_st (fun _ k => Jvm.RoadKit.acmp (g := (mkF m 40 #[.val (.ref pa), .val (.int (65536 : Int32)), .val (.ref b1), .val (.int (0 : Int32)), .val (.int ((pp0.toUInt32 >>> ((8 : Int32) &&& 31).toUInt32).toInt32))] [(.ref ab), (.ref ab)])) X16 hx rfl rfl rfl (pc0 := 40) (pc' := 43) (same := true) rfl (hb hby own_dprog_30_method_4_code_40) rfl (decide_eq_true rfl) (by decide) (by decide) (XS.aloadN X16.here hx rfl (hb hby own_dprog_30_method_4_code_43) rfl rfl (XS.iload X16.here hx rfl (hb hby own_dprog_30_method_4_code_44) rfl k))) ?_
  show own_Go p.tables e below RR (T16.setTop (mkF m 46 #[.val (.ref pa), .val (.int (65536 : Int32)), .val (.ref b1), .val (.int (0 : Int32)), .val (.int ((pp0.toUInt32 >>> ((8 : Int32) &&& 31).toUInt32).toInt32))] [(.int ((pp0.toUInt32 >>> ((8 : Int32) &&& 31).toUInt32).toInt32)), (.ref b1)]))
  obtain ⟨b17, gb17⟩ : ∃ z, z = T7.heap.size := ⟨_, rfl⟩
  have ge17 : n0 ≤ b17 := Nat.le_trans z8 (Nat.le_of_eq gb17.symm)
  have sz17 : h0.size ≤ b17 := Nat.le_trans kk9.1 (Nat.le_of_eq gb17.symm)
  obtain ⟨_, _, ⟨T18, L18, k18, n18⟩, -, X18, ⟨Lc18, hQ18, l18, y18, z18⟩, st18⟩ := Jvm.LawKit.callS X16 hx (y := (⟨"com/example/shiftwise/shiftwise/search/BoyerMooreTables", "absentPage", "()[I"⟩ : MethodName)) hown (mvT hZ (hw _ (List.mem_of_getElem? (i := 25) rfl))) (mvT hZ (hw _ (List.mem_of_getElem? (i := 26) rfl))) (mvT hZ (hw _ (List.mem_of_getElem? (i := 5) rfl))) (mvT hZ (hw _ (List.mem_of_getElem? (i := 27) rfl))) (by decide) (backOf (W := 2) (own_rmAP l Z a0 hw [] b17 T7.heap n0 z8 gb17) hZ (hw _ (List.mem_of_getElem? (i := 27) rfl)) (hw _ (List.mem_of_getElem? (i := 5) rfl)) (by decide) (by decide)) (g := (mkF m 46 #[.val (.ref pa), .val (.int (65536 : Int32)), .val (.ref b1), .val (.int (0 : Int32)), .val (.int ((pp0.toUInt32 >>> ((8 : Int32) &&& 31).toUInt32).toInt32))] [(.int ((pp0.toUInt32 >>> ((8 : Int32) &&& 31).toUInt32).toInt32)), (.ref b1)])) rfl (by rw [hml]; rfl) (argsL := []) (rest := [(.int ((pp0.toUInt32 >>> ((8 : Int32) &&& 31).toUInt32).toInt32)), (.ref b1)]) (lenOf own_pd____I rfl) rfl (by show 2 * 0 + _ ≤ _; exact Nat.le_of_eq rfl) (hb hby own_dprog_30_method_4_code_46) (fun _ _ => ⟨rfl, e16, (by decide : 1 + 1 ≤ _), (by decide : 256 + 256 ≤ _)⟩)
  dsimp only [Pt.U, Pt.locs, Pt.cells, Pt.slots] at X18 l18 y18 z18 st18 hQ18
  subst l18 y18 z18
  obtain ⟨rfl, Nq18, Kq18, Eq18, kk18, Vq18⟩ := hQ18
  have N18 := Fr.app N7 Nq18
  refine own_st st18 ?_
  have z19 : n0 ≤ T18.heap.size := Nat.le_trans z8 Kq18.1
  have kk20 : Keep h0 T18.heap [] := kk9.trans Kq18 all0
  show own_Go p.tables e below RR (T18.setTop (mkF m 49 #[.val (.ref pa), .val (.int (65536 : Int32)), .val (.ref b1), .val (.int (0 : Int32)), .val (.int ((pp0.toUInt32 >>> ((8 : Int32) &&& 31).toUInt32).toInt32))] [(.ref b17), (.int ((pp0.toUInt32 >>> ((8 : Int32) &&& 31).toUInt32).toInt32)), (.ref b1)]))
  have f21 := (Vq7.keep Kq18 nin0)
  obtain ⟨c22, A22, q22, s22, m22, H22, G22⟩ := id f21
  obtain ⟨T23, h23, X23, e23, W23, st23⟩ := stR X18 hx hZ rfl A22 (j := ((pp0.toUInt32 >>> ((8 : Int32) &&& 31).toUInt32).toInt32)) (inb_of s22 (own_i256 (own_hr hb0))) rfl (Sto.ofVA A22 q22 O1 (Ins.self Eq18)) (g := (mkF m 49 #[.val (.ref pa), .val (.int (65536 : Int32)), .val (.ref b1), .val (.int (0 : Int32)), .val (.int ((pp0.toUInt32 >>> ((8 : Int32) &&& 31).toUInt32).toInt32))] [(.ref b17), (.int ((pp0.toUInt32 >>> ((8 : Int32) &&& 31).toUInt32).toInt32)), (.ref b1)])) rfl rfl (hb hby own_dprog_30_method_4_code_49)
  have U23 := Arv.set A22 q22 s22 m22 H22 G22 rfl W23 ((pp0.toUInt32 >>> ((8 : Int32) &&& 31).toUInt32).toInt32).toNatClampNeg rfl (by rw [(own_fl_len (Nat.le_refl 256) _ _)]; exact own_ncl (own_hr hb0))
  have V23 : Arv Z h23 b1 k1 (.array .int) (256 : Int32) ((own_fl 256 256 (.ref ab) .null).set ((pp0.toUInt32 >>> ((8 : Int32) &&& 31).toUInt32).toInt32).toNatClampNeg (.ref b17)) .null := U23
  have N23 := Fr.snoc X23 N18 ge1
  refine own_st st23 ?_
  have z24 : n0 ≤ h23.size := Nat.le_trans z19 (Keep.of_wr W23).1
  have kk25 : Keep h0 h23 [] := kk20.wr W23 (Or.inr sz1)
  show own_Go p.tables e below RR (T23.setTop (mkF m 50 #[.val (.ref pa), .val (.int (65536 : Int32)), .val (.ref b1), .val (.int (0 : Int32)), .val (.int ((pp0.toUInt32 >>> ((8 : Int32) &&& 31).toUInt32).toInt32))] []))
  refine own_st (fun _ k => XS.aloadN X23.here hx rfl (hb hby own_dprog_30_method_4_code_50) rfl rfl (XS.iload X23.here hx rfl (hb hby own_dprog_30_method_4_code_51) rfl k)) ?_
  show own_Go p.tables e below RR (T23.setTop (mkF m 53 #[.val (.ref pa), .val (.int (65536 : Int32)), .val (.ref b1), .val (.int (0 : Int32)), .val (.int ((pp0.toUInt32 >>> ((8 : Int32) &&& 31).toUInt32).toInt32))] [(.int ((pp0.toUInt32 >>> ((8 : Int32) &&& 31).toUInt32).toInt32)), (.ref b1)]))
  obtain ⟨c26, A26, q26, s26, m26, H26, G26⟩ := id V23
  have b26 := inb_of (j := ((pp0.toUInt32 >>> ((8 : Int32) &&& 31).toUInt32).toInt32)) s26 (own_i256 (own_hr hb0))
  refine own_st (fun _ k => X23.aaload hx (j := ((pp0.toUInt32 >>> ((8 : Int32) &&& 31).toUInt32).toInt32)) (v := (.ref b17)) (by rw [e23]; exact A26.1) (State.isArrayOf_alike hZ.alike A26.2.1) rfl A26.2.2 b26 (Has.at H26 b26 (own_hit (own_fl_len (Nat.le_refl 256) _ _) (own_ncl (own_hr hb0)) (congrArg Int32.toNatClampNeg rfl))) (g := (mkF m 53 #[.val (.ref pa), .val (.int (65536 : Int32)), .val (.ref b1), .val (.int (0 : Int32)), .val (.int ((pp0.toUInt32 >>> ((8 : Int32) &&& 31).toUInt32).toInt32))] [(.int ((pp0.toUInt32 >>> ((8 : Int32) &&& 31).toUInt32).toInt32)), (.ref b1)])) rfl rfl (hb hby own_dprog_30_method_4_code_53) _ (XS.aloadN X23.here hx rfl (hb hby own_dprog_30_method_4_code_54) rfl rfl (XS.iloadN X23.here hx rfl (hb hby own_dprog_30_method_4_code_55) rfl k))) ?_
  show own_Go p.tables e below RR (T23.setTop (mkF m 56 #[.val (.ref pa), .val (.int (65536 : Int32)), .val (.ref b1), .val (.int (0 : Int32)), .val (.int ((pp0.toUInt32 >>> ((8 : Int32) &&& 31).toUInt32).toInt32))] [(.int (0 : Int32)), (.ref pa), (.ref b17)]))
  have f27 := ((f11.keep Kq18 nin0).other W23 ne10)
  obtain ⟨c28, A28, q28, s28, m28, H28, G28⟩ := id f27
  have b28 := inb_of (j := (0 : Int32)) s28 ⟨by decide, by decide⟩
  refine own_st (fun _ k => X23.iaload hx (j := (0 : Int32)) (v := (.int pp0)) (by rw [e23]; exact A28.1) (State.isArrayOf_alike hZ.alike A28.2.1) A28.2.2 b28 (Has.at H28 b28 rfl) (g := (mkF m 56 #[.val (.ref pa), .val (.int (65536 : Int32)), .val (.ref b1), .val (.int (0 : Int32)), .val (.int ((pp0.toUInt32 >>> ((8 : Int32) &&& 31).toUInt32).toInt32))] [(.int (0 : Int32)), (.ref pa), (.ref b17)])) rfl rfl (hb hby own_dprog_30_method_4_code_56) _ (XS.sipush X23.here hx rfl (hb hby own_dprog_30_method_4_code_57) (XS.iand X23.here hx rfl (hb hby own_dprog_30_method_4_code_60) rfl (XS.iloadN X23.here hx rfl (hb hby own_dprog_30_method_4_code_61) rfl k)))) ?_
  show own_Go p.tables e below RR (T23.setTop (mkF m 62 #[.val (.ref pa), .val (.int (65536 : Int32)), .val (.ref b1), .val (.int (0 : Int32)), .val (.int ((pp0.toUInt32 >>> ((8 : Int32) &&& 31).toUInt32).toInt32))] [(.int (0 : Int32)), (.int (pp0 &&& (255 : Int32))), (.ref b17)]))
  have ne29 : b1 ≠ b17 := (Nat.ne_of_lt (Nat.lt_of_lt_of_le (B1.keep Kq7).lt (Nat.le_of_eq gb17.symm)))
  have f30 := (Vq18.other W23 (Ne.symm ne29))
  obtain ⟨c31, A31, q31, s31, m31, H31, G31⟩ := id f30
  obtain ⟨T32, h32, X32, e32, W32, st32⟩ := stI X23 hx hZ e23 A31 (j := (pp0 &&& (255 : Int32))) (inb_of s31 (own_i256 (own_lr _))) (g := (mkF m 62 #[.val (.ref pa), .val (.int (65536 : Int32)), .val (.ref b1), .val (.int (0 : Int32)), .val (.int ((pp0.toUInt32 >>> ((8 : Int32) &&& 31).toUInt32).toInt32))] [(.int (0 : Int32)), (.int (pp0 &&& (255 : Int32))), (.ref b17)])) rfl rfl (hb hby own_dprog_30_method_4_code_62)
  have U32 := Arv.set A31 q31 s31 m31 H31 G31 rfl W32 (pp0 &&& (255 : Int32)).toNatClampNeg rfl (by rw [(own_fl_len (Nat.le_refl 256) _ _)]; exact own_ncl (own_lr _))
  have V32 : Arv Z h32 b17 kk18 .int (256 : Int32) ((own_fl 256 256 (.int (-1 : Int32)) (.int (0 : Int32))).set (pp0 &&& (255 : Int32)).toNatClampNeg (.int (0 : Int32))) (.int (0 : Int32)) := U32
  have N32 := Fr.snoc X32 N23 ge17
  refine own_st st32 ?_
  have z33 : n0 ≤ h32.size := Nat.le_trans z24 (Keep.of_wr W32).1
  have kk34 : Keep h0 h32 [] := kk25.wr W32 (Or.inr sz17)
  show own_Go p.tables e below RR (T32.setTop (mkF m 63 #[.val (.ref pa), .val (.int (65536 : Int32)), .val (.ref b1), .val (.int (0 : Int32)), .val (.int ((pp0.toUInt32 >>> ((8 : Int32) &&& 31).toUInt32).toInt32))] []))
  refine own_st (fun _ k => XS.iinc X32.here hx rfl (hb hby own_dprog_30_method_4_code_63) rfl (l' := #[.val (.ref pa), .val (.int (65536 : Int32)), .val (.ref b1), .val (.int (1 : Int32)), .val (.int ((pp0.toUInt32 >>> ((8 : Int32) &&& 31).toUInt32).toInt32))]) rfl (XS.goto X32.here hx rfl (pc0 := 66) (pc' := 17) rfl (hb hby own_dprog_30_method_4_code_66) (by decide) (by decide) (XS.iloadN X32.here hx rfl (hb hby own_dprog_30_method_4_code_17) rfl (XS.aloadN X32.here hx rfl (hb hby own_dprog_30_method_4_code_18) rfl rfl k)))) ?_
  show own_Go p.tables e below RR (T32.setTop (mkF m 19 #[.val (.ref pa), .val (.int (65536 : Int32)), .val (.ref b1), .val (.int (1 : Int32)), .val (.int ((pp0.toUInt32 >>> ((8 : Int32) &&& 31).toUInt32).toInt32))] [(.ref pa), (.int (1 : Int32))]))
  have ne35 : pa ≠ b17 := (Nat.ne_of_lt (Nat.lt_of_lt_of_le f11.lt (Nat.le_of_eq gb17.symm)))
  have f36 := (f27.other W32 ne35)
  obtain ⟨c37, A37, -, s37, m37, -, -⟩ := id f36
  refine own_st (fun _ k => own_len X32 hx hZ e32 A37 s37 m37 (g := (mkF m 19 #[.val (.ref pa), .val (.int (65536 : Int32)), .val (.ref b1), .val (.int (1 : Int32)), .val (.int ((pp0.toUInt32 >>> ((8 : Int32) &&& 31).toUInt32).toInt32))] [(.ref pa), (.int (1 : Int32))])) rfl rfl (hb hby own_dprog_30_method_4_code_19) (XS.iconst X32.here hx rfl (hb hby own_dprog_30_method_4_code_20) (XS.isub X32.here hx rfl (hb hby own_dprog_30_method_4_code_21) rfl k))) ?_
  show own_Go p.tables e below RR (T32.setTop (mkF m 22 #[.val (.ref pa), .val (.int (65536 : Int32)), .val (.ref b1), .val (.int (1 : Int32)), .val (.int ((pp0.toUInt32 >>> ((8 : Int32) &&& 31).toUInt32).toInt32))] [(.int (3 : Int32)), (.int (1 : Int32))]))
  refine own_st (fun _ k => XS.icmpNo X32.here hx rfl (hb hby own_dprog_30_method_4_code_22) rfl (tlt (by decide)).2.1 (XS.aloadN X32.here hx rfl (hb hby own_dprog_30_method_4_code_25) rfl rfl (XS.iloadN X32.here hx rfl (hb hby own_dprog_30_method_4_code_26) rfl k))) ?_
  show own_Go p.tables e below RR (T32.setTop (mkF m 27 #[.val (.ref pa), .val (.int (65536 : Int32)), .val (.ref b1), .val (.int (1 : Int32)), .val (.int ((pp0.toUInt32 >>> ((8 : Int32) &&& 31).toUInt32).toInt32))] [(.int (1 : Int32)), (.ref pa)]))
  obtain ⟨c38, A38, q38, s38, m38, H38, G38⟩ := id f36
  have b38 := inb_of (j := (1 : Int32)) s38 ⟨by decide, by decide⟩
  refine own_st (fun _ k => X32.iaload hx (j := (1 : Int32)) (v := (.int pp1)) (by rw [e32]; exact A38.1) (State.isArrayOf_alike hZ.alike A38.2.1) A38.2.2 b38 (Has.at H38 b38 rfl) (g := (mkF m 27 #[.val (.ref pa), .val (.int (65536 : Int32)), .val (.ref b1), .val (.int (1 : Int32)), .val (.int ((pp0.toUInt32 >>> ((8 : Int32) &&& 31).toUInt32).toInt32))] [(.int (1 : Int32)), (.ref pa)])) rfl rfl (hb hby own_dprog_30_method_4_code_27) _ (XS.bipush X32.here hx rfl (hb hby own_dprog_30_method_4_code_28) (XS.iushr X32.here hx rfl (hb hby own_dprog_30_method_4_code_30) rfl (XS.istore X32.here hx rfl (hb hby own_dprog_30_method_4_code_31) rfl (l' := #[.val (.ref pa), .val (.int (65536 : Int32)), .val (.ref b1), .val (.int (1 : Int32)), .val (.int ((pp1.toUInt32 >>> ((8 : Int32) &&& 31).toUInt32).toInt32))]) rfl k)))) ?_
  show own_Go p.tables e below RR (T32.setTop (mkF m 33 #[.val (.ref pa), .val (.int (65536 : Int32)), .val (.ref b1), .val (.int (1 : Int32)), .val (.int ((pp1.toUInt32 >>> ((8 : Int32) &&& 31).toUInt32).toInt32))] []))
  by_cases hc33_39 : ((pp1.toUInt32 >>> ((8 : Int32) &&& 31).toUInt32).toInt32) = ((pp0.toUInt32 >>> ((8 : Int32) &&& 31).toUInt32).toInt32)
  · show own_Go p.tables e below RR (T32.setTop (mkF m 33 #[.val (.ref pa), .val (.int (65536 : Int32)), .val (.ref b1), .val (.int (1 : Int32)), .val (.int ((pp1.toUInt32 >>> ((8 : Int32) &&& 31).toUInt32).toInt32))] []))
    refine own_st (fun _ k => XS.aloadN X32.here hx rfl (hb hby own_dprog_30_method_4_code_33) rfl rfl (XS.iload X32.here hx rfl (hb hby own_dprog_30_method_4_code_34) rfl k)) ?_
    show own_Go p.tables e below RR (T32.setTop (mkF m 36 #[.val (.ref pa), .val (.int (65536 : Int32)), .val (.ref b1), .val (.int (1 : Int32)), .val (.int ((pp1.toUInt32 >>> ((8 : Int32) &&& 31).toUInt32).toInt32))] [(.int ((pp1.toUInt32 >>> ((8 : Int32) &&& 31).toUInt32).toInt32)), (.ref b1)]))
    have f40 := (V23.other W32 ne29)
    obtain ⟨c41, A41, q41, s41, m41, H41, G41⟩ := id f40
    have b41 := inb_of (j := ((pp1.toUInt32 >>> ((8 : Int32) &&& 31).toUInt32).toInt32)) s41 (own_i256 (own_hr hb1))
    refine own_st (fun _ k => X32.aaload hx (j := ((pp1.toUInt32 >>> ((8 : Int32) &&& 31).toUInt32).toInt32)) (v := (.ref b17)) (by rw [e32]; exact A41.1) (State.isArrayOf_alike hZ.alike A41.2.1) rfl A41.2.2 b41 (Has.at H41 b41 (own_hit (own_fl_len (Nat.le_refl 256) _ _) (own_ncl (own_hr hb0)) (congrArg Int32.toNatClampNeg hc33_39))) (g := (mkF m 36 #[.val (.ref pa), .val (.int (65536 : Int32)), .val (.ref b1), .val (.int (1 : Int32)), .val (.int ((pp1.toUInt32 >>> ((8 : Int32) &&& 31).toUInt32).toInt32))] [(.int ((pp1.toUInt32 >>> ((8 : Int32) &&& 31).toUInt32).toInt32)), (.ref b1)])) rfl rfl (hb hby own_dprog_30_method_4_code_36) _ k) ?_
    show own_Go p.tables e below RR (T32.setTop (mkF m 37 #[.val (.ref pa), .val (.int (65536 : Int32)), .val (.ref b1), .val (.int (1 : Int32)), .val (.int ((pp1.toUInt32 >>> ((8 : Int32) &&& 31).toUInt32).toInt32))] [(.ref b17)]))
    have f42 := (((own_staK f15 Kq18 all0).wr W23).wr W32)
    obtain ⟨T43, X43, e43, st43⟩ := getS2 X32 hx hZ hown (host := "") (Or.inl (hw _ (List.mem_of_getElem? (i := 18) rfl))) Via.refl e32 f42 (g := (mkF m 37 #[.val (.ref pa), .val (.int (65536 : Int32)), .val (.ref b1), .val (.int (1 : Int32)), .val (.int ((pp1.toUInt32 >>> ((8 : Int32) &&& 31).toUInt32).toInt32))] [(.ref b17)])) rfl (hb hby own_dprog_30_method_4_code_37)
    refine own_st st43 ?_
    show own_Go p.tables e below RR (T43.setTop (mkF m 40 #[.val (.ref pa), .val (.int (65536 : Int32)), .val (.ref b1), .val (.int (1 : Int32)), .val (.int ((pp1.toUInt32 >>> ((8 : Int32) &&& 31).toUInt32).toInt32))] [(.ref ab), (.ref b17)]))
    have ne44 : ab ≠ b17 := (Nat.ne_of_lt (Nat.lt_of_lt_of_le (f6.keep Kq7).lt (Nat.le_of_eq gb17.symm)))
    have hc40_45 : ¬ (b17 = ab) := (Ne.symm ne44)
    refine own_st (fun _ k => Jvm.RoadKit.acmp (g := (mkF m 40 #[.val (.ref pa), .val (.int (65536 : Int32)), .val (.ref b1), .val (.int (1 : Int32)), .val (.int ((pp1.toUInt32 >>> ((8 : Int32) &&& 31).toUInt32).toInt32))] [(.ref ab), (.ref b17)])) X43 hx rfl rfl rfl (pc0 := 40) (pc' := 50) (same := false) rfl (hb hby own_dprog_30_method_4_code_40) rfl (decide_eq_false fun q => hc40_45 (Value.ref.inj q)) (by decide) (by decide) (XS.aloadN X43.here hx rfl (hb hby own_dprog_30_method_4_code_50) rfl rfl (XS.iload X43.here hx rfl (hb hby own_dprog_30_method_4_code_51) rfl k))) ?_
    show own_Go p.tables e below RR (T43.setTop (mkF m 53 #[.val (.ref pa), .val (.int (65536 : Int32)), .val (.ref b1), .val (.int (1 : Int32)), .val (.int ((pp1.toUInt32 >>> ((8 : Int32) &&& 31).toUInt32).toInt32))] [(.int ((pp1.toUInt32 >>> ((8 : Int32) &&& 31).toUInt32).toInt32)), (.ref b1)]))
    obtain ⟨c46, A46, q46, s46, m46, H46, G46⟩ := id f40
    have b46 := inb_of (j := ((pp1.toUInt32 >>> ((8 : Int32) &&& 31).toUInt32).toInt32)) s46 (own_i256 (own_hr hb1))
    refine own_st (fun _ k => X43.aaload hx (j := ((pp1.toUInt32 >>> ((8 : Int32) &&& 31).toUInt32).toInt32)) (v := (.ref b17)) (by rw [e43]; exact A46.1) (State.isArrayOf_alike hZ.alike A46.2.1) rfl A46.2.2 b46 (Has.at H46 b46 (own_hit (own_fl_len (Nat.le_refl 256) _ _) (own_ncl (own_hr hb0)) (congrArg Int32.toNatClampNeg hc33_39))) (g := (mkF m 53 #[.val (.ref pa), .val (.int (65536 : Int32)), .val (.ref b1), .val (.int (1 : Int32)), .val (.int ((pp1.toUInt32 >>> ((8 : Int32) &&& 31).toUInt32).toInt32))] [(.int ((pp1.toUInt32 >>> ((8 : Int32) &&& 31).toUInt32).toInt32)), (.ref b1)])) rfl rfl (hb hby own_dprog_30_method_4_code_53) _ (XS.aloadN X43.here hx rfl (hb hby own_dprog_30_method_4_code_54) rfl rfl (XS.iloadN X43.here hx rfl (hb hby own_dprog_30_method_4_code_55) rfl k))) ?_
    show own_Go p.tables e below RR (T43.setTop (mkF m 56 #[.val (.ref pa), .val (.int (65536 : Int32)), .val (.ref b1), .val (.int (1 : Int32)), .val (.int ((pp1.toUInt32 >>> ((8 : Int32) &&& 31).toUInt32).toInt32))] [(.int (1 : Int32)), (.ref pa), (.ref b17)]))
    obtain ⟨c47, A47, q47, s47, m47, H47, G47⟩ := id f36
    have b47 := inb_of (j := (1 : Int32)) s47 ⟨by decide, by decide⟩
    refine own_st (fun _ k => X43.iaload hx (j := (1 : Int32)) (v := (.int pp1)) (by rw [e43]; exact A47.1) (State.isArrayOf_alike hZ.alike A47.2.1) A47.2.2 b47 (Has.at H47 b47 rfl) (g := (mkF m 56 #[.val (.ref pa), .val (.int (65536 : Int32)), .val (.ref b1), .val (.int (1 : Int32)), .val (.int ((pp1.toUInt32 >>> ((8 : Int32) &&& 31).toUInt32).toInt32))] [(.int (1 : Int32)), (.ref pa), (.ref b17)])) rfl rfl (hb hby own_dprog_30_method_4_code_56) _ (XS.sipush X43.here hx rfl (hb hby own_dprog_30_method_4_code_57) (XS.iand X43.here hx rfl (hb hby own_dprog_30_method_4_code_60) rfl (XS.iloadN X43.here hx rfl (hb hby own_dprog_30_method_4_code_61) rfl k)))) ?_
    show own_Go p.tables e below RR (T43.setTop (mkF m 62 #[.val (.ref pa), .val (.int (65536 : Int32)), .val (.ref b1), .val (.int (1 : Int32)), .val (.int ((pp1.toUInt32 >>> ((8 : Int32) &&& 31).toUInt32).toInt32))] [(.int (1 : Int32)), (.int (pp1 &&& (255 : Int32))), (.ref b17)]))
    obtain ⟨c48, A48, q48, s48, m48, H48, G48⟩ := id V32
    obtain ⟨T49, h49, X49, e49, W49, st49⟩ := stI X43 hx hZ e43 A48 (j := (pp1 &&& (255 : Int32))) (inb_of s48 (own_i256 (own_lr _))) (g := (mkF m 62 #[.val (.ref pa), .val (.int (65536 : Int32)), .val (.ref b1), .val (.int (1 : Int32)), .val (.int ((pp1.toUInt32 >>> ((8 : Int32) &&& 31).toUInt32).toInt32))] [(.int (1 : Int32)), (.int (pp1 &&& (255 : Int32))), (.ref b17)])) rfl rfl (hb hby own_dprog_30_method_4_code_62)
    have U49 := Arv.set A48 q48 s48 m48 H48 G48 rfl W49 (pp1 &&& (255 : Int32)).toNatClampNeg rfl (by rw [(own_ls (own_fl_len (Nat.le_refl 256) _ _))]; exact own_ncl (own_lr _))
    have V49 : Arv Z h49 b17 kk18 .int (256 : Int32) (((own_fl 256 256 (.int (-1 : Int32)) (.int (0 : Int32))).set (pp0 &&& (255 : Int32)).toNatClampNeg (.int (0 : Int32))).set (pp1 &&& (255 : Int32)).toNatClampNeg (.int (1 : Int32))) (.int (0 : Int32)) := U49
    have N49 := Fr.snoc X49 N32 ge17
    refine own_st st49 ?_
    have z50 : n0 ≤ h49.size := Nat.le_trans z33 (Keep.of_wr W49).1
    have kk51 : Keep h0 h49 [] := kk34.wr W49 (Or.inr sz17)
    show own_Go p.tables e below RR (T49.setTop (mkF m 63 #[.val (.ref pa), .val (.int (65536 : Int32)), .val (.ref b1), .val (.int (1 : Int32)), .val (.int ((pp1.toUInt32 >>> ((8 : Int32) &&& 31).toUInt32).toInt32))] []))
    refine own_st (fun _ k => XS.iinc X49.here hx rfl (hb hby own_dprog_30_method_4_code_63) rfl (l' := #[.val (.ref pa), .val (.int (65536 : Int32)), .val (.ref b1), .val (.int (2 : Int32)), .val (.int ((pp1.toUInt32 >>> ((8 : Int32) &&& 31).toUInt32).toInt32))]) rfl (XS.goto X49.here hx rfl (pc0 := 66) (pc' := 17) rfl (hb hby own_dprog_30_method_4_code_66) (by decide) (by decide) (XS.iloadN X49.here hx rfl (hb hby own_dprog_30_method_4_code_17) rfl (XS.aloadN X49.here hx rfl (hb hby own_dprog_30_method_4_code_18) rfl rfl k)))) ?_
    show own_Go p.tables e below RR (T49.setTop (mkF m 19 #[.val (.ref pa), .val (.int (65536 : Int32)), .val (.ref b1), .val (.int (2 : Int32)), .val (.int ((pp1.toUInt32 >>> ((8 : Int32) &&& 31).toUInt32).toInt32))] [(.ref pa), (.int (2 : Int32))]))
    have f52 := (f36.other W49 ne35)
    obtain ⟨c53, A53, -, s53, m53, -, -⟩ := id f52
    refine own_st (fun _ k => own_len X49 hx hZ e49 A53 s53 m53 (g := (mkF m 19 #[.val (.ref pa), .val (.int (65536 : Int32)), .val (.ref b1), .val (.int (2 : Int32)), .val (.int ((pp1.toUInt32 >>> ((8 : Int32) &&& 31).toUInt32).toInt32))] [(.ref pa), (.int (2 : Int32))])) rfl rfl (hb hby own_dprog_30_method_4_code_19) (XS.iconst X49.here hx rfl (hb hby own_dprog_30_method_4_code_20) (XS.isub X49.here hx rfl (hb hby own_dprog_30_method_4_code_21) rfl k))) ?_
    show own_Go p.tables e below RR (T49.setTop (mkF m 22 #[.val (.ref pa), .val (.int (65536 : Int32)), .val (.ref b1), .val (.int (2 : Int32)), .val (.int ((pp1.toUInt32 >>> ((8 : Int32) &&& 31).toUInt32).toInt32))] [(.int (3 : Int32)), (.int (2 : Int32))]))
    refine own_st (fun _ k => XS.icmpNo X49.here hx rfl (hb hby own_dprog_30_method_4_code_22) rfl (tlt (by decide)).2.1 (XS.aloadN X49.here hx rfl (hb hby own_dprog_30_method_4_code_25) rfl rfl (XS.iloadN X49.here hx rfl (hb hby own_dprog_30_method_4_code_26) rfl k))) ?_
    show own_Go p.tables e below RR (T49.setTop (mkF m 27 #[.val (.ref pa), .val (.int (65536 : Int32)), .val (.ref b1), .val (.int (2 : Int32)), .val (.int ((pp1.toUInt32 >>> ((8 : Int32) &&& 31).toUInt32).toInt32))] [(.int (2 : Int32)), (.ref pa)]))
    obtain ⟨c54, A54, q54, s54, m54, H54, G54⟩ := id f52
    have b54 := inb_of (j := (2 : Int32)) s54 ⟨by decide, by decide⟩
    refine own_st (fun _ k => X49.iaload hx (j := (2 : Int32)) (v := (.int pp2)) (by rw [e49]; exact A54.1) (State.isArrayOf_alike hZ.alike A54.2.1) A54.2.2 b54 (Has.at H54 b54 rfl) (g := (mkF m 27 #[.val (.ref pa), .val (.int (65536 : Int32)), .val (.ref b1), .val (.int (2 : Int32)), .val (.int ((pp1.toUInt32 >>> ((8 : Int32) &&& 31).toUInt32).toInt32))] [(.int (2 : Int32)), (.ref pa)])) rfl rfl (hb hby own_dprog_30_method_4_code_27) _ (XS.bipush X49.here hx rfl (hb hby own_dprog_30_method_4_code_28) (XS.iushr X49.here hx rfl (hb hby own_dprog_30_method_4_code_30) rfl (XS.istore X49.here hx rfl (hb hby own_dprog_30_method_4_code_31) rfl (l' := #[.val (.ref pa), .val (.int (65536 : Int32)), .val (.ref b1), .val (.int (2 : Int32)), .val (.int ((pp2.toUInt32 >>> ((8 : Int32) &&& 31).toUInt32).toInt32))]) rfl k)))) ?_
    show own_Go p.tables e below RR (T49.setTop (mkF m 33 #[.val (.ref pa), .val (.int (65536 : Int32)), .val (.ref b1), .val (.int (2 : Int32)), .val (.int ((pp2.toUInt32 >>> ((8 : Int32) &&& 31).toUInt32).toInt32))] []))
    by_cases hc33_55 : ((pp2.toUInt32 >>> ((8 : Int32) &&& 31).toUInt32).toInt32) = ((pp0.toUInt32 >>> ((8 : Int32) &&& 31).toUInt32).toInt32)
    · show own_Go p.tables e below RR (T49.setTop (mkF m 33 #[.val (.ref pa), .val (.int (65536 : Int32)), .val (.ref b1), .val (.int (2 : Int32)), .val (.int ((pp2.toUInt32 >>> ((8 : Int32) &&& 31).toUInt32).toInt32))] []))
      refine own_st (fun _ k => XS.aloadN X49.here hx rfl (hb hby own_dprog_30_method_4_code_33) rfl rfl (XS.iload X49.here hx rfl (hb hby own_dprog_30_method_4_code_34) rfl k)) ?_
      show own_Go p.tables e below RR (T49.setTop (mkF m 36 #[.val (.ref pa), .val (.int (65536 : Int32)), .val (.ref b1), .val (.int (2 : Int32)), .val (.int ((pp2.toUInt32 >>> ((8 : Int32) &&& 31).toUInt32).toInt32))] [(.int ((pp2.toUInt32 >>> ((8 : Int32) &&& 31).toUInt32).toInt32)), (.ref b1)]))
      have f56 := (f40.other W49 ne29)
      obtain ⟨c57, A57, q57, s57, m57, H57, G57⟩ := id f56
      have b57 := inb_of (j := ((pp2.toUInt32 >>> ((8 : Int32) &&& 31).toUInt32).toInt32)) s57 (own_i256 (own_hr hb2))
      refine own_st (fun _ k => X49.aaload hx (j := ((pp2.toUInt32 >>> ((8 : Int32) &&& 31).toUInt32).toInt32)) (v := (.ref b17)) (by rw [e49]; exact A57.1) (State.isArrayOf_alike hZ.alike A57.2.1) rfl A57.2.2 b57 (Has.at H57 b57 (own_hit (own_fl_len (Nat.le_refl 256) _ _) (own_ncl (own_hr hb0)) (congrArg Int32.toNatClampNeg hc33_55))) (g := (mkF m 36 #[.val (.ref pa), .val (.int (65536 : Int32)), .val (.ref b1), .val (.int (2 : Int32)), .val (.int ((pp2.toUInt32 >>> ((8 : Int32) &&& 31).toUInt32).toInt32))] [(.int ((pp2.toUInt32 >>> ((8 : Int32) &&& 31).toUInt32).toInt32)), (.ref b1)])) rfl rfl (hb hby own_dprog_30_method_4_code_36) _ k) ?_
      show own_Go p.tables e below RR (T49.setTop (mkF m 37 #[.val (.ref pa), .val (.int (65536 : Int32)), .val (.ref b1), .val (.int (2 : Int32)), .val (.int ((pp2.toUInt32 >>> ((8 : Int32) &&& 31).toUInt32).toInt32))] [(.ref b17)]))
      have f58 := (f42.wr W49)
      obtain ⟨T59, X59, e59, st59⟩ := getS2 X49 hx hZ hown (host := "") (Or.inl (hw _ (List.mem_of_getElem? (i := 18) rfl))) Via.refl e49 f58 (g := (mkF m 37 #[.val (.ref pa), .val (.int (65536 : Int32)), .val (.ref b1), .val (.int (2 : Int32)), .val (.int ((pp2.toUInt32 >>> ((8 : Int32) &&& 31).toUInt32).toInt32))] [(.ref b17)])) rfl (hb hby own_dprog_30_method_4_code_37)
      refine own_st st59 ?_
      show own_Go p.tables e below RR (T59.setTop (mkF m 40 #[.val (.ref pa), .val (.int (65536 : Int32)), .val (.ref b1), .val (.int (2 : Int32)), .val (.int ((pp2.toUInt32 >>> ((8 : Int32) &&& 31).toUInt32).toInt32))] [(.ref ab), (.ref b17)]))
      refine own_st (fun _ k => Jvm.RoadKit.acmp (g := (mkF m 40 #[.val (.ref pa), .val (.int (65536 : Int32)), .val (.ref b1), .val (.int (2 : Int32)), .val (.int ((pp2.toUInt32 >>> ((8 : Int32) &&& 31).toUInt32).toInt32))] [(.ref ab), (.ref b17)])) X59 hx rfl rfl rfl (pc0 := 40) (pc' := 50) (same := false) rfl (hb hby own_dprog_30_method_4_code_40) rfl (decide_eq_false fun q => hc40_45 (Value.ref.inj q)) (by decide) (by decide) (XS.aloadN X59.here hx rfl (hb hby own_dprog_30_method_4_code_50) rfl rfl (XS.iload X59.here hx rfl (hb hby own_dprog_30_method_4_code_51) rfl k))) ?_
      show own_Go p.tables e below RR (T59.setTop (mkF m 53 #[.val (.ref pa), .val (.int (65536 : Int32)), .val (.ref b1), .val (.int (2 : Int32)), .val (.int ((pp2.toUInt32 >>> ((8 : Int32) &&& 31).toUInt32).toInt32))] [(.int ((pp2.toUInt32 >>> ((8 : Int32) &&& 31).toUInt32).toInt32)), (.ref b1)]))
      obtain ⟨c60, A60, q60, s60, m60, H60, G60⟩ := id f56
      have b60 := inb_of (j := ((pp2.toUInt32 >>> ((8 : Int32) &&& 31).toUInt32).toInt32)) s60 (own_i256 (own_hr hb2))
      refine own_st (fun _ k => X59.aaload hx (j := ((pp2.toUInt32 >>> ((8 : Int32) &&& 31).toUInt32).toInt32)) (v := (.ref b17)) (by rw [e59]; exact A60.1) (State.isArrayOf_alike hZ.alike A60.2.1) rfl A60.2.2 b60 (Has.at H60 b60 (own_hit (own_fl_len (Nat.le_refl 256) _ _) (own_ncl (own_hr hb0)) (congrArg Int32.toNatClampNeg hc33_55))) (g := (mkF m 53 #[.val (.ref pa), .val (.int (65536 : Int32)), .val (.ref b1), .val (.int (2 : Int32)), .val (.int ((pp2.toUInt32 >>> ((8 : Int32) &&& 31).toUInt32).toInt32))] [(.int ((pp2.toUInt32 >>> ((8 : Int32) &&& 31).toUInt32).toInt32)), (.ref b1)])) rfl rfl (hb hby own_dprog_30_method_4_code_53) _ (XS.aloadN X59.here hx rfl (hb hby own_dprog_30_method_4_code_54) rfl rfl (XS.iloadN X59.here hx rfl (hb hby own_dprog_30_method_4_code_55) rfl k))) ?_
      show own_Go p.tables e below RR (T59.setTop (mkF m 56 #[.val (.ref pa), .val (.int (65536 : Int32)), .val (.ref b1), .val (.int (2 : Int32)), .val (.int ((pp2.toUInt32 >>> ((8 : Int32) &&& 31).toUInt32).toInt32))] [(.int (2 : Int32)), (.ref pa), (.ref b17)]))
      obtain ⟨c61, A61, q61, s61, m61, H61, G61⟩ := id f52
      have b61 := inb_of (j := (2 : Int32)) s61 ⟨by decide, by decide⟩
      refine own_st (fun _ k => X59.iaload hx (j := (2 : Int32)) (v := (.int pp2)) (by rw [e59]; exact A61.1) (State.isArrayOf_alike hZ.alike A61.2.1) A61.2.2 b61 (Has.at H61 b61 rfl) (g := (mkF m 56 #[.val (.ref pa), .val (.int (65536 : Int32)), .val (.ref b1), .val (.int (2 : Int32)), .val (.int ((pp2.toUInt32 >>> ((8 : Int32) &&& 31).toUInt32).toInt32))] [(.int (2 : Int32)), (.ref pa), (.ref b17)])) rfl rfl (hb hby own_dprog_30_method_4_code_56) _ (XS.sipush X59.here hx rfl (hb hby own_dprog_30_method_4_code_57) (XS.iand X59.here hx rfl (hb hby own_dprog_30_method_4_code_60) rfl (XS.iloadN X59.here hx rfl (hb hby own_dprog_30_method_4_code_61) rfl k)))) ?_
      show own_Go p.tables e below RR (T59.setTop (mkF m 62 #[.val (.ref pa), .val (.int (65536 : Int32)), .val (.ref b1), .val (.int (2 : Int32)), .val (.int ((pp2.toUInt32 >>> ((8 : Int32) &&& 31).toUInt32).toInt32))] [(.int (2 : Int32)), (.int (pp2 &&& (255 : Int32))), (.ref b17)]))
      obtain ⟨c62, A62, q62, s62, m62, H62, G62⟩ := id V49
      obtain ⟨T63, h63, X63, e63, W63, st63⟩ := stI X59 hx hZ e59 A62 (j := (pp2 &&& (255 : Int32))) (inb_of s62 (own_i256 (own_lr _))) (g := (mkF m 62 #[.val (.ref pa), .val (.int (65536 : Int32)), .val (.ref b1), .val (.int (2 : Int32)), .val (.int ((pp2.toUInt32 >>> ((8 : Int32) &&& 31).toUInt32).toInt32))] [(.int (2 : Int32)), (.int (pp2 &&& (255 : Int32))), (.ref b17)])) rfl rfl (hb hby own_dprog_30_method_4_code_62)
      have U63 := Arv.set A62 q62 s62 m62 H62 G62 rfl W63 (pp2 &&& (255 : Int32)).toNatClampNeg rfl (by rw [(own_ls (own_ls (own_fl_len (Nat.le_refl 256) _ _)))]; exact own_ncl (own_lr _))
      have V63 : Arv Z h63 b17 kk18 .int (256 : Int32) ((((own_fl 256 256 (.int (-1 : Int32)) (.int (0 : Int32))).set (pp0 &&& (255 : Int32)).toNatClampNeg (.int (0 : Int32))).set (pp1 &&& (255 : Int32)).toNatClampNeg (.int (1 : Int32))).set (pp2 &&& (255 : Int32)).toNatClampNeg (.int (2 : Int32))) (.int (0 : Int32)) := U63
      have N63 := Fr.snoc X63 N49 ge17
      refine own_st st63 ?_
      have z64 : n0 ≤ h63.size := Nat.le_trans z50 (Keep.of_wr W63).1
      have kk65 : Keep h0 h63 [] := kk51.wr W63 (Or.inr sz17)
      show own_Go p.tables e below RR (T63.setTop (mkF m 63 #[.val (.ref pa), .val (.int (65536 : Int32)), .val (.ref b1), .val (.int (2 : Int32)), .val (.int ((pp2.toUInt32 >>> ((8 : Int32) &&& 31).toUInt32).toInt32))] []))
      refine own_st (fun _ k => XS.iinc X63.here hx rfl (hb hby own_dprog_30_method_4_code_63) rfl (l' := #[.val (.ref pa), .val (.int (65536 : Int32)), .val (.ref b1), .val (.int (3 : Int32)), .val (.int ((pp2.toUInt32 >>> ((8 : Int32) &&& 31).toUInt32).toInt32))]) rfl (XS.goto X63.here hx rfl (pc0 := 66) (pc' := 17) rfl (hb hby own_dprog_30_method_4_code_66) (by decide) (by decide) (XS.iloadN X63.here hx rfl (hb hby own_dprog_30_method_4_code_17) rfl (XS.aloadN X63.here hx rfl (hb hby own_dprog_30_method_4_code_18) rfl rfl k)))) ?_
      show own_Go p.tables e below RR (T63.setTop (mkF m 19 #[.val (.ref pa), .val (.int (65536 : Int32)), .val (.ref b1), .val (.int (3 : Int32)), .val (.int ((pp2.toUInt32 >>> ((8 : Int32) &&& 31).toUInt32).toInt32))] [(.ref pa), (.int (3 : Int32))]))
      have f66 := (f52.other W63 ne35)
      obtain ⟨c67, A67, -, s67, m67, -, -⟩ := id f66
      refine own_st (fun _ k => own_len X63 hx hZ e63 A67 s67 m67 (g := (mkF m 19 #[.val (.ref pa), .val (.int (65536 : Int32)), .val (.ref b1), .val (.int (3 : Int32)), .val (.int ((pp2.toUInt32 >>> ((8 : Int32) &&& 31).toUInt32).toInt32))] [(.ref pa), (.int (3 : Int32))])) rfl rfl (hb hby own_dprog_30_method_4_code_19) (XS.iconst X63.here hx rfl (hb hby own_dprog_30_method_4_code_20) (XS.isub X63.here hx rfl (hb hby own_dprog_30_method_4_code_21) rfl k))) ?_
      show own_Go p.tables e below RR (T63.setTop (mkF m 22 #[.val (.ref pa), .val (.int (65536 : Int32)), .val (.ref b1), .val (.int (3 : Int32)), .val (.int ((pp2.toUInt32 >>> ((8 : Int32) &&& 31).toUInt32).toInt32))] [(.int (3 : Int32)), (.int (3 : Int32))]))
      refine own_st (fun _ k => XS.icmpYes X63.here hx rfl (pc0 := 22) (pc' := 69) rfl (hb hby own_dprog_30_method_4_code_22) rfl (flt (by decide)).2.1 (by decide) (by decide) k) ?_
      show own_Go p.tables e below RR (T63.setTop (mkF m 69 #[.val (.ref pa), .val (.int (65536 : Int32)), .val (.ref b1), .val (.int (3 : Int32)), .val (.int ((pp2.toUInt32 >>> ((8 : Int32) &&& 31).toUInt32).toInt32))] []))
      by_cases hc69_68 : ((pp0.toUInt32 >>> ((8 : Int32) &&& 31).toUInt32).toInt32) = ((gc.toUInt32 >>> ((8 : Int32) &&& 31).toUInt32).toInt32)
      · show own_Go p.tables e below RR (T63.setTop (mkF m 69 #[.val (.ref pa), .val (.int (65536 : Int32)), .val (.ref b1), .val (.int (3 : Int32)), .val (.int ((pp2.toUInt32 >>> ((8 : Int32) &&& 31).toUInt32).toInt32))] []))
        refine own_st (fun _ k => XS.aloadN X63.here hx rfl (hb hby own_dprog_30_method_4_code_69) rfl rfl k) ?_
        show own_Go p.tables e below RR (T63.setTop (mkF m 70 #[.val (.ref pa), .val (.int (65536 : Int32)), .val (.ref b1), .val (.int (3 : Int32)), .val (.int ((pp2.toUInt32 >>> ((8 : Int32) &&& 31).toUInt32).toInt32))] [(.ref b1)]))
        obtain ⟨fs, hrt_, hrun, hended, hW, hsame⟩ := X63.leave (v := some (.ref b1)) (fun h => by rw [Bd.returns] at h; cases h)
        refine own_fin (retOut X63 hx Bd.returns rfl (Or.inr (Or.inr (Or.inr (Or.inr ⟨rfl, rfl, rfl⟩)))) (hb hby own_dprog_30_method_4_code_70) hrt_) (hRR _ ⟨_, hrun, hended, _, _, rfl, ?_, ⟨_, rfl⟩, hW, hsame.mono (by decide) (by decide)⟩)
        show own_QLP Z pa kp pp0 pp1 pp2 pp3 ab kb gc h0 n0 _ T63.heap _
        rw [e63]
        have f69 := (f56.other W63 ne29)
        exact ⟨_, rfl, N63, kk65, _, _, b17, _, _, f69, (own_hit (own_fl_len (Nat.le_refl 256) _ _) (own_ncl (own_hr hb0)) (congrArg Int32.toNatClampNeg hc69_68.symm)), V63, (own_on hb2 hbc (hc33_55.trans hc69_68) (own_ls (own_ls (own_fl_len (Nat.le_refl 256) _ _))) (own_on hb1 hbc (hc33_39.trans hc69_68) (own_ls (own_fl_len (Nat.le_refl 256) _ _)) (own_on hb0 hbc hc69_68 (own_fl_len (Nat.le_refl 256) _ _) (own_flg (own_ncl (own_lr gc)) _ _ _))))⟩
      · show own_Go p.tables e below RR (T63.setTop (mkF m 69 #[.val (.ref pa), .val (.int (65536 : Int32)), .val (.ref b1), .val (.int (3 : Int32)), .val (.int ((pp2.toUInt32 >>> ((8 : Int32) &&& 31).toUInt32).toInt32))] []))
        refine own_st (fun _ k => XS.aloadN X63.here hx rfl (hb hby own_dprog_30_method_4_code_69) rfl rfl k) ?_
        show own_Go p.tables e below RR (T63.setTop (mkF m 70 #[.val (.ref pa), .val (.int (65536 : Int32)), .val (.ref b1), .val (.int (3 : Int32)), .val (.int ((pp2.toUInt32 >>> ((8 : Int32) &&& 31).toUInt32).toInt32))] [(.ref b1)]))
        obtain ⟨fs, hrt_, hrun, hended, hW, hsame⟩ := X63.leave (v := some (.ref b1)) (fun h => by rw [Bd.returns] at h; cases h)
        refine own_fin (retOut X63 hx Bd.returns rfl (Or.inr (Or.inr (Or.inr (Or.inr ⟨rfl, rfl, rfl⟩)))) (hb hby own_dprog_30_method_4_code_70) hrt_) (hRR _ ⟨_, hrun, hended, _, _, rfl, ?_, ⟨_, rfl⟩, hW, hsame.mono (by decide) (by decide)⟩)
        show own_QLP Z pa kp pp0 pp1 pp2 pp3 ab kb gc h0 n0 _ T63.heap _
        rw [e63]
        have f70 := (f56.other W63 ne29)
        have ne71 : ab ≠ b1 := (Nat.ne_of_lt (Nat.lt_of_lt_of_le Ea.lt (Nat.le_of_eq gb1.symm)))
        have f72 := (((((((Vab.ext E1).keep Kq7 (ninS ne71 nin0)).keep Kq18 nin0).other W23 ne71).other W32 ne44).other W49 ne44).other W63 ne44)
        exact ⟨_, rfl, N63, kk65, _, _, ab, _, _, f70, (own_miss (own_ncne (own_hr hbc).1 (own_hr hb0).1 (fun q => hc69_68 q.symm)) (own_flg (own_ncl (own_hr hbc)) _ _ _)), f72, (own_off (fun q => hc69_68 (hc33_55.symm.trans q)) (own_off (fun q => hc69_68 (hc33_39.symm.trans q)) (own_off hc69_68 (own_flg (own_ncl (own_lr gc)) _ _ _))))⟩
    · show own_Go p.tables e below RR (T49.setTop (mkF m 33 #[.val (.ref pa), .val (.int (65536 : Int32)), .val (.ref b1), .val (.int (2 : Int32)), .val (.int ((pp2.toUInt32 >>> ((8 : Int32) &&& 31).toUInt32).toInt32))] []))
      refine own_st (fun _ k => XS.aloadN X49.here hx rfl (hb hby own_dprog_30_method_4_code_33) rfl rfl (XS.iload X49.here hx rfl (hb hby own_dprog_30_method_4_code_34) rfl k)) ?_
      show own_Go p.tables e below RR (T49.setTop (mkF m 36 #[.val (.ref pa), .val (.int (65536 : Int32)), .val (.ref b1), .val (.int (2 : Int32)), .val (.int ((pp2.toUInt32 >>> ((8 : Int32) &&& 31).toUInt32).toInt32))] [(.int ((pp2.toUInt32 >>> ((8 : Int32) &&& 31).toUInt32).toInt32)), (.ref b1)]))
      have f73 := (f40.other W49 ne29)
      obtain ⟨c74, A74, q74, s74, m74, H74, G74⟩ := id f73
      have b74 := inb_of (j := ((pp2.toUInt32 >>> ((8 : Int32) &&& 31).toUInt32).toInt32)) s74 (own_i256 (own_hr hb2))
      refine own_st (fun _ k => X49.aaload hx (j := ((pp2.toUInt32 >>> ((8 : Int32) &&& 31).toUInt32).toInt32)) (v := (.ref ab)) (by rw [e49]; exact A74.1) (State.isArrayOf_alike hZ.alike A74.2.1) rfl A74.2.2 b74 (Has.at H74 b74 (own_miss (own_ncne (own_hr hb2).1 (own_hr hb0).1 hc33_55) (own_flg (own_ncl (own_hr hb2)) _ _ _))) (g := (mkF m 36 #[.val (.ref pa), .val (.int (65536 : Int32)), .val (.ref b1), .val (.int (2 : Int32)), .val (.int ((pp2.toUInt32 >>> ((8 : Int32) &&& 31).toUInt32).toInt32))] [(.int ((pp2.toUInt32 >>> ((8 : Int32) &&& 31).toUInt32).toInt32)), (.ref b1)])) rfl rfl (hb hby own_dprog_30_method_4_code_36) _ k) ?_
      show own_Go p.tables e below RR (T49.setTop (mkF m 37 #[.val (.ref pa), .val (.int (65536 : Int32)), .val (.ref b1), .val (.int (2 : Int32)), .val (.int ((pp2.toUInt32 >>> ((8 : Int32) &&& 31).toUInt32).toInt32))] [(.ref ab)]))
      have f75 := (f42.wr W49)
      obtain ⟨T76, X76, e76, st76⟩ := getS2 X49 hx hZ hown (host := "") (Or.inl (hw _ (List.mem_of_getElem? (i := 18) rfl))) Via.refl e49 f75 (g := (mkF m 37 #[.val (.ref pa), .val (.int (65536 : Int32)), .val (.ref b1), .val (.int (2 : Int32)), .val (.int ((pp2.toUInt32 >>> ((8 : Int32) &&& 31).toUInt32).toInt32))] [(.ref ab)])) rfl (hb hby own_dprog_30_method_4_code_37)
      refine own_st st76 ?_
      show own_Go p.tables e below RR (T76.setTop (mkF m 40 #[.val (.ref pa), .val (.int (65536 : Int32)), .val (.ref b1), .val (.int (2 : Int32)), .val (.int ((pp2.toUInt32 >>> ((8 : Int32) &&& 31).toUInt32).toInt32))] [(.ref ab), (.ref ab)]))
      refine own_st (fun _ k => Jvm.RoadKit.acmp (g := (mkF m 40 #[.val (.ref pa), .val (.int (65536 : Int32)), .val (.ref b1), .val (.int (2 : Int32)), .val (.int ((pp2.toUInt32 >>> ((8 : Int32) &&& 31).toUInt32).toInt32))] [(.ref ab), (.ref ab)])) X76 hx rfl rfl rfl (pc0 := 40) (pc' := 43) (same := true) rfl (hb hby own_dprog_30_method_4_code_40) rfl (decide_eq_true rfl) (by decide) (by decide) (XS.aloadN X76.here hx rfl (hb hby own_dprog_30_method_4_code_43) rfl rfl (XS.iload X76.here hx rfl (hb hby own_dprog_30_method_4_code_44) rfl k))) ?_
      show own_Go p.tables e below RR (T76.setTop (mkF m 46 #[.val (.ref pa), .val (.int (65536 : Int32)), .val (.ref b1), .val (.int (2 : Int32)), .val (.int ((pp2.toUInt32 >>> ((8 : Int32) &&& 31).toUInt32).toInt32))] [(.int ((pp2.toUInt32 >>> ((8 : Int32) &&& 31).toUInt32).toInt32)), (.ref b1)]))
      obtain ⟨b77, gb77⟩ : ∃ z, z = h49.size := ⟨_, rfl⟩
      have ge77 : n0 ≤ b77 := Nat.le_trans z50 (Nat.le_of_eq gb77.symm)
      have sz77 : h0.size ≤ b77 := Nat.le_trans kk51.1 (Nat.le_of_eq gb77.symm)
      obtain ⟨_, _, ⟨T78, L78, k78, n78⟩, -, X78, ⟨Lc78, hQ78, l78, y78, z78⟩, st78⟩ := Jvm.LawKit.callS X76 hx (y := (⟨"com/example/shiftwise/shiftwise/search/BoyerMooreTables", "absentPage", "()[I"⟩ : MethodName)) hown (mvT hZ (hw _ (List.mem_of_getElem? (i := 25) rfl))) (mvT hZ (hw _ (List.mem_of_getElem? (i := 26) rfl))) (mvT hZ (hw _ (List.mem_of_getElem? (i := 5) rfl))) (mvT hZ (hw _ (List.mem_of_getElem? (i := 27) rfl))) (by decide) (backOf (W := 2) (own_rmAP l Z a0 hw [] b77 h49 n0 z50 gb77) hZ (hw _ (List.mem_of_getElem? (i := 27) rfl)) (hw _ (List.mem_of_getElem? (i := 5) rfl)) (by decide) (by decide)) (g := (mkF m 46 #[.val (.ref pa), .val (.int (65536 : Int32)), .val (.ref b1), .val (.int (2 : Int32)), .val (.int ((pp2.toUInt32 >>> ((8 : Int32) &&& 31).toUInt32).toInt32))] [(.int ((pp2.toUInt32 >>> ((8 : Int32) &&& 31).toUInt32).toInt32)), (.ref b1)])) rfl (by rw [hml]; rfl) (argsL := []) (rest := [(.int ((pp2.toUInt32 >>> ((8 : Int32) &&& 31).toUInt32).toInt32)), (.ref b1)]) (lenOf own_pd____I rfl) rfl (by show 2 * 0 + _ ≤ _; exact Nat.le_of_eq rfl) (hb hby own_dprog_30_method_4_code_46) (fun _ _ => ⟨rfl, e76, (by decide : 2 + 1 ≤ _), (by decide : 512 + 256 ≤ _)⟩)
      dsimp only [Pt.U, Pt.locs, Pt.cells, Pt.slots] at X78 l78 y78 z78 st78 hQ78
      subst l78 y78 z78
      obtain ⟨rfl, Nq78, Kq78, Eq78, kk78, Vq78⟩ := hQ78
      have N78 := Fr.app N49 Nq78
      refine own_st st78 ?_
      have z79 : n0 ≤ T78.heap.size := Nat.le_trans z50 Kq78.1
      have kk80 : Keep h0 T78.heap [] := kk51.trans Kq78 all0
      show own_Go p.tables e below RR (T78.setTop (mkF m 49 #[.val (.ref pa), .val (.int (65536 : Int32)), .val (.ref b1), .val (.int (2 : Int32)), .val (.int ((pp2.toUInt32 >>> ((8 : Int32) &&& 31).toUInt32).toInt32))] [(.ref b77), (.int ((pp2.toUInt32 >>> ((8 : Int32) &&& 31).toUInt32).toInt32)), (.ref b1)]))
      have f81 := (f73.keep Kq78 nin0)
      obtain ⟨c82, A82, q82, s82, m82, H82, G82⟩ := id f81
      obtain ⟨T83, h83, X83, e83, W83, st83⟩ := stR X78 hx hZ rfl A82 (j := ((pp2.toUInt32 >>> ((8 : Int32) &&& 31).toUInt32).toInt32)) (inb_of s82 (own_i256 (own_hr hb2))) rfl (Sto.ofVA A82 q82 O1 (Ins.self Eq78)) (g := (mkF m 49 #[.val (.ref pa), .val (.int (65536 : Int32)), .val (.ref b1), .val (.int (2 : Int32)), .val (.int ((pp2.toUInt32 >>> ((8 : Int32) &&& 31).toUInt32).toInt32))] [(.ref b77), (.int ((pp2.toUInt32 >>> ((8 : Int32) &&& 31).toUInt32).toInt32)), (.ref b1)])) rfl rfl (hb hby own_dprog_30_method_4_code_49)
      have U83 := Arv.set A82 q82 s82 m82 H82 G82 rfl W83 ((pp2.toUInt32 >>> ((8 : Int32) &&& 31).toUInt32).toInt32).toNatClampNeg rfl (by rw [(own_ls (own_fl_len (Nat.le_refl 256) _ _))]; exact own_ncl (own_hr hb2))
      have V83 : Arv Z h83 b1 k1 (.array .int) (256 : Int32) (((own_fl 256 256 (.ref ab) .null).set ((pp0.toUInt32 >>> ((8 : Int32) &&& 31).toUInt32).toInt32).toNatClampNeg (.ref b17)).set ((pp2.toUInt32 >>> ((8 : Int32) &&& 31).toUInt32).toInt32).toNatClampNeg (.ref b77)) .null := U83
      have N83 := Fr.snoc X83 N78 ge1
      refine own_st st83 ?_
      have z84 : n0 ≤ h83.size := Nat.le_trans z79 (Keep.of_wr W83).1
      have kk85 : Keep h0 h83 [] := kk80.wr W83 (Or.inr sz1)
      show own_Go p.tables e below RR (T83.setTop (mkF m 50 #[.val (.ref pa), .val (.int (65536 : Int32)), .val (.ref b1), .val (.int (2 : Int32)), .val (.int ((pp2.toUInt32 >>> ((8 : Int32) &&& 31).toUInt32).toInt32))] []))
      refine own_st (fun _ k => XS.aloadN X83.here hx rfl (hb hby own_dprog_30_method_4_code_50) rfl rfl (XS.iload X83.here hx rfl (hb hby own_dprog_30_method_4_code_51) rfl k)) ?_
      show own_Go p.tables e below RR (T83.setTop (mkF m 53 #[.val (.ref pa), .val (.int (65536 : Int32)), .val (.ref b1), .val (.int (2 : Int32)), .val (.int ((pp2.toUInt32 >>> ((8 : Int32) &&& 31).toUInt32).toInt32))] [(.int ((pp2.toUInt32 >>> ((8 : Int32) &&& 31).toUInt32).toInt32)), (.ref b1)]))
      obtain ⟨c86, A86, q86, s86, m86, H86, G86⟩ := id V83
      have b86 := inb_of (j := ((pp2.toUInt32 >>> ((8 : Int32) &&& 31).toUInt32).toInt32)) s86 (own_i256 (own_hr hb2))
      refine own_st (fun _ k => X83.aaload hx (j := ((pp2.toUInt32 >>> ((8 : Int32) &&& 31).toUInt32).toInt32)) (v := (.ref b77)) (by rw [e83]; exact A86.1) (State.isArrayOf_alike hZ.alike A86.2.1) rfl A86.2.2 b86 (Has.at H86 b86 (own_hit (own_ls (own_fl_len (Nat.le_refl 256) _ _)) (own_ncl (own_hr hb2)) (congrArg Int32.toNatClampNeg rfl))) (g := (mkF m 53 #[.val (.ref pa), .val (.int (65536 : Int32)), .val (.ref b1), .val (.int (2 : Int32)), .val (.int ((pp2.toUInt32 >>> ((8 : Int32) &&& 31).toUInt32).toInt32))] [(.int ((pp2.toUInt32 >>> ((8 : Int32) &&& 31).toUInt32).toInt32)), (.ref b1)])) rfl rfl (hb hby own_dprog_30_method_4_code_53) _ (XS.aloadN X83.here hx rfl (hb hby own_dprog_30_method_4_code_54) rfl rfl (XS.iloadN X83.here hx rfl (hb hby own_dprog_30_method_4_code_55) rfl k))) ?_
      show own_Go p.tables e below RR (T83.setTop (mkF m 56 #[.val (.ref pa), .val (.int (65536 : Int32)), .val (.ref b1), .val (.int (2 : Int32)), .val (.int ((pp2.toUInt32 >>> ((8 : Int32) &&& 31).toUInt32).toInt32))] [(.int (2 : Int32)), (.ref pa), (.ref b77)]))
      have f87 := ((f52.keep Kq78 nin0).other W83 ne10)
      obtain ⟨c88, A88, q88, s88, m88, H88, G88⟩ := id f87
      have b88 := inb_of (j := (2 : Int32)) s88 ⟨by decide, by decide⟩
      refine own_st (fun _ k => X83.iaload hx (j := (2 : Int32)) (v := (.int pp2)) (by rw [e83]; exact A88.1) (State.isArrayOf_alike hZ.alike A88.2.1) A88.2.2 b88 (Has.at H88 b88 rfl) (g := (mkF m 56 #[.val (.ref pa), .val (.int (65536 : Int32)), .val (.ref b1), .val (.int (2 : Int32)), .val (.int ((pp2.toUInt32 >>> ((8 : Int32) &&& 31).toUInt32).toInt32))] [(.int (2 : Int32)), (.ref pa), (.ref b77)])) rfl rfl (hb hby own_dprog_30_method_4_code_56) _ (XS.sipush X83.here hx rfl (hb hby own_dprog_30_method_4_code_57) (XS.iand X83.here hx rfl (hb hby own_dprog_30_method_4_code_60) rfl (XS.iloadN X83.here hx rfl (hb hby own_dprog_30_method_4_code_61) rfl k)))) ?_
      show own_Go p.tables e below RR (T83.setTop (mkF m 62 #[.val (.ref pa), .val (.int (65536 : Int32)), .val (.ref b1), .val (.int (2 : Int32)), .val (.int ((pp2.toUInt32 >>> ((8 : Int32) &&& 31).toUInt32).toInt32))] [(.int (2 : Int32)), (.int (pp2 &&& (255 : Int32))), (.ref b77)]))
      have ne89 : b1 ≠ b77 := (Nat.ne_of_lt (Nat.lt_of_lt_of_le (((((B1.keep Kq7).keep Kq18).wr W23).wr W32).wr W49).lt (Nat.le_of_eq gb77.symm)))
      have f90 := (Vq78.other W83 (Ne.symm ne89))
      obtain ⟨c91, A91, q91, s91, m91, H91, G91⟩ := id f90
      obtain ⟨T92, h92, X92, e92, W92, st92⟩ := stI X83 hx hZ e83 A91 (j := (pp2 &&& (255 : Int32))) (inb_of s91 (own_i256 (own_lr _))) (g := (mkF m 62 #[.val (.ref pa), .val (.int (65536 : Int32)), .val (.ref b1), .val (.int (2 : Int32)), .val (.int ((pp2.toUInt32 >>> ((8 : Int32) &&& 31).toUInt32).toInt32))] [(.int (2 : Int32)), (.int (pp2 &&& (255 : Int32))), (.ref b77)])) rfl rfl (hb hby own_dprog_30_method_4_code_62)
      have U92 := Arv.set A91 q91 s91 m91 H91 G91 rfl W92 (pp2 &&& (255 : Int32)).toNatClampNeg rfl (by rw [(own_fl_len (Nat.le_refl 256) _ _)]; exact own_ncl (own_lr _))
      have V92 : Arv Z h92 b77 kk78 .int (256 : Int32) ((own_fl 256 256 (.int (-1 : Int32)) (.int (0 : Int32))).set (pp2 &&& (255 : Int32)).toNatClampNeg (.int (2 : Int32))) (.int (0 : Int32)) := U92
      have N92 := Fr.snoc X92 N83 ge77
      refine own_st st92 ?_
      have z93 : n0 ≤ h92.size := Nat.le_trans z84 (Keep.of_wr W92).1
      have kk94 : Keep h0 h92 [] := kk85.wr W92 (Or.inr sz77)
      show own_Go p.tables e below RR (T92.setTop (mkF m 63 #[.val (.ref pa), .val (.int (65536 : Int32)), .val (.ref b1), .val (.int (2 : Int32)), .val (.int ((pp2.toUInt32 >>> ((8 : Int32) &&& 31).toUInt32).toInt32))] []))
      refine own_st (fun _ k => XS.iinc X92.here hx rfl (hb hby own_dprog_30_method_4_code_63) rfl (l' := #[.val (.ref pa), .val (.int (65536 : Int32)), .val (.ref b1), .val (.int (3 : Int32)), .val (.int ((pp2.toUInt32 >>> ((8 : Int32) &&& 31).toUInt32).toInt32))]) rfl (XS.goto X92.here hx rfl (pc0 := 66) (pc' := 17) rfl (hb hby own_dprog_30_method_4_code_66) (by decide) (by decide) (XS.iloadN X92.here hx rfl (hb hby own_dprog_30_method_4_code_17) rfl (XS.aloadN X92.here hx rfl (hb hby own_dprog_30_method_4_code_18) rfl rfl k)))) ?_
      show own_Go p.tables e below RR (T92.setTop (mkF m 19 #[.val (.ref pa), .val (.int (65536 : Int32)), .val (.ref b1), .val (.int (3 : Int32)), .val (.int ((pp2.toUInt32 >>> ((8 : Int32) &&& 31).toUInt32).toInt32))] [(.ref pa), (.int (3 : Int32))]))
      have ne95 : pa ≠ b77 := (Nat.ne_of_lt (Nat.lt_of_lt_of_le f52.lt (Nat.le_of_eq gb77.symm)))
      have f96 := (f87.other W92 ne95)
      obtain ⟨c97, A97, -, s97, m97, -, -⟩ := id f96
      refine own_st (fun _ k => own_len X92 hx hZ e92 A97 s97 m97 (g := (mkF m 19 #[.val (.ref pa), .val (.int (65536 : Int32)), .val (.ref b1), .val (.int (3 : Int32)), .val (.int ((pp2.toUInt32 >>> ((8 : Int32) &&& 31).toUInt32).toInt32))] [(.ref pa), (.int (3 : Int32))])) rfl rfl (hb hby own_dprog_30_method_4_code_19) (XS.iconst X92.here hx rfl (hb hby own_dprog_30_method_4_code_20) (XS.isub X92.here hx rfl (hb hby own_dprog_30_method_4_code_21) rfl k))) ?_
      show own_Go p.tables e below RR (T92.setTop (mkF m 22 #[.val (.ref pa), .val (.int (65536 : Int32)), .val (.ref b1), .val (.int (3 : Int32)), .val (.int ((pp2.toUInt32 >>> ((8 : Int32) &&& 31).toUInt32).toInt32))] [(.int (3 : Int32)), (.int (3 : Int32))]))
      refine own_st (fun _ k => XS.icmpYes X92.here hx rfl (pc0 := 22) (pc' := 69) rfl (hb hby own_dprog_30_method_4_code_22) rfl (flt (by decide)).2.1 (by decide) (by decide) k) ?_
      show own_Go p.tables e below RR (T92.setTop (mkF m 69 #[.val (.ref pa), .val (.int (65536 : Int32)), .val (.ref b1), .val (.int (3 : Int32)), .val (.int ((pp2.toUInt32 >>> ((8 : Int32) &&& 31).toUInt32).toInt32))] []))
      by_cases hc69_98 : ((pp2.toUInt32 >>> ((8 : Int32) &&& 31).toUInt32).toInt32) = ((gc.toUInt32 >>> ((8 : Int32) &&& 31).toUInt32).toInt32)
      · show own_Go p.tables e below RR (T92.setTop (mkF m 69 #[.val (.ref pa), .val (.int (65536 : Int32)), .val (.ref b1), .val (.int (3 : Int32)), .val (.int ((pp2.toUInt32 >>> ((8 : Int32) &&& 31).toUInt32).toInt32))] []))
        refine own_st (fun _ k => XS.aloadN X92.here hx rfl (hb hby own_dprog_30_method_4_code_69) rfl rfl k) ?_
        show own_Go p.tables e below RR (T92.setTop (mkF m 70 #[.val (.ref pa), .val (.int (65536 : Int32)), .val (.ref b1), .val (.int (3 : Int32)), .val (.int ((pp2.toUInt32 >>> ((8 : Int32) &&& 31).toUInt32).toInt32))] [(.ref b1)]))
        obtain ⟨fs, hrt_, hrun, hended, hW, hsame⟩ := X92.leave (v := some (.ref b1)) (fun h => by rw [Bd.returns] at h; cases h)
        refine own_fin (retOut X92 hx Bd.returns rfl (Or.inr (Or.inr (Or.inr (Or.inr ⟨rfl, rfl, rfl⟩)))) (hb hby own_dprog_30_method_4_code_70) hrt_) (hRR _ ⟨_, hrun, hended, _, _, rfl, ?_, ⟨_, rfl⟩, hW, hsame.mono (by decide) (by decide)⟩)
        show own_QLP Z pa kp pp0 pp1 pp2 pp3 ab kb gc h0 n0 _ T92.heap _
        rw [e92]
        have f99 := (V83.other W92 ne89)
        exact ⟨_, rfl, N92, kk94, _, _, b77, _, _, f99, (own_hit (own_ls (own_fl_len (Nat.le_refl 256) _ _)) (own_ncl (own_hr hb2)) (congrArg Int32.toNatClampNeg hc69_98.symm)), V92, (own_on hb2 hbc hc69_98 (own_fl_len (Nat.le_refl 256) _ _) (own_off (fun q => (fun q => hc33_55 (hc69_98.trans q.symm)) (hc33_39.symm.trans q)) (own_off (fun q => hc33_55 (hc69_98.trans q.symm)) (own_flg (own_ncl (own_lr gc)) _ _ _))))⟩
      · by_cases hc69_100 : ((pp0.toUInt32 >>> ((8 : Int32) &&& 31).toUInt32).toInt32) = ((gc.toUInt32 >>> ((8 : Int32) &&& 31).toUInt32).toInt32)
        · show own_Go p.tables e below RR (T92.setTop (mkF m 69 #[.val (.ref pa), .val (.int (65536 : Int32)), .val (.ref b1), .val (.int (3 : Int32)), .val (.int ((pp2.toUInt32 >>> ((8 : Int32) &&& 31).toUInt32).toInt32))] []))
          refine own_st (fun _ k => XS.aloadN X92.here hx rfl (hb hby own_dprog_30_method_4_code_69) rfl rfl k) ?_
          show own_Go p.tables e below RR (T92.setTop (mkF m 70 #[.val (.ref pa), .val (.int (65536 : Int32)), .val (.ref b1), .val (.int (3 : Int32)), .val (.int ((pp2.toUInt32 >>> ((8 : Int32) &&& 31).toUInt32).toInt32))] [(.ref b1)]))
          obtain ⟨fs, hrt_, hrun, hended, hW, hsame⟩ := X92.leave (v := some (.ref b1)) (fun h => by rw [Bd.returns] at h; cases h)
          refine own_fin (retOut X92 hx Bd.returns rfl (Or.inr (Or.inr (Or.inr (Or.inr ⟨rfl, rfl, rfl⟩)))) (hb hby own_dprog_30_method_4_code_70) hrt_) (hRR _ ⟨_, hrun, hended, _, _, rfl, ?_, ⟨_, rfl⟩, hW, hsame.mono (by decide) (by decide)⟩)
          show own_QLP Z pa kp pp0 pp1 pp2 pp3 ab kb gc h0 n0 _ T92.heap _
          rw [e92]
          have f101 := (V83.other W92 ne89)
          have ne102 : b17 ≠ b77 := (Nat.ne_of_lt (Nat.lt_of_lt_of_le (((Eq18.wr W23).wr W32).wr W49).lt (Nat.le_of_eq gb77.symm)))
          have f103 := (((V49.keep Kq78 nin0).other W83 (Ne.symm ne29)).other W92 ne102)
          exact ⟨_, rfl, N92, kk94, _, _, b17, _, _, f101, (own_miss (own_ncne (own_hr hbc).1 (own_hr hb2).1 (fun q => hc69_98 q.symm)) (own_hit (own_fl_len (Nat.le_refl 256) _ _) (own_ncl (own_hr hb0)) (congrArg Int32.toNatClampNeg hc69_100.symm))), f103, (own_off hc69_98 (own_on hb1 hbc (hc33_39.trans hc69_100) (own_ls (own_fl_len (Nat.le_refl 256) _ _)) (own_on hb0 hbc hc69_100 (own_fl_len (Nat.le_refl 256) _ _) (own_flg (own_ncl (own_lr gc)) _ _ _))))⟩
        · show own_Go p.tables e below RR (T92.setTop (mkF m 69 #[.val (.ref pa), .val (.int (65536 : Int32)), .val (.ref b1), .val (.int (3 : Int32)), .val (.int ((pp2.toUInt32 >>> ((8 : Int32) &&& 31).toUInt32).toInt32))] []))
          refine own_st (fun _ k => XS.aloadN X92.here hx rfl (hb hby own_dprog_30_method_4_code_69) rfl rfl k) ?_
          show own_Go p.tables e below RR (T92.setTop (mkF m 70 #[.val (.ref pa), .val (.int (65536 : Int32)), .val (.ref b1), .val (.int (3 : Int32)), .val (.int ((pp2.toUInt32 >>> ((8 : Int32) &&& 31).toUInt32).toInt32))] [(.ref b1)]))
          obtain ⟨fs, hrt_, hrun, hended, hW, hsame⟩ := X92.leave (v := some (.ref b1)) (fun h => by rw [Bd.returns] at h; cases h)
          refine own_fin (retOut X92 hx Bd.returns rfl (Or.inr (Or.inr (Or.inr (Or.inr ⟨rfl, rfl, rfl⟩)))) (hb hby own_dprog_30_method_4_code_70) hrt_) (hRR _ ⟨_, hrun, hended, _, _, rfl, ?_, ⟨_, rfl⟩, hW, hsame.mono (by decide) (by decide)⟩)
          show own_QLP Z pa kp pp0 pp1 pp2 pp3 ab kb gc h0 n0 _ T92.heap _
          rw [e92]
          have f104 := (V83.other W92 ne89)
          have ne105 : ab ≠ b1 := (Nat.ne_of_lt (Nat.lt_of_lt_of_le Ea.lt (Nat.le_of_eq gb1.symm)))
          have ne106 : ab ≠ b77 := (Nat.ne_of_lt (Nat.lt_of_lt_of_le (((((f6.keep Kq7).keep Kq18).wr W23).wr W32).wr W49).lt (Nat.le_of_eq gb77.symm)))
          have f107 := (((((((((Vab.ext E1).keep Kq7 (ninS ne105 nin0)).keep Kq18 nin0).other W23 ne105).other W32 ne44).other W49 ne44).keep Kq78 nin0).other W83 ne105).other W92 ne106)
          exact ⟨_, rfl, N92, kk94, _, _, ab, _, _, f104, (own_miss (own_ncne (own_hr hbc).1 (own_hr hb2).1 (fun q => hc69_98 q.symm)) (own_miss (own_ncne (own_hr hbc).1 (own_hr hb0).1 (fun q => hc69_100 q.symm)) (own_flg (own_ncl (own_hr hbc)) _ _ _))), f107, (own_off hc69_98 (own_off (fun q => hc69_100 (hc33_39.symm.trans q)) (own_off hc69_100 (own_flg (own_ncl (own_lr gc)) _ _ _))))⟩
  · show own_Go p.tables e below RR (T32.setTop (mkF m 33 #[.val (.ref pa), .val (.int (65536 : Int32)), .val (.ref b1), .val (.int (1 : Int32)), .val (.int ((pp1.toUInt32 >>> ((8 : Int32) &&& 31).toUInt32).toInt32))] []))
    refine own_st (fun _ k => XS.aloadN X32.here hx rfl (hb hby own_dprog_30_method_4_code_33) rfl rfl (XS.iload X32.here hx rfl (hb hby own_dprog_30_method_4_code_34) rfl k)) ?_
    show own_Go p.tables e below RR (T32.setTop (mkF m 36 #[.val (.ref pa), .val (.int (65536 : Int32)), .val (.ref b1), .val (.int (1 : Int32)), .val (.int ((pp1.toUInt32 >>> ((8 : Int32) &&& 31).toUInt32).toInt32))] [(.int ((pp1.toUInt32 >>> ((8 : Int32) &&& 31).toUInt32).toInt32)), (.ref b1)]))
    have f108 := (V23.other W32 ne29)
    obtain ⟨c109, A109, q109, s109, m109, H109, G109⟩ := id f108
    have b109 := inb_of (j := ((pp1.toUInt32 >>> ((8 : Int32) &&& 31).toUInt32).toInt32)) s109 (own_i256 (own_hr hb1))
    refine own_st (fun _ k => X32.aaload hx (j := ((pp1.toUInt32 >>> ((8 : Int32) &&& 31).toUInt32).toInt32)) (v := (.ref ab)) (by rw [e32]; exact A109.1) (State.isArrayOf_alike hZ.alike A109.2.1) rfl A109.2.2 b109 (Has.at H109 b109 (own_miss (own_ncne (own_hr hb1).1 (own_hr hb0).1 hc33_39) (own_flg (own_ncl (own_hr hb1)) _ _ _))) (g := (mkF m 36 #[.val (.ref pa), .val (.int (65536 : Int32)), .val (.ref b1), .val (.int (1 : Int32)), .val (.int ((pp1.toUInt32 >>> ((8 : Int32) &&& 31).toUInt32).toInt32))] [(.int ((pp1.toUInt32 >>> ((8 : Int32) &&& 31).toUInt32).toInt32)), (.ref b1)])) rfl rfl (hb hby own_dprog_30_method_4_code_36) _ k) ?_
    show own_Go p.tables e below RR (T32.setTop (mkF m 37 #[.val (.ref pa), .val (.int (65536 : Int32)), .val (.ref b1), .val (.int (1 : Int32)), .val (.int ((pp1.toUInt32 >>> ((8 : Int32) &&& 31).toUInt32).toInt32))] [(.ref ab)]))
    have f110 := (((own_staK f15 Kq18 all0).wr W23).wr W32)
    obtain ⟨T111, X111, e111, st111⟩ := getS2 X32 hx hZ hown (host := "") (Or.inl (hw _ (List.mem_of_getElem? (i := 18) rfl))) Via.refl e32 f110 (g := (mkF m 37 #[.val (.ref pa), .val (.int (65536 : Int32)), .val (.ref b1), .val (.int (1 : Int32)), .val (.int ((pp1.toUInt32 >>> ((8 : Int32) &&& 31).toUInt32).toInt32))] [(.ref ab)])) rfl (hb hby own_dprog_30_method_4_code_37)
    refine own_st st111 ?_
    show own_Go p.tables e below RR (T111.setTop (mkF m 40 #[.val (.ref pa), .val (.int (65536 : Int32)), .val (.ref b1), .val (.int (1 : Int32)), .val (.int ((pp1.toUInt32 >>> ((8 : Int32) &&& 31).toUInt32).toInt32))] [(.ref ab), (.ref ab)]))
    refine own_st (fun _ k => Jvm.RoadKit.acmp (g := (mkF m 40 #[.val (.ref pa), .val (.int (65536 : Int32)), .val (.ref b1), .val (.int (1 : Int32)), .val (.int ((pp1.toUInt32 >>> ((8 : Int32) &&& 31).toUInt32).toInt32))] [(.ref ab), (.ref ab)])) X111 hx rfl rfl rfl (pc0 := 40) (pc' := 43) (same := true) rfl (hb hby own_dprog_30_method_4_code_40) rfl (decide_eq_true rfl) (by decide) (by decide) (XS.aloadN X111.here hx rfl (hb hby own_dprog_30_method_4_code_43) rfl rfl (XS.iload X111.here hx rfl (hb hby own_dprog_30_method_4_code_44) rfl k))) ?_
    show own_Go p.tables e below RR (T111.setTop (mkF m 46 #[.val (.ref pa), .val (.int (65536 : Int32)), .val (.ref b1), .val (.int (1 : Int32)), .val (.int ((pp1.toUInt32 >>> ((8 : Int32) &&& 31).toUInt32).toInt32))] [(.int ((pp1.toUInt32 >>> ((8 : Int32) &&& 31).toUInt32).toInt32)), (.ref b1)]))
    obtain ⟨b112, gb112⟩ : ∃ z, z = h32.size := ⟨_, rfl⟩
    have ge112 : n0 ≤ b112 := Nat.le_trans z33 (Nat.le_of_eq gb112.symm)
    have sz112 : h0.size ≤ b112 := Nat.le_trans kk34.1 (Nat.le_of_eq gb112.symm)
    obtain ⟨_, _, ⟨T113, L113, k113, n113⟩, -, X113, ⟨Lc113, hQ113, l113, y113, z113⟩, st113⟩ := Jvm.LawKit.callS X111 hx (y := (⟨"com/example/shiftwise/shiftwise/search/BoyerMooreTables", "absentPage", "()[I"⟩ : MethodName)) hown (mvT hZ (hw _ (List.mem_of_getElem? (i := 25) rfl))) (mvT hZ (hw _ (List.mem_of_getElem? (i := 26) rfl))) (mvT hZ (hw _ (List.mem_of_getElem? (i := 5) rfl))) (mvT hZ (hw _ (List.mem_of_getElem? (i := 27) rfl))) (by decide) (backOf (W := 2) (own_rmAP l Z a0 hw [] b112 h32 n0 z33 gb112) hZ (hw _ (List.mem_of_getElem? (i := 27) rfl)) (hw _ (List.mem_of_getElem? (i := 5) rfl)) (by decide) (by decide)) (g := (mkF m 46 #[.val (.ref pa), .val (.int (65536 : Int32)), .val (.ref b1), .val (.int (1 : Int32)), .val (.int ((pp1.toUInt32 >>> ((8 : Int32) &&& 31).toUInt32).toInt32))] [(.int ((pp1.toUInt32 >>> ((8 : Int32) &&& 31).toUInt32).toInt32)), (.ref b1)])) rfl (by rw [hml]; rfl) (argsL := []) (rest := [(.int ((pp1.toUInt32 >>> ((8 : Int32) &&& 31).toUInt32).toInt32)), (.ref b1)]) (lenOf own_pd____I rfl) rfl (by show 2 * 0 + _ ≤ _; exact Nat.le_of_eq rfl) (hb hby own_dprog_30_method_4_code_46) (fun _ _ => ⟨rfl, e111, (by decide : 2 + 1 ≤ _), (by decide : 512 + 256 ≤ _)⟩)
    dsimp only [Pt.U, Pt.locs, Pt.cells, Pt.slots] at X113 l113 y113 z113 st113 hQ113
    subst l113 y113 z113
    obtain ⟨rfl, Nq113, Kq113, Eq113, kk113, Vq113⟩ := hQ113
    have N113 := Fr.app N32 Nq113
    refine own_st st113 ?_
    have z114 : n0 ≤ T113.heap.size := Nat.le_trans z33 Kq113.1
    have kk115 : Keep h0 T113.heap [] := kk34.trans Kq113 all0
    show own_Go p.tables e below RR (T113.setTop (mkF m 49 #[.val (.ref pa), .val (.int (65536 : Int32)), .val (.ref b1), .val (.int (1 : Int32)), .val (.int ((pp1.toUInt32 >>> ((8 : Int32) &&& 31).toUInt32).toInt32))] [(.ref b112), (.int ((pp1.toUInt32 >>> ((8 : Int32) &&& 31).toUInt32).toInt32)), (.ref b1)]))
    have f116 := (f108.keep Kq113 nin0)
    obtain ⟨c117, A117, q117, s117, m117, H117, G117⟩ := id f116
    obtain ⟨T118, h118, X118, e118, W118, st118⟩ := stR X113 hx hZ rfl A117 (j := ((pp1.toUInt32 >>> ((8 : Int32) &&& 31).toUInt32).toInt32)) (inb_of s117 (own_i256 (own_hr hb1))) rfl (Sto.ofVA A117 q117 O1 (Ins.self Eq113)) (g := (mkF m 49 #[.val (.ref pa), .val (.int (65536 : Int32)), .val (.ref b1), .val (.int (1 : Int32)), .val (.int ((pp1.toUInt32 >>> ((8 : Int32) &&& 31).toUInt32).toInt32))] [(.ref b112), (.int ((pp1.toUInt32 >>> ((8 : Int32) &&& 31).toUInt32).toInt32)), (.ref b1)])) rfl rfl (hb hby own_dprog_30_method_4_code_49)
    have U118 := Arv.set A117 q117 s117 m117 H117 G117 rfl W118 ((pp1.toUInt32 >>> ((8 : Int32) &&& 31).toUInt32).toInt32).toNatClampNeg rfl (by rw [(own_ls (own_fl_len (Nat.le_refl 256) _ _))]; exact own_ncl (own_hr hb1))
    have V118 : Arv Z h118 b1 k1 (.array .int) (256 : Int32) (((own_fl 256 256 (.ref ab) .null).set ((pp0.toUInt32 >>> ((8 : Int32) &&& 31).toUInt32).toInt32).toNatClampNeg (.ref b17)).set ((pp1.toUInt32 >>> ((8 : Int32) &&& 31).toUInt32).toInt32).toNatClampNeg (.ref b112)) .null := U118
    have N118 := Fr.snoc X118 N113 ge1
    refine own_st st118 ?_
    have z119 : n0 ≤ h118.size := Nat.le_trans z114 (Keep.of_wr W118).1
    have kk120 : Keep h0 h118 [] := kk115.wr W118 (Or.inr sz1)
    show own_Go p.tables e below RR (T118.setTop (mkF m 50 #[.val (.ref pa), .val (.int (65536 : Int32)), .val (.ref b1), .val (.int (1 : Int32)), .val (.int ((pp1.toUInt32 >>> ((8 : Int32) &&& 31).toUInt32).toInt32))] []))
    refine own_st (fun _ k => XS.aloadN X118.here hx rfl (hb hby own_dprog_30_method_4_code_50) rfl rfl (XS.iload X118.here hx rfl (hb hby own_dprog_30_method_4_code_51) rfl k)) ?_
    show own_Go p.tables e below RR (T118.setTop (mkF m 53 #[.val (.ref pa), .val (.int (65536 : Int32)), .val (.ref b1), .val (.int (1 : Int32)), .val (.int ((pp1.toUInt32 >>> ((8 : Int32) &&& 31).toUInt32).toInt32))] [(.int ((pp1.toUInt32 >>> ((8 : Int32) &&& 31).toUInt32).toInt32)), (.ref b1)]))
    obtain ⟨c121, A121, q121, s121, m121, H121, G121⟩ := id V118
    have b121 := inb_of (j := ((pp1.toUInt32 >>> ((8 : Int32) &&& 31).toUInt32).toInt32)) s121 (own_i256 (own_hr hb1))
    refine own_st (fun _ k => X118.aaload hx (j := ((pp1.toUInt32 >>> ((8 : Int32) &&& 31).toUInt32).toInt32)) (v := (.ref b112)) (by rw [e118]; exact A121.1) (State.isArrayOf_alike hZ.alike A121.2.1) rfl A121.2.2 b121 (Has.at H121 b121 (own_hit (own_ls (own_fl_len (Nat.le_refl 256) _ _)) (own_ncl (own_hr hb1)) (congrArg Int32.toNatClampNeg rfl))) (g := (mkF m 53 #[.val (.ref pa), .val (.int (65536 : Int32)), .val (.ref b1), .val (.int (1 : Int32)), .val (.int ((pp1.toUInt32 >>> ((8 : Int32) &&& 31).toUInt32).toInt32))] [(.int ((pp1.toUInt32 >>> ((8 : Int32) &&& 31).toUInt32).toInt32)), (.ref b1)])) rfl rfl (hb hby own_dprog_30_method_4_code_53) _ (XS.aloadN X118.here hx rfl (hb hby own_dprog_30_method_4_code_54) rfl rfl (XS.iloadN X118.here hx rfl (hb hby own_dprog_30_method_4_code_55) rfl k))) ?_
    show own_Go p.tables e below RR (T118.setTop (mkF m 56 #[.val (.ref pa), .val (.int (65536 : Int32)), .val (.ref b1), .val (.int (1 : Int32)), .val (.int ((pp1.toUInt32 >>> ((8 : Int32) &&& 31).toUInt32).toInt32))] [(.int (1 : Int32)), (.ref pa), (.ref b112)]))
    have f122 := ((f36.keep Kq113 nin0).other W118 ne10)
    obtain ⟨c123, A123, q123, s123, m123, H123, G123⟩ := id f122
    have b123 := inb_of (j := (1 : Int32)) s123 ⟨by decide, by decide⟩
    refine own_st (fun _ k => X118.iaload hx (j := (1 : Int32)) (v := (.int pp1)) (by rw [e118]; exact A123.1) (State.isArrayOf_alike hZ.alike A123.2.1) A123.2.2 b123 (Has.at H123 b123 rfl) (g := (mkF m 56 #[.val (.ref pa), .val (.int (65536 : Int32)), .val (.ref b1), .val (.int (1 : Int32)), .val (.int ((pp1.toUInt32 >>> ((8 : Int32) &&& 31).toUInt32).toInt32))] [(.int (1 : Int32)), (.ref pa), (.ref b112)])) rfl rfl (hb hby own_dprog_30_method_4_code_56) _ (XS.sipush X118.here hx rfl (hb hby own_dprog_30_method_4_code_57) (XS.iand X118.here hx rfl (hb hby own_dprog_30_method_4_code_60) rfl (XS.iloadN X118.here hx rfl (hb hby own_dprog_30_method_4_code_61) rfl k)))) ?_
    show own_Go p.tables e below RR (T118.setTop (mkF m 62 #[.val (.ref pa), .val (.int (65536 : Int32)), .val (.ref b1), .val (.int (1 : Int32)), .val (.int ((pp1.toUInt32 >>> ((8 : Int32) &&& 31).toUInt32).toInt32))] [(.int (1 : Int32)), (.int (pp1 &&& (255 : Int32))), (.ref b112)]))
    have ne124 : b1 ≠ b112 := (Nat.ne_of_lt (Nat.lt_of_lt_of_le ((((B1.keep Kq7).keep Kq18).wr W23).wr W32).lt (Nat.le_of_eq gb112.symm)))
    have f125 := (Vq113.other W118 (Ne.symm ne124))
    obtain ⟨c126, A126, q126, s126, m126, H126, G126⟩ := id f125
    obtain ⟨T127, h127, X127, e127, W127, st127⟩ := stI X118 hx hZ e118 A126 (j := (pp1 &&& (255 : Int32))) (inb_of s126 (own_i256 (own_lr _))) (g := (mkF m 62 #[.val (.ref pa), .val (.int (65536 : Int32)), .val (.ref b1), .val (.int (1 : Int32)), .val (.int ((pp1.toUInt32 >>> ((8 : Int32) &&& 31).toUInt32).toInt32))] [(.int (1 : Int32)), (.int (pp1 &&& (255 : Int32))), (.ref b112)])) rfl rfl (hb hby own_dprog_30_method_4_code_62)
    have U127 := Arv.set A126 q126 s126 m126 H126 G126 rfl W127 (pp1 &&& (255 : Int32)).toNatClampNeg rfl (by rw [(own_fl_len (Nat.le_refl 256) _ _)]; exact own_ncl (own_lr _))
    have V127 : Arv Z h127 b112 kk113 .int (256 : Int32) ((own_fl 256 256 (.int (-1 : Int32)) (.int (0 : Int32))).set (pp1 &&& (255 : Int32)).toNatClampNeg (.int (1 : Int32))) (.int (0 : Int32)) := U127
    have N127 := Fr.snoc X127 N118 ge112
    refine own_st st127 ?_
    have z128 : n0 ≤ h127.size := Nat.le_trans z119 (Keep.of_wr W127).1
    have kk129 : Keep h0 h127 [] := kk120.wr W127 (Or.inr sz112)
    show own_Go p.tables e below RR (T127.setTop (mkF m 63 #[.val (.ref pa), .val (.int (65536 : Int32)), .val (.ref b1), .val (.int (1 : Int32)), .val (.int ((pp1.toUInt32 >>> ((8 : Int32) &&& 31).toUInt32).toInt32))] []))
    refine own_st (fun _ k => XS.iinc X127.here hx rfl (hb hby own_dprog_30_method_4_code_63) rfl (l' := #[.val (.ref pa), .val (.int (65536 : Int32)), .val (.ref b1), .val (.int (2 : Int32)), .val (.int ((pp1.toUInt32 >>> ((8 : Int32) &&& 31).toUInt32).toInt32))]) rfl (XS.goto X127.here hx rfl (pc0 := 66) (pc' := 17) rfl (hb hby own_dprog_30_method_4_code_66) (by decide) (by decide) (XS.iloadN X127.here hx rfl (hb hby own_dprog_30_method_4_code_17) rfl (XS.aloadN X127.here hx rfl (hb hby own_dprog_30_method_4_code_18) rfl rfl k)))) ?_
    show own_Go p.tables e below RR (T127.setTop (mkF m 19 #[.val (.ref pa), .val (.int (65536 : Int32)), .val (.ref b1), .val (.int (2 : Int32)), .val (.int ((pp1.toUInt32 >>> ((8 : Int32) &&& 31).toUInt32).toInt32))] [(.ref pa), (.int (2 : Int32))]))
    have ne130 : pa ≠ b112 := (Nat.ne_of_lt (Nat.lt_of_lt_of_le f36.lt (Nat.le_of_eq gb112.symm)))
    have f131 := (f122.other W127 ne130)
    obtain ⟨c132, A132, -, s132, m132, -, -⟩ := id f131
    refine own_st (fun _ k => own_len X127 hx hZ e127 A132 s132 m132 (g := (mkF m 19 #[.val (.ref pa), .val (.int (65536 : Int32)), .val (.ref b1), .val (.int (2 : Int32)), .val (.int ((pp1.toUInt32 >>> ((8 : Int32) &&& 31).toUInt32).toInt32))] [(.ref pa), (.int (2 : Int32))])) rfl rfl (hb hby own_dprog_30_method_4_code_19) (XS.iconst X127.here hx rfl (hb hby own_dprog_30_method_4_code_20) (XS.isub X127.here hx rfl (hb hby own_dprog_30_method_4_code_21) rfl k))) ?_
    show own_Go p.tables e below RR (T127.setTop (mkF m 22 #[.val (.ref pa), .val (.int (65536 : Int32)), .val (.ref b1), .val (.int (2 : Int32)), .val (.int ((pp1.toUInt32 >>> ((8 : Int32) &&& 31).toUInt32).toInt32))] [(.int (3 : Int32)), (.int (2 : Int32))]))
    refine own_st (fun _ k => XS.icmpNo X127.here hx rfl (hb hby own_dprog_30_method_4_code_22) rfl (tlt (by decide)).2.1 (XS.aloadN X127.here hx rfl (hb hby own_dprog_30_method_4_code_25) rfl rfl (XS.iloadN X127.here hx rfl (hb hby own_dprog_30_method_4_code_26) rfl k))) ?_
    show own_Go p.tables e below RR (T127.setTop (mkF m 27 #[.val (.ref pa), .val (.int (65536 : Int32)), .val (.ref b1), .val (.int (2 : Int32)), .val (.int ((pp1.toUInt32 >>> ((8 : Int32) &&& 31).toUInt32).toInt32))] [(.int (2 : Int32)), (.ref pa)]))
    obtain ⟨c133, A133, q133, s133, m133, H133, G133⟩ := id f131
    have b133 := inb_of (j := (2 : Int32)) s133 ⟨by decide, by decide⟩
    refine own_st (fun _ k => X127.iaload hx (j := (2 : Int32)) (v := (.int pp2)) (by rw [e127]; exact A133.1) (State.isArrayOf_alike hZ.alike A133.2.1) A133.2.2 b133 (Has.at H133 b133 rfl) (g := (mkF m 27 #[.val (.ref pa), .val (.int (65536 : Int32)), .val (.ref b1), .val (.int (2 : Int32)), .val (.int ((pp1.toUInt32 >>> ((8 : Int32) &&& 31).toUInt32).toInt32))] [(.int (2 : Int32)), (.ref pa)])) rfl rfl (hb hby own_dprog_30_method_4_code_27) _ (XS.bipush X127.here hx rfl (hb hby own_dprog_30_method_4_code_28) (XS.iushr X127.here hx rfl (hb hby own_dprog_30_method_4_code_30) rfl (XS.istore X127.here hx rfl (hb hby own_dprog_30_method_4_code_31) rfl (l' := #[.val (.ref pa), .val (.int (65536 : Int32)), .val (.ref b1), .val (.int (2 : Int32)), .val (.int ((pp2.toUInt32 >>> ((8 : Int32) &&& 31).toUInt32).toInt32))]) rfl k)))) ?_
    show own_Go p.tables e below RR (T127.setTop (mkF m 33 #[.val (.ref pa), .val (.int (65536 : Int32)), .val (.ref b1), .val (.int (2 : Int32)), .val (.int ((pp2.toUInt32 >>> ((8 : Int32) &&& 31).toUInt32).toInt32))] []))
    by_cases hc33_134 : ((pp2.toUInt32 >>> ((8 : Int32) &&& 31).toUInt32).toInt32) = ((pp1.toUInt32 >>> ((8 : Int32) &&& 31).toUInt32).toInt32)
    · show own_Go p.tables e below RR (T127.setTop (mkF m 33 #[.val (.ref pa), .val (.int (65536 : Int32)), .val (.ref b1), .val (.int (2 : Int32)), .val (.int ((pp2.toUInt32 >>> ((8 : Int32) &&& 31).toUInt32).toInt32))] []))
      refine own_st (fun _ k => XS.aloadN X127.here hx rfl (hb hby own_dprog_30_method_4_code_33) rfl rfl (XS.iload X127.here hx rfl (hb hby own_dprog_30_method_4_code_34) rfl k)) ?_
      show own_Go p.tables e below RR (T127.setTop (mkF m 36 #[.val (.ref pa), .val (.int (65536 : Int32)), .val (.ref b1), .val (.int (2 : Int32)), .val (.int ((pp2.toUInt32 >>> ((8 : Int32) &&& 31).toUInt32).toInt32))] [(.int ((pp2.toUInt32 >>> ((8 : Int32) &&& 31).toUInt32).toInt32)), (.ref b1)]))
      have f135 := (V118.other W127 ne124)
      obtain ⟨c136, A136, q136, s136, m136, H136, G136⟩ := id f135
      have b136 := inb_of (j := ((pp2.toUInt32 >>> ((8 : Int32) &&& 31).toUInt32).toInt32)) s136 (own_i256 (own_hr hb2))
      refine own_st (fun _ k => X127.aaload hx (j := ((pp2.toUInt32 >>> ((8 : Int32) &&& 31).toUInt32).toInt32)) (v := (.ref b112)) (by rw [e127]; exact A136.1) (State.isArrayOf_alike hZ.alike A136.2.1) rfl A136.2.2 b136 (Has.at H136 b136 (own_hit (own_ls (own_fl_len (Nat.le_refl 256) _ _)) (own_ncl (own_hr hb1)) (congrArg Int32.toNatClampNeg hc33_134))) (g := (mkF m 36 #[.val (.ref pa), .val (.int (65536 : Int32)), .val (.ref b1), .val (.int (2 : Int32)), .val (.int ((pp2.toUInt32 >>> ((8 : Int32) &&& 31).toUInt32).toInt32))] [(.int ((pp2.toUInt32 >>> ((8 : Int32) &&& 31).toUInt32).toInt32)), (.ref b1)])) rfl rfl (hb hby own_dprog_30_method_4_code_36) _ k) ?_
      show own_Go p.tables e below RR (T127.setTop (mkF m 37 #[.val (.ref pa), .val (.int (65536 : Int32)), .val (.ref b1), .val (.int (2 : Int32)), .val (.int ((pp2.toUInt32 >>> ((8 : Int32) &&& 31).toUInt32).toInt32))] [(.ref b112)]))
      have f137 := (((own_staK f110 Kq113 all0).wr W118).wr W127)
      obtain ⟨T138, X138, e138, st138⟩ := getS2 X127 hx hZ hown (host := "") (Or.inl (hw _ (List.mem_of_getElem? (i := 18) rfl))) Via.refl e127 f137 (g := (mkF m 37 #[.val (.ref pa), .val (.int (65536 : Int32)), .val (.ref b1), .val (.int (2 : Int32)), .val (.int ((pp2.toUInt32 >>> ((8 : Int32) &&& 31).toUInt32).toInt32))] [(.ref b112)])) rfl (hb hby own_dprog_30_method_4_code_37)
      refine own_st st138 ?_
      show own_Go p.tables e below RR (T138.setTop (mkF m 40 #[.val (.ref pa), .val (.int (65536 : Int32)), .val (.ref b1), .val (.int (2 : Int32)), .val (.int ((pp2.toUInt32 >>> ((8 : Int32) &&& 31).toUInt32).toInt32))] [(.ref ab), (.ref b112)]))
      have ne139 : ab ≠ b112 := (Nat.ne_of_lt (Nat.lt_of_lt_of_le ((((f6.keep Kq7).keep Kq18).wr W23).wr W32).lt (Nat.le_of_eq gb112.symm)))
      have hc40_140 : ¬ (b112 = ab) := (Ne.symm ne139)
      refine own_st (fun _ k => Jvm.RoadKit.acmp (g := (mkF m 40 #[.val (.ref pa), .val (.int (65536 : Int32)), .val (.ref b1), .val (.int (2 : Int32)), .val (.int ((pp2.toUInt32 >>> ((8 : Int32) &&& 31).toUInt32).toInt32))] [(.ref ab), (.ref b112)])) X138 hx rfl rfl rfl (pc0 := 40) (pc' := 50) (same := false) rfl (hb hby own_dprog_30_method_4_code_40) rfl (decide_eq_false fun q => hc40_140 (Value.ref.inj q)) (by decide) (by decide) (XS.aloadN X138.here hx rfl (hb hby own_dprog_30_method_4_code_50) rfl rfl (XS.iload X138.here hx rfl (hb hby own_dprog_30_method_4_code_51) rfl k))) ?_
      show own_Go p.tables e below RR (T138.setTop (mkF m 53 #[.val (.ref pa), .val (.int (65536 : Int32)), .val (.ref b1), .val (.int (2 : Int32)), .val (.int ((pp2.toUInt32 >>> ((8 : Int32) &&& 31).toUInt32).toInt32))] [(.int ((pp2.toUInt32 >>> ((8 : Int32) &&& 31).toUInt32).toInt32)), (.ref b1)]))
      obtain ⟨c141, A141, q141, s141, m141, H141, G141⟩ := id f135
      have b141 := inb_of (j := ((pp2.toUInt32 >>> ((8 : Int32) &&& 31).toUInt32).toInt32)) s141 (own_i256 (own_hr hb2))
      refine own_st (fun _ k => X138.aaload hx (j := ((pp2.toUInt32 >>> ((8 : Int32) &&& 31).toUInt32).toInt32)) (v := (.ref b112)) (by rw [e138]; exact A141.1) (State.isArrayOf_alike hZ.alike A141.2.1) rfl A141.2.2 b141 (Has.at H141 b141 (own_hit (own_ls (own_fl_len (Nat.le_refl 256) _ _)) (own_ncl (own_hr hb1)) (congrArg Int32.toNatClampNeg hc33_134))) (g := (mkF m 53 #[.val (.ref pa), .val (.int (65536 : Int32)), .val (.ref b1), .val (.int (2 : Int32)), .val (.int ((pp2.toUInt32 >>> ((8 : Int32) &&& 31).toUInt32).toInt32))] [(.int ((pp2.toUInt32 >>> ((8 : Int32) &&& 31).toUInt32).toInt32)), (.ref b1)])) rfl rfl (hb hby own_dprog_30_method_4_code_53) _ (XS.aloadN X138.here hx rfl (hb hby own_dprog_30_method_4_code_54) rfl rfl (XS.iloadN X138.here hx rfl (hb hby own_dprog_30_method_4_code_55) rfl k))) ?_
      show own_Go p.tables e below RR (T138.setTop (mkF m 56 #[.val (.ref pa), .val (.int (65536 : Int32)), .val (.ref b1), .val (.int (2 : Int32)), .val (.int ((pp2.toUInt32 >>> ((8 : Int32) &&& 31).toUInt32).toInt32))] [(.int (2 : Int32)), (.ref pa), (.ref b112)]))
      obtain ⟨c142, A142, q142, s142, m142, H142, G142⟩ := id f131
      have b142 := inb_of (j := (2 : Int32)) s142 ⟨by decide, by decide⟩
      refine own_st (fun _ k => X138.iaload hx (j := (2 : Int32)) (v := (.int pp2)) (by rw [e138]; exact A142.1) (State.isArrayOf_alike hZ.alike A142.2.1) A142.2.2 b142 (Has.at H142 b142 rfl) (g := (mkF m 56 #[.val (.ref pa), .val (.int (65536 : Int32)), .val (.ref b1), .val (.int (2 : Int32)), .val (.int ((pp2.toUInt32 >>> ((8 : Int32) &&& 31).toUInt32).toInt32))] [(.int (2 : Int32)), (.ref pa), (.ref b112)])) rfl rfl (hb hby own_dprog_30_method_4_code_56) _ (XS.sipush X138.here hx rfl (hb hby own_dprog_30_method_4_code_57) (XS.iand X138.here hx rfl (hb hby own_dprog_30_method_4_code_60) rfl (XS.iloadN X138.here hx rfl (hb hby own_dprog_30_method_4_code_61) rfl k)))) ?_
      show own_Go p.tables e below RR (T138.setTop (mkF m 62 #[.val (.ref pa), .val (.int (65536 : Int32)), .val (.ref b1), .val (.int (2 : Int32)), .val (.int ((pp2.toUInt32 >>> ((8 : Int32) &&& 31).toUInt32).toInt32))] [(.int (2 : Int32)), (.int (pp2 &&& (255 : Int32))), (.ref b112)]))
      obtain ⟨c143, A143, q143, s143, m143, H143, G143⟩ := id V127
      obtain ⟨T144, h144, X144, e144, W144, st144⟩ := stI X138 hx hZ e138 A143 (j := (pp2 &&& (255 : Int32))) (inb_of s143 (own_i256 (own_lr _))) (g := (mkF m 62 #[.val (.ref pa), .val (.int (65536 : Int32)), .val (.ref b1), .val (.int (2 : Int32)), .val (.int ((pp2.toUInt32 >>> ((8 : Int32) &&& 31).toUInt32).toInt32))] [(.int (2 : Int32)), (.int (pp2 &&& (255 : Int32))), (.ref b112)])) rfl rfl (hb hby own_dprog_30_method_4_code_62)
      have U144 := Arv.set A143 q143 s143 m143 H143 G143 rfl W144 (pp2 &&& (255 : Int32)).toNatClampNeg rfl (by rw [(own_ls (own_fl_len (Nat.le_refl 256) _ _))]; exact own_ncl (own_lr _))
      have V144 : Arv Z h144 b112 kk113 .int (256 : Int32) (((own_fl 256 256 (.int (-1 : Int32)) (.int (0 : Int32))).set (pp1 &&& (255 : Int32)).toNatClampNeg (.int (1 : Int32))).set (pp2 &&& (255 : Int32)).toNatClampNeg (.int (2 : Int32))) (.int (0 : Int32)) := U144
      have N144 := Fr.snoc X144 N127 ge112
      refine own_st st144 ?_
      have z145 : n0 ≤ h144.size := Nat.le_trans z128 (Keep.of_wr W144).1
      have kk146 : Keep h0 h144 [] := kk129.wr W144 (Or.inr sz112)
      show own_Go p.tables e below RR (T144.setTop (mkF m 63 #[.val (.ref pa), .val (.int (65536 : Int32)), .val (.ref b1), .val (.int (2 : Int32)), .val (.int ((pp2.toUInt32 >>> ((8 : Int32) &&& 31).toUInt32).toInt32))] []))
      refine own_st (fun _ k => XS.iinc X144.here hx rfl (hb hby own_dprog_30_method_4_code_63) rfl (l' := #[.val (.ref pa), .val (.int (65536 : Int32)), .val (.ref b1), .val (.int (3 : Int32)), .val (.int ((pp2.toUInt32 >>> ((8 : Int32) &&& 31).toUInt32).toInt32))]) rfl (XS.goto X144.here hx rfl (pc0 := 66) (pc' := 17) rfl (hb hby own_dprog_30_method_4_code_66) (by decide) (by decide) (XS.iloadN X144.here hx rfl (hb hby own_dprog_30_method_4_code_17) rfl (XS.aloadN X144.here hx rfl (hb hby own_dprog_30_method_4_code_18) rfl rfl k)))) ?_
      show own_Go p.tables e below RR (T144.setTop (mkF m 19 #[.val (.ref pa), .val (.int (65536 : Int32)), .val (.ref b1), .val (.int (3 : Int32)), .val (.int ((pp2.toUInt32 >>> ((8 : Int32) &&& 31).toUInt32).toInt32))] [(.ref pa), (.int (3 : Int32))]))
      have f147 := (f131.other W144 ne130)
      obtain ⟨c148, A148, -, s148, m148, -, -⟩ := id f147
      refine own_st (fun _ k => own_len X144 hx hZ e144 A148 s148 m148 (g := (mkF m 19 #[.val (.ref pa), .val (.int (65536 : Int32)), .val (.ref b1), .val (.int (3 : Int32)), .val (.int ((pp2.toUInt32 >>> ((8 : Int32) &&& 31).toUInt32).toInt32))] [(.ref pa), (.int (3 : Int32))])) rfl rfl (hb hby own_dprog_30_method_4_code_19) (XS.iconst X144.here hx rfl (hb hby own_dprog_30_method_4_code_20) (XS.isub X144.here hx rfl (hb hby own_dprog_30_method_4_code_21) rfl k))) ?_
      show own_Go p.tables e below RR (T144.setTop (mkF m 22 #[.val (.ref pa), .val (.int (65536 : Int32)), .val (.ref b1), .val (.int (3 : Int32)), .val (.int ((pp2.toUInt32 >>> ((8 : Int32) &&& 31).toUInt32).toInt32))] [(.int (3 : Int32)), (.int (3 : Int32))]))
      refine own_st (fun _ k => XS.icmpYes X144.here hx rfl (pc0 := 22) (pc' := 69) rfl (hb hby own_dprog_30_method_4_code_22) rfl (flt (by decide)).2.1 (by decide) (by decide) k) ?_
      show own_Go p.tables e below RR (T144.setTop (mkF m 69 #[.val (.ref pa), .val (.int (65536 : Int32)), .val (.ref b1), .val (.int (3 : Int32)), .val (.int ((pp2.toUInt32 >>> ((8 : Int32) &&& 31).toUInt32).toInt32))] []))
      by_cases hc69_149 : ((pp1.toUInt32 >>> ((8 : Int32) &&& 31).toUInt32).toInt32) = ((gc.toUInt32 >>> ((8 : Int32) &&& 31).toUInt32).toInt32)
      · show own_Go p.tables e below RR (T144.setTop (mkF m 69 #[.val (.ref pa), .val (.int (65536 : Int32)), .val (.ref b1), .val (.int (3 : Int32)), .val (.int ((pp2.toUInt32 >>> ((8 : Int32) &&& 31).toUInt32).toInt32))] []))
        refine own_st (fun _ k => XS.aloadN X144.here hx rfl (hb hby own_dprog_30_method_4_code_69) rfl rfl k) ?_
        show own_Go p.tables e below RR (T144.setTop (mkF m 70 #[.val (.ref pa), .val (.int (65536 : Int32)), .val (.ref b1), .val (.int (3 : Int32)), .val (.int ((pp2.toUInt32 >>> ((8 : Int32) &&& 31).toUInt32).toInt32))] [(.ref b1)]))
        obtain ⟨fs, hrt_, hrun, hended, hW, hsame⟩ := X144.leave (v := some (.ref b1)) (fun h => by rw [Bd.returns] at h; cases h)
        refine own_fin (retOut X144 hx Bd.returns rfl (Or.inr (Or.inr (Or.inr (Or.inr ⟨rfl, rfl, rfl⟩)))) (hb hby own_dprog_30_method_4_code_70) hrt_) (hRR _ ⟨_, hrun, hended, _, _, rfl, ?_, ⟨_, rfl⟩, hW, hsame.mono (by decide) (by decide)⟩)
        show own_QLP Z pa kp pp0 pp1 pp2 pp3 ab kb gc h0 n0 _ T144.heap _
        rw [e144]
        have f150 := (f135.other W144 ne124)
        exact ⟨_, rfl, N144, kk146, _, _, b112, _, _, f150, (own_hit (own_ls (own_fl_len (Nat.le_refl 256) _ _)) (own_ncl (own_hr hb1)) (congrArg Int32.toNatClampNeg hc69_149.symm)), V144, (own_on hb2 hbc (hc33_134.trans hc69_149) (own_ls (own_fl_len (Nat.le_refl 256) _ _)) (own_on hb1 hbc hc69_149 (own_fl_len (Nat.le_refl 256) _ _) (own_off (fun q => hc33_39 (hc69_149.trans q.symm)) (own_flg (own_ncl (own_lr gc)) _ _ _))))⟩
      · by_cases hc69_151 : ((pp0.toUInt32 >>> ((8 : Int32) &&& 31).toUInt32).toInt32) = ((gc.toUInt32 >>> ((8 : Int32) &&& 31).toUInt32).toInt32)
        · show own_Go p.tables e below RR (T144.setTop (mkF m 69 #[.val (.ref pa), .val (.int (65536 : Int32)), .val (.ref b1), .val (.int (3 : Int32)), .val (.int ((pp2.toUInt32 >>> ((8 : Int32) &&& 31).toUInt32).toInt32))] []))
          refine own_st (fun _ k => XS.aloadN X144.here hx rfl (hb hby own_dprog_30_method_4_code_69) rfl rfl k) ?_
          show own_Go p.tables e below RR (T144.setTop (mkF m 70 #[.val (.ref pa), .val (.int (65536 : Int32)), .val (.ref b1), .val (.int (3 : Int32)), .val (.int ((pp2.toUInt32 >>> ((8 : Int32) &&& 31).toUInt32).toInt32))] [(.ref b1)]))
          obtain ⟨fs, hrt_, hrun, hended, hW, hsame⟩ := X144.leave (v := some (.ref b1)) (fun h => by rw [Bd.returns] at h; cases h)
          refine own_fin (retOut X144 hx Bd.returns rfl (Or.inr (Or.inr (Or.inr (Or.inr ⟨rfl, rfl, rfl⟩)))) (hb hby own_dprog_30_method_4_code_70) hrt_) (hRR _ ⟨_, hrun, hended, _, _, rfl, ?_, ⟨_, rfl⟩, hW, hsame.mono (by decide) (by decide)⟩)
          show own_QLP Z pa kp pp0 pp1 pp2 pp3 ab kb gc h0 n0 _ T144.heap _
          rw [e144]
          have f152 := (f135.other W144 ne124)
          have ne153 : b17 ≠ b112 := (Nat.ne_of_lt (Nat.lt_of_lt_of_le ((Eq18.wr W23).wr W32).lt (Nat.le_of_eq gb112.symm)))
          have f154 := ((((V32.keep Kq113 nin0).other W118 (Ne.symm ne29)).other W127 ne153).other W144 ne153)
          exact ⟨_, rfl, N144, kk146, _, _, b17, _, _, f152, (own_miss (own_ncne (own_hr hbc).1 (own_hr hb1).1 (fun q => hc69_149 q.symm)) (own_hit (own_fl_len (Nat.le_refl 256) _ _) (own_ncl (own_hr hb0)) (congrArg Int32.toNatClampNeg hc69_151.symm))), f154, (own_off (fun q => hc69_149 (hc33_134.symm.trans q)) (own_off hc69_149 (own_on hb0 hbc hc69_151 (own_fl_len (Nat.le_refl 256) _ _) (own_flg (own_ncl (own_lr gc)) _ _ _))))⟩
        · show own_Go p.tables e below RR (T144.setTop (mkF m 69 #[.val (.ref pa), .val (.int (65536 : Int32)), .val (.ref b1), .val (.int (3 : Int32)), .val (.int ((pp2.toUInt32 >>> ((8 : Int32) &&& 31).toUInt32).toInt32))] []))
          refine own_st (fun _ k => XS.aloadN X144.here hx rfl (hb hby own_dprog_30_method_4_code_69) rfl rfl k) ?_
          show own_Go p.tables e below RR (T144.setTop (mkF m 70 #[.val (.ref pa), .val (.int (65536 : Int32)), .val (.ref b1), .val (.int (3 : Int32)), .val (.int ((pp2.toUInt32 >>> ((8 : Int32) &&& 31).toUInt32).toInt32))] [(.ref b1)]))
          obtain ⟨fs, hrt_, hrun, hended, hW, hsame⟩ := X144.leave (v := some (.ref b1)) (fun h => by rw [Bd.returns] at h; cases h)
          refine own_fin (retOut X144 hx Bd.returns rfl (Or.inr (Or.inr (Or.inr (Or.inr ⟨rfl, rfl, rfl⟩)))) (hb hby own_dprog_30_method_4_code_70) hrt_) (hRR _ ⟨_, hrun, hended, _, _, rfl, ?_, ⟨_, rfl⟩, hW, hsame.mono (by decide) (by decide)⟩)
          show own_QLP Z pa kp pp0 pp1 pp2 pp3 ab kb gc h0 n0 _ T144.heap _
          rw [e144]
          have f155 := (f135.other W144 ne124)
          have ne156 : ab ≠ b1 := (Nat.ne_of_lt (Nat.lt_of_lt_of_le Ea.lt (Nat.le_of_eq gb1.symm)))
          have ne157 : ab ≠ b17 := (Nat.ne_of_lt (Nat.lt_of_lt_of_le (f6.keep Kq7).lt (Nat.le_of_eq gb17.symm)))
          have f158 := (((((((((Vab.ext E1).keep Kq7 (ninS ne156 nin0)).keep Kq18 nin0).other W23 ne156).other W32 ne157).keep Kq113 nin0).other W118 ne156).other W127 ne139).other W144 ne139)
          exact ⟨_, rfl, N144, kk146, _, _, ab, _, _, f155, (own_miss (own_ncne (own_hr hbc).1 (own_hr hb1).1 (fun q => hc69_149 q.symm)) (own_miss (own_ncne (own_hr hbc).1 (own_hr hb0).1 (fun q => hc69_151 q.symm)) (own_flg (own_ncl (own_hr hbc)) _ _ _))), f158, (own_off (fun q => hc69_149 (hc33_134.symm.trans q)) (own_off hc69_149 (own_off hc69_151 (own_flg (own_ncl (own_lr gc)) _ _ _))))⟩
    · by_cases hc33_159 : ((pp2.toUInt32 >>> ((8 : Int32) &&& 31).toUInt32).toInt32) = ((pp0.toUInt32 >>> ((8 : Int32) &&& 31).toUInt32).toInt32)
      · show own_Go p.tables e below RR (T127.setTop (mkF m 33 #[.val (.ref pa), .val (.int (65536 : Int32)), .val (.ref b1), .val (.int (2 : Int32)), .val (.int ((pp2.toUInt32 >>> ((8 : Int32) &&& 31).toUInt32).toInt32))] []))
        refine own_st (fun _ k => XS.aloadN X127.here hx rfl (hb hby own_dprog_30_method_4_code_33) rfl rfl (XS.iload X127.here hx rfl (hb hby own_dprog_30_method_4_code_34) rfl k)) ?_
        show own_Go p.tables e below RR (T127.setTop (mkF m 36 #[.val (.ref pa), .val (.int (65536 : Int32)), .val (.ref b1), .val (.int (2 : Int32)), .val (.int ((pp2.toUInt32 >>> ((8 : Int32) &&& 31).toUInt32).toInt32))] [(.int ((pp2.toUInt32 >>> ((8 : Int32) &&& 31).toUInt32).toInt32)), (.ref b1)]))
        have f160 := (V118.other W127 ne124)
        obtain ⟨c161, A161, q161, s161, m161, H161, G161⟩ := id f160
        have b161 := inb_of (j := ((pp2.toUInt32 >>> ((8 : Int32) &&& 31).toUInt32).toInt32)) s161 (own_i256 (own_hr hb2))
        refine own_st (fun _ k => X127.aaload hx (j := ((pp2.toUInt32 >>> ((8 : Int32) &&& 31).toUInt32).toInt32)) (v := (.ref b17)) (by rw [e127]; exact A161.1) (State.isArrayOf_alike hZ.alike A161.2.1) rfl A161.2.2 b161 (Has.at H161 b161 (own_miss (own_ncne (own_hr hb2).1 (own_hr hb1).1 hc33_134) (own_hit (own_fl_len (Nat.le_refl 256) _ _) (own_ncl (own_hr hb0)) (congrArg Int32.toNatClampNeg hc33_159)))) (g := (mkF m 36 #[.val (.ref pa), .val (.int (65536 : Int32)), .val (.ref b1), .val (.int (2 : Int32)), .val (.int ((pp2.toUInt32 >>> ((8 : Int32) &&& 31).toUInt32).toInt32))] [(.int ((pp2.toUInt32 >>> ((8 : Int32) &&& 31).toUInt32).toInt32)), (.ref b1)])) rfl rfl (hb hby own_dprog_30_method_4_code_36) _ k) ?_
        show own_Go p.tables e below RR (T127.setTop (mkF m 37 #[.val (.ref pa), .val (.int (65536 : Int32)), .val (.ref b1), .val (.int (2 : Int32)), .val (.int ((pp2.toUInt32 >>> ((8 : Int32) &&& 31).toUInt32).toInt32))] [(.ref b17)]))
        have f162 := (((own_staK f110 Kq113 all0).wr W118).wr W127)
        obtain ⟨T163, X163, e163, st163⟩ := getS2 X127 hx hZ hown (host := "") (Or.inl (hw _ (List.mem_of_getElem? (i := 18) rfl))) Via.refl e127 f162 (g := (mkF m 37 #[.val (.ref pa), .val (.int (65536 : Int32)), .val (.ref b1), .val (.int (2 : Int32)), .val (.int ((pp2.toUInt32 >>> ((8 : Int32) &&& 31).toUInt32).toInt32))] [(.ref b17)])) rfl (hb hby own_dprog_30_method_4_code_37)
        refine own_st st163 ?_
        show own_Go p.tables e below RR (T163.setTop (mkF m 40 #[.val (.ref pa), .val (.int (65536 : Int32)), .val (.ref b1), .val (.int (2 : Int32)), .val (.int ((pp2.toUInt32 >>> ((8 : Int32) &&& 31).toUInt32).toInt32))] [(.ref ab), (.ref b17)]))
        have ne164 : ab ≠ b17 := (Nat.ne_of_lt (Nat.lt_of_lt_of_le (f6.keep Kq7).lt (Nat.le_of_eq gb17.symm)))
        have hc40_165 : ¬ (b17 = ab) := (Ne.symm ne164)
        refine own_st (fun _ k => Jvm.RoadKit.acmp (g := (mkF m 40 #[.val (.ref pa), .val (.int (65536 : Int32)), .val (.ref b1), .val (.int (2 : Int32)), .val (.int ((pp2.toUInt32 >>> ((8 : Int32) &&& 31).toUInt32).toInt32))] [(.ref ab), (.ref b17)])) X163 hx rfl rfl rfl (pc0 := 40) (pc' := 50) (same := false) rfl (hb hby own_dprog_30_method_4_code_40) rfl (decide_eq_false fun q => hc40_165 (Value.ref.inj q)) (by decide) (by decide) (XS.aloadN X163.here hx rfl (hb hby own_dprog_30_method_4_code_50) rfl rfl (XS.iload X163.here hx rfl (hb hby own_dprog_30_method_4_code_51) rfl k))) ?_
        show own_Go p.tables e below RR (T163.setTop (mkF m 53 #[.val (.ref pa), .val (.int (65536 : Int32)), .val (.ref b1), .val (.int (2 : Int32)), .val (.int ((pp2.toUInt32 >>> ((8 : Int32) &&& 31).toUInt32).toInt32))] [(.int ((pp2.toUInt32 >>> ((8 : Int32) &&& 31).toUInt32).toInt32)), (.ref b1)]))
        obtain ⟨c166, A166, q166, s166, m166, H166, G166⟩ := id f160
        have b166 := inb_of (j := ((pp2.toUInt32 >>> ((8 : Int32) &&& 31).toUInt32).toInt32)) s166 (own_i256 (own_hr hb2))
        refine own_st (fun _ k => X163.aaload hx (j := ((pp2.toUInt32 >>> ((8 : Int32) &&& 31).toUInt32).toInt32)) (v := (.ref b17)) (by rw [e163]; exact A166.1) (State.isArrayOf_alike hZ.alike A166.2.1) rfl A166.2.2 b166 (Has.at H166 b166 (own_miss (own_ncne (own_hr hb2).1 (own_hr hb1).1 hc33_134) (own_hit (own_fl_len (Nat.le_refl 256) _ _) (own_ncl (own_hr hb0)) (congrArg Int32.toNatClampNeg hc33_159)))) (g := (mkF m 53 #[.val (.ref pa), .val (.int (65536 : Int32)), .val (.ref b1), .val (.int (2 : Int32)), .val (.int ((pp2.toUInt32 >>> ((8 : Int32) &&& 31).toUInt32).toInt32))] [(.int ((pp2.toUInt32 >>> ((8 : Int32) &&& 31).toUInt32).toInt32)), (.ref b1)])) rfl rfl (hb hby own_dprog_30_method_4_code_53) _ (XS.aloadN X163.here hx rfl (hb hby own_dprog_30_method_4_code_54) rfl rfl (XS.iloadN X163.here hx rfl (hb hby own_dprog_30_method_4_code_55) rfl k))) ?_
        show own_Go p.tables e below RR (T163.setTop (mkF m 56 #[.val (.ref pa), .val (.int (65536 : Int32)), .val (.ref b1), .val (.int (2 : Int32)), .val (.int ((pp2.toUInt32 >>> ((8 : Int32) &&& 31).toUInt32).toInt32))] [(.int (2 : Int32)), (.ref pa), (.ref b17)]))
        obtain ⟨c167, A167, q167, s167, m167, H167, G167⟩ := id f131
        have b167 := inb_of (j := (2 : Int32)) s167 ⟨by decide, by decide⟩
        refine own_st (fun _ k => X163.iaload hx (j := (2 : Int32)) (v := (.int pp2)) (by rw [e163]; exact A167.1) (State.isArrayOf_alike hZ.alike A167.2.1) A167.2.2 b167 (Has.at H167 b167 rfl) (g := (mkF m 56 #[.val (.ref pa), .val (.int (65536 : Int32)), .val (.ref b1), .val (.int (2 : Int32)), .val (.int ((pp2.toUInt32 >>> ((8 : Int32) &&& 31).toUInt32).toInt32))] [(.int (2 : Int32)), (.ref pa), (.ref b17)])) rfl rfl (hb hby own_dprog_30_method_4_code_56) _ (XS.sipush X163.here hx rfl (hb hby own_dprog_30_method_4_code_57) (XS.iand X163.here hx rfl (hb hby own_dprog_30_method_4_code_60) rfl (XS.iloadN X163.here hx rfl (hb hby own_dprog_30_method_4_code_61) rfl k)))) ?_
        show own_Go p.tables e below RR (T163.setTop (mkF m 62 #[.val (.ref pa), .val (.int (65536 : Int32)), .val (.ref b1), .val (.int (2 : Int32)), .val (.int ((pp2.toUInt32 >>> ((8 : Int32) &&& 31).toUInt32).toInt32))] [(.int (2 : Int32)), (.int (pp2 &&& (255 : Int32))), (.ref b17)]))
        have ne168 : b17 ≠ b112 := (Nat.ne_of_lt (Nat.lt_of_lt_of_le ((Eq18.wr W23).wr W32).lt (Nat.le_of_eq gb112.symm)))
        have f169 := (((V32.keep Kq113 nin0).other W118 (Ne.symm ne29)).other W127 ne168)
        obtain ⟨c170, A170, q170, s170, m170, H170, G170⟩ := id f169
        obtain ⟨T171, h171, X171, e171, W171, st171⟩ := stI X163 hx hZ e163 A170 (j := (pp2 &&& (255 : Int32))) (inb_of s170 (own_i256 (own_lr _))) (g := (mkF m 62 #[.val (.ref pa), .val (.int (65536 : Int32)), .val (.ref b1), .val (.int (2 : Int32)), .val (.int ((pp2.toUInt32 >>> ((8 : Int32) &&& 31).toUInt32).toInt32))] [(.int (2 : Int32)), (.int (pp2 &&& (255 : Int32))), (.ref b17)])) rfl rfl (hb hby own_dprog_30_method_4_code_62)
        have U171 := Arv.set A170 q170 s170 m170 H170 G170 rfl W171 (pp2 &&& (255 : Int32)).toNatClampNeg rfl (by rw [(own_ls (own_fl_len (Nat.le_refl 256) _ _))]; exact own_ncl (own_lr _))
        have V171 : Arv Z h171 b17 kk18 .int (256 : Int32) (((own_fl 256 256 (.int (-1 : Int32)) (.int (0 : Int32))).set (pp0 &&& (255 : Int32)).toNatClampNeg (.int (0 : Int32))).set (pp2 &&& (255 : Int32)).toNatClampNeg (.int (2 : Int32))) (.int (0 : Int32)) := U171
        have N171 := Fr.snoc X171 N127 ge17
        refine own_st st171 ?_
        have z172 : n0 ≤ h171.size := Nat.le_trans z128 (Keep.of_wr W171).1
        have kk173 : Keep h0 h171 [] := kk129.wr W171 (Or.inr sz17)
        show own_Go p.tables e below RR (T171.setTop (mkF m 63 #[.val (.ref pa), .val (.int (65536 : Int32)), .val (.ref b1), .val (.int (2 : Int32)), .val (.int ((pp2.toUInt32 >>> ((8 : Int32) &&& 31).toUInt32).toInt32))] []))
        refine own_st (fun _ k => XS.iinc X171.here hx rfl (hb hby own_dprog_30_method_4_code_63) rfl (l' := #[.val (.ref pa), .val (.int (65536 : Int32)), .val (.ref b1), .val (.int (3 : Int32)), .val (.int ((pp2.toUInt32 >>> ((8 : Int32) &&& 31).toUInt32).toInt32))]) rfl (XS.goto X171.here hx rfl (pc0 := 66) (pc' := 17) rfl (hb hby own_dprog_30_method_4_code_66) (by decide) (by decide) (XS.iloadN X171.here hx rfl (hb hby own_dprog_30_method_4_code_17) rfl (XS.aloadN X171.here hx rfl (hb hby own_dprog_30_method_4_code_18) rfl rfl k)))) ?_
        show own_Go p.tables e below RR (T171.setTop (mkF m 19 #[.val (.ref pa), .val (.int (65536 : Int32)), .val (.ref b1), .val (.int (3 : Int32)), .val (.int ((pp2.toUInt32 >>> ((8 : Int32) &&& 31).toUInt32).toInt32))] [(.ref pa), (.int (3 : Int32))]))
        have f174 := (f131.other W171 ne35)
        obtain ⟨c175, A175, -, s175, m175, -, -⟩ := id f174
        refine own_st (fun _ k => own_len X171 hx hZ e171 A175 s175 m175 (g := (mkF m 19 #[.val (.ref pa), .val (.int (65536 : Int32)), .val (.ref b1), .val (.int (3 : Int32)), .val (.int ((pp2.toUInt32 >>> ((8 : Int32) &&& 31).toUInt32).toInt32))] [(.ref pa), (.int (3 : Int32))])) rfl rfl (hb hby own_dprog_30_method_4_code_19) (XS.iconst X171.here hx rfl (hb hby own_dprog_30_method_4_code_20) (XS.isub X171.here hx rfl (hb hby own_dprog_30_method_4_code_21) rfl k))) ?_
        show own_Go p.tables e below RR (T171.setTop (mkF m 22 #[.val (.ref pa), .val (.int (65536 : Int32)), .val (.ref b1), .val (.int (3 : Int32)), .val (.int ((pp2.toUInt32 >>> ((8 : Int32) &&& 31).toUInt32).toInt32))] [(.int (3 : Int32)), (.int (3 : Int32))]))
        refine own_st (fun _ k => XS.icmpYes X171.here hx rfl (pc0 := 22) (pc' := 69) rfl (hb hby own_dprog_30_method_4_code_22) rfl (flt (by decide)).2.1 (by decide) (by decide) k) ?_
        show own_Go p.tables e below RR (T171.setTop (mkF m 69 #[.val (.ref pa), .val (.int (65536 : Int32)), .val (.ref b1), .val (.int (3 : Int32)), .val (.int ((pp2.toUInt32 >>> ((8 : Int32) &&& 31).toUInt32).toInt32))] []))
        by_cases hc69_176 : ((pp1.toUInt32 >>> ((8 : Int32) &&& 31).toUInt32).toInt32) = ((gc.toUInt32 >>> ((8 : Int32) &&& 31).toUInt32).toInt32)
        · show own_Go p.tables e below RR (T171.setTop (mkF m 69 #[.val (.ref pa), .val (.int (65536 : Int32)), .val (.ref b1), .val (.int (3 : Int32)), .val (.int ((pp2.toUInt32 >>> ((8 : Int32) &&& 31).toUInt32).toInt32))] []))
          refine own_st (fun _ k => XS.aloadN X171.here hx rfl (hb hby own_dprog_30_method_4_code_69) rfl rfl k) ?_
          show own_Go p.tables e below RR (T171.setTop (mkF m 70 #[.val (.ref pa), .val (.int (65536 : Int32)), .val (.ref b1), .val (.int (3 : Int32)), .val (.int ((pp2.toUInt32 >>> ((8 : Int32) &&& 31).toUInt32).toInt32))] [(.ref b1)]))
          obtain ⟨fs, hrt_, hrun, hended, hW, hsame⟩ := X171.leave (v := some (.ref b1)) (fun h => by rw [Bd.returns] at h; cases h)
          refine own_fin (retOut X171 hx Bd.returns rfl (Or.inr (Or.inr (Or.inr (Or.inr ⟨rfl, rfl, rfl⟩)))) (hb hby own_dprog_30_method_4_code_70) hrt_) (hRR _ ⟨_, hrun, hended, _, _, rfl, ?_, ⟨_, rfl⟩, hW, hsame.mono (by decide) (by decide)⟩)
          show own_QLP Z pa kp pp0 pp1 pp2 pp3 ab kb gc h0 n0 _ T171.heap _
          rw [e171]
          have f177 := (f160.other W171 ne29)
          have f178 := (V127.other W171 (Ne.symm ne168))
          exact ⟨_, rfl, N171, kk173, _, _, b112, _, _, f177, (own_hit (own_ls (own_fl_len (Nat.le_refl 256) _ _)) (own_ncl (own_hr hb1)) (congrArg Int32.toNatClampNeg hc69_176.symm)), f178, (own_off (fun q => (fun q => hc33_39 (hc69_176.trans q.symm)) (hc33_159.symm.trans q)) (own_on hb1 hbc hc69_176 (own_fl_len (Nat.le_refl 256) _ _) (own_off (fun q => hc33_39 (hc69_176.trans q.symm)) (own_flg (own_ncl (own_lr gc)) _ _ _))))⟩
        · by_cases hc69_179 : ((pp0.toUInt32 >>> ((8 : Int32) &&& 31).toUInt32).toInt32) = ((gc.toUInt32 >>> ((8 : Int32) &&& 31).toUInt32).toInt32)
          · show own_Go p.tables e below RR (T171.setTop (mkF m 69 #[.val (.ref pa), .val (.int (65536 : Int32)), .val (.ref b1), .val (.int (3 : Int32)), .val (.int ((pp2.toUInt32 >>> ((8 : Int32) &&& 31).toUInt32).toInt32))] []))
            refine own_st (fun _ k => XS.aloadN X171.here hx rfl (hb hby own_dprog_30_method_4_code_69) rfl rfl k) ?_
            show own_Go p.tables e below RR (T171.setTop (mkF m 70 #[.val (.ref pa), .val (.int (65536 : Int32)), .val (.ref b1), .val (.int (3 : Int32)), .val (.int ((pp2.toUInt32 >>> ((8 : Int32) &&& 31).toUInt32).toInt32))] [(.ref b1)]))
            obtain ⟨fs, hrt_, hrun, hended, hW, hsame⟩ := X171.leave (v := some (.ref b1)) (fun h => by rw [Bd.returns] at h; cases h)
            refine own_fin (retOut X171 hx Bd.returns rfl (Or.inr (Or.inr (Or.inr (Or.inr ⟨rfl, rfl, rfl⟩)))) (hb hby own_dprog_30_method_4_code_70) hrt_) (hRR _ ⟨_, hrun, hended, _, _, rfl, ?_, ⟨_, rfl⟩, hW, hsame.mono (by decide) (by decide)⟩)
            show own_QLP Z pa kp pp0 pp1 pp2 pp3 ab kb gc h0 n0 _ T171.heap _
            rw [e171]
            have f180 := (f160.other W171 ne29)
            exact ⟨_, rfl, N171, kk173, _, _, b17, _, _, f180, (own_miss (own_ncne (own_hr hbc).1 (own_hr hb1).1 (fun q => hc69_176 q.symm)) (own_hit (own_fl_len (Nat.le_refl 256) _ _) (own_ncl (own_hr hb0)) (congrArg Int32.toNatClampNeg hc69_179.symm))), V171, (own_on hb2 hbc (hc33_159.trans hc69_179) (own_ls (own_fl_len (Nat.le_refl 256) _ _)) (own_off hc69_176 (own_on hb0 hbc hc69_179 (own_fl_len (Nat.le_refl 256) _ _) (own_flg (own_ncl (own_lr gc)) _ _ _))))⟩
          · show own_Go p.tables e below RR (T171.setTop (mkF m 69 #[.val (.ref pa), .val (.int (65536 : Int32)), .val (.ref b1), .val (.int (3 : Int32)), .val (.int ((pp2.toUInt32 >>> ((8 : Int32) &&& 31).toUInt32).toInt32))] []))
            refine own_st (fun _ k => XS.aloadN X171.here hx rfl (hb hby own_dprog_30_method_4_code_69) rfl rfl k) ?_
            show own_Go p.tables e below RR (T171.setTop (mkF m 70 #[.val (.ref pa), .val (.int (65536 : Int32)), .val (.ref b1), .val (.int (3 : Int32)), .val (.int ((pp2.toUInt32 >>> ((8 : Int32) &&& 31).toUInt32).toInt32))] [(.ref b1)]))
            obtain ⟨fs, hrt_, hrun, hended, hW, hsame⟩ := X171.leave (v := some (.ref b1)) (fun h => by rw [Bd.returns] at h; cases h)
            refine own_fin (retOut X171 hx Bd.returns rfl (Or.inr (Or.inr (Or.inr (Or.inr ⟨rfl, rfl, rfl⟩)))) (hb hby own_dprog_30_method_4_code_70) hrt_) (hRR _ ⟨_, hrun, hended, _, _, rfl, ?_, ⟨_, rfl⟩, hW, hsame.mono (by decide) (by decide)⟩)
            show own_QLP Z pa kp pp0 pp1 pp2 pp3 ab kb gc h0 n0 _ T171.heap _
            rw [e171]
            have f181 := (f160.other W171 ne29)
            have ne182 : ab ≠ b1 := (Nat.ne_of_lt (Nat.lt_of_lt_of_le Ea.lt (Nat.le_of_eq gb1.symm)))
            have ne183 : ab ≠ b112 := (Nat.ne_of_lt (Nat.lt_of_lt_of_le ((((f6.keep Kq7).keep Kq18).wr W23).wr W32).lt (Nat.le_of_eq gb112.symm)))
            have f184 := (((((((((Vab.ext E1).keep Kq7 (ninS ne182 nin0)).keep Kq18 nin0).other W23 ne182).other W32 ne164).keep Kq113 nin0).other W118 ne182).other W127 ne183).other W171 ne164)
            exact ⟨_, rfl, N171, kk173, _, _, ab, _, _, f181, (own_miss (own_ncne (own_hr hbc).1 (own_hr hb1).1 (fun q => hc69_176 q.symm)) (own_miss (own_ncne (own_hr hbc).1 (own_hr hb0).1 (fun q => hc69_179 q.symm)) (own_flg (own_ncl (own_hr hbc)) _ _ _))), f184, (own_off (fun q => hc69_179 (hc33_159.symm.trans q)) (own_off hc69_176 (own_off hc69_179 (own_flg (own_ncl (own_lr gc)) _ _ _))))⟩
      · show own_Go p.tables e below RR (T127.setTop (mkF m 33 #[.val (.ref pa), .val (.int (65536 : Int32)), .val (.ref b1), .val (.int (2 : Int32)), .val (.int ((pp2.toUInt32 >>> ((8 : Int32) &&& 31).toUInt32).toInt32))] []))
        refine own_st (fun _ k => XS.aloadN X127.here hx rfl (hb hby own_dprog_30_method_4_code_33) rfl rfl (XS.iload X127.here hx rfl (hb hby own_dprog_30_method_4_code_34) rfl k)) ?_
        show own_Go p.tables e below RR (T127.setTop (mkF m 36 #[.val (.ref pa), .val (.int (65536 : Int32)), .val (.ref b1), .val (.int (2 : Int32)), .val (.int ((pp2.toUInt32 >>> ((8 : Int32) &&& 31).toUInt32).toInt32))] [(.int ((pp2.toUInt32 >>> ((8 : Int32) &&& 31).toUInt32).toInt32)), (.ref b1)]))
        have f185 := (V118.other W127 ne124)
        obtain ⟨c186, A186, q186, s186, m186, H186, G186⟩ := id f185
        have b186 := inb_of (j := ((pp2.toUInt32 >>> ((8 : Int32) &&& 31).toUInt32).toInt32)) s186 (own_i256 (own_hr hb2))
        refine own_st (fun _ k => X127.aaload hx (j := ((pp2.toUInt32 >>> ((8 : Int32) &&& 31).toUInt32).toInt32)) (v := (.ref ab)) (by rw [e127]; exact A186.1) (State.isArrayOf_alike hZ.alike A186.2.1) rfl A186.2.2 b186 (Has.at H186 b186 (own_miss (own_ncne (own_hr hb2).1 (own_hr hb1).1 hc33_134) (own_miss (own_ncne (own_hr hb2).1 (own_hr hb0).1 hc33_159) (own_flg (own_ncl (own_hr hb2)) _ _ _)))) (g := (mkF m 36 #[.val (.ref pa), .val (.int (65536 : Int32)), .val (.ref b1), .val (.int (2 : Int32)), .val (.int ((pp2.toUInt32 >>> ((8 : Int32) &&& 31).toUInt32).toInt32))] [(.int ((pp2.toUInt32 >>> ((8 : Int32) &&& 31).toUInt32).toInt32)), (.ref b1)])) rfl rfl (hb hby own_dprog_30_method_4_code_36) _ k) ?_
        show own_Go p.tables e below RR (T127.setTop (mkF m 37 #[.val (.ref pa), .val (.int (65536 : Int32)), .val (.ref b1), .val (.int (2 : Int32)), .val (.int ((pp2.toUInt32 >>> ((8 : Int32) &&& 31).toUInt32).toInt32))] [(.ref ab)]))
        have f187 := (((own_staK f110 Kq113 all0).wr W118).wr W127)
        obtain ⟨T188, X188, e188, st188⟩ := getS2 X127 hx hZ hown (host := "") (Or.inl (hw _ (List.mem_of_getElem? (i := 18) rfl))) Via.refl e127 f187 (g := (mkF m 37 #[.val (.ref pa), .val (.int (65536 : Int32)), .val (.ref b1), .val (.int (2 : Int32)), .val (.int ((pp2.toUInt32 >>> ((8 : Int32) &&& 31).toUInt32).toInt32))] [(.ref ab)])) rfl (hb hby own_dprog_30_method_4_code_37)
        refine own_st st188 ?_
        show own_Go p.tables e below RR (T188.setTop (mkF m 40 #[.val (.ref pa), .val (.int (65536 : Int32)), .val (.ref b1), .val (.int (2 : Int32)), .val (.int ((pp2.toUInt32 >>> ((8 : Int32) &&& 31).toUInt32).toInt32))] [(.ref ab), (.ref ab)]))
        refine own_st (fun _ k => Jvm.RoadKit.acmp (g := (mkF m 40 #[.val (.ref pa), .val (.int (65536 : Int32)), .val (.ref b1), .val (.int (2 : Int32)), .val (.int ((pp2.toUInt32 >>> ((8 : Int32) &&& 31).toUInt32).toInt32))] [(.ref ab), (.ref ab)])) X188 hx rfl rfl rfl (pc0 := 40) (pc' := 43) (same := true) rfl (hb hby own_dprog_30_method_4_code_40) rfl (decide_eq_true rfl) (by decide) (by decide) (XS.aloadN X188.here hx rfl (hb hby own_dprog_30_method_4_code_43) rfl rfl (XS.iload X188.here hx rfl (hb hby own_dprog_30_method_4_code_44) rfl k))) ?_
        show own_Go p.tables e below RR (T188.setTop (mkF m 46 #[.val (.ref pa), .val (.int (65536 : Int32)), .val (.ref b1), .val (.int (2 : Int32)), .val (.int ((pp2.toUInt32 >>> ((8 : Int32) &&& 31).toUInt32).toInt32))] [(.int ((pp2.toUInt32 >>> ((8 : Int32) &&& 31).toUInt32).toInt32)), (.ref b1)]))
        obtain ⟨b189, gb189⟩ : ∃ z, z = h127.size := ⟨_, rfl⟩
        have ge189 : n0 ≤ b189 := Nat.le_trans z128 (Nat.le_of_eq gb189.symm)
        have sz189 : h0.size ≤ b189 := Nat.le_trans kk129.1 (Nat.le_of_eq gb189.symm)
        obtain ⟨_, _, ⟨T190, L190, k190, n190⟩, -, X190, ⟨Lc190, hQ190, l190, y190, z190⟩, st190⟩ := Jvm.LawKit.callS X188 hx (y := (⟨"com/example/shiftwise/shiftwise/search/BoyerMooreTables", "absentPage", "()[I"⟩ : MethodName)) hown (mvT hZ (hw _ (List.mem_of_getElem? (i := 25) rfl))) (mvT hZ (hw _ (List.mem_of_getElem? (i := 26) rfl))) (mvT hZ (hw _ (List.mem_of_getElem? (i := 5) rfl))) (mvT hZ (hw _ (List.mem_of_getElem? (i := 27) rfl))) (by decide) (backOf (W := 2) (own_rmAP l Z a0 hw [] b189 h127 n0 z128 gb189) hZ (hw _ (List.mem_of_getElem? (i := 27) rfl)) (hw _ (List.mem_of_getElem? (i := 5) rfl)) (by decide) (by decide)) (g := (mkF m 46 #[.val (.ref pa), .val (.int (65536 : Int32)), .val (.ref b1), .val (.int (2 : Int32)), .val (.int ((pp2.toUInt32 >>> ((8 : Int32) &&& 31).toUInt32).toInt32))] [(.int ((pp2.toUInt32 >>> ((8 : Int32) &&& 31).toUInt32).toInt32)), (.ref b1)])) rfl (by rw [hml]; rfl) (argsL := []) (rest := [(.int ((pp2.toUInt32 >>> ((8 : Int32) &&& 31).toUInt32).toInt32)), (.ref b1)]) (lenOf own_pd____I rfl) rfl (by show 2 * 0 + _ ≤ _; exact Nat.le_of_eq rfl) (hb hby own_dprog_30_method_4_code_46) (fun _ _ => ⟨rfl, e188, (by decide : 3 + 1 ≤ _), (by decide : 768 + 256 ≤ _)⟩)
        dsimp only [Pt.U, Pt.locs, Pt.cells, Pt.slots] at X190 l190 y190 z190 st190 hQ190
        subst l190 y190 z190
        obtain ⟨rfl, Nq190, Kq190, Eq190, kk190, Vq190⟩ := hQ190
        have N190 := Fr.app N127 Nq190
        refine own_st st190 ?_
        have z191 : n0 ≤ T190.heap.size := Nat.le_trans z128 Kq190.1
        have kk192 : Keep h0 T190.heap [] := kk129.trans Kq190 all0
        show own_Go p.tables e below RR (T190.setTop (mkF m 49 #[.val (.ref pa), .val (.int (65536 : Int32)), .val (.ref b1), .val (.int (2 : Int32)), .val (.int ((pp2.toUInt32 >>> ((8 : Int32) &&& 31).toUInt32).toInt32))] [(.ref b189), (.int ((pp2.toUInt32 >>> ((8 : Int32) &&& 31).toUInt32).toInt32)), (.ref b1)]))
        have f193 := (f185.keep Kq190 nin0)
        obtain ⟨c194, A194, q194, s194, m194, H194, G194⟩ := id f193
        obtain ⟨T195, h195, X195, e195, W195, st195⟩ := stR X190 hx hZ rfl A194 (j := ((pp2.toUInt32 >>> ((8 : Int32) &&& 31).toUInt32).toInt32)) (inb_of s194 (own_i256 (own_hr hb2))) rfl (Sto.ofVA A194 q194 O1 (Ins.self Eq190)) (g := (mkF m 49 #[.val (.ref pa), .val (.int (65536 : Int32)), .val (.ref b1), .val (.int (2 : Int32)), .val (.int ((pp2.toUInt32 >>> ((8 : Int32) &&& 31).toUInt32).toInt32))] [(.ref b189), (.int ((pp2.toUInt32 >>> ((8 : Int32) &&& 31).toUInt32).toInt32)), (.ref b1)])) rfl rfl (hb hby own_dprog_30_method_4_code_49)
        have U195 := Arv.set A194 q194 s194 m194 H194 G194 rfl W195 ((pp2.toUInt32 >>> ((8 : Int32) &&& 31).toUInt32).toInt32).toNatClampNeg rfl (by rw [(own_ls (own_ls (own_fl_len (Nat.le_refl 256) _ _)))]; exact own_ncl (own_hr hb2))
        have V195 : Arv Z h195 b1 k1 (.array .int) (256 : Int32) ((((own_fl 256 256 (.ref ab) .null).set ((pp0.toUInt32 >>> ((8 : Int32) &&& 31).toUInt32).toInt32).toNatClampNeg (.ref b17)).set ((pp1.toUInt32 >>> ((8 : Int32) &&& 31).toUInt32).toInt32).toNatClampNeg (.ref b112)).set ((pp2.toUInt32 >>> ((8 : Int32) &&& 31).toUInt32).toInt32).toNatClampNeg (.ref b189)) .null := U195
        have N195 := Fr.snoc X195 N190 ge1
        refine own_st st195 ?_
        have z196 : n0 ≤ h195.size := Nat.le_trans z191 (Keep.of_wr W195).1
        have kk197 : Keep h0 h195 [] := kk192.wr W195 (Or.inr sz1)
        show own_Go p.tables e below RR (T195.setTop (mkF m 50 #[.val (.ref pa), .val (.int (65536 : Int32)), .val (.ref b1), .val (.int (2 : Int32)), .val (.int ((pp2.toUInt32 >>> ((8 : Int32) &&& 31).toUInt32).toInt32))] []))
        refine own_st (fun _ k => XS.aloadN X195.here hx rfl (hb hby own_dprog_30_method_4_code_50) rfl rfl (XS.iload X195.here hx rfl (hb hby own_dprog_30_method_4_code_51) rfl k)) ?_
        show own_Go p.tables e below RR (T195.setTop (mkF m 53 #[.val (.ref pa), .val (.int (65536 : Int32)), .val (.ref b1), .val (.int (2 : Int32)), .val (.int ((pp2.toUInt32 >>> ((8 : Int32) &&& 31).toUInt32).toInt32))] [(.int ((pp2.toUInt32 >>> ((8 : Int32) &&& 31).toUInt32).toInt32)), (.ref b1)]))
        obtain ⟨c198, A198, q198, s198, m198, H198, G198⟩ := id V195
        have b198 := inb_of (j := ((pp2.toUInt32 >>> ((8 : Int32) &&& 31).toUInt32).toInt32)) s198 (own_i256 (own_hr hb2))
        refine own_st (fun _ k => X195.aaload hx (j := ((pp2.toUInt32 >>> ((8 : Int32) &&& 31).toUInt32).toInt32)) (v := (.ref b189)) (by rw [e195]; exact A198.1) (State.isArrayOf_alike hZ.alike A198.2.1) rfl A198.2.2 b198 (Has.at H198 b198 (own_hit (own_ls (own_ls (own_fl_len (Nat.le_refl 256) _ _))) (own_ncl (own_hr hb2)) (congrArg Int32.toNatClampNeg rfl))) (g := (mkF m 53 #[.val (.ref pa), .val (.int (65536 : Int32)), .val (.ref b1), .val (.int (2 : Int32)), .val (.int ((pp2.toUInt32 >>> ((8 : Int32) &&& 31).toUInt32).toInt32))] [(.int ((pp2.toUInt32 >>> ((8 : Int32) &&& 31).toUInt32).toInt32)), (.ref b1)])) rfl rfl (hb hby own_dprog_30_method_4_code_53) _ (XS.aloadN X195.here hx rfl (hb hby own_dprog_30_method_4_code_54) rfl rfl (XS.iloadN X195.here hx rfl (hb hby own_dprog_30_method_4_code_55) rfl k))) ?_
        show own_Go p.tables e below RR (T195.setTop (mkF m 56 #[.val (.ref pa), .val (.int (65536 : Int32)), .val (.ref b1), .val (.int (2 : Int32)), .val (.int ((pp2.toUInt32 >>> ((8 : Int32) &&& 31).toUInt32).toInt32))] [(.int (2 : Int32)), (.ref pa), (.ref b189)]))
        have f199 := ((f131.keep Kq190 nin0).other W195 ne10)
        obtain ⟨c200, A200, q200, s200, m200, H200, G200⟩ := id f199
        have b200 := inb_of (j := (2 : Int32)) s200 ⟨by decide, by decide⟩
        refine own_st (fun _ k => X195.iaload hx (j := (2 : Int32)) (v := (.int pp2)) (by rw [e195]; exact A200.1) (State.isArrayOf_alike hZ.alike A200.2.1) A200.2.2 b200 (Has.at H200 b200 rfl) (g := (mkF m 56 #[.val (.ref pa), .val (.int (65536 : Int32)), .val (.ref b1), .val (.int (2 : Int32)), .val (.int ((pp2.toUInt32 >>> ((8 : Int32) &&& 31).toUInt32).toInt32))] [(.int (2 : Int32)), (.ref pa), (.ref b189)])) rfl rfl (hb hby own_dprog_30_method_4_code_56) _ (XS.sipush X195.here hx rfl (hb hby own_dprog_30_method_4_code_57) (XS.iand X195.here hx rfl (hb hby own_dprog_30_method_4_code_60) rfl (XS.iloadN X195.here hx rfl (hb hby own_dprog_30_method_4_code_61) rfl k)))) ?_
        show own_Go p.tables e below RR (T195.setTop (mkF m 62 #[.val (.ref pa), .val (.int (65536 : Int32)), .val (.ref b1), .val (.int (2 : Int32)), .val (.int ((pp2.toUInt32 >>> ((8 : Int32) &&& 31).toUInt32).toInt32))] [(.int (2 : Int32)), (.int (pp2 &&& (255 : Int32))), (.ref b189)]))
        have ne201 : b1 ≠ b189 := (Nat.ne_of_lt (Nat.lt_of_lt_of_le (((((((B1.keep Kq7).keep Kq18).wr W23).wr W32).keep Kq113).wr W118).wr W127).lt (Nat.le_of_eq gb189.symm)))
        have f202 := (Vq190.other W195 (Ne.symm ne201))
        obtain ⟨c203, A203, q203, s203, m203, H203, G203⟩ := id f202
        obtain ⟨T204, h204, X204, e204, W204, st204⟩ := stI X195 hx hZ e195 A203 (j := (pp2 &&& (255 : Int32))) (inb_of s203 (own_i256 (own_lr _))) (g := (mkF m 62 #[.val (.ref pa), .val (.int (65536 : Int32)), .val (.ref b1), .val (.int (2 : Int32)), .val (.int ((pp2.toUInt32 >>> ((8 : Int32) &&& 31).toUInt32).toInt32))] [(.int (2 : Int32)), (.int (pp2 &&& (255 : Int32))), (.ref b189)])) rfl rfl (hb hby own_dprog_30_method_4_code_62)
        have U204 := Arv.set A203 q203 s203 m203 H203 G203 rfl W204 (pp2 &&& (255 : Int32)).toNatClampNeg rfl (by rw [(own_fl_len (Nat.le_refl 256) _ _)]; exact own_ncl (own_lr _))
        have V204 : Arv Z h204 b189 kk190 .int (256 : Int32) ((own_fl 256 256 (.int (-1 : Int32)) (.int (0 : Int32))).set (pp2 &&& (255 : Int32)).toNatClampNeg (.int (2 : Int32))) (.int (0 : Int32)) := U204
        have N204 := Fr.snoc X204 N195 ge189
        refine own_st st204 ?_
        have z205 : n0 ≤ h204.size := Nat.le_trans z196 (Keep.of_wr W204).1
        have kk206 : Keep h0 h204 [] := kk197.wr W204 (Or.inr sz189)
        show own_Go p.tables e below RR (T204.setTop (mkF m 63 #[.val (.ref pa), .val (.int (65536 : Int32)), .val (.ref b1), .val (.int (2 : Int32)), .val (.int ((pp2.toUInt32 >>> ((8 : Int32) &&& 31).toUInt32).toInt32))] []))
        refine own_st (fun _ k => XS.iinc X204.here hx rfl (hb hby own_dprog_30_method_4_code_63) rfl (l' := #[.val (.ref pa), .val (.int (65536 : Int32)), .val (.ref b1), .val (.int (3 : Int32)), .val (.int ((pp2.toUInt32 >>> ((8 : Int32) &&& 31).toUInt32).toInt32))]) rfl (XS.goto X204.here hx rfl (pc0 := 66) (pc' := 17) rfl (hb hby own_dprog_30_method_4_code_66) (by decide) (by decide) (XS.iloadN X204.here hx rfl (hb hby own_dprog_30_method_4_code_17) rfl (XS.aloadN X204.here hx rfl (hb hby own_dprog_30_method_4_code_18) rfl rfl k)))) ?_
        show own_Go p.tables e below RR (T204.setTop (mkF m 19 #[.val (.ref pa), .val (.int (65536 : Int32)), .val (.ref b1), .val (.int (3 : Int32)), .val (.int ((pp2.toUInt32 >>> ((8 : Int32) &&& 31).toUInt32).toInt32))] [(.ref pa), (.int (3 : Int32))]))
        have ne207 : pa ≠ b189 := (Nat.ne_of_lt (Nat.lt_of_lt_of_le f131.lt (Nat.le_of_eq gb189.symm)))
        have f208 := (f199.other W204 ne207)
        obtain ⟨c209, A209, -, s209, m209, -, -⟩ := id f208
        refine own_st (fun _ k => own_len X204 hx hZ e204 A209 s209 m209 (g := (mkF m 19 #[.val (.ref pa), .val (.int (65536 : Int32)), .val (.ref b1), .val (.int (3 : Int32)), .val (.int ((pp2.toUInt32 >>> ((8 : Int32) &&& 31).toUInt32).toInt32))] [(.ref pa), (.int (3 : Int32))])) rfl rfl (hb hby own_dprog_30_method_4_code_19) (XS.iconst X204.here hx rfl (hb hby own_dprog_30_method_4_code_20) (XS.isub X204.here hx rfl (hb hby own_dprog_30_method_4_code_21) rfl k))) ?_
        show own_Go p.tables e below RR (T204.setTop (mkF m 22 #[.val (.ref pa), .val (.int (65536 : Int32)), .val (.ref b1), .val (.int (3 : Int32)), .val (.int ((pp2.toUInt32 >>> ((8 : Int32) &&& 31).toUInt32).toInt32))] [(.int (3 : Int32)), (.int (3 : Int32))]))
        refine own_st (fun _ k => XS.icmpYes X204.here hx rfl (pc0 := 22) (pc' := 69) rfl (hb hby own_dprog_30_method_4_code_22) rfl (flt (by decide)).2.1 (by decide) (by decide) k) ?_
        show own_Go p.tables e below RR (T204.setTop (mkF m 69 #[.val (.ref pa), .val (.int (65536 : Int32)), .val (.ref b1), .val (.int (3 : Int32)), .val (.int ((pp2.toUInt32 >>> ((8 : Int32) &&& 31).toUInt32).toInt32))] []))
        by_cases hc69_210 : ((pp2.toUInt32 >>> ((8 : Int32) &&& 31).toUInt32).toInt32) = ((gc.toUInt32 >>> ((8 : Int32) &&& 31).toUInt32).toInt32)
        · show own_Go p.tables e below RR (T204.setTop (mkF m 69 #[.val (.ref pa), .val (.int (65536 : Int32)), .val (.ref b1), .val (.int (3 : Int32)), .val (.int ((pp2.toUInt32 >>> ((8 : Int32) &&& 31).toUInt32).toInt32))] []))
          refine own_st (fun _ k => XS.aloadN X204.here hx rfl (hb hby own_dprog_30_method_4_code_69) rfl rfl k) ?_
          show own_Go p.tables e below RR (T204.setTop (mkF m 70 #[.val (.ref pa), .val (.int (65536 : Int32)), .val (.ref b1), .val (.int (3 : Int32)), .val (.int ((pp2.toUInt32 >>> ((8 : Int32) &&& 31).toUInt32).toInt32))] [(.ref b1)]))
          obtain ⟨fs, hrt_, hrun, hended, hW, hsame⟩ := X204.leave (v := some (.ref b1)) (fun h => by rw [Bd.returns] at h; cases h)
          refine own_fin (retOut X204 hx Bd.returns rfl (Or.inr (Or.inr (Or.inr (Or.inr ⟨rfl, rfl, rfl⟩)))) (hb hby own_dprog_30_method_4_code_70) hrt_) (hRR _ ⟨_, hrun, hended, _, _, rfl, ?_, ⟨_, rfl⟩, hW, hsame.mono (by decide) (by decide)⟩)
          show own_QLP Z pa kp pp0 pp1 pp2 pp3 ab kb gc h0 n0 _ T204.heap _
          rw [e204]
          have f211 := (V195.other W204 ne201)
          exact ⟨_, rfl, N204, kk206, _, _, b189, _, _, f211, (own_hit (own_ls (own_ls (own_fl_len (Nat.le_refl 256) _ _))) (own_ncl (own_hr hb2)) (congrArg Int32.toNatClampNeg hc69_210.symm)), V204, (own_on hb2 hbc hc69_210 (own_fl_len (Nat.le_refl 256) _ _) (own_off (fun q => hc33_134 (hc69_210.trans q.symm)) (own_off (fun q => hc33_159 (hc69_210.trans q.symm)) (own_flg (own_ncl (own_lr gc)) _ _ _))))⟩
        · by_cases hc69_212 : ((pp1.toUInt32 >>> ((8 : Int32) &&& 31).toUInt32).toInt32) = ((gc.toUInt32 >>> ((8 : Int32) &&& 31).toUInt32).toInt32)
          · show own_Go p.tables e below RR (T204.setTop (mkF m 69 #[.val (.ref pa), .val (.int (65536 : Int32)), .val (.ref b1), .val (.int (3 : Int32)), .val (.int ((pp2.toUInt32 >>> ((8 : Int32) &&& 31).toUInt32).toInt32))] []))
            refine own_st (fun _ k => XS.aloadN X204.here hx rfl (hb hby own_dprog_30_method_4_code_69) rfl rfl k) ?_
            show own_Go p.tables e below RR (T204.setTop (mkF m 70 #[.val (.ref pa), .val (.int (65536 : Int32)), .val (.ref b1), .val (.int (3 : Int32)), .val (.int ((pp2.toUInt32 >>> ((8 : Int32) &&& 31).toUInt32).toInt32))] [(.ref b1)]))
            obtain ⟨fs, hrt_, hrun, hended, hW, hsame⟩ := X204.leave (v := some (.ref b1)) (fun h => by rw [Bd.returns] at h; cases h)
            refine own_fin (retOut X204 hx Bd.returns rfl (Or.inr (Or.inr (Or.inr (Or.inr ⟨rfl, rfl, rfl⟩)))) (hb hby own_dprog_30_method_4_code_70) hrt_) (hRR _ ⟨_, hrun, hended, _, _, rfl, ?_, ⟨_, rfl⟩, hW, hsame.mono (by decide) (by decide)⟩)
            show own_QLP Z pa kp pp0 pp1 pp2 pp3 ab kb gc h0 n0 _ T204.heap _
            rw [e204]
            have f213 := (V195.other W204 ne201)
            have ne214 : b112 ≠ b189 := (Nat.ne_of_lt (Nat.lt_of_lt_of_le ((Eq113.wr W118).wr W127).lt (Nat.le_of_eq gb189.symm)))
            have f215 := (((V127.keep Kq190 nin0).other W195 (Ne.symm ne124)).other W204 ne214)
            exact ⟨_, rfl, N204, kk206, _, _, b112, _, _, f213, (own_miss (own_ncne (own_hr hbc).1 (own_hr hb2).1 (fun q => hc69_210 q.symm)) (own_hit (own_ls (own_fl_len (Nat.le_refl 256) _ _)) (own_ncl (own_hr hb1)) (congrArg Int32.toNatClampNeg hc69_212.symm))), f215, (own_off hc69_210 (own_on hb1 hbc hc69_212 (own_fl_len (Nat.le_refl 256) _ _) (own_off (fun q => hc33_39 (hc69_212.trans q.symm)) (own_flg (own_ncl (own_lr gc)) _ _ _))))⟩
          · by_cases hc69_216 : ((pp0.toUInt32 >>> ((8 : Int32) &&& 31).toUInt32).toInt32) = ((gc.toUInt32 >>> ((8 : Int32) &&& 31).toUInt32).toInt32)
            · show own_Go p.tables e below RR (T204.setTop (mkF m 69 #[.val (.ref pa), .val (.int (65536 : Int32)), .val (.ref b1), .val (.int (3 : Int32)), .val (.int ((pp2.toUInt32 >>> ((8 : Int32) &&& 31).toUInt32).toInt32))] []))
              refine own_st (fun _ k => XS.aloadN X204.here hx rfl (hb hby own_dprog_30_method_4_code_69) rfl rfl k) ?_
              show own_Go p.tables e below RR (T204.setTop (mkF m 70 #[.val (.ref pa), .val (.int (65536 : Int32)), .val (.ref b1), .val (.int (3 : Int32)), .val (.int ((pp2.toUInt32 >>> ((8 : Int32) &&& 31).toUInt32).toInt32))] [(.ref b1)]))
              obtain ⟨fs, hrt_, hrun, hended, hW, hsame⟩ := X204.leave (v := some (.ref b1)) (fun h => by rw [Bd.returns] at h; cases h)
              refine own_fin (retOut X204 hx Bd.returns rfl (Or.inr (Or.inr (Or.inr (Or.inr ⟨rfl, rfl, rfl⟩)))) (hb hby own_dprog_30_method_4_code_70) hrt_) (hRR _ ⟨_, hrun, hended, _, _, rfl, ?_, ⟨_, rfl⟩, hW, hsame.mono (by decide) (by decide)⟩)
              show own_QLP Z pa kp pp0 pp1 pp2 pp3 ab kb gc h0 n0 _ T204.heap _
              rw [e204]
              have f217 := (V195.other W204 ne201)
              have ne218 : b17 ≠ b112 := (Nat.ne_of_lt (Nat.lt_of_lt_of_le ((Eq18.wr W23).wr W32).lt (Nat.le_of_eq gb112.symm)))
              have ne219 : b17 ≠ b189 := (Nat.ne_of_lt (Nat.lt_of_lt_of_le (((((Eq18.wr W23).wr W32).keep Kq113).wr W118).wr W127).lt (Nat.le_of_eq gb189.symm)))
              have f220 := ((((((V32.keep Kq113 nin0).other W118 (Ne.symm ne29)).other W127 ne218).keep Kq190 nin0).other W195 (Ne.symm ne29)).other W204 ne219)
              exact ⟨_, rfl, N204, kk206, _, _, b17, _, _, f217, (own_miss (own_ncne (own_hr hbc).1 (own_hr hb2).1 (fun q => hc69_210 q.symm)) (own_miss (own_ncne (own_hr hbc).1 (own_hr hb1).1 (fun q => hc69_212 q.symm)) (own_hit (own_fl_len (Nat.le_refl 256) _ _) (own_ncl (own_hr hb0)) (congrArg Int32.toNatClampNeg hc69_216.symm)))), f220, (own_off hc69_210 (own_off hc69_212 (own_on hb0 hbc hc69_216 (own_fl_len (Nat.le_refl 256) _ _) (own_flg (own_ncl (own_lr gc)) _ _ _))))⟩
            · show own_Go p.tables e below RR (T204.setTop (mkF m 69 #[.val (.ref pa), .val (.int (65536 : Int32)), .val (.ref b1), .val (.int (3 : Int32)), .val (.int ((pp2.toUInt32 >>> ((8 : Int32) &&& 31).toUInt32).toInt32))] []))
              refine own_st (fun _ k => XS.aloadN X204.here hx rfl (hb hby own_dprog_30_method_4_code_69) rfl rfl k) ?_
              show own_Go p.tables e below RR (T204.setTop (mkF m 70 #[.val (.ref pa), .val (.int (65536 : Int32)), .val (.ref b1), .val (.int (3 : Int32)), .val (.int ((pp2.toUInt32 >>> ((8 : Int32) &&& 31).toUInt32).toInt32))] [(.ref b1)]))
              obtain ⟨fs, hrt_, hrun, hended, hW, hsame⟩ := X204.leave (v := some (.ref b1)) (fun h => by rw [Bd.returns] at h; cases h)
              refine own_fin (retOut X204 hx Bd.returns rfl (Or.inr (Or.inr (Or.inr (Or.inr ⟨rfl, rfl, rfl⟩)))) (hb hby own_dprog_30_method_4_code_70) hrt_) (hRR _ ⟨_, hrun, hended, _, _, rfl, ?_, ⟨_, rfl⟩, hW, hsame.mono (by decide) (by decide)⟩)
              show own_QLP Z pa kp pp0 pp1 pp2 pp3 ab kb gc h0 n0 _ T204.heap _
              rw [e204]
              have f221 := (V195.other W204 ne201)
              have ne222 : ab ≠ b1 := (Nat.ne_of_lt (Nat.lt_of_lt_of_le Ea.lt (Nat.le_of_eq gb1.symm)))
              have ne223 : ab ≠ b17 := (Nat.ne_of_lt (Nat.lt_of_lt_of_le (f6.keep Kq7).lt (Nat.le_of_eq gb17.symm)))
              have ne224 : ab ≠ b112 := (Nat.ne_of_lt (Nat.lt_of_lt_of_le ((((f6.keep Kq7).keep Kq18).wr W23).wr W32).lt (Nat.le_of_eq gb112.symm)))
              have ne225 : ab ≠ b189 := (Nat.ne_of_lt (Nat.lt_of_lt_of_le (((((((f6.keep Kq7).keep Kq18).wr W23).wr W32).keep Kq113).wr W118).wr W127).lt (Nat.le_of_eq gb189.symm)))
              have f226 := (((((((((((Vab.ext E1).keep Kq7 (ninS ne222 nin0)).keep Kq18 nin0).other W23 ne222).other W32 ne223).keep Kq113 nin0).other W118 ne222).other W127 ne224).keep Kq190 nin0).other W195 ne222).other W204 ne225)
              exact ⟨_, rfl, N204, kk206, _, _, ab, _, _, f221, (own_miss (own_ncne (own_hr hbc).1 (own_hr hb2).1 (fun q => hc69_210 q.symm)) (own_miss (own_ncne (own_hr hbc).1 (own_hr hb1).1 (fun q => hc69_212 q.symm)) (own_miss (own_ncne (own_hr hbc).1 (own_hr hb0).1 (fun q => hc69_216 q.symm)) (own_flg (own_ncl (own_hr hbc)) _ _ _)))), f226, (own_off hc69_210 (own_off hc69_212 (own_off hc69_216 (own_flg (own_ncl (own_lr gc)) _ _ _))))⟩
theorem own_pf_java_lang_Mathmin : plainFor (⟨"java/lang/Math", "min", "(II)I"⟩ : MethodName) = true := by first | exact Jvm.Free.JP.mathPlain rfl (by decide +kernel) | decide +kernel
theorem own_djdk_29_method_69_code_0 : decode jdk_29_method_69_code 0 = .ok (.iload_n 0, 1) := by decide +kernel
theorem own_djdk_29_method_69_code_1 : decode jdk_29_method_69_code 1 = .ok (.iload_n 1, 1) := by decide +kernel
theorem own_djdk_29_method_69_code_2 : decode jdk_29_method_69_code 2 = .ok (.if_icmp .gt 7, 3) := by decide +kernel
theorem own_djdk_29_method_69_code_9 : decode jdk_29_method_69_code 9 = .ok (.iload_n 1, 1) := by decide +kernel
theorem own_djdk_29_method_69_code_10 : decode jdk_29_method_69_code 10 = .ok (.ireturn, 1) := by decide +kernel
theorem own_djdk_29_method_69_code_5 : decode jdk_29_method_69_code 5 = .ok (.iload_n 0, 1) := by decide +kernel
theorem own_djdk_29_method_69_code_6 : decode jdk_29_method_69_code 6 = .ok (.goto 4, 3) := by decide +kernel
theorem own_efMN (m : MethodId) (q1 : Int32) (q2 : Int32) : entryFrame m #[(.int q1), (.int q2)] 2 = mkF m 0 #[.val (.int q1), .val (.int q2)] [] := by first | (simp [entryFrame, mkF, argsToLocals, Value.category]; done) | rfl
def own_QMN (Z : State) (q1 : Int32) (q2 : Int32) (r : Int32) (h0 : Heap) (n0 : Nat) (rv__ : Option Value) (h : Heap) (rL__ : List Loc) : Prop := rv__ = some (.int r) ∧ Fr n0 rL__ ∧ h = h0
abbrev own_RMN : Room := { frames := 0, cells := 0, slots := 0, locals := 0 }
set_option maxRecDepth 65536 in
set_option maxHeartbeats 40000000 in
theorem own_rmMN (l : Launch) (Z : State) (a0 : Array Value) (hw : ∀ d ∈ tables_1, d.before a0 Z = true) (ws : List Jvm.Cond) (q1 : Int32) (q2 : Int32) (r : Int32) (h0 : Heap) (n0 : Nat) (Z0 : n0 ≤ h0.size) (hr : (if q2 < q1 then q2 else q1) = r) :
    MetFree l (⟨"java/lang/Math", "min", "(II)I"⟩ : MethodName) (head1 (Jvm.Cond.code (⟨"java/lang/Math", "min", "(II)I"⟩ : MethodName) jdk_29_method_69_code 2 (some .int) :: ws) own_RMN) (fun aa__ U => aa__ = #[(.int q1), (.int q2)] ∧ Z.Warmed39 U.vm ∧ U.heap = h0) (fun _ _ _ _ _ => True) (fun _ U oc_ U' => ∃ rv__ rL__, oc_ = .returned rv__ ∧ own_QMN Z q1 q2 r h0 n0 rv__ U'.heap rL__ ∧ FrameEnd U oc_ U' rL__ own_RMN.cells own_RMN.slots) := by
  refine MetFree.of_bodySF own_pf_java_lang_Mathmin hisR ?_
  intro p e s m args below meth c s₁ Bd hml0 hP hK
  obtain ⟨rfl, hZ, hh⟩ := hP
  have hx := Bd.exec
  have hby := Bd.bytes
  have hml : c.maxLocals = 2 := hml0
  have hown : s.vm.findClass "java/lang/Math" = some m.cls := findClass_of_methodNamed Bd.named
  have hnm := (name_of_methodNamed Bd.named Bd.method).1
  have X0 : Stand p l e own_RMN s m #[(.int q1), (.int q2)] below meth c s₁ [] 0 0 := Stand.of_body Bd
  have e0 : s₁.heap = h0 := by rw [← hh, Bd.state]; rfl
  have N0 := Fr.nil n0
  refine own_in (fun _ k => castTop (own_efMN m q1 q2) k) ?_
  intro RR hRR
  show own_Go p.tables e below RR (s₁.setTop (mkF m 0 #[.val (.int q1), .val (.int q2)] []))
  refine own_st (fun _ k => XS.iloadN X0.here hx rfl (hb hby own_djdk_29_method_69_code_0) rfl (XS.iloadN X0.here hx rfl (hb hby own_djdk_29_method_69_code_1) rfl k)) ?_
  show own_Go p.tables e below RR (s₁.setTop (mkF m 2 #[.val (.int q1), .val (.int q2)] [(.int q2), (.int q1)]))
  by_cases hc2_1 : q2 < q1
  · refine own_st (fun _ k => XS.icmpYes X0.here hx rfl (pc0 := 2) (pc' := 9) rfl (hb hby own_djdk_29_method_69_code_2) rfl (tlt hc2_1).2.2.1 (by decide) (by decide) (XS.iloadN X0.here hx rfl (hb hby own_djdk_29_method_69_code_9) rfl k)) ?_
    show own_Go p.tables e below RR (s₁.setTop (mkF m 10 #[.val (.int q1), .val (.int q2)] [(.int q2)]))
    obtain ⟨fs, hrt_, hrun, hended, hW, hsame⟩ := X0.leave (v := some (.int q2)) (fun h => by rw [Bd.returns] at h; cases h)
    refine own_fin (retI X0 hx Bd.returns (hb hby own_djdk_29_method_69_code_10) hrt_) (hRR _ ⟨_, hrun, hended, _, _, rfl, ?_, ⟨_, rfl⟩, hW, hsame.mono (by decide) (by decide)⟩)
    show own_QMN Z q1 q2 r h0 n0 _ s₁.heap _
    rw [e0]
    exact ⟨own_ri (by first | simpa only [hc2_1, if_true, if_false] using hr | simpa [hc2_1] using hr), N0, rfl⟩
  · refine own_st (fun _ k => XS.icmpNo X0.here hx rfl (hb hby own_djdk_29_method_69_code_2) rfl (flt hc2_1).2.2.1 (XS.iloadN X0.here hx rfl (hb hby own_djdk_29_method_69_code_5) rfl (XS.goto X0.here hx rfl (pc0 := 6) (pc' := 10) rfl (hb hby own_djdk_29_method_69_code_6) (by decide) (by decide) k))) ?_
    show own_Go p.tables e below RR (s₁.setTop (mkF m 10 #[.val (.int q1), .val (.int q2)] [(.int q1)]))
    obtain ⟨fs, hrt_, hrun, hended, hW, hsame⟩ := X0.leave (v := some (.int q1)) (fun h => by rw [Bd.returns] at h; cases h)
    refine own_fin (retI X0 hx Bd.returns (hb hby own_djdk_29_method_69_code_10) hrt_) (hRR _ ⟨_, hrun, hended, _, _, rfl, ?_, ⟨_, rfl⟩, hW, hsame.mono (by decide) (by decide)⟩)
    show own_QMN Z q1 q2 r h0 n0 _ s₁.heap _
    rw [e0]
    exact ⟨own_ri (by first | simpa only [hc2_1, if_true, if_false] using hr | simpa [hc2_1] using hr), N0, rfl⟩
theorem own_dprog_30_method_7_code_0 : decode prog_30_method_7_code 0 = .ok (.aload_n 0, 1) := by decide +kernel
theorem own_dprog_30_method_7_code_1 : decode prog_30_method_7_code 1 = .ok (.arraylength, 1) := by decide +kernel
theorem own_dprog_30_method_7_code_2 : decode prog_30_method_7_code 2 = .ok (.istore_n 1, 1) := by decide +kernel
theorem own_dprog_30_method_7_code_3 : decode prog_30_method_7_code 3 = .ok (.iload_n 1, 1) := by decide +kernel
theorem own_dprog_30_method_7_code_4 : decode prog_30_method_7_code 4 = .ok (.newarray .int, 2) := by decide +kernel
theorem own_dprog_30_method_7_code_6 : decode prog_30_method_7_code 6 = .ok (.astore_n 2, 1) := by decide +kernel
theorem own_dprog_30_method_7_code_7 : decode prog_30_method_7_code 7 = .ok (.iconst 0, 1) := by decide +kernel
theorem own_dprog_30_method_7_code_8 : decode prog_30_method_7_code 8 = .ok (.istore_n 3, 1) := by decide +kernel
theorem own_dprog_30_method_7_code_9 : decode prog_30_method_7_code 9 = .ok (.iload_n 3, 1) := by decide +kernel
theorem own_dprog_30_method_7_code_10 : decode prog_30_method_7_code 10 = .ok (.iload_n 1, 1) := by decide +kernel
theorem own_dprog_30_method_7_code_11 : decode prog_30_method_7_code 11 = .ok (.if_icmp .ge 19, 3) := by decide +kernel
theorem own_dprog_30_method_7_code_14 : decode prog_30_method_7_code 14 = .ok (.aload_n 2, 1) := by decide +kernel
theorem own_dprog_30_method_7_code_15 : decode prog_30_method_7_code 15 = .ok (.iload_n 3, 1) := by decide +kernel
theorem own_dprog_30_method_7_code_16 : decode prog_30_method_7_code 16 = .ok (.aload_n 0, 1) := by decide +kernel
theorem own_dprog_30_method_7_code_17 : decode prog_30_method_7_code 17 = .ok (.iload_n 1, 1) := by decide +kernel
theorem own_dprog_30_method_7_code_18 : decode prog_30_method_7_code 18 = .ok (.iconst 1, 1) := by decide +kernel
theorem own_dprog_30_method_7_code_19 : decode prog_30_method_7_code 19 = .ok (.isub, 1) := by decide +kernel
theorem own_dprog_30_method_7_code_20 : decode prog_30_method_7_code 20 = .ok (.iload_n 3, 1) := by decide +kernel
theorem own_dprog_30_method_7_code_21 : decode prog_30_method_7_code 21 = .ok (.isub, 1) := by decide +kernel
theorem own_dprog_30_method_7_code_22 : decode prog_30_method_7_code 22 = .ok (.iaload, 1) := by decide +kernel
theorem own_dprog_30_method_7_code_23 : decode prog_30_method_7_code 23 = .ok (.iastore, 1) := by decide +kernel
theorem own_dprog_30_method_7_code_24 : decode prog_30_method_7_code 24 = .ok (.iinc 3 1, 3) := by decide +kernel
theorem own_dprog_30_method_7_code_27 : decode prog_30_method_7_code 27 = .ok (.goto (-18), 3) := by decide +kernel
theorem own_dprog_30_method_7_code_30 : decode prog_30_method_7_code 30 = .ok (.iload_n 1, 1) := by decide +kernel
theorem own_dprog_30_method_7_code_31 : decode prog_30_method_7_code 31 = .ok (.newarray .int, 2) := by decide +kernel
theorem own_dprog_30_method_7_code_33 : decode prog_30_method_7_code 33 = .ok (.astore_n 3, 1) := by decide +kernel
theorem own_dprog_30_method_7_code_34 : decode prog_30_method_7_code 34 = .ok (.aload_n 3, 1) := by decide +kernel
theorem own_dprog_30_method_7_code_35 : decode prog_30_method_7_code 35 = .ok (.iconst 0, 1) := by decide +kernel
theorem own_dprog_30_method_7_code_36 : decode prog_30_method_7_code 36 = .ok (.iload_n 1, 1) := by decide +kernel
theorem own_dprog_30_method_7_code_37 : decode prog_30_method_7_code 37 = .ok (.iastore, 1) := by decide +kernel
theorem own_dprog_30_method_7_code_38 : decode prog_30_method_7_code 38 = .ok (.iconst 0, 1) := by decide +kernel
theorem own_dprog_30_method_7_code_39 : decode prog_30_method_7_code 39 = .ok (.istore 4, 2) := by decide +kernel
theorem own_dprog_30_method_7_code_41 : decode prog_30_method_7_code 41 = .ok (.iconst 0, 1) := by decide +kernel
theorem own_dprog_30_method_7_code_42 : decode prog_30_method_7_code 42 = .ok (.istore 5, 2) := by decide +kernel
theorem own_dprog_30_method_7_code_44 : decode prog_30_method_7_code 44 = .ok (.iconst 1, 1) := by decide +kernel
theorem own_dprog_30_method_7_code_45 : decode prog_30_method_7_code 45 = .ok (.istore 6, 2) := by decide +kernel
theorem own_dprog_30_method_7_code_142 : decode prog_30_method_7_code 142 = .ok (.iload_n 1, 1) := by decide +kernel
theorem own_dprog_30_method_7_code_143 : decode prog_30_method_7_code 143 = .ok (.newarray .int, 2) := by decide +kernel
theorem own_dprog_30_method_7_code_145 : decode prog_30_method_7_code 145 = .ok (.astore 6, 2) := by decide +kernel
theorem own_dprog_30_method_7_code_147 : decode prog_30_method_7_code 147 = .ok (.iconst 0, 1) := by decide +kernel
theorem own_dprog_30_method_7_code_148 : decode prog_30_method_7_code 148 = .ok (.istore 7, 2) := by decide +kernel
theorem own_dprog_30_method_7_code_150 : decode prog_30_method_7_code 150 = .ok (.iload 7, 2) := by decide +kernel
theorem own_dprog_30_method_7_code_152 : decode prog_30_method_7_code 152 = .ok (.iload_n 1, 1) := by decide +kernel
theorem own_dprog_30_method_7_code_153 : decode prog_30_method_7_code 153 = .ok (.if_icmp .ge 22, 3) := by decide +kernel
theorem own_dprog_30_method_7_code_156 : decode prog_30_method_7_code 156 = .ok (.aload 6, 2) := by decide +kernel
theorem own_dprog_30_method_7_code_158 : decode prog_30_method_7_code 158 = .ok (.iload 7, 2) := by decide +kernel
theorem own_dprog_30_method_7_code_160 : decode prog_30_method_7_code 160 = .ok (.aload_n 3, 1) := by decide +kernel
theorem own_dprog_30_method_7_code_161 : decode prog_30_method_7_code 161 = .ok (.iload_n 1, 1) := by decide +kernel
theorem own_dprog_30_method_7_code_162 : decode prog_30_method_7_code 162 = .ok (.iconst 1, 1) := by decide +kernel
theorem own_dprog_30_method_7_code_163 : decode prog_30_method_7_code 163 = .ok (.isub, 1) := by decide +kernel
theorem own_dprog_30_method_7_code_164 : decode prog_30_method_7_code 164 = .ok (.iload 7, 2) := by decide +kernel
theorem own_dprog_30_method_7_code_166 : decode prog_30_method_7_code 166 = .ok (.isub, 1) := by decide +kernel
theorem own_dprog_30_method_7_code_167 : decode prog_30_method_7_code 167 = .ok (.iaload, 1) := by decide +kernel
theorem own_dprog_30_method_7_code_168 : decode prog_30_method_7_code 168 = .ok (.iastore, 1) := by decide +kernel
theorem own_dprog_30_method_7_code_169 : decode prog_30_method_7_code 169 = .ok (.iinc 7 1, 3) := by decide +kernel
theorem own_dprog_30_method_7_code_172 : decode prog_30_method_7_code 172 = .ok (.goto (-22), 3) := by decide +kernel
theorem own_dprog_30_method_7_code_175 : decode prog_30_method_7_code 175 = .ok (.aload 6, 2) := by decide +kernel
theorem own_dprog_30_method_7_code_177 : decode prog_30_method_7_code 177 = .ok (.areturn, 1) := by decide +kernel
theorem own_dprog_30_method_7_code_47 : decode prog_30_method_7_code 47 = .ok (.iload 6, 2) := by decide +kernel
theorem own_dprog_30_method_7_code_49 : decode prog_30_method_7_code 49 = .ok (.iload_n 1, 1) := by decide +kernel
theorem own_dprog_30_method_7_code_50 : decode prog_30_method_7_code 50 = .ok (.if_icmp .ge 92, 3) := by decide +kernel
theorem own_dprog_30_method_7_code_53 : decode prog_30_method_7_code 53 = .ok (.iconst 0, 1) := by decide +kernel
theorem own_dprog_30_method_7_code_54 : decode prog_30_method_7_code 54 = .ok (.istore 7, 2) := by decide +kernel
theorem own_dprog_30_method_7_code_56 : decode prog_30_method_7_code 56 = .ok (.iload 6, 2) := by decide +kernel
theorem own_dprog_30_method_7_code_58 : decode prog_30_method_7_code 58 = .ok (.iload 5, 2) := by decide +kernel
theorem own_dprog_30_method_7_code_60 : decode prog_30_method_7_code 60 = .ok (.if_icmp .ge 20, 3) := by decide +kernel
theorem own_dprog_30_method_7_code_80 : decode prog_30_method_7_code 80 = .ok (.iload 6, 2) := by decide +kernel
theorem own_dprog_30_method_7_code_82 : decode prog_30_method_7_code 82 = .ok (.iload 7, 2) := by decide +kernel
theorem own_dprog_30_method_7_code_84 : decode prog_30_method_7_code 84 = .ok (.iadd, 1) := by decide +kernel
theorem own_dprog_30_method_7_code_85 : decode prog_30_method_7_code 85 = .ok (.iload_n 1, 1) := by decide +kernel
theorem own_dprog_30_method_7_code_86 : decode prog_30_method_7_code 86 = .ok (.if_icmp .ge 23, 3) := by decide +kernel
theorem own_dprog_30_method_7_code_89 : decode prog_30_method_7_code 89 = .ok (.aload_n 2, 1) := by decide +kernel
theorem own_dprog_30_method_7_code_90 : decode prog_30_method_7_code 90 = .ok (.iload 7, 2) := by decide +kernel
theorem own_dprog_30_method_7_code_92 : decode prog_30_method_7_code 92 = .ok (.iaload, 1) := by decide +kernel
theorem own_dprog_30_method_7_code_93 : decode prog_30_method_7_code 93 = .ok (.aload_n 2, 1) := by decide +kernel
theorem own_dprog_30_method_7_code_94 : decode prog_30_method_7_code 94 = .ok (.iload 6, 2) := by decide +kernel
theorem own_dprog_30_method_7_code_96 : decode prog_30_method_7_code 96 = .ok (.iload 7, 2) := by decide +kernel
theorem own_dprog_30_method_7_code_98 : decode prog_30_method_7_code 98 = .ok (.iadd, 1) := by decide +kernel
theorem own_dprog_30_method_7_code_99 : decode prog_30_method_7_code 99 = .ok (.iaload, 1) := by decide +kernel
theorem own_dprog_30_method_7_code_100 : decode prog_30_method_7_code 100 = .ok (.if_icmp .ne 9, 3) := by decide +kernel
theorem own_dprog_30_method_7_code_103 : decode prog_30_method_7_code 103 = .ok (.iinc 7 1, 3) := by decide +kernel
theorem own_dprog_30_method_7_code_106 : decode prog_30_method_7_code 106 = .ok (.goto (-26), 3) := by decide +kernel
theorem own_dprog_30_method_7_code_109 : decode prog_30_method_7_code 109 = .ok (.aload_n 3, 1) := by decide +kernel
theorem own_dprog_30_method_7_code_110 : decode prog_30_method_7_code 110 = .ok (.iload 6, 2) := by decide +kernel
theorem own_dprog_30_method_7_code_112 : decode prog_30_method_7_code 112 = .ok (.iload 7, 2) := by decide +kernel
theorem own_dprog_30_method_7_code_114 : decode prog_30_method_7_code 114 = .ok (.iastore, 1) := by decide +kernel
theorem own_dprog_30_method_7_code_115 : decode prog_30_method_7_code 115 = .ok (.iload 6, 2) := by decide +kernel
theorem own_dprog_30_method_7_code_117 : decode prog_30_method_7_code 117 = .ok (.iload 7, 2) := by decide +kernel
theorem own_dprog_30_method_7_code_119 : decode prog_30_method_7_code 119 = .ok (.iadd, 1) := by decide +kernel
theorem own_dprog_30_method_7_code_120 : decode prog_30_method_7_code 120 = .ok (.iload 5, 2) := by decide +kernel
theorem own_dprog_30_method_7_code_122 : decode prog_30_method_7_code 122 = .ok (.if_icmp .le 14, 3) := by decide +kernel
theorem own_dprog_30_method_7_code_125 : decode prog_30_method_7_code 125 = .ok (.iload 6, 2) := by decide +kernel
theorem own_dprog_30_method_7_code_127 : decode prog_30_method_7_code 127 = .ok (.istore 4, 2) := by decide +kernel
theorem own_dprog_30_method_7_code_129 : decode prog_30_method_7_code 129 = .ok (.iload 6, 2) := by decide +kernel
theorem own_dprog_30_method_7_code_131 : decode prog_30_method_7_code 131 = .ok (.iload 7, 2) := by decide +kernel
theorem own_dprog_30_method_7_code_133 : decode prog_30_method_7_code 133 = .ok (.iadd, 1) := by decide +kernel
theorem own_dprog_30_method_7_code_134 : decode prog_30_method_7_code 134 = .ok (.istore 5, 2) := by decide +kernel
theorem own_dprog_30_method_7_code_136 : decode prog_30_method_7_code 136 = .ok (.iinc 6 1, 3) := by decide +kernel
theorem own_dprog_30_method_7_code_139 : decode prog_30_method_7_code 139 = .ok (.goto (-92), 3) := by decide +kernel
theorem own_dprog_30_method_7_code_63 : decode prog_30_method_7_code 63 = .ok (.iload 5, 2) := by decide +kernel
theorem own_dprog_30_method_7_code_65 : decode prog_30_method_7_code 65 = .ok (.iload 6, 2) := by decide +kernel
theorem own_dprog_30_method_7_code_67 : decode prog_30_method_7_code 67 = .ok (.isub, 1) := by decide +kernel
theorem own_dprog_30_method_7_code_68 : decode prog_30_method_7_code 68 = .ok (.aload_n 3, 1) := by decide +kernel
theorem own_dprog_30_method_7_code_69 : decode prog_30_method_7_code 69 = .ok (.iload 6, 2) := by decide +kernel
theorem own_dprog_30_method_7_code_71 : decode prog_30_method_7_code 71 = .ok (.iload 4, 2) := by decide +kernel
theorem own_dprog_30_method_7_code_73 : decode prog_30_method_7_code 73 = .ok (.isub, 1) := by decide +kernel
theorem own_dprog_30_method_7_code_74 : decode prog_30_method_7_code 74 = .ok (.iaload, 1) := by decide +kernel
theorem own_pd__II_I : parseMethodDescriptor "(II)I" = some ⟨[.int, .int], some .int⟩ := by decide +kernel
theorem own_dprog_30_method_7_code_75 : decode prog_30_method_7_code 75 = .ok (.invokestatic 43, 3) := by decide +kernel
theorem own_dprog_30_method_7_code_78 : decode prog_30_method_7_code 78 = .ok (.istore 7, 2) := by decide +kernel
theorem own_efCS (m : MethodId) (pa : Addr) : entryFrame m #[(.ref pa)] 8 = mkF m 0 #[.val (.ref pa), .unset, .unset, .unset, .unset, .unset, .unset, .unset] [] := by first | (simp [entryFrame, mkF, argsToLocals, Value.category]; done) | rfl
def own_QCS (Z : State) (pa : Addr) (kp : ClassId) (pp0 : Int32) (pp1 : Int32) (pp2 : Int32) (pp3 : Int32) (h0 : Heap) (n0 : Nat) (rv__ : Option Value) (h : Heap) (rL__ : List Loc) : Prop := ∃ r__ : Addr, rv__ = some (.ref r__) ∧ Fr n0 rL__ ∧ Keep h0 h [] ∧ ∃ (kr : ClassId) (sv0 sv1 sv2 sv3 : Int32), Arv Z h r__ kr .int (4 : Int32) [(.int sv0), (.int sv1), (.int sv2), (.int sv3)] (.int (0 : Int32)) ∧ (0 ≤ sv0.toInt ∧ 0 ≤ sv1.toInt ∧ 0 ≤ sv2.toInt ∧ 0 ≤ sv3.toInt)
abbrev own_RCS : Room := { frames := 1, cells := 3, slots := 12, locals := 13 }
set_option maxRecDepth 65536 in
set_option maxHeartbeats 40000000 in
theorem own_rmCS (l : Launch) (Z : State) (a0 : Array Value) (hw : ∀ d ∈ tables_1, d.before a0 Z = true) (ws : List Jvm.Cond) (pa : Addr) (kp : ClassId) (pp0 : Int32) (pp1 : Int32) (pp2 : Int32) (pp3 : Int32) (h0 : Heap) (n0 : Nat) (Z0 : n0 ≤ h0.size) (Vp : Arv Z h0 pa kp .int (4 : Int32) [(.int pp0), (.int pp1), (.int pp2), (.int pp3)] (.int (0 : Int32))) :
    MetFree l (⟨"com/example/shiftwise/shiftwise/search/BoyerMooreTables", "commonSuffixLengths", "([I)[I"⟩ : MethodName) (head1 (Jvm.Cond.code (⟨"com/example/shiftwise/shiftwise/search/BoyerMooreTables", "commonSuffixLengths", "([I)[I"⟩ : MethodName) prog_30_method_7_code 8 (some (.array .int)) :: ws) own_RCS) (fun aa__ U => aa__ = #[(.ref pa)] ∧ Z.Warmed39 U.vm ∧ U.heap = h0) (fun _ _ _ _ _ => True) (fun _ U oc_ U' => ∃ rv__ rL__, oc_ = .returned rv__ ∧ own_QCS Z pa kp pp0 pp1 pp2 pp3 h0 n0 rv__ U'.heap rL__ ∧ FrameEnd U oc_ U' rL__ own_RCS.cells own_RCS.slots) := by
  refine MetFree.of_bodySF (plainFor_of_name own_pn_com_example_shiftwise_shiftwise_search_BoyerMooreTables) hisR ?_
  intro p e s m args below meth c s₁ Bd hml0 hP hK
  obtain ⟨rfl, hZ, hh⟩ := hP
  have hx := Bd.exec
  have hby := Bd.bytes
  have hml : c.maxLocals = 8 := hml0
  have hown : s.vm.findClass "com/example/shiftwise/shiftwise/search/BoyerMooreTables" = some m.cls := findClass_of_methodNamed Bd.named
  have hnm := (name_of_methodNamed Bd.named Bd.method).1
  have X0 : Stand p l e own_RCS s m #[(.ref pa)] below meth c s₁ [] 0 0 := Stand.of_body Bd
  have e0 : s₁.heap = h0 := by rw [← hh, Bd.state]; rfl
  have N0 := Fr.nil n0
  refine own_in (fun _ k => castTop (own_efCS m pa) k) ?_
  intro RR hRR
  show own_Go p.tables e below RR (s₁.setTop (mkF m 0 #[.val (.ref pa), .unset, .unset, .unset, .unset, .unset, .unset, .unset] []))
  refine own_st (fun _ k => XS.aloadN X0.here hx rfl (hb hby own_dprog_30_method_7_code_0) rfl rfl k) ?_
  show own_Go p.tables e below RR (s₁.setTop (mkF m 1 #[.val (.ref pa), .unset, .unset, .unset, .unset, .unset, .unset, .unset] [(.ref pa)]))
  obtain ⟨c1, A1, -, s1, m1, -, -⟩ := id Vp
  refine own_st (fun _ k => own_len X0 hx hZ e0 A1 s1 m1 (g := (mkF m 1 #[.val (.ref pa), .unset, .unset, .unset, .unset, .unset, .unset, .unset] [(.ref pa)])) rfl rfl (hb hby own_dprog_30_method_7_code_1) (XS.istoreN X0.here hx rfl (hb hby own_dprog_30_method_7_code_2) rfl (l' := #[.val (.ref pa), .val (.int (4 : Int32)), .unset, .unset, .unset, .unset, .unset, .unset]) rfl (XS.iloadN X0.here hx rfl (hb hby own_dprog_30_method_7_code_3) rfl k))) ?_
  show own_Go p.tables e below RR (s₁.setTop (mkF m 4 #[.val (.ref pa), .val (.int (4 : Int32)), .unset, .unset, .unset, .unset, .unset, .unset] [(.int (4 : Int32))]))
  obtain ⟨T2, h2, k2, X2, e2, E2, A2, B2, st2⟩ := newPE X0 hx hZ (hw _ (List.mem_of_getElem? (i := 2) rfl)) e0 (g := (mkF m 4 #[.val (.ref pa), .val (.int (4 : Int32)), .unset, .unset, .unset, .unset, .unset, .unset] [(.int (4 : Int32))])) rfl (hb hby own_dprog_30_method_7_code_4) rfl (by decide) (cap := 4) (by decide) (by decide) (by decide) (by decide) (ad := "[I") (by decide)
  obtain ⟨b2, gb2⟩ : ∃ z, z = h0.size := ⟨_, rfl⟩
  rw [← gb2] at A2 B2 st2
  have ge2 : n0 ≤ b2 := Nat.le_trans Z0 (Nat.le_of_eq gb2.symm)
  have sz2 : h0.size ≤ b2 := Nat.le_trans (Keep.refl h0 []).1 (Nat.le_of_eq gb2.symm)
  refine own_st st2 ?_
  have z3 : n0 ≤ h2.size := Nat.le_trans Z0 E2.1
  have kk4 : Keep h0 h2 [] := (Keep.refl h0 []).ext E2
  have V2 : Arv Z h2 b2 k2 .int (4 : Int32) [(.int (0 : Int32)), (.int (0 : Int32)), (.int (0 : Int32)), (.int (0 : Int32))] (.int (0 : Int32)) := (Arv.new A2 (by decide)).pad (pad_rep [] (.int (0 : Int32)) 4)
  show own_Go p.tables e below RR (T2.setTop (mkF m 6 #[.val (.ref pa), .val (.int (4 : Int32)), .unset, .unset, .unset, .unset, .unset, .unset] [(.ref b2)]))
  refine own_st (fun _ k => XS.astoreN X2.here hx rfl (hb hby own_dprog_30_method_7_code_6) rfl rfl (l' := #[.val (.ref pa), .val (.int (4 : Int32)), .val (.ref b2), .unset, .unset, .unset, .unset, .unset]) rfl (XS.iconst X2.here hx rfl (hb hby own_dprog_30_method_7_code_7) (XS.istoreN X2.here hx rfl (hb hby own_dprog_30_method_7_code_8) rfl (l' := #[.val (.ref pa), .val (.int (4 : Int32)), .val (.ref b2), .val (.int (0 : Int32)), .unset, .unset, .unset, .unset]) rfl (XS.iloadN X2.here hx rfl (hb hby own_dprog_30_method_7_code_9) rfl (XS.iloadN X2.here hx rfl (hb hby own_dprog_30_method_7_code_10) rfl k))))) ?_
  show own_Go p.tables e below RR (T2.setTop (mkF m 11 #[.val (.ref pa), .val (.int (4 : Int32)), .val (.ref b2), .val (.int (0 : Int32)), .unset, .unset, .unset, .unset] [(.int (4 : Int32)), (.int (0 : Int32))]))
  refine own_st (fun _ k => XS.icmpNo X2.here hx rfl (hb hby own_dprog_30_method_7_code_11) rfl (tlt (by decide)).2.1 (XS.aloadN X2.here hx rfl (hb hby own_dprog_30_method_7_code_14) rfl rfl (XS.iloadN X2.here hx rfl (hb hby own_dprog_30_method_7_code_15) rfl (XS.aloadN X2.here hx rfl (hb hby own_dprog_30_method_7_code_16) rfl rfl (XS.iloadN X2.here hx rfl (hb hby own_dprog_30_method_7_code_17) rfl (XS.iconst X2.here hx rfl (hb hby own_dprog_30_method_7_code_18) (XS.isub X2.here hx rfl (hb hby own_dprog_30_method_7_code_19) rfl (XS.iloadN X2.here hx rfl (hb hby own_dprog_30_method_7_code_20) rfl k)))))))) ?_
  show own_Go p.tables e below RR (T2.setTop (mkF m 21 #[.val (.ref pa), .val (.int (4 : Int32)), .val (.ref b2), .val (.int (0 : Int32)), .unset, .unset, .unset, .unset] [(.int (0 : Int32)), (.int (3 : Int32)), (.ref pa), (.int (0 : Int32)), (.ref b2)]))
  refine own_st (fun _ k => XS.isub X2.here hx rfl (hb hby own_dprog_30_method_7_code_21) rfl k) ?_
  show own_Go p.tables e below RR (T2.setTop (mkF m 22 #[.val (.ref pa), .val (.int (4 : Int32)), .val (.ref b2), .val (.int (0 : Int32)), .unset, .unset, .unset, .unset] [(.int (3 : Int32)), (.ref pa), (.int (0 : Int32)), (.ref b2)]))
  have f5 := (Vp.ext E2)
  obtain ⟨c6, A6, q6, s6, m6, H6, G6⟩ := id f5
  have b6 := inb_of (j := (3 : Int32)) s6 ⟨by decide, by decide⟩
  refine own_st (fun _ k => X2.iaload hx (j := (3 : Int32)) (v := (.int pp3)) (by rw [e2]; exact A6.1) (State.isArrayOf_alike hZ.alike A6.2.1) A6.2.2 b6 (Has.at H6 b6 rfl) (g := (mkF m 22 #[.val (.ref pa), .val (.int (4 : Int32)), .val (.ref b2), .val (.int (0 : Int32)), .unset, .unset, .unset, .unset] [(.int (3 : Int32)), (.ref pa), (.int (0 : Int32)), (.ref b2)])) rfl rfl (hb hby own_dprog_30_method_7_code_22) _ k) ?_
  show own_Go p.tables e below RR (T2.setTop (mkF m 23 #[.val (.ref pa), .val (.int (4 : Int32)), .val (.ref b2), .val (.int (0 : Int32)), .unset, .unset, .unset, .unset] [(.int pp3), (.int (0 : Int32)), (.ref b2)]))
  obtain ⟨c7, A7, q7, s7, m7, H7, G7⟩ := id V2
  obtain ⟨T8, h8, X8, e8, W8, st8⟩ := stI X2 hx hZ e2 A7 (j := (0 : Int32)) (inb_of s7 ⟨by decide, by decide⟩) (g := (mkF m 23 #[.val (.ref pa), .val (.int (4 : Int32)), .val (.ref b2), .val (.int (0 : Int32)), .unset, .unset, .unset, .unset] [(.int pp3), (.int (0 : Int32)), (.ref b2)])) rfl rfl (hb hby own_dprog_30_method_7_code_23)
  have V8 := Arv.set A7 q7 s7 m7 H7 G7 rfl W8 0 rfl (Nat.le_of_ble_eq_true rfl)
  have V8 : Arv Z h8 b2 k2 .int (4 : Int32) [(.int pp3), (.int (0 : Int32)), (.int (0 : Int32)), (.int (0 : Int32))] (.int (0 : Int32)) := V8
  have N8 := Fr.snoc X8 N0 ge2
  refine own_st st8 ?_
  have z9 : n0 ≤ h8.size := Nat.le_trans z3 (Keep.of_wr W8).1
  have kk10 : Keep h0 h8 [] := kk4.wr W8 (Or.inr sz2)
  show own_Go p.tables e below RR (T8.setTop (mkF m 24 #[.val (.ref pa), .val (.int (4 : Int32)), .val (.ref b2), .val (.int (0 : Int32)), .unset, .unset, .unset, .unset] []))
  refine own_st (fun _ k => XS.iinc X8.here hx rfl (hb hby own_dprog_30_method_7_code_24) rfl (l' := #[.val (.ref pa), .val (.int (4 : Int32)), .val (.ref b2), .val (.int (1 : Int32)), .unset, .unset, .unset, .unset]) rfl (XS.goto X8.here hx rfl (pc0 := 27) (pc' := 9) rfl (hb hby own_dprog_30_method_7_code_27) (by decide) (by decide) (XS.iloadN X8.here hx rfl (hb hby own_dprog_30_method_7_code_9) rfl (XS.iloadN X8.here hx rfl (hb hby own_dprog_30_method_7_code_10) rfl k)))) ?_
  show own_Go p.tables e below RR (T8.setTop (mkF m 11 #[.val (.ref pa), .val (.int (4 : Int32)), .val (.ref b2), .val (.int (1 : Int32)), .unset, .unset, .unset, .unset] [(.int (4 : Int32)), (.int (1 : Int32))]))
  refine own_st (fun _ k => XS.icmpNo X8.here hx rfl (hb hby own_dprog_30_method_7_code_11) rfl (tlt (by decide)).2.1 (XS.aloadN X8.here hx rfl (hb hby own_dprog_30_method_7_code_14) rfl rfl (XS.iloadN X8.here hx rfl (hb hby own_dprog_30_method_7_code_15) rfl (XS.aloadN X8.here hx rfl (hb hby own_dprog_30_method_7_code_16) rfl rfl (XS.iloadN X8.here hx rfl (hb hby own_dprog_30_method_7_code_17) rfl (XS.iconst X8.here hx rfl (hb hby own_dprog_30_method_7_code_18) (XS.isub X8.here hx rfl (hb hby own_dprog_30_method_7_code_19) rfl (XS.iloadN X8.here hx rfl (hb hby own_dprog_30_method_7_code_20) rfl k)))))))) ?_
  show own_Go p.tables e below RR (T8.setTop (mkF m 21 #[.val (.ref pa), .val (.int (4 : Int32)), .val (.ref b2), .val (.int (1 : Int32)), .unset, .unset, .unset, .unset] [(.int (1 : Int32)), (.int (3 : Int32)), (.ref pa), (.int (1 : Int32)), (.ref b2)]))
  refine own_st (fun _ k => XS.isub X8.here hx rfl (hb hby own_dprog_30_method_7_code_21) rfl k) ?_
  show own_Go p.tables e below RR (T8.setTop (mkF m 22 #[.val (.ref pa), .val (.int (4 : Int32)), .val (.ref b2), .val (.int (1 : Int32)), .unset, .unset, .unset, .unset] [(.int (2 : Int32)), (.ref pa), (.int (1 : Int32)), (.ref b2)]))
  have ne11 : pa ≠ b2 := (Nat.ne_of_lt (Nat.lt_of_lt_of_le Vp.lt (Nat.le_of_eq gb2.symm)))
  have f12 := (f5.other W8 ne11)
  obtain ⟨c13, A13, q13, s13, m13, H13, G13⟩ := id f12
  have b13 := inb_of (j := (2 : Int32)) s13 ⟨by decide, by decide⟩
  refine own_st (fun _ k => X8.iaload hx (j := (2 : Int32)) (v := (.int pp2)) (by rw [e8]; exact A13.1) (State.isArrayOf_alike hZ.alike A13.2.1) A13.2.2 b13 (Has.at H13 b13 rfl) (g := (mkF m 22 #[.val (.ref pa), .val (.int (4 : Int32)), .val (.ref b2), .val (.int (1 : Int32)), .unset, .unset, .unset, .unset] [(.int (2 : Int32)), (.ref pa), (.int (1 : Int32)), (.ref b2)])) rfl rfl (hb hby own_dprog_30_method_7_code_22) _ k) ?_
  show own_Go p.tables e below RR (T8.setTop (mkF m 23 #[.val (.ref pa), .val (.int (4 : Int32)), .val (.ref b2), .val (.int (1 : Int32)), .unset, .unset, .unset, .unset] [(.int pp2), (.int (1 : Int32)), (.ref b2)]))
  obtain ⟨c14, A14, q14, s14, m14, H14, G14⟩ := id V8
  obtain ⟨T15, h15, X15, e15, W15, st15⟩ := stI X8 hx hZ e8 A14 (j := (1 : Int32)) (inb_of s14 ⟨by decide, by decide⟩) (g := (mkF m 23 #[.val (.ref pa), .val (.int (4 : Int32)), .val (.ref b2), .val (.int (1 : Int32)), .unset, .unset, .unset, .unset] [(.int pp2), (.int (1 : Int32)), (.ref b2)])) rfl rfl (hb hby own_dprog_30_method_7_code_23)
  have V15 := Arv.set A14 q14 s14 m14 H14 G14 rfl W15 1 rfl (Nat.le_of_ble_eq_true rfl)
  have V15 : Arv Z h15 b2 k2 .int (4 : Int32) [(.int pp3), (.int pp2), (.int (0 : Int32)), (.int (0 : Int32))] (.int (0 : Int32)) := V15
  have N15 := Fr.snoc X15 N8 ge2
  refine own_st st15 ?_
  have z16 : n0 ≤ h15.size := Nat.le_trans z9 (Keep.of_wr W15).1
  have kk17 : Keep h0 h15 [] := kk10.wr W15 (Or.inr sz2)
  show own_Go p.tables e below RR (T15.setTop (mkF m 24 #[.val (.ref pa), .val (.int (4 : Int32)), .val (.ref b2), .val (.int (1 : Int32)), .unset, .unset, .unset, .unset] []))
  refine own_st (fun _ k => XS.iinc X15.here hx rfl (hb hby own_dprog_30_method_7_code_24) rfl (l' := #[.val (.ref pa), .val (.int (4 : Int32)), .val (.ref b2), .val (.int (2 : Int32)), .unset, .unset, .unset, .unset]) rfl (XS.goto X15.here hx rfl (pc0 := 27) (pc' := 9) rfl (hb hby own_dprog_30_method_7_code_27) (by decide) (by decide) (XS.iloadN X15.here hx rfl (hb hby own_dprog_30_method_7_code_9) rfl (XS.iloadN X15.here hx rfl (hb hby own_dprog_30_method_7_code_10) rfl k)))) ?_
  show own_Go p.tables e below RR (T15.setTop (mkF m 11 #[.val (.ref pa), .val (.int (4 : Int32)), .val (.ref b2), .val (.int (2 : Int32)), .unset, .unset, .unset, .unset] [(.int (4 : Int32)), (.int (2 : Int32))]))
  refine own_st (fun _ k => XS.icmpNo X15.here hx rfl (hb hby own_dprog_30_method_7_code_11) rfl (tlt (by decide)).2.1 (XS.aloadN X15.here hx rfl (hb hby own_dprog_30_method_7_code_14) rfl rfl (XS.iloadN X15.here hx rfl (hb hby own_dprog_30_method_7_code_15) rfl (XS.aloadN X15.here hx rfl (hb hby own_dprog_30_method_7_code_16) rfl rfl (XS.iloadN X15.here hx rfl (hb hby own_dprog_30_method_7_code_17) rfl (XS.iconst X15.here hx rfl (hb hby own_dprog_30_method_7_code_18) (XS.isub X15.here hx rfl (hb hby own_dprog_30_method_7_code_19) rfl (XS.iloadN X15.here hx rfl (hb hby own_dprog_30_method_7_code_20) rfl k)))))))) ?_
  show own_Go p.tables e below RR (T15.setTop (mkF m 21 #[.val (.ref pa), .val (.int (4 : Int32)), .val (.ref b2), .val (.int (2 : Int32)), .unset, .unset, .unset, .unset] [(.int (2 : Int32)), (.int (3 : Int32)), (.ref pa), (.int (2 : Int32)), (.ref b2)]))
  refine own_st (fun _ k => XS.isub X15.here hx rfl (hb hby own_dprog_30_method_7_code_21) rfl k) ?_
  show own_Go p.tables e below RR (T15.setTop (mkF m 22 #[.val (.ref pa), .val (.int (4 : Int32)), .val (.ref b2), .val (.int (2 : Int32)), .unset, .unset, .unset, .unset] [(.int (1 : Int32)), (.ref pa), (.int (2 : Int32)), (.ref b2)]))
  have f18 := (f12.other W15 ne11)
  obtain ⟨c19, A19, q19, s19, m19, H19, G19⟩ := id f18
  have b19 := inb_of (j := (1 : Int32)) s19 ⟨by decide, by decide⟩
  refine own_st (fun _ k => X15.iaload hx (j := (1 : Int32)) (v := (.int pp1)) (by rw [e15]; exact A19.1) (State.isArrayOf_alike hZ.alike A19.2.1) A19.2.2 b19 (Has.at H19 b19 rfl) (g := (mkF m 22 #[.val (.ref pa), .val (.int (4 : Int32)), .val (.ref b2), .val (.int (2 : Int32)), .unset, .unset, .unset, .unset] [(.int (1 : Int32)), (.ref pa), (.int (2 : Int32)), (.ref b2)])) rfl rfl (hb hby own_dprog_30_method_7_code_22) _ k) ?_
  show own_Go p.tables e below RR (T15.setTop (mkF m 23 #[.val (.ref pa), .val (.int (4 : Int32)), .val (.ref b2), .val (.int (2 : Int32)), .unset, .unset, .unset, .unset] [(.int pp1), (.int (2 : Int32)), (.ref b2)]))
  obtain ⟨c20, A20, q20, s20, m20, H20, G20⟩ := id V15
  obtain ⟨T21, h21, X21, e21, W21, st21⟩ := stI X15 hx hZ e15 A20 (j := (2 : Int32)) (inb_of s20 ⟨by decide, by decide⟩) (g := (mkF m 23 #[.val (.ref pa), .val (.int (4 : Int32)), .val (.ref b2), .val (.int (2 : Int32)), .unset, .unset, .unset, .unset] [(.int pp1), (.int (2 : Int32)), (.ref b2)])) rfl rfl (hb hby own_dprog_30_method_7_code_23)
  have V21 := Arv.set A20 q20 s20 m20 H20 G20 rfl W21 2 rfl (Nat.le_of_ble_eq_true rfl)
  have V21 : Arv Z h21 b2 k2 .int (4 : Int32) [(.int pp3), (.int pp2), (.int pp1), (.int (0 : Int32))] (.int (0 : Int32)) := V21
  have N21 := Fr.snoc X21 N15 ge2
  refine own_st st21 ?_
  have z22 : n0 ≤ h21.size := Nat.le_trans z16 (Keep.of_wr W21).1
  have kk23 : Keep h0 h21 [] := kk17.wr W21 (Or.inr sz2)
  show own_Go p.tables e below RR (T21.setTop (mkF m 24 #[.val (.ref pa), .val (.int (4 : Int32)), .val (.ref b2), .val (.int (2 : Int32)), .unset, .unset, .unset, .unset] []))
  refine own_st (fun _ k => XS.iinc X21.here hx rfl (hb hby own_dprog_30_method_7_code_24) rfl (l' := #[.val (.ref pa), .val (.int (4 : Int32)), .val (.ref b2), .val (.int (3 : Int32)), .unset, .unset, .unset, .unset]) rfl (XS.goto X21.here hx rfl (pc0 := 27) (pc' := 9) rfl (hb hby own_dprog_30_method_7_code_27) (by decide) (by decide) (XS.iloadN X21.here hx rfl (hb hby own_dprog_30_method_7_code_9) rfl (XS.iloadN X21.here hx rfl (hb hby own_dprog_30_method_7_code_10) rfl k)))) ?_
  show own_Go p.tables e below RR (T21.setTop (mkF m 11 #[.val (.ref pa), .val (.int (4 : Int32)), .val (.ref b2), .val (.int (3 : Int32)), .unset, .unset, .unset, .unset] [(.int (4 : Int32)), (.int (3 : Int32))]))
  refine own_st (fun _ k => XS.icmpNo X21.here hx rfl (hb hby own_dprog_30_method_7_code_11) rfl (tlt (by decide)).2.1 (XS.aloadN X21.here hx rfl (hb hby own_dprog_30_method_7_code_14) rfl rfl (XS.iloadN X21.here hx rfl (hb hby own_dprog_30_method_7_code_15) rfl (XS.aloadN X21.here hx rfl (hb hby own_dprog_30_method_7_code_16) rfl rfl (XS.iloadN X21.here hx rfl (hb hby own_dprog_30_method_7_code_17) rfl (XS.iconst X21.here hx rfl (hb hby own_dprog_30_method_7_code_18) (XS.isub X21.here hx rfl (hb hby own_dprog_30_method_7_code_19) rfl (XS.iloadN X21.here hx rfl (hb hby own_dprog_30_method_7_code_20) rfl k)))))))) ?_
  show own_Go p.tables e below RR (T21.setTop (mkF m 21 #[.val (.ref pa), .val (.int (4 : Int32)), .val (.ref b2), .val (.int (3 : Int32)), .unset, .unset, .unset, .unset] [(.int (3 : Int32)), (.int (3 : Int32)), (.ref pa), (.int (3 : Int32)), (.ref b2)]))
  refine own_st (fun _ k => XS.isub X21.here hx rfl (hb hby own_dprog_30_method_7_code_21) rfl k) ?_
  show own_Go p.tables e below RR (T21.setTop (mkF m 22 #[.val (.ref pa), .val (.int (4 : Int32)), .val (.ref b2), .val (.int (3 : Int32)), .unset, .unset, .unset, .unset] [(.int (0 : Int32)), (.ref pa), (.int (3 : Int32)), (.ref b2)]))
  have f24 := (f18.other W21 ne11)
  obtain ⟨c25, A25, q25, s25, m25, H25, G25⟩ := id f24
  have b25 := inb_of (j := (0 : Int32)) s25 ⟨by decide, by decide⟩
  refine own_st (fun _ k => X21.iaload hx (j := (0 : Int32)) (v := (.int pp0)) (by rw [e21]; exact A25.1) (State.isArrayOf_alike hZ.alike A25.2.1) A25.2.2 b25 (Has.at H25 b25 rfl) (g := (mkF m 22 #[.val (.ref pa), .val (.int (4 : Int32)), .val (.ref b2), .val (.int (3 : Int32)), .unset, .unset, .unset, .unset] [(.int (0 : Int32)), (.ref pa), (.int (3 : Int32)), (.ref b2)])) rfl rfl (hb hby own_dprog_30_method_7_code_22) _ k) ?_
  show own_Go p.tables e below RR (T21.setTop (mkF m 23 #[.val (.ref pa), .val (.int (4 : Int32)), .val (.ref b2), .val (.int (3 : Int32)), .unset, .unset, .unset, .unset] [(.int pp0), (.int (3 : Int32)), (.ref b2)]))
  obtain ⟨c26, A26, q26, s26, m26, H26, G26⟩ := id V21
  obtain ⟨T27, h27, X27, e27, W27, st27⟩ := stI X21 hx hZ e21 A26 (j := (3 : Int32)) (inb_of s26 ⟨by decide, by decide⟩) (g := (mkF m 23 #[.val (.ref pa), .val (.int (4 : Int32)), .val (.ref b2), .val (.int (3 : Int32)), .unset, .unset, .unset, .unset] [(.int pp0), (.int (3 : Int32)), (.ref b2)])) rfl rfl (hb hby own_dprog_30_method_7_code_23)
  have V27 := Arv.set A26 q26 s26 m26 H26 G26 rfl W27 3 rfl (Nat.le_of_ble_eq_true rfl)
  have V27 : Arv Z h27 b2 k2 .int (4 : Int32) [(.int pp3), (.int pp2), (.int pp1), (.int pp0)] (.int (0 : Int32)) := V27
  have N27 := Fr.snoc X27 N21 ge2
  refine own_st st27 ?_
  have z28 : n0 ≤ h27.size := Nat.le_trans z22 (Keep.of_wr W27).1
  have kk29 : Keep h0 h27 [] := kk23.wr W27 (Or.inr sz2)
  show own_Go p.tables e below RR (T27.setTop (mkF m 24 #[.val (.ref pa), .val (.int (4 : Int32)), .val (.ref b2), .val (.int (3 : Int32)), .unset, .unset, .unset, .unset] []))
  refine own_st (fun _ k => XS.iinc X27.here hx rfl (hb hby own_dprog_30_method_7_code_24) rfl (l' := #[.val (.ref pa), .val (.int (4 : Int32)), .val (.ref b2), .val (.int (4 : Int32)), .unset, .unset, .unset, .unset]) rfl (XS.goto X27.here hx rfl (pc0 := 27) (pc' := 9) rfl (hb hby own_dprog_30_method_7_code_27) (by decide) (by decide) (XS.iloadN X27.here hx rfl (hb hby own_dprog_30_method_7_code_9) rfl (XS.iloadN X27.here hx rfl (hb hby own_dprog_30_method_7_code_10) rfl k)))) ?_
  show own_Go p.tables e below RR (T27.setTop (mkF m 11 #[.val (.ref pa), .val (.int (4 : Int32)), .val (.ref b2), .val (.int (4 : Int32)), .unset, .unset, .unset, .unset] [(.int (4 : Int32)), (.int (4 : Int32))]))
  refine own_st (fun _ k => XS.icmpYes X27.here hx rfl (pc0 := 11) (pc' := 30) rfl (hb hby own_dprog_30_method_7_code_11) rfl (flt (by decide)).2.1 (by decide) (by decide) (XS.iloadN X27.here hx rfl (hb hby own_dprog_30_method_7_code_30) rfl k)) ?_
  show own_Go p.tables e below RR (T27.setTop (mkF m 31 #[.val (.ref pa), .val (.int (4 : Int32)), .val (.ref b2), .val (.int (4 : Int32)), .unset, .unset, .unset, .unset] [(.int (4 : Int32))]))
  obtain ⟨T30, h30, k30, X30, e30, E30, A30, B30, st30⟩ := newPE X27 hx hZ (hw _ (List.mem_of_getElem? (i := 2) rfl)) e27 (g := (mkF m 31 #[.val (.ref pa), .val (.int (4 : Int32)), .val (.ref b2), .val (.int (4 : Int32)), .unset, .unset, .unset, .unset] [(.int (4 : Int32))])) rfl (hb hby own_dprog_30_method_7_code_31) rfl (by decide) (cap := 4) (by decide) (by decide) (by decide) (by decide) (ad := "[I") (by decide)
  obtain ⟨b30, gb30⟩ : ∃ z, z = h27.size := ⟨_, rfl⟩
  rw [← gb30] at A30 B30 st30
  have ge30 : n0 ≤ b30 := Nat.le_trans z28 (Nat.le_of_eq gb30.symm)
  have sz30 : h0.size ≤ b30 := Nat.le_trans kk29.1 (Nat.le_of_eq gb30.symm)
  refine own_st st30 ?_
  have z31 : n0 ≤ h30.size := Nat.le_trans z28 E30.1
  have kk32 : Keep h0 h30 [] := kk29.ext E30
  have V30 : Arv Z h30 b30 k30 .int (4 : Int32) [(.int (0 : Int32)), (.int (0 : Int32)), (.int (0 : Int32)), (.int (0 : Int32))] (.int (0 : Int32)) := (Arv.new A30 (by decide)).pad (pad_rep [] (.int (0 : Int32)) 4)
  show own_Go p.tables e below RR (T30.setTop (mkF m 33 #[.val (.ref pa), .val (.int (4 : Int32)), .val (.ref b2), .val (.int (4 : Int32)), .unset, .unset, .unset, .unset] [(.ref b30)]))
  refine own_st (fun _ k => XS.astoreN X30.here hx rfl (hb hby own_dprog_30_method_7_code_33) rfl rfl (l' := #[.val (.ref pa), .val (.int (4 : Int32)), .val (.ref b2), .val (.ref b30), .unset, .unset, .unset, .unset]) rfl (XS.aloadN X30.here hx rfl (hb hby own_dprog_30_method_7_code_34) rfl rfl (XS.iconst X30.here hx rfl (hb hby own_dprog_30_method_7_code_35) (XS.iloadN X30.here hx rfl (hb hby own_dprog_30_method_7_code_36) rfl k)))) ?_
  show own_Go p.tables e below RR (T30.setTop (mkF m 37 #[.val (.ref pa), .val (.int (4 : Int32)), .val (.ref b2), .val (.ref b30), .unset, .unset, .unset, .unset] [(.int (4 : Int32)), (.int (0 : Int32)), (.ref b30)]))
  obtain ⟨c33, A33, q33, s33, m33, H33, G33⟩ := id V30
  obtain ⟨T34, h34, X34, e34, W34, st34⟩ := stI X30 hx hZ e30 A33 (j := (0 : Int32)) (inb_of s33 ⟨by decide, by decide⟩) (g := (mkF m 37 #[.val (.ref pa), .val (.int (4 : Int32)), .val (.ref b2), .val (.ref b30), .unset, .unset, .unset, .unset] [(.int (4 : Int32)), (.int (0 : Int32)), (.ref b30)])) rfl rfl (hb hby own_dprog_30_method_7_code_37)
  have V34 := Arv.set A33 q33 s33 m33 H33 G33 rfl W34 0 rfl (Nat.le_of_ble_eq_true rfl)
  have V34 : Arv Z h34 b30 k30 .int (4 : Int32) [(.int (4 : Int32)), (.int (0 : Int32)), (.int (0 : Int32)), (.int (0 : Int32))] (.int (0 : Int32)) := V34
  have N34 := Fr.snoc X34 N27 ge30
  refine own_st st34 ?_
  have z35 : n0 ≤ h34.size := Nat.le_trans z31 (Keep.of_wr W34).1
  have kk36 : Keep h0 h34 [] := kk32.wr W34 (Or.inr sz30)
  show own_Go p.tables e below RR (T34.setTop (mkF m 38 #[.val (.ref pa), .val (.int (4 : Int32)), .val (.ref b2), .val (.ref b30), .unset, .unset, .unset, .unset] []))
  refine own_st (fun _ k => XS.iconst X34.here hx rfl (hb hby own_dprog_30_method_7_code_38) (XS.istore X34.here hx rfl (hb hby own_dprog_30_method_7_code_39) rfl (l' := #[.val (.ref pa), .val (.int (4 : Int32)), .val (.ref b2), .val (.ref b30), .val (.int (0 : Int32)), .unset, .unset, .unset]) rfl (XS.iconst X34.here hx rfl (hb hby own_dprog_30_method_7_code_41) (XS.istore X34.here hx rfl (hb hby own_dprog_30_method_7_code_42) rfl (l' := #[.val (.ref pa), .val (.int (4 : Int32)), .val (.ref b2), .val (.ref b30), .val (.int (0 : Int32)), .val (.int (0 : Int32)), .unset, .unset]) rfl (XS.iconst X34.here hx rfl (hb hby own_dprog_30_method_7_code_44) (XS.istore X34.here hx rfl (hb hby own_dprog_30_method_7_code_45) rfl (l' := #[.val (.ref pa), .val (.int (4 : Int32)), .val (.ref b2), .val (.ref b30), .val (.int (0 : Int32)), .val (.int (0 : Int32)), .val (.int (1 : Int32)), .unset]) rfl k)))))) ?_
  show own_Go p.tables e below RR (T34.setTop (mkF m 47 #[.val (.ref pa), .val (.int (4 : Int32)), .val (.ref b2), .val (.ref b30), .val (.int (0 : Int32)), .val (.int (0 : Int32)), .val (.int (1 : Int32)), .unset] []))
  have jnh37 : ∀ (T37 : State) (lo37 : List Loc) (hh2 : Heap) (xl : Int32) (xr : Int32) (xk : Int32) (zn0 : Int32) (zn1 : Int32) (zn2 : Int32) (zn3 : Int32) (X37 : Stand p l e own_RCS s m #[(.ref pa)] below meth c T37 lo37 2 8) (e37 : T37.heap = hh2) (N37 : Fr n0 lo37) (K2 : Keep h34 hh2 [b30]) (V2 : Arv Z hh2 b30 k30 .int (4 : Int32) [(.int zn0), (.int zn1), (.int zn2), (.int zn3)] (.int (0 : Int32))) (hz0 : 0 ≤ zn0.toInt) (hz1 : 0 ≤ zn1.toInt) (hz2 : 0 ≤ zn2.toInt) (hz3 : 0 ≤ zn3.toInt), own_Go p.tables e below RR (T37.setTop (mkF m 142 #[.val (.ref pa), .val (.int (4 : Int32)), .val (.ref b2), .val (.ref b30), .val (.int xl), .val (.int xr), .val (.int (4 : Int32)), .val (.int xk)] [])) := by
    intro T37 lo37 hh2 xl xr xk zn0 zn1 zn2 zn3 X37 e37 N37 K2 V2 hz0 hz1 hz2 hz3
    have z38 : n0 ≤ hh2.size := Nat.le_trans z35 K2.1
    have kk39 : Keep h0 hh2 [] := kk36.trans K2 (allS (Or.inr sz30) all0)
    show own_Go p.tables e below RR (T37.setTop (mkF m 142 #[.val (.ref pa), .val (.int (4 : Int32)), .val (.ref b2), .val (.ref b30), .val (.int xl), .val (.int xr), .val (.int (4 : Int32)), .val (.int xk)] []))
    refine own_st (fun _ k => XS.iloadN X37.here hx rfl (hb hby own_dprog_30_method_7_code_142) rfl k) ?_
    show own_Go p.tables e below RR (T37.setTop (mkF m 143 #[.val (.ref pa), .val (.int (4 : Int32)), .val (.ref b2), .val (.ref b30), .val (.int xl), .val (.int xr), .val (.int (4 : Int32)), .val (.int xk)] [(.int (4 : Int32))]))
    obtain ⟨T40, h40, k40, X40, e40, E40, A40, B40, st40⟩ := newPE X37 hx hZ (hw _ (List.mem_of_getElem? (i := 2) rfl)) e37 (g := (mkF m 143 #[.val (.ref pa), .val (.int (4 : Int32)), .val (.ref b2), .val (.ref b30), .val (.int xl), .val (.int xr), .val (.int (4 : Int32)), .val (.int xk)] [(.int (4 : Int32))])) rfl (hb hby own_dprog_30_method_7_code_143) rfl (by decide) (cap := 4) (by decide) (by decide) (by decide) (by decide) (ad := "[I") (by decide)
    obtain ⟨b40, gb40⟩ : ∃ z, z = hh2.size := ⟨_, rfl⟩
    rw [← gb40] at A40 B40 st40
    have ge40 : n0 ≤ b40 := Nat.le_trans z38 (Nat.le_of_eq gb40.symm)
    have sz40 : h0.size ≤ b40 := Nat.le_trans kk39.1 (Nat.le_of_eq gb40.symm)
    refine own_st st40 ?_
    have z41 : n0 ≤ h40.size := Nat.le_trans z38 E40.1
    have kk42 : Keep h0 h40 [] := kk39.ext E40
    have V40 : Arv Z h40 b40 k40 .int (4 : Int32) [(.int (0 : Int32)), (.int (0 : Int32)), (.int (0 : Int32)), (.int (0 : Int32))] (.int (0 : Int32)) := (Arv.new A40 (by decide)).pad (pad_rep [] (.int (0 : Int32)) 4)
    show own_Go p.tables e below RR (T40.setTop (mkF m 145 #[.val (.ref pa), .val (.int (4 : Int32)), .val (.ref b2), .val (.ref b30), .val (.int xl), .val (.int xr), .val (.int (4 : Int32)), .val (.int xk)] [(.ref b40)]))
    refine own_st (fun _ k => XS.astore X40.here hx rfl (hb hby own_dprog_30_method_7_code_145) rfl rfl (l' := #[.val (.ref pa), .val (.int (4 : Int32)), .val (.ref b2), .val (.ref b30), .val (.int xl), .val (.int xr), .val (.ref b40), .val (.int xk)]) rfl (XS.iconst X40.here hx rfl (hb hby own_dprog_30_method_7_code_147) (XS.istore X40.here hx rfl (hb hby own_dprog_30_method_7_code_148) rfl (l' := #[.val (.ref pa), .val (.int (4 : Int32)), .val (.ref b2), .val (.ref b30), .val (.int xl), .val (.int xr), .val (.ref b40), .val (.int (0 : Int32))]) rfl (XS.iload X40.here hx rfl (hb hby own_dprog_30_method_7_code_150) rfl (XS.iloadN X40.here hx rfl (hb hby own_dprog_30_method_7_code_152) rfl k))))) ?_
    show own_Go p.tables e below RR (T40.setTop (mkF m 153 #[.val (.ref pa), .val (.int (4 : Int32)), .val (.ref b2), .val (.ref b30), .val (.int xl), .val (.int xr), .val (.ref b40), .val (.int (0 : Int32))] [(.int (4 : Int32)), (.int (0 : Int32))]))
    refine own_st (fun _ k => XS.icmpNo X40.here hx rfl (hb hby own_dprog_30_method_7_code_153) rfl (tlt (by decide)).2.1 (XS.aload X40.here hx rfl (hb hby own_dprog_30_method_7_code_156) rfl rfl (XS.iload X40.here hx rfl (hb hby own_dprog_30_method_7_code_158) rfl (XS.aloadN X40.here hx rfl (hb hby own_dprog_30_method_7_code_160) rfl rfl (XS.iloadN X40.here hx rfl (hb hby own_dprog_30_method_7_code_161) rfl (XS.iconst X40.here hx rfl (hb hby own_dprog_30_method_7_code_162) (XS.isub X40.here hx rfl (hb hby own_dprog_30_method_7_code_163) rfl (XS.iload X40.here hx rfl (hb hby own_dprog_30_method_7_code_164) rfl k)))))))) ?_
    show own_Go p.tables e below RR (T40.setTop (mkF m 166 #[.val (.ref pa), .val (.int (4 : Int32)), .val (.ref b2), .val (.ref b30), .val (.int xl), .val (.int xr), .val (.ref b40), .val (.int (0 : Int32))] [(.int (0 : Int32)), (.int (3 : Int32)), (.ref b30), (.int (0 : Int32)), (.ref b40)]))
    refine own_st (fun _ k => XS.isub X40.here hx rfl (hb hby own_dprog_30_method_7_code_166) rfl k) ?_
    show own_Go p.tables e below RR (T40.setTop (mkF m 167 #[.val (.ref pa), .val (.int (4 : Int32)), .val (.ref b2), .val (.ref b30), .val (.int xl), .val (.int xr), .val (.ref b40), .val (.int (0 : Int32))] [(.int (3 : Int32)), (.ref b30), (.int (0 : Int32)), (.ref b40)]))
    have f43 := (V2.ext E40)
    obtain ⟨c44, A44, q44, s44, m44, H44, G44⟩ := id f43
    have b44 := inb_of (j := (3 : Int32)) s44 ⟨by decide, by decide⟩
    refine own_st (fun _ k => X40.iaload hx (j := (3 : Int32)) (v := (.int zn3)) (by rw [e40]; exact A44.1) (State.isArrayOf_alike hZ.alike A44.2.1) A44.2.2 b44 (Has.at H44 b44 rfl) (g := (mkF m 167 #[.val (.ref pa), .val (.int (4 : Int32)), .val (.ref b2), .val (.ref b30), .val (.int xl), .val (.int xr), .val (.ref b40), .val (.int (0 : Int32))] [(.int (3 : Int32)), (.ref b30), (.int (0 : Int32)), (.ref b40)])) rfl rfl (hb hby own_dprog_30_method_7_code_167) _ k) ?_
    show own_Go p.tables e below RR (T40.setTop (mkF m 168 #[.val (.ref pa), .val (.int (4 : Int32)), .val (.ref b2), .val (.ref b30), .val (.int xl), .val (.int xr), .val (.ref b40), .val (.int (0 : Int32))] [(.int zn3), (.int (0 : Int32)), (.ref b40)]))
    obtain ⟨c45, A45, q45, s45, m45, H45, G45⟩ := id V40
    obtain ⟨T46, h46, X46, e46, W46, st46⟩ := stI X40 hx hZ e40 A45 (j := (0 : Int32)) (inb_of s45 ⟨by decide, by decide⟩) (g := (mkF m 168 #[.val (.ref pa), .val (.int (4 : Int32)), .val (.ref b2), .val (.ref b30), .val (.int xl), .val (.int xr), .val (.ref b40), .val (.int (0 : Int32))] [(.int zn3), (.int (0 : Int32)), (.ref b40)])) rfl rfl (hb hby own_dprog_30_method_7_code_168)
    have V46 := Arv.set A45 q45 s45 m45 H45 G45 rfl W46 0 rfl (Nat.le_of_ble_eq_true rfl)
    have V46 : Arv Z h46 b40 k40 .int (4 : Int32) [(.int zn3), (.int (0 : Int32)), (.int (0 : Int32)), (.int (0 : Int32))] (.int (0 : Int32)) := V46
    have N46 := Fr.snoc X46 N37 ge40
    refine own_st st46 ?_
    have z47 : n0 ≤ h46.size := Nat.le_trans z41 (Keep.of_wr W46).1
    have kk48 : Keep h0 h46 [] := kk42.wr W46 (Or.inr sz40)
    show own_Go p.tables e below RR (T46.setTop (mkF m 169 #[.val (.ref pa), .val (.int (4 : Int32)), .val (.ref b2), .val (.ref b30), .val (.int xl), .val (.int xr), .val (.ref b40), .val (.int (0 : Int32))] []))
    refine own_st (fun _ k => XS.iinc X46.here hx rfl (hb hby own_dprog_30_method_7_code_169) rfl (l' := #[.val (.ref pa), .val (.int (4 : Int32)), .val (.ref b2), .val (.ref b30), .val (.int xl), .val (.int xr), .val (.ref b40), .val (.int (1 : Int32))]) rfl (XS.goto X46.here hx rfl (pc0 := 172) (pc' := 150) rfl (hb hby own_dprog_30_method_7_code_172) (by decide) (by decide) (XS.iload X46.here hx rfl (hb hby own_dprog_30_method_7_code_150) rfl (XS.iloadN X46.here hx rfl (hb hby own_dprog_30_method_7_code_152) rfl k)))) ?_
    show own_Go p.tables e below RR (T46.setTop (mkF m 153 #[.val (.ref pa), .val (.int (4 : Int32)), .val (.ref b2), .val (.ref b30), .val (.int xl), .val (.int xr), .val (.ref b40), .val (.int (1 : Int32))] [(.int (4 : Int32)), (.int (1 : Int32))]))
    refine own_st (fun _ k => XS.icmpNo X46.here hx rfl (hb hby own_dprog_30_method_7_code_153) rfl (tlt (by decide)).2.1 (XS.aload X46.here hx rfl (hb hby own_dprog_30_method_7_code_156) rfl rfl (XS.iload X46.here hx rfl (hb hby own_dprog_30_method_7_code_158) rfl (XS.aloadN X46.here hx rfl (hb hby own_dprog_30_method_7_code_160) rfl rfl (XS.iloadN X46.here hx rfl (hb hby own_dprog_30_method_7_code_161) rfl (XS.iconst X46.here hx rfl (hb hby own_dprog_30_method_7_code_162) (XS.isub X46.here hx rfl (hb hby own_dprog_30_method_7_code_163) rfl (XS.iload X46.here hx rfl (hb hby own_dprog_30_method_7_code_164) rfl k)))))))) ?_
    show own_Go p.tables e below RR (T46.setTop (mkF m 166 #[.val (.ref pa), .val (.int (4 : Int32)), .val (.ref b2), .val (.ref b30), .val (.int xl), .val (.int xr), .val (.ref b40), .val (.int (1 : Int32))] [(.int (1 : Int32)), (.int (3 : Int32)), (.ref b30), (.int (1 : Int32)), (.ref b40)]))
    refine own_st (fun _ k => XS.isub X46.here hx rfl (hb hby own_dprog_30_method_7_code_166) rfl k) ?_
    show own_Go p.tables e below RR (T46.setTop (mkF m 167 #[.val (.ref pa), .val (.int (4 : Int32)), .val (.ref b2), .val (.ref b30), .val (.int xl), .val (.int xr), .val (.ref b40), .val (.int (1 : Int32))] [(.int (2 : Int32)), (.ref b30), (.int (1 : Int32)), (.ref b40)]))
    have ne49 : b30 ≠ b40 := (Nat.ne_of_lt (Nat.lt_of_lt_of_le ((B30.wr W34).keep K2).lt (Nat.le_of_eq gb40.symm)))
    have f50 := (f43.other W46 ne49)
    obtain ⟨c51, A51, q51, s51, m51, H51, G51⟩ := id f50
    have b51 := inb_of (j := (2 : Int32)) s51 ⟨by decide, by decide⟩
    refine own_st (fun _ k => X46.iaload hx (j := (2 : Int32)) (v := (.int zn2)) (by rw [e46]; exact A51.1) (State.isArrayOf_alike hZ.alike A51.2.1) A51.2.2 b51 (Has.at H51 b51 rfl) (g := (mkF m 167 #[.val (.ref pa), .val (.int (4 : Int32)), .val (.ref b2), .val (.ref b30), .val (.int xl), .val (.int xr), .val (.ref b40), .val (.int (1 : Int32))] [(.int (2 : Int32)), (.ref b30), (.int (1 : Int32)), (.ref b40)])) rfl rfl (hb hby own_dprog_30_method_7_code_167) _ k) ?_
    show own_Go p.tables e below RR (T46.setTop (mkF m 168 #[.val (.ref pa), .val (.int (4 : Int32)), .val (.ref b2), .val (.ref b30), .val (.int xl), .val (.int xr), .val (.ref b40), .val (.int (1 : Int32))] [(.int zn2), (.int (1 : Int32)), (.ref b40)]))
    obtain ⟨c52, A52, q52, s52, m52, H52, G52⟩ := id V46
    obtain ⟨T53, h53, X53, e53, W53, st53⟩ := stI X46 hx hZ e46 A52 (j := (1 : Int32)) (inb_of s52 ⟨by decide, by decide⟩) (g := (mkF m 168 #[.val (.ref pa), .val (.int (4 : Int32)), .val (.ref b2), .val (.ref b30), .val (.int xl), .val (.int xr), .val (.ref b40), .val (.int (1 : Int32))] [(.int zn2), (.int (1 : Int32)), (.ref b40)])) rfl rfl (hb hby own_dprog_30_method_7_code_168)
    have V53 := Arv.set A52 q52 s52 m52 H52 G52 rfl W53 1 rfl (Nat.le_of_ble_eq_true rfl)
    have V53 : Arv Z h53 b40 k40 .int (4 : Int32) [(.int zn3), (.int zn2), (.int (0 : Int32)), (.int (0 : Int32))] (.int (0 : Int32)) := V53
    have N53 := Fr.snoc X53 N46 ge40
    refine own_st st53 ?_
    have z54 : n0 ≤ h53.size := Nat.le_trans z47 (Keep.of_wr W53).1
    have kk55 : Keep h0 h53 [] := kk48.wr W53 (Or.inr sz40)
    show own_Go p.tables e below RR (T53.setTop (mkF m 169 #[.val (.ref pa), .val (.int (4 : Int32)), .val (.ref b2), .val (.ref b30), .val (.int xl), .val (.int xr), .val (.ref b40), .val (.int (1 : Int32))] []))
    refine own_st (fun _ k => XS.iinc X53.here hx rfl (hb hby own_dprog_30_method_7_code_169) rfl (l' := #[.val (.ref pa), .val (.int (4 : Int32)), .val (.ref b2), .val (.ref b30), .val (.int xl), .val (.int xr), .val (.ref b40), .val (.int (2 : Int32))]) rfl (XS.goto X53.here hx rfl (pc0 := 172) (pc' := 150) rfl (hb hby own_dprog_30_method_7_code_172) (by decide) (by decide) (XS.iload X53.here hx rfl (hb hby own_dprog_30_method_7_code_150) rfl (XS.iloadN X53.here hx rfl (hb hby own_dprog_30_method_7_code_152) rfl k)))) ?_
    show own_Go p.tables e below RR (T53.setTop (mkF m 153 #[.val (.ref pa), .val (.int (4 : Int32)), .val (.ref b2), .val (.ref b30), .val (.int xl), .val (.int xr), .val (.ref b40), .val (.int (2 : Int32))] [(.int (4 : Int32)), (.int (2 : Int32))]))
    refine own_st (fun _ k => XS.icmpNo X53.here hx rfl (hb hby own_dprog_30_method_7_code_153) rfl (tlt (by decide)).2.1 (XS.aload X53.here hx rfl (hb hby own_dprog_30_method_7_code_156) rfl rfl (XS.iload X53.here hx rfl (hb hby own_dprog_30_method_7_code_158) rfl (XS.aloadN X53.here hx rfl (hb hby own_dprog_30_method_7_code_160) rfl rfl (XS.iloadN X53.here hx rfl (hb hby own_dprog_30_method_7_code_161) rfl (XS.iconst X53.here hx rfl (hb hby own_dprog_30_method_7_code_162) (XS.isub X53.here hx rfl (hb hby own_dprog_30_method_7_code_163) rfl (XS.iload X53.here hx rfl (hb hby own_dprog_30_method_7_code_164) rfl k)))))))) ?_
    show own_Go p.tables e below RR (T53.setTop (mkF m 166 #[.val (.ref pa), .val (.int (4 : Int32)), .val (.ref b2), .val (.ref b30), .val (.int xl), .val (.int xr), .val (.ref b40), .val (.int (2 : Int32))] [(.int (2 : Int32)), (.int (3 : Int32)), (.ref b30), (.int (2 : Int32)), (.ref b40)]))
    refine own_st (fun _ k => XS.isub X53.here hx rfl (hb hby own_dprog_30_method_7_code_166) rfl k) ?_
    show own_Go p.tables e below RR (T53.setTop (mkF m 167 #[.val (.ref pa), .val (.int (4 : Int32)), .val (.ref b2), .val (.ref b30), .val (.int xl), .val (.int xr), .val (.ref b40), .val (.int (2 : Int32))] [(.int (1 : Int32)), (.ref b30), (.int (2 : Int32)), (.ref b40)]))
    have f56 := (f50.other W53 ne49)
    obtain ⟨c57, A57, q57, s57, m57, H57, G57⟩ := id f56
    have b57 := inb_of (j := (1 : Int32)) s57 ⟨by decide, by decide⟩
    refine own_st (fun _ k => X53.iaload hx (j := (1 : Int32)) (v := (.int zn1)) (by rw [e53]; exact A57.1) (State.isArrayOf_alike hZ.alike A57.2.1) A57.2.2 b57 (Has.at H57 b57 rfl) (g := (mkF m 167 #[.val (.ref pa), .val (.int (4 : Int32)), .val (.ref b2), .val (.ref b30), .val (.int xl), .val (.int xr), .val (.ref b40), .val (.int (2 : Int32))] [(.int (1 : Int32)), (.ref b30), (.int (2 : Int32)), (.ref b40)])) rfl rfl (hb hby own_dprog_30_method_7_code_167) _ k) ?_
    show own_Go p.tables e below RR (T53.setTop (mkF m 168 #[.val (.ref pa), .val (.int (4 : Int32)), .val (.ref b2), .val (.ref b30), .val (.int xl), .val (.int xr), .val (.ref b40), .val (.int (2 : Int32))] [(.int zn1), (.int (2 : Int32)), (.ref b40)]))
    obtain ⟨c58, A58, q58, s58, m58, H58, G58⟩ := id V53
    obtain ⟨T59, h59, X59, e59, W59, st59⟩ := stI X53 hx hZ e53 A58 (j := (2 : Int32)) (inb_of s58 ⟨by decide, by decide⟩) (g := (mkF m 168 #[.val (.ref pa), .val (.int (4 : Int32)), .val (.ref b2), .val (.ref b30), .val (.int xl), .val (.int xr), .val (.ref b40), .val (.int (2 : Int32))] [(.int zn1), (.int (2 : Int32)), (.ref b40)])) rfl rfl (hb hby own_dprog_30_method_7_code_168)
    have V59 := Arv.set A58 q58 s58 m58 H58 G58 rfl W59 2 rfl (Nat.le_of_ble_eq_true rfl)
    have V59 : Arv Z h59 b40 k40 .int (4 : Int32) [(.int zn3), (.int zn2), (.int zn1), (.int (0 : Int32))] (.int (0 : Int32)) := V59
    have N59 := Fr.snoc X59 N53 ge40
    refine own_st st59 ?_
    have z60 : n0 ≤ h59.size := Nat.le_trans z54 (Keep.of_wr W59).1
    have kk61 : Keep h0 h59 [] := kk55.wr W59 (Or.inr sz40)
    show own_Go p.tables e below RR (T59.setTop (mkF m 169 #[.val (.ref pa), .val (.int (4 : Int32)), .val (.ref b2), .val (.ref b30), .val (.int xl), .val (.int xr), .val (.ref b40), .val (.int (2 : Int32))] []))
    refine own_st (fun _ k => XS.iinc X59.here hx rfl (hb hby own_dprog_30_method_7_code_169) rfl (l' := #[.val (.ref pa), .val (.int (4 : Int32)), .val (.ref b2), .val (.ref b30), .val (.int xl), .val (.int xr), .val (.ref b40), .val (.int (3 : Int32))]) rfl (XS.goto X59.here hx rfl (pc0 := 172) (pc' := 150) rfl (hb hby own_dprog_30_method_7_code_172) (by decide) (by decide) (XS.iload X59.here hx rfl (hb hby own_dprog_30_method_7_code_150) rfl (XS.iloadN X59.here hx rfl (hb hby own_dprog_30_method_7_code_152) rfl k)))) ?_
    show own_Go p.tables e below RR (T59.setTop (mkF m 153 #[.val (.ref pa), .val (.int (4 : Int32)), .val (.ref b2), .val (.ref b30), .val (.int xl), .val (.int xr), .val (.ref b40), .val (.int (3 : Int32))] [(.int (4 : Int32)), (.int (3 : Int32))]))
    refine own_st (fun _ k => XS.icmpNo X59.here hx rfl (hb hby own_dprog_30_method_7_code_153) rfl (tlt (by decide)).2.1 (XS.aload X59.here hx rfl (hb hby own_dprog_30_method_7_code_156) rfl rfl (XS.iload X59.here hx rfl (hb hby own_dprog_30_method_7_code_158) rfl (XS.aloadN X59.here hx rfl (hb hby own_dprog_30_method_7_code_160) rfl rfl (XS.iloadN X59.here hx rfl (hb hby own_dprog_30_method_7_code_161) rfl (XS.iconst X59.here hx rfl (hb hby own_dprog_30_method_7_code_162) (XS.isub X59.here hx rfl (hb hby own_dprog_30_method_7_code_163) rfl (XS.iload X59.here hx rfl (hb hby own_dprog_30_method_7_code_164) rfl k)))))))) ?_
    show own_Go p.tables e below RR (T59.setTop (mkF m 166 #[.val (.ref pa), .val (.int (4 : Int32)), .val (.ref b2), .val (.ref b30), .val (.int xl), .val (.int xr), .val (.ref b40), .val (.int (3 : Int32))] [(.int (3 : Int32)), (.int (3 : Int32)), (.ref b30), (.int (3 : Int32)), (.ref b40)]))
    refine own_st (fun _ k => XS.isub X59.here hx rfl (hb hby own_dprog_30_method_7_code_166) rfl k) ?_
    show own_Go p.tables e below RR (T59.setTop (mkF m 167 #[.val (.ref pa), .val (.int (4 : Int32)), .val (.ref b2), .val (.ref b30), .val (.int xl), .val (.int xr), .val (.ref b40), .val (.int (3 : Int32))] [(.int (0 : Int32)), (.ref b30), (.int (3 : Int32)), (.ref b40)]))
    have f62 := (f56.other W59 ne49)
    obtain ⟨c63, A63, q63, s63, m63, H63, G63⟩ := id f62
    have b63 := inb_of (j := (0 : Int32)) s63 ⟨by decide, by decide⟩
    refine own_st (fun _ k => X59.iaload hx (j := (0 : Int32)) (v := (.int zn0)) (by rw [e59]; exact A63.1) (State.isArrayOf_alike hZ.alike A63.2.1) A63.2.2 b63 (Has.at H63 b63 rfl) (g := (mkF m 167 #[.val (.ref pa), .val (.int (4 : Int32)), .val (.ref b2), .val (.ref b30), .val (.int xl), .val (.int xr), .val (.ref b40), .val (.int (3 : Int32))] [(.int (0 : Int32)), (.ref b30), (.int (3 : Int32)), (.ref b40)])) rfl rfl (hb hby own_dprog_30_method_7_code_167) _ k) ?_
    show own_Go p.tables e below RR (T59.setTop (mkF m 168 #[.val (.ref pa), .val (.int (4 : Int32)), .val (.ref b2), .val (.ref b30), .val (.int xl), .val (.int xr), .val (.ref b40), .val (.int (3 : Int32))] [(.int zn0), (.int (3 : Int32)), (.ref b40)]))
    obtain ⟨c64, A64, q64, s64, m64, H64, G64⟩ := id V59
    obtain ⟨T65, h65, X65, e65, W65, st65⟩ := stI X59 hx hZ e59 A64 (j := (3 : Int32)) (inb_of s64 ⟨by decide, by decide⟩) (g := (mkF m 168 #[.val (.ref pa), .val (.int (4 : Int32)), .val (.ref b2), .val (.ref b30), .val (.int xl), .val (.int xr), .val (.ref b40), .val (.int (3 : Int32))] [(.int zn0), (.int (3 : Int32)), (.ref b40)])) rfl rfl (hb hby own_dprog_30_method_7_code_168)
    have V65 := Arv.set A64 q64 s64 m64 H64 G64 rfl W65 3 rfl (Nat.le_of_ble_eq_true rfl)
    have V65 : Arv Z h65 b40 k40 .int (4 : Int32) [(.int zn3), (.int zn2), (.int zn1), (.int zn0)] (.int (0 : Int32)) := V65
    have N65 := Fr.snoc X65 N59 ge40
    refine own_st st65 ?_
    have z66 : n0 ≤ h65.size := Nat.le_trans z60 (Keep.of_wr W65).1
    have kk67 : Keep h0 h65 [] := kk61.wr W65 (Or.inr sz40)
    show own_Go p.tables e below RR (T65.setTop (mkF m 169 #[.val (.ref pa), .val (.int (4 : Int32)), .val (.ref b2), .val (.ref b30), .val (.int xl), .val (.int xr), .val (.ref b40), .val (.int (3 : Int32))] []))
    refine own_st (fun _ k => XS.iinc X65.here hx rfl (hb hby own_dprog_30_method_7_code_169) rfl (l' := #[.val (.ref pa), .val (.int (4 : Int32)), .val (.ref b2), .val (.ref b30), .val (.int xl), .val (.int xr), .val (.ref b40), .val (.int (4 : Int32))]) rfl (XS.goto X65.here hx rfl (pc0 := 172) (pc' := 150) rfl (hb hby own_dprog_30_method_7_code_172) (by decide) (by decide) (XS.iload X65.here hx rfl (hb hby own_dprog_30_method_7_code_150) rfl (XS.iloadN X65.here hx rfl (hb hby own_dprog_30_method_7_code_152) rfl k)))) ?_
    show own_Go p.tables e below RR (T65.setTop (mkF m 153 #[.val (.ref pa), .val (.int (4 : Int32)), .val (.ref b2), .val (.ref b30), .val (.int xl), .val (.int xr), .val (.ref b40), .val (.int (4 : Int32))] [(.int (4 : Int32)), (.int (4 : Int32))]))
    refine own_st (fun _ k => XS.icmpYes X65.here hx rfl (pc0 := 153) (pc' := 175) rfl (hb hby own_dprog_30_method_7_code_153) rfl (flt (by decide)).2.1 (by decide) (by decide) (XS.aload X65.here hx rfl (hb hby own_dprog_30_method_7_code_175) rfl rfl k)) ?_
    show own_Go p.tables e below RR (T65.setTop (mkF m 177 #[.val (.ref pa), .val (.int (4 : Int32)), .val (.ref b2), .val (.ref b30), .val (.int xl), .val (.int xr), .val (.ref b40), .val (.int (4 : Int32))] [(.ref b40)]))
    obtain ⟨fs, hrt_, hrun, hended, hW, hsame⟩ := X65.leave (v := some (.ref b40)) (fun h => by rw [Bd.returns] at h; cases h)
    refine own_fin (retOut X65 hx Bd.returns rfl (Or.inr (Or.inr (Or.inr (Or.inr ⟨rfl, rfl, rfl⟩)))) (hb hby own_dprog_30_method_7_code_177) hrt_) (hRR _ ⟨_, hrun, hended, _, _, rfl, ?_, ⟨_, rfl⟩, hW, hsame.mono (by decide) (by decide)⟩)
    show own_QCS Z pa kp pp0 pp1 pp2 pp3 h0 n0 _ T65.heap _
    rw [e65]
    exact ⟨_, rfl, N65, kk67, _, zn3, zn2, zn1, zn0, V65, ⟨hz3, hz2, hz1, hz0⟩⟩
  show own_Go p.tables e below RR (T34.setTop (mkF m 47 #[.val (.ref pa), .val (.int (4 : Int32)), .val (.ref b2), .val (.ref b30), .val (.int (0 : Int32)), .val (.int (0 : Int32)), .val (.int (1 : Int32)), .unset] []))
  refine own_st (fun _ k => XS.iload X34.here hx rfl (hb hby own_dprog_30_method_7_code_47) rfl (XS.iloadN X34.here hx rfl (hb hby own_dprog_30_method_7_code_49) rfl k)) ?_
  show own_Go p.tables e below RR (T34.setTop (mkF m 50 #[.val (.ref pa), .val (.int (4 : Int32)), .val (.ref b2), .val (.ref b30), .val (.int (0 : Int32)), .val (.int (0 : Int32)), .val (.int (1 : Int32)), .unset] [(.int (4 : Int32)), (.int (1 : Int32))]))
  refine own_st (fun _ k => XS.icmpNo X34.here hx rfl (hb hby own_dprog_30_method_7_code_50) rfl (tlt (by decide)).2.1 (XS.iconst X34.here hx rfl (hb hby own_dprog_30_method_7_code_53) (XS.istore X34.here hx rfl (hb hby own_dprog_30_method_7_code_54) rfl (l' := #[.val (.ref pa), .val (.int (4 : Int32)), .val (.ref b2), .val (.ref b30), .val (.int (0 : Int32)), .val (.int (0 : Int32)), .val (.int (1 : Int32)), .val (.int (0 : Int32))]) rfl (XS.iload X34.here hx rfl (hb hby own_dprog_30_method_7_code_56) rfl (XS.iload X34.here hx rfl (hb hby own_dprog_30_method_7_code_58) rfl k))))) ?_
  show own_Go p.tables e below RR (T34.setTop (mkF m 60 #[.val (.ref pa), .val (.int (4 : Int32)), .val (.ref b2), .val (.ref b30), .val (.int (0 : Int32)), .val (.int (0 : Int32)), .val (.int (1 : Int32)), .val (.int (0 : Int32))] [(.int (0 : Int32)), (.int (1 : Int32))]))
  refine own_st (fun _ k => XS.icmpYes X34.here hx rfl (pc0 := 60) (pc' := 80) rfl (hb hby own_dprog_30_method_7_code_60) rfl (flt (by decide)).2.1 (by decide) (by decide) (XS.iload X34.here hx rfl (hb hby own_dprog_30_method_7_code_80) rfl (XS.iload X34.here hx rfl (hb hby own_dprog_30_method_7_code_82) rfl (XS.iadd X34.here hx rfl (hb hby own_dprog_30_method_7_code_84) rfl (XS.iloadN X34.here hx rfl (hb hby own_dprog_30_method_7_code_85) rfl k))))) ?_
  show own_Go p.tables e below RR (T34.setTop (mkF m 86 #[.val (.ref pa), .val (.int (4 : Int32)), .val (.ref b2), .val (.ref b30), .val (.int (0 : Int32)), .val (.int (0 : Int32)), .val (.int (1 : Int32)), .val (.int (0 : Int32))] [(.int (4 : Int32)), (.int (1 : Int32))]))
  refine own_st (fun _ k => XS.icmpNo X34.here hx rfl (hb hby own_dprog_30_method_7_code_86) rfl (tlt (by decide)).2.1 (XS.aloadN X34.here hx rfl (hb hby own_dprog_30_method_7_code_89) rfl rfl (XS.iload X34.here hx rfl (hb hby own_dprog_30_method_7_code_90) rfl k))) ?_
  show own_Go p.tables e below RR (T34.setTop (mkF m 92 #[.val (.ref pa), .val (.int (4 : Int32)), .val (.ref b2), .val (.ref b30), .val (.int (0 : Int32)), .val (.int (0 : Int32)), .val (.int (1 : Int32)), .val (.int (0 : Int32))] [(.int (0 : Int32)), (.ref b2)]))
  have ne68 : b2 ≠ b30 := (Nat.ne_of_lt (Nat.lt_of_lt_of_le ((((B2.wr W8).wr W15).wr W21).wr W27).lt (Nat.le_of_eq gb30.symm)))
  have f69 := ((V27.ext E30).other W34 ne68)
  obtain ⟨c70, A70, q70, s70, m70, H70, G70⟩ := id f69
  have b70 := inb_of (j := (0 : Int32)) s70 ⟨by decide, by decide⟩
  refine own_st (fun _ k => X34.iaload hx (j := (0 : Int32)) (v := (.int pp3)) (by rw [e34]; exact A70.1) (State.isArrayOf_alike hZ.alike A70.2.1) A70.2.2 b70 (Has.at H70 b70 rfl) (g := (mkF m 92 #[.val (.ref pa), .val (.int (4 : Int32)), .val (.ref b2), .val (.ref b30), .val (.int (0 : Int32)), .val (.int (0 : Int32)), .val (.int (1 : Int32)), .val (.int (0 : Int32))] [(.int (0 : Int32)), (.ref b2)])) rfl rfl (hb hby own_dprog_30_method_7_code_92) _ (XS.aloadN X34.here hx rfl (hb hby own_dprog_30_method_7_code_93) rfl rfl (XS.iload X34.here hx rfl (hb hby own_dprog_30_method_7_code_94) rfl (XS.iload X34.here hx rfl (hb hby own_dprog_30_method_7_code_96) rfl (XS.iadd X34.here hx rfl (hb hby own_dprog_30_method_7_code_98) rfl k))))) ?_
  show own_Go p.tables e below RR (T34.setTop (mkF m 99 #[.val (.ref pa), .val (.int (4 : Int32)), .val (.ref b2), .val (.ref b30), .val (.int (0 : Int32)), .val (.int (0 : Int32)), .val (.int (1 : Int32)), .val (.int (0 : Int32))] [(.int (1 : Int32)), (.ref b2), (.int pp3)]))
  obtain ⟨c71, A71, q71, s71, m71, H71, G71⟩ := id f69
  have b71 := inb_of (j := (1 : Int32)) s71 ⟨by decide, by decide⟩
  refine own_st (fun _ k => X34.iaload hx (j := (1 : Int32)) (v := (.int pp2)) (by rw [e34]; exact A71.1) (State.isArrayOf_alike hZ.alike A71.2.1) A71.2.2 b71 (Has.at H71 b71 rfl) (g := (mkF m 99 #[.val (.ref pa), .val (.int (4 : Int32)), .val (.ref b2), .val (.ref b30), .val (.int (0 : Int32)), .val (.int (0 : Int32)), .val (.int (1 : Int32)), .val (.int (0 : Int32))] [(.int (1 : Int32)), (.ref b2), (.int pp3)])) rfl rfl (hb hby own_dprog_30_method_7_code_99) _ k) ?_
  show own_Go p.tables e below RR (T34.setTop (mkF m 100 #[.val (.ref pa), .val (.int (4 : Int32)), .val (.ref b2), .val (.ref b30), .val (.int (0 : Int32)), .val (.int (0 : Int32)), .val (.int (1 : Int32)), .val (.int (0 : Int32))] [(.int pp2), (.int pp3)]))
  by_cases hc100_72 : pp3 = pp2
  · refine own_st (fun _ k => XS.icmpNo X34.here hx rfl (hb hby own_dprog_30_method_7_code_100) rfl (teq hc100_72).2 (XS.iinc X34.here hx rfl (hb hby own_dprog_30_method_7_code_103) rfl (l' := #[.val (.ref pa), .val (.int (4 : Int32)), .val (.ref b2), .val (.ref b30), .val (.int (0 : Int32)), .val (.int (0 : Int32)), .val (.int (1 : Int32)), .val (.int (1 : Int32))]) rfl (XS.goto X34.here hx rfl (pc0 := 106) (pc' := 80) rfl (hb hby own_dprog_30_method_7_code_106) (by decide) (by decide) (XS.iload X34.here hx rfl (hb hby own_dprog_30_method_7_code_80) rfl (XS.iload X34.here hx rfl (hb hby own_dprog_30_method_7_code_82) rfl (XS.iadd X34.here hx rfl (hb hby own_dprog_30_method_7_code_84) rfl (XS.iloadN X34.here hx rfl (hb hby own_dprog_30_method_7_code_85) rfl k))))))) ?_
    show own_Go p.tables e below RR (T34.setTop (mkF m 86 #[.val (.ref pa), .val (.int (4 : Int32)), .val (.ref b2), .val (.ref b30), .val (.int (0 : Int32)), .val (.int (0 : Int32)), .val (.int (1 : Int32)), .val (.int (1 : Int32))] [(.int (4 : Int32)), (.int (2 : Int32))]))
    refine own_st (fun _ k => XS.icmpNo X34.here hx rfl (hb hby own_dprog_30_method_7_code_86) rfl (tlt (by decide)).2.1 (XS.aloadN X34.here hx rfl (hb hby own_dprog_30_method_7_code_89) rfl rfl (XS.iload X34.here hx rfl (hb hby own_dprog_30_method_7_code_90) rfl k))) ?_
    show own_Go p.tables e below RR (T34.setTop (mkF m 92 #[.val (.ref pa), .val (.int (4 : Int32)), .val (.ref b2), .val (.ref b30), .val (.int (0 : Int32)), .val (.int (0 : Int32)), .val (.int (1 : Int32)), .val (.int (1 : Int32))] [(.int (1 : Int32)), (.ref b2)]))
    obtain ⟨c73, A73, q73, s73, m73, H73, G73⟩ := id f69
    have b73 := inb_of (j := (1 : Int32)) s73 ⟨by decide, by decide⟩
    refine own_st (fun _ k => X34.iaload hx (j := (1 : Int32)) (v := (.int pp2)) (by rw [e34]; exact A73.1) (State.isArrayOf_alike hZ.alike A73.2.1) A73.2.2 b73 (Has.at H73 b73 rfl) (g := (mkF m 92 #[.val (.ref pa), .val (.int (4 : Int32)), .val (.ref b2), .val (.ref b30), .val (.int (0 : Int32)), .val (.int (0 : Int32)), .val (.int (1 : Int32)), .val (.int (1 : Int32))] [(.int (1 : Int32)), (.ref b2)])) rfl rfl (hb hby own_dprog_30_method_7_code_92) _ (XS.aloadN X34.here hx rfl (hb hby own_dprog_30_method_7_code_93) rfl rfl (XS.iload X34.here hx rfl (hb hby own_dprog_30_method_7_code_94) rfl (XS.iload X34.here hx rfl (hb hby own_dprog_30_method_7_code_96) rfl (XS.iadd X34.here hx rfl (hb hby own_dprog_30_method_7_code_98) rfl k))))) ?_
    show own_Go p.tables e below RR (T34.setTop (mkF m 99 #[.val (.ref pa), .val (.int (4 : Int32)), .val (.ref b2), .val (.ref b30), .val (.int (0 : Int32)), .val (.int (0 : Int32)), .val (.int (1 : Int32)), .val (.int (1 : Int32))] [(.int (2 : Int32)), (.ref b2), (.int pp2)]))
    obtain ⟨c74, A74, q74, s74, m74, H74, G74⟩ := id f69
    have b74 := inb_of (j := (2 : Int32)) s74 ⟨by decide, by decide⟩
    refine own_st (fun _ k => X34.iaload hx (j := (2 : Int32)) (v := (.int pp1)) (by rw [e34]; exact A74.1) (State.isArrayOf_alike hZ.alike A74.2.1) A74.2.2 b74 (Has.at H74 b74 rfl) (g := (mkF m 99 #[.val (.ref pa), .val (.int (4 : Int32)), .val (.ref b2), .val (.ref b30), .val (.int (0 : Int32)), .val (.int (0 : Int32)), .val (.int (1 : Int32)), .val (.int (1 : Int32))] [(.int (2 : Int32)), (.ref b2), (.int pp2)])) rfl rfl (hb hby own_dprog_30_method_7_code_99) _ k) ?_
    show own_Go p.tables e below RR (T34.setTop (mkF m 100 #[.val (.ref pa), .val (.int (4 : Int32)), .val (.ref b2), .val (.ref b30), .val (.int (0 : Int32)), .val (.int (0 : Int32)), .val (.int (1 : Int32)), .val (.int (1 : Int32))] [(.int pp1), (.int pp2)]))
    by_cases hc100_75 : pp2 = pp1
    · refine own_st (fun _ k => XS.icmpNo X34.here hx rfl (hb hby own_dprog_30_method_7_code_100) rfl (teq hc100_75).2 (XS.iinc X34.here hx rfl (hb hby own_dprog_30_method_7_code_103) rfl (l' := #[.val (.ref pa), .val (.int (4 : Int32)), .val (.ref b2), .val (.ref b30), .val (.int (0 : Int32)), .val (.int (0 : Int32)), .val (.int (1 : Int32)), .val (.int (2 : Int32))]) rfl (XS.goto X34.here hx rfl (pc0 := 106) (pc' := 80) rfl (hb hby own_dprog_30_method_7_code_106) (by decide) (by decide) (XS.iload X34.here hx rfl (hb hby own_dprog_30_method_7_code_80) rfl (XS.iload X34.here hx rfl (hb hby own_dprog_30_method_7_code_82) rfl (XS.iadd X34.here hx rfl (hb hby own_dprog_30_method_7_code_84) rfl (XS.iloadN X34.here hx rfl (hb hby own_dprog_30_method_7_code_85) rfl k))))))) ?_
      show own_Go p.tables e below RR (T34.setTop (mkF m 86 #[.val (.ref pa), .val (.int (4 : Int32)), .val (.ref b2), .val (.ref b30), .val (.int (0 : Int32)), .val (.int (0 : Int32)), .val (.int (1 : Int32)), .val (.int (2 : Int32))] [(.int (4 : Int32)), (.int (3 : Int32))]))
      refine own_st (fun _ k => XS.icmpNo X34.here hx rfl (hb hby own_dprog_30_method_7_code_86) rfl (tlt (by decide)).2.1 (XS.aloadN X34.here hx rfl (hb hby own_dprog_30_method_7_code_89) rfl rfl (XS.iload X34.here hx rfl (hb hby own_dprog_30_method_7_code_90) rfl k))) ?_
      show own_Go p.tables e below RR (T34.setTop (mkF m 92 #[.val (.ref pa), .val (.int (4 : Int32)), .val (.ref b2), .val (.ref b30), .val (.int (0 : Int32)), .val (.int (0 : Int32)), .val (.int (1 : Int32)), .val (.int (2 : Int32))] [(.int (2 : Int32)), (.ref b2)]))
      obtain ⟨c76, A76, q76, s76, m76, H76, G76⟩ := id f69
      have b76 := inb_of (j := (2 : Int32)) s76 ⟨by decide, by decide⟩
      refine own_st (fun _ k => X34.iaload hx (j := (2 : Int32)) (v := (.int pp1)) (by rw [e34]; exact A76.1) (State.isArrayOf_alike hZ.alike A76.2.1) A76.2.2 b76 (Has.at H76 b76 rfl) (g := (mkF m 92 #[.val (.ref pa), .val (.int (4 : Int32)), .val (.ref b2), .val (.ref b30), .val (.int (0 : Int32)), .val (.int (0 : Int32)), .val (.int (1 : Int32)), .val (.int (2 : Int32))] [(.int (2 : Int32)), (.ref b2)])) rfl rfl (hb hby own_dprog_30_method_7_code_92) _ (XS.aloadN X34.here hx rfl (hb hby own_dprog_30_method_7_code_93) rfl rfl (XS.iload X34.here hx rfl (hb hby own_dprog_30_method_7_code_94) rfl (XS.iload X34.here hx rfl (hb hby own_dprog_30_method_7_code_96) rfl (XS.iadd X34.here hx rfl (hb hby own_dprog_30_method_7_code_98) rfl k))))) ?_
      show own_Go p.tables e below RR (T34.setTop (mkF m 99 #[.val (.ref pa), .val (.int (4 : Int32)), .val (.ref b2), .val (.ref b30), .val (.int (0 : Int32)), .val (.int (0 : Int32)), .val (.int (1 : Int32)), .val (.int (2 : Int32))] [(.int (3 : Int32)), (.ref b2), (.int pp1)]))
      obtain ⟨c77, A77, q77, s77, m77, H77, G77⟩ := id f69
      have b77 := inb_of (j := (3 : Int32)) s77 ⟨by decide, by decide⟩
      refine own_st (fun _ k => X34.iaload hx (j := (3 : Int32)) (v := (.int pp0)) (by rw [e34]; exact A77.1) (State.isArrayOf_alike hZ.alike A77.2.1) A77.2.2 b77 (Has.at H77 b77 rfl) (g := (mkF m 99 #[.val (.ref pa), .val (.int (4 : Int32)), .val (.ref b2), .val (.ref b30), .val (.int (0 : Int32)), .val (.int (0 : Int32)), .val (.int (1 : Int32)), .val (.int (2 : Int32))] [(.int (3 : Int32)), (.ref b2), (.int pp1)])) rfl rfl (hb hby own_dprog_30_method_7_code_99) _ k) ?_
      show own_Go p.tables e below RR (T34.setTop (mkF m 100 #[.val (.ref pa), .val (.int (4 : Int32)), .val (.ref b2), .val (.ref b30), .val (.int (0 : Int32)), .val (.int (0 : Int32)), .val (.int (1 : Int32)), .val (.int (2 : Int32))] [(.int pp0), (.int pp1)]))
      by_cases hc100_78 : pp1 = pp0
      · refine own_st (fun _ k => XS.icmpNo X34.here hx rfl (hb hby own_dprog_30_method_7_code_100) rfl (teq hc100_78).2 (XS.iinc X34.here hx rfl (hb hby own_dprog_30_method_7_code_103) rfl (l' := #[.val (.ref pa), .val (.int (4 : Int32)), .val (.ref b2), .val (.ref b30), .val (.int (0 : Int32)), .val (.int (0 : Int32)), .val (.int (1 : Int32)), .val (.int (3 : Int32))]) rfl (XS.goto X34.here hx rfl (pc0 := 106) (pc' := 80) rfl (hb hby own_dprog_30_method_7_code_106) (by decide) (by decide) (XS.iload X34.here hx rfl (hb hby own_dprog_30_method_7_code_80) rfl (XS.iload X34.here hx rfl (hb hby own_dprog_30_method_7_code_82) rfl (XS.iadd X34.here hx rfl (hb hby own_dprog_30_method_7_code_84) rfl (XS.iloadN X34.here hx rfl (hb hby own_dprog_30_method_7_code_85) rfl k))))))) ?_
        show own_Go p.tables e below RR (T34.setTop (mkF m 86 #[.val (.ref pa), .val (.int (4 : Int32)), .val (.ref b2), .val (.ref b30), .val (.int (0 : Int32)), .val (.int (0 : Int32)), .val (.int (1 : Int32)), .val (.int (3 : Int32))] [(.int (4 : Int32)), (.int (4 : Int32))]))
        refine own_st (fun _ k => XS.icmpYes X34.here hx rfl (pc0 := 86) (pc' := 109) rfl (hb hby own_dprog_30_method_7_code_86) rfl (flt (by decide)).2.1 (by decide) (by decide) (XS.aloadN X34.here hx rfl (hb hby own_dprog_30_method_7_code_109) rfl rfl (XS.iload X34.here hx rfl (hb hby own_dprog_30_method_7_code_110) rfl (XS.iload X34.here hx rfl (hb hby own_dprog_30_method_7_code_112) rfl k)))) ?_
        show own_Go p.tables e below RR (T34.setTop (mkF m 114 #[.val (.ref pa), .val (.int (4 : Int32)), .val (.ref b2), .val (.ref b30), .val (.int (0 : Int32)), .val (.int (0 : Int32)), .val (.int (1 : Int32)), .val (.int (3 : Int32))] [(.int (3 : Int32)), (.int (1 : Int32)), (.ref b30)]))
        obtain ⟨c79, A79, q79, s79, m79, H79, G79⟩ := id V34
        obtain ⟨T80, h80, X80, e80, W80, st80⟩ := stI X34 hx hZ e34 A79 (j := (1 : Int32)) (inb_of s79 ⟨by decide, by decide⟩) (g := (mkF m 114 #[.val (.ref pa), .val (.int (4 : Int32)), .val (.ref b2), .val (.ref b30), .val (.int (0 : Int32)), .val (.int (0 : Int32)), .val (.int (1 : Int32)), .val (.int (3 : Int32))] [(.int (3 : Int32)), (.int (1 : Int32)), (.ref b30)])) rfl rfl (hb hby own_dprog_30_method_7_code_114)
        have V80 := Arv.set A79 q79 s79 m79 H79 G79 rfl W80 1 rfl (Nat.le_of_ble_eq_true rfl)
        have V80 : Arv Z h80 b30 k30 .int (4 : Int32) [(.int (4 : Int32)), (.int (3 : Int32)), (.int (0 : Int32)), (.int (0 : Int32))] (.int (0 : Int32)) := V80
        have N80 := Fr.snoc X80 N34 ge30
        refine own_st st80 ?_
        have z81 : n0 ≤ h80.size := Nat.le_trans z35 (Keep.of_wr W80).1
        have kk82 : Keep h0 h80 [] := kk36.wr W80 (Or.inr sz30)
        show own_Go p.tables e below RR (T80.setTop (mkF m 115 #[.val (.ref pa), .val (.int (4 : Int32)), .val (.ref b2), .val (.ref b30), .val (.int (0 : Int32)), .val (.int (0 : Int32)), .val (.int (1 : Int32)), .val (.int (3 : Int32))] []))
        refine own_st (fun _ k => XS.iload X80.here hx rfl (hb hby own_dprog_30_method_7_code_115) rfl (XS.iload X80.here hx rfl (hb hby own_dprog_30_method_7_code_117) rfl (XS.iadd X80.here hx rfl (hb hby own_dprog_30_method_7_code_119) rfl (XS.iload X80.here hx rfl (hb hby own_dprog_30_method_7_code_120) rfl k)))) ?_
        show own_Go p.tables e below RR (T80.setTop (mkF m 122 #[.val (.ref pa), .val (.int (4 : Int32)), .val (.ref b2), .val (.ref b30), .val (.int (0 : Int32)), .val (.int (0 : Int32)), .val (.int (1 : Int32)), .val (.int (3 : Int32))] [(.int (0 : Int32)), (.int (4 : Int32))]))
        refine own_st (fun _ k => XS.icmpNo X80.here hx rfl (hb hby own_dprog_30_method_7_code_122) rfl (tlt (by decide)).2.2.2 (XS.iload X80.here hx rfl (hb hby own_dprog_30_method_7_code_125) rfl (XS.istore X80.here hx rfl (hb hby own_dprog_30_method_7_code_127) rfl (l' := #[.val (.ref pa), .val (.int (4 : Int32)), .val (.ref b2), .val (.ref b30), .val (.int (1 : Int32)), .val (.int (0 : Int32)), .val (.int (1 : Int32)), .val (.int (3 : Int32))]) rfl (XS.iload X80.here hx rfl (hb hby own_dprog_30_method_7_code_129) rfl (XS.iload X80.here hx rfl (hb hby own_dprog_30_method_7_code_131) rfl (XS.iadd X80.here hx rfl (hb hby own_dprog_30_method_7_code_133) rfl (XS.istore X80.here hx rfl (hb hby own_dprog_30_method_7_code_134) rfl (l' := #[.val (.ref pa), .val (.int (4 : Int32)), .val (.ref b2), .val (.ref b30), .val (.int (1 : Int32)), .val (.int (4 : Int32)), .val (.int (1 : Int32)), .val (.int (3 : Int32))]) rfl (XS.iinc X80.here hx rfl (hb hby own_dprog_30_method_7_code_136) rfl (l' := #[.val (.ref pa), .val (.int (4 : Int32)), .val (.ref b2), .val (.ref b30), .val (.int (1 : Int32)), .val (.int (4 : Int32)), .val (.int (2 : Int32)), .val (.int (3 : Int32))]) rfl k)))))))) ?_
        show own_Go p.tables e below RR (T80.setTop (mkF m 139 #[.val (.ref pa), .val (.int (4 : Int32)), .val (.ref b2), .val (.ref b30), .val (.int (1 : Int32)), .val (.int (4 : Int32)), .val (.int (2 : Int32)), .val (.int (3 : Int32))] []))
        refine own_st (fun _ k => XS.goto X80.here hx rfl (pc0 := 139) (pc' := 47) rfl (hb hby own_dprog_30_method_7_code_139) (by decide) (by decide) (XS.iload X80.here hx rfl (hb hby own_dprog_30_method_7_code_47) rfl (XS.iloadN X80.here hx rfl (hb hby own_dprog_30_method_7_code_49) rfl k))) ?_
        show own_Go p.tables e below RR (T80.setTop (mkF m 50 #[.val (.ref pa), .val (.int (4 : Int32)), .val (.ref b2), .val (.ref b30), .val (.int (1 : Int32)), .val (.int (4 : Int32)), .val (.int (2 : Int32)), .val (.int (3 : Int32))] [(.int (4 : Int32)), (.int (2 : Int32))]))
        refine own_st (fun _ k => XS.icmpNo X80.here hx rfl (hb hby own_dprog_30_method_7_code_50) rfl (tlt (by decide)).2.1 (XS.iconst X80.here hx rfl (hb hby own_dprog_30_method_7_code_53) (XS.istore X80.here hx rfl (hb hby own_dprog_30_method_7_code_54) rfl (l' := #[.val (.ref pa), .val (.int (4 : Int32)), .val (.ref b2), .val (.ref b30), .val (.int (1 : Int32)), .val (.int (4 : Int32)), .val (.int (2 : Int32)), .val (.int (0 : Int32))]) rfl (XS.iload X80.here hx rfl (hb hby own_dprog_30_method_7_code_56) rfl (XS.iload X80.here hx rfl (hb hby own_dprog_30_method_7_code_58) rfl k))))) ?_
        show own_Go p.tables e below RR (T80.setTop (mkF m 60 #[.val (.ref pa), .val (.int (4 : Int32)), .val (.ref b2), .val (.ref b30), .val (.int (1 : Int32)), .val (.int (4 : Int32)), .val (.int (2 : Int32)), .val (.int (0 : Int32))] [(.int (4 : Int32)), (.int (2 : Int32))]))
        refine own_st (fun _ k => XS.icmpNo X80.here hx rfl (hb hby own_dprog_30_method_7_code_60) rfl (tlt (by decide)).2.1 (XS.iload X80.here hx rfl (hb hby own_dprog_30_method_7_code_63) rfl (XS.iload X80.here hx rfl (hb hby own_dprog_30_method_7_code_65) rfl (XS.isub X80.here hx rfl (hb hby own_dprog_30_method_7_code_67) rfl (XS.aloadN X80.here hx rfl (hb hby own_dprog_30_method_7_code_68) rfl rfl (XS.iload X80.here hx rfl (hb hby own_dprog_30_method_7_code_69) rfl (XS.iload X80.here hx rfl (hb hby own_dprog_30_method_7_code_71) rfl (XS.isub X80.here hx rfl (hb hby own_dprog_30_method_7_code_73) rfl k)))))))) ?_
        show own_Go p.tables e below RR (T80.setTop (mkF m 74 #[.val (.ref pa), .val (.int (4 : Int32)), .val (.ref b2), .val (.ref b30), .val (.int (1 : Int32)), .val (.int (4 : Int32)), .val (.int (2 : Int32)), .val (.int (0 : Int32))] [(.int (1 : Int32)), (.ref b30), (.int (2 : Int32))]))
        obtain ⟨c83, A83, q83, s83, m83, H83, G83⟩ := id V80
        have b83 := inb_of (j := (1 : Int32)) s83 ⟨by decide, by decide⟩
        refine own_st (fun _ k => X80.iaload hx (j := (1 : Int32)) (v := (.int (3 : Int32))) (by rw [e80]; exact A83.1) (State.isArrayOf_alike hZ.alike A83.2.1) A83.2.2 b83 (Has.at H83 b83 rfl) (g := (mkF m 74 #[.val (.ref pa), .val (.int (4 : Int32)), .val (.ref b2), .val (.ref b30), .val (.int (1 : Int32)), .val (.int (4 : Int32)), .val (.int (2 : Int32)), .val (.int (0 : Int32))] [(.int (1 : Int32)), (.ref b30), (.int (2 : Int32))])) rfl rfl (hb hby own_dprog_30_method_7_code_74) _ k) ?_
        show own_Go p.tables e below RR (T80.setTop (mkF m 75 #[.val (.ref pa), .val (.int (4 : Int32)), .val (.ref b2), .val (.ref b30), .val (.int (1 : Int32)), .val (.int (4 : Int32)), .val (.int (2 : Int32)), .val (.int (0 : Int32))] [(.int (3 : Int32)), (.int (2 : Int32))]))
        obtain ⟨_, _, ⟨T84, L84, k84, n84⟩, -, X84, ⟨Lc84, hQ84, l84, y84, z84⟩, st84⟩ := Jvm.LawKit.callS X80 hx (y := (⟨"java/lang/Math", "min", "(II)I"⟩ : MethodName)) hown (mvT hZ (hw _ (List.mem_of_getElem? (i := 39) rfl))) (mvT hZ (hw _ (List.mem_of_getElem? (i := 40) rfl))) (mvT hZ (hw _ (List.mem_of_getElem? (i := 41) rfl))) (mvT hZ (hw _ (List.mem_of_getElem? (i := 42) rfl))) (by decide) (backOf (W := 0) (own_rmMN l Z a0 hw [] (2 : Int32) (3 : Int32) (2 : Int32) h80 n0 z81 (by decide)) hZ (hw _ (List.mem_of_getElem? (i := 42) rfl)) (hw _ (List.mem_of_getElem? (i := 41) rfl)) (by decide) (by decide)) (g := (mkF m 75 #[.val (.ref pa), .val (.int (4 : Int32)), .val (.ref b2), .val (.ref b30), .val (.int (1 : Int32)), .val (.int (4 : Int32)), .val (.int (2 : Int32)), .val (.int (0 : Int32))] [(.int (3 : Int32)), (.int (2 : Int32))])) rfl (by rw [hml]; rfl) (argsL := [(.int (2 : Int32)), (.int (3 : Int32))]) (rest := []) (lenOf own_pd__II_I rfl) rfl (by show 2 * 0 + _ ≤ _; exact Nat.le_of_eq rfl) (hb hby own_dprog_30_method_7_code_75) (fun _ _ => ⟨rfl, e80, (by decide : 2 + 0 ≤ _), (by decide : 8 + 0 ≤ _)⟩)
        dsimp only [Pt.U, Pt.locs, Pt.cells, Pt.slots] at X84 l84 y84 z84 st84 hQ84
        subst l84 y84 z84
        obtain ⟨rfl, Nq84, eq84⟩ := hQ84
        have N84 := Fr.app N80 Nq84
        refine own_st st84 ?_
        show own_Go p.tables e below RR (T84.setTop (mkF m 78 #[.val (.ref pa), .val (.int (4 : Int32)), .val (.ref b2), .val (.ref b30), .val (.int (1 : Int32)), .val (.int (4 : Int32)), .val (.int (2 : Int32)), .val (.int (0 : Int32))] [(.int (2 : Int32))]))
        refine own_st (fun _ k => XS.istore X84.here hx rfl (hb hby own_dprog_30_method_7_code_78) rfl (l' := #[.val (.ref pa), .val (.int (4 : Int32)), .val (.ref b2), .val (.ref b30), .val (.int (1 : Int32)), .val (.int (4 : Int32)), .val (.int (2 : Int32)), .val (.int (2 : Int32))]) rfl (XS.iload X84.here hx rfl (hb hby own_dprog_30_method_7_code_80) rfl (XS.iload X84.here hx rfl (hb hby own_dprog_30_method_7_code_82) rfl (XS.iadd X84.here hx rfl (hb hby own_dprog_30_method_7_code_84) rfl (XS.iloadN X84.here hx rfl (hb hby own_dprog_30_method_7_code_85) rfl k))))) ?_
        show own_Go p.tables e below RR (T84.setTop (mkF m 86 #[.val (.ref pa), .val (.int (4 : Int32)), .val (.ref b2), .val (.ref b30), .val (.int (1 : Int32)), .val (.int (4 : Int32)), .val (.int (2 : Int32)), .val (.int (2 : Int32))] [(.int (4 : Int32)), (.int (4 : Int32))]))
        refine own_st (fun _ k => XS.icmpYes X84.here hx rfl (pc0 := 86) (pc' := 109) rfl (hb hby own_dprog_30_method_7_code_86) rfl (flt (by decide)).2.1 (by decide) (by decide) (XS.aloadN X84.here hx rfl (hb hby own_dprog_30_method_7_code_109) rfl rfl (XS.iload X84.here hx rfl (hb hby own_dprog_30_method_7_code_110) rfl (XS.iload X84.here hx rfl (hb hby own_dprog_30_method_7_code_112) rfl k)))) ?_
        show own_Go p.tables e below RR (T84.setTop (mkF m 114 #[.val (.ref pa), .val (.int (4 : Int32)), .val (.ref b2), .val (.ref b30), .val (.int (1 : Int32)), .val (.int (4 : Int32)), .val (.int (2 : Int32)), .val (.int (2 : Int32))] [(.int (2 : Int32)), (.int (2 : Int32)), (.ref b30)]))
        obtain ⟨c85, A85, q85, s85, m85, H85, G85⟩ := id V80
        obtain ⟨T86, h86, X86, e86, W86, st86⟩ := stI X84 hx hZ eq84 A85 (j := (2 : Int32)) (inb_of s85 ⟨by decide, by decide⟩) (g := (mkF m 114 #[.val (.ref pa), .val (.int (4 : Int32)), .val (.ref b2), .val (.ref b30), .val (.int (1 : Int32)), .val (.int (4 : Int32)), .val (.int (2 : Int32)), .val (.int (2 : Int32))] [(.int (2 : Int32)), (.int (2 : Int32)), (.ref b30)])) rfl rfl (hb hby own_dprog_30_method_7_code_114)
        have V86 := Arv.set A85 q85 s85 m85 H85 G85 rfl W86 2 rfl (Nat.le_of_ble_eq_true rfl)
        have V86 : Arv Z h86 b30 k30 .int (4 : Int32) [(.int (4 : Int32)), (.int (3 : Int32)), (.int (2 : Int32)), (.int (0 : Int32))] (.int (0 : Int32)) := V86
        have N86 := Fr.snoc X86 N84 ge30
        refine own_st st86 ?_
        have z87 : n0 ≤ h86.size := Nat.le_trans z81 (Keep.of_wr W86).1
        have kk88 : Keep h0 h86 [] := kk82.wr W86 (Or.inr sz30)
        show own_Go p.tables e below RR (T86.setTop (mkF m 115 #[.val (.ref pa), .val (.int (4 : Int32)), .val (.ref b2), .val (.ref b30), .val (.int (1 : Int32)), .val (.int (4 : Int32)), .val (.int (2 : Int32)), .val (.int (2 : Int32))] []))
        refine own_st (fun _ k => XS.iload X86.here hx rfl (hb hby own_dprog_30_method_7_code_115) rfl (XS.iload X86.here hx rfl (hb hby own_dprog_30_method_7_code_117) rfl (XS.iadd X86.here hx rfl (hb hby own_dprog_30_method_7_code_119) rfl (XS.iload X86.here hx rfl (hb hby own_dprog_30_method_7_code_120) rfl k)))) ?_
        show own_Go p.tables e below RR (T86.setTop (mkF m 122 #[.val (.ref pa), .val (.int (4 : Int32)), .val (.ref b2), .val (.ref b30), .val (.int (1 : Int32)), .val (.int (4 : Int32)), .val (.int (2 : Int32)), .val (.int (2 : Int32))] [(.int (4 : Int32)), (.int (4 : Int32))]))
        refine own_st (fun _ k => XS.icmpYes X86.here hx rfl (pc0 := 122) (pc' := 136) rfl (hb hby own_dprog_30_method_7_code_122) rfl (flt (by decide)).2.2.2 (by decide) (by decide) (XS.iinc X86.here hx rfl (hb hby own_dprog_30_method_7_code_136) rfl (l' := #[.val (.ref pa), .val (.int (4 : Int32)), .val (.ref b2), .val (.ref b30), .val (.int (1 : Int32)), .val (.int (4 : Int32)), .val (.int (3 : Int32)), .val (.int (2 : Int32))]) rfl (XS.goto X86.here hx rfl (pc0 := 139) (pc' := 47) rfl (hb hby own_dprog_30_method_7_code_139) (by decide) (by decide) (XS.iload X86.here hx rfl (hb hby own_dprog_30_method_7_code_47) rfl (XS.iloadN X86.here hx rfl (hb hby own_dprog_30_method_7_code_49) rfl k))))) ?_
        show own_Go p.tables e below RR (T86.setTop (mkF m 50 #[.val (.ref pa), .val (.int (4 : Int32)), .val (.ref b2), .val (.ref b30), .val (.int (1 : Int32)), .val (.int (4 : Int32)), .val (.int (3 : Int32)), .val (.int (2 : Int32))] [(.int (4 : Int32)), (.int (3 : Int32))]))
        refine own_st (fun _ k => XS.icmpNo X86.here hx rfl (hb hby own_dprog_30_method_7_code_50) rfl (tlt (by decide)).2.1 (XS.iconst X86.here hx rfl (hb hby own_dprog_30_method_7_code_53) (XS.istore X86.here hx rfl (hb hby own_dprog_30_method_7_code_54) rfl (l' := #[.val (.ref pa), .val (.int (4 : Int32)), .val (.ref b2), .val (.ref b30), .val (.int (1 : Int32)), .val (.int (4 : Int32)), .val (.int (3 : Int32)), .val (.int (0 : Int32))]) rfl (XS.iload X86.here hx rfl (hb hby own_dprog_30_method_7_code_56) rfl (XS.iload X86.here hx rfl (hb hby own_dprog_30_method_7_code_58) rfl k))))) ?_
        show own_Go p.tables e below RR (T86.setTop (mkF m 60 #[.val (.ref pa), .val (.int (4 : Int32)), .val (.ref b2), .val (.ref b30), .val (.int (1 : Int32)), .val (.int (4 : Int32)), .val (.int (3 : Int32)), .val (.int (0 : Int32))] [(.int (4 : Int32)), (.int (3 : Int32))]))
        refine own_st (fun _ k => XS.icmpNo X86.here hx rfl (hb hby own_dprog_30_method_7_code_60) rfl (tlt (by decide)).2.1 (XS.iload X86.here hx rfl (hb hby own_dprog_30_method_7_code_63) rfl (XS.iload X86.here hx rfl (hb hby own_dprog_30_method_7_code_65) rfl (XS.isub X86.here hx rfl (hb hby own_dprog_30_method_7_code_67) rfl (XS.aloadN X86.here hx rfl (hb hby own_dprog_30_method_7_code_68) rfl rfl (XS.iload X86.here hx rfl (hb hby own_dprog_30_method_7_code_69) rfl (XS.iload X86.here hx rfl (hb hby own_dprog_30_method_7_code_71) rfl (XS.isub X86.here hx rfl (hb hby own_dprog_30_method_7_code_73) rfl k)))))))) ?_
        show own_Go p.tables e below RR (T86.setTop (mkF m 74 #[.val (.ref pa), .val (.int (4 : Int32)), .val (.ref b2), .val (.ref b30), .val (.int (1 : Int32)), .val (.int (4 : Int32)), .val (.int (3 : Int32)), .val (.int (0 : Int32))] [(.int (2 : Int32)), (.ref b30), (.int (1 : Int32))]))
        obtain ⟨c89, A89, q89, s89, m89, H89, G89⟩ := id V86
        have b89 := inb_of (j := (2 : Int32)) s89 ⟨by decide, by decide⟩
        refine own_st (fun _ k => X86.iaload hx (j := (2 : Int32)) (v := (.int (2 : Int32))) (by rw [e86]; exact A89.1) (State.isArrayOf_alike hZ.alike A89.2.1) A89.2.2 b89 (Has.at H89 b89 rfl) (g := (mkF m 74 #[.val (.ref pa), .val (.int (4 : Int32)), .val (.ref b2), .val (.ref b30), .val (.int (1 : Int32)), .val (.int (4 : Int32)), .val (.int (3 : Int32)), .val (.int (0 : Int32))] [(.int (2 : Int32)), (.ref b30), (.int (1 : Int32))])) rfl rfl (hb hby own_dprog_30_method_7_code_74) _ k) ?_
        show own_Go p.tables e below RR (T86.setTop (mkF m 75 #[.val (.ref pa), .val (.int (4 : Int32)), .val (.ref b2), .val (.ref b30), .val (.int (1 : Int32)), .val (.int (4 : Int32)), .val (.int (3 : Int32)), .val (.int (0 : Int32))] [(.int (2 : Int32)), (.int (1 : Int32))]))
        obtain ⟨_, _, ⟨T90, L90, k90, n90⟩, -, X90, ⟨Lc90, hQ90, l90, y90, z90⟩, st90⟩ := Jvm.LawKit.callS X86 hx (y := (⟨"java/lang/Math", "min", "(II)I"⟩ : MethodName)) hown (mvT hZ (hw _ (List.mem_of_getElem? (i := 39) rfl))) (mvT hZ (hw _ (List.mem_of_getElem? (i := 40) rfl))) (mvT hZ (hw _ (List.mem_of_getElem? (i := 41) rfl))) (mvT hZ (hw _ (List.mem_of_getElem? (i := 42) rfl))) (by decide) (backOf (W := 0) (own_rmMN l Z a0 hw [] (1 : Int32) (2 : Int32) (1 : Int32) h86 n0 z87 (by decide)) hZ (hw _ (List.mem_of_getElem? (i := 42) rfl)) (hw _ (List.mem_of_getElem? (i := 41) rfl)) (by decide) (by decide)) (g := (mkF m 75 #[.val (.ref pa), .val (.int (4 : Int32)), .val (.ref b2), .val (.ref b30), .val (.int (1 : Int32)), .val (.int (4 : Int32)), .val (.int (3 : Int32)), .val (.int (0 : Int32))] [(.int (2 : Int32)), (.int (1 : Int32))])) rfl (by rw [hml]; rfl) (argsL := [(.int (1 : Int32)), (.int (2 : Int32))]) (rest := []) (lenOf own_pd__II_I rfl) rfl (by show 2 * 0 + _ ≤ _; exact Nat.le_of_eq rfl) (hb hby own_dprog_30_method_7_code_75) (fun _ _ => ⟨rfl, e86, (by decide : 2 + 0 ≤ _), (by decide : 8 + 0 ≤ _)⟩)
        dsimp only [Pt.U, Pt.locs, Pt.cells, Pt.slots] at X90 l90 y90 z90 st90 hQ90
        subst l90 y90 z90
        obtain ⟨rfl, Nq90, eq90⟩ := hQ90
        have N90 := Fr.app N86 Nq90
        refine own_st st90 ?_
        show own_Go p.tables e below RR (T90.setTop (mkF m 78 #[.val (.ref pa), .val (.int (4 : Int32)), .val (.ref b2), .val (.ref b30), .val (.int (1 : Int32)), .val (.int (4 : Int32)), .val (.int (3 : Int32)), .val (.int (0 : Int32))] [(.int (1 : Int32))]))
        refine own_st (fun _ k => XS.istore X90.here hx rfl (hb hby own_dprog_30_method_7_code_78) rfl (l' := #[.val (.ref pa), .val (.int (4 : Int32)), .val (.ref b2), .val (.ref b30), .val (.int (1 : Int32)), .val (.int (4 : Int32)), .val (.int (3 : Int32)), .val (.int (1 : Int32))]) rfl (XS.iload X90.here hx rfl (hb hby own_dprog_30_method_7_code_80) rfl (XS.iload X90.here hx rfl (hb hby own_dprog_30_method_7_code_82) rfl (XS.iadd X90.here hx rfl (hb hby own_dprog_30_method_7_code_84) rfl (XS.iloadN X90.here hx rfl (hb hby own_dprog_30_method_7_code_85) rfl k))))) ?_
        show own_Go p.tables e below RR (T90.setTop (mkF m 86 #[.val (.ref pa), .val (.int (4 : Int32)), .val (.ref b2), .val (.ref b30), .val (.int (1 : Int32)), .val (.int (4 : Int32)), .val (.int (3 : Int32)), .val (.int (1 : Int32))] [(.int (4 : Int32)), (.int (4 : Int32))]))
        refine own_st (fun _ k => XS.icmpYes X90.here hx rfl (pc0 := 86) (pc' := 109) rfl (hb hby own_dprog_30_method_7_code_86) rfl (flt (by decide)).2.1 (by decide) (by decide) (XS.aloadN X90.here hx rfl (hb hby own_dprog_30_method_7_code_109) rfl rfl (XS.iload X90.here hx rfl (hb hby own_dprog_30_method_7_code_110) rfl (XS.iload X90.here hx rfl (hb hby own_dprog_30_method_7_code_112) rfl k)))) ?_
        show own_Go p.tables e below RR (T90.setTop (mkF m 114 #[.val (.ref pa), .val (.int (4 : Int32)), .val (.ref b2), .val (.ref b30), .val (.int (1 : Int32)), .val (.int (4 : Int32)), .val (.int (3 : Int32)), .val (.int (1 : Int32))] [(.int (1 : Int32)), (.int (3 : Int32)), (.ref b30)]))
        obtain ⟨c91, A91, q91, s91, m91, H91, G91⟩ := id V86
        obtain ⟨T92, h92, X92, e92, W92, st92⟩ := stI X90 hx hZ eq90 A91 (j := (3 : Int32)) (inb_of s91 ⟨by decide, by decide⟩) (g := (mkF m 114 #[.val (.ref pa), .val (.int (4 : Int32)), .val (.ref b2), .val (.ref b30), .val (.int (1 : Int32)), .val (.int (4 : Int32)), .val (.int (3 : Int32)), .val (.int (1 : Int32))] [(.int (1 : Int32)), (.int (3 : Int32)), (.ref b30)])) rfl rfl (hb hby own_dprog_30_method_7_code_114)
        have V92 := Arv.set A91 q91 s91 m91 H91 G91 rfl W92 3 rfl (Nat.le_of_ble_eq_true rfl)
        have V92 : Arv Z h92 b30 k30 .int (4 : Int32) [(.int (4 : Int32)), (.int (3 : Int32)), (.int (2 : Int32)), (.int (1 : Int32))] (.int (0 : Int32)) := V92
        have N92 := Fr.snoc X92 N90 ge30
        refine own_st st92 ?_
        have z93 : n0 ≤ h92.size := Nat.le_trans z87 (Keep.of_wr W92).1
        have kk94 : Keep h0 h92 [] := kk88.wr W92 (Or.inr sz30)
        show own_Go p.tables e below RR (T92.setTop (mkF m 115 #[.val (.ref pa), .val (.int (4 : Int32)), .val (.ref b2), .val (.ref b30), .val (.int (1 : Int32)), .val (.int (4 : Int32)), .val (.int (3 : Int32)), .val (.int (1 : Int32))] []))
        refine own_st (fun _ k => XS.iload X92.here hx rfl (hb hby own_dprog_30_method_7_code_115) rfl (XS.iload X92.here hx rfl (hb hby own_dprog_30_method_7_code_117) rfl (XS.iadd X92.here hx rfl (hb hby own_dprog_30_method_7_code_119) rfl (XS.iload X92.here hx rfl (hb hby own_dprog_30_method_7_code_120) rfl k)))) ?_
        show own_Go p.tables e below RR (T92.setTop (mkF m 122 #[.val (.ref pa), .val (.int (4 : Int32)), .val (.ref b2), .val (.ref b30), .val (.int (1 : Int32)), .val (.int (4 : Int32)), .val (.int (3 : Int32)), .val (.int (1 : Int32))] [(.int (4 : Int32)), (.int (4 : Int32))]))
        refine own_st (fun _ k => XS.icmpYes X92.here hx rfl (pc0 := 122) (pc' := 136) rfl (hb hby own_dprog_30_method_7_code_122) rfl (flt (by decide)).2.2.2 (by decide) (by decide) (XS.iinc X92.here hx rfl (hb hby own_dprog_30_method_7_code_136) rfl (l' := #[.val (.ref pa), .val (.int (4 : Int32)), .val (.ref b2), .val (.ref b30), .val (.int (1 : Int32)), .val (.int (4 : Int32)), .val (.int (4 : Int32)), .val (.int (1 : Int32))]) rfl (XS.goto X92.here hx rfl (pc0 := 139) (pc' := 47) rfl (hb hby own_dprog_30_method_7_code_139) (by decide) (by decide) (XS.iload X92.here hx rfl (hb hby own_dprog_30_method_7_code_47) rfl (XS.iloadN X92.here hx rfl (hb hby own_dprog_30_method_7_code_49) rfl k))))) ?_
        show own_Go p.tables e below RR (T92.setTop (mkF m 50 #[.val (.ref pa), .val (.int (4 : Int32)), .val (.ref b2), .val (.ref b30), .val (.int (1 : Int32)), .val (.int (4 : Int32)), .val (.int (4 : Int32)), .val (.int (1 : Int32))] [(.int (4 : Int32)), (.int (4 : Int32))]))
        refine own_st (fun _ k => XS.icmpYes X92.here hx rfl (pc0 := 50) (pc' := 142) rfl (hb hby own_dprog_30_method_7_code_50) rfl (flt (by decide)).2.1 (by decide) (by decide) k) ?_
        show own_Go p.tables e below RR (T92.setTop (mkF m 142 #[.val (.ref pa), .val (.int (4 : Int32)), .val (.ref b2), .val (.ref b30), .val (.int (1 : Int32)), .val (.int (4 : Int32)), .val (.int (4 : Int32)), .val (.int (1 : Int32))] []))
        exact jnh37 T92 _ h92 (1 : Int32) (4 : Int32) (1 : Int32) (4 : Int32) (3 : Int32) (2 : Int32) (1 : Int32) X92 e92 N92 ((((Keep.refl _ _).wr W80 (Or.inl (List.mem_of_getElem? (i := 0) rfl))).wr W86 (Or.inl (List.mem_of_getElem? (i := 0) rfl))).wr W92 (Or.inl (List.mem_of_getElem? (i := 0) rfl))) V92 (by decide) (by decide) (by decide) (by decide)
      · refine own_st (fun _ k => XS.icmpYes X34.here hx rfl (pc0 := 100) (pc' := 109) rfl (hb hby own_dprog_30_method_7_code_100) rfl (feq hc100_78).2 (by decide) (by decide) (XS.aloadN X34.here hx rfl (hb hby own_dprog_30_method_7_code_109) rfl rfl (XS.iload X34.here hx rfl (hb hby own_dprog_30_method_7_code_110) rfl (XS.iload X34.here hx rfl (hb hby own_dprog_30_method_7_code_112) rfl k)))) ?_
        show own_Go p.tables e below RR (T34.setTop (mkF m 114 #[.val (.ref pa), .val (.int (4 : Int32)), .val (.ref b2), .val (.ref b30), .val (.int (0 : Int32)), .val (.int (0 : Int32)), .val (.int (1 : Int32)), .val (.int (2 : Int32))] [(.int (2 : Int32)), (.int (1 : Int32)), (.ref b30)]))
        obtain ⟨c95, A95, q95, s95, m95, H95, G95⟩ := id V34
        obtain ⟨T96, h96, X96, e96, W96, st96⟩ := stI X34 hx hZ e34 A95 (j := (1 : Int32)) (inb_of s95 ⟨by decide, by decide⟩) (g := (mkF m 114 #[.val (.ref pa), .val (.int (4 : Int32)), .val (.ref b2), .val (.ref b30), .val (.int (0 : Int32)), .val (.int (0 : Int32)), .val (.int (1 : Int32)), .val (.int (2 : Int32))] [(.int (2 : Int32)), (.int (1 : Int32)), (.ref b30)])) rfl rfl (hb hby own_dprog_30_method_7_code_114)
        have V96 := Arv.set A95 q95 s95 m95 H95 G95 rfl W96 1 rfl (Nat.le_of_ble_eq_true rfl)
        have V96 : Arv Z h96 b30 k30 .int (4 : Int32) [(.int (4 : Int32)), (.int (2 : Int32)), (.int (0 : Int32)), (.int (0 : Int32))] (.int (0 : Int32)) := V96
        have N96 := Fr.snoc X96 N34 ge30
        refine own_st st96 ?_
        have z97 : n0 ≤ h96.size := Nat.le_trans z35 (Keep.of_wr W96).1
        have kk98 : Keep h0 h96 [] := kk36.wr W96 (Or.inr sz30)
        show own_Go p.tables e below RR (T96.setTop (mkF m 115 #[.val (.ref pa), .val (.int (4 : Int32)), .val (.ref b2), .val (.ref b30), .val (.int (0 : Int32)), .val (.int (0 : Int32)), .val (.int (1 : Int32)), .val (.int (2 : Int32))] []))
        refine own_st (fun _ k => XS.iload X96.here hx rfl (hb hby own_dprog_30_method_7_code_115) rfl (XS.iload X96.here hx rfl (hb hby own_dprog_30_method_7_code_117) rfl (XS.iadd X96.here hx rfl (hb hby own_dprog_30_method_7_code_119) rfl (XS.iload X96.here hx rfl (hb hby own_dprog_30_method_7_code_120) rfl k)))) ?_
        show own_Go p.tables e below RR (T96.setTop (mkF m 122 #[.val (.ref pa), .val (.int (4 : Int32)), .val (.ref b2), .val (.ref b30), .val (.int (0 : Int32)), .val (.int (0 : Int32)), .val (.int (1 : Int32)), .val (.int (2 : Int32))] [(.int (0 : Int32)), (.int (3 : Int32))]))
        refine own_st (fun _ k => XS.icmpNo X96.here hx rfl (hb hby own_dprog_30_method_7_code_122) rfl (tlt (by decide)).2.2.2 (XS.iload X96.here hx rfl (hb hby own_dprog_30_method_7_code_125) rfl (XS.istore X96.here hx rfl (hb hby own_dprog_30_method_7_code_127) rfl (l' := #[.val (.ref pa), .val (.int (4 : Int32)), .val (.ref b2), .val (.ref b30), .val (.int (1 : Int32)), .val (.int (0 : Int32)), .val (.int (1 : Int32)), .val (.int (2 : Int32))]) rfl (XS.iload X96.here hx rfl (hb hby own_dprog_30_method_7_code_129) rfl (XS.iload X96.here hx rfl (hb hby own_dprog_30_method_7_code_131) rfl (XS.iadd X96.here hx rfl (hb hby own_dprog_30_method_7_code_133) rfl (XS.istore X96.here hx rfl (hb hby own_dprog_30_method_7_code_134) rfl (l' := #[.val (.ref pa), .val (.int (4 : Int32)), .val (.ref b2), .val (.ref b30), .val (.int (1 : Int32)), .val (.int (3 : Int32)), .val (.int (1 : Int32)), .val (.int (2 : Int32))]) rfl (XS.iinc X96.here hx rfl (hb hby own_dprog_30_method_7_code_136) rfl (l' := #[.val (.ref pa), .val (.int (4 : Int32)), .val (.ref b2), .val (.ref b30), .val (.int (1 : Int32)), .val (.int (3 : Int32)), .val (.int (2 : Int32)), .val (.int (2 : Int32))]) rfl k)))))))) ?_
        show own_Go p.tables e below RR (T96.setTop (mkF m 139 #[.val (.ref pa), .val (.int (4 : Int32)), .val (.ref b2), .val (.ref b30), .val (.int (1 : Int32)), .val (.int (3 : Int32)), .val (.int (2 : Int32)), .val (.int (2 : Int32))] []))
        refine own_st (fun _ k => XS.goto X96.here hx rfl (pc0 := 139) (pc' := 47) rfl (hb hby own_dprog_30_method_7_code_139) (by decide) (by decide) (XS.iload X96.here hx rfl (hb hby own_dprog_30_method_7_code_47) rfl (XS.iloadN X96.here hx rfl (hb hby own_dprog_30_method_7_code_49) rfl k))) ?_
        show own_Go p.tables e below RR (T96.setTop (mkF m 50 #[.val (.ref pa), .val (.int (4 : Int32)), .val (.ref b2), .val (.ref b30), .val (.int (1 : Int32)), .val (.int (3 : Int32)), .val (.int (2 : Int32)), .val (.int (2 : Int32))] [(.int (4 : Int32)), (.int (2 : Int32))]))
        refine own_st (fun _ k => XS.icmpNo X96.here hx rfl (hb hby own_dprog_30_method_7_code_50) rfl (tlt (by decide)).2.1 (XS.iconst X96.here hx rfl (hb hby own_dprog_30_method_7_code_53) (XS.istore X96.here hx rfl (hb hby own_dprog_30_method_7_code_54) rfl (l' := #[.val (.ref pa), .val (.int (4 : Int32)), .val (.ref b2), .val (.ref b30), .val (.int (1 : Int32)), .val (.int (3 : Int32)), .val (.int (2 : Int32)), .val (.int (0 : Int32))]) rfl (XS.iload X96.here hx rfl (hb hby own_dprog_30_method_7_code_56) rfl (XS.iload X96.here hx rfl (hb hby own_dprog_30_method_7_code_58) rfl k))))) ?_
        show own_Go p.tables e below RR (T96.setTop (mkF m 60 #[.val (.ref pa), .val (.int (4 : Int32)), .val (.ref b2), .val (.ref b30), .val (.int (1 : Int32)), .val (.int (3 : Int32)), .val (.int (2 : Int32)), .val (.int (0 : Int32))] [(.int (3 : Int32)), (.int (2 : Int32))]))
        refine own_st (fun _ k => XS.icmpNo X96.here hx rfl (hb hby own_dprog_30_method_7_code_60) rfl (tlt (by decide)).2.1 (XS.iload X96.here hx rfl (hb hby own_dprog_30_method_7_code_63) rfl (XS.iload X96.here hx rfl (hb hby own_dprog_30_method_7_code_65) rfl (XS.isub X96.here hx rfl (hb hby own_dprog_30_method_7_code_67) rfl (XS.aloadN X96.here hx rfl (hb hby own_dprog_30_method_7_code_68) rfl rfl (XS.iload X96.here hx rfl (hb hby own_dprog_30_method_7_code_69) rfl (XS.iload X96.here hx rfl (hb hby own_dprog_30_method_7_code_71) rfl (XS.isub X96.here hx rfl (hb hby own_dprog_30_method_7_code_73) rfl k)))))))) ?_
        show own_Go p.tables e below RR (T96.setTop (mkF m 74 #[.val (.ref pa), .val (.int (4 : Int32)), .val (.ref b2), .val (.ref b30), .val (.int (1 : Int32)), .val (.int (3 : Int32)), .val (.int (2 : Int32)), .val (.int (0 : Int32))] [(.int (1 : Int32)), (.ref b30), (.int (1 : Int32))]))
        obtain ⟨c99, A99, q99, s99, m99, H99, G99⟩ := id V96
        have b99 := inb_of (j := (1 : Int32)) s99 ⟨by decide, by decide⟩
        refine own_st (fun _ k => X96.iaload hx (j := (1 : Int32)) (v := (.int (2 : Int32))) (by rw [e96]; exact A99.1) (State.isArrayOf_alike hZ.alike A99.2.1) A99.2.2 b99 (Has.at H99 b99 rfl) (g := (mkF m 74 #[.val (.ref pa), .val (.int (4 : Int32)), .val (.ref b2), .val (.ref b30), .val (.int (1 : Int32)), .val (.int (3 : Int32)), .val (.int (2 : Int32)), .val (.int (0 : Int32))] [(.int (1 : Int32)), (.ref b30), (.int (1 : Int32))])) rfl rfl (hb hby own_dprog_30_method_7_code_74) _ k) ?_
        show own_Go p.tables e below RR (T96.setTop (mkF m 75 #[.val (.ref pa), .val (.int (4 : Int32)), .val (.ref b2), .val (.ref b30), .val (.int (1 : Int32)), .val (.int (3 : Int32)), .val (.int (2 : Int32)), .val (.int (0 : Int32))] [(.int (2 : Int32)), (.int (1 : Int32))]))
        obtain ⟨_, _, ⟨T100, L100, k100, n100⟩, -, X100, ⟨Lc100, hQ100, l100, y100, z100⟩, st100⟩ := Jvm.LawKit.callS X96 hx (y := (⟨"java/lang/Math", "min", "(II)I"⟩ : MethodName)) hown (mvT hZ (hw _ (List.mem_of_getElem? (i := 39) rfl))) (mvT hZ (hw _ (List.mem_of_getElem? (i := 40) rfl))) (mvT hZ (hw _ (List.mem_of_getElem? (i := 41) rfl))) (mvT hZ (hw _ (List.mem_of_getElem? (i := 42) rfl))) (by decide) (backOf (W := 0) (own_rmMN l Z a0 hw [] (1 : Int32) (2 : Int32) (1 : Int32) h96 n0 z97 (by decide)) hZ (hw _ (List.mem_of_getElem? (i := 42) rfl)) (hw _ (List.mem_of_getElem? (i := 41) rfl)) (by decide) (by decide)) (g := (mkF m 75 #[.val (.ref pa), .val (.int (4 : Int32)), .val (.ref b2), .val (.ref b30), .val (.int (1 : Int32)), .val (.int (3 : Int32)), .val (.int (2 : Int32)), .val (.int (0 : Int32))] [(.int (2 : Int32)), (.int (1 : Int32))])) rfl (by rw [hml]; rfl) (argsL := [(.int (1 : Int32)), (.int (2 : Int32))]) (rest := []) (lenOf own_pd__II_I rfl) rfl (by show 2 * 0 + _ ≤ _; exact Nat.le_of_eq rfl) (hb hby own_dprog_30_method_7_code_75) (fun _ _ => ⟨rfl, e96, (by decide : 2 + 0 ≤ _), (by decide : 8 + 0 ≤ _)⟩)
        dsimp only [Pt.U, Pt.locs, Pt.cells, Pt.slots] at X100 l100 y100 z100 st100 hQ100
        subst l100 y100 z100
        obtain ⟨rfl, Nq100, eq100⟩ := hQ100
        have N100 := Fr.app N96 Nq100
        refine own_st st100 ?_
        show own_Go p.tables e below RR (T100.setTop (mkF m 78 #[.val (.ref pa), .val (.int (4 : Int32)), .val (.ref b2), .val (.ref b30), .val (.int (1 : Int32)), .val (.int (3 : Int32)), .val (.int (2 : Int32)), .val (.int (0 : Int32))] [(.int (1 : Int32))]))
        refine own_st (fun _ k => XS.istore X100.here hx rfl (hb hby own_dprog_30_method_7_code_78) rfl (l' := #[.val (.ref pa), .val (.int (4 : Int32)), .val (.ref b2), .val (.ref b30), .val (.int (1 : Int32)), .val (.int (3 : Int32)), .val (.int (2 : Int32)), .val (.int (1 : Int32))]) rfl (XS.iload X100.here hx rfl (hb hby own_dprog_30_method_7_code_80) rfl (XS.iload X100.here hx rfl (hb hby own_dprog_30_method_7_code_82) rfl (XS.iadd X100.here hx rfl (hb hby own_dprog_30_method_7_code_84) rfl (XS.iloadN X100.here hx rfl (hb hby own_dprog_30_method_7_code_85) rfl k))))) ?_
        show own_Go p.tables e below RR (T100.setTop (mkF m 86 #[.val (.ref pa), .val (.int (4 : Int32)), .val (.ref b2), .val (.ref b30), .val (.int (1 : Int32)), .val (.int (3 : Int32)), .val (.int (2 : Int32)), .val (.int (1 : Int32))] [(.int (4 : Int32)), (.int (3 : Int32))]))
        refine own_st (fun _ k => XS.icmpNo X100.here hx rfl (hb hby own_dprog_30_method_7_code_86) rfl (tlt (by decide)).2.1 (XS.aloadN X100.here hx rfl (hb hby own_dprog_30_method_7_code_89) rfl rfl (XS.iload X100.here hx rfl (hb hby own_dprog_30_method_7_code_90) rfl k))) ?_
        show own_Go p.tables e below RR (T100.setTop (mkF m 92 #[.val (.ref pa), .val (.int (4 : Int32)), .val (.ref b2), .val (.ref b30), .val (.int (1 : Int32)), .val (.int (3 : Int32)), .val (.int (2 : Int32)), .val (.int (1 : Int32))] [(.int (1 : Int32)), (.ref b2)]))
        have f101 := (f69.other W96 ne68)
        obtain ⟨c102, A102, q102, s102, m102, H102, G102⟩ := id f101
        have b102 := inb_of (j := (1 : Int32)) s102 ⟨by decide, by decide⟩
        refine own_st (fun _ k => X100.iaload hx (j := (1 : Int32)) (v := (.int pp2)) (by rw [eq100]; exact A102.1) (State.isArrayOf_alike hZ.alike A102.2.1) A102.2.2 b102 (Has.at H102 b102 rfl) (g := (mkF m 92 #[.val (.ref pa), .val (.int (4 : Int32)), .val (.ref b2), .val (.ref b30), .val (.int (1 : Int32)), .val (.int (3 : Int32)), .val (.int (2 : Int32)), .val (.int (1 : Int32))] [(.int (1 : Int32)), (.ref b2)])) rfl rfl (hb hby own_dprog_30_method_7_code_92) _ (XS.aloadN X100.here hx rfl (hb hby own_dprog_30_method_7_code_93) rfl rfl (XS.iload X100.here hx rfl (hb hby own_dprog_30_method_7_code_94) rfl (XS.iload X100.here hx rfl (hb hby own_dprog_30_method_7_code_96) rfl (XS.iadd X100.here hx rfl (hb hby own_dprog_30_method_7_code_98) rfl k))))) ?_
        show own_Go p.tables e below RR (T100.setTop (mkF m 99 #[.val (.ref pa), .val (.int (4 : Int32)), .val (.ref b2), .val (.ref b30), .val (.int (1 : Int32)), .val (.int (3 : Int32)), .val (.int (2 : Int32)), .val (.int (1 : Int32))] [(.int (3 : Int32)), (.ref b2), (.int pp2)]))
        obtain ⟨c103, A103, q103, s103, m103, H103, G103⟩ := id f101
        have b103 := inb_of (j := (3 : Int32)) s103 ⟨by decide, by decide⟩
        refine own_st (fun _ k => X100.iaload hx (j := (3 : Int32)) (v := (.int pp0)) (by rw [eq100]; exact A103.1) (State.isArrayOf_alike hZ.alike A103.2.1) A103.2.2 b103 (Has.at H103 b103 rfl) (g := (mkF m 99 #[.val (.ref pa), .val (.int (4 : Int32)), .val (.ref b2), .val (.ref b30), .val (.int (1 : Int32)), .val (.int (3 : Int32)), .val (.int (2 : Int32)), .val (.int (1 : Int32))] [(.int (3 : Int32)), (.ref b2), (.int pp2)])) rfl rfl (hb hby own_dprog_30_method_7_code_99) _ k) ?_
        show own_Go p.tables e below RR (T100.setTop (mkF m 100 #[.val (.ref pa), .val (.int (4 : Int32)), .val (.ref b2), .val (.ref b30), .val (.int (1 : Int32)), .val (.int (3 : Int32)), .val (.int (2 : Int32)), .val (.int (1 : Int32))] [(.int pp0), (.int pp2)]))
        by_cases hc100_104 : pp2 = pp0
        · refine own_st (fun _ k => XS.icmpNo X100.here hx rfl (hb hby own_dprog_30_method_7_code_100) rfl (teq hc100_104).2 (XS.iinc X100.here hx rfl (hb hby own_dprog_30_method_7_code_103) rfl (l' := #[.val (.ref pa), .val (.int (4 : Int32)), .val (.ref b2), .val (.ref b30), .val (.int (1 : Int32)), .val (.int (3 : Int32)), .val (.int (2 : Int32)), .val (.int (2 : Int32))]) rfl (XS.goto X100.here hx rfl (pc0 := 106) (pc' := 80) rfl (hb hby own_dprog_30_method_7_code_106) (by decide) (by decide) (XS.iload X100.here hx rfl (hb hby own_dprog_30_method_7_code_80) rfl (XS.iload X100.here hx rfl (hb hby own_dprog_30_method_7_code_82) rfl (XS.iadd X100.here hx rfl (hb hby own_dprog_30_method_7_code_84) rfl (XS.iloadN X100.here hx rfl (hb hby own_dprog_30_method_7_code_85) rfl k))))))) ?_
          show own_Go p.tables e below RR (T100.setTop (mkF m 86 #[.val (.ref pa), .val (.int (4 : Int32)), .val (.ref b2), .val (.ref b30), .val (.int (1 : Int32)), .val (.int (3 : Int32)), .val (.int (2 : Int32)), .val (.int (2 : Int32))] [(.int (4 : Int32)), (.int (4 : Int32))]))
          refine own_st (fun _ k => XS.icmpYes X100.here hx rfl (pc0 := 86) (pc' := 109) rfl (hb hby own_dprog_30_method_7_code_86) rfl (flt (by decide)).2.1 (by decide) (by decide) (XS.aloadN X100.here hx rfl (hb hby own_dprog_30_method_7_code_109) rfl rfl (XS.iload X100.here hx rfl (hb hby own_dprog_30_method_7_code_110) rfl (XS.iload X100.here hx rfl (hb hby own_dprog_30_method_7_code_112) rfl k)))) ?_
          show own_Go p.tables e below RR (T100.setTop (mkF m 114 #[.val (.ref pa), .val (.int (4 : Int32)), .val (.ref b2), .val (.ref b30), .val (.int (1 : Int32)), .val (.int (3 : Int32)), .val (.int (2 : Int32)), .val (.int (2 : Int32))] [(.int (2 : Int32)), (.int (2 : Int32)), (.ref b30)]))
          obtain ⟨c105, A105, q105, s105, m105, H105, G105⟩ := id V96
          obtain ⟨T106, h106, X106, e106, W106, st106⟩ := stI X100 hx hZ eq100 A105 (j := (2 : Int32)) (inb_of s105 ⟨by decide, by decide⟩) (g := (mkF m 114 #[.val (.ref pa), .val (.int (4 : Int32)), .val (.ref b2), .val (.ref b30), .val (.int (1 : Int32)), .val (.int (3 : Int32)), .val (.int (2 : Int32)), .val (.int (2 : Int32))] [(.int (2 : Int32)), (.int (2 : Int32)), (.ref b30)])) rfl rfl (hb hby own_dprog_30_method_7_code_114)
          have V106 := Arv.set A105 q105 s105 m105 H105 G105 rfl W106 2 rfl (Nat.le_of_ble_eq_true rfl)
          have V106 : Arv Z h106 b30 k30 .int (4 : Int32) [(.int (4 : Int32)), (.int (2 : Int32)), (.int (2 : Int32)), (.int (0 : Int32))] (.int (0 : Int32)) := V106
          have N106 := Fr.snoc X106 N100 ge30
          refine own_st st106 ?_
          have z107 : n0 ≤ h106.size := Nat.le_trans z97 (Keep.of_wr W106).1
          have kk108 : Keep h0 h106 [] := kk98.wr W106 (Or.inr sz30)
          show own_Go p.tables e below RR (T106.setTop (mkF m 115 #[.val (.ref pa), .val (.int (4 : Int32)), .val (.ref b2), .val (.ref b30), .val (.int (1 : Int32)), .val (.int (3 : Int32)), .val (.int (2 : Int32)), .val (.int (2 : Int32))] []))
          refine own_st (fun _ k => XS.iload X106.here hx rfl (hb hby own_dprog_30_method_7_code_115) rfl (XS.iload X106.here hx rfl (hb hby own_dprog_30_method_7_code_117) rfl (XS.iadd X106.here hx rfl (hb hby own_dprog_30_method_7_code_119) rfl (XS.iload X106.here hx rfl (hb hby own_dprog_30_method_7_code_120) rfl k)))) ?_
          show own_Go p.tables e below RR (T106.setTop (mkF m 122 #[.val (.ref pa), .val (.int (4 : Int32)), .val (.ref b2), .val (.ref b30), .val (.int (1 : Int32)), .val (.int (3 : Int32)), .val (.int (2 : Int32)), .val (.int (2 : Int32))] [(.int (3 : Int32)), (.int (4 : Int32))]))
          refine own_st (fun _ k => XS.icmpNo X106.here hx rfl (hb hby own_dprog_30_method_7_code_122) rfl (tlt (by decide)).2.2.2 (XS.iload X106.here hx rfl (hb hby own_dprog_30_method_7_code_125) rfl (XS.istore X106.here hx rfl (hb hby own_dprog_30_method_7_code_127) rfl (l' := #[.val (.ref pa), .val (.int (4 : Int32)), .val (.ref b2), .val (.ref b30), .val (.int (2 : Int32)), .val (.int (3 : Int32)), .val (.int (2 : Int32)), .val (.int (2 : Int32))]) rfl (XS.iload X106.here hx rfl (hb hby own_dprog_30_method_7_code_129) rfl (XS.iload X106.here hx rfl (hb hby own_dprog_30_method_7_code_131) rfl (XS.iadd X106.here hx rfl (hb hby own_dprog_30_method_7_code_133) rfl (XS.istore X106.here hx rfl (hb hby own_dprog_30_method_7_code_134) rfl (l' := #[.val (.ref pa), .val (.int (4 : Int32)), .val (.ref b2), .val (.ref b30), .val (.int (2 : Int32)), .val (.int (4 : Int32)), .val (.int (2 : Int32)), .val (.int (2 : Int32))]) rfl (XS.iinc X106.here hx rfl (hb hby own_dprog_30_method_7_code_136) rfl (l' := #[.val (.ref pa), .val (.int (4 : Int32)), .val (.ref b2), .val (.ref b30), .val (.int (2 : Int32)), .val (.int (4 : Int32)), .val (.int (3 : Int32)), .val (.int (2 : Int32))]) rfl k)))))))) ?_
          show own_Go p.tables e below RR (T106.setTop (mkF m 139 #[.val (.ref pa), .val (.int (4 : Int32)), .val (.ref b2), .val (.ref b30), .val (.int (2 : Int32)), .val (.int (4 : Int32)), .val (.int (3 : Int32)), .val (.int (2 : Int32))] []))
          refine own_st (fun _ k => XS.goto X106.here hx rfl (pc0 := 139) (pc' := 47) rfl (hb hby own_dprog_30_method_7_code_139) (by decide) (by decide) (XS.iload X106.here hx rfl (hb hby own_dprog_30_method_7_code_47) rfl (XS.iloadN X106.here hx rfl (hb hby own_dprog_30_method_7_code_49) rfl k))) ?_
          show own_Go p.tables e below RR (T106.setTop (mkF m 50 #[.val (.ref pa), .val (.int (4 : Int32)), .val (.ref b2), .val (.ref b30), .val (.int (2 : Int32)), .val (.int (4 : Int32)), .val (.int (3 : Int32)), .val (.int (2 : Int32))] [(.int (4 : Int32)), (.int (3 : Int32))]))
          refine own_st (fun _ k => XS.icmpNo X106.here hx rfl (hb hby own_dprog_30_method_7_code_50) rfl (tlt (by decide)).2.1 (XS.iconst X106.here hx rfl (hb hby own_dprog_30_method_7_code_53) (XS.istore X106.here hx rfl (hb hby own_dprog_30_method_7_code_54) rfl (l' := #[.val (.ref pa), .val (.int (4 : Int32)), .val (.ref b2), .val (.ref b30), .val (.int (2 : Int32)), .val (.int (4 : Int32)), .val (.int (3 : Int32)), .val (.int (0 : Int32))]) rfl (XS.iload X106.here hx rfl (hb hby own_dprog_30_method_7_code_56) rfl (XS.iload X106.here hx rfl (hb hby own_dprog_30_method_7_code_58) rfl k))))) ?_
          show own_Go p.tables e below RR (T106.setTop (mkF m 60 #[.val (.ref pa), .val (.int (4 : Int32)), .val (.ref b2), .val (.ref b30), .val (.int (2 : Int32)), .val (.int (4 : Int32)), .val (.int (3 : Int32)), .val (.int (0 : Int32))] [(.int (4 : Int32)), (.int (3 : Int32))]))
          refine own_st (fun _ k => XS.icmpNo X106.here hx rfl (hb hby own_dprog_30_method_7_code_60) rfl (tlt (by decide)).2.1 (XS.iload X106.here hx rfl (hb hby own_dprog_30_method_7_code_63) rfl (XS.iload X106.here hx rfl (hb hby own_dprog_30_method_7_code_65) rfl (XS.isub X106.here hx rfl (hb hby own_dprog_30_method_7_code_67) rfl (XS.aloadN X106.here hx rfl (hb hby own_dprog_30_method_7_code_68) rfl rfl (XS.iload X106.here hx rfl (hb hby own_dprog_30_method_7_code_69) rfl (XS.iload X106.here hx rfl (hb hby own_dprog_30_method_7_code_71) rfl (XS.isub X106.here hx rfl (hb hby own_dprog_30_method_7_code_73) rfl k)))))))) ?_
          show own_Go p.tables e below RR (T106.setTop (mkF m 74 #[.val (.ref pa), .val (.int (4 : Int32)), .val (.ref b2), .val (.ref b30), .val (.int (2 : Int32)), .val (.int (4 : Int32)), .val (.int (3 : Int32)), .val (.int (0 : Int32))] [(.int (1 : Int32)), (.ref b30), (.int (1 : Int32))]))
          obtain ⟨c109, A109, q109, s109, m109, H109, G109⟩ := id V106
          have b109 := inb_of (j := (1 : Int32)) s109 ⟨by decide, by decide⟩
          refine own_st (fun _ k => X106.iaload hx (j := (1 : Int32)) (v := (.int (2 : Int32))) (by rw [e106]; exact A109.1) (State.isArrayOf_alike hZ.alike A109.2.1) A109.2.2 b109 (Has.at H109 b109 rfl) (g := (mkF m 74 #[.val (.ref pa), .val (.int (4 : Int32)), .val (.ref b2), .val (.ref b30), .val (.int (2 : Int32)), .val (.int (4 : Int32)), .val (.int (3 : Int32)), .val (.int (0 : Int32))] [(.int (1 : Int32)), (.ref b30), (.int (1 : Int32))])) rfl rfl (hb hby own_dprog_30_method_7_code_74) _ k) ?_
          show own_Go p.tables e below RR (T106.setTop (mkF m 75 #[.val (.ref pa), .val (.int (4 : Int32)), .val (.ref b2), .val (.ref b30), .val (.int (2 : Int32)), .val (.int (4 : Int32)), .val (.int (3 : Int32)), .val (.int (0 : Int32))] [(.int (2 : Int32)), (.int (1 : Int32))]))
          obtain ⟨_, _, ⟨T110, L110, k110, n110⟩, -, X110, ⟨Lc110, hQ110, l110, y110, z110⟩, st110⟩ := Jvm.LawKit.callS X106 hx (y := (⟨"java/lang/Math", "min", "(II)I"⟩ : MethodName)) hown (mvT hZ (hw _ (List.mem_of_getElem? (i := 39) rfl))) (mvT hZ (hw _ (List.mem_of_getElem? (i := 40) rfl))) (mvT hZ (hw _ (List.mem_of_getElem? (i := 41) rfl))) (mvT hZ (hw _ (List.mem_of_getElem? (i := 42) rfl))) (by decide) (backOf (W := 0) (own_rmMN l Z a0 hw [] (1 : Int32) (2 : Int32) (1 : Int32) h106 n0 z107 (by decide)) hZ (hw _ (List.mem_of_getElem? (i := 42) rfl)) (hw _ (List.mem_of_getElem? (i := 41) rfl)) (by decide) (by decide)) (g := (mkF m 75 #[.val (.ref pa), .val (.int (4 : Int32)), .val (.ref b2), .val (.ref b30), .val (.int (2 : Int32)), .val (.int (4 : Int32)), .val (.int (3 : Int32)), .val (.int (0 : Int32))] [(.int (2 : Int32)), (.int (1 : Int32))])) rfl (by rw [hml]; rfl) (argsL := [(.int (1 : Int32)), (.int (2 : Int32))]) (rest := []) (lenOf own_pd__II_I rfl) rfl (by show 2 * 0 + _ ≤ _; exact Nat.le_of_eq rfl) (hb hby own_dprog_30_method_7_code_75) (fun _ _ => ⟨rfl, e106, (by decide : 2 + 0 ≤ _), (by decide : 8 + 0 ≤ _)⟩)
          dsimp only [Pt.U, Pt.locs, Pt.cells, Pt.slots] at X110 l110 y110 z110 st110 hQ110
          subst l110 y110 z110
          obtain ⟨rfl, Nq110, eq110⟩ := hQ110
          have N110 := Fr.app N106 Nq110
          refine own_st st110 ?_
          show own_Go p.tables e below RR (T110.setTop (mkF m 78 #[.val (.ref pa), .val (.int (4 : Int32)), .val (.ref b2), .val (.ref b30), .val (.int (2 : Int32)), .val (.int (4 : Int32)), .val (.int (3 : Int32)), .val (.int (0 : Int32))] [(.int (1 : Int32))]))
          refine own_st (fun _ k => XS.istore X110.here hx rfl (hb hby own_dprog_30_method_7_code_78) rfl (l' := #[.val (.ref pa), .val (.int (4 : Int32)), .val (.ref b2), .val (.ref b30), .val (.int (2 : Int32)), .val (.int (4 : Int32)), .val (.int (3 : Int32)), .val (.int (1 : Int32))]) rfl (XS.iload X110.here hx rfl (hb hby own_dprog_30_method_7_code_80) rfl (XS.iload X110.here hx rfl (hb hby own_dprog_30_method_7_code_82) rfl (XS.iadd X110.here hx rfl (hb hby own_dprog_30_method_7_code_84) rfl (XS.iloadN X110.here hx rfl (hb hby own_dprog_30_method_7_code_85) rfl k))))) ?_
          show own_Go p.tables e below RR (T110.setTop (mkF m 86 #[.val (.ref pa), .val (.int (4 : Int32)), .val (.ref b2), .val (.ref b30), .val (.int (2 : Int32)), .val (.int (4 : Int32)), .val (.int (3 : Int32)), .val (.int (1 : Int32))] [(.int (4 : Int32)), (.int (4 : Int32))]))
          refine own_st (fun _ k => XS.icmpYes X110.here hx rfl (pc0 := 86) (pc' := 109) rfl (hb hby own_dprog_30_method_7_code_86) rfl (flt (by decide)).2.1 (by decide) (by decide) (XS.aloadN X110.here hx rfl (hb hby own_dprog_30_method_7_code_109) rfl rfl (XS.iload X110.here hx rfl (hb hby own_dprog_30_method_7_code_110) rfl (XS.iload X110.here hx rfl (hb hby own_dprog_30_method_7_code_112) rfl k)))) ?_
          show own_Go p.tables e below RR (T110.setTop (mkF m 114 #[.val (.ref pa), .val (.int (4 : Int32)), .val (.ref b2), .val (.ref b30), .val (.int (2 : Int32)), .val (.int (4 : Int32)), .val (.int (3 : Int32)), .val (.int (1 : Int32))] [(.int (1 : Int32)), (.int (3 : Int32)), (.ref b30)]))
          obtain ⟨c111, A111, q111, s111, m111, H111, G111⟩ := id V106
          obtain ⟨T112, h112, X112, e112, W112, st112⟩ := stI X110 hx hZ eq110 A111 (j := (3 : Int32)) (inb_of s111 ⟨by decide, by decide⟩) (g := (mkF m 114 #[.val (.ref pa), .val (.int (4 : Int32)), .val (.ref b2), .val (.ref b30), .val (.int (2 : Int32)), .val (.int (4 : Int32)), .val (.int (3 : Int32)), .val (.int (1 : Int32))] [(.int (1 : Int32)), (.int (3 : Int32)), (.ref b30)])) rfl rfl (hb hby own_dprog_30_method_7_code_114)
          have V112 := Arv.set A111 q111 s111 m111 H111 G111 rfl W112 3 rfl (Nat.le_of_ble_eq_true rfl)
          have V112 : Arv Z h112 b30 k30 .int (4 : Int32) [(.int (4 : Int32)), (.int (2 : Int32)), (.int (2 : Int32)), (.int (1 : Int32))] (.int (0 : Int32)) := V112
          have N112 := Fr.snoc X112 N110 ge30
          refine own_st st112 ?_
          have z113 : n0 ≤ h112.size := Nat.le_trans z107 (Keep.of_wr W112).1
          have kk114 : Keep h0 h112 [] := kk108.wr W112 (Or.inr sz30)
          show own_Go p.tables e below RR (T112.setTop (mkF m 115 #[.val (.ref pa), .val (.int (4 : Int32)), .val (.ref b2), .val (.ref b30), .val (.int (2 : Int32)), .val (.int (4 : Int32)), .val (.int (3 : Int32)), .val (.int (1 : Int32))] []))
          refine own_st (fun _ k => XS.iload X112.here hx rfl (hb hby own_dprog_30_method_7_code_115) rfl (XS.iload X112.here hx rfl (hb hby own_dprog_30_method_7_code_117) rfl (XS.iadd X112.here hx rfl (hb hby own_dprog_30_method_7_code_119) rfl (XS.iload X112.here hx rfl (hb hby own_dprog_30_method_7_code_120) rfl k)))) ?_
          show own_Go p.tables e below RR (T112.setTop (mkF m 122 #[.val (.ref pa), .val (.int (4 : Int32)), .val (.ref b2), .val (.ref b30), .val (.int (2 : Int32)), .val (.int (4 : Int32)), .val (.int (3 : Int32)), .val (.int (1 : Int32))] [(.int (4 : Int32)), (.int (4 : Int32))]))
          refine own_st (fun _ k => XS.icmpYes X112.here hx rfl (pc0 := 122) (pc' := 136) rfl (hb hby own_dprog_30_method_7_code_122) rfl (flt (by decide)).2.2.2 (by decide) (by decide) (XS.iinc X112.here hx rfl (hb hby own_dprog_30_method_7_code_136) rfl (l' := #[.val (.ref pa), .val (.int (4 : Int32)), .val (.ref b2), .val (.ref b30), .val (.int (2 : Int32)), .val (.int (4 : Int32)), .val (.int (4 : Int32)), .val (.int (1 : Int32))]) rfl (XS.goto X112.here hx rfl (pc0 := 139) (pc' := 47) rfl (hb hby own_dprog_30_method_7_code_139) (by decide) (by decide) (XS.iload X112.here hx rfl (hb hby own_dprog_30_method_7_code_47) rfl (XS.iloadN X112.here hx rfl (hb hby own_dprog_30_method_7_code_49) rfl k))))) ?_
          show own_Go p.tables e below RR (T112.setTop (mkF m 50 #[.val (.ref pa), .val (.int (4 : Int32)), .val (.ref b2), .val (.ref b30), .val (.int (2 : Int32)), .val (.int (4 : Int32)), .val (.int (4 : Int32)), .val (.int (1 : Int32))] [(.int (4 : Int32)), (.int (4 : Int32))]))
          refine own_st (fun _ k => XS.icmpYes X112.here hx rfl (pc0 := 50) (pc' := 142) rfl (hb hby own_dprog_30_method_7_code_50) rfl (flt (by decide)).2.1 (by decide) (by decide) k) ?_
          show own_Go p.tables e below RR (T112.setTop (mkF m 142 #[.val (.ref pa), .val (.int (4 : Int32)), .val (.ref b2), .val (.ref b30), .val (.int (2 : Int32)), .val (.int (4 : Int32)), .val (.int (4 : Int32)), .val (.int (1 : Int32))] []))
          exact jnh37 T112 _ h112 (2 : Int32) (4 : Int32) (1 : Int32) (4 : Int32) (2 : Int32) (2 : Int32) (1 : Int32) X112 e112 N112 ((((Keep.refl _ _).wr W96 (Or.inl (List.mem_of_getElem? (i := 0) rfl))).wr W106 (Or.inl (List.mem_of_getElem? (i := 0) rfl))).wr W112 (Or.inl (List.mem_of_getElem? (i := 0) rfl))) V112 (by decide) (by decide) (by decide) (by decide)
        · refine own_st (fun _ k => XS.icmpYes X100.here hx rfl (pc0 := 100) (pc' := 109) rfl (hb hby own_dprog_30_method_7_code_100) rfl (feq hc100_104).2 (by decide) (by decide) (XS.aloadN X100.here hx rfl (hb hby own_dprog_30_method_7_code_109) rfl rfl (XS.iload X100.here hx rfl (hb hby own_dprog_30_method_7_code_110) rfl (XS.iload X100.here hx rfl (hb hby own_dprog_30_method_7_code_112) rfl k)))) ?_
          show own_Go p.tables e below RR (T100.setTop (mkF m 114 #[.val (.ref pa), .val (.int (4 : Int32)), .val (.ref b2), .val (.ref b30), .val (.int (1 : Int32)), .val (.int (3 : Int32)), .val (.int (2 : Int32)), .val (.int (1 : Int32))] [(.int (1 : Int32)), (.int (2 : Int32)), (.ref b30)]))
          obtain ⟨c115, A115, q115, s115, m115, H115, G115⟩ := id V96
          obtain ⟨T116, h116, X116, e116, W116, st116⟩ := stI X100 hx hZ eq100 A115 (j := (2 : Int32)) (inb_of s115 ⟨by decide, by decide⟩) (g := (mkF m 114 #[.val (.ref pa), .val (.int (4 : Int32)), .val (.ref b2), .val (.ref b30), .val (.int (1 : Int32)), .val (.int (3 : Int32)), .val (.int (2 : Int32)), .val (.int (1 : Int32))] [(.int (1 : Int32)), (.int (2 : Int32)), (.ref b30)])) rfl rfl (hb hby own_dprog_30_method_7_code_114)
          have V116 := Arv.set A115 q115 s115 m115 H115 G115 rfl W116 2 rfl (Nat.le_of_ble_eq_true rfl)
          have V116 : Arv Z h116 b30 k30 .int (4 : Int32) [(.int (4 : Int32)), (.int (2 : Int32)), (.int (1 : Int32)), (.int (0 : Int32))] (.int (0 : Int32)) := V116
          have N116 := Fr.snoc X116 N100 ge30
          refine own_st st116 ?_
          have z117 : n0 ≤ h116.size := Nat.le_trans z97 (Keep.of_wr W116).1
          have kk118 : Keep h0 h116 [] := kk98.wr W116 (Or.inr sz30)
          show own_Go p.tables e below RR (T116.setTop (mkF m 115 #[.val (.ref pa), .val (.int (4 : Int32)), .val (.ref b2), .val (.ref b30), .val (.int (1 : Int32)), .val (.int (3 : Int32)), .val (.int (2 : Int32)), .val (.int (1 : Int32))] []))
          refine own_st (fun _ k => XS.iload X116.here hx rfl (hb hby own_dprog_30_method_7_code_115) rfl (XS.iload X116.here hx rfl (hb hby own_dprog_30_method_7_code_117) rfl (XS.iadd X116.here hx rfl (hb hby own_dprog_30_method_7_code_119) rfl (XS.iload X116.here hx rfl (hb hby own_dprog_30_method_7_code_120) rfl k)))) ?_
          show own_Go p.tables e below RR (T116.setTop (mkF m 122 #[.val (.ref pa), .val (.int (4 : Int32)), .val (.ref b2), .val (.ref b30), .val (.int (1 : Int32)), .val (.int (3 : Int32)), .val (.int (2 : Int32)), .val (.int (1 : Int32))] [(.int (3 : Int32)), (.int (3 : Int32))]))
          refine own_st (fun _ k => XS.icmpYes X116.here hx rfl (pc0 := 122) (pc' := 136) rfl (hb hby own_dprog_30_method_7_code_122) rfl (flt (by decide)).2.2.2 (by decide) (by decide) (XS.iinc X116.here hx rfl (hb hby own_dprog_30_method_7_code_136) rfl (l' := #[.val (.ref pa), .val (.int (4 : Int32)), .val (.ref b2), .val (.ref b30), .val (.int (1 : Int32)), .val (.int (3 : Int32)), .val (.int (3 : Int32)), .val (.int (1 : Int32))]) rfl (XS.goto X116.here hx rfl (pc0 := 139) (pc' := 47) rfl (hb hby own_dprog_30_method_7_code_139) (by decide) (by decide) (XS.iload X116.here hx rfl (hb hby own_dprog_30_method_7_code_47) rfl (XS.iloadN X116.here hx rfl (hb hby own_dprog_30_method_7_code_49) rfl k))))) ?_
          show own_Go p.tables e below RR (T116.setTop (mkF m 50 #[.val (.ref pa), .val (.int (4 : Int32)), .val (.ref b2), .val (.ref b30), .val (.int (1 : Int32)), .val (.int (3 : Int32)), .val (.int (3 : Int32)), .val (.int (1 : Int32))] [(.int (4 : Int32)), (.int (3 : Int32))]))
          refine own_st (fun _ k => XS.icmpNo X116.here hx rfl (hb hby own_dprog_30_method_7_code_50) rfl (tlt (by decide)).2.1 (XS.iconst X116.here hx rfl (hb hby own_dprog_30_method_7_code_53) (XS.istore X116.here hx rfl (hb hby own_dprog_30_method_7_code_54) rfl (l' := #[.val (.ref pa), .val (.int (4 : Int32)), .val (.ref b2), .val (.ref b30), .val (.int (1 : Int32)), .val (.int (3 : Int32)), .val (.int (3 : Int32)), .val (.int (0 : Int32))]) rfl (XS.iload X116.here hx rfl (hb hby own_dprog_30_method_7_code_56) rfl (XS.iload X116.here hx rfl (hb hby own_dprog_30_method_7_code_58) rfl k))))) ?_
          show own_Go p.tables e below RR (T116.setTop (mkF m 60 #[.val (.ref pa), .val (.int (4 : Int32)), .val (.ref b2), .val (.ref b30), .val (.int (1 : Int32)), .val (.int (3 : Int32)), .val (.int (3 : Int32)), .val (.int (0 : Int32))] [(.int (3 : Int32)), (.int (3 : Int32))]))
          refine own_st (fun _ k => XS.icmpYes X116.here hx rfl (pc0 := 60) (pc' := 80) rfl (hb hby own_dprog_30_method_7_code_60) rfl (flt (by decide)).2.1 (by decide) (by decide) (XS.iload X116.here hx rfl (hb hby own_dprog_30_method_7_code_80) rfl (XS.iload X116.here hx rfl (hb hby own_dprog_30_method_7_code_82) rfl (XS.iadd X116.here hx rfl (hb hby own_dprog_30_method_7_code_84) rfl (XS.iloadN X116.here hx rfl (hb hby own_dprog_30_method_7_code_85) rfl k))))) ?_
          show own_Go p.tables e below RR (T116.setTop (mkF m 86 #[.val (.ref pa), .val (.int (4 : Int32)), .val (.ref b2), .val (.ref b30), .val (.int (1 : Int32)), .val (.int (3 : Int32)), .val (.int (3 : Int32)), .val (.int (0 : Int32))] [(.int (4 : Int32)), (.int (3 : Int32))]))
          refine own_st (fun _ k => XS.icmpNo X116.here hx rfl (hb hby own_dprog_30_method_7_code_86) rfl (tlt (by decide)).2.1 (XS.aloadN X116.here hx rfl (hb hby own_dprog_30_method_7_code_89) rfl rfl (XS.iload X116.here hx rfl (hb hby own_dprog_30_method_7_code_90) rfl k))) ?_
          show own_Go p.tables e below RR (T116.setTop (mkF m 92 #[.val (.ref pa), .val (.int (4 : Int32)), .val (.ref b2), .val (.ref b30), .val (.int (1 : Int32)), .val (.int (3 : Int32)), .val (.int (3 : Int32)), .val (.int (0 : Int32))] [(.int (0 : Int32)), (.ref b2)]))
          have f119 := (f101.other W116 ne68)
          obtain ⟨c120, A120, q120, s120, m120, H120, G120⟩ := id f119
          have b120 := inb_of (j := (0 : Int32)) s120 ⟨by decide, by decide⟩
          refine own_st (fun _ k => X116.iaload hx (j := (0 : Int32)) (v := (.int pp3)) (by rw [e116]; exact A120.1) (State.isArrayOf_alike hZ.alike A120.2.1) A120.2.2 b120 (Has.at H120 b120 rfl) (g := (mkF m 92 #[.val (.ref pa), .val (.int (4 : Int32)), .val (.ref b2), .val (.ref b30), .val (.int (1 : Int32)), .val (.int (3 : Int32)), .val (.int (3 : Int32)), .val (.int (0 : Int32))] [(.int (0 : Int32)), (.ref b2)])) rfl rfl (hb hby own_dprog_30_method_7_code_92) _ (XS.aloadN X116.here hx rfl (hb hby own_dprog_30_method_7_code_93) rfl rfl (XS.iload X116.here hx rfl (hb hby own_dprog_30_method_7_code_94) rfl (XS.iload X116.here hx rfl (hb hby own_dprog_30_method_7_code_96) rfl (XS.iadd X116.here hx rfl (hb hby own_dprog_30_method_7_code_98) rfl k))))) ?_
          show own_Go p.tables e below RR (T116.setTop (mkF m 99 #[.val (.ref pa), .val (.int (4 : Int32)), .val (.ref b2), .val (.ref b30), .val (.int (1 : Int32)), .val (.int (3 : Int32)), .val (.int (3 : Int32)), .val (.int (0 : Int32))] [(.int (3 : Int32)), (.ref b2), (.int pp3)]))
          obtain ⟨c121, A121, q121, s121, m121, H121, G121⟩ := id f119
          have b121 := inb_of (j := (3 : Int32)) s121 ⟨by decide, by decide⟩
          refine own_st (fun _ k => X116.iaload hx (j := (3 : Int32)) (v := (.int pp0)) (by rw [e116]; exact A121.1) (State.isArrayOf_alike hZ.alike A121.2.1) A121.2.2 b121 (Has.at H121 b121 rfl) (g := (mkF m 99 #[.val (.ref pa), .val (.int (4 : Int32)), .val (.ref b2), .val (.ref b30), .val (.int (1 : Int32)), .val (.int (3 : Int32)), .val (.int (3 : Int32)), .val (.int (0 : Int32))] [(.int (3 : Int32)), (.ref b2), (.int pp3)])) rfl rfl (hb hby own_dprog_30_method_7_code_99) _ k) ?_
          show own_Go p.tables e below RR (T116.setTop (mkF m 100 #[.val (.ref pa), .val (.int (4 : Int32)), .val (.ref b2), .val (.ref b30), .val (.int (1 : Int32)), .val (.int (3 : Int32)), .val (.int (3 : Int32)), .val (.int (0 : Int32))] [(.int pp0), (.int pp3)]))
          by_cases hc100_122 : pp3 = pp0
          · refine own_st (fun _ k => XS.icmpNo X116.here hx rfl (hb hby own_dprog_30_method_7_code_100) rfl (teq hc100_122).2 (XS.iinc X116.here hx rfl (hb hby own_dprog_30_method_7_code_103) rfl (l' := #[.val (.ref pa), .val (.int (4 : Int32)), .val (.ref b2), .val (.ref b30), .val (.int (1 : Int32)), .val (.int (3 : Int32)), .val (.int (3 : Int32)), .val (.int (1 : Int32))]) rfl (XS.goto X116.here hx rfl (pc0 := 106) (pc' := 80) rfl (hb hby own_dprog_30_method_7_code_106) (by decide) (by decide) (XS.iload X116.here hx rfl (hb hby own_dprog_30_method_7_code_80) rfl (XS.iload X116.here hx rfl (hb hby own_dprog_30_method_7_code_82) rfl (XS.iadd X116.here hx rfl (hb hby own_dprog_30_method_7_code_84) rfl (XS.iloadN X116.here hx rfl (hb hby own_dprog_30_method_7_code_85) rfl k))))))) ?_
            show own_Go p.tables e below RR (T116.setTop (mkF m 86 #[.val (.ref pa), .val (.int (4 : Int32)), .val (.ref b2), .val (.ref b30), .val (.int (1 : Int32)), .val (.int (3 : Int32)), .val (.int (3 : Int32)), .val (.int (1 : Int32))] [(.int (4 : Int32)), (.int (4 : Int32))]))
            refine own_st (fun _ k => XS.icmpYes X116.here hx rfl (pc0 := 86) (pc' := 109) rfl (hb hby own_dprog_30_method_7_code_86) rfl (flt (by decide)).2.1 (by decide) (by decide) (XS.aloadN X116.here hx rfl (hb hby own_dprog_30_method_7_code_109) rfl rfl (XS.iload X116.here hx rfl (hb hby own_dprog_30_method_7_code_110) rfl (XS.iload X116.here hx rfl (hb hby own_dprog_30_method_7_code_112) rfl k)))) ?_
            show own_Go p.tables e below RR (T116.setTop (mkF m 114 #[.val (.ref pa), .val (.int (4 : Int32)), .val (.ref b2), .val (.ref b30), .val (.int (1 : Int32)), .val (.int (3 : Int32)), .val (.int (3 : Int32)), .val (.int (1 : Int32))] [(.int (1 : Int32)), (.int (3 : Int32)), (.ref b30)]))
            obtain ⟨c123, A123, q123, s123, m123, H123, G123⟩ := id V116
            obtain ⟨T124, h124, X124, e124, W124, st124⟩ := stI X116 hx hZ e116 A123 (j := (3 : Int32)) (inb_of s123 ⟨by decide, by decide⟩) (g := (mkF m 114 #[.val (.ref pa), .val (.int (4 : Int32)), .val (.ref b2), .val (.ref b30), .val (.int (1 : Int32)), .val (.int (3 : Int32)), .val (.int (3 : Int32)), .val (.int (1 : Int32))] [(.int (1 : Int32)), (.int (3 : Int32)), (.ref b30)])) rfl rfl (hb hby own_dprog_30_method_7_code_114)
            have V124 := Arv.set A123 q123 s123 m123 H123 G123 rfl W124 3 rfl (Nat.le_of_ble_eq_true rfl)
            have V124 : Arv Z h124 b30 k30 .int (4 : Int32) [(.int (4 : Int32)), (.int (2 : Int32)), (.int (1 : Int32)), (.int (1 : Int32))] (.int (0 : Int32)) := V124
            have N124 := Fr.snoc X124 N116 ge30
            refine own_st st124 ?_
            have z125 : n0 ≤ h124.size := Nat.le_trans z117 (Keep.of_wr W124).1
            have kk126 : Keep h0 h124 [] := kk118.wr W124 (Or.inr sz30)
            show own_Go p.tables e below RR (T124.setTop (mkF m 115 #[.val (.ref pa), .val (.int (4 : Int32)), .val (.ref b2), .val (.ref b30), .val (.int (1 : Int32)), .val (.int (3 : Int32)), .val (.int (3 : Int32)), .val (.int (1 : Int32))] []))
            refine own_st (fun _ k => XS.iload X124.here hx rfl (hb hby own_dprog_30_method_7_code_115) rfl (XS.iload X124.here hx rfl (hb hby own_dprog_30_method_7_code_117) rfl (XS.iadd X124.here hx rfl (hb hby own_dprog_30_method_7_code_119) rfl (XS.iload X124.here hx rfl (hb hby own_dprog_30_method_7_code_120) rfl k)))) ?_
            show own_Go p.tables e below RR (T124.setTop (mkF m 122 #[.val (.ref pa), .val (.int (4 : Int32)), .val (.ref b2), .val (.ref b30), .val (.int (1 : Int32)), .val (.int (3 : Int32)), .val (.int (3 : Int32)), .val (.int (1 : Int32))] [(.int (3 : Int32)), (.int (4 : Int32))]))
            refine own_st (fun _ k => XS.icmpNo X124.here hx rfl (hb hby own_dprog_30_method_7_code_122) rfl (tlt (by decide)).2.2.2 (XS.iload X124.here hx rfl (hb hby own_dprog_30_method_7_code_125) rfl (XS.istore X124.here hx rfl (hb hby own_dprog_30_method_7_code_127) rfl (l' := #[.val (.ref pa), .val (.int (4 : Int32)), .val (.ref b2), .val (.ref b30), .val (.int (3 : Int32)), .val (.int (3 : Int32)), .val (.int (3 : Int32)), .val (.int (1 : Int32))]) rfl (XS.iload X124.here hx rfl (hb hby own_dprog_30_method_7_code_129) rfl (XS.iload X124.here hx rfl (hb hby own_dprog_30_method_7_code_131) rfl (XS.iadd X124.here hx rfl (hb hby own_dprog_30_method_7_code_133) rfl (XS.istore X124.here hx rfl (hb hby own_dprog_30_method_7_code_134) rfl (l' := #[.val (.ref pa), .val (.int (4 : Int32)), .val (.ref b2), .val (.ref b30), .val (.int (3 : Int32)), .val (.int (4 : Int32)), .val (.int (3 : Int32)), .val (.int (1 : Int32))]) rfl (XS.iinc X124.here hx rfl (hb hby own_dprog_30_method_7_code_136) rfl (l' := #[.val (.ref pa), .val (.int (4 : Int32)), .val (.ref b2), .val (.ref b30), .val (.int (3 : Int32)), .val (.int (4 : Int32)), .val (.int (4 : Int32)), .val (.int (1 : Int32))]) rfl k)))))))) ?_
            show own_Go p.tables e below RR (T124.setTop (mkF m 139 #[.val (.ref pa), .val (.int (4 : Int32)), .val (.ref b2), .val (.ref b30), .val (.int (3 : Int32)), .val (.int (4 : Int32)), .val (.int (4 : Int32)), .val (.int (1 : Int32))] []))
            refine own_st (fun _ k => XS.goto X124.here hx rfl (pc0 := 139) (pc' := 47) rfl (hb hby own_dprog_30_method_7_code_139) (by decide) (by decide) (XS.iload X124.here hx rfl (hb hby own_dprog_30_method_7_code_47) rfl (XS.iloadN X124.here hx rfl (hb hby own_dprog_30_method_7_code_49) rfl k))) ?_
            show own_Go p.tables e below RR (T124.setTop (mkF m 50 #[.val (.ref pa), .val (.int (4 : Int32)), .val (.ref b2), .val (.ref b30), .val (.int (3 : Int32)), .val (.int (4 : Int32)), .val (.int (4 : Int32)), .val (.int (1 : Int32))] [(.int (4 : Int32)), (.int (4 : Int32))]))
            refine own_st (fun _ k => XS.icmpYes X124.here hx rfl (pc0 := 50) (pc' := 142) rfl (hb hby own_dprog_30_method_7_code_50) rfl (flt (by decide)).2.1 (by decide) (by decide) k) ?_
            show own_Go p.tables e below RR (T124.setTop (mkF m 142 #[.val (.ref pa), .val (.int (4 : Int32)), .val (.ref b2), .val (.ref b30), .val (.int (3 : Int32)), .val (.int (4 : Int32)), .val (.int (4 : Int32)), .val (.int (1 : Int32))] []))
            exact jnh37 T124 _ h124 (3 : Int32) (4 : Int32) (1 : Int32) (4 : Int32) (2 : Int32) (1 : Int32) (1 : Int32) X124 e124 N124 ((((Keep.refl _ _).wr W96 (Or.inl (List.mem_of_getElem? (i := 0) rfl))).wr W116 (Or.inl (List.mem_of_getElem? (i := 0) rfl))).wr W124 (Or.inl (List.mem_of_getElem? (i := 0) rfl))) V124 (by decide) (by decide) (by decide) (by decide)
          · refine own_st (fun _ k => XS.icmpYes X116.here hx rfl (pc0 := 100) (pc' := 109) rfl (hb hby own_dprog_30_method_7_code_100) rfl (feq hc100_122).2 (by decide) (by decide) (XS.aloadN X116.here hx rfl (hb hby own_dprog_30_method_7_code_109) rfl rfl (XS.iload X116.here hx rfl (hb hby own_dprog_30_method_7_code_110) rfl (XS.iload X116.here hx rfl (hb hby own_dprog_30_method_7_code_112) rfl k)))) ?_
            show own_Go p.tables e below RR (T116.setTop (mkF m 114 #[.val (.ref pa), .val (.int (4 : Int32)), .val (.ref b2), .val (.ref b30), .val (.int (1 : Int32)), .val (.int (3 : Int32)), .val (.int (3 : Int32)), .val (.int (0 : Int32))] [(.int (0 : Int32)), (.int (3 : Int32)), (.ref b30)]))
            obtain ⟨c127, A127, q127, s127, m127, H127, G127⟩ := id V116
            obtain ⟨T128, h128, X128, e128, W128, st128⟩ := stI X116 hx hZ e116 A127 (j := (3 : Int32)) (inb_of s127 ⟨by decide, by decide⟩) (g := (mkF m 114 #[.val (.ref pa), .val (.int (4 : Int32)), .val (.ref b2), .val (.ref b30), .val (.int (1 : Int32)), .val (.int (3 : Int32)), .val (.int (3 : Int32)), .val (.int (0 : Int32))] [(.int (0 : Int32)), (.int (3 : Int32)), (.ref b30)])) rfl rfl (hb hby own_dprog_30_method_7_code_114)
            have V128 := Arv.set A127 q127 s127 m127 H127 G127 rfl W128 3 rfl (Nat.le_of_ble_eq_true rfl)
            have V128 : Arv Z h128 b30 k30 .int (4 : Int32) [(.int (4 : Int32)), (.int (2 : Int32)), (.int (1 : Int32)), (.int (0 : Int32))] (.int (0 : Int32)) := V128
            have N128 := Fr.snoc X128 N116 ge30
            refine own_st st128 ?_
            have z129 : n0 ≤ h128.size := Nat.le_trans z117 (Keep.of_wr W128).1
            have kk130 : Keep h0 h128 [] := kk118.wr W128 (Or.inr sz30)
            show own_Go p.tables e below RR (T128.setTop (mkF m 115 #[.val (.ref pa), .val (.int (4 : Int32)), .val (.ref b2), .val (.ref b30), .val (.int (1 : Int32)), .val (.int (3 : Int32)), .val (.int (3 : Int32)), .val (.int (0 : Int32))] []))
            refine own_st (fun _ k => XS.iload X128.here hx rfl (hb hby own_dprog_30_method_7_code_115) rfl (XS.iload X128.here hx rfl (hb hby own_dprog_30_method_7_code_117) rfl (XS.iadd X128.here hx rfl (hb hby own_dprog_30_method_7_code_119) rfl (XS.iload X128.here hx rfl (hb hby own_dprog_30_method_7_code_120) rfl k)))) ?_
            show own_Go p.tables e below RR (T128.setTop (mkF m 122 #[.val (.ref pa), .val (.int (4 : Int32)), .val (.ref b2), .val (.ref b30), .val (.int (1 : Int32)), .val (.int (3 : Int32)), .val (.int (3 : Int32)), .val (.int (0 : Int32))] [(.int (3 : Int32)), (.int (3 : Int32))]))
            refine own_st (fun _ k => XS.icmpYes X128.here hx rfl (pc0 := 122) (pc' := 136) rfl (hb hby own_dprog_30_method_7_code_122) rfl (flt (by decide)).2.2.2 (by decide) (by decide) (XS.iinc X128.here hx rfl (hb hby own_dprog_30_method_7_code_136) rfl (l' := #[.val (.ref pa), .val (.int (4 : Int32)), .val (.ref b2), .val (.ref b30), .val (.int (1 : Int32)), .val (.int (3 : Int32)), .val (.int (4 : Int32)), .val (.int (0 : Int32))]) rfl (XS.goto X128.here hx rfl (pc0 := 139) (pc' := 47) rfl (hb hby own_dprog_30_method_7_code_139) (by decide) (by decide) (XS.iload X128.here hx rfl (hb hby own_dprog_30_method_7_code_47) rfl (XS.iloadN X128.here hx rfl (hb hby own_dprog_30_method_7_code_49) rfl k))))) ?_
            show own_Go p.tables e below RR (T128.setTop (mkF m 50 #[.val (.ref pa), .val (.int (4 : Int32)), .val (.ref b2), .val (.ref b30), .val (.int (1 : Int32)), .val (.int (3 : Int32)), .val (.int (4 : Int32)), .val (.int (0 : Int32))] [(.int (4 : Int32)), (.int (4 : Int32))]))
            refine own_st (fun _ k => XS.icmpYes X128.here hx rfl (pc0 := 50) (pc' := 142) rfl (hb hby own_dprog_30_method_7_code_50) rfl (flt (by decide)).2.1 (by decide) (by decide) k) ?_
            show own_Go p.tables e below RR (T128.setTop (mkF m 142 #[.val (.ref pa), .val (.int (4 : Int32)), .val (.ref b2), .val (.ref b30), .val (.int (1 : Int32)), .val (.int (3 : Int32)), .val (.int (4 : Int32)), .val (.int (0 : Int32))] []))
            exact jnh37 T128 _ h128 (1 : Int32) (3 : Int32) (0 : Int32) (4 : Int32) (2 : Int32) (1 : Int32) (0 : Int32) X128 e128 N128 ((((Keep.refl _ _).wr W96 (Or.inl (List.mem_of_getElem? (i := 0) rfl))).wr W116 (Or.inl (List.mem_of_getElem? (i := 0) rfl))).wr W128 (Or.inl (List.mem_of_getElem? (i := 0) rfl))) V128 (by decide) (by decide) (by decide) (by decide)
    · refine own_st (fun _ k => XS.icmpYes X34.here hx rfl (pc0 := 100) (pc' := 109) rfl (hb hby own_dprog_30_method_7_code_100) rfl (feq hc100_75).2 (by decide) (by decide) (XS.aloadN X34.here hx rfl (hb hby own_dprog_30_method_7_code_109) rfl rfl (XS.iload X34.here hx rfl (hb hby own_dprog_30_method_7_code_110) rfl (XS.iload X34.here hx rfl (hb hby own_dprog_30_method_7_code_112) rfl k)))) ?_
      show own_Go p.tables e below RR (T34.setTop (mkF m 114 #[.val (.ref pa), .val (.int (4 : Int32)), .val (.ref b2), .val (.ref b30), .val (.int (0 : Int32)), .val (.int (0 : Int32)), .val (.int (1 : Int32)), .val (.int (1 : Int32))] [(.int (1 : Int32)), (.int (1 : Int32)), (.ref b30)]))
      obtain ⟨c131, A131, q131, s131, m131, H131, G131⟩ := id V34
      obtain ⟨T132, h132, X132, e132, W132, st132⟩ := stI X34 hx hZ e34 A131 (j := (1 : Int32)) (inb_of s131 ⟨by decide, by decide⟩) (g := (mkF m 114 #[.val (.ref pa), .val (.int (4 : Int32)), .val (.ref b2), .val (.ref b30), .val (.int (0 : Int32)), .val (.int (0 : Int32)), .val (.int (1 : Int32)), .val (.int (1 : Int32))] [(.int (1 : Int32)), (.int (1 : Int32)), (.ref b30)])) rfl rfl (hb hby own_dprog_30_method_7_code_114)
      have V132 := Arv.set A131 q131 s131 m131 H131 G131 rfl W132 1 rfl (Nat.le_of_ble_eq_true rfl)
      have V132 : Arv Z h132 b30 k30 .int (4 : Int32) [(.int (4 : Int32)), (.int (1 : Int32)), (.int (0 : Int32)), (.int (0 : Int32))] (.int (0 : Int32)) := V132
      have N132 := Fr.snoc X132 N34 ge30
      refine own_st st132 ?_
      have z133 : n0 ≤ h132.size := Nat.le_trans z35 (Keep.of_wr W132).1
      have kk134 : Keep h0 h132 [] := kk36.wr W132 (Or.inr sz30)
      show own_Go p.tables e below RR (T132.setTop (mkF m 115 #[.val (.ref pa), .val (.int (4 : Int32)), .val (.ref b2), .val (.ref b30), .val (.int (0 : Int32)), .val (.int (0 : Int32)), .val (.int (1 : Int32)), .val (.int (1 : Int32))] []))
      refine own_st (fun _ k => XS.iload X132.here hx rfl (hb hby own_dprog_30_method_7_code_115) rfl (XS.iload X132.here hx rfl (hb hby own_dprog_30_method_7_code_117) rfl (XS.iadd X132.here hx rfl (hb hby own_dprog_30_method_7_code_119) rfl (XS.iload X132.here hx rfl (hb hby own_dprog_30_method_7_code_120) rfl k)))) ?_
      show own_Go p.tables e below RR (T132.setTop (mkF m 122 #[.val (.ref pa), .val (.int (4 : Int32)), .val (.ref b2), .val (.ref b30), .val (.int (0 : Int32)), .val (.int (0 : Int32)), .val (.int (1 : Int32)), .val (.int (1 : Int32))] [(.int (0 : Int32)), (.int (2 : Int32))]))
      refine own_st (fun _ k => XS.icmpNo X132.here hx rfl (hb hby own_dprog_30_method_7_code_122) rfl (tlt (by decide)).2.2.2 (XS.iload X132.here hx rfl (hb hby own_dprog_30_method_7_code_125) rfl (XS.istore X132.here hx rfl (hb hby own_dprog_30_method_7_code_127) rfl (l' := #[.val (.ref pa), .val (.int (4 : Int32)), .val (.ref b2), .val (.ref b30), .val (.int (1 : Int32)), .val (.int (0 : Int32)), .val (.int (1 : Int32)), .val (.int (1 : Int32))]) rfl (XS.iload X132.here hx rfl (hb hby own_dprog_30_method_7_code_129) rfl (XS.iload X132.here hx rfl (hb hby own_dprog_30_method_7_code_131) rfl (XS.iadd X132.here hx rfl (hb hby own_dprog_30_method_7_code_133) rfl (XS.istore X132.here hx rfl (hb hby own_dprog_30_method_7_code_134) rfl (l' := #[.val (.ref pa), .val (.int (4 : Int32)), .val (.ref b2), .val (.ref b30), .val (.int (1 : Int32)), .val (.int (2 : Int32)), .val (.int (1 : Int32)), .val (.int (1 : Int32))]) rfl (XS.iinc X132.here hx rfl (hb hby own_dprog_30_method_7_code_136) rfl (l' := #[.val (.ref pa), .val (.int (4 : Int32)), .val (.ref b2), .val (.ref b30), .val (.int (1 : Int32)), .val (.int (2 : Int32)), .val (.int (2 : Int32)), .val (.int (1 : Int32))]) rfl k)))))))) ?_
      show own_Go p.tables e below RR (T132.setTop (mkF m 139 #[.val (.ref pa), .val (.int (4 : Int32)), .val (.ref b2), .val (.ref b30), .val (.int (1 : Int32)), .val (.int (2 : Int32)), .val (.int (2 : Int32)), .val (.int (1 : Int32))] []))
      refine own_st (fun _ k => XS.goto X132.here hx rfl (pc0 := 139) (pc' := 47) rfl (hb hby own_dprog_30_method_7_code_139) (by decide) (by decide) (XS.iload X132.here hx rfl (hb hby own_dprog_30_method_7_code_47) rfl (XS.iloadN X132.here hx rfl (hb hby own_dprog_30_method_7_code_49) rfl k))) ?_
      show own_Go p.tables e below RR (T132.setTop (mkF m 50 #[.val (.ref pa), .val (.int (4 : Int32)), .val (.ref b2), .val (.ref b30), .val (.int (1 : Int32)), .val (.int (2 : Int32)), .val (.int (2 : Int32)), .val (.int (1 : Int32))] [(.int (4 : Int32)), (.int (2 : Int32))]))
      refine own_st (fun _ k => XS.icmpNo X132.here hx rfl (hb hby own_dprog_30_method_7_code_50) rfl (tlt (by decide)).2.1 (XS.iconst X132.here hx rfl (hb hby own_dprog_30_method_7_code_53) (XS.istore X132.here hx rfl (hb hby own_dprog_30_method_7_code_54) rfl (l' := #[.val (.ref pa), .val (.int (4 : Int32)), .val (.ref b2), .val (.ref b30), .val (.int (1 : Int32)), .val (.int (2 : Int32)), .val (.int (2 : Int32)), .val (.int (0 : Int32))]) rfl (XS.iload X132.here hx rfl (hb hby own_dprog_30_method_7_code_56) rfl (XS.iload X132.here hx rfl (hb hby own_dprog_30_method_7_code_58) rfl k))))) ?_
      show own_Go p.tables e below RR (T132.setTop (mkF m 60 #[.val (.ref pa), .val (.int (4 : Int32)), .val (.ref b2), .val (.ref b30), .val (.int (1 : Int32)), .val (.int (2 : Int32)), .val (.int (2 : Int32)), .val (.int (0 : Int32))] [(.int (2 : Int32)), (.int (2 : Int32))]))
      refine own_st (fun _ k => XS.icmpYes X132.here hx rfl (pc0 := 60) (pc' := 80) rfl (hb hby own_dprog_30_method_7_code_60) rfl (flt (by decide)).2.1 (by decide) (by decide) (XS.iload X132.here hx rfl (hb hby own_dprog_30_method_7_code_80) rfl (XS.iload X132.here hx rfl (hb hby own_dprog_30_method_7_code_82) rfl (XS.iadd X132.here hx rfl (hb hby own_dprog_30_method_7_code_84) rfl (XS.iloadN X132.here hx rfl (hb hby own_dprog_30_method_7_code_85) rfl k))))) ?_
      show own_Go p.tables e below RR (T132.setTop (mkF m 86 #[.val (.ref pa), .val (.int (4 : Int32)), .val (.ref b2), .val (.ref b30), .val (.int (1 : Int32)), .val (.int (2 : Int32)), .val (.int (2 : Int32)), .val (.int (0 : Int32))] [(.int (4 : Int32)), (.int (2 : Int32))]))
      refine own_st (fun _ k => XS.icmpNo X132.here hx rfl (hb hby own_dprog_30_method_7_code_86) rfl (tlt (by decide)).2.1 (XS.aloadN X132.here hx rfl (hb hby own_dprog_30_method_7_code_89) rfl rfl (XS.iload X132.here hx rfl (hb hby own_dprog_30_method_7_code_90) rfl k))) ?_
      show own_Go p.tables e below RR (T132.setTop (mkF m 92 #[.val (.ref pa), .val (.int (4 : Int32)), .val (.ref b2), .val (.ref b30), .val (.int (1 : Int32)), .val (.int (2 : Int32)), .val (.int (2 : Int32)), .val (.int (0 : Int32))] [(.int (0 : Int32)), (.ref b2)]))
      have f135 := (f69.other W132 ne68)
      obtain ⟨c136, A136, q136, s136, m136, H136, G136⟩ := id f135
      have b136 := inb_of (j := (0 : Int32)) s136 ⟨by decide, by decide⟩
      refine own_st (fun _ k => X132.iaload hx (j := (0 : Int32)) (v := (.int pp3)) (by rw [e132]; exact A136.1) (State.isArrayOf_alike hZ.alike A136.2.1) A136.2.2 b136 (Has.at H136 b136 rfl) (g := (mkF m 92 #[.val (.ref pa), .val (.int (4 : Int32)), .val (.ref b2), .val (.ref b30), .val (.int (1 : Int32)), .val (.int (2 : Int32)), .val (.int (2 : Int32)), .val (.int (0 : Int32))] [(.int (0 : Int32)), (.ref b2)])) rfl rfl (hb hby own_dprog_30_method_7_code_92) _ (XS.aloadN X132.here hx rfl (hb hby own_dprog_30_method_7_code_93) rfl rfl (XS.iload X132.here hx rfl (hb hby own_dprog_30_method_7_code_94) rfl (XS.iload X132.here hx rfl (hb hby own_dprog_30_method_7_code_96) rfl (XS.iadd X132.here hx rfl (hb hby own_dprog_30_method_7_code_98) rfl k))))) ?_
      show own_Go p.tables e below RR (T132.setTop (mkF m 99 #[.val (.ref pa), .val (.int (4 : Int32)), .val (.ref b2), .val (.ref b30), .val (.int (1 : Int32)), .val (.int (2 : Int32)), .val (.int (2 : Int32)), .val (.int (0 : Int32))] [(.int (2 : Int32)), (.ref b2), (.int pp3)]))
      obtain ⟨c137, A137, q137, s137, m137, H137, G137⟩ := id f135
      have b137 := inb_of (j := (2 : Int32)) s137 ⟨by decide, by decide⟩
      refine own_st (fun _ k => X132.iaload hx (j := (2 : Int32)) (v := (.int pp1)) (by rw [e132]; exact A137.1) (State.isArrayOf_alike hZ.alike A137.2.1) A137.2.2 b137 (Has.at H137 b137 rfl) (g := (mkF m 99 #[.val (.ref pa), .val (.int (4 : Int32)), .val (.ref b2), .val (.ref b30), .val (.int (1 : Int32)), .val (.int (2 : Int32)), .val (.int (2 : Int32)), .val (.int (0 : Int32))] [(.int (2 : Int32)), (.ref b2), (.int pp3)])) rfl rfl (hb hby own_dprog_30_method_7_code_99) _ k) ?_
      show own_Go p.tables e below RR (T132.setTop (mkF m 100 #[.val (.ref pa), .val (.int (4 : Int32)), .val (.ref b2), .val (.ref b30), .val (.int (1 : Int32)), .val (.int (2 : Int32)), .val (.int (2 : Int32)), .val (.int (0 : Int32))] [(.int pp1), (.int pp3)]))
      by_cases hc100_138 : pp3 = pp1
      · refine own_st (fun _ k => XS.icmpNo X132.here hx rfl (hb hby own_dprog_30_method_7_code_100) rfl (teq hc100_138).2 (XS.iinc X132.here hx rfl (hb hby own_dprog_30_method_7_code_103) rfl (l' := #[.val (.ref pa), .val (.int (4 : Int32)), .val (.ref b2), .val (.ref b30), .val (.int (1 : Int32)), .val (.int (2 : Int32)), .val (.int (2 : Int32)), .val (.int (1 : Int32))]) rfl (XS.goto X132.here hx rfl (pc0 := 106) (pc' := 80) rfl (hb hby own_dprog_30_method_7_code_106) (by decide) (by decide) (XS.iload X132.here hx rfl (hb hby own_dprog_30_method_7_code_80) rfl (XS.iload X132.here hx rfl (hb hby own_dprog_30_method_7_code_82) rfl (XS.iadd X132.here hx rfl (hb hby own_dprog_30_method_7_code_84) rfl (XS.iloadN X132.here hx rfl (hb hby own_dprog_30_method_7_code_85) rfl k))))))) ?_
        show own_Go p.tables e below RR (T132.setTop (mkF m 86 #[.val (.ref pa), .val (.int (4 : Int32)), .val (.ref b2), .val (.ref b30), .val (.int (1 : Int32)), .val (.int (2 : Int32)), .val (.int (2 : Int32)), .val (.int (1 : Int32))] [(.int (4 : Int32)), (.int (3 : Int32))]))
        refine own_st (fun _ k => XS.icmpNo X132.here hx rfl (hb hby own_dprog_30_method_7_code_86) rfl (tlt (by decide)).2.1 (XS.aloadN X132.here hx rfl (hb hby own_dprog_30_method_7_code_89) rfl rfl (XS.iload X132.here hx rfl (hb hby own_dprog_30_method_7_code_90) rfl k))) ?_
        show own_Go p.tables e below RR (T132.setTop (mkF m 92 #[.val (.ref pa), .val (.int (4 : Int32)), .val (.ref b2), .val (.ref b30), .val (.int (1 : Int32)), .val (.int (2 : Int32)), .val (.int (2 : Int32)), .val (.int (1 : Int32))] [(.int (1 : Int32)), (.ref b2)]))
        obtain ⟨c139, A139, q139, s139, m139, H139, G139⟩ := id f135
        have b139 := inb_of (j := (1 : Int32)) s139 ⟨by decide, by decide⟩
        refine own_st (fun _ k => X132.iaload hx (j := (1 : Int32)) (v := (.int pp2)) (by rw [e132]; exact A139.1) (State.isArrayOf_alike hZ.alike A139.2.1) A139.2.2 b139 (Has.at H139 b139 rfl) (g := (mkF m 92 #[.val (.ref pa), .val (.int (4 : Int32)), .val (.ref b2), .val (.ref b30), .val (.int (1 : Int32)), .val (.int (2 : Int32)), .val (.int (2 : Int32)), .val (.int (1 : Int32))] [(.int (1 : Int32)), (.ref b2)])) rfl rfl (hb hby own_dprog_30_method_7_code_92) _ (XS.aloadN X132.here hx rfl (hb hby own_dprog_30_method_7_code_93) rfl rfl (XS.iload X132.here hx rfl (hb hby own_dprog_30_method_7_code_94) rfl (XS.iload X132.here hx rfl (hb hby own_dprog_30_method_7_code_96) rfl (XS.iadd X132.here hx rfl (hb hby own_dprog_30_method_7_code_98) rfl k))))) ?_
        show own_Go p.tables e below RR (T132.setTop (mkF m 99 #[.val (.ref pa), .val (.int (4 : Int32)), .val (.ref b2), .val (.ref b30), .val (.int (1 : Int32)), .val (.int (2 : Int32)), .val (.int (2 : Int32)), .val (.int (1 : Int32))] [(.int (3 : Int32)), (.ref b2), (.int pp2)]))
        obtain ⟨c140, A140, q140, s140, m140, H140, G140⟩ := id f135
        have b140 := inb_of (j := (3 : Int32)) s140 ⟨by decide, by decide⟩
        refine own_st (fun _ k => X132.iaload hx (j := (3 : Int32)) (v := (.int pp0)) (by rw [e132]; exact A140.1) (State.isArrayOf_alike hZ.alike A140.2.1) A140.2.2 b140 (Has.at H140 b140 rfl) (g := (mkF m 99 #[.val (.ref pa), .val (.int (4 : Int32)), .val (.ref b2), .val (.ref b30), .val (.int (1 : Int32)), .val (.int (2 : Int32)), .val (.int (2 : Int32)), .val (.int (1 : Int32))] [(.int (3 : Int32)), (.ref b2), (.int pp2)])) rfl rfl (hb hby own_dprog_30_method_7_code_99) _ k) ?_
        show own_Go p.tables e below RR (T132.setTop (mkF m 100 #[.val (.ref pa), .val (.int (4 : Int32)), .val (.ref b2), .val (.ref b30), .val (.int (1 : Int32)), .val (.int (2 : Int32)), .val (.int (2 : Int32)), .val (.int (1 : Int32))] [(.int pp0), (.int pp2)]))
        by_cases hc100_141 : pp2 = pp0
        · refine own_st (fun _ k => XS.icmpNo X132.here hx rfl (hb hby own_dprog_30_method_7_code_100) rfl (teq hc100_141).2 (XS.iinc X132.here hx rfl (hb hby own_dprog_30_method_7_code_103) rfl (l' := #[.val (.ref pa), .val (.int (4 : Int32)), .val (.ref b2), .val (.ref b30), .val (.int (1 : Int32)), .val (.int (2 : Int32)), .val (.int (2 : Int32)), .val (.int (2 : Int32))]) rfl (XS.goto X132.here hx rfl (pc0 := 106) (pc' := 80) rfl (hb hby own_dprog_30_method_7_code_106) (by decide) (by decide) (XS.iload X132.here hx rfl (hb hby own_dprog_30_method_7_code_80) rfl (XS.iload X132.here hx rfl (hb hby own_dprog_30_method_7_code_82) rfl (XS.iadd X132.here hx rfl (hb hby own_dprog_30_method_7_code_84) rfl (XS.iloadN X132.here hx rfl (hb hby own_dprog_30_method_7_code_85) rfl k))))))) ?_
          show own_Go p.tables e below RR (T132.setTop (mkF m 86 #[.val (.ref pa), .val (.int (4 : Int32)), .val (.ref b2), .val (.ref b30), .val (.int (1 : Int32)), .val (.int (2 : Int32)), .val (.int (2 : Int32)), .val (.int (2 : Int32))] [(.int (4 : Int32)), (.int (4 : Int32))]))
          refine own_st (fun _ k => XS.icmpYes X132.here hx rfl (pc0 := 86) (pc' := 109) rfl (hb hby own_dprog_30_method_7_code_86) rfl (flt (by decide)).2.1 (by decide) (by decide) (XS.aloadN X132.here hx rfl (hb hby own_dprog_30_method_7_code_109) rfl rfl (XS.iload X132.here hx rfl (hb hby own_dprog_30_method_7_code_110) rfl (XS.iload X132.here hx rfl (hb hby own_dprog_30_method_7_code_112) rfl k)))) ?_
          show own_Go p.tables e below RR (T132.setTop (mkF m 114 #[.val (.ref pa), .val (.int (4 : Int32)), .val (.ref b2), .val (.ref b30), .val (.int (1 : Int32)), .val (.int (2 : Int32)), .val (.int (2 : Int32)), .val (.int (2 : Int32))] [(.int (2 : Int32)), (.int (2 : Int32)), (.ref b30)]))
          obtain ⟨c142, A142, q142, s142, m142, H142, G142⟩ := id V132
          obtain ⟨T143, h143, X143, e143, W143, st143⟩ := stI X132 hx hZ e132 A142 (j := (2 : Int32)) (inb_of s142 ⟨by decide, by decide⟩) (g := (mkF m 114 #[.val (.ref pa), .val (.int (4 : Int32)), .val (.ref b2), .val (.ref b30), .val (.int (1 : Int32)), .val (.int (2 : Int32)), .val (.int (2 : Int32)), .val (.int (2 : Int32))] [(.int (2 : Int32)), (.int (2 : Int32)), (.ref b30)])) rfl rfl (hb hby own_dprog_30_method_7_code_114)
          have V143 := Arv.set A142 q142 s142 m142 H142 G142 rfl W143 2 rfl (Nat.le_of_ble_eq_true rfl)
          have V143 : Arv Z h143 b30 k30 .int (4 : Int32) [(.int (4 : Int32)), (.int (1 : Int32)), (.int (2 : Int32)), (.int (0 : Int32))] (.int (0 : Int32)) := V143
          have N143 := Fr.snoc X143 N132 ge30
          refine own_st st143 ?_
          have z144 : n0 ≤ h143.size := Nat.le_trans z133 (Keep.of_wr W143).1
          have kk145 : Keep h0 h143 [] := kk134.wr W143 (Or.inr sz30)
          show own_Go p.tables e below RR (T143.setTop (mkF m 115 #[.val (.ref pa), .val (.int (4 : Int32)), .val (.ref b2), .val (.ref b30), .val (.int (1 : Int32)), .val (.int (2 : Int32)), .val (.int (2 : Int32)), .val (.int (2 : Int32))] []))
          refine own_st (fun _ k => XS.iload X143.here hx rfl (hb hby own_dprog_30_method_7_code_115) rfl (XS.iload X143.here hx rfl (hb hby own_dprog_30_method_7_code_117) rfl (XS.iadd X143.here hx rfl (hb hby own_dprog_30_method_7_code_119) rfl (XS.iload X143.here hx rfl (hb hby own_dprog_30_method_7_code_120) rfl k)))) ?_
          show own_Go p.tables e below RR (T143.setTop (mkF m 122 #[.val (.ref pa), .val (.int (4 : Int32)), .val (.ref b2), .val (.ref b30), .val (.int (1 : Int32)), .val (.int (2 : Int32)), .val (.int (2 : Int32)), .val (.int (2 : Int32))] [(.int (2 : Int32)), (.int (4 : Int32))]))
          refine own_st (fun _ k => XS.icmpNo X143.here hx rfl (hb hby own_dprog_30_method_7_code_122) rfl (tlt (by decide)).2.2.2 (XS.iload X143.here hx rfl (hb hby own_dprog_30_method_7_code_125) rfl (XS.istore X143.here hx rfl (hb hby own_dprog_30_method_7_code_127) rfl (l' := #[.val (.ref pa), .val (.int (4 : Int32)), .val (.ref b2), .val (.ref b30), .val (.int (2 : Int32)), .val (.int (2 : Int32)), .val (.int (2 : Int32)), .val (.int (2 : Int32))]) rfl (XS.iload X143.here hx rfl (hb hby own_dprog_30_method_7_code_129) rfl (XS.iload X143.here hx rfl (hb hby own_dprog_30_method_7_code_131) rfl (XS.iadd X143.here hx rfl (hb hby own_dprog_30_method_7_code_133) rfl (XS.istore X143.here hx rfl (hb hby own_dprog_30_method_7_code_134) rfl (l' := #[.val (.ref pa), .val (.int (4 : Int32)), .val (.ref b2), .val (.ref b30), .val (.int (2 : Int32)), .val (.int (4 : Int32)), .val (.int (2 : Int32)), .val (.int (2 : Int32))]) rfl (XS.iinc X143.here hx rfl (hb hby own_dprog_30_method_7_code_136) rfl (l' := #[.val (.ref pa), .val (.int (4 : Int32)), .val (.ref b2), .val (.ref b30), .val (.int (2 : Int32)), .val (.int (4 : Int32)), .val (.int (3 : Int32)), .val (.int (2 : Int32))]) rfl k)))))))) ?_
          show own_Go p.tables e below RR (T143.setTop (mkF m 139 #[.val (.ref pa), .val (.int (4 : Int32)), .val (.ref b2), .val (.ref b30), .val (.int (2 : Int32)), .val (.int (4 : Int32)), .val (.int (3 : Int32)), .val (.int (2 : Int32))] []))
          refine own_st (fun _ k => XS.goto X143.here hx rfl (pc0 := 139) (pc' := 47) rfl (hb hby own_dprog_30_method_7_code_139) (by decide) (by decide) (XS.iload X143.here hx rfl (hb hby own_dprog_30_method_7_code_47) rfl (XS.iloadN X143.here hx rfl (hb hby own_dprog_30_method_7_code_49) rfl k))) ?_
          show own_Go p.tables e below RR (T143.setTop (mkF m 50 #[.val (.ref pa), .val (.int (4 : Int32)), .val (.ref b2), .val (.ref b30), .val (.int (2 : Int32)), .val (.int (4 : Int32)), .val (.int (3 : Int32)), .val (.int (2 : Int32))] [(.int (4 : Int32)), (.int (3 : Int32))]))
          refine own_st (fun _ k => XS.icmpNo X143.here hx rfl (hb hby own_dprog_30_method_7_code_50) rfl (tlt (by decide)).2.1 (XS.iconst X143.here hx rfl (hb hby own_dprog_30_method_7_code_53) (XS.istore X143.here hx rfl (hb hby own_dprog_30_method_7_code_54) rfl (l' := #[.val (.ref pa), .val (.int (4 : Int32)), .val (.ref b2), .val (.ref b30), .val (.int (2 : Int32)), .val (.int (4 : Int32)), .val (.int (3 : Int32)), .val (.int (0 : Int32))]) rfl (XS.iload X143.here hx rfl (hb hby own_dprog_30_method_7_code_56) rfl (XS.iload X143.here hx rfl (hb hby own_dprog_30_method_7_code_58) rfl k))))) ?_
          show own_Go p.tables e below RR (T143.setTop (mkF m 60 #[.val (.ref pa), .val (.int (4 : Int32)), .val (.ref b2), .val (.ref b30), .val (.int (2 : Int32)), .val (.int (4 : Int32)), .val (.int (3 : Int32)), .val (.int (0 : Int32))] [(.int (4 : Int32)), (.int (3 : Int32))]))
          refine own_st (fun _ k => XS.icmpNo X143.here hx rfl (hb hby own_dprog_30_method_7_code_60) rfl (tlt (by decide)).2.1 (XS.iload X143.here hx rfl (hb hby own_dprog_30_method_7_code_63) rfl (XS.iload X143.here hx rfl (hb hby own_dprog_30_method_7_code_65) rfl (XS.isub X143.here hx rfl (hb hby own_dprog_30_method_7_code_67) rfl (XS.aloadN X143.here hx rfl (hb hby own_dprog_30_method_7_code_68) rfl rfl (XS.iload X143.here hx rfl (hb hby own_dprog_30_method_7_code_69) rfl (XS.iload X143.here hx rfl (hb hby own_dprog_30_method_7_code_71) rfl (XS.isub X143.here hx rfl (hb hby own_dprog_30_method_7_code_73) rfl k)))))))) ?_
          show own_Go p.tables e below RR (T143.setTop (mkF m 74 #[.val (.ref pa), .val (.int (4 : Int32)), .val (.ref b2), .val (.ref b30), .val (.int (2 : Int32)), .val (.int (4 : Int32)), .val (.int (3 : Int32)), .val (.int (0 : Int32))] [(.int (1 : Int32)), (.ref b30), (.int (1 : Int32))]))
          obtain ⟨c146, A146, q146, s146, m146, H146, G146⟩ := id V143
          have b146 := inb_of (j := (1 : Int32)) s146 ⟨by decide, by decide⟩
          refine own_st (fun _ k => X143.iaload hx (j := (1 : Int32)) (v := (.int (1 : Int32))) (by rw [e143]; exact A146.1) (State.isArrayOf_alike hZ.alike A146.2.1) A146.2.2 b146 (Has.at H146 b146 rfl) (g := (mkF m 74 #[.val (.ref pa), .val (.int (4 : Int32)), .val (.ref b2), .val (.ref b30), .val (.int (2 : Int32)), .val (.int (4 : Int32)), .val (.int (3 : Int32)), .val (.int (0 : Int32))] [(.int (1 : Int32)), (.ref b30), (.int (1 : Int32))])) rfl rfl (hb hby own_dprog_30_method_7_code_74) _ k) ?_
          show own_Go p.tables e below RR (T143.setTop (mkF m 75 #[.val (.ref pa), .val (.int (4 : Int32)), .val (.ref b2), .val (.ref b30), .val (.int (2 : Int32)), .val (.int (4 : Int32)), .val (.int (3 : Int32)), .val (.int (0 : Int32))] [(.int (1 : Int32)), (.int (1 : Int32))]))
          obtain ⟨_, _, ⟨T147, L147, k147, n147⟩, -, X147, ⟨Lc147, hQ147, l147, y147, z147⟩, st147⟩ := Jvm.LawKit.callS X143 hx (y := (⟨"java/lang/Math", "min", "(II)I"⟩ : MethodName)) hown (mvT hZ (hw _ (List.mem_of_getElem? (i := 39) rfl))) (mvT hZ (hw _ (List.mem_of_getElem? (i := 40) rfl))) (mvT hZ (hw _ (List.mem_of_getElem? (i := 41) rfl))) (mvT hZ (hw _ (List.mem_of_getElem? (i := 42) rfl))) (by decide) (backOf (W := 0) (own_rmMN l Z a0 hw [] (1 : Int32) (1 : Int32) (1 : Int32) h143 n0 z144 (by decide)) hZ (hw _ (List.mem_of_getElem? (i := 42) rfl)) (hw _ (List.mem_of_getElem? (i := 41) rfl)) (by decide) (by decide)) (g := (mkF m 75 #[.val (.ref pa), .val (.int (4 : Int32)), .val (.ref b2), .val (.ref b30), .val (.int (2 : Int32)), .val (.int (4 : Int32)), .val (.int (3 : Int32)), .val (.int (0 : Int32))] [(.int (1 : Int32)), (.int (1 : Int32))])) rfl (by rw [hml]; rfl) (argsL := [(.int (1 : Int32)), (.int (1 : Int32))]) (rest := []) (lenOf own_pd__II_I rfl) rfl (by show 2 * 0 + _ ≤ _; exact Nat.le_of_eq rfl) (hb hby own_dprog_30_method_7_code_75) (fun _ _ => ⟨rfl, e143, (by decide : 2 + 0 ≤ _), (by decide : 8 + 0 ≤ _)⟩)
          dsimp only [Pt.U, Pt.locs, Pt.cells, Pt.slots] at X147 l147 y147 z147 st147 hQ147
          subst l147 y147 z147
          obtain ⟨rfl, Nq147, eq147⟩ := hQ147
          have N147 := Fr.app N143 Nq147
          refine own_st st147 ?_
          show own_Go p.tables e below RR (T147.setTop (mkF m 78 #[.val (.ref pa), .val (.int (4 : Int32)), .val (.ref b2), .val (.ref b30), .val (.int (2 : Int32)), .val (.int (4 : Int32)), .val (.int (3 : Int32)), .val (.int (0 : Int32))] [(.int (1 : Int32))]))
          refine own_st (fun _ k => XS.istore X147.here hx rfl (hb hby own_dprog_30_method_7_code_78) rfl (l' := #[.val (.ref pa), .val (.int (4 : Int32)), .val (.ref b2), .val (.ref b30), .val (.int (2 : Int32)), .val (.int (4 : Int32)), .val (.int (3 : Int32)), .val (.int (1 : Int32))]) rfl (XS.iload X147.here hx rfl (hb hby own_dprog_30_method_7_code_80) rfl (XS.iload X147.here hx rfl (hb hby own_dprog_30_method_7_code_82) rfl (XS.iadd X147.here hx rfl (hb hby own_dprog_30_method_7_code_84) rfl (XS.iloadN X147.here hx rfl (hb hby own_dprog_30_method_7_code_85) rfl k))))) ?_
          show own_Go p.tables e below RR (T147.setTop (mkF m 86 #[.val (.ref pa), .val (.int (4 : Int32)), .val (.ref b2), .val (.ref b30), .val (.int (2 : Int32)), .val (.int (4 : Int32)), .val (.int (3 : Int32)), .val (.int (1 : Int32))] [(.int (4 : Int32)), (.int (4 : Int32))]))
          refine own_st (fun _ k => XS.icmpYes X147.here hx rfl (pc0 := 86) (pc' := 109) rfl (hb hby own_dprog_30_method_7_code_86) rfl (flt (by decide)).2.1 (by decide) (by decide) (XS.aloadN X147.here hx rfl (hb hby own_dprog_30_method_7_code_109) rfl rfl (XS.iload X147.here hx rfl (hb hby own_dprog_30_method_7_code_110) rfl (XS.iload X147.here hx rfl (hb hby own_dprog_30_method_7_code_112) rfl k)))) ?_
          show own_Go p.tables e below RR (T147.setTop (mkF m 114 #[.val (.ref pa), .val (.int (4 : Int32)), .val (.ref b2), .val (.ref b30), .val (.int (2 : Int32)), .val (.int (4 : Int32)), .val (.int (3 : Int32)), .val (.int (1 : Int32))] [(.int (1 : Int32)), (.int (3 : Int32)), (.ref b30)]))
          obtain ⟨c148, A148, q148, s148, m148, H148, G148⟩ := id V143
          obtain ⟨T149, h149, X149, e149, W149, st149⟩ := stI X147 hx hZ eq147 A148 (j := (3 : Int32)) (inb_of s148 ⟨by decide, by decide⟩) (g := (mkF m 114 #[.val (.ref pa), .val (.int (4 : Int32)), .val (.ref b2), .val (.ref b30), .val (.int (2 : Int32)), .val (.int (4 : Int32)), .val (.int (3 : Int32)), .val (.int (1 : Int32))] [(.int (1 : Int32)), (.int (3 : Int32)), (.ref b30)])) rfl rfl (hb hby own_dprog_30_method_7_code_114)
          have V149 := Arv.set A148 q148 s148 m148 H148 G148 rfl W149 3 rfl (Nat.le_of_ble_eq_true rfl)
          have V149 : Arv Z h149 b30 k30 .int (4 : Int32) [(.int (4 : Int32)), (.int (1 : Int32)), (.int (2 : Int32)), (.int (1 : Int32))] (.int (0 : Int32)) := V149
          have N149 := Fr.snoc X149 N147 ge30
          refine own_st st149 ?_
          have z150 : n0 ≤ h149.size := Nat.le_trans z144 (Keep.of_wr W149).1
          have kk151 : Keep h0 h149 [] := kk145.wr W149 (Or.inr sz30)
          show own_Go p.tables e below RR (T149.setTop (mkF m 115 #[.val (.ref pa), .val (.int (4 : Int32)), .val (.ref b2), .val (.ref b30), .val (.int (2 : Int32)), .val (.int (4 : Int32)), .val (.int (3 : Int32)), .val (.int (1 : Int32))] []))
          refine own_st (fun _ k => XS.iload X149.here hx rfl (hb hby own_dprog_30_method_7_code_115) rfl (XS.iload X149.here hx rfl (hb hby own_dprog_30_method_7_code_117) rfl (XS.iadd X149.here hx rfl (hb hby own_dprog_30_method_7_code_119) rfl (XS.iload X149.here hx rfl (hb hby own_dprog_30_method_7_code_120) rfl k)))) ?_
          show own_Go p.tables e below RR (T149.setTop (mkF m 122 #[.val (.ref pa), .val (.int (4 : Int32)), .val (.ref b2), .val (.ref b30), .val (.int (2 : Int32)), .val (.int (4 : Int32)), .val (.int (3 : Int32)), .val (.int (1 : Int32))] [(.int (4 : Int32)), (.int (4 : Int32))]))
          refine own_st (fun _ k => XS.icmpYes X149.here hx rfl (pc0 := 122) (pc' := 136) rfl (hb hby own_dprog_30_method_7_code_122) rfl (flt (by decide)).2.2.2 (by decide) (by decide) (XS.iinc X149.here hx rfl (hb hby own_dprog_30_method_7_code_136) rfl (l' := #[.val (.ref pa), .val (.int (4 : Int32)), .val (.ref b2), .val (.ref b30), .val (.int (2 : Int32)), .val (.int (4 : Int32)), .val (.int (4 : Int32)), .val (.int (1 : Int32))]) rfl (XS.goto X149.here hx rfl (pc0 := 139) (pc' := 47) rfl (hb hby own_dprog_30_method_7_code_139) (by decide) (by decide) (XS.iload X149.here hx rfl (hb hby own_dprog_30_method_7_code_47) rfl (XS.iloadN X149.here hx rfl (hb hby own_dprog_30_method_7_code_49) rfl k))))) ?_
          show own_Go p.tables e below RR (T149.setTop (mkF m 50 #[.val (.ref pa), .val (.int (4 : Int32)), .val (.ref b2), .val (.ref b30), .val (.int (2 : Int32)), .val (.int (4 : Int32)), .val (.int (4 : Int32)), .val (.int (1 : Int32))] [(.int (4 : Int32)), (.int (4 : Int32))]))
          refine own_st (fun _ k => XS.icmpYes X149.here hx rfl (pc0 := 50) (pc' := 142) rfl (hb hby own_dprog_30_method_7_code_50) rfl (flt (by decide)).2.1 (by decide) (by decide) k) ?_
          show own_Go p.tables e below RR (T149.setTop (mkF m 142 #[.val (.ref pa), .val (.int (4 : Int32)), .val (.ref b2), .val (.ref b30), .val (.int (2 : Int32)), .val (.int (4 : Int32)), .val (.int (4 : Int32)), .val (.int (1 : Int32))] []))
          exact jnh37 T149 _ h149 (2 : Int32) (4 : Int32) (1 : Int32) (4 : Int32) (1 : Int32) (2 : Int32) (1 : Int32) X149 e149 N149 ((((Keep.refl _ _).wr W132 (Or.inl (List.mem_of_getElem? (i := 0) rfl))).wr W143 (Or.inl (List.mem_of_getElem? (i := 0) rfl))).wr W149 (Or.inl (List.mem_of_getElem? (i := 0) rfl))) V149 (by decide) (by decide) (by decide) (by decide)
        · refine own_st (fun _ k => XS.icmpYes X132.here hx rfl (pc0 := 100) (pc' := 109) rfl (hb hby own_dprog_30_method_7_code_100) rfl (feq hc100_141).2 (by decide) (by decide) (XS.aloadN X132.here hx rfl (hb hby own_dprog_30_method_7_code_109) rfl rfl (XS.iload X132.here hx rfl (hb hby own_dprog_30_method_7_code_110) rfl (XS.iload X132.here hx rfl (hb hby own_dprog_30_method_7_code_112) rfl k)))) ?_
          show own_Go p.tables e below RR (T132.setTop (mkF m 114 #[.val (.ref pa), .val (.int (4 : Int32)), .val (.ref b2), .val (.ref b30), .val (.int (1 : Int32)), .val (.int (2 : Int32)), .val (.int (2 : Int32)), .val (.int (1 : Int32))] [(.int (1 : Int32)), (.int (2 : Int32)), (.ref b30)]))
          obtain ⟨c152, A152, q152, s152, m152, H152, G152⟩ := id V132
          obtain ⟨T153, h153, X153, e153, W153, st153⟩ := stI X132 hx hZ e132 A152 (j := (2 : Int32)) (inb_of s152 ⟨by decide, by decide⟩) (g := (mkF m 114 #[.val (.ref pa), .val (.int (4 : Int32)), .val (.ref b2), .val (.ref b30), .val (.int (1 : Int32)), .val (.int (2 : Int32)), .val (.int (2 : Int32)), .val (.int (1 : Int32))] [(.int (1 : Int32)), (.int (2 : Int32)), (.ref b30)])) rfl rfl (hb hby own_dprog_30_method_7_code_114)
          have V153 := Arv.set A152 q152 s152 m152 H152 G152 rfl W153 2 rfl (Nat.le_of_ble_eq_true rfl)
          have V153 : Arv Z h153 b30 k30 .int (4 : Int32) [(.int (4 : Int32)), (.int (1 : Int32)), (.int (1 : Int32)), (.int (0 : Int32))] (.int (0 : Int32)) := V153
          have N153 := Fr.snoc X153 N132 ge30
          refine own_st st153 ?_
          have z154 : n0 ≤ h153.size := Nat.le_trans z133 (Keep.of_wr W153).1
          have kk155 : Keep h0 h153 [] := kk134.wr W153 (Or.inr sz30)
          show own_Go p.tables e below RR (T153.setTop (mkF m 115 #[.val (.ref pa), .val (.int (4 : Int32)), .val (.ref b2), .val (.ref b30), .val (.int (1 : Int32)), .val (.int (2 : Int32)), .val (.int (2 : Int32)), .val (.int (1 : Int32))] []))
          refine own_st (fun _ k => XS.iload X153.here hx rfl (hb hby own_dprog_30_method_7_code_115) rfl (XS.iload X153.here hx rfl (hb hby own_dprog_30_method_7_code_117) rfl (XS.iadd X153.here hx rfl (hb hby own_dprog_30_method_7_code_119) rfl (XS.iload X153.here hx rfl (hb hby own_dprog_30_method_7_code_120) rfl k)))) ?_
          show own_Go p.tables e below RR (T153.setTop (mkF m 122 #[.val (.ref pa), .val (.int (4 : Int32)), .val (.ref b2), .val (.ref b30), .val (.int (1 : Int32)), .val (.int (2 : Int32)), .val (.int (2 : Int32)), .val (.int (1 : Int32))] [(.int (2 : Int32)), (.int (3 : Int32))]))
          refine own_st (fun _ k => XS.icmpNo X153.here hx rfl (hb hby own_dprog_30_method_7_code_122) rfl (tlt (by decide)).2.2.2 (XS.iload X153.here hx rfl (hb hby own_dprog_30_method_7_code_125) rfl (XS.istore X153.here hx rfl (hb hby own_dprog_30_method_7_code_127) rfl (l' := #[.val (.ref pa), .val (.int (4 : Int32)), .val (.ref b2), .val (.ref b30), .val (.int (2 : Int32)), .val (.int (2 : Int32)), .val (.int (2 : Int32)), .val (.int (1 : Int32))]) rfl (XS.iload X153.here hx rfl (hb hby own_dprog_30_method_7_code_129) rfl (XS.iload X153.here hx rfl (hb hby own_dprog_30_method_7_code_131) rfl (XS.iadd X153.here hx rfl (hb hby own_dprog_30_method_7_code_133) rfl (XS.istore X153.here hx rfl (hb hby own_dprog_30_method_7_code_134) rfl (l' := #[.val (.ref pa), .val (.int (4 : Int32)), .val (.ref b2), .val (.ref b30), .val (.int (2 : Int32)), .val (.int (3 : Int32)), .val (.int (2 : Int32)), .val (.int (1 : Int32))]) rfl (XS.iinc X153.here hx rfl (hb hby own_dprog_30_method_7_code_136) rfl (l' := #[.val (.ref pa), .val (.int (4 : Int32)), .val (.ref b2), .val (.ref b30), .val (.int (2 : Int32)), .val (.int (3 : Int32)), .val (.int (3 : Int32)), .val (.int (1 : Int32))]) rfl k)))))))) ?_
          show own_Go p.tables e below RR (T153.setTop (mkF m 139 #[.val (.ref pa), .val (.int (4 : Int32)), .val (.ref b2), .val (.ref b30), .val (.int (2 : Int32)), .val (.int (3 : Int32)), .val (.int (3 : Int32)), .val (.int (1 : Int32))] []))
          refine own_st (fun _ k => XS.goto X153.here hx rfl (pc0 := 139) (pc' := 47) rfl (hb hby own_dprog_30_method_7_code_139) (by decide) (by decide) (XS.iload X153.here hx rfl (hb hby own_dprog_30_method_7_code_47) rfl (XS.iloadN X153.here hx rfl (hb hby own_dprog_30_method_7_code_49) rfl k))) ?_
          show own_Go p.tables e below RR (T153.setTop (mkF m 50 #[.val (.ref pa), .val (.int (4 : Int32)), .val (.ref b2), .val (.ref b30), .val (.int (2 : Int32)), .val (.int (3 : Int32)), .val (.int (3 : Int32)), .val (.int (1 : Int32))] [(.int (4 : Int32)), (.int (3 : Int32))]))
          refine own_st (fun _ k => XS.icmpNo X153.here hx rfl (hb hby own_dprog_30_method_7_code_50) rfl (tlt (by decide)).2.1 (XS.iconst X153.here hx rfl (hb hby own_dprog_30_method_7_code_53) (XS.istore X153.here hx rfl (hb hby own_dprog_30_method_7_code_54) rfl (l' := #[.val (.ref pa), .val (.int (4 : Int32)), .val (.ref b2), .val (.ref b30), .val (.int (2 : Int32)), .val (.int (3 : Int32)), .val (.int (3 : Int32)), .val (.int (0 : Int32))]) rfl (XS.iload X153.here hx rfl (hb hby own_dprog_30_method_7_code_56) rfl (XS.iload X153.here hx rfl (hb hby own_dprog_30_method_7_code_58) rfl k))))) ?_
          show own_Go p.tables e below RR (T153.setTop (mkF m 60 #[.val (.ref pa), .val (.int (4 : Int32)), .val (.ref b2), .val (.ref b30), .val (.int (2 : Int32)), .val (.int (3 : Int32)), .val (.int (3 : Int32)), .val (.int (0 : Int32))] [(.int (3 : Int32)), (.int (3 : Int32))]))
          refine own_st (fun _ k => XS.icmpYes X153.here hx rfl (pc0 := 60) (pc' := 80) rfl (hb hby own_dprog_30_method_7_code_60) rfl (flt (by decide)).2.1 (by decide) (by decide) (XS.iload X153.here hx rfl (hb hby own_dprog_30_method_7_code_80) rfl (XS.iload X153.here hx rfl (hb hby own_dprog_30_method_7_code_82) rfl (XS.iadd X153.here hx rfl (hb hby own_dprog_30_method_7_code_84) rfl (XS.iloadN X153.here hx rfl (hb hby own_dprog_30_method_7_code_85) rfl k))))) ?_
          show own_Go p.tables e below RR (T153.setTop (mkF m 86 #[.val (.ref pa), .val (.int (4 : Int32)), .val (.ref b2), .val (.ref b30), .val (.int (2 : Int32)), .val (.int (3 : Int32)), .val (.int (3 : Int32)), .val (.int (0 : Int32))] [(.int (4 : Int32)), (.int (3 : Int32))]))
          refine own_st (fun _ k => XS.icmpNo X153.here hx rfl (hb hby own_dprog_30_method_7_code_86) rfl (tlt (by decide)).2.1 (XS.aloadN X153.here hx rfl (hb hby own_dprog_30_method_7_code_89) rfl rfl (XS.iload X153.here hx rfl (hb hby own_dprog_30_method_7_code_90) rfl k))) ?_
          show own_Go p.tables e below RR (T153.setTop (mkF m 92 #[.val (.ref pa), .val (.int (4 : Int32)), .val (.ref b2), .val (.ref b30), .val (.int (2 : Int32)), .val (.int (3 : Int32)), .val (.int (3 : Int32)), .val (.int (0 : Int32))] [(.int (0 : Int32)), (.ref b2)]))
          have f156 := (f135.other W153 ne68)
          obtain ⟨c157, A157, q157, s157, m157, H157, G157⟩ := id f156
          have b157 := inb_of (j := (0 : Int32)) s157 ⟨by decide, by decide⟩
          refine own_st (fun _ k => X153.iaload hx (j := (0 : Int32)) (v := (.int pp3)) (by rw [e153]; exact A157.1) (State.isArrayOf_alike hZ.alike A157.2.1) A157.2.2 b157 (Has.at H157 b157 rfl) (g := (mkF m 92 #[.val (.ref pa), .val (.int (4 : Int32)), .val (.ref b2), .val (.ref b30), .val (.int (2 : Int32)), .val (.int (3 : Int32)), .val (.int (3 : Int32)), .val (.int (0 : Int32))] [(.int (0 : Int32)), (.ref b2)])) rfl rfl (hb hby own_dprog_30_method_7_code_92) _ (XS.aloadN X153.here hx rfl (hb hby own_dprog_30_method_7_code_93) rfl rfl (XS.iload X153.here hx rfl (hb hby own_dprog_30_method_7_code_94) rfl (XS.iload X153.here hx rfl (hb hby own_dprog_30_method_7_code_96) rfl (XS.iadd X153.here hx rfl (hb hby own_dprog_30_method_7_code_98) rfl k))))) ?_
          show own_Go p.tables e below RR (T153.setTop (mkF m 99 #[.val (.ref pa), .val (.int (4 : Int32)), .val (.ref b2), .val (.ref b30), .val (.int (2 : Int32)), .val (.int (3 : Int32)), .val (.int (3 : Int32)), .val (.int (0 : Int32))] [(.int (3 : Int32)), (.ref b2), (.int pp3)]))
          obtain ⟨c158, A158, q158, s158, m158, H158, G158⟩ := id f156
          have b158 := inb_of (j := (3 : Int32)) s158 ⟨by decide, by decide⟩
          refine own_st (fun _ k => X153.iaload hx (j := (3 : Int32)) (v := (.int pp0)) (by rw [e153]; exact A158.1) (State.isArrayOf_alike hZ.alike A158.2.1) A158.2.2 b158 (Has.at H158 b158 rfl) (g := (mkF m 99 #[.val (.ref pa), .val (.int (4 : Int32)), .val (.ref b2), .val (.ref b30), .val (.int (2 : Int32)), .val (.int (3 : Int32)), .val (.int (3 : Int32)), .val (.int (0 : Int32))] [(.int (3 : Int32)), (.ref b2), (.int pp3)])) rfl rfl (hb hby own_dprog_30_method_7_code_99) _ k) ?_
          show own_Go p.tables e below RR (T153.setTop (mkF m 100 #[.val (.ref pa), .val (.int (4 : Int32)), .val (.ref b2), .val (.ref b30), .val (.int (2 : Int32)), .val (.int (3 : Int32)), .val (.int (3 : Int32)), .val (.int (0 : Int32))] [(.int pp0), (.int pp3)]))
          by_cases hc100_159 : pp3 = pp0
          · refine own_st (fun _ k => XS.icmpNo X153.here hx rfl (hb hby own_dprog_30_method_7_code_100) rfl (teq hc100_159).2 (XS.iinc X153.here hx rfl (hb hby own_dprog_30_method_7_code_103) rfl (l' := #[.val (.ref pa), .val (.int (4 : Int32)), .val (.ref b2), .val (.ref b30), .val (.int (2 : Int32)), .val (.int (3 : Int32)), .val (.int (3 : Int32)), .val (.int (1 : Int32))]) rfl (XS.goto X153.here hx rfl (pc0 := 106) (pc' := 80) rfl (hb hby own_dprog_30_method_7_code_106) (by decide) (by decide) (XS.iload X153.here hx rfl (hb hby own_dprog_30_method_7_code_80) rfl (XS.iload X153.here hx rfl (hb hby own_dprog_30_method_7_code_82) rfl (XS.iadd X153.here hx rfl (hb hby own_dprog_30_method_7_code_84) rfl (XS.iloadN X153.here hx rfl (hb hby own_dprog_30_method_7_code_85) rfl k))))))) ?_
            show own_Go p.tables e below RR (T153.setTop (mkF m 86 #[.val (.ref pa), .val (.int (4 : Int32)), .val (.ref b2), .val (.ref b30), .val (.int (2 : Int32)), .val (.int (3 : Int32)), .val (.int (3 : Int32)), .val (.int (1 : Int32))] [(.int (4 : Int32)), (.int (4 : Int32))]))
            refine own_st (fun _ k => XS.icmpYes X153.here hx rfl (pc0 := 86) (pc' := 109) rfl (hb hby own_dprog_30_method_7_code_86) rfl (flt (by decide)).2.1 (by decide) (by decide) (XS.aloadN X153.here hx rfl (hb hby own_dprog_30_method_7_code_109) rfl rfl (XS.iload X153.here hx rfl (hb hby own_dprog_30_method_7_code_110) rfl (XS.iload X153.here hx rfl (hb hby own_dprog_30_method_7_code_112) rfl k)))) ?_
            show own_Go p.tables e below RR (T153.setTop (mkF m 114 #[.val (.ref pa), .val (.int (4 : Int32)), .val (.ref b2), .val (.ref b30), .val (.int (2 : Int32)), .val (.int (3 : Int32)), .val (.int (3 : Int32)), .val (.int (1 : Int32))] [(.int (1 : Int32)), (.int (3 : Int32)), (.ref b30)]))
            obtain ⟨c160, A160, q160, s160, m160, H160, G160⟩ := id V153
            obtain ⟨T161, h161, X161, e161, W161, st161⟩ := stI X153 hx hZ e153 A160 (j := (3 : Int32)) (inb_of s160 ⟨by decide, by decide⟩) (g := (mkF m 114 #[.val (.ref pa), .val (.int (4 : Int32)), .val (.ref b2), .val (.ref b30), .val (.int (2 : Int32)), .val (.int (3 : Int32)), .val (.int (3 : Int32)), .val (.int (1 : Int32))] [(.int (1 : Int32)), (.int (3 : Int32)), (.ref b30)])) rfl rfl (hb hby own_dprog_30_method_7_code_114)
            have V161 := Arv.set A160 q160 s160 m160 H160 G160 rfl W161 3 rfl (Nat.le_of_ble_eq_true rfl)
            have V161 : Arv Z h161 b30 k30 .int (4 : Int32) [(.int (4 : Int32)), (.int (1 : Int32)), (.int (1 : Int32)), (.int (1 : Int32))] (.int (0 : Int32)) := V161
            have N161 := Fr.snoc X161 N153 ge30
            refine own_st st161 ?_
            have z162 : n0 ≤ h161.size := Nat.le_trans z154 (Keep.of_wr W161).1
            have kk163 : Keep h0 h161 [] := kk155.wr W161 (Or.inr sz30)
            show own_Go p.tables e below RR (T161.setTop (mkF m 115 #[.val (.ref pa), .val (.int (4 : Int32)), .val (.ref b2), .val (.ref b30), .val (.int (2 : Int32)), .val (.int (3 : Int32)), .val (.int (3 : Int32)), .val (.int (1 : Int32))] []))
            refine own_st (fun _ k => XS.iload X161.here hx rfl (hb hby own_dprog_30_method_7_code_115) rfl (XS.iload X161.here hx rfl (hb hby own_dprog_30_method_7_code_117) rfl (XS.iadd X161.here hx rfl (hb hby own_dprog_30_method_7_code_119) rfl (XS.iload X161.here hx rfl (hb hby own_dprog_30_method_7_code_120) rfl k)))) ?_
            show own_Go p.tables e below RR (T161.setTop (mkF m 122 #[.val (.ref pa), .val (.int (4 : Int32)), .val (.ref b2), .val (.ref b30), .val (.int (2 : Int32)), .val (.int (3 : Int32)), .val (.int (3 : Int32)), .val (.int (1 : Int32))] [(.int (3 : Int32)), (.int (4 : Int32))]))
            refine own_st (fun _ k => XS.icmpNo X161.here hx rfl (hb hby own_dprog_30_method_7_code_122) rfl (tlt (by decide)).2.2.2 (XS.iload X161.here hx rfl (hb hby own_dprog_30_method_7_code_125) rfl (XS.istore X161.here hx rfl (hb hby own_dprog_30_method_7_code_127) rfl (l' := #[.val (.ref pa), .val (.int (4 : Int32)), .val (.ref b2), .val (.ref b30), .val (.int (3 : Int32)), .val (.int (3 : Int32)), .val (.int (3 : Int32)), .val (.int (1 : Int32))]) rfl (XS.iload X161.here hx rfl (hb hby own_dprog_30_method_7_code_129) rfl (XS.iload X161.here hx rfl (hb hby own_dprog_30_method_7_code_131) rfl (XS.iadd X161.here hx rfl (hb hby own_dprog_30_method_7_code_133) rfl (XS.istore X161.here hx rfl (hb hby own_dprog_30_method_7_code_134) rfl (l' := #[.val (.ref pa), .val (.int (4 : Int32)), .val (.ref b2), .val (.ref b30), .val (.int (3 : Int32)), .val (.int (4 : Int32)), .val (.int (3 : Int32)), .val (.int (1 : Int32))]) rfl (XS.iinc X161.here hx rfl (hb hby own_dprog_30_method_7_code_136) rfl (l' := #[.val (.ref pa), .val (.int (4 : Int32)), .val (.ref b2), .val (.ref b30), .val (.int (3 : Int32)), .val (.int (4 : Int32)), .val (.int (4 : Int32)), .val (.int (1 : Int32))]) rfl k)))))))) ?_
            show own_Go p.tables e below RR (T161.setTop (mkF m 139 #[.val (.ref pa), .val (.int (4 : Int32)), .val (.ref b2), .val (.ref b30), .val (.int (3 : Int32)), .val (.int (4 : Int32)), .val (.int (4 : Int32)), .val (.int (1 : Int32))] []))
            refine own_st (fun _ k => XS.goto X161.here hx rfl (pc0 := 139) (pc' := 47) rfl (hb hby own_dprog_30_method_7_code_139) (by decide) (by decide) (XS.iload X161.here hx rfl (hb hby own_dprog_30_method_7_code_47) rfl (XS.iloadN X161.here hx rfl (hb hby own_dprog_30_method_7_code_49) rfl k))) ?_
            show own_Go p.tables e below RR (T161.setTop (mkF m 50 #[.val (.ref pa), .val (.int (4 : Int32)), .val (.ref b2), .val (.ref b30), .val (.int (3 : Int32)), .val (.int (4 : Int32)), .val (.int (4 : Int32)), .val (.int (1 : Int32))] [(.int (4 : Int32)), (.int (4 : Int32))]))
            refine own_st (fun _ k => XS.icmpYes X161.here hx rfl (pc0 := 50) (pc' := 142) rfl (hb hby own_dprog_30_method_7_code_50) rfl (flt (by decide)).2.1 (by decide) (by decide) k) ?_
            show own_Go p.tables e below RR (T161.setTop (mkF m 142 #[.val (.ref pa), .val (.int (4 : Int32)), .val (.ref b2), .val (.ref b30), .val (.int (3 : Int32)), .val (.int (4 : Int32)), .val (.int (4 : Int32)), .val (.int (1 : Int32))] []))
            exact jnh37 T161 _ h161 (3 : Int32) (4 : Int32) (1 : Int32) (4 : Int32) (1 : Int32) (1 : Int32) (1 : Int32) X161 e161 N161 ((((Keep.refl _ _).wr W132 (Or.inl (List.mem_of_getElem? (i := 0) rfl))).wr W153 (Or.inl (List.mem_of_getElem? (i := 0) rfl))).wr W161 (Or.inl (List.mem_of_getElem? (i := 0) rfl))) V161 (by decide) (by decide) (by decide) (by decide)
          · refine own_st (fun _ k => XS.icmpYes X153.here hx rfl (pc0 := 100) (pc' := 109) rfl (hb hby own_dprog_30_method_7_code_100) rfl (feq hc100_159).2 (by decide) (by decide) (XS.aloadN X153.here hx rfl (hb hby own_dprog_30_method_7_code_109) rfl rfl (XS.iload X153.here hx rfl (hb hby own_dprog_30_method_7_code_110) rfl (XS.iload X153.here hx rfl (hb hby own_dprog_30_method_7_code_112) rfl k)))) ?_
            show own_Go p.tables e below RR (T153.setTop (mkF m 114 #[.val (.ref pa), .val (.int (4 : Int32)), .val (.ref b2), .val (.ref b30), .val (.int (2 : Int32)), .val (.int (3 : Int32)), .val (.int (3 : Int32)), .val (.int (0 : Int32))] [(.int (0 : Int32)), (.int (3 : Int32)), (.ref b30)]))
            obtain ⟨c164, A164, q164, s164, m164, H164, G164⟩ := id V153
            obtain ⟨T165, h165, X165, e165, W165, st165⟩ := stI X153 hx hZ e153 A164 (j := (3 : Int32)) (inb_of s164 ⟨by decide, by decide⟩) (g := (mkF m 114 #[.val (.ref pa), .val (.int (4 : Int32)), .val (.ref b2), .val (.ref b30), .val (.int (2 : Int32)), .val (.int (3 : Int32)), .val (.int (3 : Int32)), .val (.int (0 : Int32))] [(.int (0 : Int32)), (.int (3 : Int32)), (.ref b30)])) rfl rfl (hb hby own_dprog_30_method_7_code_114)
            have V165 := Arv.set A164 q164 s164 m164 H164 G164 rfl W165 3 rfl (Nat.le_of_ble_eq_true rfl)
            have V165 : Arv Z h165 b30 k30 .int (4 : Int32) [(.int (4 : Int32)), (.int (1 : Int32)), (.int (1 : Int32)), (.int (0 : Int32))] (.int (0 : Int32)) := V165
            have N165 := Fr.snoc X165 N153 ge30
            refine own_st st165 ?_
            have z166 : n0 ≤ h165.size := Nat.le_trans z154 (Keep.of_wr W165).1
            have kk167 : Keep h0 h165 [] := kk155.wr W165 (Or.inr sz30)
            show own_Go p.tables e below RR (T165.setTop (mkF m 115 #[.val (.ref pa), .val (.int (4 : Int32)), .val (.ref b2), .val (.ref b30), .val (.int (2 : Int32)), .val (.int (3 : Int32)), .val (.int (3 : Int32)), .val (.int (0 : Int32))] []))
            refine own_st (fun _ k => XS.iload X165.here hx rfl (hb hby own_dprog_30_method_7_code_115) rfl (XS.iload X165.here hx rfl (hb hby own_dprog_30_method_7_code_117) rfl (XS.iadd X165.here hx rfl (hb hby own_dprog_30_method_7_code_119) rfl (XS.iload X165.here hx rfl (hb hby own_dprog_30_method_7_code_120) rfl k)))) ?_
            show own_Go p.tables e below RR (T165.setTop (mkF m 122 #[.val (.ref pa), .val (.int (4 : Int32)), .val (.ref b2), .val (.ref b30), .val (.int (2 : Int32)), .val (.int (3 : Int32)), .val (.int (3 : Int32)), .val (.int (0 : Int32))] [(.int (3 : Int32)), (.int (3 : Int32))]))
            refine own_st (fun _ k => XS.icmpYes X165.here hx rfl (pc0 := 122) (pc' := 136) rfl (hb hby own_dprog_30_method_7_code_122) rfl (flt (by decide)).2.2.2 (by decide) (by decide) (XS.iinc X165.here hx rfl (hb hby own_dprog_30_method_7_code_136) rfl (l' := #[.val (.ref pa), .val (.int (4 : Int32)), .val (.ref b2), .val (.ref b30), .val (.int (2 : Int32)), .val (.int (3 : Int32)), .val (.int (4 : Int32)), .val (.int (0 : Int32))]) rfl (XS.goto X165.here hx rfl (pc0 := 139) (pc' := 47) rfl (hb hby own_dprog_30_method_7_code_139) (by decide) (by decide) (XS.iload X165.here hx rfl (hb hby own_dprog_30_method_7_code_47) rfl (XS.iloadN X165.here hx rfl (hb hby own_dprog_30_method_7_code_49) rfl k))))) ?_
            show own_Go p.tables e below RR (T165.setTop (mkF m 50 #[.val (.ref pa), .val (.int (4 : Int32)), .val (.ref b2), .val (.ref b30), .val (.int (2 : Int32)), .val (.int (3 : Int32)), .val (.int (4 : Int32)), .val (.int (0 : Int32))] [(.int (4 : Int32)), (.int (4 : Int32))]))
            refine own_st (fun _ k => XS.icmpYes X165.here hx rfl (pc0 := 50) (pc' := 142) rfl (hb hby own_dprog_30_method_7_code_50) rfl (flt (by decide)).2.1 (by decide) (by decide) k) ?_
            show own_Go p.tables e below RR (T165.setTop (mkF m 142 #[.val (.ref pa), .val (.int (4 : Int32)), .val (.ref b2), .val (.ref b30), .val (.int (2 : Int32)), .val (.int (3 : Int32)), .val (.int (4 : Int32)), .val (.int (0 : Int32))] []))
            exact jnh37 T165 _ h165 (2 : Int32) (3 : Int32) (0 : Int32) (4 : Int32) (1 : Int32) (1 : Int32) (0 : Int32) X165 e165 N165 ((((Keep.refl _ _).wr W132 (Or.inl (List.mem_of_getElem? (i := 0) rfl))).wr W153 (Or.inl (List.mem_of_getElem? (i := 0) rfl))).wr W165 (Or.inl (List.mem_of_getElem? (i := 0) rfl))) V165 (by decide) (by decide) (by decide) (by decide)
      · refine own_st (fun _ k => XS.icmpYes X132.here hx rfl (pc0 := 100) (pc' := 109) rfl (hb hby own_dprog_30_method_7_code_100) rfl (feq hc100_138).2 (by decide) (by decide) (XS.aloadN X132.here hx rfl (hb hby own_dprog_30_method_7_code_109) rfl rfl (XS.iload X132.here hx rfl (hb hby own_dprog_30_method_7_code_110) rfl (XS.iload X132.here hx rfl (hb hby own_dprog_30_method_7_code_112) rfl k)))) ?_
        show own_Go p.tables e below RR (T132.setTop (mkF m 114 #[.val (.ref pa), .val (.int (4 : Int32)), .val (.ref b2), .val (.ref b30), .val (.int (1 : Int32)), .val (.int (2 : Int32)), .val (.int (2 : Int32)), .val (.int (0 : Int32))] [(.int (0 : Int32)), (.int (2 : Int32)), (.ref b30)]))
        obtain ⟨c168, A168, q168, s168, m168, H168, G168⟩ := id V132
        obtain ⟨T169, h169, X169, e169, W169, st169⟩ := stI X132 hx hZ e132 A168 (j := (2 : Int32)) (inb_of s168 ⟨by decide, by decide⟩) (g := (mkF m 114 #[.val (.ref pa), .val (.int (4 : Int32)), .val (.ref b2), .val (.ref b30), .val (.int (1 : Int32)), .val (.int (2 : Int32)), .val (.int (2 : Int32)), .val (.int (0 : Int32))] [(.int (0 : Int32)), (.int (2 : Int32)), (.ref b30)])) rfl rfl (hb hby own_dprog_30_method_7_code_114)
        have V169 := Arv.set A168 q168 s168 m168 H168 G168 rfl W169 2 rfl (Nat.le_of_ble_eq_true rfl)
        have V169 : Arv Z h169 b30 k30 .int (4 : Int32) [(.int (4 : Int32)), (.int (1 : Int32)), (.int (0 : Int32)), (.int (0 : Int32))] (.int (0 : Int32)) := V169
        have N169 := Fr.snoc X169 N132 ge30
        refine own_st st169 ?_
        have z170 : n0 ≤ h169.size := Nat.le_trans z133 (Keep.of_wr W169).1
        have kk171 : Keep h0 h169 [] := kk134.wr W169 (Or.inr sz30)
        show own_Go p.tables e below RR (T169.setTop (mkF m 115 #[.val (.ref pa), .val (.int (4 : Int32)), .val (.ref b2), .val (.ref b30), .val (.int (1 : Int32)), .val (.int (2 : Int32)), .val (.int (2 : Int32)), .val (.int (0 : Int32))] []))
        refine own_st (fun _ k => XS.iload X169.here hx rfl (hb hby own_dprog_30_method_7_code_115) rfl (XS.iload X169.here hx rfl (hb hby own_dprog_30_method_7_code_117) rfl (XS.iadd X169.here hx rfl (hb hby own_dprog_30_method_7_code_119) rfl (XS.iload X169.here hx rfl (hb hby own_dprog_30_method_7_code_120) rfl k)))) ?_
        show own_Go p.tables e below RR (T169.setTop (mkF m 122 #[.val (.ref pa), .val (.int (4 : Int32)), .val (.ref b2), .val (.ref b30), .val (.int (1 : Int32)), .val (.int (2 : Int32)), .val (.int (2 : Int32)), .val (.int (0 : Int32))] [(.int (2 : Int32)), (.int (2 : Int32))]))
        refine own_st (fun _ k => XS.icmpYes X169.here hx rfl (pc0 := 122) (pc' := 136) rfl (hb hby own_dprog_30_method_7_code_122) rfl (flt (by decide)).2.2.2 (by decide) (by decide) (XS.iinc X169.here hx rfl (hb hby own_dprog_30_method_7_code_136) rfl (l' := #[.val (.ref pa), .val (.int (4 : Int32)), .val (.ref b2), .val (.ref b30), .val (.int (1 : Int32)), .val (.int (2 : Int32)), .val (.int (3 : Int32)), .val (.int (0 : Int32))]) rfl (XS.goto X169.here hx rfl (pc0 := 139) (pc' := 47) rfl (hb hby own_dprog_30_method_7_code_139) (by decide) (by decide) (XS.iload X169.here hx rfl (hb hby own_dprog_30_method_7_code_47) rfl (XS.iloadN X169.here hx rfl (hb hby own_dprog_30_method_7_code_49) rfl k))))) ?_
        show own_Go p.tables e below RR (T169.setTop (mkF m 50 #[.val (.ref pa), .val (.int (4 : Int32)), .val (.ref b2), .val (.ref b30), .val (.int (1 : Int32)), .val (.int (2 : Int32)), .val (.int (3 : Int32)), .val (.int (0 : Int32))] [(.int (4 : Int32)), (.int (3 : Int32))]))
        refine own_st (fun _ k => XS.icmpNo X169.here hx rfl (hb hby own_dprog_30_method_7_code_50) rfl (tlt (by decide)).2.1 (XS.iconst X169.here hx rfl (hb hby own_dprog_30_method_7_code_53) (XS.istore X169.here hx rfl (hb hby own_dprog_30_method_7_code_54) rfl (l' := #[.val (.ref pa), .val (.int (4 : Int32)), .val (.ref b2), .val (.ref b30), .val (.int (1 : Int32)), .val (.int (2 : Int32)), .val (.int (3 : Int32)), .val (.int (0 : Int32))]) rfl (XS.iload X169.here hx rfl (hb hby own_dprog_30_method_7_code_56) rfl (XS.iload X169.here hx rfl (hb hby own_dprog_30_method_7_code_58) rfl k))))) ?_
        show own_Go p.tables e below RR (T169.setTop (mkF m 60 #[.val (.ref pa), .val (.int (4 : Int32)), .val (.ref b2), .val (.ref b30), .val (.int (1 : Int32)), .val (.int (2 : Int32)), .val (.int (3 : Int32)), .val (.int (0 : Int32))] [(.int (2 : Int32)), (.int (3 : Int32))]))
        refine own_st (fun _ k => XS.icmpYes X169.here hx rfl (pc0 := 60) (pc' := 80) rfl (hb hby own_dprog_30_method_7_code_60) rfl (flt (by decide)).2.1 (by decide) (by decide) (XS.iload X169.here hx rfl (hb hby own_dprog_30_method_7_code_80) rfl (XS.iload X169.here hx rfl (hb hby own_dprog_30_method_7_code_82) rfl (XS.iadd X169.here hx rfl (hb hby own_dprog_30_method_7_code_84) rfl (XS.iloadN X169.here hx rfl (hb hby own_dprog_30_method_7_code_85) rfl k))))) ?_
        show own_Go p.tables e below RR (T169.setTop (mkF m 86 #[.val (.ref pa), .val (.int (4 : Int32)), .val (.ref b2), .val (.ref b30), .val (.int (1 : Int32)), .val (.int (2 : Int32)), .val (.int (3 : Int32)), .val (.int (0 : Int32))] [(.int (4 : Int32)), (.int (3 : Int32))]))
        refine own_st (fun _ k => XS.icmpNo X169.here hx rfl (hb hby own_dprog_30_method_7_code_86) rfl (tlt (by decide)).2.1 (XS.aloadN X169.here hx rfl (hb hby own_dprog_30_method_7_code_89) rfl rfl (XS.iload X169.here hx rfl (hb hby own_dprog_30_method_7_code_90) rfl k))) ?_
        show own_Go p.tables e below RR (T169.setTop (mkF m 92 #[.val (.ref pa), .val (.int (4 : Int32)), .val (.ref b2), .val (.ref b30), .val (.int (1 : Int32)), .val (.int (2 : Int32)), .val (.int (3 : Int32)), .val (.int (0 : Int32))] [(.int (0 : Int32)), (.ref b2)]))
        have f172 := (f135.other W169 ne68)
        obtain ⟨c173, A173, q173, s173, m173, H173, G173⟩ := id f172
        have b173 := inb_of (j := (0 : Int32)) s173 ⟨by decide, by decide⟩
        refine own_st (fun _ k => X169.iaload hx (j := (0 : Int32)) (v := (.int pp3)) (by rw [e169]; exact A173.1) (State.isArrayOf_alike hZ.alike A173.2.1) A173.2.2 b173 (Has.at H173 b173 rfl) (g := (mkF m 92 #[.val (.ref pa), .val (.int (4 : Int32)), .val (.ref b2), .val (.ref b30), .val (.int (1 : Int32)), .val (.int (2 : Int32)), .val (.int (3 : Int32)), .val (.int (0 : Int32))] [(.int (0 : Int32)), (.ref b2)])) rfl rfl (hb hby own_dprog_30_method_7_code_92) _ (XS.aloadN X169.here hx rfl (hb hby own_dprog_30_method_7_code_93) rfl rfl (XS.iload X169.here hx rfl (hb hby own_dprog_30_method_7_code_94) rfl (XS.iload X169.here hx rfl (hb hby own_dprog_30_method_7_code_96) rfl (XS.iadd X169.here hx rfl (hb hby own_dprog_30_method_7_code_98) rfl k))))) ?_
        show own_Go p.tables e below RR (T169.setTop (mkF m 99 #[.val (.ref pa), .val (.int (4 : Int32)), .val (.ref b2), .val (.ref b30), .val (.int (1 : Int32)), .val (.int (2 : Int32)), .val (.int (3 : Int32)), .val (.int (0 : Int32))] [(.int (3 : Int32)), (.ref b2), (.int pp3)]))
        obtain ⟨c174, A174, q174, s174, m174, H174, G174⟩ := id f172
        have b174 := inb_of (j := (3 : Int32)) s174 ⟨by decide, by decide⟩
        refine own_st (fun _ k => X169.iaload hx (j := (3 : Int32)) (v := (.int pp0)) (by rw [e169]; exact A174.1) (State.isArrayOf_alike hZ.alike A174.2.1) A174.2.2 b174 (Has.at H174 b174 rfl) (g := (mkF m 99 #[.val (.ref pa), .val (.int (4 : Int32)), .val (.ref b2), .val (.ref b30), .val (.int (1 : Int32)), .val (.int (2 : Int32)), .val (.int (3 : Int32)), .val (.int (0 : Int32))] [(.int (3 : Int32)), (.ref b2), (.int pp3)])) rfl rfl (hb hby own_dprog_30_method_7_code_99) _ k) ?_
        show own_Go p.tables e below RR (T169.setTop (mkF m 100 #[.val (.ref pa), .val (.int (4 : Int32)), .val (.ref b2), .val (.ref b30), .val (.int (1 : Int32)), .val (.int (2 : Int32)), .val (.int (3 : Int32)), .val (.int (0 : Int32))] [(.int pp0), (.int pp3)]))
        by_cases hc100_175 : pp3 = pp0
        · refine own_st (fun _ k => XS.icmpNo X169.here hx rfl (hb hby own_dprog_30_method_7_code_100) rfl (teq hc100_175).2 (XS.iinc X169.here hx rfl (hb hby own_dprog_30_method_7_code_103) rfl (l' := #[.val (.ref pa), .val (.int (4 : Int32)), .val (.ref b2), .val (.ref b30), .val (.int (1 : Int32)), .val (.int (2 : Int32)), .val (.int (3 : Int32)), .val (.int (1 : Int32))]) rfl (XS.goto X169.here hx rfl (pc0 := 106) (pc' := 80) rfl (hb hby own_dprog_30_method_7_code_106) (by decide) (by decide) (XS.iload X169.here hx rfl (hb hby own_dprog_30_method_7_code_80) rfl (XS.iload X169.here hx rfl (hb hby own_dprog_30_method_7_code_82) rfl (XS.iadd X169.here hx rfl (hb hby own_dprog_30_method_7_code_84) rfl (XS.iloadN X169.here hx rfl (hb hby own_dprog_30_method_7_code_85) rfl k))))))) ?_
          show own_Go p.tables e below RR (T169.setTop (mkF m 86 #[.val (.ref pa), .val (.int (4 : Int32)), .val (.ref b2), .val (.ref b30), .val (.int (1 : Int32)), .val (.int (2 : Int32)), .val (.int (3 : Int32)), .val (.int (1 : Int32))] [(.int (4 : Int32)), (.int (4 : Int32))]))
          refine own_st (fun _ k => XS.icmpYes X169.here hx rfl (pc0 := 86) (pc' := 109) rfl (hb hby own_dprog_30_method_7_code_86) rfl (flt (by decide)).2.1 (by decide) (by decide) (XS.aloadN X169.here hx rfl (hb hby own_dprog_30_method_7_code_109) rfl rfl (XS.iload X169.here hx rfl (hb hby own_dprog_30_method_7_code_110) rfl (XS.iload X169.here hx rfl (hb hby own_dprog_30_method_7_code_112) rfl k)))) ?_
          show own_Go p.tables e below RR (T169.setTop (mkF m 114 #[.val (.ref pa), .val (.int (4 : Int32)), .val (.ref b2), .val (.ref b30), .val (.int (1 : Int32)), .val (.int (2 : Int32)), .val (.int (3 : Int32)), .val (.int (1 : Int32))] [(.int (1 : Int32)), (.int (3 : Int32)), (.ref b30)]))
          obtain ⟨c176, A176, q176, s176, m176, H176, G176⟩ := id V169
          obtain ⟨T177, h177, X177, e177, W177, st177⟩ := stI X169 hx hZ e169 A176 (j := (3 : Int32)) (inb_of s176 ⟨by decide, by decide⟩) (g := (mkF m 114 #[.val (.ref pa), .val (.int (4 : Int32)), .val (.ref b2), .val (.ref b30), .val (.int (1 : Int32)), .val (.int (2 : Int32)), .val (.int (3 : Int32)), .val (.int (1 : Int32))] [(.int (1 : Int32)), (.int (3 : Int32)), (.ref b30)])) rfl rfl (hb hby own_dprog_30_method_7_code_114)
          have V177 := Arv.set A176 q176 s176 m176 H176 G176 rfl W177 3 rfl (Nat.le_of_ble_eq_true rfl)
          have V177 : Arv Z h177 b30 k30 .int (4 : Int32) [(.int (4 : Int32)), (.int (1 : Int32)), (.int (0 : Int32)), (.int (1 : Int32))] (.int (0 : Int32)) := V177
          have N177 := Fr.snoc X177 N169 ge30
          refine own_st st177 ?_
          have z178 : n0 ≤ h177.size := Nat.le_trans z170 (Keep.of_wr W177).1
          have kk179 : Keep h0 h177 [] := kk171.wr W177 (Or.inr sz30)
          show own_Go p.tables e below RR (T177.setTop (mkF m 115 #[.val (.ref pa), .val (.int (4 : Int32)), .val (.ref b2), .val (.ref b30), .val (.int (1 : Int32)), .val (.int (2 : Int32)), .val (.int (3 : Int32)), .val (.int (1 : Int32))] []))
          refine own_st (fun _ k => XS.iload X177.here hx rfl (hb hby own_dprog_30_method_7_code_115) rfl (XS.iload X177.here hx rfl (hb hby own_dprog_30_method_7_code_117) rfl (XS.iadd X177.here hx rfl (hb hby own_dprog_30_method_7_code_119) rfl (XS.iload X177.here hx rfl (hb hby own_dprog_30_method_7_code_120) rfl k)))) ?_
          show own_Go p.tables e below RR (T177.setTop (mkF m 122 #[.val (.ref pa), .val (.int (4 : Int32)), .val (.ref b2), .val (.ref b30), .val (.int (1 : Int32)), .val (.int (2 : Int32)), .val (.int (3 : Int32)), .val (.int (1 : Int32))] [(.int (2 : Int32)), (.int (4 : Int32))]))
          refine own_st (fun _ k => XS.icmpNo X177.here hx rfl (hb hby own_dprog_30_method_7_code_122) rfl (tlt (by decide)).2.2.2 (XS.iload X177.here hx rfl (hb hby own_dprog_30_method_7_code_125) rfl (XS.istore X177.here hx rfl (hb hby own_dprog_30_method_7_code_127) rfl (l' := #[.val (.ref pa), .val (.int (4 : Int32)), .val (.ref b2), .val (.ref b30), .val (.int (3 : Int32)), .val (.int (2 : Int32)), .val (.int (3 : Int32)), .val (.int (1 : Int32))]) rfl (XS.iload X177.here hx rfl (hb hby own_dprog_30_method_7_code_129) rfl (XS.iload X177.here hx rfl (hb hby own_dprog_30_method_7_code_131) rfl (XS.iadd X177.here hx rfl (hb hby own_dprog_30_method_7_code_133) rfl (XS.istore X177.here hx rfl (hb hby own_dprog_30_method_7_code_134) rfl (l' := #[.val (.ref pa), .val (.int (4 : Int32)), .val (.ref b2), .val (.ref b30), .val (.int (3 : Int32)), .val (.int (4 : Int32)), .val (.int (3 : Int32)), .val (.int (1 : Int32))]) rfl (XS.iinc X177.here hx rfl (hb hby own_dprog_30_method_7_code_136) rfl (l' := #[.val (.ref pa), .val (.int (4 : Int32)), .val (.ref b2), .val (.ref b30), .val (.int (3 : Int32)), .val (.int (4 : Int32)), .val (.int (4 : Int32)), .val (.int (1 : Int32))]) rfl k)))))))) ?_
          show own_Go p.tables e below RR (T177.setTop (mkF m 139 #[.val (.ref pa), .val (.int (4 : Int32)), .val (.ref b2), .val (.ref b30), .val (.int (3 : Int32)), .val (.int (4 : Int32)), .val (.int (4 : Int32)), .val (.int (1 : Int32))] []))
          refine own_st (fun _ k => XS.goto X177.here hx rfl (pc0 := 139) (pc' := 47) rfl (hb hby own_dprog_30_method_7_code_139) (by decide) (by decide) (XS.iload X177.here hx rfl (hb hby own_dprog_30_method_7_code_47) rfl (XS.iloadN X177.here hx rfl (hb hby own_dprog_30_method_7_code_49) rfl k))) ?_
          show own_Go p.tables e below RR (T177.setTop (mkF m 50 #[.val (.ref pa), .val (.int (4 : Int32)), .val (.ref b2), .val (.ref b30), .val (.int (3 : Int32)), .val (.int (4 : Int32)), .val (.int (4 : Int32)), .val (.int (1 : Int32))] [(.int (4 : Int32)), (.int (4 : Int32))]))
          refine own_st (fun _ k => XS.icmpYes X177.here hx rfl (pc0 := 50) (pc' := 142) rfl (hb hby own_dprog_30_method_7_code_50) rfl (flt (by decide)).2.1 (by decide) (by decide) k) ?_
          show own_Go p.tables e below RR (T177.setTop (mkF m 142 #[.val (.ref pa), .val (.int (4 : Int32)), .val (.ref b2), .val (.ref b30), .val (.int (3 : Int32)), .val (.int (4 : Int32)), .val (.int (4 : Int32)), .val (.int (1 : Int32))] []))
          exact jnh37 T177 _ h177 (3 : Int32) (4 : Int32) (1 : Int32) (4 : Int32) (1 : Int32) (0 : Int32) (1 : Int32) X177 e177 N177 ((((Keep.refl _ _).wr W132 (Or.inl (List.mem_of_getElem? (i := 0) rfl))).wr W169 (Or.inl (List.mem_of_getElem? (i := 0) rfl))).wr W177 (Or.inl (List.mem_of_getElem? (i := 0) rfl))) V177 (by decide) (by decide) (by decide) (by decide)
        · refine own_st (fun _ k => XS.icmpYes X169.here hx rfl (pc0 := 100) (pc' := 109) rfl (hb hby own_dprog_30_method_7_code_100) rfl (feq hc100_175).2 (by decide) (by decide) (XS.aloadN X169.here hx rfl (hb hby own_dprog_30_method_7_code_109) rfl rfl (XS.iload X169.here hx rfl (hb hby own_dprog_30_method_7_code_110) rfl (XS.iload X169.here hx rfl (hb hby own_dprog_30_method_7_code_112) rfl k)))) ?_
          show own_Go p.tables e below RR (T169.setTop (mkF m 114 #[.val (.ref pa), .val (.int (4 : Int32)), .val (.ref b2), .val (.ref b30), .val (.int (1 : Int32)), .val (.int (2 : Int32)), .val (.int (3 : Int32)), .val (.int (0 : Int32))] [(.int (0 : Int32)), (.int (3 : Int32)), (.ref b30)]))
          obtain ⟨c180, A180, q180, s180, m180, H180, G180⟩ := id V169
          obtain ⟨T181, h181, X181, e181, W181, st181⟩ := stI X169 hx hZ e169 A180 (j := (3 : Int32)) (inb_of s180 ⟨by decide, by decide⟩) (g := (mkF m 114 #[.val (.ref pa), .val (.int (4 : Int32)), .val (.ref b2), .val (.ref b30), .val (.int (1 : Int32)), .val (.int (2 : Int32)), .val (.int (3 : Int32)), .val (.int (0 : Int32))] [(.int (0 : Int32)), (.int (3 : Int32)), (.ref b30)])) rfl rfl (hb hby own_dprog_30_method_7_code_114)
          have V181 := Arv.set A180 q180 s180 m180 H180 G180 rfl W181 3 rfl (Nat.le_of_ble_eq_true rfl)
          have V181 : Arv Z h181 b30 k30 .int (4 : Int32) [(.int (4 : Int32)), (.int (1 : Int32)), (.int (0 : Int32)), (.int (0 : Int32))] (.int (0 : Int32)) := V181
          have N181 := Fr.snoc X181 N169 ge30
          refine own_st st181 ?_
          have z182 : n0 ≤ h181.size := Nat.le_trans z170 (Keep.of_wr W181).1
          have kk183 : Keep h0 h181 [] := kk171.wr W181 (Or.inr sz30)
          show own_Go p.tables e below RR (T181.setTop (mkF m 115 #[.val (.ref pa), .val (.int (4 : Int32)), .val (.ref b2), .val (.ref b30), .val (.int (1 : Int32)), .val (.int (2 : Int32)), .val (.int (3 : Int32)), .val (.int (0 : Int32))] []))
          refine own_st (fun _ k => XS.iload X181.here hx rfl (hb hby own_dprog_30_method_7_code_115) rfl (XS.iload X181.here hx rfl (hb hby own_dprog_30_method_7_code_117) rfl (XS.iadd X181.here hx rfl (hb hby own_dprog_30_method_7_code_119) rfl (XS.iload X181.here hx rfl (hb hby own_dprog_30_method_7_code_120) rfl k)))) ?_
          show own_Go p.tables e below RR (T181.setTop (mkF m 122 #[.val (.ref pa), .val (.int (4 : Int32)), .val (.ref b2), .val (.ref b30), .val (.int (1 : Int32)), .val (.int (2 : Int32)), .val (.int (3 : Int32)), .val (.int (0 : Int32))] [(.int (2 : Int32)), (.int (3 : Int32))]))
          refine own_st (fun _ k => XS.icmpNo X181.here hx rfl (hb hby own_dprog_30_method_7_code_122) rfl (tlt (by decide)).2.2.2 (XS.iload X181.here hx rfl (hb hby own_dprog_30_method_7_code_125) rfl (XS.istore X181.here hx rfl (hb hby own_dprog_30_method_7_code_127) rfl (l' := #[.val (.ref pa), .val (.int (4 : Int32)), .val (.ref b2), .val (.ref b30), .val (.int (3 : Int32)), .val (.int (2 : Int32)), .val (.int (3 : Int32)), .val (.int (0 : Int32))]) rfl (XS.iload X181.here hx rfl (hb hby own_dprog_30_method_7_code_129) rfl (XS.iload X181.here hx rfl (hb hby own_dprog_30_method_7_code_131) rfl (XS.iadd X181.here hx rfl (hb hby own_dprog_30_method_7_code_133) rfl (XS.istore X181.here hx rfl (hb hby own_dprog_30_method_7_code_134) rfl (l' := #[.val (.ref pa), .val (.int (4 : Int32)), .val (.ref b2), .val (.ref b30), .val (.int (3 : Int32)), .val (.int (3 : Int32)), .val (.int (3 : Int32)), .val (.int (0 : Int32))]) rfl (XS.iinc X181.here hx rfl (hb hby own_dprog_30_method_7_code_136) rfl (l' := #[.val (.ref pa), .val (.int (4 : Int32)), .val (.ref b2), .val (.ref b30), .val (.int (3 : Int32)), .val (.int (3 : Int32)), .val (.int (4 : Int32)), .val (.int (0 : Int32))]) rfl k)))))))) ?_
          show own_Go p.tables e below RR (T181.setTop (mkF m 139 #[.val (.ref pa), .val (.int (4 : Int32)), .val (.ref b2), .val (.ref b30), .val (.int (3 : Int32)), .val (.int (3 : Int32)), .val (.int (4 : Int32)), .val (.int (0 : Int32))] []))
          refine own_st (fun _ k => XS.goto X181.here hx rfl (pc0 := 139) (pc' := 47) rfl (hb hby own_dprog_30_method_7_code_139) (by decide) (by decide) (XS.iload X181.here hx rfl (hb hby own_dprog_30_method_7_code_47) rfl (XS.iloadN X181.here hx rfl (hb hby own_dprog_30_method_7_code_49) rfl k))) ?_
          show own_Go p.tables e below RR (T181.setTop (mkF m 50 #[.val (.ref pa), .val (.int (4 : Int32)), .val (.ref b2), .val (.ref b30), .val (.int (3 : Int32)), .val (.int (3 : Int32)), .val (.int (4 : Int32)), .val (.int (0 : Int32))] [(.int (4 : Int32)), (.int (4 : Int32))]))
          refine own_st (fun _ k => XS.icmpYes X181.here hx rfl (pc0 := 50) (pc' := 142) rfl (hb hby own_dprog_30_method_7_code_50) rfl (flt (by decide)).2.1 (by decide) (by decide) k) ?_
          show own_Go p.tables e below RR (T181.setTop (mkF m 142 #[.val (.ref pa), .val (.int (4 : Int32)), .val (.ref b2), .val (.ref b30), .val (.int (3 : Int32)), .val (.int (3 : Int32)), .val (.int (4 : Int32)), .val (.int (0 : Int32))] []))
          exact jnh37 T181 _ h181 (3 : Int32) (3 : Int32) (0 : Int32) (4 : Int32) (1 : Int32) (0 : Int32) (0 : Int32) X181 e181 N181 ((((Keep.refl _ _).wr W132 (Or.inl (List.mem_of_getElem? (i := 0) rfl))).wr W169 (Or.inl (List.mem_of_getElem? (i := 0) rfl))).wr W181 (Or.inl (List.mem_of_getElem? (i := 0) rfl))) V181 (by decide) (by decide) (by decide) (by decide)
  · refine own_st (fun _ k => XS.icmpYes X34.here hx rfl (pc0 := 100) (pc' := 109) rfl (hb hby own_dprog_30_method_7_code_100) rfl (feq hc100_72).2 (by decide) (by decide) (XS.aloadN X34.here hx rfl (hb hby own_dprog_30_method_7_code_109) rfl rfl (XS.iload X34.here hx rfl (hb hby own_dprog_30_method_7_code_110) rfl (XS.iload X34.here hx rfl (hb hby own_dprog_30_method_7_code_112) rfl k)))) ?_
    show own_Go p.tables e below RR (T34.setTop (mkF m 114 #[.val (.ref pa), .val (.int (4 : Int32)), .val (.ref b2), .val (.ref b30), .val (.int (0 : Int32)), .val (.int (0 : Int32)), .val (.int (1 : Int32)), .val (.int (0 : Int32))] [(.int (0 : Int32)), (.int (1 : Int32)), (.ref b30)]))
    obtain ⟨c184, A184, q184, s184, m184, H184, G184⟩ := id V34
    obtain ⟨T185, h185, X185, e185, W185, st185⟩ := stI X34 hx hZ e34 A184 (j := (1 : Int32)) (inb_of s184 ⟨by decide, by decide⟩) (g := (mkF m 114 #[.val (.ref pa), .val (.int (4 : Int32)), .val (.ref b2), .val (.ref b30), .val (.int (0 : Int32)), .val (.int (0 : Int32)), .val (.int (1 : Int32)), .val (.int (0 : Int32))] [(.int (0 : Int32)), (.int (1 : Int32)), (.ref b30)])) rfl rfl (hb hby own_dprog_30_method_7_code_114)
    have V185 := Arv.set A184 q184 s184 m184 H184 G184 rfl W185 1 rfl (Nat.le_of_ble_eq_true rfl)
    have V185 : Arv Z h185 b30 k30 .int (4 : Int32) [(.int (4 : Int32)), (.int (0 : Int32)), (.int (0 : Int32)), (.int (0 : Int32))] (.int (0 : Int32)) := V185
    have N185 := Fr.snoc X185 N34 ge30
    refine own_st st185 ?_
    have z186 : n0 ≤ h185.size := Nat.le_trans z35 (Keep.of_wr W185).1
    have kk187 : Keep h0 h185 [] := kk36.wr W185 (Or.inr sz30)
    show own_Go p.tables e below RR (T185.setTop (mkF m 115 #[.val (.ref pa), .val (.int (4 : Int32)), .val (.ref b2), .val (.ref b30), .val (.int (0 : Int32)), .val (.int (0 : Int32)), .val (.int (1 : Int32)), .val (.int (0 : Int32))] []))
    refine own_st (fun _ k => XS.iload X185.here hx rfl (hb hby own_dprog_30_method_7_code_115) rfl (XS.iload X185.here hx rfl (hb hby own_dprog_30_method_7_code_117) rfl (XS.iadd X185.here hx rfl (hb hby own_dprog_30_method_7_code_119) rfl (XS.iload X185.here hx rfl (hb hby own_dprog_30_method_7_code_120) rfl k)))) ?_
    show own_Go p.tables e below RR (T185.setTop (mkF m 122 #[.val (.ref pa), .val (.int (4 : Int32)), .val (.ref b2), .val (.ref b30), .val (.int (0 : Int32)), .val (.int (0 : Int32)), .val (.int (1 : Int32)), .val (.int (0 : Int32))] [(.int (0 : Int32)), (.int (1 : Int32))]))
    refine own_st (fun _ k => XS.icmpNo X185.here hx rfl (hb hby own_dprog_30_method_7_code_122) rfl (tlt (by decide)).2.2.2 (XS.iload X185.here hx rfl (hb hby own_dprog_30_method_7_code_125) rfl (XS.istore X185.here hx rfl (hb hby own_dprog_30_method_7_code_127) rfl (l' := #[.val (.ref pa), .val (.int (4 : Int32)), .val (.ref b2), .val (.ref b30), .val (.int (1 : Int32)), .val (.int (0 : Int32)), .val (.int (1 : Int32)), .val (.int (0 : Int32))]) rfl (XS.iload X185.here hx rfl (hb hby own_dprog_30_method_7_code_129) rfl (XS.iload X185.here hx rfl (hb hby own_dprog_30_method_7_code_131) rfl (XS.iadd X185.here hx rfl (hb hby own_dprog_30_method_7_code_133) rfl (XS.istore X185.here hx rfl (hb hby own_dprog_30_method_7_code_134) rfl (l' := #[.val (.ref pa), .val (.int (4 : Int32)), .val (.ref b2), .val (.ref b30), .val (.int (1 : Int32)), .val (.int (1 : Int32)), .val (.int (1 : Int32)), .val (.int (0 : Int32))]) rfl (XS.iinc X185.here hx rfl (hb hby own_dprog_30_method_7_code_136) rfl (l' := #[.val (.ref pa), .val (.int (4 : Int32)), .val (.ref b2), .val (.ref b30), .val (.int (1 : Int32)), .val (.int (1 : Int32)), .val (.int (2 : Int32)), .val (.int (0 : Int32))]) rfl k)))))))) ?_
    show own_Go p.tables e below RR (T185.setTop (mkF m 139 #[.val (.ref pa), .val (.int (4 : Int32)), .val (.ref b2), .val (.ref b30), .val (.int (1 : Int32)), .val (.int (1 : Int32)), .val (.int (2 : Int32)), .val (.int (0 : Int32))] []))
    refine own_st (fun _ k => XS.goto X185.here hx rfl (pc0 := 139) (pc' := 47) rfl (hb hby own_dprog_30_method_7_code_139) (by decide) (by decide) (XS.iload X185.here hx rfl (hb hby own_dprog_30_method_7_code_47) rfl (XS.iloadN X185.here hx rfl (hb hby own_dprog_30_method_7_code_49) rfl k))) ?_
    show own_Go p.tables e below RR (T185.setTop (mkF m 50 #[.val (.ref pa), .val (.int (4 : Int32)), .val (.ref b2), .val (.ref b30), .val (.int (1 : Int32)), .val (.int (1 : Int32)), .val (.int (2 : Int32)), .val (.int (0 : Int32))] [(.int (4 : Int32)), (.int (2 : Int32))]))
    refine own_st (fun _ k => XS.icmpNo X185.here hx rfl (hb hby own_dprog_30_method_7_code_50) rfl (tlt (by decide)).2.1 (XS.iconst X185.here hx rfl (hb hby own_dprog_30_method_7_code_53) (XS.istore X185.here hx rfl (hb hby own_dprog_30_method_7_code_54) rfl (l' := #[.val (.ref pa), .val (.int (4 : Int32)), .val (.ref b2), .val (.ref b30), .val (.int (1 : Int32)), .val (.int (1 : Int32)), .val (.int (2 : Int32)), .val (.int (0 : Int32))]) rfl (XS.iload X185.here hx rfl (hb hby own_dprog_30_method_7_code_56) rfl (XS.iload X185.here hx rfl (hb hby own_dprog_30_method_7_code_58) rfl k))))) ?_
    show own_Go p.tables e below RR (T185.setTop (mkF m 60 #[.val (.ref pa), .val (.int (4 : Int32)), .val (.ref b2), .val (.ref b30), .val (.int (1 : Int32)), .val (.int (1 : Int32)), .val (.int (2 : Int32)), .val (.int (0 : Int32))] [(.int (1 : Int32)), (.int (2 : Int32))]))
    refine own_st (fun _ k => XS.icmpYes X185.here hx rfl (pc0 := 60) (pc' := 80) rfl (hb hby own_dprog_30_method_7_code_60) rfl (flt (by decide)).2.1 (by decide) (by decide) (XS.iload X185.here hx rfl (hb hby own_dprog_30_method_7_code_80) rfl (XS.iload X185.here hx rfl (hb hby own_dprog_30_method_7_code_82) rfl (XS.iadd X185.here hx rfl (hb hby own_dprog_30_method_7_code_84) rfl (XS.iloadN X185.here hx rfl (hb hby own_dprog_30_method_7_code_85) rfl k))))) ?_
    show own_Go p.tables e below RR (T185.setTop (mkF m 86 #[.val (.ref pa), .val (.int (4 : Int32)), .val (.ref b2), .val (.ref b30), .val (.int (1 : Int32)), .val (.int (1 : Int32)), .val (.int (2 : Int32)), .val (.int (0 : Int32))] [(.int (4 : Int32)), (.int (2 : Int32))]))
    refine own_st (fun _ k => XS.icmpNo X185.here hx rfl (hb hby own_dprog_30_method_7_code_86) rfl (tlt (by decide)).2.1 (XS.aloadN X185.here hx rfl (hb hby own_dprog_30_method_7_code_89) rfl rfl (XS.iload X185.here hx rfl (hb hby own_dprog_30_method_7_code_90) rfl k))) ?_
    show own_Go p.tables e below RR (T185.setTop (mkF m 92 #[.val (.ref pa), .val (.int (4 : Int32)), .val (.ref b2), .val (.ref b30), .val (.int (1 : Int32)), .val (.int (1 : Int32)), .val (.int (2 : Int32)), .val (.int (0 : Int32))] [(.int (0 : Int32)), (.ref b2)]))
    have f188 := (f69.other W185 ne68)
    obtain ⟨c189, A189, q189, s189, m189, H189, G189⟩ := id f188
    have b189 := inb_of (j := (0 : Int32)) s189 ⟨by decide, by decide⟩
    refine own_st (fun _ k => X185.iaload hx (j := (0 : Int32)) (v := (.int pp3)) (by rw [e185]; exact A189.1) (State.isArrayOf_alike hZ.alike A189.2.1) A189.2.2 b189 (Has.at H189 b189 rfl) (g := (mkF m 92 #[.val (.ref pa), .val (.int (4 : Int32)), .val (.ref b2), .val (.ref b30), .val (.int (1 : Int32)), .val (.int (1 : Int32)), .val (.int (2 : Int32)), .val (.int (0 : Int32))] [(.int (0 : Int32)), (.ref b2)])) rfl rfl (hb hby own_dprog_30_method_7_code_92) _ (XS.aloadN X185.here hx rfl (hb hby own_dprog_30_method_7_code_93) rfl rfl (XS.iload X185.here hx rfl (hb hby own_dprog_30_method_7_code_94) rfl (XS.iload X185.here hx rfl (hb hby own_dprog_30_method_7_code_96) rfl (XS.iadd X185.here hx rfl (hb hby own_dprog_30_method_7_code_98) rfl k))))) ?_
    show own_Go p.tables e below RR (T185.setTop (mkF m 99 #[.val (.ref pa), .val (.int (4 : Int32)), .val (.ref b2), .val (.ref b30), .val (.int (1 : Int32)), .val (.int (1 : Int32)), .val (.int (2 : Int32)), .val (.int (0 : Int32))] [(.int (2 : Int32)), (.ref b2), (.int pp3)]))
    obtain ⟨c190, A190, q190, s190, m190, H190, G190⟩ := id f188
    have b190 := inb_of (j := (2 : Int32)) s190 ⟨by decide, by decide⟩
    refine own_st (fun _ k => X185.iaload hx (j := (2 : Int32)) (v := (.int pp1)) (by rw [e185]; exact A190.1) (State.isArrayOf_alike hZ.alike A190.2.1) A190.2.2 b190 (Has.at H190 b190 rfl) (g := (mkF m 99 #[.val (.ref pa), .val (.int (4 : Int32)), .val (.ref b2), .val (.ref b30), .val (.int (1 : Int32)), .val (.int (1 : Int32)), .val (.int (2 : Int32)), .val (.int (0 : Int32))] [(.int (2 : Int32)), (.ref b2), (.int pp3)])) rfl rfl (hb hby own_dprog_30_method_7_code_99) _ k) ?_
    show own_Go p.tables e below RR (T185.setTop (mkF m 100 #[.val (.ref pa), .val (.int (4 : Int32)), .val (.ref b2), .val (.ref b30), .val (.int (1 : Int32)), .val (.int (1 : Int32)), .val (.int (2 : Int32)), .val (.int (0 : Int32))] [(.int pp1), (.int pp3)]))
    by_cases hc100_191 : pp3 = pp1
    · refine own_st (fun _ k => XS.icmpNo X185.here hx rfl (hb hby own_dprog_30_method_7_code_100) rfl (teq hc100_191).2 (XS.iinc X185.here hx rfl (hb hby own_dprog_30_method_7_code_103) rfl (l' := #[.val (.ref pa), .val (.int (4 : Int32)), .val (.ref b2), .val (.ref b30), .val (.int (1 : Int32)), .val (.int (1 : Int32)), .val (.int (2 : Int32)), .val (.int (1 : Int32))]) rfl (XS.goto X185.here hx rfl (pc0 := 106) (pc' := 80) rfl (hb hby own_dprog_30_method_7_code_106) (by decide) (by decide) (XS.iload X185.here hx rfl (hb hby own_dprog_30_method_7_code_80) rfl (XS.iload X185.here hx rfl (hb hby own_dprog_30_method_7_code_82) rfl (XS.iadd X185.here hx rfl (hb hby own_dprog_30_method_7_code_84) rfl (XS.iloadN X185.here hx rfl (hb hby own_dprog_30_method_7_code_85) rfl k))))))) ?_
      show own_Go p.tables e below RR (T185.setTop (mkF m 86 #[.val (.ref pa), .val (.int (4 : Int32)), .val (.ref b2), .val (.ref b30), .val (.int (1 : Int32)), .val (.int (1 : Int32)), .val (.int (2 : Int32)), .val (.int (1 : Int32))] [(.int (4 : Int32)), (.int (3 : Int32))]))
      refine own_st (fun _ k => XS.icmpNo X185.here hx rfl (hb hby own_dprog_30_method_7_code_86) rfl (tlt (by decide)).2.1 (XS.aloadN X185.here hx rfl (hb hby own_dprog_30_method_7_code_89) rfl rfl (XS.iload X185.here hx rfl (hb hby own_dprog_30_method_7_code_90) rfl k))) ?_
      show own_Go p.tables e below RR (T185.setTop (mkF m 92 #[.val (.ref pa), .val (.int (4 : Int32)), .val (.ref b2), .val (.ref b30), .val (.int (1 : Int32)), .val (.int (1 : Int32)), .val (.int (2 : Int32)), .val (.int (1 : Int32))] [(.int (1 : Int32)), (.ref b2)]))
      obtain ⟨c192, A192, q192, s192, m192, H192, G192⟩ := id f188
      have b192 := inb_of (j := (1 : Int32)) s192 ⟨by decide, by decide⟩
      refine own_st (fun _ k => X185.iaload hx (j := (1 : Int32)) (v := (.int pp2)) (by rw [e185]; exact A192.1) (State.isArrayOf_alike hZ.alike A192.2.1) A192.2.2 b192 (Has.at H192 b192 rfl) (g := (mkF m 92 #[.val (.ref pa), .val (.int (4 : Int32)), .val (.ref b2), .val (.ref b30), .val (.int (1 : Int32)), .val (.int (1 : Int32)), .val (.int (2 : Int32)), .val (.int (1 : Int32))] [(.int (1 : Int32)), (.ref b2)])) rfl rfl (hb hby own_dprog_30_method_7_code_92) _ (XS.aloadN X185.here hx rfl (hb hby own_dprog_30_method_7_code_93) rfl rfl (XS.iload X185.here hx rfl (hb hby own_dprog_30_method_7_code_94) rfl (XS.iload X185.here hx rfl (hb hby own_dprog_30_method_7_code_96) rfl (XS.iadd X185.here hx rfl (hb hby own_dprog_30_method_7_code_98) rfl k))))) ?_
      show own_Go p.tables e below RR (T185.setTop (mkF m 99 #[.val (.ref pa), .val (.int (4 : Int32)), .val (.ref b2), .val (.ref b30), .val (.int (1 : Int32)), .val (.int (1 : Int32)), .val (.int (2 : Int32)), .val (.int (1 : Int32))] [(.int (3 : Int32)), (.ref b2), (.int pp2)]))
      obtain ⟨c193, A193, q193, s193, m193, H193, G193⟩ := id f188
      have b193 := inb_of (j := (3 : Int32)) s193 ⟨by decide, by decide⟩
      refine own_st (fun _ k => X185.iaload hx (j := (3 : Int32)) (v := (.int pp0)) (by rw [e185]; exact A193.1) (State.isArrayOf_alike hZ.alike A193.2.1) A193.2.2 b193 (Has.at H193 b193 rfl) (g := (mkF m 99 #[.val (.ref pa), .val (.int (4 : Int32)), .val (.ref b2), .val (.ref b30), .val (.int (1 : Int32)), .val (.int (1 : Int32)), .val (.int (2 : Int32)), .val (.int (1 : Int32))] [(.int (3 : Int32)), (.ref b2), (.int pp2)])) rfl rfl (hb hby own_dprog_30_method_7_code_99) _ k) ?_
      show own_Go p.tables e below RR (T185.setTop (mkF m 100 #[.val (.ref pa), .val (.int (4 : Int32)), .val (.ref b2), .val (.ref b30), .val (.int (1 : Int32)), .val (.int (1 : Int32)), .val (.int (2 : Int32)), .val (.int (1 : Int32))] [(.int pp0), (.int pp2)]))
      by_cases hc100_194 : pp2 = pp0
      · refine own_st (fun _ k => XS.icmpNo X185.here hx rfl (hb hby own_dprog_30_method_7_code_100) rfl (teq hc100_194).2 (XS.iinc X185.here hx rfl (hb hby own_dprog_30_method_7_code_103) rfl (l' := #[.val (.ref pa), .val (.int (4 : Int32)), .val (.ref b2), .val (.ref b30), .val (.int (1 : Int32)), .val (.int (1 : Int32)), .val (.int (2 : Int32)), .val (.int (2 : Int32))]) rfl (XS.goto X185.here hx rfl (pc0 := 106) (pc' := 80) rfl (hb hby own_dprog_30_method_7_code_106) (by decide) (by decide) (XS.iload X185.here hx rfl (hb hby own_dprog_30_method_7_code_80) rfl (XS.iload X185.here hx rfl (hb hby own_dprog_30_method_7_code_82) rfl (XS.iadd X185.here hx rfl (hb hby own_dprog_30_method_7_code_84) rfl (XS.iloadN X185.here hx rfl (hb hby own_dprog_30_method_7_code_85) rfl k))))))) ?_
        show own_Go p.tables e below RR (T185.setTop (mkF m 86 #[.val (.ref pa), .val (.int (4 : Int32)), .val (.ref b2), .val (.ref b30), .val (.int (1 : Int32)), .val (.int (1 : Int32)), .val (.int (2 : Int32)), .val (.int (2 : Int32))] [(.int (4 : Int32)), (.int (4 : Int32))]))
        refine own_st (fun _ k => XS.icmpYes X185.here hx rfl (pc0 := 86) (pc' := 109) rfl (hb hby own_dprog_30_method_7_code_86) rfl (flt (by decide)).2.1 (by decide) (by decide) (XS.aloadN X185.here hx rfl (hb hby own_dprog_30_method_7_code_109) rfl rfl (XS.iload X185.here hx rfl (hb hby own_dprog_30_method_7_code_110) rfl (XS.iload X185.here hx rfl (hb hby own_dprog_30_method_7_code_112) rfl k)))) ?_
        show own_Go p.tables e below RR (T185.setTop (mkF m 114 #[.val (.ref pa), .val (.int (4 : Int32)), .val (.ref b2), .val (.ref b30), .val (.int (1 : Int32)), .val (.int (1 : Int32)), .val (.int (2 : Int32)), .val (.int (2 : Int32))] [(.int (2 : Int32)), (.int (2 : Int32)), (.ref b30)]))
        obtain ⟨c195, A195, q195, s195, m195, H195, G195⟩ := id V185
        obtain ⟨T196, h196, X196, e196, W196, st196⟩ := stI X185 hx hZ e185 A195 (j := (2 : Int32)) (inb_of s195 ⟨by decide, by decide⟩) (g := (mkF m 114 #[.val (.ref pa), .val (.int (4 : Int32)), .val (.ref b2), .val (.ref b30), .val (.int (1 : Int32)), .val (.int (1 : Int32)), .val (.int (2 : Int32)), .val (.int (2 : Int32))] [(.int (2 : Int32)), (.int (2 : Int32)), (.ref b30)])) rfl rfl (hb hby own_dprog_30_method_7_code_114)
        have V196 := Arv.set A195 q195 s195 m195 H195 G195 rfl W196 2 rfl (Nat.le_of_ble_eq_true rfl)
        have V196 : Arv Z h196 b30 k30 .int (4 : Int32) [(.int (4 : Int32)), (.int (0 : Int32)), (.int (2 : Int32)), (.int (0 : Int32))] (.int (0 : Int32)) := V196
        have N196 := Fr.snoc X196 N185 ge30
        refine own_st st196 ?_
        have z197 : n0 ≤ h196.size := Nat.le_trans z186 (Keep.of_wr W196).1
        have kk198 : Keep h0 h196 [] := kk187.wr W196 (Or.inr sz30)
        show own_Go p.tables e below RR (T196.setTop (mkF m 115 #[.val (.ref pa), .val (.int (4 : Int32)), .val (.ref b2), .val (.ref b30), .val (.int (1 : Int32)), .val (.int (1 : Int32)), .val (.int (2 : Int32)), .val (.int (2 : Int32))] []))
        refine own_st (fun _ k => XS.iload X196.here hx rfl (hb hby own_dprog_30_method_7_code_115) rfl (XS.iload X196.here hx rfl (hb hby own_dprog_30_method_7_code_117) rfl (XS.iadd X196.here hx rfl (hb hby own_dprog_30_method_7_code_119) rfl (XS.iload X196.here hx rfl (hb hby own_dprog_30_method_7_code_120) rfl k)))) ?_
        show own_Go p.tables e below RR (T196.setTop (mkF m 122 #[.val (.ref pa), .val (.int (4 : Int32)), .val (.ref b2), .val (.ref b30), .val (.int (1 : Int32)), .val (.int (1 : Int32)), .val (.int (2 : Int32)), .val (.int (2 : Int32))] [(.int (1 : Int32)), (.int (4 : Int32))]))
        refine own_st (fun _ k => XS.icmpNo X196.here hx rfl (hb hby own_dprog_30_method_7_code_122) rfl (tlt (by decide)).2.2.2 (XS.iload X196.here hx rfl (hb hby own_dprog_30_method_7_code_125) rfl (XS.istore X196.here hx rfl (hb hby own_dprog_30_method_7_code_127) rfl (l' := #[.val (.ref pa), .val (.int (4 : Int32)), .val (.ref b2), .val (.ref b30), .val (.int (2 : Int32)), .val (.int (1 : Int32)), .val (.int (2 : Int32)), .val (.int (2 : Int32))]) rfl (XS.iload X196.here hx rfl (hb hby own_dprog_30_method_7_code_129) rfl (XS.iload X196.here hx rfl (hb hby own_dprog_30_method_7_code_131) rfl (XS.iadd X196.here hx rfl (hb hby own_dprog_30_method_7_code_133) rfl (XS.istore X196.here hx rfl (hb hby own_dprog_30_method_7_code_134) rfl (l' := #[.val (.ref pa), .val (.int (4 : Int32)), .val (.ref b2), .val (.ref b30), .val (.int (2 : Int32)), .val (.int (4 : Int32)), .val (.int (2 : Int32)), .val (.int (2 : Int32))]) rfl (XS.iinc X196.here hx rfl (hb hby own_dprog_30_method_7_code_136) rfl (l' := #[.val (.ref pa), .val (.int (4 : Int32)), .val (.ref b2), .val (.ref b30), .val (.int (2 : Int32)), .val (.int (4 : Int32)), .val (.int (3 : Int32)), .val (.int (2 : Int32))]) rfl k)))))))) ?_
        show own_Go p.tables e below RR (T196.setTop (mkF m 139 #[.val (.ref pa), .val (.int (4 : Int32)), .val (.ref b2), .val (.ref b30), .val (.int (2 : Int32)), .val (.int (4 : Int32)), .val (.int (3 : Int32)), .val (.int (2 : Int32))] []))
        refine own_st (fun _ k => XS.goto X196.here hx rfl (pc0 := 139) (pc' := 47) rfl (hb hby own_dprog_30_method_7_code_139) (by decide) (by decide) (XS.iload X196.here hx rfl (hb hby own_dprog_30_method_7_code_47) rfl (XS.iloadN X196.here hx rfl (hb hby own_dprog_30_method_7_code_49) rfl k))) ?_
        show own_Go p.tables e below RR (T196.setTop (mkF m 50 #[.val (.ref pa), .val (.int (4 : Int32)), .val (.ref b2), .val (.ref b30), .val (.int (2 : Int32)), .val (.int (4 : Int32)), .val (.int (3 : Int32)), .val (.int (2 : Int32))] [(.int (4 : Int32)), (.int (3 : Int32))]))
        refine own_st (fun _ k => XS.icmpNo X196.here hx rfl (hb hby own_dprog_30_method_7_code_50) rfl (tlt (by decide)).2.1 (XS.iconst X196.here hx rfl (hb hby own_dprog_30_method_7_code_53) (XS.istore X196.here hx rfl (hb hby own_dprog_30_method_7_code_54) rfl (l' := #[.val (.ref pa), .val (.int (4 : Int32)), .val (.ref b2), .val (.ref b30), .val (.int (2 : Int32)), .val (.int (4 : Int32)), .val (.int (3 : Int32)), .val (.int (0 : Int32))]) rfl (XS.iload X196.here hx rfl (hb hby own_dprog_30_method_7_code_56) rfl (XS.iload X196.here hx rfl (hb hby own_dprog_30_method_7_code_58) rfl k))))) ?_
        show own_Go p.tables e below RR (T196.setTop (mkF m 60 #[.val (.ref pa), .val (.int (4 : Int32)), .val (.ref b2), .val (.ref b30), .val (.int (2 : Int32)), .val (.int (4 : Int32)), .val (.int (3 : Int32)), .val (.int (0 : Int32))] [(.int (4 : Int32)), (.int (3 : Int32))]))
        refine own_st (fun _ k => XS.icmpNo X196.here hx rfl (hb hby own_dprog_30_method_7_code_60) rfl (tlt (by decide)).2.1 (XS.iload X196.here hx rfl (hb hby own_dprog_30_method_7_code_63) rfl (XS.iload X196.here hx rfl (hb hby own_dprog_30_method_7_code_65) rfl (XS.isub X196.here hx rfl (hb hby own_dprog_30_method_7_code_67) rfl (XS.aloadN X196.here hx rfl (hb hby own_dprog_30_method_7_code_68) rfl rfl (XS.iload X196.here hx rfl (hb hby own_dprog_30_method_7_code_69) rfl (XS.iload X196.here hx rfl (hb hby own_dprog_30_method_7_code_71) rfl (XS.isub X196.here hx rfl (hb hby own_dprog_30_method_7_code_73) rfl k)))))))) ?_
        show own_Go p.tables e below RR (T196.setTop (mkF m 74 #[.val (.ref pa), .val (.int (4 : Int32)), .val (.ref b2), .val (.ref b30), .val (.int (2 : Int32)), .val (.int (4 : Int32)), .val (.int (3 : Int32)), .val (.int (0 : Int32))] [(.int (1 : Int32)), (.ref b30), (.int (1 : Int32))]))
        obtain ⟨c199, A199, q199, s199, m199, H199, G199⟩ := id V196
        have b199 := inb_of (j := (1 : Int32)) s199 ⟨by decide, by decide⟩
        refine own_st (fun _ k => X196.iaload hx (j := (1 : Int32)) (v := (.int (0 : Int32))) (by rw [e196]; exact A199.1) (State.isArrayOf_alike hZ.alike A199.2.1) A199.2.2 b199 (Has.at H199 b199 rfl) (g := (mkF m 74 #[.val (.ref pa), .val (.int (4 : Int32)), .val (.ref b2), .val (.ref b30), .val (.int (2 : Int32)), .val (.int (4 : Int32)), .val (.int (3 : Int32)), .val (.int (0 : Int32))] [(.int (1 : Int32)), (.ref b30), (.int (1 : Int32))])) rfl rfl (hb hby own_dprog_30_method_7_code_74) _ k) ?_
        show own_Go p.tables e below RR (T196.setTop (mkF m 75 #[.val (.ref pa), .val (.int (4 : Int32)), .val (.ref b2), .val (.ref b30), .val (.int (2 : Int32)), .val (.int (4 : Int32)), .val (.int (3 : Int32)), .val (.int (0 : Int32))] [(.int (0 : Int32)), (.int (1 : Int32))]))
        obtain ⟨_, _, ⟨T200, L200, k200, n200⟩, -, X200, ⟨Lc200, hQ200, l200, y200, z200⟩, st200⟩ := Jvm.LawKit.callS X196 hx (y := (⟨"java/lang/Math", "min", "(II)I"⟩ : MethodName)) hown (mvT hZ (hw _ (List.mem_of_getElem? (i := 39) rfl))) (mvT hZ (hw _ (List.mem_of_getElem? (i := 40) rfl))) (mvT hZ (hw _ (List.mem_of_getElem? (i := 41) rfl))) (mvT hZ (hw _ (List.mem_of_getElem? (i := 42) rfl))) (by decide) (backOf (W := 0) (own_rmMN l Z a0 hw [] (1 : Int32) (0 : Int32) (0 : Int32) h196 n0 z197 (by decide)) hZ (hw _ (List.mem_of_getElem? (i := 42) rfl)) (hw _ (List.mem_of_getElem? (i := 41) rfl)) (by decide) (by decide)) (g := (mkF m 75 #[.val (.ref pa), .val (.int (4 : Int32)), .val (.ref b2), .val (.ref b30), .val (.int (2 : Int32)), .val (.int (4 : Int32)), .val (.int (3 : Int32)), .val (.int (0 : Int32))] [(.int (0 : Int32)), (.int (1 : Int32))])) rfl (by rw [hml]; rfl) (argsL := [(.int (1 : Int32)), (.int (0 : Int32))]) (rest := []) (lenOf own_pd__II_I rfl) rfl (by show 2 * 0 + _ ≤ _; exact Nat.le_of_eq rfl) (hb hby own_dprog_30_method_7_code_75) (fun _ _ => ⟨rfl, e196, (by decide : 2 + 0 ≤ _), (by decide : 8 + 0 ≤ _)⟩)
        dsimp only [Pt.U, Pt.locs, Pt.cells, Pt.slots] at X200 l200 y200 z200 st200 hQ200
        subst l200 y200 z200
        obtain ⟨rfl, Nq200, eq200⟩ := hQ200
        have N200 := Fr.app N196 Nq200
        refine own_st st200 ?_
        show own_Go p.tables e below RR (T200.setTop (mkF m 78 #[.val (.ref pa), .val (.int (4 : Int32)), .val (.ref b2), .val (.ref b30), .val (.int (2 : Int32)), .val (.int (4 : Int32)), .val (.int (3 : Int32)), .val (.int (0 : Int32))] [(.int (0 : Int32))]))
        refine own_st (fun _ k => XS.istore X200.here hx rfl (hb hby own_dprog_30_method_7_code_78) rfl (l' := #[.val (.ref pa), .val (.int (4 : Int32)), .val (.ref b2), .val (.ref b30), .val (.int (2 : Int32)), .val (.int (4 : Int32)), .val (.int (3 : Int32)), .val (.int (0 : Int32))]) rfl (XS.iload X200.here hx rfl (hb hby own_dprog_30_method_7_code_80) rfl (XS.iload X200.here hx rfl (hb hby own_dprog_30_method_7_code_82) rfl (XS.iadd X200.here hx rfl (hb hby own_dprog_30_method_7_code_84) rfl (XS.iloadN X200.here hx rfl (hb hby own_dprog_30_method_7_code_85) rfl k))))) ?_
        show own_Go p.tables e below RR (T200.setTop (mkF m 86 #[.val (.ref pa), .val (.int (4 : Int32)), .val (.ref b2), .val (.ref b30), .val (.int (2 : Int32)), .val (.int (4 : Int32)), .val (.int (3 : Int32)), .val (.int (0 : Int32))] [(.int (4 : Int32)), (.int (3 : Int32))]))
        refine own_st (fun _ k => XS.icmpNo X200.here hx rfl (hb hby own_dprog_30_method_7_code_86) rfl (tlt (by decide)).2.1 (XS.aloadN X200.here hx rfl (hb hby own_dprog_30_method_7_code_89) rfl rfl (XS.iload X200.here hx rfl (hb hby own_dprog_30_method_7_code_90) rfl k))) ?_
        show own_Go p.tables e below RR (T200.setTop (mkF m 92 #[.val (.ref pa), .val (.int (4 : Int32)), .val (.ref b2), .val (.ref b30), .val (.int (2 : Int32)), .val (.int (4 : Int32)), .val (.int (3 : Int32)), .val (.int (0 : Int32))] [(.int (0 : Int32)), (.ref b2)]))
        have f201 := (f188.other W196 ne68)
        obtain ⟨c202, A202, q202, s202, m202, H202, G202⟩ := id f201
        have b202 := inb_of (j := (0 : Int32)) s202 ⟨by decide, by decide⟩
        refine own_st (fun _ k => X200.iaload hx (j := (0 : Int32)) (v := (.int pp3)) (by rw [eq200]; exact A202.1) (State.isArrayOf_alike hZ.alike A202.2.1) A202.2.2 b202 (Has.at H202 b202 rfl) (g := (mkF m 92 #[.val (.ref pa), .val (.int (4 : Int32)), .val (.ref b2), .val (.ref b30), .val (.int (2 : Int32)), .val (.int (4 : Int32)), .val (.int (3 : Int32)), .val (.int (0 : Int32))] [(.int (0 : Int32)), (.ref b2)])) rfl rfl (hb hby own_dprog_30_method_7_code_92) _ (XS.aloadN X200.here hx rfl (hb hby own_dprog_30_method_7_code_93) rfl rfl (XS.iload X200.here hx rfl (hb hby own_dprog_30_method_7_code_94) rfl (XS.iload X200.here hx rfl (hb hby own_dprog_30_method_7_code_96) rfl (XS.iadd X200.here hx rfl (hb hby own_dprog_30_method_7_code_98) rfl k))))) ?_
        show own_Go p.tables e below RR (T200.setTop (mkF m 99 #[.val (.ref pa), .val (.int (4 : Int32)), .val (.ref b2), .val (.ref b30), .val (.int (2 : Int32)), .val (.int (4 : Int32)), .val (.int (3 : Int32)), .val (.int (0 : Int32))] [(.int (3 : Int32)), (.ref b2), (.int pp3)]))
        obtain ⟨c203, A203, q203, s203, m203, H203, G203⟩ := id f201
        have b203 := inb_of (j := (3 : Int32)) s203 ⟨by decide, by decide⟩
        refine own_st (fun _ k => X200.iaload hx (j := (3 : Int32)) (v := (.int pp0)) (by rw [eq200]; exact A203.1) (State.isArrayOf_alike hZ.alike A203.2.1) A203.2.2 b203 (Has.at H203 b203 rfl) (g := (mkF m 99 #[.val (.ref pa), .val (.int (4 : Int32)), .val (.ref b2), .val (.ref b30), .val (.int (2 : Int32)), .val (.int (4 : Int32)), .val (.int (3 : Int32)), .val (.int (0 : Int32))] [(.int (3 : Int32)), (.ref b2), (.int pp3)])) rfl rfl (hb hby own_dprog_30_method_7_code_99) _ k) ?_
        show own_Go p.tables e below RR (T200.setTop (mkF m 100 #[.val (.ref pa), .val (.int (4 : Int32)), .val (.ref b2), .val (.ref b30), .val (.int (2 : Int32)), .val (.int (4 : Int32)), .val (.int (3 : Int32)), .val (.int (0 : Int32))] [(.int pp0), (.int pp3)]))
        by_cases hc100_204 : pp3 = pp0
        · refine own_st (fun _ k => XS.icmpNo X200.here hx rfl (hb hby own_dprog_30_method_7_code_100) rfl (teq hc100_204).2 (XS.iinc X200.here hx rfl (hb hby own_dprog_30_method_7_code_103) rfl (l' := #[.val (.ref pa), .val (.int (4 : Int32)), .val (.ref b2), .val (.ref b30), .val (.int (2 : Int32)), .val (.int (4 : Int32)), .val (.int (3 : Int32)), .val (.int (1 : Int32))]) rfl (XS.goto X200.here hx rfl (pc0 := 106) (pc' := 80) rfl (hb hby own_dprog_30_method_7_code_106) (by decide) (by decide) (XS.iload X200.here hx rfl (hb hby own_dprog_30_method_7_code_80) rfl (XS.iload X200.here hx rfl (hb hby own_dprog_30_method_7_code_82) rfl (XS.iadd X200.here hx rfl (hb hby own_dprog_30_method_7_code_84) rfl (XS.iloadN X200.here hx rfl (hb hby own_dprog_30_method_7_code_85) rfl k))))))) ?_
          show own_Go p.tables e below RR (T200.setTop (mkF m 86 #[.val (.ref pa), .val (.int (4 : Int32)), .val (.ref b2), .val (.ref b30), .val (.int (2 : Int32)), .val (.int (4 : Int32)), .val (.int (3 : Int32)), .val (.int (1 : Int32))] [(.int (4 : Int32)), (.int (4 : Int32))]))
          refine own_st (fun _ k => XS.icmpYes X200.here hx rfl (pc0 := 86) (pc' := 109) rfl (hb hby own_dprog_30_method_7_code_86) rfl (flt (by decide)).2.1 (by decide) (by decide) (XS.aloadN X200.here hx rfl (hb hby own_dprog_30_method_7_code_109) rfl rfl (XS.iload X200.here hx rfl (hb hby own_dprog_30_method_7_code_110) rfl (XS.iload X200.here hx rfl (hb hby own_dprog_30_method_7_code_112) rfl k)))) ?_
          show own_Go p.tables e below RR (T200.setTop (mkF m 114 #[.val (.ref pa), .val (.int (4 : Int32)), .val (.ref b2), .val (.ref b30), .val (.int (2 : Int32)), .val (.int (4 : Int32)), .val (.int (3 : Int32)), .val (.int (1 : Int32))] [(.int (1 : Int32)), (.int (3 : Int32)), (.ref b30)]))
          obtain ⟨c205, A205, q205, s205, m205, H205, G205⟩ := id V196
          obtain ⟨T206, h206, X206, e206, W206, st206⟩ := stI X200 hx hZ eq200 A205 (j := (3 : Int32)) (inb_of s205 ⟨by decide, by decide⟩) (g := (mkF m 114 #[.val (.ref pa), .val (.int (4 : Int32)), .val (.ref b2), .val (.ref b30), .val (.int (2 : Int32)), .val (.int (4 : Int32)), .val (.int (3 : Int32)), .val (.int (1 : Int32))] [(.int (1 : Int32)), (.int (3 : Int32)), (.ref b30)])) rfl rfl (hb hby own_dprog_30_method_7_code_114)
          have V206 := Arv.set A205 q205 s205 m205 H205 G205 rfl W206 3 rfl (Nat.le_of_ble_eq_true rfl)
          have V206 : Arv Z h206 b30 k30 .int (4 : Int32) [(.int (4 : Int32)), (.int (0 : Int32)), (.int (2 : Int32)), (.int (1 : Int32))] (.int (0 : Int32)) := V206
          have N206 := Fr.snoc X206 N200 ge30
          refine own_st st206 ?_
          have z207 : n0 ≤ h206.size := Nat.le_trans z197 (Keep.of_wr W206).1
          have kk208 : Keep h0 h206 [] := kk198.wr W206 (Or.inr sz30)
          show own_Go p.tables e below RR (T206.setTop (mkF m 115 #[.val (.ref pa), .val (.int (4 : Int32)), .val (.ref b2), .val (.ref b30), .val (.int (2 : Int32)), .val (.int (4 : Int32)), .val (.int (3 : Int32)), .val (.int (1 : Int32))] []))
          refine own_st (fun _ k => XS.iload X206.here hx rfl (hb hby own_dprog_30_method_7_code_115) rfl (XS.iload X206.here hx rfl (hb hby own_dprog_30_method_7_code_117) rfl (XS.iadd X206.here hx rfl (hb hby own_dprog_30_method_7_code_119) rfl (XS.iload X206.here hx rfl (hb hby own_dprog_30_method_7_code_120) rfl k)))) ?_
          show own_Go p.tables e below RR (T206.setTop (mkF m 122 #[.val (.ref pa), .val (.int (4 : Int32)), .val (.ref b2), .val (.ref b30), .val (.int (2 : Int32)), .val (.int (4 : Int32)), .val (.int (3 : Int32)), .val (.int (1 : Int32))] [(.int (4 : Int32)), (.int (4 : Int32))]))
          refine own_st (fun _ k => XS.icmpYes X206.here hx rfl (pc0 := 122) (pc' := 136) rfl (hb hby own_dprog_30_method_7_code_122) rfl (flt (by decide)).2.2.2 (by decide) (by decide) (XS.iinc X206.here hx rfl (hb hby own_dprog_30_method_7_code_136) rfl (l' := #[.val (.ref pa), .val (.int (4 : Int32)), .val (.ref b2), .val (.ref b30), .val (.int (2 : Int32)), .val (.int (4 : Int32)), .val (.int (4 : Int32)), .val (.int (1 : Int32))]) rfl (XS.goto X206.here hx rfl (pc0 := 139) (pc' := 47) rfl (hb hby own_dprog_30_method_7_code_139) (by decide) (by decide) (XS.iload X206.here hx rfl (hb hby own_dprog_30_method_7_code_47) rfl (XS.iloadN X206.here hx rfl (hb hby own_dprog_30_method_7_code_49) rfl k))))) ?_
          show own_Go p.tables e below RR (T206.setTop (mkF m 50 #[.val (.ref pa), .val (.int (4 : Int32)), .val (.ref b2), .val (.ref b30), .val (.int (2 : Int32)), .val (.int (4 : Int32)), .val (.int (4 : Int32)), .val (.int (1 : Int32))] [(.int (4 : Int32)), (.int (4 : Int32))]))
          refine own_st (fun _ k => XS.icmpYes X206.here hx rfl (pc0 := 50) (pc' := 142) rfl (hb hby own_dprog_30_method_7_code_50) rfl (flt (by decide)).2.1 (by decide) (by decide) k) ?_
          show own_Go p.tables e below RR (T206.setTop (mkF m 142 #[.val (.ref pa), .val (.int (4 : Int32)), .val (.ref b2), .val (.ref b30), .val (.int (2 : Int32)), .val (.int (4 : Int32)), .val (.int (4 : Int32)), .val (.int (1 : Int32))] []))
          exact jnh37 T206 _ h206 (2 : Int32) (4 : Int32) (1 : Int32) (4 : Int32) (0 : Int32) (2 : Int32) (1 : Int32) X206 e206 N206 ((((Keep.refl _ _).wr W185 (Or.inl (List.mem_of_getElem? (i := 0) rfl))).wr W196 (Or.inl (List.mem_of_getElem? (i := 0) rfl))).wr W206 (Or.inl (List.mem_of_getElem? (i := 0) rfl))) V206 (by decide) (by decide) (by decide) (by decide)
        · refine own_st (fun _ k => XS.icmpYes X200.here hx rfl (pc0 := 100) (pc' := 109) rfl (hb hby own_dprog_30_method_7_code_100) rfl (feq hc100_204).2 (by decide) (by decide) (XS.aloadN X200.here hx rfl (hb hby own_dprog_30_method_7_code_109) rfl rfl (XS.iload X200.here hx rfl (hb hby own_dprog_30_method_7_code_110) rfl (XS.iload X200.here hx rfl (hb hby own_dprog_30_method_7_code_112) rfl k)))) ?_
          show own_Go p.tables e below RR (T200.setTop (mkF m 114 #[.val (.ref pa), .val (.int (4 : Int32)), .val (.ref b2), .val (.ref b30), .val (.int (2 : Int32)), .val (.int (4 : Int32)), .val (.int (3 : Int32)), .val (.int (0 : Int32))] [(.int (0 : Int32)), (.int (3 : Int32)), (.ref b30)]))
          obtain ⟨c209, A209, q209, s209, m209, H209, G209⟩ := id V196
          obtain ⟨T210, h210, X210, e210, W210, st210⟩ := stI X200 hx hZ eq200 A209 (j := (3 : Int32)) (inb_of s209 ⟨by decide, by decide⟩) (g := (mkF m 114 #[.val (.ref pa), .val (.int (4 : Int32)), .val (.ref b2), .val (.ref b30), .val (.int (2 : Int32)), .val (.int (4 : Int32)), .val (.int (3 : Int32)), .val (.int (0 : Int32))] [(.int (0 : Int32)), (.int (3 : Int32)), (.ref b30)])) rfl rfl (hb hby own_dprog_30_method_7_code_114)
          have V210 := Arv.set A209 q209 s209 m209 H209 G209 rfl W210 3 rfl (Nat.le_of_ble_eq_true rfl)
          have V210 : Arv Z h210 b30 k30 .int (4 : Int32) [(.int (4 : Int32)), (.int (0 : Int32)), (.int (2 : Int32)), (.int (0 : Int32))] (.int (0 : Int32)) := V210
          have N210 := Fr.snoc X210 N200 ge30
          refine own_st st210 ?_
          have z211 : n0 ≤ h210.size := Nat.le_trans z197 (Keep.of_wr W210).1
          have kk212 : Keep h0 h210 [] := kk198.wr W210 (Or.inr sz30)
          show own_Go p.tables e below RR (T210.setTop (mkF m 115 #[.val (.ref pa), .val (.int (4 : Int32)), .val (.ref b2), .val (.ref b30), .val (.int (2 : Int32)), .val (.int (4 : Int32)), .val (.int (3 : Int32)), .val (.int (0 : Int32))] []))
          refine own_st (fun _ k => XS.iload X210.here hx rfl (hb hby own_dprog_30_method_7_code_115) rfl (XS.iload X210.here hx rfl (hb hby own_dprog_30_method_7_code_117) rfl (XS.iadd X210.here hx rfl (hb hby own_dprog_30_method_7_code_119) rfl (XS.iload X210.here hx rfl (hb hby own_dprog_30_method_7_code_120) rfl k)))) ?_
          show own_Go p.tables e below RR (T210.setTop (mkF m 122 #[.val (.ref pa), .val (.int (4 : Int32)), .val (.ref b2), .val (.ref b30), .val (.int (2 : Int32)), .val (.int (4 : Int32)), .val (.int (3 : Int32)), .val (.int (0 : Int32))] [(.int (4 : Int32)), (.int (3 : Int32))]))
          refine own_st (fun _ k => XS.icmpYes X210.here hx rfl (pc0 := 122) (pc' := 136) rfl (hb hby own_dprog_30_method_7_code_122) rfl (flt (by decide)).2.2.2 (by decide) (by decide) (XS.iinc X210.here hx rfl (hb hby own_dprog_30_method_7_code_136) rfl (l' := #[.val (.ref pa), .val (.int (4 : Int32)), .val (.ref b2), .val (.ref b30), .val (.int (2 : Int32)), .val (.int (4 : Int32)), .val (.int (4 : Int32)), .val (.int (0 : Int32))]) rfl (XS.goto X210.here hx rfl (pc0 := 139) (pc' := 47) rfl (hb hby own_dprog_30_method_7_code_139) (by decide) (by decide) (XS.iload X210.here hx rfl (hb hby own_dprog_30_method_7_code_47) rfl (XS.iloadN X210.here hx rfl (hb hby own_dprog_30_method_7_code_49) rfl k))))) ?_
          show own_Go p.tables e below RR (T210.setTop (mkF m 50 #[.val (.ref pa), .val (.int (4 : Int32)), .val (.ref b2), .val (.ref b30), .val (.int (2 : Int32)), .val (.int (4 : Int32)), .val (.int (4 : Int32)), .val (.int (0 : Int32))] [(.int (4 : Int32)), (.int (4 : Int32))]))
          refine own_st (fun _ k => XS.icmpYes X210.here hx rfl (pc0 := 50) (pc' := 142) rfl (hb hby own_dprog_30_method_7_code_50) rfl (flt (by decide)).2.1 (by decide) (by decide) k) ?_
          show own_Go p.tables e below RR (T210.setTop (mkF m 142 #[.val (.ref pa), .val (.int (4 : Int32)), .val (.ref b2), .val (.ref b30), .val (.int (2 : Int32)), .val (.int (4 : Int32)), .val (.int (4 : Int32)), .val (.int (0 : Int32))] []))
          exact jnh37 T210 _ h210 (2 : Int32) (4 : Int32) (0 : Int32) (4 : Int32) (0 : Int32) (2 : Int32) (0 : Int32) X210 e210 N210 ((((Keep.refl _ _).wr W185 (Or.inl (List.mem_of_getElem? (i := 0) rfl))).wr W196 (Or.inl (List.mem_of_getElem? (i := 0) rfl))).wr W210 (Or.inl (List.mem_of_getElem? (i := 0) rfl))) V210 (by decide) (by decide) (by decide) (by decide)
      · refine own_st (fun _ k => XS.icmpYes X185.here hx rfl (pc0 := 100) (pc' := 109) rfl (hb hby own_dprog_30_method_7_code_100) rfl (feq hc100_194).2 (by decide) (by decide) (XS.aloadN X185.here hx rfl (hb hby own_dprog_30_method_7_code_109) rfl rfl (XS.iload X185.here hx rfl (hb hby own_dprog_30_method_7_code_110) rfl (XS.iload X185.here hx rfl (hb hby own_dprog_30_method_7_code_112) rfl k)))) ?_
        show own_Go p.tables e below RR (T185.setTop (mkF m 114 #[.val (.ref pa), .val (.int (4 : Int32)), .val (.ref b2), .val (.ref b30), .val (.int (1 : Int32)), .val (.int (1 : Int32)), .val (.int (2 : Int32)), .val (.int (1 : Int32))] [(.int (1 : Int32)), (.int (2 : Int32)), (.ref b30)]))
        obtain ⟨c213, A213, q213, s213, m213, H213, G213⟩ := id V185
        obtain ⟨T214, h214, X214, e214, W214, st214⟩ := stI X185 hx hZ e185 A213 (j := (2 : Int32)) (inb_of s213 ⟨by decide, by decide⟩) (g := (mkF m 114 #[.val (.ref pa), .val (.int (4 : Int32)), .val (.ref b2), .val (.ref b30), .val (.int (1 : Int32)), .val (.int (1 : Int32)), .val (.int (2 : Int32)), .val (.int (1 : Int32))] [(.int (1 : Int32)), (.int (2 : Int32)), (.ref b30)])) rfl rfl (hb hby own_dprog_30_method_7_code_114)
        have V214 := Arv.set A213 q213 s213 m213 H213 G213 rfl W214 2 rfl (Nat.le_of_ble_eq_true rfl)
        have V214 : Arv Z h214 b30 k30 .int (4 : Int32) [(.int (4 : Int32)), (.int (0 : Int32)), (.int (1 : Int32)), (.int (0 : Int32))] (.int (0 : Int32)) := V214
        have N214 := Fr.snoc X214 N185 ge30
        refine own_st st214 ?_
        have z215 : n0 ≤ h214.size := Nat.le_trans z186 (Keep.of_wr W214).1
        have kk216 : Keep h0 h214 [] := kk187.wr W214 (Or.inr sz30)
        show own_Go p.tables e below RR (T214.setTop (mkF m 115 #[.val (.ref pa), .val (.int (4 : Int32)), .val (.ref b2), .val (.ref b30), .val (.int (1 : Int32)), .val (.int (1 : Int32)), .val (.int (2 : Int32)), .val (.int (1 : Int32))] []))
        refine own_st (fun _ k => XS.iload X214.here hx rfl (hb hby own_dprog_30_method_7_code_115) rfl (XS.iload X214.here hx rfl (hb hby own_dprog_30_method_7_code_117) rfl (XS.iadd X214.here hx rfl (hb hby own_dprog_30_method_7_code_119) rfl (XS.iload X214.here hx rfl (hb hby own_dprog_30_method_7_code_120) rfl k)))) ?_
        show own_Go p.tables e below RR (T214.setTop (mkF m 122 #[.val (.ref pa), .val (.int (4 : Int32)), .val (.ref b2), .val (.ref b30), .val (.int (1 : Int32)), .val (.int (1 : Int32)), .val (.int (2 : Int32)), .val (.int (1 : Int32))] [(.int (1 : Int32)), (.int (3 : Int32))]))
        refine own_st (fun _ k => XS.icmpNo X214.here hx rfl (hb hby own_dprog_30_method_7_code_122) rfl (tlt (by decide)).2.2.2 (XS.iload X214.here hx rfl (hb hby own_dprog_30_method_7_code_125) rfl (XS.istore X214.here hx rfl (hb hby own_dprog_30_method_7_code_127) rfl (l' := #[.val (.ref pa), .val (.int (4 : Int32)), .val (.ref b2), .val (.ref b30), .val (.int (2 : Int32)), .val (.int (1 : Int32)), .val (.int (2 : Int32)), .val (.int (1 : Int32))]) rfl (XS.iload X214.here hx rfl (hb hby own_dprog_30_method_7_code_129) rfl (XS.iload X214.here hx rfl (hb hby own_dprog_30_method_7_code_131) rfl (XS.iadd X214.here hx rfl (hb hby own_dprog_30_method_7_code_133) rfl (XS.istore X214.here hx rfl (hb hby own_dprog_30_method_7_code_134) rfl (l' := #[.val (.ref pa), .val (.int (4 : Int32)), .val (.ref b2), .val (.ref b30), .val (.int (2 : Int32)), .val (.int (3 : Int32)), .val (.int (2 : Int32)), .val (.int (1 : Int32))]) rfl (XS.iinc X214.here hx rfl (hb hby own_dprog_30_method_7_code_136) rfl (l' := #[.val (.ref pa), .val (.int (4 : Int32)), .val (.ref b2), .val (.ref b30), .val (.int (2 : Int32)), .val (.int (3 : Int32)), .val (.int (3 : Int32)), .val (.int (1 : Int32))]) rfl k)))))))) ?_
        show own_Go p.tables e below RR (T214.setTop (mkF m 139 #[.val (.ref pa), .val (.int (4 : Int32)), .val (.ref b2), .val (.ref b30), .val (.int (2 : Int32)), .val (.int (3 : Int32)), .val (.int (3 : Int32)), .val (.int (1 : Int32))] []))
        refine own_st (fun _ k => XS.goto X214.here hx rfl (pc0 := 139) (pc' := 47) rfl (hb hby own_dprog_30_method_7_code_139) (by decide) (by decide) (XS.iload X214.here hx rfl (hb hby own_dprog_30_method_7_code_47) rfl (XS.iloadN X214.here hx rfl (hb hby own_dprog_30_method_7_code_49) rfl k))) ?_
        show own_Go p.tables e below RR (T214.setTop (mkF m 50 #[.val (.ref pa), .val (.int (4 : Int32)), .val (.ref b2), .val (.ref b30), .val (.int (2 : Int32)), .val (.int (3 : Int32)), .val (.int (3 : Int32)), .val (.int (1 : Int32))] [(.int (4 : Int32)), (.int (3 : Int32))]))
        refine own_st (fun _ k => XS.icmpNo X214.here hx rfl (hb hby own_dprog_30_method_7_code_50) rfl (tlt (by decide)).2.1 (XS.iconst X214.here hx rfl (hb hby own_dprog_30_method_7_code_53) (XS.istore X214.here hx rfl (hb hby own_dprog_30_method_7_code_54) rfl (l' := #[.val (.ref pa), .val (.int (4 : Int32)), .val (.ref b2), .val (.ref b30), .val (.int (2 : Int32)), .val (.int (3 : Int32)), .val (.int (3 : Int32)), .val (.int (0 : Int32))]) rfl (XS.iload X214.here hx rfl (hb hby own_dprog_30_method_7_code_56) rfl (XS.iload X214.here hx rfl (hb hby own_dprog_30_method_7_code_58) rfl k))))) ?_
        show own_Go p.tables e below RR (T214.setTop (mkF m 60 #[.val (.ref pa), .val (.int (4 : Int32)), .val (.ref b2), .val (.ref b30), .val (.int (2 : Int32)), .val (.int (3 : Int32)), .val (.int (3 : Int32)), .val (.int (0 : Int32))] [(.int (3 : Int32)), (.int (3 : Int32))]))
        refine own_st (fun _ k => XS.icmpYes X214.here hx rfl (pc0 := 60) (pc' := 80) rfl (hb hby own_dprog_30_method_7_code_60) rfl (flt (by decide)).2.1 (by decide) (by decide) (XS.iload X214.here hx rfl (hb hby own_dprog_30_method_7_code_80) rfl (XS.iload X214.here hx rfl (hb hby own_dprog_30_method_7_code_82) rfl (XS.iadd X214.here hx rfl (hb hby own_dprog_30_method_7_code_84) rfl (XS.iloadN X214.here hx rfl (hb hby own_dprog_30_method_7_code_85) rfl k))))) ?_
        show own_Go p.tables e below RR (T214.setTop (mkF m 86 #[.val (.ref pa), .val (.int (4 : Int32)), .val (.ref b2), .val (.ref b30), .val (.int (2 : Int32)), .val (.int (3 : Int32)), .val (.int (3 : Int32)), .val (.int (0 : Int32))] [(.int (4 : Int32)), (.int (3 : Int32))]))
        refine own_st (fun _ k => XS.icmpNo X214.here hx rfl (hb hby own_dprog_30_method_7_code_86) rfl (tlt (by decide)).2.1 (XS.aloadN X214.here hx rfl (hb hby own_dprog_30_method_7_code_89) rfl rfl (XS.iload X214.here hx rfl (hb hby own_dprog_30_method_7_code_90) rfl k))) ?_
        show own_Go p.tables e below RR (T214.setTop (mkF m 92 #[.val (.ref pa), .val (.int (4 : Int32)), .val (.ref b2), .val (.ref b30), .val (.int (2 : Int32)), .val (.int (3 : Int32)), .val (.int (3 : Int32)), .val (.int (0 : Int32))] [(.int (0 : Int32)), (.ref b2)]))
        have f217 := (f188.other W214 ne68)
        obtain ⟨c218, A218, q218, s218, m218, H218, G218⟩ := id f217
        have b218 := inb_of (j := (0 : Int32)) s218 ⟨by decide, by decide⟩
        refine own_st (fun _ k => X214.iaload hx (j := (0 : Int32)) (v := (.int pp3)) (by rw [e214]; exact A218.1) (State.isArrayOf_alike hZ.alike A218.2.1) A218.2.2 b218 (Has.at H218 b218 rfl) (g := (mkF m 92 #[.val (.ref pa), .val (.int (4 : Int32)), .val (.ref b2), .val (.ref b30), .val (.int (2 : Int32)), .val (.int (3 : Int32)), .val (.int (3 : Int32)), .val (.int (0 : Int32))] [(.int (0 : Int32)), (.ref b2)])) rfl rfl (hb hby own_dprog_30_method_7_code_92) _ (XS.aloadN X214.here hx rfl (hb hby own_dprog_30_method_7_code_93) rfl rfl (XS.iload X214.here hx rfl (hb hby own_dprog_30_method_7_code_94) rfl (XS.iload X214.here hx rfl (hb hby own_dprog_30_method_7_code_96) rfl (XS.iadd X214.here hx rfl (hb hby own_dprog_30_method_7_code_98) rfl k))))) ?_
        show own_Go p.tables e below RR (T214.setTop (mkF m 99 #[.val (.ref pa), .val (.int (4 : Int32)), .val (.ref b2), .val (.ref b30), .val (.int (2 : Int32)), .val (.int (3 : Int32)), .val (.int (3 : Int32)), .val (.int (0 : Int32))] [(.int (3 : Int32)), (.ref b2), (.int pp3)]))
        obtain ⟨c219, A219, q219, s219, m219, H219, G219⟩ := id f217
        have b219 := inb_of (j := (3 : Int32)) s219 ⟨by decide, by decide⟩
        refine own_st (fun _ k => X214.iaload hx (j := (3 : Int32)) (v := (.int pp0)) (by rw [e214]; exact A219.1) (State.isArrayOf_alike hZ.alike A219.2.1) A219.2.2 b219 (Has.at H219 b219 rfl) (g := (mkF m 99 #[.val (.ref pa), .val (.int (4 : Int32)), .val (.ref b2), .val (.ref b30), .val (.int (2 : Int32)), .val (.int (3 : Int32)), .val (.int (3 : Int32)), .val (.int (0 : Int32))] [(.int (3 : Int32)), (.ref b2), (.int pp3)])) rfl rfl (hb hby own_dprog_30_method_7_code_99) _ k) ?_
        show own_Go p.tables e below RR (T214.setTop (mkF m 100 #[.val (.ref pa), .val (.int (4 : Int32)), .val (.ref b2), .val (.ref b30), .val (.int (2 : Int32)), .val (.int (3 : Int32)), .val (.int (3 : Int32)), .val (.int (0 : Int32))] [(.int pp0), (.int pp3)]))
        by_cases hc100_220 : pp3 = pp0
        · refine own_st (fun _ k => XS.icmpNo X214.here hx rfl (hb hby own_dprog_30_method_7_code_100) rfl (teq hc100_220).2 (XS.iinc X214.here hx rfl (hb hby own_dprog_30_method_7_code_103) rfl (l' := #[.val (.ref pa), .val (.int (4 : Int32)), .val (.ref b2), .val (.ref b30), .val (.int (2 : Int32)), .val (.int (3 : Int32)), .val (.int (3 : Int32)), .val (.int (1 : Int32))]) rfl (XS.goto X214.here hx rfl (pc0 := 106) (pc' := 80) rfl (hb hby own_dprog_30_method_7_code_106) (by decide) (by decide) (XS.iload X214.here hx rfl (hb hby own_dprog_30_method_7_code_80) rfl (XS.iload X214.here hx rfl (hb hby own_dprog_30_method_7_code_82) rfl (XS.iadd X214.here hx rfl (hb hby own_dprog_30_method_7_code_84) rfl (XS.iloadN X214.here hx rfl (hb hby own_dprog_30_method_7_code_85) rfl k))))))) ?_
          show own_Go p.tables e below RR (T214.setTop (mkF m 86 #[.val (.ref pa), .val (.int (4 : Int32)), .val (.ref b2), .val (.ref b30), .val (.int (2 : Int32)), .val (.int (3 : Int32)), .val (.int (3 : Int32)), .val (.int (1 : Int32))] [(.int (4 : Int32)), (.int (4 : Int32))]))
          refine own_st (fun _ k => XS.icmpYes X214.here hx rfl (pc0 := 86) (pc' := 109) rfl (hb hby own_dprog_30_method_7_code_86) rfl (flt (by decide)).2.1 (by decide) (by decide) (XS.aloadN X214.here hx rfl (hb hby own_dprog_30_method_7_code_109) rfl rfl (XS.iload X214.here hx rfl (hb hby own_dprog_30_method_7_code_110) rfl (XS.iload X214.here hx rfl (hb hby own_dprog_30_method_7_code_112) rfl k)))) ?_
          show own_Go p.tables e below RR (T214.setTop (mkF m 114 #[.val (.ref pa), .val (.int (4 : Int32)), .val (.ref b2), .val (.ref b30), .val (.int (2 : Int32)), .val (.int (3 : Int32)), .val (.int (3 : Int32)), .val (.int (1 : Int32))] [(.int (1 : Int32)), (.int (3 : Int32)), (.ref b30)]))
          obtain ⟨c221, A221, q221, s221, m221, H221, G221⟩ := id V214
          obtain ⟨T222, h222, X222, e222, W222, st222⟩ := stI X214 hx hZ e214 A221 (j := (3 : Int32)) (inb_of s221 ⟨by decide, by decide⟩) (g := (mkF m 114 #[.val (.ref pa), .val (.int (4 : Int32)), .val (.ref b2), .val (.ref b30), .val (.int (2 : Int32)), .val (.int (3 : Int32)), .val (.int (3 : Int32)), .val (.int (1 : Int32))] [(.int (1 : Int32)), (.int (3 : Int32)), (.ref b30)])) rfl rfl (hb hby own_dprog_30_method_7_code_114)
          have V222 := Arv.set A221 q221 s221 m221 H221 G221 rfl W222 3 rfl (Nat.le_of_ble_eq_true rfl)
          have V222 : Arv Z h222 b30 k30 .int (4 : Int32) [(.int (4 : Int32)), (.int (0 : Int32)), (.int (1 : Int32)), (.int (1 : Int32))] (.int (0 : Int32)) := V222
          have N222 := Fr.snoc X222 N214 ge30
          refine own_st st222 ?_
          have z223 : n0 ≤ h222.size := Nat.le_trans z215 (Keep.of_wr W222).1
          have kk224 : Keep h0 h222 [] := kk216.wr W222 (Or.inr sz30)
          show own_Go p.tables e below RR (T222.setTop (mkF m 115 #[.val (.ref pa), .val (.int (4 : Int32)), .val (.ref b2), .val (.ref b30), .val (.int (2 : Int32)), .val (.int (3 : Int32)), .val (.int (3 : Int32)), .val (.int (1 : Int32))] []))
          refine own_st (fun _ k => XS.iload X222.here hx rfl (hb hby own_dprog_30_method_7_code_115) rfl (XS.iload X222.here hx rfl (hb hby own_dprog_30_method_7_code_117) rfl (XS.iadd X222.here hx rfl (hb hby own_dprog_30_method_7_code_119) rfl (XS.iload X222.here hx rfl (hb hby own_dprog_30_method_7_code_120) rfl k)))) ?_
          show own_Go p.tables e below RR (T222.setTop (mkF m 122 #[.val (.ref pa), .val (.int (4 : Int32)), .val (.ref b2), .val (.ref b30), .val (.int (2 : Int32)), .val (.int (3 : Int32)), .val (.int (3 : Int32)), .val (.int (1 : Int32))] [(.int (3 : Int32)), (.int (4 : Int32))]))
          refine own_st (fun _ k => XS.icmpNo X222.here hx rfl (hb hby own_dprog_30_method_7_code_122) rfl (tlt (by decide)).2.2.2 (XS.iload X222.here hx rfl (hb hby own_dprog_30_method_7_code_125) rfl (XS.istore X222.here hx rfl (hb hby own_dprog_30_method_7_code_127) rfl (l' := #[.val (.ref pa), .val (.int (4 : Int32)), .val (.ref b2), .val (.ref b30), .val (.int (3 : Int32)), .val (.int (3 : Int32)), .val (.int (3 : Int32)), .val (.int (1 : Int32))]) rfl (XS.iload X222.here hx rfl (hb hby own_dprog_30_method_7_code_129) rfl (XS.iload X222.here hx rfl (hb hby own_dprog_30_method_7_code_131) rfl (XS.iadd X222.here hx rfl (hb hby own_dprog_30_method_7_code_133) rfl (XS.istore X222.here hx rfl (hb hby own_dprog_30_method_7_code_134) rfl (l' := #[.val (.ref pa), .val (.int (4 : Int32)), .val (.ref b2), .val (.ref b30), .val (.int (3 : Int32)), .val (.int (4 : Int32)), .val (.int (3 : Int32)), .val (.int (1 : Int32))]) rfl (XS.iinc X222.here hx rfl (hb hby own_dprog_30_method_7_code_136) rfl (l' := #[.val (.ref pa), .val (.int (4 : Int32)), .val (.ref b2), .val (.ref b30), .val (.int (3 : Int32)), .val (.int (4 : Int32)), .val (.int (4 : Int32)), .val (.int (1 : Int32))]) rfl k)))))))) ?_
          show own_Go p.tables e below RR (T222.setTop (mkF m 139 #[.val (.ref pa), .val (.int (4 : Int32)), .val (.ref b2), .val (.ref b30), .val (.int (3 : Int32)), .val (.int (4 : Int32)), .val (.int (4 : Int32)), .val (.int (1 : Int32))] []))
          refine own_st (fun _ k => XS.goto X222.here hx rfl (pc0 := 139) (pc' := 47) rfl (hb hby own_dprog_30_method_7_code_139) (by decide) (by decide) (XS.iload X222.here hx rfl (hb hby own_dprog_30_method_7_code_47) rfl (XS.iloadN X222.here hx rfl (hb hby own_dprog_30_method_7_code_49) rfl k))) ?_
          show own_Go p.tables e below RR (T222.setTop (mkF m 50 #[.val (.ref pa), .val (.int (4 : Int32)), .val (.ref b2), .val (.ref b30), .val (.int (3 : Int32)), .val (.int (4 : Int32)), .val (.int (4 : Int32)), .val (.int (1 : Int32))] [(.int (4 : Int32)), (.int (4 : Int32))]))
          refine own_st (fun _ k => XS.icmpYes X222.here hx rfl (pc0 := 50) (pc' := 142) rfl (hb hby own_dprog_30_method_7_code_50) rfl (flt (by decide)).2.1 (by decide) (by decide) k) ?_
          show own_Go p.tables e below RR (T222.setTop (mkF m 142 #[.val (.ref pa), .val (.int (4 : Int32)), .val (.ref b2), .val (.ref b30), .val (.int (3 : Int32)), .val (.int (4 : Int32)), .val (.int (4 : Int32)), .val (.int (1 : Int32))] []))
          exact jnh37 T222 _ h222 (3 : Int32) (4 : Int32) (1 : Int32) (4 : Int32) (0 : Int32) (1 : Int32) (1 : Int32) X222 e222 N222 ((((Keep.refl _ _).wr W185 (Or.inl (List.mem_of_getElem? (i := 0) rfl))).wr W214 (Or.inl (List.mem_of_getElem? (i := 0) rfl))).wr W222 (Or.inl (List.mem_of_getElem? (i := 0) rfl))) V222 (by decide) (by decide) (by decide) (by decide)
        · refine own_st (fun _ k => XS.icmpYes X214.here hx rfl (pc0 := 100) (pc' := 109) rfl (hb hby own_dprog_30_method_7_code_100) rfl (feq hc100_220).2 (by decide) (by decide) (XS.aloadN X214.here hx rfl (hb hby own_dprog_30_method_7_code_109) rfl rfl (XS.iload X214.here hx rfl (hb hby own_dprog_30_method_7_code_110) rfl (XS.iload X214.here hx rfl (hb hby own_dprog_30_method_7_code_112) rfl k)))) ?_
          show own_Go p.tables e below RR (T214.setTop (mkF m 114 #[.val (.ref pa), .val (.int (4 : Int32)), .val (.ref b2), .val (.ref b30), .val (.int (2 : Int32)), .val (.int (3 : Int32)), .val (.int (3 : Int32)), .val (.int (0 : Int32))] [(.int (0 : Int32)), (.int (3 : Int32)), (.ref b30)]))
          obtain ⟨c225, A225, q225, s225, m225, H225, G225⟩ := id V214
          obtain ⟨T226, h226, X226, e226, W226, st226⟩ := stI X214 hx hZ e214 A225 (j := (3 : Int32)) (inb_of s225 ⟨by decide, by decide⟩) (g := (mkF m 114 #[.val (.ref pa), .val (.int (4 : Int32)), .val (.ref b2), .val (.ref b30), .val (.int (2 : Int32)), .val (.int (3 : Int32)), .val (.int (3 : Int32)), .val (.int (0 : Int32))] [(.int (0 : Int32)), (.int (3 : Int32)), (.ref b30)])) rfl rfl (hb hby own_dprog_30_method_7_code_114)
          have V226 := Arv.set A225 q225 s225 m225 H225 G225 rfl W226 3 rfl (Nat.le_of_ble_eq_true rfl)
          have V226 : Arv Z h226 b30 k30 .int (4 : Int32) [(.int (4 : Int32)), (.int (0 : Int32)), (.int (1 : Int32)), (.int (0 : Int32))] (.int (0 : Int32)) := V226
          have N226 := Fr.snoc X226 N214 ge30
          refine own_st st226 ?_
          have z227 : n0 ≤ h226.size := Nat.le_trans z215 (Keep.of_wr W226).1
          have kk228 : Keep h0 h226 [] := kk216.wr W226 (Or.inr sz30)
          show own_Go p.tables e below RR (T226.setTop (mkF m 115 #[.val (.ref pa), .val (.int (4 : Int32)), .val (.ref b2), .val (.ref b30), .val (.int (2 : Int32)), .val (.int (3 : Int32)), .val (.int (3 : Int32)), .val (.int (0 : Int32))] []))
          refine own_st (fun _ k => XS.iload X226.here hx rfl (hb hby own_dprog_30_method_7_code_115) rfl (XS.iload X226.here hx rfl (hb hby own_dprog_30_method_7_code_117) rfl (XS.iadd X226.here hx rfl (hb hby own_dprog_30_method_7_code_119) rfl (XS.iload X226.here hx rfl (hb hby own_dprog_30_method_7_code_120) rfl k)))) ?_
          show own_Go p.tables e below RR (T226.setTop (mkF m 122 #[.val (.ref pa), .val (.int (4 : Int32)), .val (.ref b2), .val (.ref b30), .val (.int (2 : Int32)), .val (.int (3 : Int32)), .val (.int (3 : Int32)), .val (.int (0 : Int32))] [(.int (3 : Int32)), (.int (3 : Int32))]))
          refine own_st (fun _ k => XS.icmpYes X226.here hx rfl (pc0 := 122) (pc' := 136) rfl (hb hby own_dprog_30_method_7_code_122) rfl (flt (by decide)).2.2.2 (by decide) (by decide) (XS.iinc X226.here hx rfl (hb hby own_dprog_30_method_7_code_136) rfl (l' := #[.val (.ref pa), .val (.int (4 : Int32)), .val (.ref b2), .val (.ref b30), .val (.int (2 : Int32)), .val (.int (3 : Int32)), .val (.int (4 : Int32)), .val (.int (0 : Int32))]) rfl (XS.goto X226.here hx rfl (pc0 := 139) (pc' := 47) rfl (hb hby own_dprog_30_method_7_code_139) (by decide) (by decide) (XS.iload X226.here hx rfl (hb hby own_dprog_30_method_7_code_47) rfl (XS.iloadN X226.here hx rfl (hb hby own_dprog_30_method_7_code_49) rfl k))))) ?_
          show own_Go p.tables e below RR (T226.setTop (mkF m 50 #[.val (.ref pa), .val (.int (4 : Int32)), .val (.ref b2), .val (.ref b30), .val (.int (2 : Int32)), .val (.int (3 : Int32)), .val (.int (4 : Int32)), .val (.int (0 : Int32))] [(.int (4 : Int32)), (.int (4 : Int32))]))
          refine own_st (fun _ k => XS.icmpYes X226.here hx rfl (pc0 := 50) (pc' := 142) rfl (hb hby own_dprog_30_method_7_code_50) rfl (flt (by decide)).2.1 (by decide) (by decide) k) ?_
          show own_Go p.tables e below RR (T226.setTop (mkF m 142 #[.val (.ref pa), .val (.int (4 : Int32)), .val (.ref b2), .val (.ref b30), .val (.int (2 : Int32)), .val (.int (3 : Int32)), .val (.int (4 : Int32)), .val (.int (0 : Int32))] []))
          exact jnh37 T226 _ h226 (2 : Int32) (3 : Int32) (0 : Int32) (4 : Int32) (0 : Int32) (1 : Int32) (0 : Int32) X226 e226 N226 ((((Keep.refl _ _).wr W185 (Or.inl (List.mem_of_getElem? (i := 0) rfl))).wr W214 (Or.inl (List.mem_of_getElem? (i := 0) rfl))).wr W226 (Or.inl (List.mem_of_getElem? (i := 0) rfl))) V226 (by decide) (by decide) (by decide) (by decide)
    · refine own_st (fun _ k => XS.icmpYes X185.here hx rfl (pc0 := 100) (pc' := 109) rfl (hb hby own_dprog_30_method_7_code_100) rfl (feq hc100_191).2 (by decide) (by decide) (XS.aloadN X185.here hx rfl (hb hby own_dprog_30_method_7_code_109) rfl rfl (XS.iload X185.here hx rfl (hb hby own_dprog_30_method_7_code_110) rfl (XS.iload X185.here hx rfl (hb hby own_dprog_30_method_7_code_112) rfl k)))) ?_
      show own_Go p.tables e below RR (T185.setTop (mkF m 114 #[.val (.ref pa), .val (.int (4 : Int32)), .val (.ref b2), .val (.ref b30), .val (.int (1 : Int32)), .val (.int (1 : Int32)), .val (.int (2 : Int32)), .val (.int (0 : Int32))] [(.int (0 : Int32)), (.int (2 : Int32)), (.ref b30)]))
      obtain ⟨c229, A229, q229, s229, m229, H229, G229⟩ := id V185
      obtain ⟨T230, h230, X230, e230, W230, st230⟩ := stI X185 hx hZ e185 A229 (j := (2 : Int32)) (inb_of s229 ⟨by decide, by decide⟩) (g := (mkF m 114 #[.val (.ref pa), .val (.int (4 : Int32)), .val (.ref b2), .val (.ref b30), .val (.int (1 : Int32)), .val (.int (1 : Int32)), .val (.int (2 : Int32)), .val (.int (0 : Int32))] [(.int (0 : Int32)), (.int (2 : Int32)), (.ref b30)])) rfl rfl (hb hby own_dprog_30_method_7_code_114)
      have V230 := Arv.set A229 q229 s229 m229 H229 G229 rfl W230 2 rfl (Nat.le_of_ble_eq_true rfl)
      have V230 : Arv Z h230 b30 k30 .int (4 : Int32) [(.int (4 : Int32)), (.int (0 : Int32)), (.int (0 : Int32)), (.int (0 : Int32))] (.int (0 : Int32)) := V230
      have N230 := Fr.snoc X230 N185 ge30
      refine own_st st230 ?_
      have z231 : n0 ≤ h230.size := Nat.le_trans z186 (Keep.of_wr W230).1
      have kk232 : Keep h0 h230 [] := kk187.wr W230 (Or.inr sz30)
      show own_Go p.tables e below RR (T230.setTop (mkF m 115 #[.val (.ref pa), .val (.int (4 : Int32)), .val (.ref b2), .val (.ref b30), .val (.int (1 : Int32)), .val (.int (1 : Int32)), .val (.int (2 : Int32)), .val (.int (0 : Int32))] []))
      refine own_st (fun _ k => XS.iload X230.here hx rfl (hb hby own_dprog_30_method_7_code_115) rfl (XS.iload X230.here hx rfl (hb hby own_dprog_30_method_7_code_117) rfl (XS.iadd X230.here hx rfl (hb hby own_dprog_30_method_7_code_119) rfl (XS.iload X230.here hx rfl (hb hby own_dprog_30_method_7_code_120) rfl k)))) ?_
      show own_Go p.tables e below RR (T230.setTop (mkF m 122 #[.val (.ref pa), .val (.int (4 : Int32)), .val (.ref b2), .val (.ref b30), .val (.int (1 : Int32)), .val (.int (1 : Int32)), .val (.int (2 : Int32)), .val (.int (0 : Int32))] [(.int (1 : Int32)), (.int (2 : Int32))]))
      refine own_st (fun _ k => XS.icmpNo X230.here hx rfl (hb hby own_dprog_30_method_7_code_122) rfl (tlt (by decide)).2.2.2 (XS.iload X230.here hx rfl (hb hby own_dprog_30_method_7_code_125) rfl (XS.istore X230.here hx rfl (hb hby own_dprog_30_method_7_code_127) rfl (l' := #[.val (.ref pa), .val (.int (4 : Int32)), .val (.ref b2), .val (.ref b30), .val (.int (2 : Int32)), .val (.int (1 : Int32)), .val (.int (2 : Int32)), .val (.int (0 : Int32))]) rfl (XS.iload X230.here hx rfl (hb hby own_dprog_30_method_7_code_129) rfl (XS.iload X230.here hx rfl (hb hby own_dprog_30_method_7_code_131) rfl (XS.iadd X230.here hx rfl (hb hby own_dprog_30_method_7_code_133) rfl (XS.istore X230.here hx rfl (hb hby own_dprog_30_method_7_code_134) rfl (l' := #[.val (.ref pa), .val (.int (4 : Int32)), .val (.ref b2), .val (.ref b30), .val (.int (2 : Int32)), .val (.int (2 : Int32)), .val (.int (2 : Int32)), .val (.int (0 : Int32))]) rfl (XS.iinc X230.here hx rfl (hb hby own_dprog_30_method_7_code_136) rfl (l' := #[.val (.ref pa), .val (.int (4 : Int32)), .val (.ref b2), .val (.ref b30), .val (.int (2 : Int32)), .val (.int (2 : Int32)), .val (.int (3 : Int32)), .val (.int (0 : Int32))]) rfl k)))))))) ?_
      show own_Go p.tables e below RR (T230.setTop (mkF m 139 #[.val (.ref pa), .val (.int (4 : Int32)), .val (.ref b2), .val (.ref b30), .val (.int (2 : Int32)), .val (.int (2 : Int32)), .val (.int (3 : Int32)), .val (.int (0 : Int32))] []))
      refine own_st (fun _ k => XS.goto X230.here hx rfl (pc0 := 139) (pc' := 47) rfl (hb hby own_dprog_30_method_7_code_139) (by decide) (by decide) (XS.iload X230.here hx rfl (hb hby own_dprog_30_method_7_code_47) rfl (XS.iloadN X230.here hx rfl (hb hby own_dprog_30_method_7_code_49) rfl k))) ?_
      show own_Go p.tables e below RR (T230.setTop (mkF m 50 #[.val (.ref pa), .val (.int (4 : Int32)), .val (.ref b2), .val (.ref b30), .val (.int (2 : Int32)), .val (.int (2 : Int32)), .val (.int (3 : Int32)), .val (.int (0 : Int32))] [(.int (4 : Int32)), (.int (3 : Int32))]))
      refine own_st (fun _ k => XS.icmpNo X230.here hx rfl (hb hby own_dprog_30_method_7_code_50) rfl (tlt (by decide)).2.1 (XS.iconst X230.here hx rfl (hb hby own_dprog_30_method_7_code_53) (XS.istore X230.here hx rfl (hb hby own_dprog_30_method_7_code_54) rfl (l' := #[.val (.ref pa), .val (.int (4 : Int32)), .val (.ref b2), .val (.ref b30), .val (.int (2 : Int32)), .val (.int (2 : Int32)), .val (.int (3 : Int32)), .val (.int (0 : Int32))]) rfl (XS.iload X230.here hx rfl (hb hby own_dprog_30_method_7_code_56) rfl (XS.iload X230.here hx rfl (hb hby own_dprog_30_method_7_code_58) rfl k))))) ?_
      show own_Go p.tables e below RR (T230.setTop (mkF m 60 #[.val (.ref pa), .val (.int (4 : Int32)), .val (.ref b2), .val (.ref b30), .val (.int (2 : Int32)), .val (.int (2 : Int32)), .val (.int (3 : Int32)), .val (.int (0 : Int32))] [(.int (2 : Int32)), (.int (3 : Int32))]))
      refine own_st (fun _ k => XS.icmpYes X230.here hx rfl (pc0 := 60) (pc' := 80) rfl (hb hby own_dprog_30_method_7_code_60) rfl (flt (by decide)).2.1 (by decide) (by decide) (XS.iload X230.here hx rfl (hb hby own_dprog_30_method_7_code_80) rfl (XS.iload X230.here hx rfl (hb hby own_dprog_30_method_7_code_82) rfl (XS.iadd X230.here hx rfl (hb hby own_dprog_30_method_7_code_84) rfl (XS.iloadN X230.here hx rfl (hb hby own_dprog_30_method_7_code_85) rfl k))))) ?_
      show own_Go p.tables e below RR (T230.setTop (mkF m 86 #[.val (.ref pa), .val (.int (4 : Int32)), .val (.ref b2), .val (.ref b30), .val (.int (2 : Int32)), .val (.int (2 : Int32)), .val (.int (3 : Int32)), .val (.int (0 : Int32))] [(.int (4 : Int32)), (.int (3 : Int32))]))
      refine own_st (fun _ k => XS.icmpNo X230.here hx rfl (hb hby own_dprog_30_method_7_code_86) rfl (tlt (by decide)).2.1 (XS.aloadN X230.here hx rfl (hb hby own_dprog_30_method_7_code_89) rfl rfl (XS.iload X230.here hx rfl (hb hby own_dprog_30_method_7_code_90) rfl k))) ?_
      show own_Go p.tables e below RR (T230.setTop (mkF m 92 #[.val (.ref pa), .val (.int (4 : Int32)), .val (.ref b2), .val (.ref b30), .val (.int (2 : Int32)), .val (.int (2 : Int32)), .val (.int (3 : Int32)), .val (.int (0 : Int32))] [(.int (0 : Int32)), (.ref b2)]))
      have f233 := (f188.other W230 ne68)
      obtain ⟨c234, A234, q234, s234, m234, H234, G234⟩ := id f233
      have b234 := inb_of (j := (0 : Int32)) s234 ⟨by decide, by decide⟩
      refine own_st (fun _ k => X230.iaload hx (j := (0 : Int32)) (v := (.int pp3)) (by rw [e230]; exact A234.1) (State.isArrayOf_alike hZ.alike A234.2.1) A234.2.2 b234 (Has.at H234 b234 rfl) (g := (mkF m 92 #[.val (.ref pa), .val (.int (4 : Int32)), .val (.ref b2), .val (.ref b30), .val (.int (2 : Int32)), .val (.int (2 : Int32)), .val (.int (3 : Int32)), .val (.int (0 : Int32))] [(.int (0 : Int32)), (.ref b2)])) rfl rfl (hb hby own_dprog_30_method_7_code_92) _ (XS.aloadN X230.here hx rfl (hb hby own_dprog_30_method_7_code_93) rfl rfl (XS.iload X230.here hx rfl (hb hby own_dprog_30_method_7_code_94) rfl (XS.iload X230.here hx rfl (hb hby own_dprog_30_method_7_code_96) rfl (XS.iadd X230.here hx rfl (hb hby own_dprog_30_method_7_code_98) rfl k))))) ?_
      show own_Go p.tables e below RR (T230.setTop (mkF m 99 #[.val (.ref pa), .val (.int (4 : Int32)), .val (.ref b2), .val (.ref b30), .val (.int (2 : Int32)), .val (.int (2 : Int32)), .val (.int (3 : Int32)), .val (.int (0 : Int32))] [(.int (3 : Int32)), (.ref b2), (.int pp3)]))
      obtain ⟨c235, A235, q235, s235, m235, H235, G235⟩ := id f233
      have b235 := inb_of (j := (3 : Int32)) s235 ⟨by decide, by decide⟩
      refine own_st (fun _ k => X230.iaload hx (j := (3 : Int32)) (v := (.int pp0)) (by rw [e230]; exact A235.1) (State.isArrayOf_alike hZ.alike A235.2.1) A235.2.2 b235 (Has.at H235 b235 rfl) (g := (mkF m 99 #[.val (.ref pa), .val (.int (4 : Int32)), .val (.ref b2), .val (.ref b30), .val (.int (2 : Int32)), .val (.int (2 : Int32)), .val (.int (3 : Int32)), .val (.int (0 : Int32))] [(.int (3 : Int32)), (.ref b2), (.int pp3)])) rfl rfl (hb hby own_dprog_30_method_7_code_99) _ k) ?_
      show own_Go p.tables e below RR (T230.setTop (mkF m 100 #[.val (.ref pa), .val (.int (4 : Int32)), .val (.ref b2), .val (.ref b30), .val (.int (2 : Int32)), .val (.int (2 : Int32)), .val (.int (3 : Int32)), .val (.int (0 : Int32))] [(.int pp0), (.int pp3)]))
      by_cases hc100_236 : pp3 = pp0
      · refine own_st (fun _ k => XS.icmpNo X230.here hx rfl (hb hby own_dprog_30_method_7_code_100) rfl (teq hc100_236).2 (XS.iinc X230.here hx rfl (hb hby own_dprog_30_method_7_code_103) rfl (l' := #[.val (.ref pa), .val (.int (4 : Int32)), .val (.ref b2), .val (.ref b30), .val (.int (2 : Int32)), .val (.int (2 : Int32)), .val (.int (3 : Int32)), .val (.int (1 : Int32))]) rfl (XS.goto X230.here hx rfl (pc0 := 106) (pc' := 80) rfl (hb hby own_dprog_30_method_7_code_106) (by decide) (by decide) (XS.iload X230.here hx rfl (hb hby own_dprog_30_method_7_code_80) rfl (XS.iload X230.here hx rfl (hb hby own_dprog_30_method_7_code_82) rfl (XS.iadd X230.here hx rfl (hb hby own_dprog_30_method_7_code_84) rfl (XS.iloadN X230.here hx rfl (hb hby own_dprog_30_method_7_code_85) rfl k))))))) ?_
        show own_Go p.tables e below RR (T230.setTop (mkF m 86 #[.val (.ref pa), .val (.int (4 : Int32)), .val (.ref b2), .val (.ref b30), .val (.int (2 : Int32)), .val (.int (2 : Int32)), .val (.int (3 : Int32)), .val (.int (1 : Int32))] [(.int (4 : Int32)), (.int (4 : Int32))]))
        refine own_st (fun _ k => XS.icmpYes X230.here hx rfl (pc0 := 86) (pc' := 109) rfl (hb hby own_dprog_30_method_7_code_86) rfl (flt (by decide)).2.1 (by decide) (by decide) (XS.aloadN X230.here hx rfl (hb hby own_dprog_30_method_7_code_109) rfl rfl (XS.iload X230.here hx rfl (hb hby own_dprog_30_method_7_code_110) rfl (XS.iload X230.here hx rfl (hb hby own_dprog_30_method_7_code_112) rfl k)))) ?_
        show own_Go p.tables e below RR (T230.setTop (mkF m 114 #[.val (.ref pa), .val (.int (4 : Int32)), .val (.ref b2), .val (.ref b30), .val (.int (2 : Int32)), .val (.int (2 : Int32)), .val (.int (3 : Int32)), .val (.int (1 : Int32))] [(.int (1 : Int32)), (.int (3 : Int32)), (.ref b30)]))
        obtain ⟨c237, A237, q237, s237, m237, H237, G237⟩ := id V230
        obtain ⟨T238, h238, X238, e238, W238, st238⟩ := stI X230 hx hZ e230 A237 (j := (3 : Int32)) (inb_of s237 ⟨by decide, by decide⟩) (g := (mkF m 114 #[.val (.ref pa), .val (.int (4 : Int32)), .val (.ref b2), .val (.ref b30), .val (.int (2 : Int32)), .val (.int (2 : Int32)), .val (.int (3 : Int32)), .val (.int (1 : Int32))] [(.int (1 : Int32)), (.int (3 : Int32)), (.ref b30)])) rfl rfl (hb hby own_dprog_30_method_7_code_114)
        have V238 := Arv.set A237 q237 s237 m237 H237 G237 rfl W238 3 rfl (Nat.le_of_ble_eq_true rfl)
        have V238 : Arv Z h238 b30 k30 .int (4 : Int32) [(.int (4 : Int32)), (.int (0 : Int32)), (.int (0 : Int32)), (.int (1 : Int32))] (.int (0 : Int32)) := V238
        have N238 := Fr.snoc X238 N230 ge30
        refine own_st st238 ?_
        have z239 : n0 ≤ h238.size := Nat.le_trans z231 (Keep.of_wr W238).1
        have kk240 : Keep h0 h238 [] := kk232.wr W238 (Or.inr sz30)
        show own_Go p.tables e below RR (T238.setTop (mkF m 115 #[.val (.ref pa), .val (.int (4 : Int32)), .val (.ref b2), .val (.ref b30), .val (.int (2 : Int32)), .val (.int (2 : Int32)), .val (.int (3 : Int32)), .val (.int (1 : Int32))] []))
        refine own_st (fun _ k => XS.iload X238.here hx rfl (hb hby own_dprog_30_method_7_code_115) rfl (XS.iload X238.here hx rfl (hb hby own_dprog_30_method_7_code_117) rfl (XS.iadd X238.here hx rfl (hb hby own_dprog_30_method_7_code_119) rfl (XS.iload X238.here hx rfl (hb hby own_dprog_30_method_7_code_120) rfl k)))) ?_
        show own_Go p.tables e below RR (T238.setTop (mkF m 122 #[.val (.ref pa), .val (.int (4 : Int32)), .val (.ref b2), .val (.ref b30), .val (.int (2 : Int32)), .val (.int (2 : Int32)), .val (.int (3 : Int32)), .val (.int (1 : Int32))] [(.int (2 : Int32)), (.int (4 : Int32))]))
        refine own_st (fun _ k => XS.icmpNo X238.here hx rfl (hb hby own_dprog_30_method_7_code_122) rfl (tlt (by decide)).2.2.2 (XS.iload X238.here hx rfl (hb hby own_dprog_30_method_7_code_125) rfl (XS.istore X238.here hx rfl (hb hby own_dprog_30_method_7_code_127) rfl (l' := #[.val (.ref pa), .val (.int (4 : Int32)), .val (.ref b2), .val (.ref b30), .val (.int (3 : Int32)), .val (.int (2 : Int32)), .val (.int (3 : Int32)), .val (.int (1 : Int32))]) rfl (XS.iload X238.here hx rfl (hb hby own_dprog_30_method_7_code_129) rfl (XS.iload X238.here hx rfl (hb hby own_dprog_30_method_7_code_131) rfl (XS.iadd X238.here hx rfl (hb hby own_dprog_30_method_7_code_133) rfl (XS.istore X238.here hx rfl (hb hby own_dprog_30_method_7_code_134) rfl (l' := #[.val (.ref pa), .val (.int (4 : Int32)), .val (.ref b2), .val (.ref b30), .val (.int (3 : Int32)), .val (.int (4 : Int32)), .val (.int (3 : Int32)), .val (.int (1 : Int32))]) rfl (XS.iinc X238.here hx rfl (hb hby own_dprog_30_method_7_code_136) rfl (l' := #[.val (.ref pa), .val (.int (4 : Int32)), .val (.ref b2), .val (.ref b30), .val (.int (3 : Int32)), .val (.int (4 : Int32)), .val (.int (4 : Int32)), .val (.int (1 : Int32))]) rfl k)))))))) ?_
        show own_Go p.tables e below RR (T238.setTop (mkF m 139 #[.val (.ref pa), .val (.int (4 : Int32)), .val (.ref b2), .val (.ref b30), .val (.int (3 : Int32)), .val (.int (4 : Int32)), .val (.int (4 : Int32)), .val (.int (1 : Int32))] []))
        refine own_st (fun _ k => XS.goto X238.here hx rfl (pc0 := 139) (pc' := 47) rfl (hb hby own_dprog_30_method_7_code_139) (by decide) (by decide) (XS.iload X238.here hx rfl (hb hby own_dprog_30_method_7_code_47) rfl (XS.iloadN X238.here hx rfl (hb hby own_dprog_30_method_7_code_49) rfl k))) ?_
        show own_Go p.tables e below RR (T238.setTop (mkF m 50 #[.val (.ref pa), .val (.int (4 : Int32)), .val (.ref b2), .val (.ref b30), .val (.int (3 : Int32)), .val (.int (4 : Int32)), .val (.int (4 : Int32)), .val (.int (1 : Int32))] [(.int (4 : Int32)), (.int (4 : Int32))]))
        refine own_st (fun _ k => XS.icmpYes X238.here hx rfl (pc0 := 50) (pc' := 142) rfl (hb hby own_dprog_30_method_7_code_50) rfl (flt (by decide)).2.1 (by decide) (by decide) k) ?_
        show own_Go p.tables e below RR (T238.setTop (mkF m 142 #[.val (.ref pa), .val (.int (4 : Int32)), .val (.ref b2), .val (.ref b30), .val (.int (3 : Int32)), .val (.int (4 : Int32)), .val (.int (4 : Int32)), .val (.int (1 : Int32))] []))
        exact jnh37 T238 _ h238 (3 : Int32) (4 : Int32) (1 : Int32) (4 : Int32) (0 : Int32) (0 : Int32) (1 : Int32) X238 e238 N238 ((((Keep.refl _ _).wr W185 (Or.inl (List.mem_of_getElem? (i := 0) rfl))).wr W230 (Or.inl (List.mem_of_getElem? (i := 0) rfl))).wr W238 (Or.inl (List.mem_of_getElem? (i := 0) rfl))) V238 (by decide) (by decide) (by decide) (by decide)
      · refine own_st (fun _ k => XS.icmpYes X230.here hx rfl (pc0 := 100) (pc' := 109) rfl (hb hby own_dprog_30_method_7_code_100) rfl (feq hc100_236).2 (by decide) (by decide) (XS.aloadN X230.here hx rfl (hb hby own_dprog_30_method_7_code_109) rfl rfl (XS.iload X230.here hx rfl (hb hby own_dprog_30_method_7_code_110) rfl (XS.iload X230.here hx rfl (hb hby own_dprog_30_method_7_code_112) rfl k)))) ?_
        show own_Go p.tables e below RR (T230.setTop (mkF m 114 #[.val (.ref pa), .val (.int (4 : Int32)), .val (.ref b2), .val (.ref b30), .val (.int (2 : Int32)), .val (.int (2 : Int32)), .val (.int (3 : Int32)), .val (.int (0 : Int32))] [(.int (0 : Int32)), (.int (3 : Int32)), (.ref b30)]))
        obtain ⟨c241, A241, q241, s241, m241, H241, G241⟩ := id V230
        obtain ⟨T242, h242, X242, e242, W242, st242⟩ := stI X230 hx hZ e230 A241 (j := (3 : Int32)) (inb_of s241 ⟨by decide, by decide⟩) (g := (mkF m 114 #[.val (.ref pa), .val (.int (4 : Int32)), .val (.ref b2), .val (.ref b30), .val (.int (2 : Int32)), .val (.int (2 : Int32)), .val (.int (3 : Int32)), .val (.int (0 : Int32))] [(.int (0 : Int32)), (.int (3 : Int32)), (.ref b30)])) rfl rfl (hb hby own_dprog_30_method_7_code_114)
        have V242 := Arv.set A241 q241 s241 m241 H241 G241 rfl W242 3 rfl (Nat.le_of_ble_eq_true rfl)
        have V242 : Arv Z h242 b30 k30 .int (4 : Int32) [(.int (4 : Int32)), (.int (0 : Int32)), (.int (0 : Int32)), (.int (0 : Int32))] (.int (0 : Int32)) := V242
        have N242 := Fr.snoc X242 N230 ge30
        refine own_st st242 ?_
        have z243 : n0 ≤ h242.size := Nat.le_trans z231 (Keep.of_wr W242).1
        have kk244 : Keep h0 h242 [] := kk232.wr W242 (Or.inr sz30)
        show own_Go p.tables e below RR (T242.setTop (mkF m 115 #[.val (.ref pa), .val (.int (4 : Int32)), .val (.ref b2), .val (.ref b30), .val (.int (2 : Int32)), .val (.int (2 : Int32)), .val (.int (3 : Int32)), .val (.int (0 : Int32))] []))
        refine own_st (fun _ k => XS.iload X242.here hx rfl (hb hby own_dprog_30_method_7_code_115) rfl (XS.iload X242.here hx rfl (hb hby own_dprog_30_method_7_code_117) rfl (XS.iadd X242.here hx rfl (hb hby own_dprog_30_method_7_code_119) rfl (XS.iload X242.here hx rfl (hb hby own_dprog_30_method_7_code_120) rfl k)))) ?_
        show own_Go p.tables e below RR (T242.setTop (mkF m 122 #[.val (.ref pa), .val (.int (4 : Int32)), .val (.ref b2), .val (.ref b30), .val (.int (2 : Int32)), .val (.int (2 : Int32)), .val (.int (3 : Int32)), .val (.int (0 : Int32))] [(.int (2 : Int32)), (.int (3 : Int32))]))
        refine own_st (fun _ k => XS.icmpNo X242.here hx rfl (hb hby own_dprog_30_method_7_code_122) rfl (tlt (by decide)).2.2.2 (XS.iload X242.here hx rfl (hb hby own_dprog_30_method_7_code_125) rfl (XS.istore X242.here hx rfl (hb hby own_dprog_30_method_7_code_127) rfl (l' := #[.val (.ref pa), .val (.int (4 : Int32)), .val (.ref b2), .val (.ref b30), .val (.int (3 : Int32)), .val (.int (2 : Int32)), .val (.int (3 : Int32)), .val (.int (0 : Int32))]) rfl (XS.iload X242.here hx rfl (hb hby own_dprog_30_method_7_code_129) rfl (XS.iload X242.here hx rfl (hb hby own_dprog_30_method_7_code_131) rfl (XS.iadd X242.here hx rfl (hb hby own_dprog_30_method_7_code_133) rfl (XS.istore X242.here hx rfl (hb hby own_dprog_30_method_7_code_134) rfl (l' := #[.val (.ref pa), .val (.int (4 : Int32)), .val (.ref b2), .val (.ref b30), .val (.int (3 : Int32)), .val (.int (3 : Int32)), .val (.int (3 : Int32)), .val (.int (0 : Int32))]) rfl (XS.iinc X242.here hx rfl (hb hby own_dprog_30_method_7_code_136) rfl (l' := #[.val (.ref pa), .val (.int (4 : Int32)), .val (.ref b2), .val (.ref b30), .val (.int (3 : Int32)), .val (.int (3 : Int32)), .val (.int (4 : Int32)), .val (.int (0 : Int32))]) rfl k)))))))) ?_
        show own_Go p.tables e below RR (T242.setTop (mkF m 139 #[.val (.ref pa), .val (.int (4 : Int32)), .val (.ref b2), .val (.ref b30), .val (.int (3 : Int32)), .val (.int (3 : Int32)), .val (.int (4 : Int32)), .val (.int (0 : Int32))] []))
        refine own_st (fun _ k => XS.goto X242.here hx rfl (pc0 := 139) (pc' := 47) rfl (hb hby own_dprog_30_method_7_code_139) (by decide) (by decide) (XS.iload X242.here hx rfl (hb hby own_dprog_30_method_7_code_47) rfl (XS.iloadN X242.here hx rfl (hb hby own_dprog_30_method_7_code_49) rfl k))) ?_
        show own_Go p.tables e below RR (T242.setTop (mkF m 50 #[.val (.ref pa), .val (.int (4 : Int32)), .val (.ref b2), .val (.ref b30), .val (.int (3 : Int32)), .val (.int (3 : Int32)), .val (.int (4 : Int32)), .val (.int (0 : Int32))] [(.int (4 : Int32)), (.int (4 : Int32))]))
        refine own_st (fun _ k => XS.icmpYes X242.here hx rfl (pc0 := 50) (pc' := 142) rfl (hb hby own_dprog_30_method_7_code_50) rfl (flt (by decide)).2.1 (by decide) (by decide) k) ?_
        show own_Go p.tables e below RR (T242.setTop (mkF m 142 #[.val (.ref pa), .val (.int (4 : Int32)), .val (.ref b2), .val (.ref b30), .val (.int (3 : Int32)), .val (.int (3 : Int32)), .val (.int (4 : Int32)), .val (.int (0 : Int32))] []))
        exact jnh37 T242 _ h242 (3 : Int32) (3 : Int32) (0 : Int32) (4 : Int32) (0 : Int32) (0 : Int32) (0 : Int32) X242 e242 N242 ((((Keep.refl _ _).wr W185 (Or.inl (List.mem_of_getElem? (i := 0) rfl))).wr W230 (Or.inl (List.mem_of_getElem? (i := 0) rfl))).wr W242 (Or.inl (List.mem_of_getElem? (i := 0) rfl))) V242 (by decide) (by decide) (by decide) (by decide)
theorem own_dprog_30_method_6_code_0 : decode prog_30_method_6_code 0 = .ok (.aload_n 0, 1) := by decide +kernel
theorem own_dprog_30_method_6_code_1 : decode prog_30_method_6_code 1 = .ok (.arraylength, 1) := by decide +kernel
theorem own_dprog_30_method_6_code_2 : decode prog_30_method_6_code 2 = .ok (.istore_n 1, 1) := by decide +kernel
theorem own_dprog_30_method_6_code_3 : decode prog_30_method_6_code 3 = .ok (.aload_n 0, 1) := by decide +kernel
theorem own_pd___I__I : parseMethodDescriptor "([I)[I" = some ⟨[(.array .int)], some (.array .int)⟩ := by decide +kernel
theorem own_dprog_30_method_6_code_4 : decode prog_30_method_6_code 4 = .ok (.invokestatic 40, 3) := by decide +kernel
theorem own_dprog_30_method_6_code_7 : decode prog_30_method_6_code 7 = .ok (.astore_n 2, 1) := by decide +kernel
theorem own_dprog_30_method_6_code_8 : decode prog_30_method_6_code 8 = .ok (.iload_n 1, 1) := by decide +kernel
theorem own_dprog_30_method_6_code_9 : decode prog_30_method_6_code 9 = .ok (.newarray .int, 2) := by decide +kernel
theorem own_dprog_30_method_6_code_11 : decode prog_30_method_6_code 11 = .ok (.astore_n 3, 1) := by decide +kernel
theorem own_dprog_30_method_6_code_12 : decode prog_30_method_6_code 12 = .ok (.iload_n 1, 1) := by decide +kernel
theorem own_dprog_30_method_6_code_13 : decode prog_30_method_6_code 13 = .ok (.istore 4, 2) := by decide +kernel
theorem own_dprog_30_method_6_code_15 : decode prog_30_method_6_code 15 = .ok (.iload_n 1, 1) := by decide +kernel
theorem own_dprog_30_method_6_code_16 : decode prog_30_method_6_code 16 = .ok (.iconst 1, 1) := by decide +kernel
theorem own_dprog_30_method_6_code_17 : decode prog_30_method_6_code 17 = .ok (.isub, 1) := by decide +kernel
theorem own_dprog_30_method_6_code_18 : decode prog_30_method_6_code 18 = .ok (.istore 5, 2) := by decide +kernel
theorem own_dprog_30_method_6_code_20 : decode prog_30_method_6_code 20 = .ok (.iload 5, 2) := by decide +kernel
theorem own_dprog_30_method_6_code_22 : decode prog_30_method_6_code 22 = .ok (.ifCond .lt 46, 3) := by decide +kernel
theorem own_dprog_30_method_6_code_25 : decode prog_30_method_6_code 25 = .ok (.iload 5, 2) := by decide +kernel
theorem own_dprog_30_method_6_code_27 : decode prog_30_method_6_code 27 = .ok (.iconst 1, 1) := by decide +kernel
theorem own_dprog_30_method_6_code_28 : decode prog_30_method_6_code 28 = .ok (.iadd, 1) := by decide +kernel
theorem own_dprog_30_method_6_code_29 : decode prog_30_method_6_code 29 = .ok (.istore 6, 2) := by decide +kernel
theorem own_dprog_30_method_6_code_31 : decode prog_30_method_6_code 31 = .ok (.iload 6, 2) := by decide +kernel
theorem own_dprog_30_method_6_code_33 : decode prog_30_method_6_code 33 = .ok (.iload_n 1, 1) := by decide +kernel
theorem own_dprog_30_method_6_code_34 : decode prog_30_method_6_code 34 = .ok (.if_icmp .ge 22, 3) := by decide +kernel
theorem own_dprog_30_method_6_code_56 : decode prog_30_method_6_code 56 = .ok (.aload_n 3, 1) := by decide +kernel
theorem own_dprog_30_method_6_code_57 : decode prog_30_method_6_code 57 = .ok (.iload 5, 2) := by decide +kernel
theorem own_dprog_30_method_6_code_59 : decode prog_30_method_6_code 59 = .ok (.iload 4, 2) := by decide +kernel
theorem own_dprog_30_method_6_code_61 : decode prog_30_method_6_code 61 = .ok (.iastore, 1) := by decide +kernel
theorem own_dprog_30_method_6_code_62 : decode prog_30_method_6_code 62 = .ok (.iinc 5 (-1), 3) := by decide +kernel
theorem own_dprog_30_method_6_code_65 : decode prog_30_method_6_code 65 = .ok (.goto (-45), 3) := by decide +kernel
theorem own_dprog_30_method_6_code_68 : decode prog_30_method_6_code 68 = .ok (.iload_n 1, 1) := by decide +kernel
theorem own_dprog_30_method_6_code_69 : decode prog_30_method_6_code 69 = .ok (.iconst 1, 1) := by decide +kernel
theorem own_dprog_30_method_6_code_70 : decode prog_30_method_6_code 70 = .ok (.isub, 1) := by decide +kernel
theorem own_dprog_30_method_6_code_71 : decode prog_30_method_6_code 71 = .ok (.istore 5, 2) := by decide +kernel
theorem own_dprog_30_method_6_code_73 : decode prog_30_method_6_code 73 = .ok (.iload 5, 2) := by decide +kernel
theorem own_dprog_30_method_6_code_75 : decode prog_30_method_6_code 75 = .ok (.iconst 1, 1) := by decide +kernel
theorem own_dprog_30_method_6_code_76 : decode prog_30_method_6_code 76 = .ok (.if_icmp .lt 38, 3) := by decide +kernel
theorem own_dprog_30_method_6_code_79 : decode prog_30_method_6_code 79 = .ok (.iload_n 1, 1) := by decide +kernel
theorem own_dprog_30_method_6_code_80 : decode prog_30_method_6_code 80 = .ok (.iconst 1, 1) := by decide +kernel
theorem own_dprog_30_method_6_code_81 : decode prog_30_method_6_code 81 = .ok (.isub, 1) := by decide +kernel
theorem own_dprog_30_method_6_code_82 : decode prog_30_method_6_code 82 = .ok (.iload 5, 2) := by decide +kernel
theorem own_dprog_30_method_6_code_84 : decode prog_30_method_6_code 84 = .ok (.isub, 1) := by decide +kernel
theorem own_dprog_30_method_6_code_85 : decode prog_30_method_6_code 85 = .ok (.istore 6, 2) := by decide +kernel
theorem own_dprog_30_method_6_code_87 : decode prog_30_method_6_code 87 = .ok (.aload_n 2, 1) := by decide +kernel
theorem own_dprog_30_method_6_code_88 : decode prog_30_method_6_code 88 = .ok (.iload 6, 2) := by decide +kernel
theorem own_dprog_30_method_6_code_90 : decode prog_30_method_6_code 90 = .ok (.iaload, 1) := by decide +kernel
theorem own_dprog_30_method_6_code_91 : decode prog_30_method_6_code 91 = .ok (.iload 6, 2) := by decide +kernel
theorem own_dprog_30_method_6_code_93 : decode prog_30_method_6_code 93 = .ok (.if_icmp .gt 15, 3) := by decide +kernel
theorem own_dprog_30_method_6_code_108 : decode prog_30_method_6_code 108 = .ok (.iinc 5 (-1), 3) := by decide +kernel
theorem own_dprog_30_method_6_code_111 : decode prog_30_method_6_code 111 = .ok (.goto (-38), 3) := by decide +kernel
theorem own_dprog_30_method_6_code_96 : decode prog_30_method_6_code 96 = .ok (.aload_n 3, 1) := by decide +kernel
theorem own_dprog_30_method_6_code_97 : decode prog_30_method_6_code 97 = .ok (.iload_n 1, 1) := by decide +kernel
theorem own_dprog_30_method_6_code_98 : decode prog_30_method_6_code 98 = .ok (.iconst 1, 1) := by decide +kernel
theorem own_dprog_30_method_6_code_99 : decode prog_30_method_6_code 99 = .ok (.isub, 1) := by decide +kernel
theorem own_dprog_30_method_6_code_100 : decode prog_30_method_6_code 100 = .ok (.aload_n 2, 1) := by decide +kernel
theorem own_dprog_30_method_6_code_101 : decode prog_30_method_6_code 101 = .ok (.iload 6, 2) := by decide +kernel
theorem own_dprog_30_method_6_code_103 : decode prog_30_method_6_code 103 = .ok (.iaload, 1) := by decide +kernel
theorem own_dprog_30_method_6_code_104 : decode prog_30_method_6_code 104 = .ok (.isub, 1) := by decide +kernel
theorem own_dprog_30_method_6_code_105 : decode prog_30_method_6_code 105 = .ok (.iload 5, 2) := by decide +kernel
theorem own_dprog_30_method_6_code_107 : decode prog_30_method_6_code 107 = .ok (.iastore, 1) := by decide +kernel
theorem own_dprog_30_method_6_code_114 : decode prog_30_method_6_code 114 = .ok (.aload_n 3, 1) := by decide +kernel
theorem own_dprog_30_method_6_code_115 : decode prog_30_method_6_code 115 = .ok (.areturn, 1) := by decide +kernel
theorem own_dprog_30_method_6_code_37 : decode prog_30_method_6_code 37 = .ok (.aload_n 2, 1) := by decide +kernel
theorem own_dprog_30_method_6_code_38 : decode prog_30_method_6_code 38 = .ok (.iload_n 1, 1) := by decide +kernel
theorem own_dprog_30_method_6_code_39 : decode prog_30_method_6_code 39 = .ok (.iconst 1, 1) := by decide +kernel
theorem own_dprog_30_method_6_code_40 : decode prog_30_method_6_code 40 = .ok (.isub, 1) := by decide +kernel
theorem own_dprog_30_method_6_code_41 : decode prog_30_method_6_code 41 = .ok (.iload 6, 2) := by decide +kernel
theorem own_dprog_30_method_6_code_43 : decode prog_30_method_6_code 43 = .ok (.isub, 1) := by decide +kernel
theorem own_dprog_30_method_6_code_44 : decode prog_30_method_6_code 44 = .ok (.iaload, 1) := by decide +kernel
theorem own_dprog_30_method_6_code_45 : decode prog_30_method_6_code 45 = .ok (.iload_n 1, 1) := by decide +kernel
theorem own_dprog_30_method_6_code_46 : decode prog_30_method_6_code 46 = .ok (.iload 6, 2) := by decide +kernel
theorem own_dprog_30_method_6_code_48 : decode prog_30_method_6_code 48 = .ok (.isub, 1) := by decide +kernel
theorem own_dprog_30_method_6_code_49 : decode prog_30_method_6_code 49 = .ok (.if_icmp .ne 7, 3) := by decide +kernel
theorem own_dprog_30_method_6_code_52 : decode prog_30_method_6_code 52 = .ok (.iload 6, 2) := by decide +kernel
theorem own_dprog_30_method_6_code_54 : decode prog_30_method_6_code 54 = .ok (.istore 4, 2) := by decide +kernel
theorem own_efGS (m : MethodId) (pa : Addr) : entryFrame m #[(.ref pa)] 7 = mkF m 0 #[.val (.ref pa), .unset, .unset, .unset, .unset, .unset, .unset] [] := by first | (simp [entryFrame, mkF, argsToLocals, Value.category]; done) | rfl
def own_QGS (Z : State) (pa : Addr) (kp : ClassId) (pp0 : Int32) (pp1 : Int32) (pp2 : Int32) (pp3 : Int32) (h0 : Heap) (n0 : Nat) (rv__ : Option Value) (h : Heap) (rL__ : List Loc) : Prop := ∃ r__ : Addr, rv__ = some (.ref r__) ∧ Fr n0 rL__ ∧ Keep h0 h []
abbrev own_RGS : Room := { frames := 2, cells := 4, slots := 16, locals := 32 }
set_option maxRecDepth 65536 in
set_option maxHeartbeats 40000000 in
theorem own_rmGS (l : Launch) (Z : State) (a0 : Array Value) (hw : ∀ d ∈ tables_1, d.before a0 Z = true) (ws : List Jvm.Cond) (pa : Addr) (kp : ClassId) (pp0 : Int32) (pp1 : Int32) (pp2 : Int32) (pp3 : Int32) (h0 : Heap) (n0 : Nat) (Z0 : n0 ≤ h0.size) (Vp : Arv Z h0 pa kp .int (4 : Int32) [(.int pp0), (.int pp1), (.int pp2), (.int pp3)] (.int (0 : Int32))) :
    MetFree l (⟨"com/example/shiftwise/shiftwise/search/BoyerMooreTables", "goodSuffixShifts", "([I)[I"⟩ : MethodName) (head1 (Jvm.Cond.code (⟨"com/example/shiftwise/shiftwise/search/BoyerMooreTables", "goodSuffixShifts", "([I)[I"⟩ : MethodName) prog_30_method_6_code 7 (some (.array .int)) :: ws) own_RGS) (fun aa__ U => aa__ = #[(.ref pa)] ∧ Z.Warmed39 U.vm ∧ U.heap = h0) (fun _ _ _ _ _ => True) (fun _ U oc_ U' => ∃ rv__ rL__, oc_ = .returned rv__ ∧ own_QGS Z pa kp pp0 pp1 pp2 pp3 h0 n0 rv__ U'.heap rL__ ∧ FrameEnd U oc_ U' rL__ own_RGS.cells own_RGS.slots) := by
  refine MetFree.of_bodySF (plainFor_of_name own_pn_com_example_shiftwise_shiftwise_search_BoyerMooreTables) hisR ?_
  intro p e s m args below meth c s₁ Bd hml0 hP hK
  obtain ⟨rfl, hZ, hh⟩ := hP
  have hx := Bd.exec
  have hby := Bd.bytes
  have hml : c.maxLocals = 7 := hml0
  have hown : s.vm.findClass "com/example/shiftwise/shiftwise/search/BoyerMooreTables" = some m.cls := findClass_of_methodNamed Bd.named
  have hnm := (name_of_methodNamed Bd.named Bd.method).1
  have X0 : Stand p l e own_RGS s m #[(.ref pa)] below meth c s₁ [] 0 0 := Stand.of_body Bd
  have e0 : s₁.heap = h0 := by rw [← hh, Bd.state]; rfl
  have N0 := Fr.nil n0
  refine own_in (fun _ k => castTop (own_efGS m pa) k) ?_
  intro RR hRR
  show own_Go p.tables e below RR (s₁.setTop (mkF m 0 #[.val (.ref pa), .unset, .unset, .unset, .unset, .unset, .unset] []))
  refine own_st (fun _ k => XS.aloadN X0.here hx rfl (hb hby own_dprog_30_method_6_code_0) rfl rfl k) ?_
  show own_Go p.tables e below RR (s₁.setTop (mkF m 1 #[.val (.ref pa), .unset, .unset, .unset, .unset, .unset, .unset] [(.ref pa)]))
  obtain ⟨c1, A1, -, s1, m1, -, -⟩ := id Vp
  refine own_st (fun _ k => own_len X0 hx hZ e0 A1 s1 m1 (g := (mkF m 1 #[.val (.ref pa), .unset, .unset, .unset, .unset, .unset, .unset] [(.ref pa)])) rfl rfl (hb hby own_dprog_30_method_6_code_1) (XS.istoreN X0.here hx rfl (hb hby own_dprog_30_method_6_code_2) rfl (l' := #[.val (.ref pa), .val (.int (4 : Int32)), .unset, .unset, .unset, .unset, .unset]) rfl (XS.aloadN X0.here hx rfl (hb hby own_dprog_30_method_6_code_3) rfl rfl k))) ?_
  show own_Go p.tables e below RR (s₁.setTop (mkF m 4 #[.val (.ref pa), .val (.int (4 : Int32)), .unset, .unset, .unset, .unset, .unset] [(.ref pa)]))
  obtain ⟨_, _, ⟨T2, L2, k2, n2⟩, -, X2, ⟨Lc2, hQ2, l2, y2, z2⟩, st2⟩ := Jvm.LawKit.callS X0 hx (y := (⟨"com/example/shiftwise/shiftwise/search/BoyerMooreTables", "commonSuffixLengths", "([I)[I"⟩ : MethodName)) hown (mvT hZ (hw _ (List.mem_of_getElem? (i := 36) rfl))) (mvT hZ (hw _ (List.mem_of_getElem? (i := 37) rfl))) (mvT hZ (hw _ (List.mem_of_getElem? (i := 5) rfl))) (mvT hZ (hw _ (List.mem_of_getElem? (i := 38) rfl))) (by decide) (backOf (W := 0) (own_rmCS l Z a0 hw [] pa kp pp0 pp1 pp2 pp3 h0 n0 Z0 Vp) hZ (hw _ (List.mem_of_getElem? (i := 38) rfl)) (hw _ (List.mem_of_getElem? (i := 5) rfl)) (by decide) (by decide)) (g := (mkF m 4 #[.val (.ref pa), .val (.int (4 : Int32)), .unset, .unset, .unset, .unset, .unset] [(.ref pa)])) rfl (by rw [hml]; rfl) (argsL := [(.ref pa)]) (rest := []) (lenOf own_pd___I__I rfl) rfl (by show 2 * 0 + _ ≤ _; exact Nat.le_of_eq rfl) (hb hby own_dprog_30_method_6_code_4) (fun _ _ => ⟨rfl, e0, (by decide : 0 + 3 ≤ _), (by decide : 0 + 12 ≤ _)⟩)
  dsimp only [Pt.U, Pt.locs, Pt.cells, Pt.slots] at X2 l2 y2 z2 st2 hQ2
  subst l2 y2 z2
  obtain ⟨rx2, rfl, Nq2, Kq2, kr2, sv0, sv1, sv2, sv3, Vq2, ⟨hs0, hs1, hs2, hs3⟩⟩ := hQ2
  have N2 := Fr.app N0 Nq2
  refine own_st st2 ?_
  have z3 : n0 ≤ T2.heap.size := Nat.le_trans Z0 Kq2.1
  have kk4 : Keep h0 T2.heap [] := (Keep.refl h0 []).trans Kq2 all0
  show own_Go p.tables e below RR (T2.setTop (mkF m 7 #[.val (.ref pa), .val (.int (4 : Int32)), .unset, .unset, .unset, .unset, .unset] [(.ref rx2)]))
  refine own_st (fun _ k => XS.astoreN X2.here hx rfl (hb hby own_dprog_30_method_6_code_7) rfl rfl (l' := #[.val (.ref pa), .val (.int (4 : Int32)), .val (.ref rx2), .unset, .unset, .unset, .unset]) rfl (XS.iloadN X2.here hx rfl (hb hby own_dprog_30_method_6_code_8) rfl k)) ?_
  show own_Go p.tables e below RR (T2.setTop (mkF m 9 #[.val (.ref pa), .val (.int (4 : Int32)), .val (.ref rx2), .unset, .unset, .unset, .unset] [(.int (4 : Int32))]))
  obtain ⟨T5, h5, k5, X5, e5, E5, A5, st5⟩ := newP X2 hx hZ (hw _ (List.mem_of_getElem? (i := 2) rfl)) rfl (g := (mkF m 9 #[.val (.ref pa), .val (.int (4 : Int32)), .val (.ref rx2), .unset, .unset, .unset, .unset] [(.int (4 : Int32))])) rfl (hb hby own_dprog_30_method_6_code_9) rfl (by decide) (cap := 4) (by decide) (by decide) (by decide) (by decide)
  obtain ⟨b5, gb5⟩ : ∃ z, z = T2.heap.size := ⟨_, rfl⟩
  rw [← gb5] at A5 st5
  have ge5 : n0 ≤ b5 := Nat.le_trans z3 (Nat.le_of_eq gb5.symm)
  have sz5 : h0.size ≤ b5 := Nat.le_trans kk4.1 (Nat.le_of_eq gb5.symm)
  refine own_st st5 ?_
  have z6 : n0 ≤ h5.size := Nat.le_trans z3 E5.1
  have kk7 : Keep h0 h5 [] := kk4.ext E5
  have V5 : Arv Z h5 b5 k5 .int (4 : Int32) [(.int (0 : Int32)), (.int (0 : Int32)), (.int (0 : Int32)), (.int (0 : Int32))] (.int (0 : Int32)) := (Arv.new A5 (by decide)).pad (pad_rep [] (.int (0 : Int32)) 4)
  show own_Go p.tables e below RR (T5.setTop (mkF m 11 #[.val (.ref pa), .val (.int (4 : Int32)), .val (.ref rx2), .unset, .unset, .unset, .unset] [(.ref b5)]))
  refine own_st (fun _ k => XS.astoreN X5.here hx rfl (hb hby own_dprog_30_method_6_code_11) rfl rfl (l' := #[.val (.ref pa), .val (.int (4 : Int32)), .val (.ref rx2), .val (.ref b5), .unset, .unset, .unset]) rfl (XS.iloadN X5.here hx rfl (hb hby own_dprog_30_method_6_code_12) rfl (XS.istore X5.here hx rfl (hb hby own_dprog_30_method_6_code_13) rfl (l' := #[.val (.ref pa), .val (.int (4 : Int32)), .val (.ref rx2), .val (.ref b5), .val (.int (4 : Int32)), .unset, .unset]) rfl (XS.iloadN X5.here hx rfl (hb hby own_dprog_30_method_6_code_15) rfl (XS.iconst X5.here hx rfl (hb hby own_dprog_30_method_6_code_16) (XS.isub X5.here hx rfl (hb hby own_dprog_30_method_6_code_17) rfl (XS.istore X5.here hx rfl (hb hby own_dprog_30_method_6_code_18) rfl (l' := #[.val (.ref pa), .val (.int (4 : Int32)), .val (.ref rx2), .val (.ref b5), .val (.int (4 : Int32)), .val (.int (3 : Int32)), .unset]) rfl (XS.iload X5.here hx rfl (hb hby own_dprog_30_method_6_code_20) rfl k)))))))) ?_
  show own_Go p.tables e below RR (T5.setTop (mkF m 22 #[.val (.ref pa), .val (.int (4 : Int32)), .val (.ref rx2), .val (.ref b5), .val (.int (4 : Int32)), .val (.int (3 : Int32)), .unset] [(.int (3 : Int32))]))
  refine own_st (fun _ k => XS.ifNo X5.here hx rfl (hb hby own_dprog_30_method_6_code_22) rfl ((if0 _ _).trans (flt (by decide)).1) (XS.iload X5.here hx rfl (hb hby own_dprog_30_method_6_code_25) rfl (XS.iconst X5.here hx rfl (hb hby own_dprog_30_method_6_code_27) (XS.iadd X5.here hx rfl (hb hby own_dprog_30_method_6_code_28) rfl (XS.istore X5.here hx rfl (hb hby own_dprog_30_method_6_code_29) rfl (l' := #[.val (.ref pa), .val (.int (4 : Int32)), .val (.ref rx2), .val (.ref b5), .val (.int (4 : Int32)), .val (.int (3 : Int32)), .val (.int (4 : Int32))]) rfl (XS.iload X5.here hx rfl (hb hby own_dprog_30_method_6_code_31) rfl (XS.iloadN X5.here hx rfl (hb hby own_dprog_30_method_6_code_33) rfl k))))))) ?_
  show own_Go p.tables e below RR (T5.setTop (mkF m 34 #[.val (.ref pa), .val (.int (4 : Int32)), .val (.ref rx2), .val (.ref b5), .val (.int (4 : Int32)), .val (.int (3 : Int32)), .val (.int (4 : Int32))] [(.int (4 : Int32)), (.int (4 : Int32))]))
  refine own_st (fun _ k => XS.icmpYes X5.here hx rfl (pc0 := 34) (pc' := 56) rfl (hb hby own_dprog_30_method_6_code_34) rfl (flt (by decide)).2.1 (by decide) (by decide) (XS.aloadN X5.here hx rfl (hb hby own_dprog_30_method_6_code_56) rfl rfl (XS.iload X5.here hx rfl (hb hby own_dprog_30_method_6_code_57) rfl (XS.iload X5.here hx rfl (hb hby own_dprog_30_method_6_code_59) rfl k)))) ?_
  show own_Go p.tables e below RR (T5.setTop (mkF m 61 #[.val (.ref pa), .val (.int (4 : Int32)), .val (.ref rx2), .val (.ref b5), .val (.int (4 : Int32)), .val (.int (3 : Int32)), .val (.int (4 : Int32))] [(.int (4 : Int32)), (.int (3 : Int32)), (.ref b5)]))
  obtain ⟨c8, A8, q8, s8, m8, H8, G8⟩ := id V5
  obtain ⟨T9, h9, X9, e9, W9, st9⟩ := stI X5 hx hZ e5 A8 (j := (3 : Int32)) (inb_of s8 ⟨by decide, by decide⟩) (g := (mkF m 61 #[.val (.ref pa), .val (.int (4 : Int32)), .val (.ref rx2), .val (.ref b5), .val (.int (4 : Int32)), .val (.int (3 : Int32)), .val (.int (4 : Int32))] [(.int (4 : Int32)), (.int (3 : Int32)), (.ref b5)])) rfl rfl (hb hby own_dprog_30_method_6_code_61)
  have V9 := Arv.set A8 q8 s8 m8 H8 G8 rfl W9 3 rfl (Nat.le_of_ble_eq_true rfl)
  have V9 : Arv Z h9 b5 k5 .int (4 : Int32) [(.int (0 : Int32)), (.int (0 : Int32)), (.int (0 : Int32)), (.int (4 : Int32))] (.int (0 : Int32)) := V9
  have N9 := Fr.snoc X9 N2 ge5
  refine own_st st9 ?_
  have z10 : n0 ≤ h9.size := Nat.le_trans z6 (Keep.of_wr W9).1
  have kk11 : Keep h0 h9 [] := kk7.wr W9 (Or.inr sz5)
  show own_Go p.tables e below RR (T9.setTop (mkF m 62 #[.val (.ref pa), .val (.int (4 : Int32)), .val (.ref rx2), .val (.ref b5), .val (.int (4 : Int32)), .val (.int (3 : Int32)), .val (.int (4 : Int32))] []))
  refine own_st (fun _ k => XS.iinc X9.here hx rfl (hb hby own_dprog_30_method_6_code_62) rfl (l' := #[.val (.ref pa), .val (.int (4 : Int32)), .val (.ref rx2), .val (.ref b5), .val (.int (4 : Int32)), .val (.int (2 : Int32)), .val (.int (4 : Int32))]) rfl (XS.goto X9.here hx rfl (pc0 := 65) (pc' := 20) rfl (hb hby own_dprog_30_method_6_code_65) (by decide) (by decide) (XS.iload X9.here hx rfl (hb hby own_dprog_30_method_6_code_20) rfl k))) ?_
  show own_Go p.tables e below RR (T9.setTop (mkF m 22 #[.val (.ref pa), .val (.int (4 : Int32)), .val (.ref rx2), .val (.ref b5), .val (.int (4 : Int32)), .val (.int (2 : Int32)), .val (.int (4 : Int32))] [(.int (2 : Int32))]))
  refine own_st (fun _ k => XS.ifNo X9.here hx rfl (hb hby own_dprog_30_method_6_code_22) rfl ((if0 _ _).trans (flt (by decide)).1) (XS.iload X9.here hx rfl (hb hby own_dprog_30_method_6_code_25) rfl (XS.iconst X9.here hx rfl (hb hby own_dprog_30_method_6_code_27) (XS.iadd X9.here hx rfl (hb hby own_dprog_30_method_6_code_28) rfl (XS.istore X9.here hx rfl (hb hby own_dprog_30_method_6_code_29) rfl (l' := #[.val (.ref pa), .val (.int (4 : Int32)), .val (.ref rx2), .val (.ref b5), .val (.int (4 : Int32)), .val (.int (2 : Int32)), .val (.int (3 : Int32))]) rfl (XS.iload X9.here hx rfl (hb hby own_dprog_30_method_6_code_31) rfl (XS.iloadN X9.here hx rfl (hb hby own_dprog_30_method_6_code_33) rfl k))))))) ?_
  show own_Go p.tables e below RR (T9.setTop (mkF m 34 #[.val (.ref pa), .val (.int (4 : Int32)), .val (.ref rx2), .val (.ref b5), .val (.int (4 : Int32)), .val (.int (2 : Int32)), .val (.int (3 : Int32))] [(.int (4 : Int32)), (.int (3 : Int32))]))
  refine own_st (fun _ k => XS.icmpNo X9.here hx rfl (hb hby own_dprog_30_method_6_code_34) rfl (tlt (by decide)).2.1 k) ?_
  show own_Go p.tables e below RR (T9.setTop (mkF m 37 #[.val (.ref pa), .val (.int (4 : Int32)), .val (.ref rx2), .val (.ref b5), .val (.int (4 : Int32)), .val (.int (2 : Int32)), .val (.int (3 : Int32))] []))
  have join12 : ∀ (T12 : State) (lo12 : List Loc) (lb2 : Int32) (X12 : Stand p l e own_RGS s m #[(.ref pa)] below meth c T12 lo12 4 16) (e12 : T12.heap = h9) (N12 : Fr n0 lo12), own_Go p.tables e below RR (T12.setTop (mkF m 56 #[.val (.ref pa), .val (.int (4 : Int32)), .val (.ref rx2), .val (.ref b5), .val (.int lb2), .val (.int (2 : Int32)), .val (.int (3 : Int32))] [])) := by
    intro T12 lo12 lb2 X12 e12 N12 
    show own_Go p.tables e below RR (T12.setTop (mkF m 56 #[.val (.ref pa), .val (.int (4 : Int32)), .val (.ref rx2), .val (.ref b5), .val (.int lb2), .val (.int (2 : Int32)), .val (.int (3 : Int32))] []))
    refine own_st (fun _ k => XS.aloadN X12.here hx rfl (hb hby own_dprog_30_method_6_code_56) rfl rfl (XS.iload X12.here hx rfl (hb hby own_dprog_30_method_6_code_57) rfl (XS.iload X12.here hx rfl (hb hby own_dprog_30_method_6_code_59) rfl k))) ?_
    show own_Go p.tables e below RR (T12.setTop (mkF m 61 #[.val (.ref pa), .val (.int (4 : Int32)), .val (.ref rx2), .val (.ref b5), .val (.int lb2), .val (.int (2 : Int32)), .val (.int (3 : Int32))] [(.int lb2), (.int (2 : Int32)), (.ref b5)]))
    obtain ⟨c13, A13, q13, s13, m13, H13, G13⟩ := id V9
    obtain ⟨T14, h14, X14, e14, W14, st14⟩ := stI X12 hx hZ e12 A13 (j := (2 : Int32)) (inb_of s13 ⟨by decide, by decide⟩) (g := (mkF m 61 #[.val (.ref pa), .val (.int (4 : Int32)), .val (.ref rx2), .val (.ref b5), .val (.int lb2), .val (.int (2 : Int32)), .val (.int (3 : Int32))] [(.int lb2), (.int (2 : Int32)), (.ref b5)])) rfl rfl (hb hby own_dprog_30_method_6_code_61)
    have V14 := Arv.set A13 q13 s13 m13 H13 G13 rfl W14 2 rfl (Nat.le_of_ble_eq_true rfl)
    have V14 : Arv Z h14 b5 k5 .int (4 : Int32) [(.int (0 : Int32)), (.int (0 : Int32)), (.int lb2), (.int (4 : Int32))] (.int (0 : Int32)) := V14
    have N14 := Fr.snoc X14 N12 ge5
    refine own_st st14 ?_
    have z15 : n0 ≤ h14.size := Nat.le_trans z10 (Keep.of_wr W14).1
    have kk16 : Keep h0 h14 [] := kk11.wr W14 (Or.inr sz5)
    show own_Go p.tables e below RR (T14.setTop (mkF m 62 #[.val (.ref pa), .val (.int (4 : Int32)), .val (.ref rx2), .val (.ref b5), .val (.int lb2), .val (.int (2 : Int32)), .val (.int (3 : Int32))] []))
    refine own_st (fun _ k => XS.iinc X14.here hx rfl (hb hby own_dprog_30_method_6_code_62) rfl (l' := #[.val (.ref pa), .val (.int (4 : Int32)), .val (.ref rx2), .val (.ref b5), .val (.int lb2), .val (.int (1 : Int32)), .val (.int (3 : Int32))]) rfl (XS.goto X14.here hx rfl (pc0 := 65) (pc' := 20) rfl (hb hby own_dprog_30_method_6_code_65) (by decide) (by decide) (XS.iload X14.here hx rfl (hb hby own_dprog_30_method_6_code_20) rfl k))) ?_
    show own_Go p.tables e below RR (T14.setTop (mkF m 22 #[.val (.ref pa), .val (.int (4 : Int32)), .val (.ref rx2), .val (.ref b5), .val (.int lb2), .val (.int (1 : Int32)), .val (.int (3 : Int32))] [(.int (1 : Int32))]))
    refine own_st (fun _ k => XS.ifNo X14.here hx rfl (hb hby own_dprog_30_method_6_code_22) rfl ((if0 _ _).trans (flt (by decide)).1) (XS.iload X14.here hx rfl (hb hby own_dprog_30_method_6_code_25) rfl (XS.iconst X14.here hx rfl (hb hby own_dprog_30_method_6_code_27) (XS.iadd X14.here hx rfl (hb hby own_dprog_30_method_6_code_28) rfl (XS.istore X14.here hx rfl (hb hby own_dprog_30_method_6_code_29) rfl (l' := #[.val (.ref pa), .val (.int (4 : Int32)), .val (.ref rx2), .val (.ref b5), .val (.int lb2), .val (.int (1 : Int32)), .val (.int (2 : Int32))]) rfl (XS.iload X14.here hx rfl (hb hby own_dprog_30_method_6_code_31) rfl (XS.iloadN X14.here hx rfl (hb hby own_dprog_30_method_6_code_33) rfl k))))))) ?_
    show own_Go p.tables e below RR (T14.setTop (mkF m 34 #[.val (.ref pa), .val (.int (4 : Int32)), .val (.ref rx2), .val (.ref b5), .val (.int lb2), .val (.int (1 : Int32)), .val (.int (2 : Int32))] [(.int (4 : Int32)), (.int (2 : Int32))]))
    refine own_st (fun _ k => XS.icmpNo X14.here hx rfl (hb hby own_dprog_30_method_6_code_34) rfl (tlt (by decide)).2.1 k) ?_
    show own_Go p.tables e below RR (T14.setTop (mkF m 37 #[.val (.ref pa), .val (.int (4 : Int32)), .val (.ref rx2), .val (.ref b5), .val (.int lb2), .val (.int (1 : Int32)), .val (.int (2 : Int32))] []))
    have join17 : ∀ (T17 : State) (lo17 : List Loc) (lb1 : Int32) (X17 : Stand p l e own_RGS s m #[(.ref pa)] below meth c T17 lo17 4 16) (e17 : T17.heap = h14) (N17 : Fr n0 lo17), own_Go p.tables e below RR (T17.setTop (mkF m 56 #[.val (.ref pa), .val (.int (4 : Int32)), .val (.ref rx2), .val (.ref b5), .val (.int lb1), .val (.int (1 : Int32)), .val (.int (2 : Int32))] [])) := by
      intro T17 lo17 lb1 X17 e17 N17 
      show own_Go p.tables e below RR (T17.setTop (mkF m 56 #[.val (.ref pa), .val (.int (4 : Int32)), .val (.ref rx2), .val (.ref b5), .val (.int lb1), .val (.int (1 : Int32)), .val (.int (2 : Int32))] []))
      refine own_st (fun _ k => XS.aloadN X17.here hx rfl (hb hby own_dprog_30_method_6_code_56) rfl rfl (XS.iload X17.here hx rfl (hb hby own_dprog_30_method_6_code_57) rfl (XS.iload X17.here hx rfl (hb hby own_dprog_30_method_6_code_59) rfl k))) ?_
      show own_Go p.tables e below RR (T17.setTop (mkF m 61 #[.val (.ref pa), .val (.int (4 : Int32)), .val (.ref rx2), .val (.ref b5), .val (.int lb1), .val (.int (1 : Int32)), .val (.int (2 : Int32))] [(.int lb1), (.int (1 : Int32)), (.ref b5)]))
      obtain ⟨c18, A18, q18, s18, m18, H18, G18⟩ := id V14
      obtain ⟨T19, h19, X19, e19, W19, st19⟩ := stI X17 hx hZ e17 A18 (j := (1 : Int32)) (inb_of s18 ⟨by decide, by decide⟩) (g := (mkF m 61 #[.val (.ref pa), .val (.int (4 : Int32)), .val (.ref rx2), .val (.ref b5), .val (.int lb1), .val (.int (1 : Int32)), .val (.int (2 : Int32))] [(.int lb1), (.int (1 : Int32)), (.ref b5)])) rfl rfl (hb hby own_dprog_30_method_6_code_61)
      have V19 := Arv.set A18 q18 s18 m18 H18 G18 rfl W19 1 rfl (Nat.le_of_ble_eq_true rfl)
      have V19 : Arv Z h19 b5 k5 .int (4 : Int32) [(.int (0 : Int32)), (.int lb1), (.int lb2), (.int (4 : Int32))] (.int (0 : Int32)) := V19
      have N19 := Fr.snoc X19 N17 ge5
      refine own_st st19 ?_
      have z20 : n0 ≤ h19.size := Nat.le_trans z15 (Keep.of_wr W19).1
      have kk21 : Keep h0 h19 [] := kk16.wr W19 (Or.inr sz5)
      show own_Go p.tables e below RR (T19.setTop (mkF m 62 #[.val (.ref pa), .val (.int (4 : Int32)), .val (.ref rx2), .val (.ref b5), .val (.int lb1), .val (.int (1 : Int32)), .val (.int (2 : Int32))] []))
      refine own_st (fun _ k => XS.iinc X19.here hx rfl (hb hby own_dprog_30_method_6_code_62) rfl (l' := #[.val (.ref pa), .val (.int (4 : Int32)), .val (.ref rx2), .val (.ref b5), .val (.int lb1), .val (.int (0 : Int32)), .val (.int (2 : Int32))]) rfl (XS.goto X19.here hx rfl (pc0 := 65) (pc' := 20) rfl (hb hby own_dprog_30_method_6_code_65) (by decide) (by decide) (XS.iload X19.here hx rfl (hb hby own_dprog_30_method_6_code_20) rfl k))) ?_
      show own_Go p.tables e below RR (T19.setTop (mkF m 22 #[.val (.ref pa), .val (.int (4 : Int32)), .val (.ref rx2), .val (.ref b5), .val (.int lb1), .val (.int (0 : Int32)), .val (.int (2 : Int32))] [(.int (0 : Int32))]))
      refine own_st (fun _ k => XS.ifNo X19.here hx rfl (hb hby own_dprog_30_method_6_code_22) rfl ((if0 _ _).trans (flt (by decide)).1) (XS.iload X19.here hx rfl (hb hby own_dprog_30_method_6_code_25) rfl (XS.iconst X19.here hx rfl (hb hby own_dprog_30_method_6_code_27) (XS.iadd X19.here hx rfl (hb hby own_dprog_30_method_6_code_28) rfl (XS.istore X19.here hx rfl (hb hby own_dprog_30_method_6_code_29) rfl (l' := #[.val (.ref pa), .val (.int (4 : Int32)), .val (.ref rx2), .val (.ref b5), .val (.int lb1), .val (.int (0 : Int32)), .val (.int (1 : Int32))]) rfl (XS.iload X19.here hx rfl (hb hby own_dprog_30_method_6_code_31) rfl (XS.iloadN X19.here hx rfl (hb hby own_dprog_30_method_6_code_33) rfl k))))))) ?_
      show own_Go p.tables e below RR (T19.setTop (mkF m 34 #[.val (.ref pa), .val (.int (4 : Int32)), .val (.ref rx2), .val (.ref b5), .val (.int lb1), .val (.int (0 : Int32)), .val (.int (1 : Int32))] [(.int (4 : Int32)), (.int (1 : Int32))]))
      refine own_st (fun _ k => XS.icmpNo X19.here hx rfl (hb hby own_dprog_30_method_6_code_34) rfl (tlt (by decide)).2.1 k) ?_
      show own_Go p.tables e below RR (T19.setTop (mkF m 37 #[.val (.ref pa), .val (.int (4 : Int32)), .val (.ref rx2), .val (.ref b5), .val (.int lb1), .val (.int (0 : Int32)), .val (.int (1 : Int32))] []))
      have join22 : ∀ (T22 : State) (lo22 : List Loc) (lb0 : Int32) (X22 : Stand p l e own_RGS s m #[(.ref pa)] below meth c T22 lo22 4 16) (e22 : T22.heap = h19) (N22 : Fr n0 lo22), own_Go p.tables e below RR (T22.setTop (mkF m 56 #[.val (.ref pa), .val (.int (4 : Int32)), .val (.ref rx2), .val (.ref b5), .val (.int lb0), .val (.int (0 : Int32)), .val (.int (1 : Int32))] [])) := by
        intro T22 lo22 lb0 X22 e22 N22 
        show own_Go p.tables e below RR (T22.setTop (mkF m 56 #[.val (.ref pa), .val (.int (4 : Int32)), .val (.ref rx2), .val (.ref b5), .val (.int lb0), .val (.int (0 : Int32)), .val (.int (1 : Int32))] []))
        refine own_st (fun _ k => XS.aloadN X22.here hx rfl (hb hby own_dprog_30_method_6_code_56) rfl rfl (XS.iload X22.here hx rfl (hb hby own_dprog_30_method_6_code_57) rfl (XS.iload X22.here hx rfl (hb hby own_dprog_30_method_6_code_59) rfl k))) ?_
        show own_Go p.tables e below RR (T22.setTop (mkF m 61 #[.val (.ref pa), .val (.int (4 : Int32)), .val (.ref rx2), .val (.ref b5), .val (.int lb0), .val (.int (0 : Int32)), .val (.int (1 : Int32))] [(.int lb0), (.int (0 : Int32)), (.ref b5)]))
        obtain ⟨c23, A23, q23, s23, m23, H23, G23⟩ := id V19
        obtain ⟨T24, h24, X24, e24, W24, st24⟩ := stI X22 hx hZ e22 A23 (j := (0 : Int32)) (inb_of s23 ⟨by decide, by decide⟩) (g := (mkF m 61 #[.val (.ref pa), .val (.int (4 : Int32)), .val (.ref rx2), .val (.ref b5), .val (.int lb0), .val (.int (0 : Int32)), .val (.int (1 : Int32))] [(.int lb0), (.int (0 : Int32)), (.ref b5)])) rfl rfl (hb hby own_dprog_30_method_6_code_61)
        have V24 := Arv.set A23 q23 s23 m23 H23 G23 rfl W24 0 rfl (Nat.le_of_ble_eq_true rfl)
        have V24 : Arv Z h24 b5 k5 .int (4 : Int32) [(.int lb0), (.int lb1), (.int lb2), (.int (4 : Int32))] (.int (0 : Int32)) := V24
        have N24 := Fr.snoc X24 N22 ge5
        refine own_st st24 ?_
        have z25 : n0 ≤ h24.size := Nat.le_trans z20 (Keep.of_wr W24).1
        have kk26 : Keep h0 h24 [] := kk21.wr W24 (Or.inr sz5)
        show own_Go p.tables e below RR (T24.setTop (mkF m 62 #[.val (.ref pa), .val (.int (4 : Int32)), .val (.ref rx2), .val (.ref b5), .val (.int lb0), .val (.int (0 : Int32)), .val (.int (1 : Int32))] []))
        refine own_st (fun _ k => XS.iinc X24.here hx rfl (hb hby own_dprog_30_method_6_code_62) rfl (l' := #[.val (.ref pa), .val (.int (4 : Int32)), .val (.ref rx2), .val (.ref b5), .val (.int lb0), .val (.int (-1 : Int32)), .val (.int (1 : Int32))]) rfl (XS.goto X24.here hx rfl (pc0 := 65) (pc' := 20) rfl (hb hby own_dprog_30_method_6_code_65) (by decide) (by decide) (XS.iload X24.here hx rfl (hb hby own_dprog_30_method_6_code_20) rfl k))) ?_
        show own_Go p.tables e below RR (T24.setTop (mkF m 22 #[.val (.ref pa), .val (.int (4 : Int32)), .val (.ref rx2), .val (.ref b5), .val (.int lb0), .val (.int (-1 : Int32)), .val (.int (1 : Int32))] [(.int (-1 : Int32))]))
        refine own_st (fun _ k => XS.ifYes X24.here hx rfl (pc0 := 22) (pc' := 68) rfl (hb hby own_dprog_30_method_6_code_22) rfl ((if0 _ _).trans (tlt (by decide)).1) (by decide) (by decide) (XS.iloadN X24.here hx rfl (hb hby own_dprog_30_method_6_code_68) rfl (XS.iconst X24.here hx rfl (hb hby own_dprog_30_method_6_code_69) (XS.isub X24.here hx rfl (hb hby own_dprog_30_method_6_code_70) rfl (XS.istore X24.here hx rfl (hb hby own_dprog_30_method_6_code_71) rfl (l' := #[.val (.ref pa), .val (.int (4 : Int32)), .val (.ref rx2), .val (.ref b5), .val (.int lb0), .val (.int (3 : Int32)), .val (.int (1 : Int32))]) rfl k))))) ?_
        show own_Go p.tables e below RR (T24.setTop (mkF m 73 #[.val (.ref pa), .val (.int (4 : Int32)), .val (.ref rx2), .val (.ref b5), .val (.int lb0), .val (.int (3 : Int32)), .val (.int (1 : Int32))] []))
        have loop27 : ∀ (k : Nat) (T27 : State) (lo27 : List Loc) (hh2 : Heap) (xs : Int32) (x6 : Int32) (vs2 : List Value) (X27 : Stand p l e own_RGS s m #[(.ref pa)] below meth c T27 lo27 4 16) (e27 : T27.heap = hh2) (N27 : Fr n0 lo27) (K2 : Keep h24 hh2 [b5]) (V2 : Arv Z hh2 b5 k5 .int (4 : Int32) vs2 (.int (0 : Int32))) (hl2 : vs2.length = 4) (hxs : xs = 3 ∨ xs = 2 ∨ xs = 1 ∨ xs = 0) (_ : xs.toInt.toNat = k), own_Go p.tables e below RR (T27.setTop (mkF m 73 #[.val (.ref pa), .val (.int (4 : Int32)), .val (.ref rx2), .val (.ref b5), .val (.int lb0), .val (.int xs), .val (.int x6)] [])) := by
          intro k
          induction k using Nat.strongRecOn with
          | _ k ih27 =>
            intro T27 lo27 hh2 xs x6 vs2 X27 e27 N27 K2 V2 hl2 hxs hk
            have z28 : n0 ≤ hh2.size := Nat.le_trans z25 K2.1
            have kk29 : Keep h0 hh2 [] := kk26.trans K2 (allS (Or.inr sz5) all0)
            show own_Go p.tables e below RR (T27.setTop (mkF m 73 #[.val (.ref pa), .val (.int (4 : Int32)), .val (.ref rx2), .val (.ref b5), .val (.int lb0), .val (.int xs), .val (.int x6)] []))
            refine own_st (fun _ k => XS.iload X27.here hx rfl (hb hby own_dprog_30_method_6_code_73) rfl k) ?_
            show own_Go p.tables e below RR (T27.setTop (mkF m 75 #[.val (.ref pa), .val (.int (4 : Int32)), .val (.ref rx2), .val (.ref b5), .val (.int lb0), .val (.int xs), .val (.int x6)] [(.int xs)]))
            show own_Go p.tables e below RR (T27.setTop (mkF m 75 #[.val (.ref pa), .val (.int (4 : Int32)), .val (.ref rx2), .val (.ref b5), .val (.int lb0), .val (.int xs), .val (.int x6)] [(.int xs)]))
            rcases hxs with rfl | rfl | rfl | rfl
            · show own_Go p.tables e below RR (T27.setTop (mkF m 75 #[.val (.ref pa), .val (.int (4 : Int32)), .val (.ref rx2), .val (.ref b5), .val (.int lb0), .val (.int (3 : Int32)), .val (.int x6)] [(.int (3 : Int32))]))
              refine own_st (fun _ k => XS.iconst X27.here hx rfl (hb hby own_dprog_30_method_6_code_75) k) ?_
              show own_Go p.tables e below RR (T27.setTop (mkF m 76 #[.val (.ref pa), .val (.int (4 : Int32)), .val (.ref rx2), .val (.ref b5), .val (.int lb0), .val (.int (3 : Int32)), .val (.int x6)] [(.int (1 : Int32)), (.int (3 : Int32))]))
              refine own_st (fun _ k => XS.icmpNo X27.here hx rfl (hb hby own_dprog_30_method_6_code_76) rfl (flt (by decide)).1 (XS.iloadN X27.here hx rfl (hb hby own_dprog_30_method_6_code_79) rfl (XS.iconst X27.here hx rfl (hb hby own_dprog_30_method_6_code_80) (XS.isub X27.here hx rfl (hb hby own_dprog_30_method_6_code_81) rfl (XS.iload X27.here hx rfl (hb hby own_dprog_30_method_6_code_82) rfl (XS.isub X27.here hx rfl (hb hby own_dprog_30_method_6_code_84) rfl (XS.istore X27.here hx rfl (hb hby own_dprog_30_method_6_code_85) rfl (l' := #[.val (.ref pa), .val (.int (4 : Int32)), .val (.ref rx2), .val (.ref b5), .val (.int lb0), .val (.int (3 : Int32)), .val (.int (0 : Int32))]) rfl (XS.aloadN X27.here hx rfl (hb hby own_dprog_30_method_6_code_87) rfl rfl k)))))))) ?_
              show own_Go p.tables e below RR (T27.setTop (mkF m 88 #[.val (.ref pa), .val (.int (4 : Int32)), .val (.ref rx2), .val (.ref b5), .val (.int lb0), .val (.int (3 : Int32)), .val (.int (0 : Int32))] [(.ref rx2)]))
              refine own_st (fun _ k => XS.iload X27.here hx rfl (hb hby own_dprog_30_method_6_code_88) rfl k) ?_
              show own_Go p.tables e below RR (T27.setTop (mkF m 90 #[.val (.ref pa), .val (.int (4 : Int32)), .val (.ref rx2), .val (.ref b5), .val (.int lb0), .val (.int (3 : Int32)), .val (.int (0 : Int32))] [(.int (0 : Int32)), (.ref rx2)]))
              have ne30 : rx2 ≠ b5 := (Nat.ne_of_lt (Nat.lt_of_lt_of_le Vq2.lt (Nat.le_of_eq gb5.symm)))
              have f31 := ((((((Vq2.ext E5).other W9 ne30).other W14 ne30).other W19 ne30).other W24 ne30).keep K2 (ninS ne30 nin0))
              obtain ⟨c32, A32, q32, s32, m32, H32, G32⟩ := id f31
              have b32 := inb_of (j := (0 : Int32)) s32 ⟨by decide, by decide⟩
              refine own_st (fun _ k => X27.iaload hx (j := (0 : Int32)) (v := (.int sv0)) (by rw [e27]; exact A32.1) (State.isArrayOf_alike hZ.alike A32.2.1) A32.2.2 b32 (Has.at H32 b32 rfl) (g := (mkF m 90 #[.val (.ref pa), .val (.int (4 : Int32)), .val (.ref rx2), .val (.ref b5), .val (.int lb0), .val (.int (3 : Int32)), .val (.int (0 : Int32))] [(.int (0 : Int32)), (.ref rx2)])) rfl rfl (hb hby own_dprog_30_method_6_code_90) _ (XS.iload X27.here hx rfl (hb hby own_dprog_30_method_6_code_91) rfl k)) ?_
              show own_Go p.tables e below RR (T27.setTop (mkF m 93 #[.val (.ref pa), .val (.int (4 : Int32)), .val (.ref rx2), .val (.ref b5), .val (.int lb0), .val (.int (3 : Int32)), .val (.int (0 : Int32))] [(.int (0 : Int32)), (.int sv0)]))
              by_cases hc93_33 : (0 : Int32) < sv0
              · refine own_st (fun _ k => XS.icmpYes X27.here hx rfl (pc0 := 93) (pc' := 108) rfl (hb hby own_dprog_30_method_6_code_93) rfl (tlt hc93_33).2.2.1 (by decide) (by decide) (XS.iinc X27.here hx rfl (hb hby own_dprog_30_method_6_code_108) rfl (l' := #[.val (.ref pa), .val (.int (4 : Int32)), .val (.ref rx2), .val (.ref b5), .val (.int lb0), .val (.int (2 : Int32)), .val (.int (0 : Int32))]) rfl (XS.goto X27.here hx rfl (pc0 := 111) (pc' := 73) rfl (hb hby own_dprog_30_method_6_code_111) (by decide) (by decide) k))) ?_
                show own_Go p.tables e below RR (T27.setTop (mkF m 73 #[.val (.ref pa), .val (.int (4 : Int32)), .val (.ref rx2), .val (.ref b5), .val (.int lb0), .val (.int (2 : Int32)), .val (.int (0 : Int32))] []))
                exact ih27 _ (by rw [← hk]; decide) T27 _ hh2 (2 : Int32) (0 : Int32) vs2 X27 e27 N27 K2 V2 hl2 (by decide) rfl
              · refine own_st (fun _ k => XS.icmpNo X27.here hx rfl (hb hby own_dprog_30_method_6_code_93) rfl (flt hc93_33).2.2.1 (XS.aloadN X27.here hx rfl (hb hby own_dprog_30_method_6_code_96) rfl rfl (XS.iloadN X27.here hx rfl (hb hby own_dprog_30_method_6_code_97) rfl (XS.iconst X27.here hx rfl (hb hby own_dprog_30_method_6_code_98) (XS.isub X27.here hx rfl (hb hby own_dprog_30_method_6_code_99) rfl (XS.aloadN X27.here hx rfl (hb hby own_dprog_30_method_6_code_100) rfl rfl (XS.iload X27.here hx rfl (hb hby own_dprog_30_method_6_code_101) rfl k))))))) ?_
                show own_Go p.tables e below RR (T27.setTop (mkF m 103 #[.val (.ref pa), .val (.int (4 : Int32)), .val (.ref rx2), .val (.ref b5), .val (.int lb0), .val (.int (3 : Int32)), .val (.int (0 : Int32))] [(.int (0 : Int32)), (.ref rx2), (.int (3 : Int32)), (.ref b5)]))
                obtain ⟨c34, A34, q34, s34, m34, H34, G34⟩ := id f31
                have b34 := inb_of (j := (0 : Int32)) s34 ⟨by decide, by decide⟩
                refine own_st (fun _ k => X27.iaload hx (j := (0 : Int32)) (v := (.int sv0)) (by rw [e27]; exact A34.1) (State.isArrayOf_alike hZ.alike A34.2.1) A34.2.2 b34 (Has.at H34 b34 rfl) (g := (mkF m 103 #[.val (.ref pa), .val (.int (4 : Int32)), .val (.ref rx2), .val (.ref b5), .val (.int lb0), .val (.int (3 : Int32)), .val (.int (0 : Int32))] [(.int (0 : Int32)), (.ref rx2), (.int (3 : Int32)), (.ref b5)])) rfl rfl (hb hby own_dprog_30_method_6_code_103) _ (XS.isub X27.here hx rfl (hb hby own_dprog_30_method_6_code_104) rfl (XS.iload X27.here hx rfl (hb hby own_dprog_30_method_6_code_105) rfl k))) ?_
                show own_Go p.tables e below RR (T27.setTop (mkF m 107 #[.val (.ref pa), .val (.int (4 : Int32)), .val (.ref rx2), .val (.ref b5), .val (.int lb0), .val (.int (3 : Int32)), .val (.int (0 : Int32))] [(.int (3 : Int32)), (.int ((3 : Int32) - sv0)), (.ref b5)]))
                obtain ⟨c35, A35, q35, s35, m35, H35, G35⟩ := id V2
                obtain ⟨T36, h36, X36, e36, W36, st36⟩ := stI X27 hx hZ e27 A35 (j := ((3 : Int32) - sv0)) (inb_of s35 (own_i4 (own_gsi hs0 (by decide) hc93_33))) (g := (mkF m 107 #[.val (.ref pa), .val (.int (4 : Int32)), .val (.ref rx2), .val (.ref b5), .val (.int lb0), .val (.int (3 : Int32)), .val (.int (0 : Int32))] [(.int (3 : Int32)), (.int ((3 : Int32) - sv0)), (.ref b5)])) rfl rfl (hb hby own_dprog_30_method_6_code_107)
                have U36 := Arv.set A35 q35 s35 m35 H35 G35 rfl W36 ((3 : Int32) - sv0).toNatClampNeg rfl (by rw [hl2]; exact own_n4 (own_gsi hs0 (by decide) hc93_33))
                have V36 : Arv Z h36 b5 k5 .int (4 : Int32) (vs2.set ((3 : Int32) - sv0).toNatClampNeg (.int (3 : Int32))) (.int (0 : Int32)) := U36
                have N36 := Fr.snoc X36 N27 ge5
                refine own_st st36 ?_
                have z37 : n0 ≤ h36.size := Nat.le_trans z28 (Keep.of_wr W36).1
                have kk38 : Keep h0 h36 [] := kk29.wr W36 (Or.inr sz5)
                show own_Go p.tables e below RR (T36.setTop (mkF m 108 #[.val (.ref pa), .val (.int (4 : Int32)), .val (.ref rx2), .val (.ref b5), .val (.int lb0), .val (.int (3 : Int32)), .val (.int (0 : Int32))] []))
                refine own_st (fun _ k => XS.iinc X36.here hx rfl (hb hby own_dprog_30_method_6_code_108) rfl (l' := #[.val (.ref pa), .val (.int (4 : Int32)), .val (.ref rx2), .val (.ref b5), .val (.int lb0), .val (.int (2 : Int32)), .val (.int (0 : Int32))]) rfl (XS.goto X36.here hx rfl (pc0 := 111) (pc' := 73) rfl (hb hby own_dprog_30_method_6_code_111) (by decide) (by decide) k)) ?_
                show own_Go p.tables e below RR (T36.setTop (mkF m 73 #[.val (.ref pa), .val (.int (4 : Int32)), .val (.ref rx2), .val (.ref b5), .val (.int lb0), .val (.int (2 : Int32)), .val (.int (0 : Int32))] []))
                exact ih27 _ (by rw [← hk]; decide) T36 _ h36 (2 : Int32) (0 : Int32) (vs2.set ((3 : Int32) - sv0).toNatClampNeg (.int (3 : Int32))) X36 e36 N36 (K2.wr W36 (Or.inl (List.mem_of_getElem? (i := 0) rfl))) V36 (own_ls hl2) (by decide) rfl
            · show own_Go p.tables e below RR (T27.setTop (mkF m 75 #[.val (.ref pa), .val (.int (4 : Int32)), .val (.ref rx2), .val (.ref b5), .val (.int lb0), .val (.int (2 : Int32)), .val (.int x6)] [(.int (2 : Int32))]))
              refine own_st (fun _ k => XS.iconst X27.here hx rfl (hb hby own_dprog_30_method_6_code_75) k) ?_
              show own_Go p.tables e below RR (T27.setTop (mkF m 76 #[.val (.ref pa), .val (.int (4 : Int32)), .val (.ref rx2), .val (.ref b5), .val (.int lb0), .val (.int (2 : Int32)), .val (.int x6)] [(.int (1 : Int32)), (.int (2 : Int32))]))
              refine own_st (fun _ k => XS.icmpNo X27.here hx rfl (hb hby own_dprog_30_method_6_code_76) rfl (flt (by decide)).1 (XS.iloadN X27.here hx rfl (hb hby own_dprog_30_method_6_code_79) rfl (XS.iconst X27.here hx rfl (hb hby own_dprog_30_method_6_code_80) (XS.isub X27.here hx rfl (hb hby own_dprog_30_method_6_code_81) rfl (XS.iload X27.here hx rfl (hb hby own_dprog_30_method_6_code_82) rfl (XS.isub X27.here hx rfl (hb hby own_dprog_30_method_6_code_84) rfl (XS.istore X27.here hx rfl (hb hby own_dprog_30_method_6_code_85) rfl (l' := #[.val (.ref pa), .val (.int (4 : Int32)), .val (.ref rx2), .val (.ref b5), .val (.int lb0), .val (.int (2 : Int32)), .val (.int (1 : Int32))]) rfl (XS.aloadN X27.here hx rfl (hb hby own_dprog_30_method_6_code_87) rfl rfl k)))))))) ?_
              show own_Go p.tables e below RR (T27.setTop (mkF m 88 #[.val (.ref pa), .val (.int (4 : Int32)), .val (.ref rx2), .val (.ref b5), .val (.int lb0), .val (.int (2 : Int32)), .val (.int (1 : Int32))] [(.ref rx2)]))
              refine own_st (fun _ k => XS.iload X27.here hx rfl (hb hby own_dprog_30_method_6_code_88) rfl k) ?_
              show own_Go p.tables e below RR (T27.setTop (mkF m 90 #[.val (.ref pa), .val (.int (4 : Int32)), .val (.ref rx2), .val (.ref b5), .val (.int lb0), .val (.int (2 : Int32)), .val (.int (1 : Int32))] [(.int (1 : Int32)), (.ref rx2)]))
              have ne39 : rx2 ≠ b5 := (Nat.ne_of_lt (Nat.lt_of_lt_of_le Vq2.lt (Nat.le_of_eq gb5.symm)))
              have f40 := ((((((Vq2.ext E5).other W9 ne39).other W14 ne39).other W19 ne39).other W24 ne39).keep K2 (ninS ne39 nin0))
              obtain ⟨c41, A41, q41, s41, m41, H41, G41⟩ := id f40
              have b41 := inb_of (j := (1 : Int32)) s41 ⟨by decide, by decide⟩
              refine own_st (fun _ k => X27.iaload hx (j := (1 : Int32)) (v := (.int sv1)) (by rw [e27]; exact A41.1) (State.isArrayOf_alike hZ.alike A41.2.1) A41.2.2 b41 (Has.at H41 b41 rfl) (g := (mkF m 90 #[.val (.ref pa), .val (.int (4 : Int32)), .val (.ref rx2), .val (.ref b5), .val (.int lb0), .val (.int (2 : Int32)), .val (.int (1 : Int32))] [(.int (1 : Int32)), (.ref rx2)])) rfl rfl (hb hby own_dprog_30_method_6_code_90) _ (XS.iload X27.here hx rfl (hb hby own_dprog_30_method_6_code_91) rfl k)) ?_
              show own_Go p.tables e below RR (T27.setTop (mkF m 93 #[.val (.ref pa), .val (.int (4 : Int32)), .val (.ref rx2), .val (.ref b5), .val (.int lb0), .val (.int (2 : Int32)), .val (.int (1 : Int32))] [(.int (1 : Int32)), (.int sv1)]))
              by_cases hc93_42 : (1 : Int32) < sv1
              · refine own_st (fun _ k => XS.icmpYes X27.here hx rfl (pc0 := 93) (pc' := 108) rfl (hb hby own_dprog_30_method_6_code_93) rfl (tlt hc93_42).2.2.1 (by decide) (by decide) (XS.iinc X27.here hx rfl (hb hby own_dprog_30_method_6_code_108) rfl (l' := #[.val (.ref pa), .val (.int (4 : Int32)), .val (.ref rx2), .val (.ref b5), .val (.int lb0), .val (.int (1 : Int32)), .val (.int (1 : Int32))]) rfl (XS.goto X27.here hx rfl (pc0 := 111) (pc' := 73) rfl (hb hby own_dprog_30_method_6_code_111) (by decide) (by decide) k))) ?_
                show own_Go p.tables e below RR (T27.setTop (mkF m 73 #[.val (.ref pa), .val (.int (4 : Int32)), .val (.ref rx2), .val (.ref b5), .val (.int lb0), .val (.int (1 : Int32)), .val (.int (1 : Int32))] []))
                exact ih27 _ (by rw [← hk]; decide) T27 _ hh2 (1 : Int32) (1 : Int32) vs2 X27 e27 N27 K2 V2 hl2 (by decide) rfl
              · refine own_st (fun _ k => XS.icmpNo X27.here hx rfl (hb hby own_dprog_30_method_6_code_93) rfl (flt hc93_42).2.2.1 (XS.aloadN X27.here hx rfl (hb hby own_dprog_30_method_6_code_96) rfl rfl (XS.iloadN X27.here hx rfl (hb hby own_dprog_30_method_6_code_97) rfl (XS.iconst X27.here hx rfl (hb hby own_dprog_30_method_6_code_98) (XS.isub X27.here hx rfl (hb hby own_dprog_30_method_6_code_99) rfl (XS.aloadN X27.here hx rfl (hb hby own_dprog_30_method_6_code_100) rfl rfl (XS.iload X27.here hx rfl (hb hby own_dprog_30_method_6_code_101) rfl k))))))) ?_
                show own_Go p.tables e below RR (T27.setTop (mkF m 103 #[.val (.ref pa), .val (.int (4 : Int32)), .val (.ref rx2), .val (.ref b5), .val (.int lb0), .val (.int (2 : Int32)), .val (.int (1 : Int32))] [(.int (1 : Int32)), (.ref rx2), (.int (3 : Int32)), (.ref b5)]))
                obtain ⟨c43, A43, q43, s43, m43, H43, G43⟩ := id f40
                have b43 := inb_of (j := (1 : Int32)) s43 ⟨by decide, by decide⟩
                refine own_st (fun _ k => X27.iaload hx (j := (1 : Int32)) (v := (.int sv1)) (by rw [e27]; exact A43.1) (State.isArrayOf_alike hZ.alike A43.2.1) A43.2.2 b43 (Has.at H43 b43 rfl) (g := (mkF m 103 #[.val (.ref pa), .val (.int (4 : Int32)), .val (.ref rx2), .val (.ref b5), .val (.int lb0), .val (.int (2 : Int32)), .val (.int (1 : Int32))] [(.int (1 : Int32)), (.ref rx2), (.int (3 : Int32)), (.ref b5)])) rfl rfl (hb hby own_dprog_30_method_6_code_103) _ (XS.isub X27.here hx rfl (hb hby own_dprog_30_method_6_code_104) rfl (XS.iload X27.here hx rfl (hb hby own_dprog_30_method_6_code_105) rfl k))) ?_
                show own_Go p.tables e below RR (T27.setTop (mkF m 107 #[.val (.ref pa), .val (.int (4 : Int32)), .val (.ref rx2), .val (.ref b5), .val (.int lb0), .val (.int (2 : Int32)), .val (.int (1 : Int32))] [(.int (2 : Int32)), (.int ((3 : Int32) - sv1)), (.ref b5)]))
                obtain ⟨c44, A44, q44, s44, m44, H44, G44⟩ := id V2
                obtain ⟨T45, h45, X45, e45, W45, st45⟩ := stI X27 hx hZ e27 A44 (j := ((3 : Int32) - sv1)) (inb_of s44 (own_i4 (own_gsi hs1 (by decide) hc93_42))) (g := (mkF m 107 #[.val (.ref pa), .val (.int (4 : Int32)), .val (.ref rx2), .val (.ref b5), .val (.int lb0), .val (.int (2 : Int32)), .val (.int (1 : Int32))] [(.int (2 : Int32)), (.int ((3 : Int32) - sv1)), (.ref b5)])) rfl rfl (hb hby own_dprog_30_method_6_code_107)
                have U45 := Arv.set A44 q44 s44 m44 H44 G44 rfl W45 ((3 : Int32) - sv1).toNatClampNeg rfl (by rw [hl2]; exact own_n4 (own_gsi hs1 (by decide) hc93_42))
                have V45 : Arv Z h45 b5 k5 .int (4 : Int32) (vs2.set ((3 : Int32) - sv1).toNatClampNeg (.int (2 : Int32))) (.int (0 : Int32)) := U45
                have N45 := Fr.snoc X45 N27 ge5
                refine own_st st45 ?_
                have z46 : n0 ≤ h45.size := Nat.le_trans z28 (Keep.of_wr W45).1
                have kk47 : Keep h0 h45 [] := kk29.wr W45 (Or.inr sz5)
                show own_Go p.tables e below RR (T45.setTop (mkF m 108 #[.val (.ref pa), .val (.int (4 : Int32)), .val (.ref rx2), .val (.ref b5), .val (.int lb0), .val (.int (2 : Int32)), .val (.int (1 : Int32))] []))
                refine own_st (fun _ k => XS.iinc X45.here hx rfl (hb hby own_dprog_30_method_6_code_108) rfl (l' := #[.val (.ref pa), .val (.int (4 : Int32)), .val (.ref rx2), .val (.ref b5), .val (.int lb0), .val (.int (1 : Int32)), .val (.int (1 : Int32))]) rfl (XS.goto X45.here hx rfl (pc0 := 111) (pc' := 73) rfl (hb hby own_dprog_30_method_6_code_111) (by decide) (by decide) k)) ?_
                show own_Go p.tables e below RR (T45.setTop (mkF m 73 #[.val (.ref pa), .val (.int (4 : Int32)), .val (.ref rx2), .val (.ref b5), .val (.int lb0), .val (.int (1 : Int32)), .val (.int (1 : Int32))] []))
                exact ih27 _ (by rw [← hk]; decide) T45 _ h45 (1 : Int32) (1 : Int32) (vs2.set ((3 : Int32) - sv1).toNatClampNeg (.int (2 : Int32))) X45 e45 N45 (K2.wr W45 (Or.inl (List.mem_of_getElem? (i := 0) rfl))) V45 (own_ls hl2) (by decide) rfl
            · show own_Go p.tables e below RR (T27.setTop (mkF m 75 #[.val (.ref pa), .val (.int (4 : Int32)), .val (.ref rx2), .val (.ref b5), .val (.int lb0), .val (.int (1 : Int32)), .val (.int x6)] [(.int (1 : Int32))]))
              refine own_st (fun _ k => XS.iconst X27.here hx rfl (hb hby own_dprog_30_method_6_code_75) k) ?_
              show own_Go p.tables e below RR (T27.setTop (mkF m 76 #[.val (.ref pa), .val (.int (4 : Int32)), .val (.ref rx2), .val (.ref b5), .val (.int lb0), .val (.int (1 : Int32)), .val (.int x6)] [(.int (1 : Int32)), (.int (1 : Int32))]))
              refine own_st (fun _ k => XS.icmpNo X27.here hx rfl (hb hby own_dprog_30_method_6_code_76) rfl (flt (by decide)).1 (XS.iloadN X27.here hx rfl (hb hby own_dprog_30_method_6_code_79) rfl (XS.iconst X27.here hx rfl (hb hby own_dprog_30_method_6_code_80) (XS.isub X27.here hx rfl (hb hby own_dprog_30_method_6_code_81) rfl (XS.iload X27.here hx rfl (hb hby own_dprog_30_method_6_code_82) rfl (XS.isub X27.here hx rfl (hb hby own_dprog_30_method_6_code_84) rfl (XS.istore X27.here hx rfl (hb hby own_dprog_30_method_6_code_85) rfl (l' := #[.val (.ref pa), .val (.int (4 : Int32)), .val (.ref rx2), .val (.ref b5), .val (.int lb0), .val (.int (1 : Int32)), .val (.int (2 : Int32))]) rfl (XS.aloadN X27.here hx rfl (hb hby own_dprog_30_method_6_code_87) rfl rfl k)))))))) ?_
              show own_Go p.tables e below RR (T27.setTop (mkF m 88 #[.val (.ref pa), .val (.int (4 : Int32)), .val (.ref rx2), .val (.ref b5), .val (.int lb0), .val (.int (1 : Int32)), .val (.int (2 : Int32))] [(.ref rx2)]))
              refine own_st (fun _ k => XS.iload X27.here hx rfl (hb hby own_dprog_30_method_6_code_88) rfl k) ?_
              show own_Go p.tables e below RR (T27.setTop (mkF m 90 #[.val (.ref pa), .val (.int (4 : Int32)), .val (.ref rx2), .val (.ref b5), .val (.int lb0), .val (.int (1 : Int32)), .val (.int (2 : Int32))] [(.int (2 : Int32)), (.ref rx2)]))
              have ne48 : rx2 ≠ b5 := (Nat.ne_of_lt (Nat.lt_of_lt_of_le Vq2.lt (Nat.le_of_eq gb5.symm)))
              have f49 := ((((((Vq2.ext E5).other W9 ne48).other W14 ne48).other W19 ne48).other W24 ne48).keep K2 (ninS ne48 nin0))
              obtain ⟨c50, A50, q50, s50, m50, H50, G50⟩ := id f49
              have b50 := inb_of (j := (2 : Int32)) s50 ⟨by decide, by decide⟩
              refine own_st (fun _ k => X27.iaload hx (j := (2 : Int32)) (v := (.int sv2)) (by rw [e27]; exact A50.1) (State.isArrayOf_alike hZ.alike A50.2.1) A50.2.2 b50 (Has.at H50 b50 rfl) (g := (mkF m 90 #[.val (.ref pa), .val (.int (4 : Int32)), .val (.ref rx2), .val (.ref b5), .val (.int lb0), .val (.int (1 : Int32)), .val (.int (2 : Int32))] [(.int (2 : Int32)), (.ref rx2)])) rfl rfl (hb hby own_dprog_30_method_6_code_90) _ (XS.iload X27.here hx rfl (hb hby own_dprog_30_method_6_code_91) rfl k)) ?_
              show own_Go p.tables e below RR (T27.setTop (mkF m 93 #[.val (.ref pa), .val (.int (4 : Int32)), .val (.ref rx2), .val (.ref b5), .val (.int lb0), .val (.int (1 : Int32)), .val (.int (2 : Int32))] [(.int (2 : Int32)), (.int sv2)]))
              by_cases hc93_51 : (2 : Int32) < sv2
              · refine own_st (fun _ k => XS.icmpYes X27.here hx rfl (pc0 := 93) (pc' := 108) rfl (hb hby own_dprog_30_method_6_code_93) rfl (tlt hc93_51).2.2.1 (by decide) (by decide) (XS.iinc X27.here hx rfl (hb hby own_dprog_30_method_6_code_108) rfl (l' := #[.val (.ref pa), .val (.int (4 : Int32)), .val (.ref rx2), .val (.ref b5), .val (.int lb0), .val (.int (0 : Int32)), .val (.int (2 : Int32))]) rfl (XS.goto X27.here hx rfl (pc0 := 111) (pc' := 73) rfl (hb hby own_dprog_30_method_6_code_111) (by decide) (by decide) k))) ?_
                show own_Go p.tables e below RR (T27.setTop (mkF m 73 #[.val (.ref pa), .val (.int (4 : Int32)), .val (.ref rx2), .val (.ref b5), .val (.int lb0), .val (.int (0 : Int32)), .val (.int (2 : Int32))] []))
                exact ih27 _ (by rw [← hk]; decide) T27 _ hh2 (0 : Int32) (2 : Int32) vs2 X27 e27 N27 K2 V2 hl2 (by decide) rfl
              · refine own_st (fun _ k => XS.icmpNo X27.here hx rfl (hb hby own_dprog_30_method_6_code_93) rfl (flt hc93_51).2.2.1 (XS.aloadN X27.here hx rfl (hb hby own_dprog_30_method_6_code_96) rfl rfl (XS.iloadN X27.here hx rfl (hb hby own_dprog_30_method_6_code_97) rfl (XS.iconst X27.here hx rfl (hb hby own_dprog_30_method_6_code_98) (XS.isub X27.here hx rfl (hb hby own_dprog_30_method_6_code_99) rfl (XS.aloadN X27.here hx rfl (hb hby own_dprog_30_method_6_code_100) rfl rfl (XS.iload X27.here hx rfl (hb hby own_dprog_30_method_6_code_101) rfl k))))))) ?_
                show own_Go p.tables e below RR (T27.setTop (mkF m 103 #[.val (.ref pa), .val (.int (4 : Int32)), .val (.ref rx2), .val (.ref b5), .val (.int lb0), .val (.int (1 : Int32)), .val (.int (2 : Int32))] [(.int (2 : Int32)), (.ref rx2), (.int (3 : Int32)), (.ref b5)]))
                obtain ⟨c52, A52, q52, s52, m52, H52, G52⟩ := id f49
                have b52 := inb_of (j := (2 : Int32)) s52 ⟨by decide, by decide⟩
                refine own_st (fun _ k => X27.iaload hx (j := (2 : Int32)) (v := (.int sv2)) (by rw [e27]; exact A52.1) (State.isArrayOf_alike hZ.alike A52.2.1) A52.2.2 b52 (Has.at H52 b52 rfl) (g := (mkF m 103 #[.val (.ref pa), .val (.int (4 : Int32)), .val (.ref rx2), .val (.ref b5), .val (.int lb0), .val (.int (1 : Int32)), .val (.int (2 : Int32))] [(.int (2 : Int32)), (.ref rx2), (.int (3 : Int32)), (.ref b5)])) rfl rfl (hb hby own_dprog_30_method_6_code_103) _ (XS.isub X27.here hx rfl (hb hby own_dprog_30_method_6_code_104) rfl (XS.iload X27.here hx rfl (hb hby own_dprog_30_method_6_code_105) rfl k))) ?_
                show own_Go p.tables e below RR (T27.setTop (mkF m 107 #[.val (.ref pa), .val (.int (4 : Int32)), .val (.ref rx2), .val (.ref b5), .val (.int lb0), .val (.int (1 : Int32)), .val (.int (2 : Int32))] [(.int (1 : Int32)), (.int ((3 : Int32) - sv2)), (.ref b5)]))
                obtain ⟨c53, A53, q53, s53, m53, H53, G53⟩ := id V2
                obtain ⟨T54, h54, X54, e54, W54, st54⟩ := stI X27 hx hZ e27 A53 (j := ((3 : Int32) - sv2)) (inb_of s53 (own_i4 (own_gsi hs2 (by decide) hc93_51))) (g := (mkF m 107 #[.val (.ref pa), .val (.int (4 : Int32)), .val (.ref rx2), .val (.ref b5), .val (.int lb0), .val (.int (1 : Int32)), .val (.int (2 : Int32))] [(.int (1 : Int32)), (.int ((3 : Int32) - sv2)), (.ref b5)])) rfl rfl (hb hby own_dprog_30_method_6_code_107)
                have U54 := Arv.set A53 q53 s53 m53 H53 G53 rfl W54 ((3 : Int32) - sv2).toNatClampNeg rfl (by rw [hl2]; exact own_n4 (own_gsi hs2 (by decide) hc93_51))
                have V54 : Arv Z h54 b5 k5 .int (4 : Int32) (vs2.set ((3 : Int32) - sv2).toNatClampNeg (.int (1 : Int32))) (.int (0 : Int32)) := U54
                have N54 := Fr.snoc X54 N27 ge5
                refine own_st st54 ?_
                have z55 : n0 ≤ h54.size := Nat.le_trans z28 (Keep.of_wr W54).1
                have kk56 : Keep h0 h54 [] := kk29.wr W54 (Or.inr sz5)
                show own_Go p.tables e below RR (T54.setTop (mkF m 108 #[.val (.ref pa), .val (.int (4 : Int32)), .val (.ref rx2), .val (.ref b5), .val (.int lb0), .val (.int (1 : Int32)), .val (.int (2 : Int32))] []))
                refine own_st (fun _ k => XS.iinc X54.here hx rfl (hb hby own_dprog_30_method_6_code_108) rfl (l' := #[.val (.ref pa), .val (.int (4 : Int32)), .val (.ref rx2), .val (.ref b5), .val (.int lb0), .val (.int (0 : Int32)), .val (.int (2 : Int32))]) rfl (XS.goto X54.here hx rfl (pc0 := 111) (pc' := 73) rfl (hb hby own_dprog_30_method_6_code_111) (by decide) (by decide) k)) ?_
                show own_Go p.tables e below RR (T54.setTop (mkF m 73 #[.val (.ref pa), .val (.int (4 : Int32)), .val (.ref rx2), .val (.ref b5), .val (.int lb0), .val (.int (0 : Int32)), .val (.int (2 : Int32))] []))
                exact ih27 _ (by rw [← hk]; decide) T54 _ h54 (0 : Int32) (2 : Int32) (vs2.set ((3 : Int32) - sv2).toNatClampNeg (.int (1 : Int32))) X54 e54 N54 (K2.wr W54 (Or.inl (List.mem_of_getElem? (i := 0) rfl))) V54 (own_ls hl2) (by decide) rfl
            · show own_Go p.tables e below RR (T27.setTop (mkF m 75 #[.val (.ref pa), .val (.int (4 : Int32)), .val (.ref rx2), .val (.ref b5), .val (.int lb0), .val (.int (0 : Int32)), .val (.int x6)] [(.int (0 : Int32))]))
              refine own_st (fun _ k => XS.iconst X27.here hx rfl (hb hby own_dprog_30_method_6_code_75) k) ?_
              show own_Go p.tables e below RR (T27.setTop (mkF m 76 #[.val (.ref pa), .val (.int (4 : Int32)), .val (.ref rx2), .val (.ref b5), .val (.int lb0), .val (.int (0 : Int32)), .val (.int x6)] [(.int (1 : Int32)), (.int (0 : Int32))]))
              refine own_st (fun _ k => XS.icmpYes X27.here hx rfl (pc0 := 76) (pc' := 114) rfl (hb hby own_dprog_30_method_6_code_76) rfl (tlt (by decide)).1 (by decide) (by decide) (XS.aloadN X27.here hx rfl (hb hby own_dprog_30_method_6_code_114) rfl rfl k)) ?_
              show own_Go p.tables e below RR (T27.setTop (mkF m 115 #[.val (.ref pa), .val (.int (4 : Int32)), .val (.ref rx2), .val (.ref b5), .val (.int lb0), .val (.int (0 : Int32)), .val (.int x6)] [(.ref b5)]))
              obtain ⟨fs, hrt_, hrun, hended, hW, hsame⟩ := X27.leave (v := some (.ref b5)) (fun h => by rw [Bd.returns] at h; cases h)
              refine own_fin (retOut X27 hx Bd.returns rfl (Or.inr (Or.inr (Or.inr (Or.inr ⟨rfl, rfl, rfl⟩)))) (hb hby own_dprog_30_method_6_code_115) hrt_) (hRR _ ⟨_, hrun, hended, _, _, rfl, ?_, ⟨_, rfl⟩, hW, hsame.mono (by decide) (by decide)⟩)
              show own_QGS Z pa kp pp0 pp1 pp2 pp3 h0 n0 _ T27.heap _
              rw [e27]
              exact ⟨_, rfl, N27, kk29⟩
        exact loop27 _ T24 _ h24 (3 : Int32) (1 : Int32) [(.int lb0), (.int lb1), (.int lb2), (.int (4 : Int32))] X24 e24 N24 (Keep.refl _ _) V24 rfl (by decide) rfl
      show own_Go p.tables e below RR (T19.setTop (mkF m 37 #[.val (.ref pa), .val (.int (4 : Int32)), .val (.ref rx2), .val (.ref b5), .val (.int lb1), .val (.int (0 : Int32)), .val (.int (1 : Int32))] []))
      refine own_st (fun _ k => XS.aloadN X19.here hx rfl (hb hby own_dprog_30_method_6_code_37) rfl rfl (XS.iloadN X19.here hx rfl (hb hby own_dprog_30_method_6_code_38) rfl (XS.iconst X19.here hx rfl (hb hby own_dprog_30_method_6_code_39) (XS.isub X19.here hx rfl (hb hby own_dprog_30_method_6_code_40) rfl (XS.iload X19.here hx rfl (hb hby own_dprog_30_method_6_code_41) rfl (XS.isub X19.here hx rfl (hb hby own_dprog_30_method_6_code_43) rfl k)))))) ?_
      show own_Go p.tables e below RR (T19.setTop (mkF m 44 #[.val (.ref pa), .val (.int (4 : Int32)), .val (.ref rx2), .val (.ref b5), .val (.int lb1), .val (.int (0 : Int32)), .val (.int (1 : Int32))] [(.int (2 : Int32)), (.ref rx2)]))
      have ne57 : rx2 ≠ b5 := (Nat.ne_of_lt (Nat.lt_of_lt_of_le Vq2.lt (Nat.le_of_eq gb5.symm)))
      have f58 := ((((Vq2.ext E5).other W9 ne57).other W14 ne57).other W19 ne57)
      obtain ⟨c59, A59, q59, s59, m59, H59, G59⟩ := id f58
      have b59 := inb_of (j := (2 : Int32)) s59 ⟨by decide, by decide⟩
      refine own_st (fun _ k => X19.iaload hx (j := (2 : Int32)) (v := (.int sv2)) (by rw [e19]; exact A59.1) (State.isArrayOf_alike hZ.alike A59.2.1) A59.2.2 b59 (Has.at H59 b59 rfl) (g := (mkF m 44 #[.val (.ref pa), .val (.int (4 : Int32)), .val (.ref rx2), .val (.ref b5), .val (.int lb1), .val (.int (0 : Int32)), .val (.int (1 : Int32))] [(.int (2 : Int32)), (.ref rx2)])) rfl rfl (hb hby own_dprog_30_method_6_code_44) _ (XS.iloadN X19.here hx rfl (hb hby own_dprog_30_method_6_code_45) rfl (XS.iload X19.here hx rfl (hb hby own_dprog_30_method_6_code_46) rfl (XS.isub X19.here hx rfl (hb hby own_dprog_30_method_6_code_48) rfl k)))) ?_
      show own_Go p.tables e below RR (T19.setTop (mkF m 49 #[.val (.ref pa), .val (.int (4 : Int32)), .val (.ref rx2), .val (.ref b5), .val (.int lb1), .val (.int (0 : Int32)), .val (.int (1 : Int32))] [(.int (3 : Int32)), (.int sv2)]))
      by_cases hc49_60 : sv2 = (3 : Int32)
      · refine own_st (fun _ k => XS.icmpNo X19.here hx rfl (hb hby own_dprog_30_method_6_code_49) rfl (teq hc49_60).2 (XS.iload X19.here hx rfl (hb hby own_dprog_30_method_6_code_52) rfl (XS.istore X19.here hx rfl (hb hby own_dprog_30_method_6_code_54) rfl (l' := #[.val (.ref pa), .val (.int (4 : Int32)), .val (.ref rx2), .val (.ref b5), .val (.int (1 : Int32)), .val (.int (0 : Int32)), .val (.int (1 : Int32))]) rfl k))) ?_
        show own_Go p.tables e below RR (T19.setTop (mkF m 56 #[.val (.ref pa), .val (.int (4 : Int32)), .val (.ref rx2), .val (.ref b5), .val (.int (1 : Int32)), .val (.int (0 : Int32)), .val (.int (1 : Int32))] []))
        exact join22 T19 _ (1 : Int32) X19 e19 N19 
      · refine own_st (fun _ k => XS.icmpYes X19.here hx rfl (pc0 := 49) (pc' := 56) rfl (hb hby own_dprog_30_method_6_code_49) rfl (feq hc49_60).2 (by decide) (by decide) k) ?_
        show own_Go p.tables e below RR (T19.setTop (mkF m 56 #[.val (.ref pa), .val (.int (4 : Int32)), .val (.ref rx2), .val (.ref b5), .val (.int lb1), .val (.int (0 : Int32)), .val (.int (1 : Int32))] []))
        exact join22 T19 _ lb1 X19 e19 N19 
    show own_Go p.tables e below RR (T14.setTop (mkF m 37 #[.val (.ref pa), .val (.int (4 : Int32)), .val (.ref rx2), .val (.ref b5), .val (.int lb2), .val (.int (1 : Int32)), .val (.int (2 : Int32))] []))
    refine own_st (fun _ k => XS.aloadN X14.here hx rfl (hb hby own_dprog_30_method_6_code_37) rfl rfl (XS.iloadN X14.here hx rfl (hb hby own_dprog_30_method_6_code_38) rfl (XS.iconst X14.here hx rfl (hb hby own_dprog_30_method_6_code_39) (XS.isub X14.here hx rfl (hb hby own_dprog_30_method_6_code_40) rfl (XS.iload X14.here hx rfl (hb hby own_dprog_30_method_6_code_41) rfl (XS.isub X14.here hx rfl (hb hby own_dprog_30_method_6_code_43) rfl k)))))) ?_
    show own_Go p.tables e below RR (T14.setTop (mkF m 44 #[.val (.ref pa), .val (.int (4 : Int32)), .val (.ref rx2), .val (.ref b5), .val (.int lb2), .val (.int (1 : Int32)), .val (.int (2 : Int32))] [(.int (1 : Int32)), (.ref rx2)]))
    have ne61 : rx2 ≠ b5 := (Nat.ne_of_lt (Nat.lt_of_lt_of_le Vq2.lt (Nat.le_of_eq gb5.symm)))
    have f62 := (((Vq2.ext E5).other W9 ne61).other W14 ne61)
    obtain ⟨c63, A63, q63, s63, m63, H63, G63⟩ := id f62
    have b63 := inb_of (j := (1 : Int32)) s63 ⟨by decide, by decide⟩
    refine own_st (fun _ k => X14.iaload hx (j := (1 : Int32)) (v := (.int sv1)) (by rw [e14]; exact A63.1) (State.isArrayOf_alike hZ.alike A63.2.1) A63.2.2 b63 (Has.at H63 b63 rfl) (g := (mkF m 44 #[.val (.ref pa), .val (.int (4 : Int32)), .val (.ref rx2), .val (.ref b5), .val (.int lb2), .val (.int (1 : Int32)), .val (.int (2 : Int32))] [(.int (1 : Int32)), (.ref rx2)])) rfl rfl (hb hby own_dprog_30_method_6_code_44) _ (XS.iloadN X14.here hx rfl (hb hby own_dprog_30_method_6_code_45) rfl (XS.iload X14.here hx rfl (hb hby own_dprog_30_method_6_code_46) rfl (XS.isub X14.here hx rfl (hb hby own_dprog_30_method_6_code_48) rfl k)))) ?_
    show own_Go p.tables e below RR (T14.setTop (mkF m 49 #[.val (.ref pa), .val (.int (4 : Int32)), .val (.ref rx2), .val (.ref b5), .val (.int lb2), .val (.int (1 : Int32)), .val (.int (2 : Int32))] [(.int (2 : Int32)), (.int sv1)]))
    by_cases hc49_64 : sv1 = (2 : Int32)
    · refine own_st (fun _ k => XS.icmpNo X14.here hx rfl (hb hby own_dprog_30_method_6_code_49) rfl (teq hc49_64).2 (XS.iload X14.here hx rfl (hb hby own_dprog_30_method_6_code_52) rfl (XS.istore X14.here hx rfl (hb hby own_dprog_30_method_6_code_54) rfl (l' := #[.val (.ref pa), .val (.int (4 : Int32)), .val (.ref rx2), .val (.ref b5), .val (.int (2 : Int32)), .val (.int (1 : Int32)), .val (.int (2 : Int32))]) rfl k))) ?_
      show own_Go p.tables e below RR (T14.setTop (mkF m 56 #[.val (.ref pa), .val (.int (4 : Int32)), .val (.ref rx2), .val (.ref b5), .val (.int (2 : Int32)), .val (.int (1 : Int32)), .val (.int (2 : Int32))] []))
      exact join17 T14 _ (2 : Int32) X14 e14 N14 
    · refine own_st (fun _ k => XS.icmpYes X14.here hx rfl (pc0 := 49) (pc' := 56) rfl (hb hby own_dprog_30_method_6_code_49) rfl (feq hc49_64).2 (by decide) (by decide) k) ?_
      show own_Go p.tables e below RR (T14.setTop (mkF m 56 #[.val (.ref pa), .val (.int (4 : Int32)), .val (.ref rx2), .val (.ref b5), .val (.int lb2), .val (.int (1 : Int32)), .val (.int (2 : Int32))] []))
      exact join17 T14 _ lb2 X14 e14 N14 
  show own_Go p.tables e below RR (T9.setTop (mkF m 37 #[.val (.ref pa), .val (.int (4 : Int32)), .val (.ref rx2), .val (.ref b5), .val (.int (4 : Int32)), .val (.int (2 : Int32)), .val (.int (3 : Int32))] []))
  refine own_st (fun _ k => XS.aloadN X9.here hx rfl (hb hby own_dprog_30_method_6_code_37) rfl rfl (XS.iloadN X9.here hx rfl (hb hby own_dprog_30_method_6_code_38) rfl (XS.iconst X9.here hx rfl (hb hby own_dprog_30_method_6_code_39) (XS.isub X9.here hx rfl (hb hby own_dprog_30_method_6_code_40) rfl (XS.iload X9.here hx rfl (hb hby own_dprog_30_method_6_code_41) rfl (XS.isub X9.here hx rfl (hb hby own_dprog_30_method_6_code_43) rfl k)))))) ?_
  show own_Go p.tables e below RR (T9.setTop (mkF m 44 #[.val (.ref pa), .val (.int (4 : Int32)), .val (.ref rx2), .val (.ref b5), .val (.int (4 : Int32)), .val (.int (2 : Int32)), .val (.int (3 : Int32))] [(.int (0 : Int32)), (.ref rx2)]))
  have ne65 : rx2 ≠ b5 := (Nat.ne_of_lt (Nat.lt_of_lt_of_le Vq2.lt (Nat.le_of_eq gb5.symm)))
  have f66 := ((Vq2.ext E5).other W9 ne65)
  obtain ⟨c67, A67, q67, s67, m67, H67, G67⟩ := id f66
  have b67 := inb_of (j := (0 : Int32)) s67 ⟨by decide, by decide⟩
  refine own_st (fun _ k => X9.iaload hx (j := (0 : Int32)) (v := (.int sv0)) (by rw [e9]; exact A67.1) (State.isArrayOf_alike hZ.alike A67.2.1) A67.2.2 b67 (Has.at H67 b67 rfl) (g := (mkF m 44 #[.val (.ref pa), .val (.int (4 : Int32)), .val (.ref rx2), .val (.ref b5), .val (.int (4 : Int32)), .val (.int (2 : Int32)), .val (.int (3 : Int32))] [(.int (0 : Int32)), (.ref rx2)])) rfl rfl (hb hby own_dprog_30_method_6_code_44) _ (XS.iloadN X9.here hx rfl (hb hby own_dprog_30_method_6_code_45) rfl (XS.iload X9.here hx rfl (hb hby own_dprog_30_method_6_code_46) rfl (XS.isub X9.here hx rfl (hb hby own_dprog_30_method_6_code_48) rfl k)))) ?_
  show own_Go p.tables e below RR (T9.setTop (mkF m 49 #[.val (.ref pa), .val (.int (4 : Int32)), .val (.ref rx2), .val (.ref b5), .val (.int (4 : Int32)), .val (.int (2 : Int32)), .val (.int (3 : Int32))] [(.int (1 : Int32)), (.int sv0)]))
  by_cases hc49_68 : sv0 = (1 : Int32)
  · refine own_st (fun _ k => XS.icmpNo X9.here hx rfl (hb hby own_dprog_30_method_6_code_49) rfl (teq hc49_68).2 (XS.iload X9.here hx rfl (hb hby own_dprog_30_method_6_code_52) rfl (XS.istore X9.here hx rfl (hb hby own_dprog_30_method_6_code_54) rfl (l' := #[.val (.ref pa), .val (.int (4 : Int32)), .val (.ref rx2), .val (.ref b5), .val (.int (3 : Int32)), .val (.int (2 : Int32)), .val (.int (3 : Int32))]) rfl k))) ?_
    show own_Go p.tables e below RR (T9.setTop (mkF m 56 #[.val (.ref pa), .val (.int (4 : Int32)), .val (.ref rx2), .val (.ref b5), .val (.int (3 : Int32)), .val (.int (2 : Int32)), .val (.int (3 : Int32))] []))
    exact join12 T9 _ (3 : Int32) X9 e9 N9 
  · refine own_st (fun _ k => XS.icmpYes X9.here hx rfl (pc0 := 49) (pc' := 56) rfl (hb hby own_dprog_30_method_6_code_49) rfl (feq hc49_68).2 (by decide) (by decide) k) ?_
    show own_Go p.tables e below RR (T9.setTop (mkF m 56 #[.val (.ref pa), .val (.int (4 : Int32)), .val (.ref rx2), .val (.ref b5), .val (.int (4 : Int32)), .val (.int (2 : Int32)), .val (.int (3 : Int32))] []))
    exact join12 T9 _ (4 : Int32) X9 e9 N9 
theorem own_dprog_30_method_1_code_0 : decode prog_30_method_1_code 0 = .ok (.aload_n 0, 1) := by decide +kernel
theorem own_dprog_30_method_1_code_1 : decode prog_30_method_1_code 1 = .ok (.invokespecial 3, 3) := by decide +kernel
theorem own_dprog_30_method_1_code_4 : decode prog_30_method_1_code 4 = .ok (.aload_n 0, 1) := by decide +kernel
theorem own_dprog_30_method_1_code_5 : decode prog_30_method_1_code 5 = .ok (.aload_n 1, 1) := by decide +kernel
theorem own_dprog_30_method_1_code_6 : decode prog_30_method_1_code 6 = .ok (.iload_n 2, 1) := by decide +kernel
theorem own_pd___II___I : parseMethodDescriptor "([II)[[I" = some ⟨[(.array .int), .int], some (.array (.array .int))⟩ := by decide +kernel
theorem own_dprog_30_method_1_code_7 : decode prog_30_method_1_code 7 = .ok (.invokestatic 9, 3) := by decide +kernel
theorem own_dprog_30_method_1_code_10 : decode prog_30_method_1_code 10 = .ok (.putfield 13, 3) := by decide +kernel
theorem own_dprog_30_method_1_code_13 : decode prog_30_method_1_code 13 = .ok (.aload_n 0, 1) := by decide +kernel
theorem own_dprog_30_method_1_code_14 : decode prog_30_method_1_code 14 = .ok (.aload_n 1, 1) := by decide +kernel
theorem own_dprog_30_method_1_code_15 : decode prog_30_method_1_code 15 = .ok (.invokestatic 16, 3) := by decide +kernel
theorem own_dprog_30_method_1_code_18 : decode prog_30_method_1_code 18 = .ok (.putfield 20, 3) := by decide +kernel
theorem own_dprog_30_method_1_code_21 : decode prog_30_method_1_code 21 = .ok (.return_, 1) := by decide +kernel
theorem own_efIN (m : MethodId) (o : Addr) (pa : Addr) : entryFrame m #[(.ref o), (.ref pa), (.int (65536 : Int32))] 3 = mkF m 0 #[.val (.ref o), .val (.ref pa), .val (.int (65536 : Int32))] [] := by first | (simp [entryFrame, mkF, argsToLocals, Value.category]; done) | rfl
def own_QIN (Z : State) (o : Addr) (pa : Addr) (kp : ClassId) (pp0 : Int32) (pp1 : Int32) (pp2 : Int32) (pp3 : Int32) (ab : Addr) (kb : ClassId) (gc : Int32) (h0 : Heap) (n0 : Nat) (rv__ : Option Value) (h : Heap) (rL__ : List Loc) : Prop := rv__ = none ∧ Fr n0 rL__ ∧ Keep h0 h [o] ∧ Exa Z h o "com/example/shiftwise/shiftwise/search/BoyerMooreTables" ∧ ∃ (ao : Addr) (ko : ClassId) (vs : List Value) (qa : Addr) (kq : ClassId) (ps : List Value), Fld Z h o "com/example/shiftwise/shiftwise/search/BoyerMooreTables" "lastPositions" "[[I" (.ref ao) ∧ Arv Z h ao ko (.array .int) (256 : Int32) vs .null ∧ vs.getD ((gc.toUInt32 >>> ((8 : Int32) &&& 31).toUInt32).toInt32).toNatClampNeg .null = .ref qa ∧ Arv Z h qa kq .int (256 : Int32) ps (.int (0 : Int32)) ∧ ps.getD (gc &&& (255 : Int32)).toNatClampNeg (.int (0 : Int32)) = .int (if pp2 = gc then (2 : Int32) else if pp1 = gc then (1 : Int32) else if pp0 = gc then (0 : Int32) else (-1 : Int32))
abbrev own_RIN : Room := { frames := 3, cells := 8, slots := 1040, locals := 51 }
set_option maxRecDepth 65536 in
set_option maxHeartbeats 40000000 in
theorem own_rmIN (l : Launch) (Z : State) (a0 : Array Value) (hw : ∀ d ∈ tables_1, d.before a0 Z = true) (ws : List Jvm.Cond) (o : Addr) (pa : Addr) (kp : ClassId) (pp0 : Int32) (pp1 : Int32) (pp2 : Int32) (pp3 : Int32) (ab : Addr) (kb : ClassId) (gc : Int32) (h0 : Heap) (n0 : Nat) (Z0 : n0 ≤ h0.size) (g_o : n0 ≤ o) (E : Exa Z h0 o "com/example/shiftwise/shiftwise/search/BoyerMooreTables") (F1 : Fld Z h0 o "com/example/shiftwise/shiftwise/search/BoyerMooreTables" "lastPositions" "[[I" .null) (F2 : Fld Z h0 o "com/example/shiftwise/shiftwise/search/BoyerMooreTables" "goodSuffixShifts" "[I" .null) (Vp : Arv Z h0 pa kp .int (4 : Int32) [(.int pp0), (.int pp1), (.int pp2), (.int pp3)] (.int (0 : Int32))) (Sa : Sta Z h0 "com/example/shiftwise/shiftwise/search/BoyerMooreTables" "ABSENT" "[I" (.ref ab)) (Ea : Exa Z h0 ab "[I") (Vab : Arv Z h0 ab kb .int (256 : Int32) (own_fl 256 256 (.int (-1 : Int32)) (.int (0 : Int32))) (.int (0 : Int32))) (hb0 : 0 ≤ pp0.toInt ∧ pp0.toInt < 65536) (hb1 : 0 ≤ pp1.toInt ∧ pp1.toInt < 65536) (hb2 : 0 ≤ pp2.toInt ∧ pp2.toInt < 65536) (hbc : 0 ≤ gc.toInt ∧ gc.toInt < 65536) :
    MetFree l (⟨"com/example/shiftwise/shiftwise/search/BoyerMooreTables", "<init>", "([II)V"⟩ : MethodName) (head1 (Jvm.Cond.code (⟨"com/example/shiftwise/shiftwise/search/BoyerMooreTables", "<init>", "([II)V"⟩ : MethodName) prog_30_method_1_code 3 none :: ws) own_RIN) (fun aa__ U => aa__ = #[(.ref o), (.ref pa), (.int (65536 : Int32))] ∧ Z.Warmed39 U.vm ∧ U.heap = h0) (fun _ _ _ _ _ => True) (fun _ U oc_ U' => ∃ rv__ rL__, oc_ = .returned rv__ ∧ own_QIN Z o pa kp pp0 pp1 pp2 pp3 ab kb gc h0 n0 rv__ U'.heap rL__ ∧ FrameEnd U oc_ U' rL__ own_RIN.cells own_RIN.slots) := by
  refine MetFree.of_bodySF (plainFor_of_name own_pn_com_example_shiftwise_shiftwise_search_BoyerMooreTables) hisR ?_
  intro p e s m args below meth c s₁ Bd hml0 hP hK
  obtain ⟨rfl, hZ, hh⟩ := hP
  have hx := Bd.exec
  have hby := Bd.bytes
  have hml : c.maxLocals = 3 := hml0
  have hown : s.vm.findClass "com/example/shiftwise/shiftwise/search/BoyerMooreTables" = some m.cls := findClass_of_methodNamed Bd.named
  have hnm := (name_of_methodNamed Bd.named Bd.method).1
  have X0 : Stand p l e own_RIN s m #[(.ref o), (.ref pa), (.int (65536 : Int32))] below meth c s₁ [] 0 0 := Stand.of_body Bd
  have e0 : s₁.heap = h0 := by rw [← hh, Bd.state]; rfl
  have N0 := Fr.nil n0
  refine own_in (fun _ k => castTop (own_efIN m o pa) k) ?_
  intro RR hRR
  have neop : o ≠ pa := Exa.neArv E Vp (hw _ (List.mem_of_getElem? (i := 4) rfl))
  show own_Go p.tables e below RR (s₁.setTop (mkF m 0 #[.val (.ref o), .val (.ref pa), .val (.int (65536 : Int32))] []))
  refine own_st (fun _ k => XS.aloadN X0.here hx rfl (hb hby own_dprog_30_method_1_code_0) rfl rfl k) ?_
  show own_Go p.tables e below RR (s₁.setTop (mkF m 1 #[.val (.ref o), .val (.ref pa), .val (.int (65536 : Int32))] [(.ref o)]))
  obtain ⟨T1, X1, e1, st1⟩ := initO X0 hx hZ hown (hw _ (List.mem_of_getElem? (i := 10) rfl)) (hw _ (List.mem_of_getElem? (i := 11) rfl)) (hw _ (List.mem_of_getElem? (i := 12) rfl)) e0 (g := (mkF m 1 #[.val (.ref o), .val (.ref pa), .val (.int (65536 : Int32))] [(.ref o)])) rfl (by rw [hml]; rfl) rfl (hb hby own_dprog_30_method_1_code_1) (by decide) (W := 0) (by show 2 * 0 + _ ≤ _; exact Nat.le_of_eq rfl) (by decide)
  refine own_st st1 ?_
  show own_Go p.tables e below RR (T1.setTop (mkF m 4 #[.val (.ref o), .val (.ref pa), .val (.int (65536 : Int32))] []))
  refine own_st (fun _ k => XS.aloadN X1.here hx rfl (hb hby own_dprog_30_method_1_code_4) rfl rfl (XS.aloadN X1.here hx rfl (hb hby own_dprog_30_method_1_code_5) rfl rfl (XS.iloadN X1.here hx rfl (hb hby own_dprog_30_method_1_code_6) rfl k))) ?_
  show own_Go p.tables e below RR (T1.setTop (mkF m 7 #[.val (.ref o), .val (.ref pa), .val (.int (65536 : Int32))] [(.int (65536 : Int32)), (.ref pa), (.ref o)]))
  obtain ⟨_, _, ⟨T2, L2, k2, n2⟩, -, X2, ⟨Lc2, hQ2, l2, y2, z2⟩, st2⟩ := Jvm.LawKit.callS X1 hx (y := (⟨"com/example/shiftwise/shiftwise/search/BoyerMooreTables", "lastPositions", "([II)[[I"⟩ : MethodName)) hown (mvT hZ (hw _ (List.mem_of_getElem? (i := 13) rfl))) (mvT hZ (hw _ (List.mem_of_getElem? (i := 14) rfl))) (mvT hZ (hw _ (List.mem_of_getElem? (i := 5) rfl))) (mvT hZ (hw _ (List.mem_of_getElem? (i := 15) rfl))) (by decide) (backOf (W := 1) (own_rmLP l Z a0 hw [] pa kp pp0 pp1 pp2 pp3 ab kb gc h0 n0 Z0 Vp Sa Ea Vab hb0 hb1 hb2 hbc) hZ (hw _ (List.mem_of_getElem? (i := 15) rfl)) (hw _ (List.mem_of_getElem? (i := 5) rfl)) (by decide) (by decide)) (g := (mkF m 7 #[.val (.ref o), .val (.ref pa), .val (.int (65536 : Int32))] [(.int (65536 : Int32)), (.ref pa), (.ref o)])) rfl (by rw [hml]; rfl) (argsL := [(.ref pa), (.int (65536 : Int32))]) (rest := [(.ref o)]) (lenOf own_pd___II___I rfl) rfl (by show 2 * 0 + _ ≤ _; exact Nat.le_of_eq rfl) (hb hby own_dprog_30_method_1_code_7) (fun _ _ => ⟨rfl, e1, (by decide : 0 + 4 ≤ _), (by decide : 0 + 1024 ≤ _)⟩)
  dsimp only [Pt.U, Pt.locs, Pt.cells, Pt.slots] at X2 l2 y2 z2 st2 hQ2
  subst l2 y2 z2
  obtain ⟨rx2, rfl, Nq2, Kq2, ko2, vs2, qa2, kq2, ps2, Vo2, ho2, Vq2, hq2⟩ := hQ2
  have N2 := Fr.app N0 Nq2
  refine own_st st2 ?_
  have z3 : n0 ≤ T2.heap.size := Nat.le_trans Z0 Kq2.1
  have kk4 : Keep h0 T2.heap [o] := (Keep.refl h0 [o]).trans Kq2 all0
  have f5 := (E.keep Kq2)
  have neo2 : o ≠ rx2 := Exa.neArv f5 Vo2 (hw _ (List.mem_of_getElem? (i := 4) rfl))
  have neq2 : o ≠ qa2 := Exa.neArv f5 Vq2 (hw _ (List.mem_of_getElem? (i := 4) rfl))
  show own_Go p.tables e below RR (T2.setTop (mkF m 10 #[.val (.ref o), .val (.ref pa), .val (.int (65536 : Int32))] [(.ref rx2), (.ref o)]))
  have f6 := (F1.keep Kq2 nin0)
  obtain ⟨T7, h7, X7, e7, W7, st7⟩ := putF X2 hx hZ hown (host := "") (Or.inl (hw _ (List.mem_of_getElem? (i := 31) rfl))) Via.refl rfl f6 f5 (Or.inr ⟨(hw _ (List.mem_of_getElem? (i := 32) rfl)), rfl, hnm⟩) (hw _ (List.mem_of_getElem? (i := 4) rfl)) (ty := (.array (.array .int))) (by decide) rfl rfl (g := (mkF m 10 #[.val (.ref o), .val (.ref pa), .val (.int (65536 : Int32))] [(.ref rx2), (.ref o)])) rfl rfl (hb hby own_dprog_30_method_1_code_10)
  have Fw7 := f6.same W7
  have N7 := Fr.snoc X7 N2 g_o
  refine own_st st7 ?_
  have z8 : n0 ≤ h7.size := Nat.le_trans z3 (Keep.of_wr W7).1
  have kk9 : Keep h0 h7 [o] := kk4.wr W7 (Or.inl (List.mem_of_getElem? (i := 0) rfl))
  show own_Go p.tables e below RR (T7.setTop (mkF m 13 #[.val (.ref o), .val (.ref pa), .val (.int (65536 : Int32))] []))
  refine own_st (fun _ k => XS.aloadN X7.here hx rfl (hb hby own_dprog_30_method_1_code_13) rfl rfl (XS.aloadN X7.here hx rfl (hb hby own_dprog_30_method_1_code_14) rfl rfl k)) ?_
  show own_Go p.tables e below RR (T7.setTop (mkF m 15 #[.val (.ref o), .val (.ref pa), .val (.int (65536 : Int32))] [(.ref pa), (.ref o)]))
  have f10 := ((Vp.keep Kq2 nin0).other W7 (Ne.symm neop))
  obtain ⟨_, _, ⟨T11, L11, k11, n11⟩, -, X11, ⟨Lc11, hQ11, l11, y11, z11⟩, st11⟩ := Jvm.LawKit.callS X7 hx (y := (⟨"com/example/shiftwise/shiftwise/search/BoyerMooreTables", "goodSuffixShifts", "([I)[I"⟩ : MethodName)) hown (mvT hZ (hw _ (List.mem_of_getElem? (i := 33) rfl))) (mvT hZ (hw _ (List.mem_of_getElem? (i := 34) rfl))) (mvT hZ (hw _ (List.mem_of_getElem? (i := 5) rfl))) (mvT hZ (hw _ (List.mem_of_getElem? (i := 35) rfl))) (by decide) (backOf (W := 1) (own_rmGS l Z a0 hw [] pa kp pp0 pp1 pp2 pp3 h7 n0 z8 f10) hZ (hw _ (List.mem_of_getElem? (i := 35) rfl)) (hw _ (List.mem_of_getElem? (i := 5) rfl)) (by decide) (by decide)) (g := (mkF m 15 #[.val (.ref o), .val (.ref pa), .val (.int (65536 : Int32))] [(.ref pa), (.ref o)])) rfl (by rw [hml]; rfl) (argsL := [(.ref pa)]) (rest := [(.ref o)]) (lenOf own_pd___I__I rfl) rfl (by show 2 * 0 + _ ≤ _; exact Nat.le_of_eq rfl) (hb hby own_dprog_30_method_1_code_15) (fun _ _ => ⟨rfl, e7, (by decide : 4 + 4 ≤ _), (by decide : 1024 + 16 ≤ _)⟩)
  dsimp only [Pt.U, Pt.locs, Pt.cells, Pt.slots] at X11 l11 y11 z11 st11 hQ11
  subst l11 y11 z11
  obtain ⟨rx11, rfl, Nq11, Kq11⟩ := hQ11
  have N11 := Fr.app N7 Nq11
  refine own_st st11 ?_
  have z12 : n0 ≤ T11.heap.size := Nat.le_trans z8 Kq11.1
  have kk13 : Keep h0 T11.heap [o] := kk9.trans Kq11 all0
  show own_Go p.tables e below RR (T11.setTop (mkF m 18 #[.val (.ref o), .val (.ref pa), .val (.int (65536 : Int32))] [(.ref rx11), (.ref o)]))
  have f14 := (((F2.keep Kq2 nin0).other W7 (Or.inr (slot_ne (Or.inr (hw _ (List.mem_of_getElem? (i := 44) rfl))) (Or.inr (hw _ (List.mem_of_getElem? (i := 32) rfl))) (by decide) (t := (.array .int)) (t' := (.array (.array .int))) (by decide) (by decide)))).keep Kq11 nin0)
  have f15 := ((f5.wr W7).keep Kq11)
  obtain ⟨T16, h16, X16, e16, W16, st16⟩ := putF X11 hx hZ hown (host := "") (Or.inl (hw _ (List.mem_of_getElem? (i := 43) rfl))) Via.refl rfl f14 f15 (Or.inr ⟨(hw _ (List.mem_of_getElem? (i := 44) rfl)), rfl, hnm⟩) (hw _ (List.mem_of_getElem? (i := 4) rfl)) (ty := (.array .int)) (by decide) rfl rfl (g := (mkF m 18 #[.val (.ref o), .val (.ref pa), .val (.int (65536 : Int32))] [(.ref rx11), (.ref o)])) rfl rfl (hb hby own_dprog_30_method_1_code_18)
  have Fw16 := f14.same W16
  have N16 := Fr.snoc X16 N11 g_o
  refine own_st st16 ?_
  have z17 : n0 ≤ h16.size := Nat.le_trans z12 (Keep.of_wr W16).1
  have kk18 : Keep h0 h16 [o] := kk13.wr W16 (Or.inl (List.mem_of_getElem? (i := 0) rfl))
  show own_Go p.tables e below RR (T16.setTop (mkF m 21 #[.val (.ref o), .val (.ref pa), .val (.int (65536 : Int32))] []))
  obtain ⟨fs, hrt_, hrun, hended, hW, hsame⟩ := X16.leave (v := none) (fun _ => rfl)
  refine own_fin (X16.returnOut hx Bd.returns (hb hby own_dprog_30_method_1_code_21) hrt_) (hRR _ ⟨_, hrun, hended, _, _, rfl, ?_, ⟨_, rfl⟩, hW, hsame.mono (by decide) (by decide)⟩)
  show own_QIN Z o pa kp pp0 pp1 pp2 pp3 ab kb gc h0 n0 _ T16.heap _
  rw [e16]
  have f19 := (f15.wr W16)
  have f20 := ((Fw7.keep Kq11 nin0).other W16 (Or.inr (slot_ne (Or.inr (hw _ (List.mem_of_getElem? (i := 32) rfl))) (Or.inr (hw _ (List.mem_of_getElem? (i := 44) rfl))) (by decide) (t := (.array (.array .int))) (t' := (.array .int)) (by decide) (by decide))))
  have f21 := (((Vo2.other W7 (Ne.symm neo2)).keep Kq11 nin0).other W16 (Ne.symm neo2))
  have f22 := (((Vq2.other W7 (Ne.symm neq2)).keep Kq11 nin0).other W16 (Ne.symm neq2))
  exact ⟨rfl, N16, kk18, f19, _, _, _, _, _, _, f20, f21, ho2, f22, hq2⟩
theorem own_dprog_30_method_2_code_0 : decode prog_30_method_2_code 0 = .ok (.iload_n 1, 1) := by decide +kernel
theorem own_dprog_30_method_2_code_1 : decode prog_30_method_2_code 1 = .ok (.aload_n 0, 1) := by decide +kernel
theorem own_dprog_30_method_2_code_2 : decode prog_30_method_2_code 2 = .ok (.getfield 13, 3) := by decide +kernel
theorem own_dprog_30_method_2_code_5 : decode prog_30_method_2_code 5 = .ok (.iload_n 2, 1) := by decide +kernel
theorem own_dprog_30_method_2_code_6 : decode prog_30_method_2_code 6 = .ok (.bipush 8, 2) := by decide +kernel
theorem own_dprog_30_method_2_code_8 : decode prog_30_method_2_code 8 = .ok (.iushr, 1) := by decide +kernel
theorem own_dprog_30_method_2_code_9 : decode prog_30_method_2_code 9 = .ok (.aaload, 1) := by decide +kernel
theorem own_dprog_30_method_2_code_10 : decode prog_30_method_2_code 10 = .ok (.iload_n 2, 1) := by decide +kernel
theorem own_dprog_30_method_2_code_11 : decode prog_30_method_2_code 11 = .ok (.sipush 255, 3) := by decide +kernel
theorem own_dprog_30_method_2_code_14 : decode prog_30_method_2_code 14 = .ok (.iand, 1) := by decide +kernel
theorem own_dprog_30_method_2_code_15 : decode prog_30_method_2_code 15 = .ok (.iaload, 1) := by decide +kernel
theorem own_dprog_30_method_2_code_16 : decode prog_30_method_2_code 16 = .ok (.isub, 1) := by decide +kernel
theorem own_dprog_30_method_2_code_17 : decode prog_30_method_2_code 17 = .ok (.ireturn, 1) := by decide +kernel
theorem own_efBC (m : MethodId) (o : Addr) (pz : Int32) (gc : Int32) : entryFrame m #[(.ref o), (.int pz), (.int gc)] 3 = mkF m 0 #[.val (.ref o), .val (.int pz), .val (.int gc)] [] := by first | (simp [entryFrame, mkF, argsToLocals, Value.category]; done) | rfl
def own_QBC (Z : State) (o : Addr) (pz : Int32) (gc : Int32) (ao : Addr) (ko : ClassId) (vs : List Value) (qa : Addr) (kq : ClassId) (ps : List Value) (r : Int32) (h0 : Heap) (n0 : Nat) (rv__ : Option Value) (h : Heap) (rL__ : List Loc) : Prop := rv__ = some (.int (pz - r)) ∧ Fr n0 rL__ ∧ h = h0
abbrev own_RBC : Room := { frames := 0, cells := 0, slots := 0, locals := 0 }
set_option maxRecDepth 65536 in
set_option maxHeartbeats 40000000 in
theorem own_rmBC (l : Launch) (Z : State) (a0 : Array Value) (hw : ∀ d ∈ tables_1, d.before a0 Z = true) (ws : List Jvm.Cond) (o : Addr) (pz : Int32) (gc : Int32) (ao : Addr) (ko : ClassId) (vs : List Value) (qa : Addr) (kq : ClassId) (ps : List Value) (r : Int32) (h0 : Heap) (n0 : Nat) (Z0 : n0 ≤ h0.size) (F : Fld Z h0 o "com/example/shiftwise/shiftwise/search/BoyerMooreTables" "lastPositions" "[[I" (.ref ao)) (Vo : Arv Z h0 ao ko (.array .int) (256 : Int32) vs .null) (ho : vs.getD ((gc.toUInt32 >>> ((8 : Int32) &&& 31).toUInt32).toInt32).toNatClampNeg .null = .ref qa) (Vq : Arv Z h0 qa kq .int (256 : Int32) ps (.int (0 : Int32))) (hq : ps.getD (gc &&& (255 : Int32)).toNatClampNeg (.int (0 : Int32)) = .int r) (hbc : 0 ≤ gc.toInt ∧ gc.toInt < 65536) :
    MetFree l (⟨"com/example/shiftwise/shiftwise/search/BoyerMooreTables", "badCharacterShift", "(II)I"⟩ : MethodName) (head1 (Jvm.Cond.code (⟨"com/example/shiftwise/shiftwise/search/BoyerMooreTables", "badCharacterShift", "(II)I"⟩ : MethodName) prog_30_method_2_code 3 (some .int) :: ws) own_RBC) (fun aa__ U => aa__ = #[(.ref o), (.int pz), (.int gc)] ∧ Z.Warmed39 U.vm ∧ U.heap = h0) (fun _ _ _ _ _ => True) (fun _ U oc_ U' => ∃ rv__ rL__, oc_ = .returned rv__ ∧ own_QBC Z o pz gc ao ko vs qa kq ps r h0 n0 rv__ U'.heap rL__ ∧ FrameEnd U oc_ U' rL__ own_RBC.cells own_RBC.slots) := by
  refine MetFree.of_bodySF (plainFor_of_name own_pn_com_example_shiftwise_shiftwise_search_BoyerMooreTables) hisR ?_
  intro p e s m args below meth c s₁ Bd hml0 hP hK
  obtain ⟨rfl, hZ, hh⟩ := hP
  have hx := Bd.exec
  have hby := Bd.bytes
  have hml : c.maxLocals = 3 := hml0
  have hown : s.vm.findClass "com/example/shiftwise/shiftwise/search/BoyerMooreTables" = some m.cls := findClass_of_methodNamed Bd.named
  have hnm := (name_of_methodNamed Bd.named Bd.method).1
  have X0 : Stand p l e own_RBC s m #[(.ref o), (.int pz), (.int gc)] below meth c s₁ [] 0 0 := Stand.of_body Bd
  have e0 : s₁.heap = h0 := by rw [← hh, Bd.state]; rfl
  have N0 := Fr.nil n0
  refine own_in (fun _ k => castTop (own_efBC m o pz gc) k) ?_
  intro RR hRR
  show own_Go p.tables e below RR (s₁.setTop (mkF m 0 #[.val (.ref o), .val (.int pz), .val (.int gc)] []))
  refine own_st (fun _ k => XS.iloadN X0.here hx rfl (hb hby own_dprog_30_method_2_code_0) rfl (XS.aloadN X0.here hx rfl (hb hby own_dprog_30_method_2_code_1) rfl rfl k)) ?_
  show own_Go p.tables e below RR (s₁.setTop (mkF m 2 #[.val (.ref o), .val (.int pz), .val (.int gc)] [(.ref o), (.int pz)]))
  obtain ⟨T1, X1, e1, st1⟩ := getF X0 hx hZ hown (host := "") (Or.inl (hw _ (List.mem_of_getElem? (i := 31) rfl))) Via.refl e0 F (g := (mkF m 2 #[.val (.ref o), .val (.int pz), .val (.int gc)] [(.ref o), (.int pz)])) rfl rfl (hb hby own_dprog_30_method_2_code_2)
  refine own_st st1 ?_
  show own_Go p.tables e below RR (T1.setTop (mkF m 5 #[.val (.ref o), .val (.int pz), .val (.int gc)] [(.ref ao), (.int pz)]))
  refine own_st (fun _ k => XS.iloadN X1.here hx rfl (hb hby own_dprog_30_method_2_code_5) rfl (XS.bipush X1.here hx rfl (hb hby own_dprog_30_method_2_code_6) (XS.iushr X1.here hx rfl (hb hby own_dprog_30_method_2_code_8) rfl k))) ?_
  show own_Go p.tables e below RR (T1.setTop (mkF m 9 #[.val (.ref o), .val (.int pz), .val (.int gc)] [(.int ((gc.toUInt32 >>> ((8 : Int32) &&& 31).toUInt32).toInt32)), (.ref ao), (.int pz)]))
  obtain ⟨c2, A2, q2, s2, m2, H2, G2⟩ := id Vo
  have b2 := inb_of (j := ((gc.toUInt32 >>> ((8 : Int32) &&& 31).toUInt32).toInt32)) s2 (own_i256 (own_hr hbc))
  refine own_st (fun _ k => X1.aaload hx (j := ((gc.toUInt32 >>> ((8 : Int32) &&& 31).toUInt32).toInt32)) (v := (.ref qa)) (by rw [e1]; exact A2.1) (State.isArrayOf_alike hZ.alike A2.2.1) rfl A2.2.2 b2 (Has.at H2 b2 ho) (g := (mkF m 9 #[.val (.ref o), .val (.int pz), .val (.int gc)] [(.int ((gc.toUInt32 >>> ((8 : Int32) &&& 31).toUInt32).toInt32)), (.ref ao), (.int pz)])) rfl rfl (hb hby own_dprog_30_method_2_code_9) _ (XS.iloadN X1.here hx rfl (hb hby own_dprog_30_method_2_code_10) rfl (XS.sipush X1.here hx rfl (hb hby own_dprog_30_method_2_code_11) (XS.iand X1.here hx rfl (hb hby own_dprog_30_method_2_code_14) rfl k)))) ?_
  show own_Go p.tables e below RR (T1.setTop (mkF m 15 #[.val (.ref o), .val (.int pz), .val (.int gc)] [(.int (gc &&& (255 : Int32))), (.ref qa), (.int pz)]))
  obtain ⟨c3, A3, q3, s3, m3, H3, G3⟩ := id Vq
  have b3 := inb_of (j := (gc &&& (255 : Int32))) s3 (own_i256 (own_lr gc))
  refine own_st (fun _ k => X1.iaload hx (j := (gc &&& (255 : Int32))) (v := (.int r)) (by rw [e1]; exact A3.1) (State.isArrayOf_alike hZ.alike A3.2.1) A3.2.2 b3 (Has.at H3 b3 hq) (g := (mkF m 15 #[.val (.ref o), .val (.int pz), .val (.int gc)] [(.int (gc &&& (255 : Int32))), (.ref qa), (.int pz)])) rfl rfl (hb hby own_dprog_30_method_2_code_15) _ (XS.isub X1.here hx rfl (hb hby own_dprog_30_method_2_code_16) rfl k)) ?_
  show own_Go p.tables e below RR (T1.setTop (mkF m 17 #[.val (.ref o), .val (.int pz), .val (.int gc)] [(.int (pz - r))]))
  obtain ⟨fs, hrt_, hrun, hended, hW, hsame⟩ := X1.leave (v := some (.int (pz - r))) (fun h => by rw [Bd.returns] at h; cases h)
  refine own_fin (retI X1 hx Bd.returns (hb hby own_dprog_30_method_2_code_17) hrt_) (hRR _ ⟨_, hrun, hended, _, _, rfl, ?_, ⟨_, rfl⟩, hW, hsame.mono (by decide) (by decide)⟩)
  show own_QBC Z o pz gc ao ko vs qa kq ps r h0 n0 _ T1.heap _
  rw [e1]
  exact ⟨rfl, N0, rfl⟩
theorem own_pn_com_example_shiftwise_shiftwise_search_BoyerMooreTablesBadCharacterShiftPinLaw : plainName "com/example/shiftwise/shiftwise/search/BoyerMooreTablesBadCharacterShiftPinLaw" = true := by first | (simp [plainName, overriddenIn]; done) | decide +kernel
theorem own_ef0 (m : MethodId) (p1 : Int64) (p2 : Int32) (p3 : Int32) (p4 : Int32) : entryFrame m #[(.long p1), (.int p2), (.int p3), (.int p4)] maxLocals = mkF m 0 #[.val (.long p1), .second, .val (.int p2), .val (.int p3), .val (.int p4), .unset, .unset, .unset, .unset, .unset, .unset, .unset, .unset, .unset, .unset, .unset, .unset] [] := by first | (simp [entryFrame, mkF, argsToLocals, Value.category, maxLocals]; done) | rfl
def own_Q0 (Z : State) (p1 : Int64) (p2 : Int32) (p3 : Int32) (p4 : Int32) (a_ABSENT : Addr) (kb : ClassId) (h0 : Heap) (n0 : Nat) (rv__ : Option Value) (h : Heap) (rL__ : List Loc) : Prop := rv__ = some (.int 1) ∧ Fr n0 rL__
set_option maxRecDepth 65536 in
set_option maxHeartbeats 40000000 in
theorem own_rm0 (l : Launch) (Z : State) (a0 : Array Value) (hw : ∀ d ∈ tables_1, d.before a0 Z = true) (ws : List Jvm.Cond) (p1 : Int64) (p2 : Int32) (p3 : Int32) (p4 : Int32) (a_ABSENT : Addr) (kb : ClassId) (h0 : Heap) (n0 : Nat) (Z0 : n0 ≤ h0.size) (E_ABSENT : Exa Z h0 a_ABSENT "[I") (S_ABSENT : Sta Z h0 "com/example/shiftwise/shiftwise/search/BoyerMooreTables" "ABSENT" "[I" (.ref a_ABSENT)) (Vab : Arv Z h0 a_ABSENT kb .int (256 : Int32) (own_fl 256 256 (.int (-1 : Int32)) (.int (0 : Int32))) (.int (0 : Int32))) :
    MetFree l x (head1 (Jvm.Cond.code x code maxLocals ret :: ws) room_1) (fun aa__ U => aa__ = #[(.long p1), (.int p2), (.int p3), (.int p4)] ∧ Z.Warmed39 U.vm ∧ U.heap = h0) (fun _ _ _ _ _ => True) (fun _ U oc_ U' => ∃ rv__ rL__, oc_ = .returned rv__ ∧ own_Q0 Z p1 p2 p3 p4 a_ABSENT kb h0 n0 rv__ U'.heap rL__ ∧ FrameEnd U oc_ U' rL__ room_1.cells room_1.slots) := by
  refine MetFree.of_bodySF (plainFor_of_name own_pn_com_example_shiftwise_shiftwise_search_BoyerMooreTablesBadCharacterShiftPinLaw) hisR ?_
  intro p e s m args below meth c s₁ Bd hml0 hP hK
  obtain ⟨rfl, hZ, hh⟩ := hP
  have hx := Bd.exec
  have hby := Bd.bytes
  have hml : c.maxLocals = 17 := hml0
  have hown : s.vm.findClass "com/example/shiftwise/shiftwise/search/BoyerMooreTablesBadCharacterShiftPinLaw" = some m.cls := findClass_of_methodNamed Bd.named
  have hnm := (name_of_methodNamed Bd.named Bd.method).1
  have X0 : Stand p l e room_1 s m #[(.long p1), (.int p2), (.int p3), (.int p4)] below meth c s₁ [] 0 0 := Stand.of_body Bd
  have e0 : s₁.heap = h0 := by rw [← hh, Bd.state]; rfl
  have N0 := Fr.nil n0
  refine own_in (fun _ k => castTop (own_ef0 m p1 p2 p3 p4) k) ?_
  intro RR hRR
  show own_Go p.tables e below RR (s₁.setTop (mkF m 0 #[.val (.long p1), .second, .val (.int p2), .val (.int p3), .val (.int p4), .unset, .unset, .unset, .unset, .unset, .unset, .unset, .unset, .unset, .unset, .unset, .unset] []))
  have join1 : ∀ (T1 : State) (lo1 : List Loc) (sma : Int32) (X1 : Stand p l e room_1 s m #[(.long p1), (.int p2), (.int p3), (.int p4)] below meth c T1 lo1 0 0) (e1 : T1.heap = h0) (N1 : Fr n0 lo1), own_Go p.tables e below RR (T1.setTop (mkF m 11 #[.val (.long p1), .second, .val (.int p2), .val (.int p3), .val (.int p4), .unset, .unset, .unset, .unset, .unset, .unset, .unset, .unset, .unset, .unset, .unset, .unset] [(.int sma)])) := by
    intro T1 lo1 sma X1 e1 N1 
    show own_Go p.tables e below RR (T1.setTop (mkF m 11 #[.val (.long p1), .second, .val (.int p2), .val (.int p3), .val (.int p4), .unset, .unset, .unset, .unset, .unset, .unset, .unset, .unset, .unset, .unset, .unset, .unset] [(.int sma)]))
    refine own_st (fun _ k => XS.istore X1.here hx rfl (hb hby at_11) rfl (l' := #[.val (.long p1), .second, .val (.int p2), .val (.int p3), .val (.int p4), .val (.int sma), .unset, .unset, .unset, .unset, .unset, .unset, .unset, .unset, .unset, .unset, .unset]) rfl k) ?_
    show own_Go p.tables e below RR (T1.setTop (mkF m 13 #[.val (.long p1), .second, .val (.int p2), .val (.int p3), .val (.int p4), .val (.int sma), .unset, .unset, .unset, .unset, .unset, .unset, .unset, .unset, .unset, .unset, .unset] []))
    have join2 : ∀ (T2 : State) (lo2 : List Loc) (sm : Int32) (mk : Int32) (pp0 : Int32) (pp1 : Int32) (pp2 : Int32) (pp3 : Int32) (X2 : Stand p l e room_1 s m #[(.long p1), (.int p2), (.int p3), (.int p4)] below meth c T2 lo2 0 0) (e2 : T2.heap = h0) (N2 : Fr n0 lo2) (hmk : mk = 259 ∨ mk = 65535) (hb0 : 0 ≤ pp0.toInt ∧ pp0.toInt < 65536) (hb1 : 0 ≤ pp1.toInt ∧ pp1.toInt < 65536) (hb2 : 0 ≤ pp2.toInt ∧ pp2.toInt < 65536) (hb3 : 0 ≤ pp3.toInt ∧ pp3.toInt < 65536), own_Go p.tables e below RR (T2.setTop (mkF m 81 #[.val (.long p1), .second, .val (.int p2), .val (.int p3), .val (.int p4), .val (.int sm), .val (.int mk), .val (.int pp0), .val (.int pp1), .val (.int pp2), .val (.int pp3), .unset, .unset, .unset, .unset, .unset, .unset] [])) := by
      intro T2 lo2 sm mk pp0 pp1 pp2 pp3 X2 e2 N2 hmk hb0 hb1 hb2 hb3
      show own_Go p.tables e below RR (T2.setTop (mkF m 81 #[.val (.long p1), .second, .val (.int p2), .val (.int p3), .val (.int p4), .val (.int sm), .val (.int mk), .val (.int pp0), .val (.int pp1), .val (.int pp2), .val (.int pp3), .unset, .unset, .unset, .unset, .unset, .unset] []))
      refine own_st (fun _ k => XS.iconst X2.here hx rfl (hb hby at_81) k) ?_
      show own_Go p.tables e below RR (T2.setTop (mkF m 82 #[.val (.long p1), .second, .val (.int p2), .val (.int p3), .val (.int p4), .val (.int sm), .val (.int mk), .val (.int pp0), .val (.int pp1), .val (.int pp2), .val (.int pp3), .unset, .unset, .unset, .unset, .unset, .unset] [(.int (4 : Int32))]))
      obtain ⟨T3, h3, k3, X3, e3, E3, A3, st3⟩ := newP X2 hx hZ (hw _ (List.mem_of_getElem? (i := 2) rfl)) e2 (g := (mkF m 82 #[.val (.long p1), .second, .val (.int p2), .val (.int p3), .val (.int p4), .val (.int sm), .val (.int mk), .val (.int pp0), .val (.int pp1), .val (.int pp2), .val (.int pp3), .unset, .unset, .unset, .unset, .unset, .unset] [(.int (4 : Int32))])) rfl (hb hby at_82) rfl (by decide) (cap := 4) (by decide) (by decide) (by decide) (by decide)
      obtain ⟨b3, gb3⟩ : ∃ z, z = h0.size := ⟨_, rfl⟩
      rw [← gb3] at A3 st3
      have ge3 : n0 ≤ b3 := Nat.le_trans Z0 (Nat.le_of_eq gb3.symm)
      refine own_st st3 ?_
      have z4 : n0 ≤ h3.size := Nat.le_trans Z0 E3.1
      have V3 : Arv Z h3 b3 k3 .int (4 : Int32) [(.int (0 : Int32)), (.int (0 : Int32)), (.int (0 : Int32)), (.int (0 : Int32))] (.int (0 : Int32)) := (Arv.new A3 (by decide)).pad (pad_rep [] (.int (0 : Int32)) 4)
      show own_Go p.tables e below RR (T3.setTop (mkF m 84 #[.val (.long p1), .second, .val (.int p2), .val (.int p3), .val (.int p4), .val (.int sm), .val (.int mk), .val (.int pp0), .val (.int pp1), .val (.int pp2), .val (.int pp3), .unset, .unset, .unset, .unset, .unset, .unset] [(.ref b3)]))
      refine own_st (fun _ k => XS.dup X3.here hx rfl (hb hby at_84) rfl rfl (XS.iconst X3.here hx rfl (hb hby at_85) (XS.iload X3.here hx rfl (hb hby at_86) rfl k))) ?_
      show own_Go p.tables e below RR (T3.setTop (mkF m 88 #[.val (.long p1), .second, .val (.int p2), .val (.int p3), .val (.int p4), .val (.int sm), .val (.int mk), .val (.int pp0), .val (.int pp1), .val (.int pp2), .val (.int pp3), .unset, .unset, .unset, .unset, .unset, .unset] [(.int pp0), (.int (0 : Int32)), (.ref b3), (.ref b3)]))
      obtain ⟨c5, A5, q5, s5, m5, H5, G5⟩ := id V3
      obtain ⟨T6, h6, X6, e6, W6, st6⟩ := stI X3 hx hZ e3 A5 (j := (0 : Int32)) (inb_of s5 ⟨by decide, by decide⟩) (g := (mkF m 88 #[.val (.long p1), .second, .val (.int p2), .val (.int p3), .val (.int p4), .val (.int sm), .val (.int mk), .val (.int pp0), .val (.int pp1), .val (.int pp2), .val (.int pp3), .unset, .unset, .unset, .unset, .unset, .unset] [(.int pp0), (.int (0 : Int32)), (.ref b3), (.ref b3)])) rfl rfl (hb hby at_88)
      have V6 := Arv.set A5 q5 s5 m5 H5 G5 rfl W6 0 rfl (Nat.le_of_ble_eq_true rfl)
      have V6 : Arv Z h6 b3 k3 .int (4 : Int32) [(.int pp0), (.int (0 : Int32)), (.int (0 : Int32)), (.int (0 : Int32))] (.int (0 : Int32)) := V6
      have N6 := Fr.snoc X6 N2 ge3
      refine own_st st6 ?_
      have z7 : n0 ≤ h6.size := Nat.le_trans z4 (Keep.of_wr W6).1
      show own_Go p.tables e below RR (T6.setTop (mkF m 89 #[.val (.long p1), .second, .val (.int p2), .val (.int p3), .val (.int p4), .val (.int sm), .val (.int mk), .val (.int pp0), .val (.int pp1), .val (.int pp2), .val (.int pp3), .unset, .unset, .unset, .unset, .unset, .unset] [(.ref b3)]))
      refine own_st (fun _ k => XS.dup X6.here hx rfl (hb hby at_89) rfl rfl (XS.iconst X6.here hx rfl (hb hby at_90) (XS.iload X6.here hx rfl (hb hby at_91) rfl k))) ?_
      show own_Go p.tables e below RR (T6.setTop (mkF m 93 #[.val (.long p1), .second, .val (.int p2), .val (.int p3), .val (.int p4), .val (.int sm), .val (.int mk), .val (.int pp0), .val (.int pp1), .val (.int pp2), .val (.int pp3), .unset, .unset, .unset, .unset, .unset, .unset] [(.int pp1), (.int (1 : Int32)), (.ref b3), (.ref b3)]))
      obtain ⟨c8, A8, q8, s8, m8, H8, G8⟩ := id V6
      obtain ⟨T9, h9, X9, e9, W9, st9⟩ := stI X6 hx hZ e6 A8 (j := (1 : Int32)) (inb_of s8 ⟨by decide, by decide⟩) (g := (mkF m 93 #[.val (.long p1), .second, .val (.int p2), .val (.int p3), .val (.int p4), .val (.int sm), .val (.int mk), .val (.int pp0), .val (.int pp1), .val (.int pp2), .val (.int pp3), .unset, .unset, .unset, .unset, .unset, .unset] [(.int pp1), (.int (1 : Int32)), (.ref b3), (.ref b3)])) rfl rfl (hb hby at_93)
      have V9 := Arv.set A8 q8 s8 m8 H8 G8 rfl W9 1 rfl (Nat.le_of_ble_eq_true rfl)
      have V9 : Arv Z h9 b3 k3 .int (4 : Int32) [(.int pp0), (.int pp1), (.int (0 : Int32)), (.int (0 : Int32))] (.int (0 : Int32)) := V9
      have N9 := Fr.snoc X9 N6 ge3
      refine own_st st9 ?_
      have z10 : n0 ≤ h9.size := Nat.le_trans z7 (Keep.of_wr W9).1
      show own_Go p.tables e below RR (T9.setTop (mkF m 94 #[.val (.long p1), .second, .val (.int p2), .val (.int p3), .val (.int p4), .val (.int sm), .val (.int mk), .val (.int pp0), .val (.int pp1), .val (.int pp2), .val (.int pp3), .unset, .unset, .unset, .unset, .unset, .unset] [(.ref b3)]))
      refine own_st (fun _ k => XS.dup X9.here hx rfl (hb hby at_94) rfl rfl (XS.iconst X9.here hx rfl (hb hby at_95) (XS.iload X9.here hx rfl (hb hby at_96) rfl k))) ?_
      show own_Go p.tables e below RR (T9.setTop (mkF m 98 #[.val (.long p1), .second, .val (.int p2), .val (.int p3), .val (.int p4), .val (.int sm), .val (.int mk), .val (.int pp0), .val (.int pp1), .val (.int pp2), .val (.int pp3), .unset, .unset, .unset, .unset, .unset, .unset] [(.int pp2), (.int (2 : Int32)), (.ref b3), (.ref b3)]))
      obtain ⟨c11, A11, q11, s11, m11, H11, G11⟩ := id V9
      obtain ⟨T12, h12, X12, e12, W12, st12⟩ := stI X9 hx hZ e9 A11 (j := (2 : Int32)) (inb_of s11 ⟨by decide, by decide⟩) (g := (mkF m 98 #[.val (.long p1), .second, .val (.int p2), .val (.int p3), .val (.int p4), .val (.int sm), .val (.int mk), .val (.int pp0), .val (.int pp1), .val (.int pp2), .val (.int pp3), .unset, .unset, .unset, .unset, .unset, .unset] [(.int pp2), (.int (2 : Int32)), (.ref b3), (.ref b3)])) rfl rfl (hb hby at_98)
      have V12 := Arv.set A11 q11 s11 m11 H11 G11 rfl W12 2 rfl (Nat.le_of_ble_eq_true rfl)
      have V12 : Arv Z h12 b3 k3 .int (4 : Int32) [(.int pp0), (.int pp1), (.int pp2), (.int (0 : Int32))] (.int (0 : Int32)) := V12
      have N12 := Fr.snoc X12 N9 ge3
      refine own_st st12 ?_
      have z13 : n0 ≤ h12.size := Nat.le_trans z10 (Keep.of_wr W12).1
      show own_Go p.tables e below RR (T12.setTop (mkF m 99 #[.val (.long p1), .second, .val (.int p2), .val (.int p3), .val (.int p4), .val (.int sm), .val (.int mk), .val (.int pp0), .val (.int pp1), .val (.int pp2), .val (.int pp3), .unset, .unset, .unset, .unset, .unset, .unset] [(.ref b3)]))
      refine own_st (fun _ k => XS.dup X12.here hx rfl (hb hby at_99) rfl rfl (XS.iconst X12.here hx rfl (hb hby at_100) (XS.iload X12.here hx rfl (hb hby at_101) rfl k))) ?_
      show own_Go p.tables e below RR (T12.setTop (mkF m 103 #[.val (.long p1), .second, .val (.int p2), .val (.int p3), .val (.int p4), .val (.int sm), .val (.int mk), .val (.int pp0), .val (.int pp1), .val (.int pp2), .val (.int pp3), .unset, .unset, .unset, .unset, .unset, .unset] [(.int pp3), (.int (3 : Int32)), (.ref b3), (.ref b3)]))
      obtain ⟨c14, A14, q14, s14, m14, H14, G14⟩ := id V12
      obtain ⟨T15, h15, X15, e15, W15, st15⟩ := stI X12 hx hZ e12 A14 (j := (3 : Int32)) (inb_of s14 ⟨by decide, by decide⟩) (g := (mkF m 103 #[.val (.long p1), .second, .val (.int p2), .val (.int p3), .val (.int p4), .val (.int sm), .val (.int mk), .val (.int pp0), .val (.int pp1), .val (.int pp2), .val (.int pp3), .unset, .unset, .unset, .unset, .unset, .unset] [(.int pp3), (.int (3 : Int32)), (.ref b3), (.ref b3)])) rfl rfl (hb hby at_103)
      have V15 := Arv.set A14 q14 s14 m14 H14 G14 rfl W15 3 rfl (Nat.le_of_ble_eq_true rfl)
      have V15 : Arv Z h15 b3 k3 .int (4 : Int32) [(.int pp0), (.int pp1), (.int pp2), (.int pp3)] (.int (0 : Int32)) := V15
      have N15 := Fr.snoc X15 N12 ge3
      refine own_st st15 ?_
      have z16 : n0 ≤ h15.size := Nat.le_trans z13 (Keep.of_wr W15).1
      show own_Go p.tables e below RR (T15.setTop (mkF m 104 #[.val (.long p1), .second, .val (.int p2), .val (.int p3), .val (.int p4), .val (.int sm), .val (.int mk), .val (.int pp0), .val (.int pp1), .val (.int pp2), .val (.int pp3), .unset, .unset, .unset, .unset, .unset, .unset] [(.ref b3)]))
      refine own_st (fun _ k => XS.astore X15.here hx rfl (hb hby at_104) rfl rfl (l' := #[.val (.long p1), .second, .val (.int p2), .val (.int p3), .val (.int p4), .val (.int sm), .val (.int mk), .val (.int pp0), .val (.int pp1), .val (.int pp2), .val (.int pp3), .val (.ref b3), .unset, .unset, .unset, .unset, .unset]) rfl (XS.iloadN X15.here hx rfl (hb hby at_106) rfl (XS.iconst X15.here hx rfl (hb hby at_107) (XS.iushr X15.here hx rfl (hb hby at_108) rfl (XS.bipush X15.here hx rfl (hb hby at_109) (XS.iand X15.here hx rfl (hb hby at_111) rfl (XS.istore X15.here hx rfl (hb hby at_112) rfl (l' := #[.val (.long p1), .second, .val (.int p2), .val (.int p3), .val (.int p4), .val (.int sm), .val (.int mk), .val (.int pp0), .val (.int pp1), .val (.int pp2), .val (.int pp3), .val (.ref b3), .val (.int (((p2.toUInt32 >>> ((1 : Int32) &&& 31).toUInt32).toInt32) &&& (7 : Int32))), .unset, .unset, .unset, .unset]) rfl k))))))) ?_
      show own_Go p.tables e below RR (T15.setTop (mkF m 114 #[.val (.long p1), .second, .val (.int p2), .val (.int p3), .val (.int p4), .val (.int sm), .val (.int mk), .val (.int pp0), .val (.int pp1), .val (.int pp2), .val (.int pp3), .val (.ref b3), .val (.int (((p2.toUInt32 >>> ((1 : Int32) &&& 31).toUInt32).toInt32) &&& (7 : Int32))), .unset, .unset, .unset, .unset] []))
      have join17 : ∀ (T17 : State) (lo17 : List Loc) (gc : Int32) (X17 : Stand p l e room_1 s m #[(.long p1), (.int p2), (.int p3), (.int p4)] below meth c T17 lo17 1 4) (e17 : T17.heap = h15) (N17 : Fr n0 lo17) (hbc : 0 ≤ gc.toInt ∧ gc.toInt < 65536), own_Go p.tables e below RR (T17.setTop (mkF m 204 #[.val (.long p1), .second, .val (.int p2), .val (.int p3), .val (.int p4), .val (.int sm), .val (.int mk), .val (.int pp0), .val (.int pp1), .val (.int pp2), .val (.int pp3), .val (.ref b3), .val (.int (((p2.toUInt32 >>> ((1 : Int32) &&& 31).toUInt32).toInt32) &&& (7 : Int32))), .val (.int gc), .unset, .unset, .unset] [])) := by
        intro T17 lo17 gc X17 e17 N17 hbc
        show own_Go p.tables e below RR (T17.setTop (mkF m 204 #[.val (.long p1), .second, .val (.int p2), .val (.int p3), .val (.int p4), .val (.int sm), .val (.int mk), .val (.int pp0), .val (.int pp1), .val (.int pp2), .val (.int pp3), .val (.ref b3), .val (.int (((p2.toUInt32 >>> ((1 : Int32) &&& 31).toUInt32).toInt32) &&& (7 : Int32))), .val (.int gc), .unset, .unset, .unset] []))
        obtain ⟨T18, h18, X18, e18, E18, A18, D18, -, st18⟩ := newO X17 hx hZ hown (hw _ (List.mem_of_getElem? (i := 3) rfl)) (hw _ (List.mem_of_getElem? (i := 4) rfl)) (hw _ (List.mem_of_getElem? (i := 5) rfl)) e17 (g := (mkF m 204 #[.val (.long p1), .second, .val (.int p2), .val (.int p3), .val (.int p4), .val (.int sm), .val (.int mk), .val (.int pp0), .val (.int pp1), .val (.int pp2), .val (.int pp3), .val (.ref b3), .val (.int (((p2.toUInt32 >>> ((1 : Int32) &&& 31).toUInt32).toInt32) &&& (7 : Int32))), .val (.int gc), .unset, .unset, .unset] [])) rfl (hb hby at_204) (by decide) (by decide)
        obtain ⟨b18, gb18⟩ : ∃ z, z = h15.size := ⟨_, rfl⟩
        rw [← gb18] at A18 D18 st18
        have ge18 : n0 ≤ b18 := Nat.le_trans z16 (Nat.le_of_eq gb18.symm)
        refine own_st st18 ?_
        have z19 : n0 ≤ h18.size := Nat.le_trans z16 E18.1
        have F18_32 : Fld Z h18 b18 "com/example/shiftwise/shiftwise/search/BoyerMooreTables" "lastPositions" "[[I" .null := D18 (Or.inr (hw _ (List.mem_of_getElem? (i := 32) rfl))) (ty := (.array (.array .int))) (by decide)
        have F18_44 : Fld Z h18 b18 "com/example/shiftwise/shiftwise/search/BoyerMooreTables" "goodSuffixShifts" "[I" .null := D18 (Or.inr (hw _ (List.mem_of_getElem? (i := 44) rfl))) (ty := (.array .int)) (by decide)
        show own_Go p.tables e below RR (T18.setTop (mkF m 207 #[.val (.long p1), .second, .val (.int p2), .val (.int p3), .val (.int p4), .val (.int sm), .val (.int mk), .val (.int pp0), .val (.int pp1), .val (.int pp2), .val (.int pp3), .val (.ref b3), .val (.int (((p2.toUInt32 >>> ((1 : Int32) &&& 31).toUInt32).toInt32) &&& (7 : Int32))), .val (.int gc), .unset, .unset, .unset] [(.ref b18)]))
        refine own_st (fun _ k => XS.dup X18.here hx rfl (hb hby at_207) rfl rfl (XS.aload X18.here hx rfl (hb hby at_208) rfl rfl (X18.ldcInt hx hown (mvT hZ (hw _ (List.mem_of_getElem? (i := 6) rfl))) (g := (mkF m 210 #[.val (.long p1), .second, .val (.int p2), .val (.int p3), .val (.int p4), .val (.int sm), .val (.int mk), .val (.int pp0), .val (.int pp1), .val (.int pp2), .val (.int pp3), .val (.ref b3), .val (.int (((p2.toUInt32 >>> ((1 : Int32) &&& 31).toUInt32).toInt32) &&& (7 : Int32))), .val (.int gc), .unset, .unset, .unset] [(.ref b3), (.ref b18), (.ref b18)])) rfl (hb hby at_210) _ k))) ?_
        show own_Go p.tables e below RR (T18.setTop (mkF m 212 #[.val (.long p1), .second, .val (.int p2), .val (.int p3), .val (.int p4), .val (.int sm), .val (.int mk), .val (.int pp0), .val (.int pp1), .val (.int pp2), .val (.int pp3), .val (.ref b3), .val (.int (((p2.toUInt32 >>> ((1 : Int32) &&& 31).toUInt32).toInt32) &&& (7 : Int32))), .val (.int gc), .unset, .unset, .unset] [(.int (65536 : Int32)), (.ref b3), (.ref b18), (.ref b18)]))
        have f20 := (V15.ext E18)
        have f21 := ((((((S_ABSENT.ext E3).wr W6).wr W9).wr W12).wr W15).ext E18)
        have f22 := ((((((E_ABSENT.ext E3).wr W6).wr W9).wr W12).wr W15).ext E18)
        have ne23 : a_ABSENT ≠ b3 := (Nat.ne_of_lt (Nat.lt_of_lt_of_le E_ABSENT.lt (Nat.le_of_eq gb3.symm)))
        have f24 := ((((((Vab.ext E3).other W6 ne23).other W9 ne23).other W12 ne23).other W15 ne23).ext E18)
        obtain ⟨_, _, ⟨T25, L25, k25, n25⟩, -, X25, ⟨Lc25, hQ25, l25, y25, z25⟩, st25⟩ := X18.specialBack hx (y := (⟨"com/example/shiftwise/shiftwise/search/BoyerMooreTables", "<init>", "([II)V"⟩ : MethodName)) rfl hown (mvT hZ (hw _ (List.mem_of_getElem? (i := 7) rfl))) (mvT hZ (hw _ (List.mem_of_getElem? (i := 8) rfl))) (mvT hZ (hw _ (List.mem_of_getElem? (i := 9) rfl))) (by decide) (backOf (W := 1) (own_rmIN l Z a0 hw [] b18 b3 k3 pp0 pp1 pp2 pp3 a_ABSENT kb gc h18 n0 z19 ge18 A18 F18_32 F18_44 f20 f21 f22 f24 hb0 hb1 hb2 hbc) hZ (hw _ (List.mem_of_getElem? (i := 9) rfl)) (hw _ (List.mem_of_getElem? (i := 5) rfl)) (by decide) (by decide)) (g := (mkF m 212 #[.val (.long p1), .second, .val (.int p2), .val (.int p3), .val (.int p4), .val (.int sm), .val (.int mk), .val (.int pp0), .val (.int pp1), .val (.int pp2), .val (.int pp3), .val (.ref b3), .val (.int (((p2.toUInt32 >>> ((1 : Int32) &&& 31).toUInt32).toInt32) &&& (7 : Int32))), .val (.int gc), .unset, .unset, .unset] [(.int (65536 : Int32)), (.ref b3), (.ref b18), (.ref b18)])) rfl (by rw [hml]; rfl) (Steps.refl _) (a := b18) (argsL := [(.ref b3), (.int (65536 : Int32))]) (rest := [(.ref b18)]) (lenOf own_pd___II_V rfl) rfl (by show 2 * 0 + _ ≤ _; exact Nat.le_of_eq rfl) (hb hby at_212) (fun _ _ => ⟨rfl, e18, (by decide : 2 + 8 ≤ _), (by decide : 6 + 1040 ≤ _)⟩)
        dsimp only [Pt.U, Pt.locs, Pt.cells, Pt.slots] at X25 l25 y25 z25 st25 hQ25
        subst l25 y25 z25
        obtain ⟨rfl, Nq25, Kq25, Eq25, ao, ko, vs, qa, kq, ps, Fq25, Vo25, ho, Vq25, hq⟩ := hQ25
        have N25 := Fr.app N17 Nq25
        refine own_st (fun _ k => st25.trans k) ?_
        have z26 : n0 ≤ T25.heap.size := Nat.le_trans z19 Kq25.1
        show own_Go p.tables e below RR (T25.setTop (mkF m 215 #[.val (.long p1), .second, .val (.int p2), .val (.int p3), .val (.int p4), .val (.int sm), .val (.int mk), .val (.int pp0), .val (.int pp1), .val (.int pp2), .val (.int pp3), .val (.ref b3), .val (.int (((p2.toUInt32 >>> ((1 : Int32) &&& 31).toUInt32).toInt32) &&& (7 : Int32))), .val (.int gc), .unset, .unset, .unset] [(.ref b18)]))
        refine own_st (fun _ k => XS.astore X25.here hx rfl (hb hby at_215) rfl rfl (l' := #[.val (.long p1), .second, .val (.int p2), .val (.int p3), .val (.int p4), .val (.int sm), .val (.int mk), .val (.int pp0), .val (.int pp1), .val (.int pp2), .val (.int pp3), .val (.ref b3), .val (.int (((p2.toUInt32 >>> ((1 : Int32) &&& 31).toUInt32).toInt32) &&& (7 : Int32))), .val (.int gc), .val (.ref b18), .unset, .unset]) rfl (XS.aload X25.here hx rfl (hb hby at_217) rfl rfl (XS.iloadN X25.here hx rfl (hb hby at_219) rfl (XS.iload X25.here hx rfl (hb hby at_220) rfl k)))) ?_
        show own_Go p.tables e below RR (T25.setTop (mkF m 222 #[.val (.long p1), .second, .val (.int p2), .val (.int p3), .val (.int p4), .val (.int sm), .val (.int mk), .val (.int pp0), .val (.int pp1), .val (.int pp2), .val (.int pp3), .val (.ref b3), .val (.int (((p2.toUInt32 >>> ((1 : Int32) &&& 31).toUInt32).toInt32) &&& (7 : Int32))), .val (.int gc), .val (.ref b18), .unset, .unset] [(.int gc), (.int p3), (.ref b18)]))
        obtain ⟨cq27, kq27, q27a, q27b, q27c⟩ := isOf hZ rfl Eq25
        obtain ⟨_, _, ⟨T27, L27, k27, n27⟩, -, X27, ⟨Lc27, hQ27, l27, y27, z27⟩, st27⟩ := X25.virtualBack hx (y := (⟨"com/example/shiftwise/shiftwise/search/BoyerMooreTables", "badCharacterShift", "(II)I"⟩ : MethodName)) (z := (⟨"com/example/shiftwise/shiftwise/search/BoyerMooreTables", "badCharacterShift", "(II)I"⟩ : MethodName)) hown (mvT hZ (hw _ (List.mem_of_getElem? (i := 45) rfl))) (mvT hZ (hw _ (List.mem_of_getElem? (i := 46) rfl))) (notFace_of_selects (args := #[]) (mvT hZ (hw _ (List.mem_of_getElem? (i := 48) rfl)))) (mvT hZ (hw _ (List.mem_of_getElem? (i := 48) rfl))) (mvT hZ (hw _ (List.mem_of_getElem? (i := 47) rfl))) (by decide) (backOf (W := 0) (own_rmBC l Z a0 hw [] b18 p3 gc ao ko vs qa kq ps (if pp2 = gc then (2 : Int32) else if pp1 = gc then (1 : Int32) else if pp0 = gc then (0 : Int32) else (-1 : Int32)) T25.heap n0 z26 Fq25 Vo25 ho Vq25 hq hbc) hZ (hw _ (List.mem_of_getElem? (i := 49) rfl)) (hw _ (List.mem_of_getElem? (i := 5) rfl)) (by decide) (by decide)) q27a q27c (g := (mkF m 222 #[.val (.long p1), .second, .val (.int p2), .val (.int p3), .val (.int p4), .val (.int sm), .val (.int mk), .val (.int pp0), .val (.int pp1), .val (.int pp2), .val (.int pp3), .val (.ref b3), .val (.int (((p2.toUInt32 >>> ((1 : Int32) &&& 31).toUInt32).toInt32) &&& (7 : Int32))), .val (.int gc), .val (.ref b18), .unset, .unset] [(.int gc), (.int p3), (.ref b18)])) rfl (by rw [hml]; rfl) (Steps.refl _) (argsL := [(.int p3), (.int gc)]) (rest := []) (lenOf own_pd__II_I rfl) rfl (by show 2 * 0 + _ ≤ _; exact Nat.le_of_eq rfl) (hb hby at_222) (fun _ _ => ⟨rfl, rfl, (by decide : 10 + 0 ≤ _), (by decide : 1046 + 0 ≤ _)⟩)
        dsimp only [Pt.U, Pt.locs, Pt.cells, Pt.slots] at X27 l27 y27 z27 st27 hQ27
        subst l27 y27 z27
        obtain ⟨rfl, Nq27, eq27⟩ := hQ27
        have N27 := Fr.app N25 Nq27
        refine own_st (fun _ k => st27.trans k) ?_
        show own_Go p.tables e below RR (T27.setTop (mkF m 225 #[.val (.long p1), .second, .val (.int p2), .val (.int p3), .val (.int p4), .val (.int sm), .val (.int mk), .val (.int pp0), .val (.int pp1), .val (.int pp2), .val (.int pp3), .val (.ref b3), .val (.int (((p2.toUInt32 >>> ((1 : Int32) &&& 31).toUInt32).toInt32) &&& (7 : Int32))), .val (.int gc), .val (.ref b18), .unset, .unset] [(.int (p3 - (if pp2 = gc then (2 : Int32) else if pp1 = gc then (1 : Int32) else if pp0 = gc then (0 : Int32) else (-1 : Int32))))]))
        refine own_st (fun _ k => XS.istore X27.here hx rfl (hb hby at_225) rfl (l' := #[.val (.long p1), .second, .val (.int p2), .val (.int p3), .val (.int p4), .val (.int sm), .val (.int mk), .val (.int pp0), .val (.int pp1), .val (.int pp2), .val (.int pp3), .val (.ref b3), .val (.int (((p2.toUInt32 >>> ((1 : Int32) &&& 31).toUInt32).toInt32) &&& (7 : Int32))), .val (.int gc), .val (.ref b18), .val (.int (p3 - (if pp2 = gc then (2 : Int32) else if pp1 = gc then (1 : Int32) else if pp0 = gc then (0 : Int32) else (-1 : Int32)))), .unset]) rfl (XS.iconst X27.here hx rfl (hb hby at_227) (XS.istore X27.here hx rfl (hb hby at_228) rfl (l' := #[.val (.long p1), .second, .val (.int p2), .val (.int p3), .val (.int p4), .val (.int sm), .val (.int mk), .val (.int pp0), .val (.int pp1), .val (.int pp2), .val (.int pp3), .val (.ref b3), .val (.int (((p2.toUInt32 >>> ((1 : Int32) &&& 31).toUInt32).toInt32) &&& (7 : Int32))), .val (.int gc), .val (.ref b18), .val (.int (p3 - (if pp2 = gc then (2 : Int32) else if pp1 = gc then (1 : Int32) else if pp0 = gc then (0 : Int32) else (-1 : Int32)))), .val (.int (-1 : Int32))]) rfl (XS.iload X27.here hx rfl (hb hby at_230) rfl (XS.iload X27.here hx rfl (hb hby at_232) rfl k))))) ?_
        show own_Go p.tables e below RR (T27.setTop (mkF m 234 #[.val (.long p1), .second, .val (.int p2), .val (.int p3), .val (.int p4), .val (.int sm), .val (.int mk), .val (.int pp0), .val (.int pp1), .val (.int pp2), .val (.int pp3), .val (.ref b3), .val (.int (((p2.toUInt32 >>> ((1 : Int32) &&& 31).toUInt32).toInt32) &&& (7 : Int32))), .val (.int gc), .val (.ref b18), .val (.int (p3 - (if pp2 = gc then (2 : Int32) else if pp1 = gc then (1 : Int32) else if pp0 = gc then (0 : Int32) else (-1 : Int32)))), .val (.int (-1 : Int32))] [(.int gc), (.int pp0)]))
        by_cases hc234_28 : pp0 = gc
        · refine own_st (fun _ k => XS.icmpNo X27.here hx rfl (hb hby at_234) rfl (teq hc234_28).2 (XS.iconst X27.here hx rfl (hb hby at_237) (XS.istore X27.here hx rfl (hb hby at_238) rfl (l' := #[.val (.long p1), .second, .val (.int p2), .val (.int p3), .val (.int p4), .val (.int sm), .val (.int mk), .val (.int pp0), .val (.int pp1), .val (.int pp2), .val (.int pp3), .val (.ref b3), .val (.int (((p2.toUInt32 >>> ((1 : Int32) &&& 31).toUInt32).toInt32) &&& (7 : Int32))), .val (.int gc), .val (.ref b18), .val (.int (p3 - (if pp2 = gc then (2 : Int32) else if pp1 = gc then (1 : Int32) else if pp0 = gc then (0 : Int32) else (-1 : Int32)))), .val (.int (0 : Int32))]) rfl (XS.iload X27.here hx rfl (hb hby at_240) rfl (XS.iload X27.here hx rfl (hb hby at_242) rfl k))))) ?_
          show own_Go p.tables e below RR (T27.setTop (mkF m 244 #[.val (.long p1), .second, .val (.int p2), .val (.int p3), .val (.int p4), .val (.int sm), .val (.int mk), .val (.int pp0), .val (.int pp1), .val (.int pp2), .val (.int pp3), .val (.ref b3), .val (.int (((p2.toUInt32 >>> ((1 : Int32) &&& 31).toUInt32).toInt32) &&& (7 : Int32))), .val (.int gc), .val (.ref b18), .val (.int (p3 - (if pp2 = gc then (2 : Int32) else if pp1 = gc then (1 : Int32) else if pp0 = gc then (0 : Int32) else (-1 : Int32)))), .val (.int (0 : Int32))] [(.int gc), (.int pp1)]))
          by_cases hc244_29 : pp1 = gc
          · refine own_st (fun _ k => XS.icmpNo X27.here hx rfl (hb hby at_244) rfl (teq hc244_29).2 (XS.iconst X27.here hx rfl (hb hby at_247) (XS.istore X27.here hx rfl (hb hby at_248) rfl (l' := #[.val (.long p1), .second, .val (.int p2), .val (.int p3), .val (.int p4), .val (.int sm), .val (.int mk), .val (.int pp0), .val (.int pp1), .val (.int pp2), .val (.int pp3), .val (.ref b3), .val (.int (((p2.toUInt32 >>> ((1 : Int32) &&& 31).toUInt32).toInt32) &&& (7 : Int32))), .val (.int gc), .val (.ref b18), .val (.int (p3 - (if pp2 = gc then (2 : Int32) else if pp1 = gc then (1 : Int32) else if pp0 = gc then (0 : Int32) else (-1 : Int32)))), .val (.int (1 : Int32))]) rfl (XS.iload X27.here hx rfl (hb hby at_250) rfl (XS.iload X27.here hx rfl (hb hby at_252) rfl k))))) ?_
            show own_Go p.tables e below RR (T27.setTop (mkF m 254 #[.val (.long p1), .second, .val (.int p2), .val (.int p3), .val (.int p4), .val (.int sm), .val (.int mk), .val (.int pp0), .val (.int pp1), .val (.int pp2), .val (.int pp3), .val (.ref b3), .val (.int (((p2.toUInt32 >>> ((1 : Int32) &&& 31).toUInt32).toInt32) &&& (7 : Int32))), .val (.int gc), .val (.ref b18), .val (.int (p3 - (if pp2 = gc then (2 : Int32) else if pp1 = gc then (1 : Int32) else if pp0 = gc then (0 : Int32) else (-1 : Int32)))), .val (.int (1 : Int32))] [(.int gc), (.int pp2)]))
            by_cases hc254_30 : pp2 = gc
            · refine own_st (fun _ k => XS.icmpNo X27.here hx rfl (hb hby at_254) rfl (teq hc254_30).2 (XS.iconst X27.here hx rfl (hb hby at_257) (XS.istore X27.here hx rfl (hb hby at_258) rfl (l' := #[.val (.long p1), .second, .val (.int p2), .val (.int p3), .val (.int p4), .val (.int sm), .val (.int mk), .val (.int pp0), .val (.int pp1), .val (.int pp2), .val (.int pp3), .val (.ref b3), .val (.int (((p2.toUInt32 >>> ((1 : Int32) &&& 31).toUInt32).toInt32) &&& (7 : Int32))), .val (.int gc), .val (.ref b18), .val (.int (p3 - (if pp2 = gc then (2 : Int32) else if pp1 = gc then (1 : Int32) else if pp0 = gc then (0 : Int32) else (-1 : Int32)))), .val (.int (2 : Int32))]) rfl (XS.iload X27.here hx rfl (hb hby at_260) rfl (XS.iloadN X27.here hx rfl (hb hby at_262) rfl (XS.iload X27.here hx rfl (hb hby at_263) rfl (XS.isub X27.here hx rfl (hb hby at_265) rfl k))))))) ?_
              show own_Go p.tables e below RR (T27.setTop (mkF m 266 #[.val (.long p1), .second, .val (.int p2), .val (.int p3), .val (.int p4), .val (.int sm), .val (.int mk), .val (.int pp0), .val (.int pp1), .val (.int pp2), .val (.int pp3), .val (.ref b3), .val (.int (((p2.toUInt32 >>> ((1 : Int32) &&& 31).toUInt32).toInt32) &&& (7 : Int32))), .val (.int gc), .val (.ref b18), .val (.int (p3 - (if pp2 = gc then (2 : Int32) else if pp1 = gc then (1 : Int32) else if pp0 = gc then (0 : Int32) else (-1 : Int32)))), .val (.int (2 : Int32))] [(.int (p3 - (2 : Int32))), (.int (p3 - (if pp2 = gc then (2 : Int32) else if pp1 = gc then (1 : Int32) else if pp0 = gc then (0 : Int32) else (-1 : Int32))))]))
              have hc266_31 : (p3 - (if pp2 = gc then (2 : Int32) else if pp1 = gc then (1 : Int32) else if pp0 = gc then (0 : Int32) else (-1 : Int32))) = (p3 - (2 : Int32)) := congrArg (fun z => p3 - z) (if_pos hc254_30)
              refine own_st (fun _ k => XS.icmpNo X27.here hx rfl (hb hby at_266) rfl (teq hc266_31).2 (XS.iconst X27.here hx rfl (hb hby at_269) (XS.goto X27.here hx rfl (pc0 := 270) (pc' := 274) rfl (hb hby at_270) (by decide) (by decide) k))) ?_
              show own_Go p.tables e below RR (T27.setTop (mkF m 274 #[.val (.long p1), .second, .val (.int p2), .val (.int p3), .val (.int p4), .val (.int sm), .val (.int mk), .val (.int pp0), .val (.int pp1), .val (.int pp2), .val (.int pp3), .val (.ref b3), .val (.int (((p2.toUInt32 >>> ((1 : Int32) &&& 31).toUInt32).toInt32) &&& (7 : Int32))), .val (.int gc), .val (.ref b18), .val (.int (p3 - (if pp2 = gc then (2 : Int32) else if pp1 = gc then (1 : Int32) else if pp0 = gc then (0 : Int32) else (-1 : Int32)))), .val (.int (2 : Int32))] [(.int (1 : Int32))]))
              obtain ⟨fs, hrt_, hrun, hended, hW, hsame⟩ := X27.leave (v := some (.int (1 : Int32))) (fun h => by rw [Bd.returns] at h; cases h)
              refine own_fin (retN X27 hx (t := .boolean) Bd.returns (by simp) (hb hby at_274) hrt_) (hRR _ ⟨_, hrun, hended, _, _, rfl, ?_, ⟨_, rfl⟩, hW, hsame.mono (by decide) (by decide)⟩)
              show own_Q0 Z p1 p2 p3 p4 a_ABSENT kb h0 n0 _ T27.heap _
              rw [eq27]
              exact ⟨rfl, N27⟩
            · refine own_st (fun _ k => XS.icmpYes X27.here hx rfl (pc0 := 254) (pc' := 260) rfl (hb hby at_254) rfl (feq hc254_30).2 (by decide) (by decide) (XS.iload X27.here hx rfl (hb hby at_260) rfl (XS.iloadN X27.here hx rfl (hb hby at_262) rfl (XS.iload X27.here hx rfl (hb hby at_263) rfl (XS.isub X27.here hx rfl (hb hby at_265) rfl k))))) ?_
              show own_Go p.tables e below RR (T27.setTop (mkF m 266 #[.val (.long p1), .second, .val (.int p2), .val (.int p3), .val (.int p4), .val (.int sm), .val (.int mk), .val (.int pp0), .val (.int pp1), .val (.int pp2), .val (.int pp3), .val (.ref b3), .val (.int (((p2.toUInt32 >>> ((1 : Int32) &&& 31).toUInt32).toInt32) &&& (7 : Int32))), .val (.int gc), .val (.ref b18), .val (.int (p3 - (if pp2 = gc then (2 : Int32) else if pp1 = gc then (1 : Int32) else if pp0 = gc then (0 : Int32) else (-1 : Int32)))), .val (.int (1 : Int32))] [(.int (p3 - (1 : Int32))), (.int (p3 - (if pp2 = gc then (2 : Int32) else if pp1 = gc then (1 : Int32) else if pp0 = gc then (0 : Int32) else (-1 : Int32))))]))
              have hc266_32 : (p3 - (if pp2 = gc then (2 : Int32) else if pp1 = gc then (1 : Int32) else if pp0 = gc then (0 : Int32) else (-1 : Int32))) = (p3 - (1 : Int32)) := congrArg (fun z => p3 - z) ((if_neg hc254_30).trans (if_pos hc244_29))
              refine own_st (fun _ k => XS.icmpNo X27.here hx rfl (hb hby at_266) rfl (teq hc266_32).2 (XS.iconst X27.here hx rfl (hb hby at_269) (XS.goto X27.here hx rfl (pc0 := 270) (pc' := 274) rfl (hb hby at_270) (by decide) (by decide) k))) ?_
              show own_Go p.tables e below RR (T27.setTop (mkF m 274 #[.val (.long p1), .second, .val (.int p2), .val (.int p3), .val (.int p4), .val (.int sm), .val (.int mk), .val (.int pp0), .val (.int pp1), .val (.int pp2), .val (.int pp3), .val (.ref b3), .val (.int (((p2.toUInt32 >>> ((1 : Int32) &&& 31).toUInt32).toInt32) &&& (7 : Int32))), .val (.int gc), .val (.ref b18), .val (.int (p3 - (if pp2 = gc then (2 : Int32) else if pp1 = gc then (1 : Int32) else if pp0 = gc then (0 : Int32) else (-1 : Int32)))), .val (.int (1 : Int32))] [(.int (1 : Int32))]))
              obtain ⟨fs, hrt_, hrun, hended, hW, hsame⟩ := X27.leave (v := some (.int (1 : Int32))) (fun h => by rw [Bd.returns] at h; cases h)
              refine own_fin (retN X27 hx (t := .boolean) Bd.returns (by simp) (hb hby at_274) hrt_) (hRR _ ⟨_, hrun, hended, _, _, rfl, ?_, ⟨_, rfl⟩, hW, hsame.mono (by decide) (by decide)⟩)
              show own_Q0 Z p1 p2 p3 p4 a_ABSENT kb h0 n0 _ T27.heap _
              rw [eq27]
              exact ⟨rfl, N27⟩
          · refine own_st (fun _ k => XS.icmpYes X27.here hx rfl (pc0 := 244) (pc' := 250) rfl (hb hby at_244) rfl (feq hc244_29).2 (by decide) (by decide) (XS.iload X27.here hx rfl (hb hby at_250) rfl (XS.iload X27.here hx rfl (hb hby at_252) rfl k))) ?_
            show own_Go p.tables e below RR (T27.setTop (mkF m 254 #[.val (.long p1), .second, .val (.int p2), .val (.int p3), .val (.int p4), .val (.int sm), .val (.int mk), .val (.int pp0), .val (.int pp1), .val (.int pp2), .val (.int pp3), .val (.ref b3), .val (.int (((p2.toUInt32 >>> ((1 : Int32) &&& 31).toUInt32).toInt32) &&& (7 : Int32))), .val (.int gc), .val (.ref b18), .val (.int (p3 - (if pp2 = gc then (2 : Int32) else if pp1 = gc then (1 : Int32) else if pp0 = gc then (0 : Int32) else (-1 : Int32)))), .val (.int (0 : Int32))] [(.int gc), (.int pp2)]))
            by_cases hc254_33 : pp2 = gc
            · refine own_st (fun _ k => XS.icmpNo X27.here hx rfl (hb hby at_254) rfl (teq hc254_33).2 (XS.iconst X27.here hx rfl (hb hby at_257) (XS.istore X27.here hx rfl (hb hby at_258) rfl (l' := #[.val (.long p1), .second, .val (.int p2), .val (.int p3), .val (.int p4), .val (.int sm), .val (.int mk), .val (.int pp0), .val (.int pp1), .val (.int pp2), .val (.int pp3), .val (.ref b3), .val (.int (((p2.toUInt32 >>> ((1 : Int32) &&& 31).toUInt32).toInt32) &&& (7 : Int32))), .val (.int gc), .val (.ref b18), .val (.int (p3 - (if pp2 = gc then (2 : Int32) else if pp1 = gc then (1 : Int32) else if pp0 = gc then (0 : Int32) else (-1 : Int32)))), .val (.int (2 : Int32))]) rfl (XS.iload X27.here hx rfl (hb hby at_260) rfl (XS.iloadN X27.here hx rfl (hb hby at_262) rfl (XS.iload X27.here hx rfl (hb hby at_263) rfl (XS.isub X27.here hx rfl (hb hby at_265) rfl k))))))) ?_
              show own_Go p.tables e below RR (T27.setTop (mkF m 266 #[.val (.long p1), .second, .val (.int p2), .val (.int p3), .val (.int p4), .val (.int sm), .val (.int mk), .val (.int pp0), .val (.int pp1), .val (.int pp2), .val (.int pp3), .val (.ref b3), .val (.int (((p2.toUInt32 >>> ((1 : Int32) &&& 31).toUInt32).toInt32) &&& (7 : Int32))), .val (.int gc), .val (.ref b18), .val (.int (p3 - (if pp2 = gc then (2 : Int32) else if pp1 = gc then (1 : Int32) else if pp0 = gc then (0 : Int32) else (-1 : Int32)))), .val (.int (2 : Int32))] [(.int (p3 - (2 : Int32))), (.int (p3 - (if pp2 = gc then (2 : Int32) else if pp1 = gc then (1 : Int32) else if pp0 = gc then (0 : Int32) else (-1 : Int32))))]))
              have hc266_34 : (p3 - (if pp2 = gc then (2 : Int32) else if pp1 = gc then (1 : Int32) else if pp0 = gc then (0 : Int32) else (-1 : Int32))) = (p3 - (2 : Int32)) := congrArg (fun z => p3 - z) (if_pos hc254_33)
              refine own_st (fun _ k => XS.icmpNo X27.here hx rfl (hb hby at_266) rfl (teq hc266_34).2 (XS.iconst X27.here hx rfl (hb hby at_269) (XS.goto X27.here hx rfl (pc0 := 270) (pc' := 274) rfl (hb hby at_270) (by decide) (by decide) k))) ?_
              show own_Go p.tables e below RR (T27.setTop (mkF m 274 #[.val (.long p1), .second, .val (.int p2), .val (.int p3), .val (.int p4), .val (.int sm), .val (.int mk), .val (.int pp0), .val (.int pp1), .val (.int pp2), .val (.int pp3), .val (.ref b3), .val (.int (((p2.toUInt32 >>> ((1 : Int32) &&& 31).toUInt32).toInt32) &&& (7 : Int32))), .val (.int gc), .val (.ref b18), .val (.int (p3 - (if pp2 = gc then (2 : Int32) else if pp1 = gc then (1 : Int32) else if pp0 = gc then (0 : Int32) else (-1 : Int32)))), .val (.int (2 : Int32))] [(.int (1 : Int32))]))
              obtain ⟨fs, hrt_, hrun, hended, hW, hsame⟩ := X27.leave (v := some (.int (1 : Int32))) (fun h => by rw [Bd.returns] at h; cases h)
              refine own_fin (retN X27 hx (t := .boolean) Bd.returns (by simp) (hb hby at_274) hrt_) (hRR _ ⟨_, hrun, hended, _, _, rfl, ?_, ⟨_, rfl⟩, hW, hsame.mono (by decide) (by decide)⟩)
              show own_Q0 Z p1 p2 p3 p4 a_ABSENT kb h0 n0 _ T27.heap _
              rw [eq27]
              exact ⟨rfl, N27⟩
            · refine own_st (fun _ k => XS.icmpYes X27.here hx rfl (pc0 := 254) (pc' := 260) rfl (hb hby at_254) rfl (feq hc254_33).2 (by decide) (by decide) (XS.iload X27.here hx rfl (hb hby at_260) rfl (XS.iloadN X27.here hx rfl (hb hby at_262) rfl (XS.iload X27.here hx rfl (hb hby at_263) rfl (XS.isub X27.here hx rfl (hb hby at_265) rfl k))))) ?_
              show own_Go p.tables e below RR (T27.setTop (mkF m 266 #[.val (.long p1), .second, .val (.int p2), .val (.int p3), .val (.int p4), .val (.int sm), .val (.int mk), .val (.int pp0), .val (.int pp1), .val (.int pp2), .val (.int pp3), .val (.ref b3), .val (.int (((p2.toUInt32 >>> ((1 : Int32) &&& 31).toUInt32).toInt32) &&& (7 : Int32))), .val (.int gc), .val (.ref b18), .val (.int (p3 - (if pp2 = gc then (2 : Int32) else if pp1 = gc then (1 : Int32) else if pp0 = gc then (0 : Int32) else (-1 : Int32)))), .val (.int (0 : Int32))] [(.int (p3 - (0 : Int32))), (.int (p3 - (if pp2 = gc then (2 : Int32) else if pp1 = gc then (1 : Int32) else if pp0 = gc then (0 : Int32) else (-1 : Int32))))]))
              have hc266_35 : (p3 - (if pp2 = gc then (2 : Int32) else if pp1 = gc then (1 : Int32) else if pp0 = gc then (0 : Int32) else (-1 : Int32))) = (p3 - (0 : Int32)) := congrArg (fun z => p3 - z) ((if_neg hc254_33).trans ((if_neg hc244_29).trans (if_pos hc234_28)))
              refine own_st (fun _ k => XS.icmpNo X27.here hx rfl (hb hby at_266) rfl (teq hc266_35).2 (XS.iconst X27.here hx rfl (hb hby at_269) (XS.goto X27.here hx rfl (pc0 := 270) (pc' := 274) rfl (hb hby at_270) (by decide) (by decide) k))) ?_
              show own_Go p.tables e below RR (T27.setTop (mkF m 274 #[.val (.long p1), .second, .val (.int p2), .val (.int p3), .val (.int p4), .val (.int sm), .val (.int mk), .val (.int pp0), .val (.int pp1), .val (.int pp2), .val (.int pp3), .val (.ref b3), .val (.int (((p2.toUInt32 >>> ((1 : Int32) &&& 31).toUInt32).toInt32) &&& (7 : Int32))), .val (.int gc), .val (.ref b18), .val (.int (p3 - (if pp2 = gc then (2 : Int32) else if pp1 = gc then (1 : Int32) else if pp0 = gc then (0 : Int32) else (-1 : Int32)))), .val (.int (0 : Int32))] [(.int (1 : Int32))]))
              obtain ⟨fs, hrt_, hrun, hended, hW, hsame⟩ := X27.leave (v := some (.int (1 : Int32))) (fun h => by rw [Bd.returns] at h; cases h)
              refine own_fin (retN X27 hx (t := .boolean) Bd.returns (by simp) (hb hby at_274) hrt_) (hRR _ ⟨_, hrun, hended, _, _, rfl, ?_, ⟨_, rfl⟩, hW, hsame.mono (by decide) (by decide)⟩)
              show own_Q0 Z p1 p2 p3 p4 a_ABSENT kb h0 n0 _ T27.heap _
              rw [eq27]
              exact ⟨rfl, N27⟩
        · refine own_st (fun _ k => XS.icmpYes X27.here hx rfl (pc0 := 234) (pc' := 240) rfl (hb hby at_234) rfl (feq hc234_28).2 (by decide) (by decide) (XS.iload X27.here hx rfl (hb hby at_240) rfl (XS.iload X27.here hx rfl (hb hby at_242) rfl k))) ?_
          show own_Go p.tables e below RR (T27.setTop (mkF m 244 #[.val (.long p1), .second, .val (.int p2), .val (.int p3), .val (.int p4), .val (.int sm), .val (.int mk), .val (.int pp0), .val (.int pp1), .val (.int pp2), .val (.int pp3), .val (.ref b3), .val (.int (((p2.toUInt32 >>> ((1 : Int32) &&& 31).toUInt32).toInt32) &&& (7 : Int32))), .val (.int gc), .val (.ref b18), .val (.int (p3 - (if pp2 = gc then (2 : Int32) else if pp1 = gc then (1 : Int32) else if pp0 = gc then (0 : Int32) else (-1 : Int32)))), .val (.int (-1 : Int32))] [(.int gc), (.int pp1)]))
          by_cases hc244_36 : pp1 = gc
          · refine own_st (fun _ k => XS.icmpNo X27.here hx rfl (hb hby at_244) rfl (teq hc244_36).2 (XS.iconst X27.here hx rfl (hb hby at_247) (XS.istore X27.here hx rfl (hb hby at_248) rfl (l' := #[.val (.long p1), .second, .val (.int p2), .val (.int p3), .val (.int p4), .val (.int sm), .val (.int mk), .val (.int pp0), .val (.int pp1), .val (.int pp2), .val (.int pp3), .val (.ref b3), .val (.int (((p2.toUInt32 >>> ((1 : Int32) &&& 31).toUInt32).toInt32) &&& (7 : Int32))), .val (.int gc), .val (.ref b18), .val (.int (p3 - (if pp2 = gc then (2 : Int32) else if pp1 = gc then (1 : Int32) else if pp0 = gc then (0 : Int32) else (-1 : Int32)))), .val (.int (1 : Int32))]) rfl (XS.iload X27.here hx rfl (hb hby at_250) rfl (XS.iload X27.here hx rfl (hb hby at_252) rfl k))))) ?_
            show own_Go p.tables e below RR (T27.setTop (mkF m 254 #[.val (.long p1), .second, .val (.int p2), .val (.int p3), .val (.int p4), .val (.int sm), .val (.int mk), .val (.int pp0), .val (.int pp1), .val (.int pp2), .val (.int pp3), .val (.ref b3), .val (.int (((p2.toUInt32 >>> ((1 : Int32) &&& 31).toUInt32).toInt32) &&& (7 : Int32))), .val (.int gc), .val (.ref b18), .val (.int (p3 - (if pp2 = gc then (2 : Int32) else if pp1 = gc then (1 : Int32) else if pp0 = gc then (0 : Int32) else (-1 : Int32)))), .val (.int (1 : Int32))] [(.int gc), (.int pp2)]))
            by_cases hc254_37 : pp2 = gc
            · refine own_st (fun _ k => XS.icmpNo X27.here hx rfl (hb hby at_254) rfl (teq hc254_37).2 (XS.iconst X27.here hx rfl (hb hby at_257) (XS.istore X27.here hx rfl (hb hby at_258) rfl (l' := #[.val (.long p1), .second, .val (.int p2), .val (.int p3), .val (.int p4), .val (.int sm), .val (.int mk), .val (.int pp0), .val (.int pp1), .val (.int pp2), .val (.int pp3), .val (.ref b3), .val (.int (((p2.toUInt32 >>> ((1 : Int32) &&& 31).toUInt32).toInt32) &&& (7 : Int32))), .val (.int gc), .val (.ref b18), .val (.int (p3 - (if pp2 = gc then (2 : Int32) else if pp1 = gc then (1 : Int32) else if pp0 = gc then (0 : Int32) else (-1 : Int32)))), .val (.int (2 : Int32))]) rfl (XS.iload X27.here hx rfl (hb hby at_260) rfl (XS.iloadN X27.here hx rfl (hb hby at_262) rfl (XS.iload X27.here hx rfl (hb hby at_263) rfl (XS.isub X27.here hx rfl (hb hby at_265) rfl k))))))) ?_
              show own_Go p.tables e below RR (T27.setTop (mkF m 266 #[.val (.long p1), .second, .val (.int p2), .val (.int p3), .val (.int p4), .val (.int sm), .val (.int mk), .val (.int pp0), .val (.int pp1), .val (.int pp2), .val (.int pp3), .val (.ref b3), .val (.int (((p2.toUInt32 >>> ((1 : Int32) &&& 31).toUInt32).toInt32) &&& (7 : Int32))), .val (.int gc), .val (.ref b18), .val (.int (p3 - (if pp2 = gc then (2 : Int32) else if pp1 = gc then (1 : Int32) else if pp0 = gc then (0 : Int32) else (-1 : Int32)))), .val (.int (2 : Int32))] [(.int (p3 - (2 : Int32))), (.int (p3 - (if pp2 = gc then (2 : Int32) else if pp1 = gc then (1 : Int32) else if pp0 = gc then (0 : Int32) else (-1 : Int32))))]))
              have hc266_38 : (p3 - (if pp2 = gc then (2 : Int32) else if pp1 = gc then (1 : Int32) else if pp0 = gc then (0 : Int32) else (-1 : Int32))) = (p3 - (2 : Int32)) := congrArg (fun z => p3 - z) (if_pos hc254_37)
              refine own_st (fun _ k => XS.icmpNo X27.here hx rfl (hb hby at_266) rfl (teq hc266_38).2 (XS.iconst X27.here hx rfl (hb hby at_269) (XS.goto X27.here hx rfl (pc0 := 270) (pc' := 274) rfl (hb hby at_270) (by decide) (by decide) k))) ?_
              show own_Go p.tables e below RR (T27.setTop (mkF m 274 #[.val (.long p1), .second, .val (.int p2), .val (.int p3), .val (.int p4), .val (.int sm), .val (.int mk), .val (.int pp0), .val (.int pp1), .val (.int pp2), .val (.int pp3), .val (.ref b3), .val (.int (((p2.toUInt32 >>> ((1 : Int32) &&& 31).toUInt32).toInt32) &&& (7 : Int32))), .val (.int gc), .val (.ref b18), .val (.int (p3 - (if pp2 = gc then (2 : Int32) else if pp1 = gc then (1 : Int32) else if pp0 = gc then (0 : Int32) else (-1 : Int32)))), .val (.int (2 : Int32))] [(.int (1 : Int32))]))
              obtain ⟨fs, hrt_, hrun, hended, hW, hsame⟩ := X27.leave (v := some (.int (1 : Int32))) (fun h => by rw [Bd.returns] at h; cases h)
              refine own_fin (retN X27 hx (t := .boolean) Bd.returns (by simp) (hb hby at_274) hrt_) (hRR _ ⟨_, hrun, hended, _, _, rfl, ?_, ⟨_, rfl⟩, hW, hsame.mono (by decide) (by decide)⟩)
              show own_Q0 Z p1 p2 p3 p4 a_ABSENT kb h0 n0 _ T27.heap _
              rw [eq27]
              exact ⟨rfl, N27⟩
            · refine own_st (fun _ k => XS.icmpYes X27.here hx rfl (pc0 := 254) (pc' := 260) rfl (hb hby at_254) rfl (feq hc254_37).2 (by decide) (by decide) (XS.iload X27.here hx rfl (hb hby at_260) rfl (XS.iloadN X27.here hx rfl (hb hby at_262) rfl (XS.iload X27.here hx rfl (hb hby at_263) rfl (XS.isub X27.here hx rfl (hb hby at_265) rfl k))))) ?_
              show own_Go p.tables e below RR (T27.setTop (mkF m 266 #[.val (.long p1), .second, .val (.int p2), .val (.int p3), .val (.int p4), .val (.int sm), .val (.int mk), .val (.int pp0), .val (.int pp1), .val (.int pp2), .val (.int pp3), .val (.ref b3), .val (.int (((p2.toUInt32 >>> ((1 : Int32) &&& 31).toUInt32).toInt32) &&& (7 : Int32))), .val (.int gc), .val (.ref b18), .val (.int (p3 - (if pp2 = gc then (2 : Int32) else if pp1 = gc then (1 : Int32) else if pp0 = gc then (0 : Int32) else (-1 : Int32)))), .val (.int (1 : Int32))] [(.int (p3 - (1 : Int32))), (.int (p3 - (if pp2 = gc then (2 : Int32) else if pp1 = gc then (1 : Int32) else if pp0 = gc then (0 : Int32) else (-1 : Int32))))]))
              have hc266_39 : (p3 - (if pp2 = gc then (2 : Int32) else if pp1 = gc then (1 : Int32) else if pp0 = gc then (0 : Int32) else (-1 : Int32))) = (p3 - (1 : Int32)) := congrArg (fun z => p3 - z) ((if_neg hc254_37).trans (if_pos hc244_36))
              refine own_st (fun _ k => XS.icmpNo X27.here hx rfl (hb hby at_266) rfl (teq hc266_39).2 (XS.iconst X27.here hx rfl (hb hby at_269) (XS.goto X27.here hx rfl (pc0 := 270) (pc' := 274) rfl (hb hby at_270) (by decide) (by decide) k))) ?_
              show own_Go p.tables e below RR (T27.setTop (mkF m 274 #[.val (.long p1), .second, .val (.int p2), .val (.int p3), .val (.int p4), .val (.int sm), .val (.int mk), .val (.int pp0), .val (.int pp1), .val (.int pp2), .val (.int pp3), .val (.ref b3), .val (.int (((p2.toUInt32 >>> ((1 : Int32) &&& 31).toUInt32).toInt32) &&& (7 : Int32))), .val (.int gc), .val (.ref b18), .val (.int (p3 - (if pp2 = gc then (2 : Int32) else if pp1 = gc then (1 : Int32) else if pp0 = gc then (0 : Int32) else (-1 : Int32)))), .val (.int (1 : Int32))] [(.int (1 : Int32))]))
              obtain ⟨fs, hrt_, hrun, hended, hW, hsame⟩ := X27.leave (v := some (.int (1 : Int32))) (fun h => by rw [Bd.returns] at h; cases h)
              refine own_fin (retN X27 hx (t := .boolean) Bd.returns (by simp) (hb hby at_274) hrt_) (hRR _ ⟨_, hrun, hended, _, _, rfl, ?_, ⟨_, rfl⟩, hW, hsame.mono (by decide) (by decide)⟩)
              show own_Q0 Z p1 p2 p3 p4 a_ABSENT kb h0 n0 _ T27.heap _
              rw [eq27]
              exact ⟨rfl, N27⟩
          · refine own_st (fun _ k => XS.icmpYes X27.here hx rfl (pc0 := 244) (pc' := 250) rfl (hb hby at_244) rfl (feq hc244_36).2 (by decide) (by decide) (XS.iload X27.here hx rfl (hb hby at_250) rfl (XS.iload X27.here hx rfl (hb hby at_252) rfl k))) ?_
            show own_Go p.tables e below RR (T27.setTop (mkF m 254 #[.val (.long p1), .second, .val (.int p2), .val (.int p3), .val (.int p4), .val (.int sm), .val (.int mk), .val (.int pp0), .val (.int pp1), .val (.int pp2), .val (.int pp3), .val (.ref b3), .val (.int (((p2.toUInt32 >>> ((1 : Int32) &&& 31).toUInt32).toInt32) &&& (7 : Int32))), .val (.int gc), .val (.ref b18), .val (.int (p3 - (if pp2 = gc then (2 : Int32) else if pp1 = gc then (1 : Int32) else if pp0 = gc then (0 : Int32) else (-1 : Int32)))), .val (.int (-1 : Int32))] [(.int gc), (.int pp2)]))
            by_cases hc254_40 : pp2 = gc
            · refine own_st (fun _ k => XS.icmpNo X27.here hx rfl (hb hby at_254) rfl (teq hc254_40).2 (XS.iconst X27.here hx rfl (hb hby at_257) (XS.istore X27.here hx rfl (hb hby at_258) rfl (l' := #[.val (.long p1), .second, .val (.int p2), .val (.int p3), .val (.int p4), .val (.int sm), .val (.int mk), .val (.int pp0), .val (.int pp1), .val (.int pp2), .val (.int pp3), .val (.ref b3), .val (.int (((p2.toUInt32 >>> ((1 : Int32) &&& 31).toUInt32).toInt32) &&& (7 : Int32))), .val (.int gc), .val (.ref b18), .val (.int (p3 - (if pp2 = gc then (2 : Int32) else if pp1 = gc then (1 : Int32) else if pp0 = gc then (0 : Int32) else (-1 : Int32)))), .val (.int (2 : Int32))]) rfl (XS.iload X27.here hx rfl (hb hby at_260) rfl (XS.iloadN X27.here hx rfl (hb hby at_262) rfl (XS.iload X27.here hx rfl (hb hby at_263) rfl (XS.isub X27.here hx rfl (hb hby at_265) rfl k))))))) ?_
              show own_Go p.tables e below RR (T27.setTop (mkF m 266 #[.val (.long p1), .second, .val (.int p2), .val (.int p3), .val (.int p4), .val (.int sm), .val (.int mk), .val (.int pp0), .val (.int pp1), .val (.int pp2), .val (.int pp3), .val (.ref b3), .val (.int (((p2.toUInt32 >>> ((1 : Int32) &&& 31).toUInt32).toInt32) &&& (7 : Int32))), .val (.int gc), .val (.ref b18), .val (.int (p3 - (if pp2 = gc then (2 : Int32) else if pp1 = gc then (1 : Int32) else if pp0 = gc then (0 : Int32) else (-1 : Int32)))), .val (.int (2 : Int32))] [(.int (p3 - (2 : Int32))), (.int (p3 - (if pp2 = gc then (2 : Int32) else if pp1 = gc then (1 : Int32) else if pp0 = gc then (0 : Int32) else (-1 : Int32))))]))
              have hc266_41 : (p3 - (if pp2 = gc then (2 : Int32) else if pp1 = gc then (1 : Int32) else if pp0 = gc then (0 : Int32) else (-1 : Int32))) = (p3 - (2 : Int32)) := congrArg (fun z => p3 - z) (if_pos hc254_40)
              refine own_st (fun _ k => XS.icmpNo X27.here hx rfl (hb hby at_266) rfl (teq hc266_41).2 (XS.iconst X27.here hx rfl (hb hby at_269) (XS.goto X27.here hx rfl (pc0 := 270) (pc' := 274) rfl (hb hby at_270) (by decide) (by decide) k))) ?_
              show own_Go p.tables e below RR (T27.setTop (mkF m 274 #[.val (.long p1), .second, .val (.int p2), .val (.int p3), .val (.int p4), .val (.int sm), .val (.int mk), .val (.int pp0), .val (.int pp1), .val (.int pp2), .val (.int pp3), .val (.ref b3), .val (.int (((p2.toUInt32 >>> ((1 : Int32) &&& 31).toUInt32).toInt32) &&& (7 : Int32))), .val (.int gc), .val (.ref b18), .val (.int (p3 - (if pp2 = gc then (2 : Int32) else if pp1 = gc then (1 : Int32) else if pp0 = gc then (0 : Int32) else (-1 : Int32)))), .val (.int (2 : Int32))] [(.int (1 : Int32))]))
              obtain ⟨fs, hrt_, hrun, hended, hW, hsame⟩ := X27.leave (v := some (.int (1 : Int32))) (fun h => by rw [Bd.returns] at h; cases h)
              refine own_fin (retN X27 hx (t := .boolean) Bd.returns (by simp) (hb hby at_274) hrt_) (hRR _ ⟨_, hrun, hended, _, _, rfl, ?_, ⟨_, rfl⟩, hW, hsame.mono (by decide) (by decide)⟩)
              show own_Q0 Z p1 p2 p3 p4 a_ABSENT kb h0 n0 _ T27.heap _
              rw [eq27]
              exact ⟨rfl, N27⟩
            · refine own_st (fun _ k => XS.icmpYes X27.here hx rfl (pc0 := 254) (pc' := 260) rfl (hb hby at_254) rfl (feq hc254_40).2 (by decide) (by decide) (XS.iload X27.here hx rfl (hb hby at_260) rfl (XS.iloadN X27.here hx rfl (hb hby at_262) rfl (XS.iload X27.here hx rfl (hb hby at_263) rfl (XS.isub X27.here hx rfl (hb hby at_265) rfl k))))) ?_
              show own_Go p.tables e below RR (T27.setTop (mkF m 266 #[.val (.long p1), .second, .val (.int p2), .val (.int p3), .val (.int p4), .val (.int sm), .val (.int mk), .val (.int pp0), .val (.int pp1), .val (.int pp2), .val (.int pp3), .val (.ref b3), .val (.int (((p2.toUInt32 >>> ((1 : Int32) &&& 31).toUInt32).toInt32) &&& (7 : Int32))), .val (.int gc), .val (.ref b18), .val (.int (p3 - (if pp2 = gc then (2 : Int32) else if pp1 = gc then (1 : Int32) else if pp0 = gc then (0 : Int32) else (-1 : Int32)))), .val (.int (-1 : Int32))] [(.int (p3 - (-1 : Int32))), (.int (p3 - (if pp2 = gc then (2 : Int32) else if pp1 = gc then (1 : Int32) else if pp0 = gc then (0 : Int32) else (-1 : Int32))))]))
              have hc266_42 : (p3 - (if pp2 = gc then (2 : Int32) else if pp1 = gc then (1 : Int32) else if pp0 = gc then (0 : Int32) else (-1 : Int32))) = (p3 - (-1 : Int32)) := congrArg (fun z => p3 - z) ((if_neg hc254_40).trans ((if_neg hc244_36).trans ((if_neg hc234_28).trans rfl)))
              refine own_st (fun _ k => XS.icmpNo X27.here hx rfl (hb hby at_266) rfl (teq hc266_42).2 (XS.iconst X27.here hx rfl (hb hby at_269) (XS.goto X27.here hx rfl (pc0 := 270) (pc' := 274) rfl (hb hby at_270) (by decide) (by decide) k))) ?_
              show own_Go p.tables e below RR (T27.setTop (mkF m 274 #[.val (.long p1), .second, .val (.int p2), .val (.int p3), .val (.int p4), .val (.int sm), .val (.int mk), .val (.int pp0), .val (.int pp1), .val (.int pp2), .val (.int pp3), .val (.ref b3), .val (.int (((p2.toUInt32 >>> ((1 : Int32) &&& 31).toUInt32).toInt32) &&& (7 : Int32))), .val (.int gc), .val (.ref b18), .val (.int (p3 - (if pp2 = gc then (2 : Int32) else if pp1 = gc then (1 : Int32) else if pp0 = gc then (0 : Int32) else (-1 : Int32)))), .val (.int (-1 : Int32))] [(.int (1 : Int32))]))
              obtain ⟨fs, hrt_, hrun, hended, hW, hsame⟩ := X27.leave (v := some (.int (1 : Int32))) (fun h => by rw [Bd.returns] at h; cases h)
              refine own_fin (retN X27 hx (t := .boolean) Bd.returns (by simp) (hb hby at_274) hrt_) (hRR _ ⟨_, hrun, hended, _, _, rfl, ?_, ⟨_, rfl⟩, hW, hsame.mono (by decide) (by decide)⟩)
              show own_Q0 Z p1 p2 p3 p4 a_ABSENT kb h0 n0 _ T27.heap _
              rw [eq27]
              exact ⟨rfl, N27⟩
      show own_Go p.tables e below RR (T15.setTop (mkF m 114 #[.val (.long p1), .second, .val (.int p2), .val (.int p3), .val (.int p4), .val (.int sm), .val (.int mk), .val (.int pp0), .val (.int pp1), .val (.int pp2), .val (.int pp3), .val (.ref b3), .val (.int (((p2.toUInt32 >>> ((1 : Int32) &&& 31).toUInt32).toInt32) &&& (7 : Int32))), .unset, .unset, .unset, .unset] []))
      refine own_st (fun _ k => XS.iload X15.here hx rfl (hb hby at_114) rfl k) ?_
      show own_Go p.tables e below RR (T15.setTop (mkF m 116 #[.val (.long p1), .second, .val (.int p2), .val (.int p3), .val (.int p4), .val (.int sm), .val (.int mk), .val (.int pp0), .val (.int pp1), .val (.int pp2), .val (.int pp3), .val (.ref b3), .val (.int (((p2.toUInt32 >>> ((1 : Int32) &&& 31).toUInt32).toInt32) &&& (7 : Int32))), .unset, .unset, .unset, .unset] [(.int (((p2.toUInt32 >>> ((1 : Int32) &&& 31).toUInt32).toInt32) &&& (7 : Int32)))]))
      by_cases hc116_43 : (((p2.toUInt32 >>> ((1 : Int32) &&& 31).toUInt32).toInt32) &&& (7 : Int32)) = (0 : Int32)
      · refine own_st (fun _ k => XS.ifNo X15.here hx rfl (hb hby at_116) rfl ((if0 _ _).trans (teq hc116_43).2) (XS.iload X15.here hx rfl (hb hby at_119) rfl (XS.istore X15.here hx rfl (hb hby at_121) rfl (l' := #[.val (.long p1), .second, .val (.int p2), .val (.int p3), .val (.int p4), .val (.int sm), .val (.int mk), .val (.int pp0), .val (.int pp1), .val (.int pp2), .val (.int pp3), .val (.ref b3), .val (.int (((p2.toUInt32 >>> ((1 : Int32) &&& 31).toUInt32).toInt32) &&& (7 : Int32))), .val (.int pp0), .unset, .unset, .unset]) rfl (XS.goto X15.here hx rfl (pc0 := 123) (pc' := 204) rfl (hb hby at_123) (by decide) (by decide) k)))) ?_
        show own_Go p.tables e below RR (T15.setTop (mkF m 204 #[.val (.long p1), .second, .val (.int p2), .val (.int p3), .val (.int p4), .val (.int sm), .val (.int mk), .val (.int pp0), .val (.int pp1), .val (.int pp2), .val (.int pp3), .val (.ref b3), .val (.int (((p2.toUInt32 >>> ((1 : Int32) &&& 31).toUInt32).toInt32) &&& (7 : Int32))), .val (.int pp0), .unset, .unset, .unset] []))
        exact join17 T15 _ pp0 X15 e15 N15 hb0
      · refine own_st (fun _ k => XS.ifYes X15.here hx rfl (pc0 := 116) (pc' := 126) rfl (hb hby at_116) rfl ((if0 _ _).trans (feq hc116_43).2) (by decide) (by decide) (XS.iload X15.here hx rfl (hb hby at_126) rfl (XS.iconst X15.here hx rfl (hb hby at_128) k))) ?_
        show own_Go p.tables e below RR (T15.setTop (mkF m 129 #[.val (.long p1), .second, .val (.int p2), .val (.int p3), .val (.int p4), .val (.int sm), .val (.int mk), .val (.int pp0), .val (.int pp1), .val (.int pp2), .val (.int pp3), .val (.ref b3), .val (.int (((p2.toUInt32 >>> ((1 : Int32) &&& 31).toUInt32).toInt32) &&& (7 : Int32))), .unset, .unset, .unset, .unset] [(.int (1 : Int32)), (.int (((p2.toUInt32 >>> ((1 : Int32) &&& 31).toUInt32).toInt32) &&& (7 : Int32)))]))
        by_cases hc129_44 : (((p2.toUInt32 >>> ((1 : Int32) &&& 31).toUInt32).toInt32) &&& (7 : Int32)) = (1 : Int32)
        · refine own_st (fun _ k => XS.icmpNo X15.here hx rfl (hb hby at_129) rfl (teq hc129_44).2 (XS.iload X15.here hx rfl (hb hby at_132) rfl (XS.istore X15.here hx rfl (hb hby at_134) rfl (l' := #[.val (.long p1), .second, .val (.int p2), .val (.int p3), .val (.int p4), .val (.int sm), .val (.int mk), .val (.int pp0), .val (.int pp1), .val (.int pp2), .val (.int pp3), .val (.ref b3), .val (.int (((p2.toUInt32 >>> ((1 : Int32) &&& 31).toUInt32).toInt32) &&& (7 : Int32))), .val (.int pp1), .unset, .unset, .unset]) rfl (XS.goto X15.here hx rfl (pc0 := 136) (pc' := 204) rfl (hb hby at_136) (by decide) (by decide) k)))) ?_
          show own_Go p.tables e below RR (T15.setTop (mkF m 204 #[.val (.long p1), .second, .val (.int p2), .val (.int p3), .val (.int p4), .val (.int sm), .val (.int mk), .val (.int pp0), .val (.int pp1), .val (.int pp2), .val (.int pp3), .val (.ref b3), .val (.int (((p2.toUInt32 >>> ((1 : Int32) &&& 31).toUInt32).toInt32) &&& (7 : Int32))), .val (.int pp1), .unset, .unset, .unset] []))
          exact join17 T15 _ pp1 X15 e15 N15 hb1
        · refine own_st (fun _ k => XS.icmpYes X15.here hx rfl (pc0 := 129) (pc' := 139) rfl (hb hby at_129) rfl (feq hc129_44).2 (by decide) (by decide) (XS.iload X15.here hx rfl (hb hby at_139) rfl (XS.iconst X15.here hx rfl (hb hby at_141) k))) ?_
          show own_Go p.tables e below RR (T15.setTop (mkF m 142 #[.val (.long p1), .second, .val (.int p2), .val (.int p3), .val (.int p4), .val (.int sm), .val (.int mk), .val (.int pp0), .val (.int pp1), .val (.int pp2), .val (.int pp3), .val (.ref b3), .val (.int (((p2.toUInt32 >>> ((1 : Int32) &&& 31).toUInt32).toInt32) &&& (7 : Int32))), .unset, .unset, .unset, .unset] [(.int (2 : Int32)), (.int (((p2.toUInt32 >>> ((1 : Int32) &&& 31).toUInt32).toInt32) &&& (7 : Int32)))]))
          by_cases hc142_45 : (((p2.toUInt32 >>> ((1 : Int32) &&& 31).toUInt32).toInt32) &&& (7 : Int32)) = (2 : Int32)
          · refine own_st (fun _ k => XS.icmpNo X15.here hx rfl (hb hby at_142) rfl (teq hc142_45).2 (XS.iload X15.here hx rfl (hb hby at_145) rfl (XS.istore X15.here hx rfl (hb hby at_147) rfl (l' := #[.val (.long p1), .second, .val (.int p2), .val (.int p3), .val (.int p4), .val (.int sm), .val (.int mk), .val (.int pp0), .val (.int pp1), .val (.int pp2), .val (.int pp3), .val (.ref b3), .val (.int (((p2.toUInt32 >>> ((1 : Int32) &&& 31).toUInt32).toInt32) &&& (7 : Int32))), .val (.int pp2), .unset, .unset, .unset]) rfl (XS.goto X15.here hx rfl (pc0 := 149) (pc' := 204) rfl (hb hby at_149) (by decide) (by decide) k)))) ?_
            show own_Go p.tables e below RR (T15.setTop (mkF m 204 #[.val (.long p1), .second, .val (.int p2), .val (.int p3), .val (.int p4), .val (.int sm), .val (.int mk), .val (.int pp0), .val (.int pp1), .val (.int pp2), .val (.int pp3), .val (.ref b3), .val (.int (((p2.toUInt32 >>> ((1 : Int32) &&& 31).toUInt32).toInt32) &&& (7 : Int32))), .val (.int pp2), .unset, .unset, .unset] []))
            exact join17 T15 _ pp2 X15 e15 N15 hb2
          · refine own_st (fun _ k => XS.icmpYes X15.here hx rfl (pc0 := 142) (pc' := 152) rfl (hb hby at_142) rfl (feq hc142_45).2 (by decide) (by decide) (XS.iload X15.here hx rfl (hb hby at_152) rfl (XS.iconst X15.here hx rfl (hb hby at_154) k))) ?_
            show own_Go p.tables e below RR (T15.setTop (mkF m 155 #[.val (.long p1), .second, .val (.int p2), .val (.int p3), .val (.int p4), .val (.int sm), .val (.int mk), .val (.int pp0), .val (.int pp1), .val (.int pp2), .val (.int pp3), .val (.ref b3), .val (.int (((p2.toUInt32 >>> ((1 : Int32) &&& 31).toUInt32).toInt32) &&& (7 : Int32))), .unset, .unset, .unset, .unset] [(.int (3 : Int32)), (.int (((p2.toUInt32 >>> ((1 : Int32) &&& 31).toUInt32).toInt32) &&& (7 : Int32)))]))
            by_cases hc155_46 : (((p2.toUInt32 >>> ((1 : Int32) &&& 31).toUInt32).toInt32) &&& (7 : Int32)) = (3 : Int32)
            · refine own_st (fun _ k => XS.icmpNo X15.here hx rfl (hb hby at_155) rfl (teq hc155_46).2 (XS.iload X15.here hx rfl (hb hby at_158) rfl (XS.istore X15.here hx rfl (hb hby at_160) rfl (l' := #[.val (.long p1), .second, .val (.int p2), .val (.int p3), .val (.int p4), .val (.int sm), .val (.int mk), .val (.int pp0), .val (.int pp1), .val (.int pp2), .val (.int pp3), .val (.ref b3), .val (.int (((p2.toUInt32 >>> ((1 : Int32) &&& 31).toUInt32).toInt32) &&& (7 : Int32))), .val (.int pp3), .unset, .unset, .unset]) rfl (XS.goto X15.here hx rfl (pc0 := 162) (pc' := 204) rfl (hb hby at_162) (by decide) (by decide) k)))) ?_
              show own_Go p.tables e below RR (T15.setTop (mkF m 204 #[.val (.long p1), .second, .val (.int p2), .val (.int p3), .val (.int p4), .val (.int sm), .val (.int mk), .val (.int pp0), .val (.int pp1), .val (.int pp2), .val (.int pp3), .val (.ref b3), .val (.int (((p2.toUInt32 >>> ((1 : Int32) &&& 31).toUInt32).toInt32) &&& (7 : Int32))), .val (.int pp3), .unset, .unset, .unset] []))
              exact join17 T15 _ pp3 X15 e15 N15 hb3
            · refine own_st (fun _ k => XS.icmpYes X15.here hx rfl (pc0 := 155) (pc' := 165) rfl (hb hby at_155) rfl (feq hc155_46).2 (by decide) (by decide) (XS.iload X15.here hx rfl (hb hby at_165) rfl (XS.iconst X15.here hx rfl (hb hby at_167) k))) ?_
              show own_Go p.tables e below RR (T15.setTop (mkF m 168 #[.val (.long p1), .second, .val (.int p2), .val (.int p3), .val (.int p4), .val (.int sm), .val (.int mk), .val (.int pp0), .val (.int pp1), .val (.int pp2), .val (.int pp3), .val (.ref b3), .val (.int (((p2.toUInt32 >>> ((1 : Int32) &&& 31).toUInt32).toInt32) &&& (7 : Int32))), .unset, .unset, .unset, .unset] [(.int (4 : Int32)), (.int (((p2.toUInt32 >>> ((1 : Int32) &&& 31).toUInt32).toInt32) &&& (7 : Int32)))]))
              by_cases hc168_47 : (((p2.toUInt32 >>> ((1 : Int32) &&& 31).toUInt32).toInt32) &&& (7 : Int32)) = (4 : Int32)
              · refine own_st (fun _ k => XS.icmpNo X15.here hx rfl (hb hby at_168) rfl (teq hc168_47).2 (XS.iload X15.here hx rfl (hb hby at_171) rfl (XS.iconst X15.here hx rfl (hb hby at_173) (XS.ixor X15.here hx rfl (hb hby at_174) rfl (XS.istore X15.here hx rfl (hb hby at_175) rfl (l' := #[.val (.long p1), .second, .val (.int p2), .val (.int p3), .val (.int p4), .val (.int sm), .val (.int mk), .val (.int pp0), .val (.int pp1), .val (.int pp2), .val (.int pp3), .val (.ref b3), .val (.int (((p2.toUInt32 >>> ((1 : Int32) &&& 31).toUInt32).toInt32) &&& (7 : Int32))), .val (.int (pp0 ^^^ (1 : Int32))), .unset, .unset, .unset]) rfl (XS.goto X15.here hx rfl (pc0 := 177) (pc' := 204) rfl (hb hby at_177) (by decide) (by decide) k)))))) ?_
                show own_Go p.tables e below RR (T15.setTop (mkF m 204 #[.val (.long p1), .second, .val (.int p2), .val (.int p3), .val (.int p4), .val (.int sm), .val (.int mk), .val (.int pp0), .val (.int pp1), .val (.int pp2), .val (.int pp3), .val (.ref b3), .val (.int (((p2.toUInt32 >>> ((1 : Int32) &&& 31).toUInt32).toInt32) &&& (7 : Int32))), .val (.int (pp0 ^^^ (1 : Int32))), .unset, .unset, .unset] []))
                exact join17 T15 _ (pp0 ^^^ (1 : Int32)) X15 e15 N15 (own_xorb hb0 (by decide))
              · refine own_st (fun _ k => XS.icmpYes X15.here hx rfl (pc0 := 168) (pc' := 180) rfl (hb hby at_168) rfl (feq hc168_47).2 (by decide) (by decide) (XS.iload X15.here hx rfl (hb hby at_180) rfl (XS.iconst X15.here hx rfl (hb hby at_182) k))) ?_
                show own_Go p.tables e below RR (T15.setTop (mkF m 183 #[.val (.long p1), .second, .val (.int p2), .val (.int p3), .val (.int p4), .val (.int sm), .val (.int mk), .val (.int pp0), .val (.int pp1), .val (.int pp2), .val (.int pp3), .val (.ref b3), .val (.int (((p2.toUInt32 >>> ((1 : Int32) &&& 31).toUInt32).toInt32) &&& (7 : Int32))), .unset, .unset, .unset, .unset] [(.int (5 : Int32)), (.int (((p2.toUInt32 >>> ((1 : Int32) &&& 31).toUInt32).toInt32) &&& (7 : Int32)))]))
                by_cases hc183_48 : (((p2.toUInt32 >>> ((1 : Int32) &&& 31).toUInt32).toInt32) &&& (7 : Int32)) = (5 : Int32)
                · refine own_st (fun _ k => XS.icmpNo X15.here hx rfl (hb hby at_183) rfl (teq hc183_48).2 (XS.iload X15.here hx rfl (hb hby at_186) rfl (XS.sipush X15.here hx rfl (hb hby at_188) (XS.ixor X15.here hx rfl (hb hby at_191) rfl (XS.istore X15.here hx rfl (hb hby at_192) rfl (l' := #[.val (.long p1), .second, .val (.int p2), .val (.int p3), .val (.int p4), .val (.int sm), .val (.int mk), .val (.int pp0), .val (.int pp1), .val (.int pp2), .val (.int pp3), .val (.ref b3), .val (.int (((p2.toUInt32 >>> ((1 : Int32) &&& 31).toUInt32).toInt32) &&& (7 : Int32))), .val (.int (pp0 ^^^ (256 : Int32))), .unset, .unset, .unset]) rfl (XS.goto X15.here hx rfl (pc0 := 194) (pc' := 204) rfl (hb hby at_194) (by decide) (by decide) k)))))) ?_
                  show own_Go p.tables e below RR (T15.setTop (mkF m 204 #[.val (.long p1), .second, .val (.int p2), .val (.int p3), .val (.int p4), .val (.int sm), .val (.int mk), .val (.int pp0), .val (.int pp1), .val (.int pp2), .val (.int pp3), .val (.ref b3), .val (.int (((p2.toUInt32 >>> ((1 : Int32) &&& 31).toUInt32).toInt32) &&& (7 : Int32))), .val (.int (pp0 ^^^ (256 : Int32))), .unset, .unset, .unset] []))
                  exact join17 T15 _ (pp0 ^^^ (256 : Int32)) X15 e15 N15 (own_xorb hb0 (by decide))
                · refine own_st (fun _ k => XS.icmpYes X15.here hx rfl (pc0 := 183) (pc' := 197) rfl (hb hby at_183) rfl (feq hc183_48).2 (by decide) (by decide) (XS.iload X15.here hx rfl (hb hby at_197) rfl (XS.iload X15.here hx rfl (hb hby at_199) rfl (XS.iand X15.here hx rfl (hb hby at_201) rfl (XS.istore X15.here hx rfl (hb hby at_202) rfl (l' := #[.val (.long p1), .second, .val (.int p2), .val (.int p3), .val (.int p4), .val (.int sm), .val (.int mk), .val (.int pp0), .val (.int pp1), .val (.int pp2), .val (.int pp3), .val (.ref b3), .val (.int (((p2.toUInt32 >>> ((1 : Int32) &&& 31).toUInt32).toInt32) &&& (7 : Int32))), .val (.int (p4 &&& mk)), .unset, .unset, .unset]) rfl k))))) ?_
                  show own_Go p.tables e below RR (T15.setTop (mkF m 204 #[.val (.long p1), .second, .val (.int p2), .val (.int p3), .val (.int p4), .val (.int sm), .val (.int mk), .val (.int pp0), .val (.int pp1), .val (.int pp2), .val (.int pp3), .val (.ref b3), .val (.int (((p2.toUInt32 >>> ((1 : Int32) &&& 31).toUInt32).toInt32) &&& (7 : Int32))), .val (.int (p4 &&& mk)), .unset, .unset, .unset] []))
                  exact join17 T15 _ (p4 &&& mk) X15 e15 N15 (own_mb hmk)
    show own_Go p.tables e below RR (T1.setTop (mkF m 13 #[.val (.long p1), .second, .val (.int p2), .val (.int p3), .val (.int p4), .val (.int sma), .unset, .unset, .unset, .unset, .unset, .unset, .unset, .unset, .unset, .unset, .unset] []))
    refine own_st (fun _ k => XS.iload X1.here hx rfl (hb hby at_13) rfl k) ?_
    show own_Go p.tables e below RR (T1.setTop (mkF m 15 #[.val (.long p1), .second, .val (.int p2), .val (.int p3), .val (.int p4), .val (.int sma), .unset, .unset, .unset, .unset, .unset, .unset, .unset, .unset, .unset, .unset, .unset] [(.int sma)]))
    by_cases hc15_49 : sma = (0 : Int32)
    · refine own_st (fun _ k => XS.ifYes X1.here hx rfl (pc0 := 15) (pc' := 24) rfl (hb hby at_15) rfl ((if0 _ _).trans (teq hc15_49).1) (by decide) (by decide) (X1.ldcInt hx hown (mvT hZ (hw _ (List.mem_of_getElem? (i := 0) rfl))) (g := (mkF m 24 #[.val (.long p1), .second, .val (.int p2), .val (.int p3), .val (.int p4), .val (.int sma), .unset, .unset, .unset, .unset, .unset, .unset, .unset, .unset, .unset, .unset, .unset] [])) rfl (hb hby at_24) _ (XS.istore X1.here hx rfl (hb hby at_26) rfl (l' := #[.val (.long p1), .second, .val (.int p2), .val (.int p3), .val (.int p4), .val (.int sma), .val (.int (65535 : Int32)), .unset, .unset, .unset, .unset, .unset, .unset, .unset, .unset, .unset, .unset]) rfl (XS.lloadN X1.here hx rfl (hb hby at_28) rfl (X1.ldc2Long hx hown (mvT hZ (hw _ (List.mem_of_getElem? (i := 1) rfl))) (g := (mkF m 29 #[.val (.long p1), .second, .val (.int p2), .val (.int p3), .val (.int p4), .val (.int sma), .val (.int (65535 : Int32)), .unset, .unset, .unset, .unset, .unset, .unset, .unset, .unset, .unset, .unset] [(.long p1)])) rfl (hb hby at_29) _ (XS.land X1.here hx rfl (hb hby at_32) rfl (XS.l2i X1.here hx rfl (hb hby at_33) rfl (XS.iload X1.here hx rfl (hb hby at_34) rfl k)))))))) ?_
      show own_Go p.tables e below RR (T1.setTop (mkF m 36 #[.val (.long p1), .second, .val (.int p2), .val (.int p3), .val (.int p4), .val (.int sma), .val (.int (65535 : Int32)), .unset, .unset, .unset, .unset, .unset, .unset, .unset, .unset, .unset, .unset] [(.int (65535 : Int32)), (.int ((p1 &&& (65535 : Int64)).toInt32))]))
      refine own_st (fun _ k => XS.iand X1.here hx rfl (hb hby at_36) rfl (XS.istore X1.here hx rfl (hb hby at_37) rfl (l' := #[.val (.long p1), .second, .val (.int p2), .val (.int p3), .val (.int p4), .val (.int sma), .val (.int (65535 : Int32)), .val (.int (((p1 &&& (65535 : Int64)).toInt32) &&& (65535 : Int32))), .unset, .unset, .unset, .unset, .unset, .unset, .unset, .unset, .unset]) rfl (XS.lloadN X1.here hx rfl (hb hby at_39) rfl (XS.bipush X1.here hx rfl (hb hby at_40) (XS.lushr X1.here hx rfl (hb hby at_42) rfl (X1.ldc2Long hx hown (mvT hZ (hw _ (List.mem_of_getElem? (i := 1) rfl))) (g := (mkF m 43 #[.val (.long p1), .second, .val (.int p2), .val (.int p3), .val (.int p4), .val (.int sma), .val (.int (65535 : Int32)), .val (.int (((p1 &&& (65535 : Int64)).toInt32) &&& (65535 : Int32))), .unset, .unset, .unset, .unset, .unset, .unset, .unset, .unset, .unset] [(.long ((p1.toUInt64 >>> ((16 : Int32) &&& 0x3f).toInt64.toUInt64).toInt64))])) rfl (hb hby at_43) _ (XS.land X1.here hx rfl (hb hby at_46) rfl (XS.l2i X1.here hx rfl (hb hby at_47) rfl k)))))))) ?_
      show own_Go p.tables e below RR (T1.setTop (mkF m 48 #[.val (.long p1), .second, .val (.int p2), .val (.int p3), .val (.int p4), .val (.int sma), .val (.int (65535 : Int32)), .val (.int (((p1 &&& (65535 : Int64)).toInt32) &&& (65535 : Int32))), .unset, .unset, .unset, .unset, .unset, .unset, .unset, .unset, .unset] [(.int ((((p1.toUInt64 >>> ((16 : Int32) &&& 0x3f).toInt64.toUInt64).toInt64) &&& (65535 : Int64)).toInt32))]))
      refine own_st (fun _ k => XS.iload X1.here hx rfl (hb hby at_48) rfl (XS.iand X1.here hx rfl (hb hby at_50) rfl (XS.istore X1.here hx rfl (hb hby at_51) rfl (l' := #[.val (.long p1), .second, .val (.int p2), .val (.int p3), .val (.int p4), .val (.int sma), .val (.int (65535 : Int32)), .val (.int (((p1 &&& (65535 : Int64)).toInt32) &&& (65535 : Int32))), .val (.int (((((p1.toUInt64 >>> ((16 : Int32) &&& 0x3f).toInt64.toUInt64).toInt64) &&& (65535 : Int64)).toInt32) &&& (65535 : Int32))), .unset, .unset, .unset, .unset, .unset, .unset, .unset, .unset]) rfl (XS.lloadN X1.here hx rfl (hb hby at_53) rfl (XS.bipush X1.here hx rfl (hb hby at_54) (XS.lushr X1.here hx rfl (hb hby at_56) rfl (X1.ldc2Long hx hown (mvT hZ (hw _ (List.mem_of_getElem? (i := 1) rfl))) (g := (mkF m 57 #[.val (.long p1), .second, .val (.int p2), .val (.int p3), .val (.int p4), .val (.int sma), .val (.int (65535 : Int32)), .val (.int (((p1 &&& (65535 : Int64)).toInt32) &&& (65535 : Int32))), .val (.int (((((p1.toUInt64 >>> ((16 : Int32) &&& 0x3f).toInt64.toUInt64).toInt64) &&& (65535 : Int64)).toInt32) &&& (65535 : Int32))), .unset, .unset, .unset, .unset, .unset, .unset, .unset, .unset] [(.long ((p1.toUInt64 >>> ((32 : Int32) &&& 0x3f).toInt64.toUInt64).toInt64))])) rfl (hb hby at_57) _ (XS.land X1.here hx rfl (hb hby at_60) rfl k)))))))) ?_
      show own_Go p.tables e below RR (T1.setTop (mkF m 61 #[.val (.long p1), .second, .val (.int p2), .val (.int p3), .val (.int p4), .val (.int sma), .val (.int (65535 : Int32)), .val (.int (((p1 &&& (65535 : Int64)).toInt32) &&& (65535 : Int32))), .val (.int (((((p1.toUInt64 >>> ((16 : Int32) &&& 0x3f).toInt64.toUInt64).toInt64) &&& (65535 : Int64)).toInt32) &&& (65535 : Int32))), .unset, .unset, .unset, .unset, .unset, .unset, .unset, .unset] [(.long (((p1.toUInt64 >>> ((32 : Int32) &&& 0x3f).toInt64.toUInt64).toInt64) &&& (65535 : Int64)))]))
      refine own_st (fun _ k => XS.l2i X1.here hx rfl (hb hby at_61) rfl (XS.iload X1.here hx rfl (hb hby at_62) rfl (XS.iand X1.here hx rfl (hb hby at_64) rfl (XS.istore X1.here hx rfl (hb hby at_65) rfl (l' := #[.val (.long p1), .second, .val (.int p2), .val (.int p3), .val (.int p4), .val (.int sma), .val (.int (65535 : Int32)), .val (.int (((p1 &&& (65535 : Int64)).toInt32) &&& (65535 : Int32))), .val (.int (((((p1.toUInt64 >>> ((16 : Int32) &&& 0x3f).toInt64.toUInt64).toInt64) &&& (65535 : Int64)).toInt32) &&& (65535 : Int32))), .val (.int (((((p1.toUInt64 >>> ((32 : Int32) &&& 0x3f).toInt64.toUInt64).toInt64) &&& (65535 : Int64)).toInt32) &&& (65535 : Int32))), .unset, .unset, .unset, .unset, .unset, .unset, .unset]) rfl (XS.lloadN X1.here hx rfl (hb hby at_67) rfl (XS.bipush X1.here hx rfl (hb hby at_68) (XS.lushr X1.here hx rfl (hb hby at_70) rfl (X1.ldc2Long hx hown (mvT hZ (hw _ (List.mem_of_getElem? (i := 1) rfl))) (g := (mkF m 71 #[.val (.long p1), .second, .val (.int p2), .val (.int p3), .val (.int p4), .val (.int sma), .val (.int (65535 : Int32)), .val (.int (((p1 &&& (65535 : Int64)).toInt32) &&& (65535 : Int32))), .val (.int (((((p1.toUInt64 >>> ((16 : Int32) &&& 0x3f).toInt64.toUInt64).toInt64) &&& (65535 : Int64)).toInt32) &&& (65535 : Int32))), .val (.int (((((p1.toUInt64 >>> ((32 : Int32) &&& 0x3f).toInt64.toUInt64).toInt64) &&& (65535 : Int64)).toInt32) &&& (65535 : Int32))), .unset, .unset, .unset, .unset, .unset, .unset, .unset] [(.long ((p1.toUInt64 >>> ((48 : Int32) &&& 0x3f).toInt64.toUInt64).toInt64))])) rfl (hb hby at_71) _ k)))))))) ?_
      show own_Go p.tables e below RR (T1.setTop (mkF m 74 #[.val (.long p1), .second, .val (.int p2), .val (.int p3), .val (.int p4), .val (.int sma), .val (.int (65535 : Int32)), .val (.int (((p1 &&& (65535 : Int64)).toInt32) &&& (65535 : Int32))), .val (.int (((((p1.toUInt64 >>> ((16 : Int32) &&& 0x3f).toInt64.toUInt64).toInt64) &&& (65535 : Int64)).toInt32) &&& (65535 : Int32))), .val (.int (((((p1.toUInt64 >>> ((32 : Int32) &&& 0x3f).toInt64.toUInt64).toInt64) &&& (65535 : Int64)).toInt32) &&& (65535 : Int32))), .unset, .unset, .unset, .unset, .unset, .unset, .unset] [(.long (65535 : Int64)), (.long ((p1.toUInt64 >>> ((48 : Int32) &&& 0x3f).toInt64.toUInt64).toInt64))]))
      refine own_st (fun _ k => XS.land X1.here hx rfl (hb hby at_74) rfl (XS.l2i X1.here hx rfl (hb hby at_75) rfl (XS.iload X1.here hx rfl (hb hby at_76) rfl (XS.iand X1.here hx rfl (hb hby at_78) rfl (XS.istore X1.here hx rfl (hb hby at_79) rfl (l' := #[.val (.long p1), .second, .val (.int p2), .val (.int p3), .val (.int p4), .val (.int sma), .val (.int (65535 : Int32)), .val (.int (((p1 &&& (65535 : Int64)).toInt32) &&& (65535 : Int32))), .val (.int (((((p1.toUInt64 >>> ((16 : Int32) &&& 0x3f).toInt64.toUInt64).toInt64) &&& (65535 : Int64)).toInt32) &&& (65535 : Int32))), .val (.int (((((p1.toUInt64 >>> ((32 : Int32) &&& 0x3f).toInt64.toUInt64).toInt64) &&& (65535 : Int64)).toInt32) &&& (65535 : Int32))), .val (.int (((((p1.toUInt64 >>> ((48 : Int32) &&& 0x3f).toInt64.toUInt64).toInt64) &&& (65535 : Int64)).toInt32) &&& (65535 : Int32))), .unset, .unset, .unset, .unset, .unset, .unset]) rfl k))))) ?_
      show own_Go p.tables e below RR (T1.setTop (mkF m 81 #[.val (.long p1), .second, .val (.int p2), .val (.int p3), .val (.int p4), .val (.int sma), .val (.int (65535 : Int32)), .val (.int (((p1 &&& (65535 : Int64)).toInt32) &&& (65535 : Int32))), .val (.int (((((p1.toUInt64 >>> ((16 : Int32) &&& 0x3f).toInt64.toUInt64).toInt64) &&& (65535 : Int64)).toInt32) &&& (65535 : Int32))), .val (.int (((((p1.toUInt64 >>> ((32 : Int32) &&& 0x3f).toInt64.toUInt64).toInt64) &&& (65535 : Int64)).toInt32) &&& (65535 : Int32))), .val (.int (((((p1.toUInt64 >>> ((48 : Int32) &&& 0x3f).toInt64.toUInt64).toInt64) &&& (65535 : Int64)).toInt32) &&& (65535 : Int32))), .unset, .unset, .unset, .unset, .unset, .unset] []))
      exact join2 T1 _ sma (65535 : Int32) (((p1 &&& (65535 : Int64)).toInt32) &&& (65535 : Int32)) (((((p1.toUInt64 >>> ((16 : Int32) &&& 0x3f).toInt64.toUInt64).toInt64) &&& (65535 : Int64)).toInt32) &&& (65535 : Int32)) (((((p1.toUInt64 >>> ((32 : Int32) &&& 0x3f).toInt64.toUInt64).toInt64) &&& (65535 : Int64)).toInt32) &&& (65535 : Int32)) (((((p1.toUInt64 >>> ((48 : Int32) &&& 0x3f).toInt64.toUInt64).toInt64) &&& (65535 : Int64)).toInt32) &&& (65535 : Int32)) X1 e1 N1 (by decide) (own_mb (by decide)) (own_mb (by decide)) (own_mb (by decide)) (own_mb (by decide))
    · refine own_st (fun _ k => XS.ifNo X1.here hx rfl (hb hby at_15) rfl ((if0 _ _).trans (feq hc15_49).1) (XS.sipush X1.here hx rfl (hb hby at_18) (XS.goto X1.here hx rfl (pc0 := 21) (pc' := 26) rfl (hb hby at_21) (by decide) (by decide) (XS.istore X1.here hx rfl (hb hby at_26) rfl (l' := #[.val (.long p1), .second, .val (.int p2), .val (.int p3), .val (.int p4), .val (.int sma), .val (.int (259 : Int32)), .unset, .unset, .unset, .unset, .unset, .unset, .unset, .unset, .unset, .unset]) rfl (XS.lloadN X1.here hx rfl (hb hby at_28) rfl (X1.ldc2Long hx hown (mvT hZ (hw _ (List.mem_of_getElem? (i := 1) rfl))) (g := (mkF m 29 #[.val (.long p1), .second, .val (.int p2), .val (.int p3), .val (.int p4), .val (.int sma), .val (.int (259 : Int32)), .unset, .unset, .unset, .unset, .unset, .unset, .unset, .unset, .unset, .unset] [(.long p1)])) rfl (hb hby at_29) _ (XS.land X1.here hx rfl (hb hby at_32) rfl (XS.l2i X1.here hx rfl (hb hby at_33) rfl k)))))))) ?_
      show own_Go p.tables e below RR (T1.setTop (mkF m 34 #[.val (.long p1), .second, .val (.int p2), .val (.int p3), .val (.int p4), .val (.int sma), .val (.int (259 : Int32)), .unset, .unset, .unset, .unset, .unset, .unset, .unset, .unset, .unset, .unset] [(.int ((p1 &&& (65535 : Int64)).toInt32))]))
      refine own_st (fun _ k => XS.iload X1.here hx rfl (hb hby at_34) rfl (XS.iand X1.here hx rfl (hb hby at_36) rfl (XS.istore X1.here hx rfl (hb hby at_37) rfl (l' := #[.val (.long p1), .second, .val (.int p2), .val (.int p3), .val (.int p4), .val (.int sma), .val (.int (259 : Int32)), .val (.int (((p1 &&& (65535 : Int64)).toInt32) &&& (259 : Int32))), .unset, .unset, .unset, .unset, .unset, .unset, .unset, .unset, .unset]) rfl (XS.lloadN X1.here hx rfl (hb hby at_39) rfl (XS.bipush X1.here hx rfl (hb hby at_40) (XS.lushr X1.here hx rfl (hb hby at_42) rfl (X1.ldc2Long hx hown (mvT hZ (hw _ (List.mem_of_getElem? (i := 1) rfl))) (g := (mkF m 43 #[.val (.long p1), .second, .val (.int p2), .val (.int p3), .val (.int p4), .val (.int sma), .val (.int (259 : Int32)), .val (.int (((p1 &&& (65535 : Int64)).toInt32) &&& (259 : Int32))), .unset, .unset, .unset, .unset, .unset, .unset, .unset, .unset, .unset] [(.long ((p1.toUInt64 >>> ((16 : Int32) &&& 0x3f).toInt64.toUInt64).toInt64))])) rfl (hb hby at_43) _ (XS.land X1.here hx rfl (hb hby at_46) rfl k)))))))) ?_
      show own_Go p.tables e below RR (T1.setTop (mkF m 47 #[.val (.long p1), .second, .val (.int p2), .val (.int p3), .val (.int p4), .val (.int sma), .val (.int (259 : Int32)), .val (.int (((p1 &&& (65535 : Int64)).toInt32) &&& (259 : Int32))), .unset, .unset, .unset, .unset, .unset, .unset, .unset, .unset, .unset] [(.long (((p1.toUInt64 >>> ((16 : Int32) &&& 0x3f).toInt64.toUInt64).toInt64) &&& (65535 : Int64)))]))
      refine own_st (fun _ k => XS.l2i X1.here hx rfl (hb hby at_47) rfl (XS.iload X1.here hx rfl (hb hby at_48) rfl (XS.iand X1.here hx rfl (hb hby at_50) rfl (XS.istore X1.here hx rfl (hb hby at_51) rfl (l' := #[.val (.long p1), .second, .val (.int p2), .val (.int p3), .val (.int p4), .val (.int sma), .val (.int (259 : Int32)), .val (.int (((p1 &&& (65535 : Int64)).toInt32) &&& (259 : Int32))), .val (.int (((((p1.toUInt64 >>> ((16 : Int32) &&& 0x3f).toInt64.toUInt64).toInt64) &&& (65535 : Int64)).toInt32) &&& (259 : Int32))), .unset, .unset, .unset, .unset, .unset, .unset, .unset, .unset]) rfl (XS.lloadN X1.here hx rfl (hb hby at_53) rfl (XS.bipush X1.here hx rfl (hb hby at_54) (XS.lushr X1.here hx rfl (hb hby at_56) rfl (X1.ldc2Long hx hown (mvT hZ (hw _ (List.mem_of_getElem? (i := 1) rfl))) (g := (mkF m 57 #[.val (.long p1), .second, .val (.int p2), .val (.int p3), .val (.int p4), .val (.int sma), .val (.int (259 : Int32)), .val (.int (((p1 &&& (65535 : Int64)).toInt32) &&& (259 : Int32))), .val (.int (((((p1.toUInt64 >>> ((16 : Int32) &&& 0x3f).toInt64.toUInt64).toInt64) &&& (65535 : Int64)).toInt32) &&& (259 : Int32))), .unset, .unset, .unset, .unset, .unset, .unset, .unset, .unset] [(.long ((p1.toUInt64 >>> ((32 : Int32) &&& 0x3f).toInt64.toUInt64).toInt64))])) rfl (hb hby at_57) _ k)))))))) ?_
      show own_Go p.tables e below RR (T1.setTop (mkF m 60 #[.val (.long p1), .second, .val (.int p2), .val (.int p3), .val (.int p4), .val (.int sma), .val (.int (259 : Int32)), .val (.int (((p1 &&& (65535 : Int64)).toInt32) &&& (259 : Int32))), .val (.int (((((p1.toUInt64 >>> ((16 : Int32) &&& 0x3f).toInt64.toUInt64).toInt64) &&& (65535 : Int64)).toInt32) &&& (259 : Int32))), .unset, .unset, .unset, .unset, .unset, .unset, .unset, .unset] [(.long (65535 : Int64)), (.long ((p1.toUInt64 >>> ((32 : Int32) &&& 0x3f).toInt64.toUInt64).toInt64))]))
      refine own_st (fun _ k => XS.land X1.here hx rfl (hb hby at_60) rfl (XS.l2i X1.here hx rfl (hb hby at_61) rfl (XS.iload X1.here hx rfl (hb hby at_62) rfl (XS.iand X1.here hx rfl (hb hby at_64) rfl (XS.istore X1.here hx rfl (hb hby at_65) rfl (l' := #[.val (.long p1), .second, .val (.int p2), .val (.int p3), .val (.int p4), .val (.int sma), .val (.int (259 : Int32)), .val (.int (((p1 &&& (65535 : Int64)).toInt32) &&& (259 : Int32))), .val (.int (((((p1.toUInt64 >>> ((16 : Int32) &&& 0x3f).toInt64.toUInt64).toInt64) &&& (65535 : Int64)).toInt32) &&& (259 : Int32))), .val (.int (((((p1.toUInt64 >>> ((32 : Int32) &&& 0x3f).toInt64.toUInt64).toInt64) &&& (65535 : Int64)).toInt32) &&& (259 : Int32))), .unset, .unset, .unset, .unset, .unset, .unset, .unset]) rfl (XS.lloadN X1.here hx rfl (hb hby at_67) rfl (XS.bipush X1.here hx rfl (hb hby at_68) (XS.lushr X1.here hx rfl (hb hby at_70) rfl k)))))))) ?_
      show own_Go p.tables e below RR (T1.setTop (mkF m 71 #[.val (.long p1), .second, .val (.int p2), .val (.int p3), .val (.int p4), .val (.int sma), .val (.int (259 : Int32)), .val (.int (((p1 &&& (65535 : Int64)).toInt32) &&& (259 : Int32))), .val (.int (((((p1.toUInt64 >>> ((16 : Int32) &&& 0x3f).toInt64.toUInt64).toInt64) &&& (65535 : Int64)).toInt32) &&& (259 : Int32))), .val (.int (((((p1.toUInt64 >>> ((32 : Int32) &&& 0x3f).toInt64.toUInt64).toInt64) &&& (65535 : Int64)).toInt32) &&& (259 : Int32))), .unset, .unset, .unset, .unset, .unset, .unset, .unset] [(.long ((p1.toUInt64 >>> ((48 : Int32) &&& 0x3f).toInt64.toUInt64).toInt64))]))
      refine own_st (fun _ k => X1.ldc2Long hx hown (mvT hZ (hw _ (List.mem_of_getElem? (i := 1) rfl))) (g := (mkF m 71 #[.val (.long p1), .second, .val (.int p2), .val (.int p3), .val (.int p4), .val (.int sma), .val (.int (259 : Int32)), .val (.int (((p1 &&& (65535 : Int64)).toInt32) &&& (259 : Int32))), .val (.int (((((p1.toUInt64 >>> ((16 : Int32) &&& 0x3f).toInt64.toUInt64).toInt64) &&& (65535 : Int64)).toInt32) &&& (259 : Int32))), .val (.int (((((p1.toUInt64 >>> ((32 : Int32) &&& 0x3f).toInt64.toUInt64).toInt64) &&& (65535 : Int64)).toInt32) &&& (259 : Int32))), .unset, .unset, .unset, .unset, .unset, .unset, .unset] [(.long ((p1.toUInt64 >>> ((48 : Int32) &&& 0x3f).toInt64.toUInt64).toInt64))])) rfl (hb hby at_71) _ (XS.land X1.here hx rfl (hb hby at_74) rfl (XS.l2i X1.here hx rfl (hb hby at_75) rfl (XS.iload X1.here hx rfl (hb hby at_76) rfl (XS.iand X1.here hx rfl (hb hby at_78) rfl (XS.istore X1.here hx rfl (hb hby at_79) rfl (l' := #[.val (.long p1), .second, .val (.int p2), .val (.int p3), .val (.int p4), .val (.int sma), .val (.int (259 : Int32)), .val (.int (((p1 &&& (65535 : Int64)).toInt32) &&& (259 : Int32))), .val (.int (((((p1.toUInt64 >>> ((16 : Int32) &&& 0x3f).toInt64.toUInt64).toInt64) &&& (65535 : Int64)).toInt32) &&& (259 : Int32))), .val (.int (((((p1.toUInt64 >>> ((32 : Int32) &&& 0x3f).toInt64.toUInt64).toInt64) &&& (65535 : Int64)).toInt32) &&& (259 : Int32))), .val (.int (((((p1.toUInt64 >>> ((48 : Int32) &&& 0x3f).toInt64.toUInt64).toInt64) &&& (65535 : Int64)).toInt32) &&& (259 : Int32))), .unset, .unset, .unset, .unset, .unset, .unset]) rfl k)))))) ?_
      show own_Go p.tables e below RR (T1.setTop (mkF m 81 #[.val (.long p1), .second, .val (.int p2), .val (.int p3), .val (.int p4), .val (.int sma), .val (.int (259 : Int32)), .val (.int (((p1 &&& (65535 : Int64)).toInt32) &&& (259 : Int32))), .val (.int (((((p1.toUInt64 >>> ((16 : Int32) &&& 0x3f).toInt64.toUInt64).toInt64) &&& (65535 : Int64)).toInt32) &&& (259 : Int32))), .val (.int (((((p1.toUInt64 >>> ((32 : Int32) &&& 0x3f).toInt64.toUInt64).toInt64) &&& (65535 : Int64)).toInt32) &&& (259 : Int32))), .val (.int (((((p1.toUInt64 >>> ((48 : Int32) &&& 0x3f).toInt64.toUInt64).toInt64) &&& (65535 : Int64)).toInt32) &&& (259 : Int32))), .unset, .unset, .unset, .unset, .unset, .unset] []))
      exact join2 T1 _ sma (259 : Int32) (((p1 &&& (65535 : Int64)).toInt32) &&& (259 : Int32)) (((((p1.toUInt64 >>> ((16 : Int32) &&& 0x3f).toInt64.toUInt64).toInt64) &&& (65535 : Int64)).toInt32) &&& (259 : Int32)) (((((p1.toUInt64 >>> ((32 : Int32) &&& 0x3f).toInt64.toUInt64).toInt64) &&& (65535 : Int64)).toInt32) &&& (259 : Int32)) (((((p1.toUInt64 >>> ((48 : Int32) &&& 0x3f).toInt64.toUInt64).toInt64) &&& (65535 : Int64)).toInt32) &&& (259 : Int32)) X1 e1 N1 (by decide) (own_mb (by decide)) (own_mb (by decide)) (own_mb (by decide)) (own_mb (by decide))
  show own_Go p.tables e below RR (s₁.setTop (mkF m 0 #[.val (.long p1), .second, .val (.int p2), .val (.int p3), .val (.int p4), .unset, .unset, .unset, .unset, .unset, .unset, .unset, .unset, .unset, .unset, .unset, .unset] []))
  refine own_st (fun _ k => XS.iloadN X0.here hx rfl (hb hby at_0) rfl (XS.iconst X0.here hx rfl (hb hby at_1) (XS.iand X0.here hx rfl (hb hby at_2) rfl k))) ?_
  show own_Go p.tables e below RR (s₁.setTop (mkF m 3 #[.val (.long p1), .second, .val (.int p2), .val (.int p3), .val (.int p4), .unset, .unset, .unset, .unset, .unset, .unset, .unset, .unset, .unset, .unset, .unset, .unset] [(.int (p2 &&& (1 : Int32)))]))
  by_cases hc3_50 : (p2 &&& (1 : Int32)) = (0 : Int32)
  · refine own_st (fun _ k => XS.ifYes X0.here hx rfl (pc0 := 3) (pc' := 10) rfl (hb hby at_3) rfl ((if0 _ _).trans (teq hc3_50).1) (by decide) (by decide) (XS.iconst X0.here hx rfl (hb hby at_10) k)) ?_
    show own_Go p.tables e below RR (s₁.setTop (mkF m 11 #[.val (.long p1), .second, .val (.int p2), .val (.int p3), .val (.int p4), .unset, .unset, .unset, .unset, .unset, .unset, .unset, .unset, .unset, .unset, .unset, .unset] [(.int (0 : Int32))]))
    exact join1 s₁ _ (0 : Int32) X0 e0 N0 
  · refine own_st (fun _ k => XS.ifNo X0.here hx rfl (hb hby at_3) rfl ((if0 _ _).trans (feq hc3_50).1) (XS.iconst X0.here hx rfl (hb hby at_6) (XS.goto X0.here hx rfl (pc0 := 7) (pc' := 11) rfl (hb hby at_7) (by decide) (by decide) k))) ?_
    show own_Go p.tables e below RR (s₁.setTop (mkF m 11 #[.val (.long p1), .second, .val (.int p2), .val (.int p3), .val (.int p4), .unset, .unset, .unset, .unset, .unset, .unset, .unset, .unset, .unset, .unset, .unset, .unset] [(.int (1 : Int32))]))
    exact join1 s₁ _ (1 : Int32) X0 e0 N0 
set_option maxRecDepth 65536 in
set_option maxHeartbeats 40000000 in
theorem own_comes {Post : Tables → Env → Array Value → State → Outcome → State → Prop} (hpost : ∀ tb e args s v u, (limb_1_1.after args s (.returned v) u = true ∧ limb_1_2.after args s (.returned v) u = true ∧ True) → FrameEnd s (.returned v) u (Jvm.fieldLocs frame_1_writes args s ++ Jvm.arrayLocs frame_1_arrays args s ++ Jvm.staticLocs frame_1_statics s) 32 2176 → Post tb e args s (.returned v) u) :
    ArmFor flags0 classFile x code maxLocals ret World_1 tables_1 room_1 Calls_1 rest_1 Pre_1 Post := by
  intro l hfl _ _ p e ha hc hk s m args below hf hA hF happ hP
  obtain ⟨hcalls, hrest, hpre⟩ := hP
  obtain ⟨-, -, -, hnamed, -, -, -, hat⟩ := (Spec.applies_iff hf).mp happ
  obtain ⟨hg, hn⟩ := and_e (Cond.before_iff.mp (show (Jvm.Cond.and given_1 narrow_1).before args s = true from hpre))
  obtain ⟨u1a, u1b⟩ := and_e hg
  obtain ⟨u2a, u2b⟩ := and_e u1b
  obtain ⟨u3a, u3b⟩ := and_e u2b
  obtain ⟨u4a, u4b⟩ := and_e u3b
  obtain ⟨w0, w1, w2, w3, rfl⟩ : ∃ w0 w1 w2 w3 : Value, args = #[w0, w1, w2, w3] := by
    have hs : args.size = 4 := by simpa [Cond.value, given_1] using u1a
    obtain ⟨L⟩ := args
    match L, hs with
    | [w0, w1, w2, w3], _ => exact ⟨w0, w1, w2, w3, rfl⟩
  have hw := fun d (hd : d ∈ tables_1) => atoms_spec (ws := Jvm.Cond.code x code maxLocals ret :: tables_1) hat d (List.mem_cons_of_mem _ hd)
  have hfit : Fit s := fun {y c} hc i hi => by
    obtain ⟨ha, rfl⟩ := Array.getElem?_eq_some_iff.mp hc
    have q := List.all_eq_true.mp ((Array.all_eq_true_iff_forall_mem.mp hF) _ (Array.getElem_mem ha)) i (List.mem_range.mpr hi)
    simpa [Array.getElem?_eq_getElem hi] using q
  obtain ⟨i0, ei0⟩ := isL_v u2a
  obtain rfl : w0 = (.long i0) := Option.some.inj ei0
  obtain ⟨i1, ei1⟩ := is_v u3a
  obtain rfl : w1 = (.int i1) := Option.some.inj ei1
  obtain ⟨i2, ei2⟩ := is_v u4a
  obtain rfl : w2 = (.int i2) := Option.some.inj ei2
  obtain ⟨i3, ei3⟩ := is_v u4b
  obtain rfl : w3 = (.int i3) := Option.some.inj ei3
  obtain ⟨u101a, u101b⟩ := and_e hn
  obtain ⟨u102a, u102b⟩ := and_e u101b
  obtain ⟨u103a, u103b⟩ := and_e u102b
  obtain ⟨a_ABSENT, v_ABSENT⟩ := exa_v u102a
  have E_ABSENT := Exa.start v_ABSENT u102a
  have S_ABSENT := Sta.start v_ABSENT (Or.inr ⟨(hw _ (List.mem_of_getElem? (i := 5) rfl)), (hw _ (List.mem_of_getElem? (i := 19) rfl))⟩)
  obtain ⟨cab, Aab⟩ := Arr.start v_ABSENT u101a
  have atab : s.arrayAt? a_ABSENT = some cab := Arr.fin (Vm.Alike.refl _) Aab
  have ltab := SBG.length_lt v_ABSENT atab (own_eq_int u103a)
  have Vab := own_all (K := (-1 : Int32)) (fun idx => by first | exact v_ABSENT | simpa [Term.eval] using v_ABSENT) Aab ltab (own_lenE (len_f v_ABSENT atab ltab) (own_eq_int u103a)) u103b
  obtain ⟨n, o, h1, h2, h3, _, L, rfl, ⟨rfl, N⟩, hq⟩ := own_rm0 l s _ hw tables_1 i0 i1 i2 i3 a_ABSENT cab.cls s.heap s.heap.size (Nat.le_refl _) E_ABSENT S_ABSENT Vab p e ha hc hk s m _ below hf ((Spec.applies_iff_loose hf).mp happ).1 ⟨rfl, State.Warmed39.refl s, rfl⟩ trivial
  refine ⟨n, _, h1, h2, h3, hpost _ _ _ _ _ _ ⟨Cond.after_iff.mpr rfl, Cond.after_iff.mpr (eq_i res_at (Term.int_eval (1)) rfl), trivial⟩ ⟨hq.1, hq.2.1, (hq.2.2.sift fun y hy => Or.inr (N y hy)).mono (by decide) (by decide)⟩⟩
theorem main_1_1 : Claimed_1_1 := own_comes fun _ _ _ _ _ _ h hF => ⟨h.1, hF⟩
theorem main_1_2 : Claimed_1_2 := own_comes fun _ _ _ _ _ _ h hF => ⟨h.2.1, hF⟩
end Jvm.Pilot.@@N@@
namespace Jvm.Pilot.@@N@@
open Jvm Jvm.ClassFile Sem Op Lib Jvm.Free Jvm.Stand Jvm.Pilot.@@N@@.Jvm.D
/-! MADE BY PROGRAM (witnessworld.py) out of the Statement's table words and the real class files: 11 classes; the members and pool entries that the words name. The judged class is class 1, her method 1. -/
namespace start1
open Jvm.ClassFile
def u (s : String) : CpInfo := .utf8 (stringToUtf16 s)
/-- a pool by its gaps: so many unusable entries, then the entry; so many at the end -/
def gap : Nat → List CpInfo → List CpInfo
  | 0, r => r
  | n + 1, r => .unusable :: gap n r
def poolList (es : List (Nat × CpInfo)) (last : Nat) : List CpInfo := es.foldr (fun e r => gap e.1 (e.2 :: r)) (gap last [])
def pool (es : List (Nat × CpInfo)) (last : Nat) : Array CpInfo := ⟨poolList es last⟩
def fileOf (pool : Array CpInfo) (this : Nat) (attrs : Array Attribute := #[]) (ms : Array MethodInfo := #[]) (fl : Nat := 33) (sup : Nat := 0) (ifs : Array Nat := #[]) (fds : Array FieldInfo := #[]) : ClassFile where
  minorVersion := 0
  majorVersion := 65
  constantPool := pool
  accessFlags := fl
  thisClass := this
  superClass := sup
  interfaces := ifs
  fields := fds
  methods := ms
  attributes := attrs
def plain (name : String) (sup : Option ClassId) : Class where
  name := name
  kind := .ordinary
  loader := none
  accessFlags := 33
  super := sup
  interfaces := #[]
  cf := none
  fields := #[]
  methods := #[]
  instanceTypes := #[]
  staticTypes := #[]
  resolved := #[]
  callSites := []
  init := .initialized
  statics := none
  mirror := none

def pool0 : Array CpInfo := pool [(5, u "<init>"), (0, u "()V"), (1, .class_ 10), (1, u "java/lang/Object")] 113

def k0c0 : Code := { maxStack := 0, maxLocals := 1, code := object_method_1_code, exceptionTable := #[], attributes := #[] }
def k0m0 : Method := { name := "<init>", desc := "()V", sig := { parameters := [], returnType := none }, accessFlags := 1, code := some k0c0 }
/-- java/lang/Object -/
def k0 : Class := { plain "java/lang/Object" none with
  accessFlags := 33
  interfaces := #[]
  cf := some (fileOf pool0 8 #[] #[{ accessFlags := 1, nameIndex := 5, descriptorIndex := 6, attributes := #[] }] 33 0 #[] #[])
  fields := #[]
  methods := #[k0m0]
  instanceTypes := #[]
  staticTypes := #[]
  resolved := Array.replicate 124 none
  statics := none }

def pool1 : Array CpInfo := pool [(2, .class_ 4), (1, u "java/lang/Object"), (0, u "<init>"), (0, u "()V"), (0, .integer 65535), (0, .long 65535), (1, .class_ 11), (0, u "com/example/shiftwise/shiftwise/search/BoyerMooreTables"), (0, .integer 65536), (0, .methodref 10 14), (0, .nameAndType 5 15), (0, u "([II)V"), (0, .methodref 10 17), (0, .nameAndType 18 19), (0, u "badCharacterShift"), (0, u "(II)I"), (0, .class_ 21), (0, u "com/example/shiftwise/shiftwise/search/BoyerMooreTablesBadCharacterShiftPinLaw"), (2, u "law"), (0, u "(JIII)Z")] 5

def k1m0 : Method := { name := "<init>", desc := "()V", sig := { parameters := [], returnType := none }, accessFlags := 1, code := none }
def k1c1 : Code := { maxStack := 4, maxLocals := 17, code := code, exceptionTable := #[], attributes := #[] }
def k1m1 : Method := { name := "law", desc := "(JIII)Z", sig := { parameters := [.long, .int, .int, .int], returnType := some .boolean }, accessFlags := 9, code := some k1c1 }
/-- com/example/shiftwise/shiftwise/search/BoyerMooreTablesBadCharacterShiftPinLaw -/
def k1 : Class := { plain "com/example/shiftwise/shiftwise/search/BoyerMooreTablesBadCharacterShiftPinLaw" (some 0) with
  accessFlags := 49
  interfaces := #[]
  cf := some (fileOf pool1 20 #[] #[{ accessFlags := 1, nameIndex := 5, descriptorIndex := 6, attributes := #[] }, { accessFlags := 9, nameIndex := 24, descriptorIndex := 25, attributes := #[] }] 49 2 #[] #[])
  fields := #[]
  methods := #[k1m0, k1m1]
  instanceTypes := #[]
  staticTypes := #[]
  resolved := Array.replicate 31 none
  statics := none }

def pool2 : Array CpInfo := pool [(1, .class_ 2), (0, u "com/example/shiftwise/shiftwise/search/BoyerMooreTables"), (0, .methodref 4 5), (0, .class_ 6), (0, .nameAndType 7 8), (0, u "java/lang/Object"), (0, u "<init>"), (0, u "()V"), (0, .methodref 1 10), (0, .nameAndType 11 12), (0, u "lastPositions"), (0, u "([II)[[I"), (0, .fieldref 1 14), (0, .nameAndType 11 15), (0, u "[[I"), (0, .methodref 1 17), (0, .nameAndType 18 19), (0, u "goodSuffixShifts"), (0, u "([I)[I"), (0, .fieldref 1 21), (0, .nameAndType 18 22), (0, u "[I"), (0, .class_ 22), (0, .fieldref 1 25), (0, .nameAndType 26 22), (0, u "ABSENT"), (0, .methodref 28 29), (0, .class_ 30), (0, .nameAndType 31 32), (0, u "java/util/Arrays"), (0, u "fill"), (0, u "([Ljava/lang/Object;Ljava/lang/Object;)V"), (0, .methodref 1 34), (0, .nameAndType 35 36), (0, u "absentPage"), (0, u "()[I"), (0, .methodref 28 38), (0, .nameAndType 31 39), (0, u "([II)V"), (0, .methodref 1 41), (0, .nameAndType 42 19), (0, u "commonSuffixLengths"), (0, .methodref 44 45), (0, .class_ 46), (0, .nameAndType 47 48), (0, u "java/lang/Math"), (0, u "min"), (0, u "(II)I"), (0, u "PAGE_BITS"), (0, u "I"), (2, u "PAGE_SIZE"), (3, u "badCharacterShift")] 7

def k2c0 : Code := { maxStack := 3, maxLocals := 3, code := prog_30_method_1_code, exceptionTable := #[], attributes := #[] }
def k2m0 : Method := { name := "<init>", desc := "([II)V", sig := { parameters := [(.array .int), .int], returnType := none }, accessFlags := 0, code := some k2c0 }
def k2c1 : Code := { maxStack := 4, maxLocals := 3, code := prog_30_method_2_code, exceptionTable := #[], attributes := #[] }
def k2m1 : Method := { name := "badCharacterShift", desc := "(II)I", sig := { parameters := [.int, .int], returnType := some .int }, accessFlags := 0, code := some k2c1 }
def k2c2 : Code := { maxStack := 3, maxLocals := 5, code := prog_30_method_4_code, exceptionTable := #[], attributes := #[] }
def k2m2 : Method := { name := "lastPositions", desc := "([II)[[I", sig := { parameters := [(.array .int), .int], returnType := some (.array (.array .int)) }, accessFlags := 10, code := some k2c2 }
def k2c3 : Code := { maxStack := 2, maxLocals := 1, code := prog_30_method_5_code, exceptionTable := #[], attributes := #[] }
def k2m3 : Method := { name := "absentPage", desc := "()[I", sig := { parameters := [], returnType := some (.array .int) }, accessFlags := 10, code := some k2c3 }
def k2c4 : Code := { maxStack := 4, maxLocals := 7, code := prog_30_method_6_code, exceptionTable := #[], attributes := #[] }
def k2m4 : Method := { name := "goodSuffixShifts", desc := "([I)[I", sig := { parameters := [(.array .int)], returnType := some (.array .int) }, accessFlags := 10, code := some k2c4 }
def k2c5 : Code := { maxStack := 5, maxLocals := 8, code := prog_30_method_7_code, exceptionTable := #[], attributes := #[] }
def k2m5 : Method := { name := "commonSuffixLengths", desc := "([I)[I", sig := { parameters := [(.array .int)], returnType := some (.array .int) }, accessFlags := 10, code := some k2c5 }
/-- com/example/shiftwise/shiftwise/search/BoyerMooreTables -/
def k2 : Class := { plain "com/example/shiftwise/shiftwise/search/BoyerMooreTables" (some 0) with
  accessFlags := 48
  interfaces := #[]
  cf := some (fileOf pool2 1 #[] #[{ accessFlags := 0, nameIndex := 7, descriptorIndex := 39, attributes := #[] }, { accessFlags := 0, nameIndex := 57, descriptorIndex := 48, attributes := #[] }, { accessFlags := 10, nameIndex := 11, descriptorIndex := 12, attributes := #[] }, { accessFlags := 10, nameIndex := 35, descriptorIndex := 36, attributes := #[] }, { accessFlags := 10, nameIndex := 18, descriptorIndex := 19, attributes := #[] }, { accessFlags := 10, nameIndex := 42, descriptorIndex := 19, attributes := #[] }] 48 4 #[] #[{ accessFlags := 26, nameIndex := 49, descriptorIndex := 50, attributes := #[] }, { accessFlags := 26, nameIndex := 53, descriptorIndex := 50, attributes := #[] }, { accessFlags := 26, nameIndex := 26, descriptorIndex := 22, attributes := #[] }, { accessFlags := 18, nameIndex := 11, descriptorIndex := 15, attributes := #[] }, { accessFlags := 18, nameIndex := 18, descriptorIndex := 22, attributes := #[] }])
  fields := #[{ name := "PAGE_BITS", type := .int, accessFlags := 26, slot := 0, constantValue := 0 }, { name := "PAGE_SIZE", type := .int, accessFlags := 26, slot := 1, constantValue := 0 }, { name := "ABSENT", type := (.array .int), accessFlags := 26, slot := 2, constantValue := 0 }, { name := "lastPositions", type := (.array (.array .int)), accessFlags := 18, slot := 0, constantValue := 0 }, { name := "goodSuffixShifts", type := (.array .int), accessFlags := 18, slot := 1, constantValue := 0 }]
  methods := #[k2m0, k2m1, k2m2, k2m3, k2m4, k2m5]
  instanceTypes := #[(.array (.array .int)), (.array .int)]
  staticTypes := #[.int, .int, (.array .int)]
  resolved := Array.replicate 65 none
  statics := some 0 }

def pool3 : Array CpInfo := pool [(2, .class_ 4), (1, u "java/lang/Object"), (0, u "<init>"), (0, u "()V"), (7, .class_ 16), (1, u "java/util/Arrays"), (57, .class_ 76), (1, u "java/util/Arrays$NaturalOrder"), (36, .class_ 115), (1, u "java/util/Arrays$LegacyMergeSort"), (1, u "Z"), (257, .class_ 376), (0, u "java/util/Arrays$ArrayList"), (68, u "$assertionsDisabled"), (269, u "MIN_ARRAY_SORT_GRAN"), (0, u "I"), (2, u "INSERTIONSORT_THRESHOLD"), (120, u "fill"), (4, u "([II)V"), (12, u "([Ljava/lang/Object;Ljava/lang/Object;)V"), (116, .class_ 976), (0, u "java/util/Arrays$ArrayItr")] 52

def k3m0 : Method := { name := "<init>", desc := "()V", sig := { parameters := [], returnType := none }, accessFlags := 2, code := none }
def k3c1 : Code := { maxStack := 3, maxLocals := 4, code := jdk_65_method_103_code, exceptionTable := #[], attributes := #[] }
def k3m1 : Method := { name := "fill", desc := "([II)V", sig := { parameters := [(.array .int), .int], returnType := none }, accessFlags := 9, code := some k3c1 }
def k3c2 : Code := { maxStack := 3, maxLocals := 4, code := jdk_65_method_117_code, exceptionTable := #[], attributes := #[] }
def k3m2 : Method := { name := "fill", desc := "([Ljava/lang/Object;Ljava/lang/Object;)V", sig := { parameters := [(.array (.object "java/lang/Object")), (.object "java/lang/Object")], returnType := none }, accessFlags := 9, code := some k3c2 }
/-- java/util/Arrays -/
def k3 : Class := { plain "java/util/Arrays" (some 0) with
  accessFlags := 49
  interfaces := #[]
  cf := some (fileOf pool3 14 #[.nestMembers #[975, 375, 113, 74]] #[{ accessFlags := 2, nameIndex := 5, descriptorIndex := 6, attributes := #[] }, { accessFlags := 9, nameIndex := 840, descriptorIndex := 845, attributes := #[] }, { accessFlags := 9, nameIndex := 840, descriptorIndex := 858, attributes := #[] }] 49 2 #[] #[{ accessFlags := 26, nameIndex := 715, descriptorIndex := 716, attributes := #[] }, { accessFlags := 26, nameIndex := 719, descriptorIndex := 716, attributes := #[] }, { accessFlags := 4120, nameIndex := 445, descriptorIndex := 117, attributes := #[] }])
  fields := #[{ name := "MIN_ARRAY_SORT_GRAN", type := .int, accessFlags := 26, slot := 0, constantValue := 0 }, { name := "INSERTIONSORT_THRESHOLD", type := .int, accessFlags := 26, slot := 1, constantValue := 0 }, { name := "$assertionsDisabled", type := .boolean, accessFlags := 4120, slot := 2, constantValue := 0 }]
  methods := #[k3m0, k3m1, k3m2]
  instanceTypes := #[]
  staticTypes := #[.int, .int, .boolean]
  resolved := Array.replicate 1029 none
  statics := none }

def pool4 : Array CpInfo := pool [(1, .class_ 2), (0, u "java/lang/Math"), (1, .class_ 6), (1, u "java/lang/Object"), (0, u "<init>"), (0, u "()V"), (89, .class_ 100), (1, u "java/lang/Math$RandomNumberGeneratorHolder"), (71, u "negativeZeroFloatBits"), (0, u "J"), (2, u "negativeZeroDoubleBits"), (24, u "min"), (43, u "$assertionsDisabled"), (0, u "Z"), (88, u "(II)I"), (2, u "twoToTheDoubleScaleDown"), (0, u "D"), (4, u "twoToTheDoubleScaleUp"), (9, u "E"), (3, u "PI"), (2, u "TAU"), (2, u "DEGREES_TO_RADIANS"), (0, u "RADIANS_TO_DEGREES")] 94

def k4m0 : Method := { name := "<init>", desc := "()V", sig := { parameters := [], returnType := none }, accessFlags := 2, code := none }
def k4c1 : Code := { maxStack := 2, maxLocals := 2, code := jdk_29_method_69_code, exceptionTable := #[], attributes := #[] }
def k4m1 : Method := { name := "min", desc := "(II)I", sig := { parameters := [.int, .int], returnType := some .int }, accessFlags := 9, code := some k4c1 }
/-- java/lang/Math -/
def k4 : Class := { plain "java/lang/Math" (some 0) with
  accessFlags := 49
  interfaces := #[]
  cf := some (fileOf pool4 1 #[.nestMembers #[98]] #[{ accessFlags := 2, nameIndex := 7, descriptorIndex := 8, attributes := #[] }, { accessFlags := 9, nameIndex := 201, descriptorIndex := 335, attributes := #[] }] 49 4 #[] #[{ accessFlags := 25, nameIndex := 354, descriptorIndex := 339, attributes := #[] }, { accessFlags := 25, nameIndex := 358, descriptorIndex := 339, attributes := #[] }, { accessFlags := 25, nameIndex := 361, descriptorIndex := 339, attributes := #[] }, { accessFlags := 26, nameIndex := 364, descriptorIndex := 339, attributes := #[] }, { accessFlags := 26, nameIndex := 365, descriptorIndex := 339, attributes := #[] }, { accessFlags := 26, nameIndex := 172, descriptorIndex := 173, attributes := #[] }, { accessFlags := 26, nameIndex := 176, descriptorIndex := 173, attributes := #[] }, { accessFlags := 8, nameIndex := 344, descriptorIndex := 339, attributes := #[] }, { accessFlags := 8, nameIndex := 338, descriptorIndex := 339, attributes := #[] }, { accessFlags := 4120, nameIndex := 245, descriptorIndex := 246, attributes := #[] }])
  fields := #[{ name := "E", type := .double, accessFlags := 25, slot := 0, constantValue := 0 }, { name := "PI", type := .double, accessFlags := 25, slot := 1, constantValue := 0 }, { name := "TAU", type := .double, accessFlags := 25, slot := 2, constantValue := 0 }, { name := "DEGREES_TO_RADIANS", type := .double, accessFlags := 26, slot := 3, constantValue := 0 }, { name := "RADIANS_TO_DEGREES", type := .double, accessFlags := 26, slot := 4, constantValue := 0 }, { name := "negativeZeroFloatBits", type := .long, accessFlags := 26, slot := 5, constantValue := 0 }, { name := "negativeZeroDoubleBits", type := .long, accessFlags := 26, slot := 6, constantValue := 0 }, { name := "twoToTheDoubleScaleUp", type := .double, accessFlags := 8, slot := 7, constantValue := 0 }, { name := "twoToTheDoubleScaleDown", type := .double, accessFlags := 8, slot := 8, constantValue := 0 }, { name := "$assertionsDisabled", type := .boolean, accessFlags := 4120, slot := 9, constantValue := 0 }]
  methods := #[k4m0, k4m1]
  instanceTypes := #[]
  staticTypes := #[.double, .double, .double, .double, .double, .long, .long, .double, .double, .boolean]
  resolved := Array.replicate 460 none
  statics := none }

def pool5 : Array CpInfo := pool [(1, u "java/lang/Cloneable"), (0, .class_ 1), (0, u "java/lang/Object"), (0, .class_ 3)] 3

/-- java/lang/Cloneable -/
def k5 : Class := { plain "java/lang/Cloneable" (some 0) with
  accessFlags := 1537
  interfaces := #[]
  cf := some (fileOf pool5 2 #[] #[] 1537 4 #[] #[])
  fields := #[]
  methods := #[]
  instanceTypes := #[]
  staticTypes := #[]
  resolved := Array.replicate 8 none
  statics := none }

def pool6 : Array CpInfo := pool [(1, u "java/io/Serializable"), (0, .class_ 1), (0, u "java/lang/Object"), (0, .class_ 3)] 3

/-- java/io/Serializable -/
def k6 : Class := { plain "java/io/Serializable" (some 0) with
  accessFlags := 1537
  interfaces := #[]
  cf := some (fileOf pool6 2 #[] #[] 1537 4 #[] #[])
  fields := #[]
  methods := #[]
  instanceTypes := #[]
  staticTypes := #[]
  resolved := Array.replicate 8 none
  statics := none }

/-- the primitive byte -/
def k7 : Class := { plain "byte" none with kind := .primitive 'B', accessFlags := 0x411 }
/-- [B -/
def k8 : Class := { plain "[B" (some 0) with kind := .array 7 .byte, interfaces := #[5, 6], accessFlags := 1041 }

/-- the primitive int -/
def k9 : Class := { plain "int" none with kind := .primitive 'I', accessFlags := 0x411 }
/-- [I -/
def k10 : Class := { plain "[I" (some 0) with kind := .array 9 .int, interfaces := #[5, 6], accessFlags := 1041 }

def heap : Heap := #[{ cls := 2, slots := #[.int 0, .int 0, .ref 1], vm := .statics 2 },
  { cls := 10, slots := #[.int (-1), .int (-1), .int (-1), .int (-1), .int (-1), .int (-1), .int (-1), .int (-1), .int (-1), .int (-1), .int (-1), .int (-1), .int (-1), .int (-1), .int (-1), .int (-1), .int (-1), .int (-1), .int (-1), .int (-1), .int (-1), .int (-1), .int (-1), .int (-1), .int (-1), .int (-1), .int (-1), .int (-1), .int (-1), .int (-1), .int (-1), .int (-1), .int (-1), .int (-1), .int (-1), .int (-1), .int (-1), .int (-1), .int (-1), .int (-1), .int (-1), .int (-1), .int (-1), .int (-1), .int (-1), .int (-1), .int (-1), .int (-1), .int (-1), .int (-1), .int (-1), .int (-1), .int (-1), .int (-1), .int (-1), .int (-1), .int (-1), .int (-1), .int (-1), .int (-1), .int (-1), .int (-1), .int (-1), .int (-1), .int (-1), .int (-1), .int (-1), .int (-1), .int (-1), .int (-1), .int (-1), .int (-1), .int (-1), .int (-1), .int (-1), .int (-1), .int (-1), .int (-1), .int (-1), .int (-1), .int (-1), .int (-1), .int (-1), .int (-1), .int (-1), .int (-1), .int (-1), .int (-1), .int (-1), .int (-1), .int (-1), .int (-1), .int (-1), .int (-1), .int (-1), .int (-1), .int (-1), .int (-1), .int (-1), .int (-1), .int (-1), .int (-1), .int (-1), .int (-1), .int (-1), .int (-1), .int (-1), .int (-1), .int (-1), .int (-1), .int (-1), .int (-1), .int (-1), .int (-1), .int (-1), .int (-1), .int (-1), .int (-1), .int (-1), .int (-1), .int (-1), .int (-1), .int (-1), .int (-1), .int (-1), .int (-1), .int (-1), .int (-1), .int (-1), .int (-1), .int (-1), .int (-1), .int (-1), .int (-1), .int (-1), .int (-1), .int (-1), .int (-1), .int (-1), .int (-1), .int (-1), .int (-1), .int (-1), .int (-1), .int (-1), .int (-1), .int (-1), .int (-1), .int (-1), .int (-1), .int (-1), .int (-1), .int (-1), .int (-1), .int (-1), .int (-1), .int (-1), .int (-1), .int (-1), .int (-1), .int (-1), .int (-1), .int (-1), .int (-1), .int (-1), .int (-1), .int (-1), .int (-1), .int (-1), .int (-1), .int (-1), .int (-1), .int (-1), .int (-1), .int (-1), .int (-1), .int (-1), .int (-1), .int (-1), .int (-1), .int (-1), .int (-1), .int (-1), .int (-1), .int (-1), .int (-1), .int (-1), .int (-1), .int (-1), .int (-1), .int (-1), .int (-1), .int (-1), .int (-1), .int (-1), .int (-1), .int (-1), .int (-1), .int (-1), .int (-1), .int (-1), .int (-1), .int (-1), .int (-1), .int (-1), .int (-1), .int (-1), .int (-1), .int (-1), .int (-1), .int (-1), .int (-1), .int (-1), .int (-1), .int (-1), .int (-1), .int (-1), .int (-1), .int (-1), .int (-1), .int (-1), .int (-1), .int (-1), .int (-1), .int (-1), .int (-1), .int (-1), .int (-1), .int (-1), .int (-1), .int (-1), .int (-1), .int (-1), .int (-1), .int (-1), .int (-1), .int (-1), .int (-1), .int (-1), .int (-1), .int (-1), .int (-1), .int (-1), .int (-1), .int (-1), .int (-1), .int (-1), .int (-1), .int (-1), .int (-1), .int (-1), .int (-1), .int (-1), .int (-1), .int (-1), .int (-1)], vm := .none }]
/-- [[I -/
def k11 : Class := { plain "[[I" (some 0) with kind := .array 10 (.array .int), interfaces := #[5, 6], accessFlags := 1041 }
def classes : Array Class := #[k0, k1, k2, k3, k4, k5, k6, k7, k8, k9, k10, k11]
def interned : List (Array UInt16 × Addr) := []
def slotsUsed : Nat := 259
def theMethod : MethodId := ⟨1, 1⟩
def args0 : Array Value := #[.long 5, .int 3, .int 4, .int 7]
def aboutOver (below : List Frame) : State where
  vm := { classes := classes, interned := interned.toArray }
  heap := heap
  slotsUsed := slotsUsed
  threads := #[{ frames := .invoking theMethod args0 :: below }]
def below0 : List Frame := [.native { method := ⟨0, 0⟩, args := #[] }]
def about1 : State := aboutOver below0
def p0 : Program := .bare "" "" ""
def e0 : Env := launch0.env 0 0 0
theorem w_frames : about1.frames = Frame.invoking theMethod args0 :: below0 := rfl
set_option maxRecDepth 65536 in
theorem w_args : argsFit about1.vm theMethod args0 = true := by decide +kernel
set_option maxRecDepth 65536 in
theorem w_heap : heapFits about1 = true := by decide +kernel
set_option maxRecDepth 65536 in
theorem w_runnable : about1.curStatus? = some .runnable := by decide +kernel
set_option maxRecDepth 65536 in
theorem w_alone : about1.alone = true := by decide +kernel
set_option maxRecDepth 65536 in
theorem w_named : about1.methodNamed? x = some theMethod := by decide +kernel
set_option maxRecDepth 65536 in
theorem w_hears : about1.hears theMethod below0 = true := by decide +kernel
set_option maxRecDepth 65536 in
theorem w_ripe : about1.ripe theMethod args0 below0 = true := by decide +kernel
theorem w_running : about1.status = .running := rfl
set_option maxRecDepth 65536 in
theorem w_room : about1.hasRoom e0.platform room_1 = true :=
  launch0.hasRoom_least _ room_1 (by decide +kernel) (by decide +kernel) (by decide +kernel) (by decide +kernel) (by decide +kernel) (by decide +kernel)
theorem allAtoms_all (ts : List Jvm.Cond) (a : Array Jvm.Value) (st : Jvm.State) : (allAtoms ts).before a st = ts.all (fun c => c.before a st) := by
  induction ts with
  | nil => rfl
  | cons c t ih =>
    show (Jvm.Cond.and c (allAtoms t)).before a st = _
    rw [Jvm.Cond.before_and, ih, List.all_cons]
def words1 : List Jvm.Cond := Jvm.Cond.code x code maxLocals ret :: tables_1
/-- a 'code' word, met by the world's own term for the bytes: nothing is compared byte by byte -/
theorem code_word {y : MethodName} {bytes : ByteArray} {mx : Nat} {rt : Option FieldType} {a : Array Value} {s : State} {m : MethodId} {meth : Method} {c : Code} (h1 : s.methodNamed? y = some m) (h2 : s.vm.method? m = some meth) (h3 : meth.code = some c) (h4 : c.code = bytes)
    (h5 : (c.maxLocals == mx && c.exceptionTable.isEmpty && decide (c.maxStack ≤ mostOperands) && decide (meth.sig.returnType = rt) && !meth.locks && decide (parseMethodDescriptor y.desc = some meth.sig)) = true) : (Jvm.Cond.code y bytes mx rt).before a s = true := by
  simp only [Bool.and_eq_true, beq_iff_eq, Bool.not_eq_true', decide_eq_true_eq] at h5
  obtain ⟨⟨⟨⟨⟨g1, g2⟩, g3⟩, g4⟩, g5⟩, g6⟩ := h5
  simp [Cond.before, Cond.holds, Cond.value, h1, h2, h3, h4, g1, g2, g3, g4, g5, g6]
def isCode : Jvm.Cond → Bool
  | .code _ _ _ _ => true
  | _ => false
theorem all_split {L : List Jvm.Cond} {P : Jvm.Cond → Bool} (h1 : L.all (fun c => isCode c || P c) = true) (h2 : ∀ c ∈ L.filter isCode, P c = true) : L.all P = true := by
  refine List.all_eq_true.mpr fun c hc => ?_
  have h := List.all_eq_true.mp h1 c hc
  rcases Bool.eq_false_or_eq_true (isCode c) with hi | hi
  · exact h2 c (List.mem_filter.mpr ⟨hc, hi⟩)
  · simpa [hi] using h
set_option maxRecDepth 65536 in
theorem w_c0 : (Jvm.Cond.code x code maxLocals ret).before args0 about1 = true := code_word (m := ⟨1, 1⟩) (meth := k1m1) (c := k1c1) (by decide +kernel) rfl rfl rfl (by decide +kernel)
set_option maxRecDepth 65536 in
theorem w_c1 : (Jvm.Cond.code ({ cls := "com/example/shiftwise/shiftwise/search/BoyerMooreTables", name := "<init>", desc := "([II)V" } : Jvm.MethodName) prog_30_method_1_code (3 : Nat) (Option.none : Option Jvm.ClassFile.FieldType)).before args0 about1 = true := code_word (m := ⟨2, 0⟩) (meth := k2m0) (c := k2c0) (by decide +kernel) rfl rfl rfl (by decide +kernel)
set_option maxRecDepth 65536 in
theorem w_c2 : (Jvm.Cond.code ({ cls := "java/lang/Object", name := "<init>", desc := "()V" } : Jvm.MethodName) object_method_1_code (1 : Nat) (Option.none : Option Jvm.ClassFile.FieldType)).before args0 about1 = true := code_word (m := ⟨0, 0⟩) (meth := k0m0) (c := k0c0) (by decide +kernel) rfl rfl rfl (by decide +kernel)
set_option maxRecDepth 65536 in
theorem w_c3 : (Jvm.Cond.code ({ cls := "com/example/shiftwise/shiftwise/search/BoyerMooreTables", name := "lastPositions", desc := "([II)[[I" } : Jvm.MethodName) prog_30_method_4_code (5 : Nat) (Option.some (Jvm.ClassFile.FieldType.array (Jvm.ClassFile.FieldType.array Jvm.ClassFile.FieldType.int)))).before args0 about1 = true := code_word (m := ⟨2, 2⟩) (meth := k2m2) (c := k2c2) (by decide +kernel) rfl rfl rfl (by decide +kernel)
set_option maxRecDepth 65536 in
theorem w_c4 : (Jvm.Cond.code ({ cls := "java/util/Arrays", name := "fill", desc := "([Ljava/lang/Object;Ljava/lang/Object;)V" } : Jvm.MethodName) jdk_65_method_117_code (4 : Nat) (Option.none : Option Jvm.ClassFile.FieldType)).before args0 about1 = true := code_word (m := ⟨3, 2⟩) (meth := k3m2) (c := k3c2) (by decide +kernel) rfl rfl rfl (by decide +kernel)
set_option maxRecDepth 65536 in
theorem w_c5 : (Jvm.Cond.code ({ cls := "com/example/shiftwise/shiftwise/search/BoyerMooreTables", name := "absentPage", desc := "()[I" } : Jvm.MethodName) prog_30_method_5_code (1 : Nat) (Option.some (Jvm.ClassFile.FieldType.array Jvm.ClassFile.FieldType.int))).before args0 about1 = true := code_word (m := ⟨2, 3⟩) (meth := k2m3) (c := k2c3) (by decide +kernel) rfl rfl rfl (by decide +kernel)
set_option maxRecDepth 65536 in
theorem w_c6 : (Jvm.Cond.code ({ cls := "java/util/Arrays", name := "fill", desc := "([II)V" } : Jvm.MethodName) jdk_65_method_103_code (4 : Nat) (Option.none : Option Jvm.ClassFile.FieldType)).before args0 about1 = true := code_word (m := ⟨3, 1⟩) (meth := k3m1) (c := k3c1) (by decide +kernel) rfl rfl rfl (by decide +kernel)
set_option maxRecDepth 65536 in
theorem w_c7 : (Jvm.Cond.code ({ cls := "com/example/shiftwise/shiftwise/search/BoyerMooreTables", name := "goodSuffixShifts", desc := "([I)[I" } : Jvm.MethodName) prog_30_method_6_code (7 : Nat) (Option.some (Jvm.ClassFile.FieldType.array Jvm.ClassFile.FieldType.int))).before args0 about1 = true := code_word (m := ⟨2, 4⟩) (meth := k2m4) (c := k2c4) (by decide +kernel) rfl rfl rfl (by decide +kernel)
set_option maxRecDepth 65536 in
theorem w_c8 : (Jvm.Cond.code ({ cls := "com/example/shiftwise/shiftwise/search/BoyerMooreTables", name := "commonSuffixLengths", desc := "([I)[I" } : Jvm.MethodName) prog_30_method_7_code (8 : Nat) (Option.some (Jvm.ClassFile.FieldType.array Jvm.ClassFile.FieldType.int))).before args0 about1 = true := code_word (m := ⟨2, 5⟩) (meth := k2m5) (c := k2c5) (by decide +kernel) rfl rfl rfl (by decide +kernel)
set_option maxRecDepth 65536 in
theorem w_c9 : (Jvm.Cond.code ({ cls := "java/lang/Math", name := "min", desc := "(II)I" } : Jvm.MethodName) jdk_29_method_69_code (2 : Nat) (Option.some Jvm.ClassFile.FieldType.int)).before args0 about1 = true := code_word (m := ⟨4, 1⟩) (meth := k4m1) (c := k4c1) (by decide +kernel) rfl rfl rfl (by decide +kernel)
set_option maxRecDepth 65536 in
theorem w_c10 : (Jvm.Cond.code ({ cls := "com/example/shiftwise/shiftwise/search/BoyerMooreTables", name := "badCharacterShift", desc := "(II)I" } : Jvm.MethodName) prog_30_method_2_code (3 : Nat) (Option.some Jvm.ClassFile.FieldType.int)).before args0 about1 = true := code_word (m := ⟨2, 1⟩) (meth := k2m1) (c := k2c1) (by decide +kernel) rfl rfl rfl (by decide +kernel)
def codes1 : List Jvm.Cond := [Jvm.Cond.code x code maxLocals ret, Jvm.Cond.code ({ cls := "com/example/shiftwise/shiftwise/search/BoyerMooreTables", name := "<init>", desc := "([II)V" } : Jvm.MethodName) prog_30_method_1_code (3 : Nat) (Option.none : Option Jvm.ClassFile.FieldType), Jvm.Cond.code ({ cls := "java/lang/Object", name := "<init>", desc := "()V" } : Jvm.MethodName) object_method_1_code (1 : Nat) (Option.none : Option Jvm.ClassFile.FieldType), Jvm.Cond.code ({ cls := "com/example/shiftwise/shiftwise/search/BoyerMooreTables", name := "lastPositions", desc := "([II)[[I" } : Jvm.MethodName) prog_30_method_4_code (5 : Nat) (Option.some (Jvm.ClassFile.FieldType.array (Jvm.ClassFile.FieldType.array Jvm.ClassFile.FieldType.int))), Jvm.Cond.code ({ cls := "java/util/Arrays", name := "fill", desc := "([Ljava/lang/Object;Ljava/lang/Object;)V" } : Jvm.MethodName) jdk_65_method_117_code (4 : Nat) (Option.none : Option Jvm.ClassFile.FieldType), Jvm.Cond.code ({ cls := "com/example/shiftwise/shiftwise/search/BoyerMooreTables", name := "absentPage", desc := "()[I" } : Jvm.MethodName) prog_30_method_5_code (1 : Nat) (Option.some (Jvm.ClassFile.FieldType.array Jvm.ClassFile.FieldType.int)), Jvm.Cond.code ({ cls := "java/util/Arrays", name := "fill", desc := "([II)V" } : Jvm.MethodName) jdk_65_method_103_code (4 : Nat) (Option.none : Option Jvm.ClassFile.FieldType), Jvm.Cond.code ({ cls := "com/example/shiftwise/shiftwise/search/BoyerMooreTables", name := "goodSuffixShifts", desc := "([I)[I" } : Jvm.MethodName) prog_30_method_6_code (7 : Nat) (Option.some (Jvm.ClassFile.FieldType.array Jvm.ClassFile.FieldType.int)), Jvm.Cond.code ({ cls := "com/example/shiftwise/shiftwise/search/BoyerMooreTables", name := "commonSuffixLengths", desc := "([I)[I" } : Jvm.MethodName) prog_30_method_7_code (8 : Nat) (Option.some (Jvm.ClassFile.FieldType.array Jvm.ClassFile.FieldType.int)), Jvm.Cond.code ({ cls := "java/lang/Math", name := "min", desc := "(II)I" } : Jvm.MethodName) jdk_29_method_69_code (2 : Nat) (Option.some Jvm.ClassFile.FieldType.int), Jvm.Cond.code ({ cls := "com/example/shiftwise/shiftwise/search/BoyerMooreTables", name := "badCharacterShift", desc := "(II)I" } : Jvm.MethodName) prog_30_method_2_code (3 : Nat) (Option.some Jvm.ClassFile.FieldType.int)]
set_option maxRecDepth 65536 in
theorem codes_eq : words1.filter isCode = codes1 := rfl
theorem w_codes : ∀ c ∈ words1.filter isCode, c.before args0 about1 = true := by
  rw [codes_eq]
  intro c hc
  simp only [codes1, List.mem_cons, List.not_mem_nil, or_false] at hc
  rcases hc with rfl | rfl | rfl | rfl | rfl | rfl | rfl | rfl | rfl | rfl | rfl
  · exact w_c0
  · exact w_c1
  · exact w_c2
  · exact w_c3
  · exact w_c4
  · exact w_c5
  · exact w_c6
  · exact w_c7
  · exact w_c8
  · exact w_c9
  · exact w_c10
set_option maxRecDepth 65536 in
theorem w_t1 : (words1.take 24).all (fun c => isCode c || c.before args0 about1) = true := by decide +kernel
set_option maxRecDepth 65536 in
theorem w_t2 : ((words1.drop 24).take 24).all (fun c => isCode c || c.before args0 about1) = true := by decide +kernel
set_option maxRecDepth 65536 in
theorem w_t3 : ((words1.drop 24).drop 24).all (fun c => isCode c || c.before args0 about1) = true := by decide +kernel
theorem w_tables : (allAtoms (Jvm.Cond.code x code maxLocals ret :: tables_1)).before args0 about1 = true := by
  rw [allAtoms_all]
  show words1.all (fun c => c.before args0 about1) = true
  refine all_split ?_ w_codes
  rw [← List.take_append_drop 24 words1, List.all_append, w_t1, ← List.take_append_drop 24 (words1.drop 24), List.all_append, w_t2, w_t3]
  rfl
set_option maxRecDepth 65536 in
theorem w_case : (Jvm.Cond.and given_1 narrow_1).before args0 about1 = true := by decide +kernel
theorem w_applies : (headSpec (Jvm.Cond.code x code maxLocals ret :: tables_1) room_1).applies x e0.platform about1 = true :=
  (Spec.applies_iff w_frames).mpr ⟨w_running, w_runnable, w_alone, w_named, w_hears, w_ripe, w_room, w_tables⟩
theorem atStart : AtStart classFile x code maxLocals ret World_1 tables_1 room_1 Calls_1 rest_1 Pre_1 launch0 p0 e0 about1 theMethod args0 below0 :=
  ⟨lists_1, trivial, launch0.admits_env _ _ _, launch0.least_env, fairChoices_fair.cas, fairChoices_fair.clock, w_frames, w_args, w_heap, w_applies, trivial, trivial, w_case⟩
end start1
theorem witness_1 : WitnessClaimed_1 := ⟨start1.p0, start1.e0, start1.about1, start1.theMethod, start1.args0, start1.below0, start1.atStart⟩
end Jvm.Pilot.@@N@@
