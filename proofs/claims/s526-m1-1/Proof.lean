import JvmDerived
import JvmDerived.Pilot.@@N@@Statement
import JvmDerived.Pilot.@@N@@Code
set_option linter.unusedVariables false
set_option linter.unusedSimpArgs false
namespace Jvm.RoadKit
open Sem ClassFile Op Lib Jvm.Stand Jvm.Free Jvm.LawKit
section Own
/-- from u a state is reached where R holds -/
def own_Go (tb : Tables) (e : Env) (below : List Frame) (R : State → Prop) (u : State) : Prop := ∃ t, Steps tb e below u t ∧ R t
theorem own_st {tb : Tables} {e : Env} {below : List Frame} {R : State → Prop} {u v : State} (h : ∀ t, Steps tb e below v t → Steps tb e below u t) (g : own_Go tb e below R v) : own_Go tb e below R u := by
  obtain ⟨t, h1, h2⟩ := g
  exact ⟨t, h t h1, h2⟩
theorem own_fin {tb : Tables} {e : Env} {below : List Frame} {R : State → Prop} {u t : State} (h : Steps tb e below u t) (r : R t) : own_Go tb e below R u := ⟨t, h, r⟩
theorem own_in {tb : Tables} {e : Env} {below : List Frame} {u v : State} {P : State → Outcome → Prop} (h : ∀ t, Steps tb e below v t → Steps tb e below u t)
    (g : ∀ RR : State → Prop, (∀ t, (∃ o, t.status = .running ∧ P t o) → RR t) → own_Go tb e below RR v) : ∃ t o, Steps tb e below u t ∧ t.status = .running ∧ P t o := by
  obtain ⟨t, h1, o, h2, h3⟩ := g (fun t => ∃ o, t.status = .running ∧ P t o) fun _ q => q
  exact ⟨t, o, h t h1, h2, h3⟩
theorem own_ri {x y : Int32} (h : x = y) : some (Value.int x) = some (Value.int y) := h ▸ rfl
theorem own_rj {x y : Int64} (h : x = y) : some (Value.long x) = some (Value.long y) := h ▸ rfl
theorem own_rr {x y : Addr} (h : x = y) : some (Value.ref x) = some (Value.ref y) := h ▸ rfl
theorem own_eq_int {args : Array Value} {first s : State} {o : Option Outcome} {idx : List Nat} {a : Term} {k : Int32} (h : (Cond.eq a (.int k)).value args first o s idx = some true) : a.eval args first o idx s = some (.int k) := by
  simp only [Cond.value, Term.eval] at h
  cases ht : a.eval args first o idx s with
  | none => simp [ht] at h
  | some x => cases x <;> simp [ht] at h ⊢; exact h
theorem own_eq_long {args : Array Value} {first s : State} {o : Option Outcome} {idx : List Nat} {a : Term} {k : Int64} (h : (Cond.eq a (.long k)).value args first o s idx = some true) : a.eval args first o idx s = some (.long k) := by
  simp only [Cond.value, Term.eval] at h
  cases ht : a.eval args first o idx s with
  | none => simp [ht] at h
  | some x => cases x <;> simp [ht] at h ⊢; exact h
theorem own_selP {s : State} {args : Array Value} {y : MethodName} {n : Nat} (wi : (Cond.instantiable y.cls n).before args s = true) (hp : s.PrivateAt y) (hi : (Cond.instanceMethod y).before args s = true) (hy : y.cls ≠ "java/lang/invoke/MethodHandle" ∧ y.cls ≠ "java/lang/invoke/VarHandle") : (Cond.selects y.cls y y).before args s = true := by
  obtain ⟨c, k, h1, h2, -, h4, -⟩ := Cond.instantiable_spec wi
  exact selects_self_of_private h1 h2 (Bool.or_eq_false_iff.mp h4).1 hp hi hy
variable {p : Program} {l : Launch} {e : Env} {R : Room} {s : State} {m : MethodId} {args : Array Value} {below : List Frame} {meth : Method} {c : Code} {T : State} {locs : List Loc} {cells slots : Nat} {Z : State} {h : Heap}
theorem retI (X : Stand p l e R s m args below meth c T locs cells slots) (hx : p.tables.exec = Jvm.exec) {pc : Nat} {Ls : Array Slot} {z : Int32} {rest : List Value} (hret : meth.sig.returnType = some .int) (hd : decode c.code pc = .ok (.ireturn, 1)) {fs : List Frame}
    (hl : ∀ (f : JFrame) (acts : List Action), f.method = m → f.locked = none → f.entered = [] → (doReturn e (T.setTop f) acts (some (.int z))).1 = T.setFrames fs) : Steps p.tables e below (T.setTop (mkF m pc Ls (.int z :: rest))) (T.setFrames fs) :=
  retOut X hx hret rfl (Or.inl ⟨rfl, Or.inl rfl, z, rfl⟩) hd hl
theorem own_len (X : Stand p l e R s m args below meth c T locs cells slots) (hx : p.tables.exec = Jvm.exec) (hZ : Z.Warmed39 s.vm) (eT : T.heap = h) {a : Addr} {cl : Cell} {ty : FieldType} (A : Arr Z h a cl ty) {z : Int32} (S : cl.slots.size = z.toNatClampNeg) (N : ¬ z < 0)
    {g : JFrame} (hg : g.method = m) {rest : List Value} (hs : g.stack = .ref a :: rest) (hd : decode c.code g.pc = .ok (.arraylength, 1)) {target : State}
    (k : Steps p.tables e below (T.setTop { g with pc := g.pc + 1, stack := .int z :: rest }) target) : Steps p.tables e below (T.setTop g) target :=
  X.arraylength hx (by rw [eT]; exact A.1) (State.isArrayOf_alike hZ.alike A.2.1) hg hs hd target (by rw [len_of S N]; exact k)
end Own
end Jvm.RoadKit
namespace Jvm.Pilot.@@N@@
open Jvm Jvm.ClassFile Sem Op Lib Jvm.Free Jvm.Stand Jvm.LawKit Jvm.RoadKit Bundle Jvm.Pilot.@@N@@.Jvm.D
def own_pw (b e : Int64) : Nat := b.toInt.toNat ^ e.toInt.toNat % 2147483647
theorem own_pw_lt (b e : Int64) : own_pw b e < 2147483647 := Nat.mod_lt _ (by decide)
theorem own_even (r b e : Nat) : (r * ((b * b) % 2147483647) ^ e) % 2147483647 = (r * b ^ (2 * e)) % 2147483647 := by
  rw [Nat.mul_mod, ← Nat.pow_mod, ← Nat.mul_mod, Nat.pow_mul, Nat.pow_two]
theorem own_odd (r b e : Nat) : (((r * b) % 2147483647) * ((b * b) % 2147483647) ^ e) % 2147483647 = (r * b ^ (2 * e + 1)) % 2147483647 := by
  rw [own_even, Nat.mod_mul_mod, Nat.pow_succ, Nat.mul_assoc, Nat.mul_comm b]
def own_pm : Nat → Nat → Nat → Nat → Nat
  | 0, r, _, _ => r
  | n + 1, r, b, e => own_pm n (if e % 2 = 1 then r * b % 2147483647 else r) (b * b % 2147483647) (e / 2)
theorem own_pm_eq : ∀ n r b e, e < 2 ^ n → own_pm n r b e % 2147483647 = (r * b ^ e) % 2147483647 := by
  intro n
  induction n with
  | zero =>
    intro r b e h
    obtain rfl : e = 0 := by simp at h; omega
    simp [own_pm]
  | succ n ih =>
    intro r b e h
    rw [own_pm, ih _ _ _ (by rw [Nat.pow_succ] at h; omega)]
    by_cases q : e % 2 = 1
    · rw [if_pos q, own_odd]
      have : 2 * (e / 2) + 1 = e := by omega
      rw [this]
    · rw [if_neg q, own_even]
      have : 2 * (e / 2) = e := by omega
      rw [this]
theorem own_pw_of {b e : Int64} {B E k : Nat} (hB : b.toInt.toNat = B) (hE : e.toInt.toNat = E) (h : E < 2 ^ 31) (hk : own_pm 31 1 B E % 2147483647 = k) : own_pw b e = k := by
  rw [own_pm_eq 31 1 B E h, Nat.one_mul] at hk
  unfold own_pw
  rw [hB, hE]
  exact hk
theorem own_p2 : own_pw (2 : Int64) (1073741823 : Int64) = 1 := own_pw_of (B := 2) (E := 1073741823) (by decide) (by decide) (by decide) (by decide +kernel)
theorem own_p3 : own_pw (3 : Int64) (1073741823 : Int64) = 2147483646 := own_pw_of (B := 3) (E := 1073741823) (by decide) (by decide) (by decide) (by decide +kernel)
theorem own_rem {a : Int64} {A : Nat} (ha : a.toInt = (A : Int)) : (a % (2147483647 : Int64)).toInt = ((A % 2147483647 : Nat) : Int) := by
  have e : (2147483647 : Int64).toInt = ((2147483647 : Nat) : Int) := by decide
  rw [Int64.toInt_mod, ha, e]
  rfl
theorem own_mul {a b : Int64} {A B : Nat} (ha : a.toInt = (A : Int)) (hA : A < 2147483647) (hb : b.toInt = (B : Int)) (hB : B < 2147483647) : (a * b).toInt = ((A * B : Nat) : Int) := by
  have hp : A * B ≤ 2147483646 * 2147483646 := Nat.mul_le_mul (by omega) (by omega)
  have hm := c_lmul a b
  have hr := rng64 (a * b)
  rw [ha, hb, ← Int.natCast_mul] at hm
  generalize A * B = k at *
  omega
theorem own_mm {a b : Int64} {A B : Nat} (ha : a.toInt = (A : Int)) (hA : A < 2147483647) (hb : b.toInt = (B : Int)) (hB : B < 2147483647) : ((a * b) % (2147483647 : Int64)).toInt = ((A * B % 2147483647 : Nat) : Int) := own_rem (own_mul ha hA hb hB)
theorem own_bit (e : Int64) : (e &&& (1 : Int64)).toInt = e.toInt % 2 := c_maskL e 1 1 (by decide) (by decide)
theorem own_half (e : Int64) : (e >>> ((1 : Int32) &&& 0x3f).toInt64).toInt = e.toInt / 2 := c_lshr e 1 1 (by decide)
theorem own_e1 {je : Int64} {E : Nat} (hE : je.toInt = (E : Int)) (h : (0 : Int64) < je) (hb : (je &&& (1 : Int64)) = (0 : Int64)) : (je >>> ((1 : Int32) &&& 0x3f).toInt64).toInt = ((E / 2 : Nat) : Int) ∧ 2 * (E / 2) = E ∧ E / 2 < E := by
  have h1 := own_bit je
  have h2 := own_half je
  rw [hb] at h1
  have e0 : (0 : Int64).toInt = 0 := by decide
  rw [Int64.lt_iff_toInt_lt] at h
  omega
theorem own_e2 {je : Int64} {E : Nat} (hE : je.toInt = (E : Int)) (h : (0 : Int64) < je) (hb : ¬ (je &&& (1 : Int64)) = (0 : Int64)) : (je >>> ((1 : Int32) &&& 0x3f).toInt64).toInt = ((E / 2 : Nat) : Int) ∧ 2 * (E / 2) + 1 = E ∧ E / 2 < E := by
  have h1 := own_bit je
  have h2 := own_half je
  have e0 : (0 : Int64).toInt = 0 := by decide
  have h3 : ¬ (je &&& (1 : Int64)).toInt = (0 : Int64).toInt := fun q => hb (Int64.toInt_inj.mp q)
  rw [Int64.lt_iff_toInt_lt] at h
  omega
theorem own_out {jr je : Int64} {R B E K : Nat} {r : Int32} (hR : jr.toInt = (R : Int)) (hR' : R < 2147483647) (hE : je.toInt = (E : Int)) (h4 : (R * B ^ E) % 2147483647 = K) (h : ¬ (0 : Int64) < je) (hr : r.toInt = (K : Int)) : jr.toInt32 = r := by
  have e0 : (0 : Int64).toInt = 0 := by decide
  rw [Int64.lt_iff_toInt_lt] at h
  obtain rfl : E = 0 := by omega
  rw [Nat.pow_zero, Nat.mul_one] at h4
  have h5 := c_l2i jr
  have h6 := rng32 jr.toInt32
  apply Int32.toInt_inj.mp
  omega
theorem own_nat {b : Int64} (h : 0 ≤ b.toInt) : b.toInt = ((b.toInt.toNat : Nat) : Int) := (Int.toNat_of_nonneg h).symm
theorem own_init (q1 q3 : Int64) : (1 * (q1.toInt.toNat % 2147483647) ^ q3.toInt.toNat) % 2147483647 = own_pw q1 q3 := by
  rw [Nat.one_mul, ← Nat.pow_mod]
  rfl
theorem own_ex32 {n : Nat} (h : n < 2147483647) : ∃ z : Int32, z.toInt = (n : Int) := ⟨Int32.ofNat n, by rw [Int32.toInt_ofNat_of_lt (by omega)]⟩
theorem own_nn {x a : Int64} (h : x &&& (9223372036854775807 : Int64) = a) : 0 ≤ a.toInt := by
  have := c_maskL x 9223372036854775807 63 (by decide) (by decide)
  rw [h] at this
  omega
theorem own_n62 {x a : Int64} (h : x &&& (4611686018427387903 : Int64) = a) : 0 ≤ a.toInt ∧ a.toInt < 4611686018427387904 := by
  have := c_maskL x 4611686018427387903 62 (by decide) (by decide)
  rw [h] at this
  omega
theorem own_b01 {x : Int32} {a : Int64} (h : (x &&& (1 : Int32)).toInt64 = a) : a.toInt = 0 ∨ a.toInt = 1 := by
  have h1 := c_mask x 1 1 (by decide) (by decide)
  have h2 := c_i2l (x &&& 1)
  rw [h] at h2
  omega
theorem own_dbl {e t d : Int64} (he : 0 ≤ e.toInt ∧ e.toInt < 4611686018427387904) (ht : t.toInt = 0 ∨ t.toInt = 1) (h : (2 : Int64) * e + t = d) : d.toInt = 2 * e.toInt + t.toInt := by
  have h1 := c_lmul 2 e
  have h2 := c_ladd ((2 : Int64) * e) t
  have e2 : (2 : Int64).toInt = 2 := by decide
  rw [h] at h2
  rw [e2] at h1
  have r1 := rng64 d
  have r2 := rng64 ((2 : Int64) * e)
  omega
theorem own_f0 (B E : Nat) : ((B ^ E % 2147483647) * (B ^ E % 2147483647)) % 2147483647 = B ^ (2 * E) % 2147483647 := by
  rw [← Nat.mul_mod, Nat.two_mul, Nat.pow_add]
theorem own_f1 (B E : Nat) : ((B ^ E % 2147483647) * (B ^ E % 2147483647) % 2147483647 * (B % 2147483647)) % 2147483647 = B ^ (2 * E + 1) % 2147483647 := by
  rw [own_f0, ← Nat.mul_mod, Nat.pow_succ]
theorem own_i {hf : Int32} {b e : Int64} (h : hf.toInt = ((own_pw b e : Nat) : Int)) : hf.toInt64.toInt = ((own_pw b e : Nat) : Int) := by rw [c_i2l]; exact h
theorem own_exp {t : Int64} {b e d : Int64} (he : 0 ≤ e.toInt ∧ e.toInt < 4611686018427387904) (ht : t.toInt = 0 ∨ t.toInt = 1) (h : (2 : Int64) * e + t = d) : own_pw b d = b.toInt.toNat ^ (2 * e.toInt.toNat + t.toInt.toNat) % 2147483647 := by
  have := own_dbl he ht h
  unfold own_pw
  congr 2
  omega
theorem own_fin1 {t b e d : Int64} {hf wh : Int32} (hb : 0 ≤ b.toInt) (he : 0 ≤ e.toInt ∧ e.toInt < 4611686018427387904) (ht : t.toInt = 0 ∨ t.toInt = 1) (h : (2 : Int64) * e + t = d) (t1 : t = (1 : Int64))
    (h1 : hf.toInt = ((own_pw b e : Nat) : Int)) (h2 : wh.toInt = ((own_pw b d : Nat) : Int)) : wh.toInt64 = ((((hf.toInt64 * hf.toInt64) % (2147483647 : Int64)) * (b % (2147483647 : Int64))) % (2147483647 : Int64)) := by
  apply Int64.toInt_inj.mp
  rw [own_i h2, own_mm (own_mm (own_i h1) (own_pw_lt b e) (own_i h1) (own_pw_lt b e)) (Nat.mod_lt _ (by decide)) (own_rem (own_nat hb)) (Nat.mod_lt _ (by decide)), own_exp he ht h, t1]
  unfold own_pw
  rw [own_f1]
  rfl
theorem own_fin0 {t b e d : Int64} {hf wh : Int32} (he : 0 ≤ e.toInt ∧ e.toInt < 4611686018427387904) (ht : t.toInt = 0 ∨ t.toInt = 1) (h : (2 : Int64) * e + t = d) (t1 : ¬ t = (1 : Int64))
    (h1 : hf.toInt = ((own_pw b e : Nat) : Int)) (h2 : wh.toInt = ((own_pw b d : Nat) : Int)) : wh.toInt64 = ((hf.toInt64 * hf.toInt64) % (2147483647 : Int64)) := by
  have t0 : t.toInt = 0 := by
    rcases ht with q | q
    · exact q
    · exact absurd (Int64.toInt_inj.mp (q.trans (by decide))) t1
  apply Int64.toInt_inj.mp
  rw [own_i h2, own_mm (own_i h1) (own_pw_lt b e) (own_i h1) (own_pw_lt b e), own_exp he ht h, t0]
  unfold own_pw
  rw [own_f0]
  rfl
theorem own_zero (b : Int64) : (1 : Int32).toInt = ((own_pw b (0 : Int64) : Nat) : Int) := by
  unfold own_pw
  have : (0 : Int64).toInt.toNat = 0 := by decide
  rw [this, Nat.pow_zero]
  decide
theorem own_hneg {hf : Int32} {n : Nat} (h : hf.toInt = (n : Int)) : ¬ hf < (0 : Int32) := by
  rw [Int32.lt_iff_toInt_lt, h]
  have : (0 : Int32).toInt = 0 := by decide
  omega
theorem own_hlt {hf : Int32} {b e : Int64} (h : hf.toInt = ((own_pw b e : Nat) : Int)) : hf.toInt64 < (2147483647 : Int64) := by
  rw [Int64.lt_iff_toInt_lt, own_i h]
  have := own_pw_lt b e
  have e : (2147483647 : Int64).toInt = 2147483647 := by decide
  omega
theorem own_pn_com_example_powderhorn_powderhorn_dice_Prime : plainName "com/example/powderhorn/powderhorn/dice/Prime" = true := by first | (simp [plainName, overriddenIn]; done) | decide +kernel
theorem own_dprog_13_method_8_code_0 : decode prog_13_method_8_code 0 = .ok (.lconst 1, 1) := by decide +kernel
theorem own_dprog_13_method_8_code_1 : decode prog_13_method_8_code 1 = .ok (.lstore 5, 2) := by decide +kernel
theorem own_dprog_13_method_8_code_3 : decode prog_13_method_8_code 3 = .ok (.lload_n 1, 1) := by decide +kernel
theorem own_dprog_13_method_8_code_4 : decode prog_13_method_8_code 4 = .ok (.aload_n 0, 1) := by decide +kernel
theorem own_dprog_13_method_8_code_5 : decode prog_13_method_8_code 5 = .ok (.getfield 7, 3) := by decide +kernel
theorem own_dprog_13_method_8_code_8 : decode prog_13_method_8_code 8 = .ok (.i2l, 1) := by decide +kernel
theorem own_dprog_13_method_8_code_9 : decode prog_13_method_8_code 9 = .ok (.lrem, 1) := by decide +kernel
theorem own_dprog_13_method_8_code_10 : decode prog_13_method_8_code 10 = .ok (.lstore 7, 2) := by decide +kernel
theorem own_dprog_13_method_8_code_12 : decode prog_13_method_8_code 12 = .ok (.lload_n 3, 1) := by decide +kernel
theorem own_dprog_13_method_8_code_13 : decode prog_13_method_8_code 13 = .ok (.lstore 9, 2) := by decide +kernel
theorem own_dprog_13_method_8_code_15 : decode prog_13_method_8_code 15 = .ok (.lload 9, 2) := by decide +kernel
theorem own_dprog_13_method_8_code_17 : decode prog_13_method_8_code 17 = .ok (.lconst 0, 1) := by decide +kernel
theorem own_dprog_13_method_8_code_18 : decode prog_13_method_8_code 18 = .ok (.lcmp, 1) := by decide +kernel
theorem own_dprog_13_method_8_code_19 : decode prog_13_method_8_code 19 = .ok (.ifCond .le 47, 3) := by decide +kernel
theorem own_dprog_13_method_8_code_22 : decode prog_13_method_8_code 22 = .ok (.lload 9, 2) := by decide +kernel
theorem own_dprog_13_method_8_code_24 : decode prog_13_method_8_code 24 = .ok (.lconst 1, 1) := by decide +kernel
theorem own_dprog_13_method_8_code_25 : decode prog_13_method_8_code 25 = .ok (.land, 1) := by decide +kernel
theorem own_dprog_13_method_8_code_26 : decode prog_13_method_8_code 26 = .ok (.lconst 0, 1) := by decide +kernel
theorem own_dprog_13_method_8_code_27 : decode prog_13_method_8_code 27 = .ok (.lcmp, 1) := by decide +kernel
theorem own_dprog_13_method_8_code_28 : decode prog_13_method_8_code 28 = .ok (.ifCond .eq 16, 3) := by decide +kernel
theorem own_dprog_13_method_8_code_44 : decode prog_13_method_8_code 44 = .ok (.lload 7, 2) := by decide +kernel
theorem own_dprog_13_method_8_code_46 : decode prog_13_method_8_code 46 = .ok (.lload 7, 2) := by decide +kernel
theorem own_dprog_13_method_8_code_48 : decode prog_13_method_8_code 48 = .ok (.lmul, 1) := by decide +kernel
theorem own_dprog_13_method_8_code_49 : decode prog_13_method_8_code 49 = .ok (.aload_n 0, 1) := by decide +kernel
theorem own_dprog_13_method_8_code_50 : decode prog_13_method_8_code 50 = .ok (.getfield 7, 3) := by decide +kernel
theorem own_dprog_13_method_8_code_53 : decode prog_13_method_8_code 53 = .ok (.i2l, 1) := by decide +kernel
theorem own_dprog_13_method_8_code_54 : decode prog_13_method_8_code 54 = .ok (.lrem, 1) := by decide +kernel
theorem own_dprog_13_method_8_code_55 : decode prog_13_method_8_code 55 = .ok (.lstore 7, 2) := by decide +kernel
theorem own_dprog_13_method_8_code_57 : decode prog_13_method_8_code 57 = .ok (.lload 9, 2) := by decide +kernel
theorem own_dprog_13_method_8_code_59 : decode prog_13_method_8_code 59 = .ok (.iconst 1, 1) := by decide +kernel
theorem own_dprog_13_method_8_code_60 : decode prog_13_method_8_code 60 = .ok (.lshr, 1) := by decide +kernel
theorem own_dprog_13_method_8_code_61 : decode prog_13_method_8_code 61 = .ok (.lstore 9, 2) := by decide +kernel
theorem own_dprog_13_method_8_code_63 : decode prog_13_method_8_code 63 = .ok (.goto (-48), 3) := by decide +kernel
theorem own_dprog_13_method_8_code_31 : decode prog_13_method_8_code 31 = .ok (.lload 5, 2) := by decide +kernel
theorem own_dprog_13_method_8_code_33 : decode prog_13_method_8_code 33 = .ok (.lload 7, 2) := by decide +kernel
theorem own_dprog_13_method_8_code_35 : decode prog_13_method_8_code 35 = .ok (.lmul, 1) := by decide +kernel
theorem own_dprog_13_method_8_code_36 : decode prog_13_method_8_code 36 = .ok (.aload_n 0, 1) := by decide +kernel
theorem own_dprog_13_method_8_code_37 : decode prog_13_method_8_code 37 = .ok (.getfield 7, 3) := by decide +kernel
theorem own_dprog_13_method_8_code_40 : decode prog_13_method_8_code 40 = .ok (.i2l, 1) := by decide +kernel
theorem own_dprog_13_method_8_code_41 : decode prog_13_method_8_code 41 = .ok (.lrem, 1) := by decide +kernel
theorem own_dprog_13_method_8_code_42 : decode prog_13_method_8_code 42 = .ok (.lstore 5, 2) := by decide +kernel
theorem own_dprog_13_method_8_code_66 : decode prog_13_method_8_code 66 = .ok (.lload 5, 2) := by decide +kernel
theorem own_dprog_13_method_8_code_68 : decode prog_13_method_8_code 68 = .ok (.l2i, 1) := by decide +kernel
theorem own_dprog_13_method_8_code_69 : decode prog_13_method_8_code 69 = .ok (.ireturn, 1) := by decide +kernel
theorem own_efW (m : MethodId) (o : Addr) (q1 : Int64) (q3 : Int64) : entryFrame m #[(.ref o), (.long q1), (.long q3)] 11 = mkF m 0 #[.val (.ref o), .val (.long q1), .second, .val (.long q3), .second, .unset, .unset, .unset, .unset, .unset, .unset] [] := by first | (simp [entryFrame, mkF, argsToLocals, Value.category]; done) | rfl
def own_QW (Z : State) (o : Addr) (q1 : Int64) (q3 : Int64) (r : Int32) (h0 : Heap) (n0 : Nat) (v_ : Option Value) (h : Heap) (L_ : List Loc) : Prop := v_ = some (.int r) ∧ Fr n0 L_ ∧ h = h0
abbrev own_RW : Room := { frames := 0, cells := 0, slots := 0, locals := 0 }
set_option maxRecDepth 65536 in
set_option maxHeartbeats 40000000 in
theorem own_rmW (l : Launch) (Z : State) (a0 : Array Value) (hw : ∀ d ∈ tables_1, d.before a0 Z = true) (ws : List Jvm.Cond) (o : Addr) (q1 : Int64) (q3 : Int64) (r : Int32) (h0 : Heap) (n0 : Nat) (Z0 : n0 ≤ h0.size) (F : Fld Z h0 o "com/example/powderhorn/powderhorn/dice/Prime" "value" "I" (.int (2147483647 : Int32))) (hq : 0 ≤ q1.toInt) (he : 0 ≤ q3.toInt) (hr : r.toInt = ((own_pw q1 q3 : Nat) : Int)) :
    MetFree l (⟨"com/example/powderhorn/powderhorn/dice/Prime", "power", "(JJ)I"⟩ : MethodName) (head1 (Jvm.Cond.code (⟨"com/example/powderhorn/powderhorn/dice/Prime", "power", "(JJ)I"⟩ : MethodName) prog_13_method_8_code 11 (some .int) :: ws) own_RW) (fun a U => a = #[(.ref o), (.long q1), (.long q3)] ∧ Z.Warmed39 U.vm ∧ U.heap = h0) (fun _ _ _ _ _ => True) (fun _ U oc_ U' => ∃ v_ L_, oc_ = .returned v_ ∧ own_QW Z o q1 q3 r h0 n0 v_ U'.heap L_ ∧ FrameEnd U oc_ U' L_ own_RW.cells own_RW.slots) := by
  refine MetFree.of_bodySF (plainFor_of_name own_pn_com_example_powderhorn_powderhorn_dice_Prime) hisR ?_
  intro p e s m args below meth c s₁ Bd hml0 hP hK
  obtain ⟨rfl, hZ, hh⟩ := hP
  have hx := Bd.exec
  have hby := Bd.bytes
  have hml : c.maxLocals = 11 := hml0
  have hown : s.vm.findClass "com/example/powderhorn/powderhorn/dice/Prime" = some m.cls := findClass_of_methodNamed Bd.named
  have hnm := (name_of_methodNamed Bd.named Bd.method).1
  have X0 : Stand p l e own_RW s m #[(.ref o), (.long q1), (.long q3)] below meth c s₁ [] 0 0 := Stand.of_body Bd
  have e0 : s₁.heap = h0 := by rw [← hh, Bd.state]; rfl
  have N0 := Fr.nil n0
  refine own_in (fun _ k => castTop (own_efW m o q1 q3) k) ?_
  intro RR hRR
  show own_Go p.tables e below RR (s₁.setTop (mkF m 0 #[.val (.ref o), .val (.long q1), .second, .val (.long q3), .second, .unset, .unset, .unset, .unset, .unset, .unset] []))
  refine own_st (fun _ k => XS.lconst X0.here hx rfl (hb hby own_dprog_13_method_8_code_0) (XS.lstore X0.here hx rfl (hb hby own_dprog_13_method_8_code_1) rfl (l' := #[.val (.ref o), .val (.long q1), .second, .val (.long q3), .second, .val (.long (1 : Int64)), .second, .unset, .unset, .unset, .unset]) rfl (XS.lloadN X0.here hx rfl (hb hby own_dprog_13_method_8_code_3) rfl (XS.aloadN X0.here hx rfl (hb hby own_dprog_13_method_8_code_4) rfl rfl k)))) ?_
  show own_Go p.tables e below RR (s₁.setTop (mkF m 5 #[.val (.ref o), .val (.long q1), .second, .val (.long q3), .second, .val (.long (1 : Int64)), .second, .unset, .unset, .unset, .unset] [(.ref o), (.long q1)]))
  obtain ⟨T1, X1, e1, st1⟩ := getF X0 hx hZ hown (host := "") (Or.inl (hw _ (List.mem_of_getElem? (i := 11) rfl))) Via.refl e0 F (g := (mkF m 5 #[.val (.ref o), .val (.long q1), .second, .val (.long q3), .second, .val (.long (1 : Int64)), .second, .unset, .unset, .unset, .unset] [(.ref o), (.long q1)])) rfl rfl (hb hby own_dprog_13_method_8_code_5)
  refine own_st st1 ?_
  show own_Go p.tables e below RR (T1.setTop (mkF m 8 #[.val (.ref o), .val (.long q1), .second, .val (.long q3), .second, .val (.long (1 : Int64)), .second, .unset, .unset, .unset, .unset] [(.int (2147483647 : Int32)), (.long q1)]))
  refine own_st (fun _ k => XS.i2l X1.here hx rfl (hb hby own_dprog_13_method_8_code_8) rfl k) ?_
  show own_Go p.tables e below RR (T1.setTop (mkF m 9 #[.val (.ref o), .val (.long q1), .second, .val (.long q3), .second, .val (.long (1 : Int64)), .second, .unset, .unset, .unset, .unset] [(.long (2147483647 : Int64)), (.long q1)]))
  refine own_st (fun _ k => XS.lrem X1.here hx rfl (hb hby own_dprog_13_method_8_code_9) rfl (by decide) k) ?_
  show own_Go p.tables e below RR (T1.setTop (mkF m 10 #[.val (.ref o), .val (.long q1), .second, .val (.long q3), .second, .val (.long (1 : Int64)), .second, .unset, .unset, .unset, .unset] [(.long (q1 - (q1 / (2147483647 : Int64)) * (2147483647 : Int64)))]))
  rw [lrem_mod q1 (2147483647 : Int64)]
  show own_Go p.tables e below RR (T1.setTop (mkF m 10 #[.val (.ref o), .val (.long q1), .second, .val (.long q3), .second, .val (.long (1 : Int64)), .second, .unset, .unset, .unset, .unset] [(.long (q1 % (2147483647 : Int64)))]))
  generalize gv2 : (q1 % (2147483647 : Int64)) = v2
  show own_Go p.tables e below RR (T1.setTop (mkF m 10 #[.val (.ref o), .val (.long q1), .second, .val (.long q3), .second, .val (.long (1 : Int64)), .second, .unset, .unset, .unset, .unset] [(.long v2)]))
  refine own_st (fun _ k => XS.lstore X1.here hx rfl (hb hby own_dprog_13_method_8_code_10) rfl (l' := #[.val (.ref o), .val (.long q1), .second, .val (.long q3), .second, .val (.long (1 : Int64)), .second, .val (.long v2), .second, .unset, .unset]) rfl (XS.lloadN X1.here hx rfl (hb hby own_dprog_13_method_8_code_12) rfl (XS.lstore X1.here hx rfl (hb hby own_dprog_13_method_8_code_13) rfl (l' := #[.val (.ref o), .val (.long q1), .second, .val (.long q3), .second, .val (.long (1 : Int64)), .second, .val (.long v2), .second, .val (.long q3), .second]) rfl k))) ?_
  show own_Go p.tables e below RR (T1.setTop (mkF m 15 #[.val (.ref o), .val (.long q1), .second, .val (.long q3), .second, .val (.long (1 : Int64)), .second, .val (.long v2), .second, .val (.long q3), .second] []))
  have loop3 : ∀ (k : Nat) (T3 : State) (lo3 : List Loc) (jr : Int64) (jb : Int64) (je : Int64) (R : Nat) (B : Nat) (E : Nat) (X3 : Stand p l e own_RW s m #[(.ref o), (.long q1), (.long q3)] below meth c T3 lo3 0 0) (e3 : T3.heap = h0) (N3 : Fr n0 lo3) (hR : jr.toInt = (R : Int)) (hR' : R < 2147483647) (hB : jb.toInt = (B : Int)) (hB' : B < 2147483647) (hE : je.toInt = (E : Int)) (h4 : (R * B ^ E) % 2147483647 = own_pw q1 q3) (_ : E = k), own_Go p.tables e below RR (T3.setTop (mkF m 15 #[.val (.ref o), .val (.long q1), .second, .val (.long q3), .second, .val (.long jr), .second, .val (.long jb), .second, .val (.long je), .second] [])) := by
    intro k
    induction k using Nat.strongRecOn with
    | _ k ih =>
      intro T3 lo3 jr jb je R B E X3 e3 N3 hR hR' hB hB' hE h4 hk
      show own_Go p.tables e below RR (T3.setTop (mkF m 15 #[.val (.ref o), .val (.long q1), .second, .val (.long q3), .second, .val (.long jr), .second, .val (.long jb), .second, .val (.long je), .second] []))
      refine own_st (fun _ k => XS.lload X3.here hx rfl (hb hby own_dprog_13_method_8_code_15) rfl (XS.lconst X3.here hx rfl (hb hby own_dprog_13_method_8_code_17) (XS.lcmp X3.here hx rfl (hb hby own_dprog_13_method_8_code_18) rfl k))) ?_
      show own_Go p.tables e below RR (T3.setTop (mkF m 19 #[.val (.ref o), .val (.long q1), .second, .val (.long q3), .second, .val (.long jr), .second, .val (.long jb), .second, .val (.long je), .second] [(.int (lcmpW je (0 : Int64)))]))
      by_cases hc19_4 : (0 : Int64) < je
      · refine own_st (fun _ k => XS.ifNo X3.here hx rfl (hb hby own_dprog_13_method_8_code_19) rfl ((if0 _ _).trans (tlt ((lw_gt _ _).mpr hc19_4)).2.2.2) (XS.lload X3.here hx rfl (hb hby own_dprog_13_method_8_code_22) rfl (XS.lconst X3.here hx rfl (hb hby own_dprog_13_method_8_code_24) (XS.land X3.here hx rfl (hb hby own_dprog_13_method_8_code_25) rfl (XS.lconst X3.here hx rfl (hb hby own_dprog_13_method_8_code_26) (XS.lcmp X3.here hx rfl (hb hby own_dprog_13_method_8_code_27) rfl k)))))) ?_
        show own_Go p.tables e below RR (T3.setTop (mkF m 28 #[.val (.ref o), .val (.long q1), .second, .val (.long q3), .second, .val (.long jr), .second, .val (.long jb), .second, .val (.long je), .second] [(.int (lcmpW (je &&& (1 : Int64)) (0 : Int64)))]))
        by_cases hc28_5 : (je &&& (1 : Int64)) = (0 : Int64)
        · refine own_st (fun _ k => XS.ifYes X3.here hx rfl (pc0 := 28) (pc' := 44) rfl (hb hby own_dprog_13_method_8_code_28) rfl ((if0 _ _).trans (teq ((lw_eq _ _).mpr hc28_5)).1) (by decide) (by decide) (XS.lload X3.here hx rfl (hb hby own_dprog_13_method_8_code_44) rfl (XS.lload X3.here hx rfl (hb hby own_dprog_13_method_8_code_46) rfl (XS.lmul X3.here hx rfl (hb hby own_dprog_13_method_8_code_48) rfl (XS.aloadN X3.here hx rfl (hb hby own_dprog_13_method_8_code_49) rfl rfl k))))) ?_
          show own_Go p.tables e below RR (T3.setTop (mkF m 50 #[.val (.ref o), .val (.long q1), .second, .val (.long q3), .second, .val (.long jr), .second, .val (.long jb), .second, .val (.long je), .second] [(.ref o), (.long (jb * jb))]))
          obtain ⟨T6, X6, e6, st6⟩ := getF X3 hx hZ hown (host := "") (Or.inl (hw _ (List.mem_of_getElem? (i := 11) rfl))) Via.refl e3 F (g := (mkF m 50 #[.val (.ref o), .val (.long q1), .second, .val (.long q3), .second, .val (.long jr), .second, .val (.long jb), .second, .val (.long je), .second] [(.ref o), (.long (jb * jb))])) rfl rfl (hb hby own_dprog_13_method_8_code_50)
          refine own_st st6 ?_
          show own_Go p.tables e below RR (T6.setTop (mkF m 53 #[.val (.ref o), .val (.long q1), .second, .val (.long q3), .second, .val (.long jr), .second, .val (.long jb), .second, .val (.long je), .second] [(.int (2147483647 : Int32)), (.long (jb * jb))]))
          refine own_st (fun _ k => XS.i2l X6.here hx rfl (hb hby own_dprog_13_method_8_code_53) rfl k) ?_
          show own_Go p.tables e below RR (T6.setTop (mkF m 54 #[.val (.ref o), .val (.long q1), .second, .val (.long q3), .second, .val (.long jr), .second, .val (.long jb), .second, .val (.long je), .second] [(.long (2147483647 : Int64)), (.long (jb * jb))]))
          refine own_st (fun _ k => XS.lrem X6.here hx rfl (hb hby own_dprog_13_method_8_code_54) rfl (by decide) k) ?_
          show own_Go p.tables e below RR (T6.setTop (mkF m 55 #[.val (.ref o), .val (.long q1), .second, .val (.long q3), .second, .val (.long jr), .second, .val (.long jb), .second, .val (.long je), .second] [(.long ((jb * jb) - ((jb * jb) / (2147483647 : Int64)) * (2147483647 : Int64)))]))
          rw [lrem_mod (jb * jb) (2147483647 : Int64)]
          show own_Go p.tables e below RR (T6.setTop (mkF m 55 #[.val (.ref o), .val (.long q1), .second, .val (.long q3), .second, .val (.long jr), .second, .val (.long jb), .second, .val (.long je), .second] [(.long ((jb * jb) % (2147483647 : Int64)))]))
          refine own_st (fun _ k => XS.lstore X6.here hx rfl (hb hby own_dprog_13_method_8_code_55) rfl (l' := #[.val (.ref o), .val (.long q1), .second, .val (.long q3), .second, .val (.long jr), .second, .val (.long ((jb * jb) % (2147483647 : Int64))), .second, .val (.long je), .second]) rfl (XS.lload X6.here hx rfl (hb hby own_dprog_13_method_8_code_57) rfl (XS.iconst X6.here hx rfl (hb hby own_dprog_13_method_8_code_59) (XS.lshr X6.here hx rfl (hb hby own_dprog_13_method_8_code_60) rfl (XS.lstore X6.here hx rfl (hb hby own_dprog_13_method_8_code_61) rfl (l' := #[.val (.ref o), .val (.long q1), .second, .val (.long q3), .second, .val (.long jr), .second, .val (.long ((jb * jb) % (2147483647 : Int64))), .second, .val (.long (je >>> ((1 : Int32) &&& 0x3f).toInt64)), .second]) rfl (XS.goto X6.here hx rfl (pc0 := 63) (pc' := 15) rfl (hb hby own_dprog_13_method_8_code_63) (by decide) (by decide) k)))))) ?_
          show own_Go p.tables e below RR (T6.setTop (mkF m 15 #[.val (.ref o), .val (.long q1), .second, .val (.long q3), .second, .val (.long jr), .second, .val (.long ((jb * jb) % (2147483647 : Int64))), .second, .val (.long (je >>> ((1 : Int32) &&& 0x3f).toInt64)), .second] []))
          exact ih _ (hk ▸ (own_e1 hE hc19_4 hc28_5).2.2) T6 _ jr ((jb * jb) % (2147483647 : Int64)) (je >>> ((1 : Int32) &&& 0x3f).toInt64) R (B * B % 2147483647) (E / 2) X6 e6 N3 hR hR' (own_mm hB hB' hB hB') (Nat.mod_lt _ (by decide)) (own_e1 hE hc19_4 hc28_5).1 ((own_even R B (E / 2)).trans (by rw [(own_e1 hE hc19_4 hc28_5).2.1]; exact h4)) rfl
        · refine own_st (fun _ k => XS.ifNo X3.here hx rfl (hb hby own_dprog_13_method_8_code_28) rfl ((if0 _ _).trans (feq (fun q => hc28_5 ((lw_eq _ _).mp q))).1) (XS.lload X3.here hx rfl (hb hby own_dprog_13_method_8_code_31) rfl (XS.lload X3.here hx rfl (hb hby own_dprog_13_method_8_code_33) rfl (XS.lmul X3.here hx rfl (hb hby own_dprog_13_method_8_code_35) rfl (XS.aloadN X3.here hx rfl (hb hby own_dprog_13_method_8_code_36) rfl rfl k))))) ?_
          show own_Go p.tables e below RR (T3.setTop (mkF m 37 #[.val (.ref o), .val (.long q1), .second, .val (.long q3), .second, .val (.long jr), .second, .val (.long jb), .second, .val (.long je), .second] [(.ref o), (.long (jr * jb))]))
          obtain ⟨T7, X7, e7, st7⟩ := getF X3 hx hZ hown (host := "") (Or.inl (hw _ (List.mem_of_getElem? (i := 11) rfl))) Via.refl e3 F (g := (mkF m 37 #[.val (.ref o), .val (.long q1), .second, .val (.long q3), .second, .val (.long jr), .second, .val (.long jb), .second, .val (.long je), .second] [(.ref o), (.long (jr * jb))])) rfl rfl (hb hby own_dprog_13_method_8_code_37)
          refine own_st st7 ?_
          show own_Go p.tables e below RR (T7.setTop (mkF m 40 #[.val (.ref o), .val (.long q1), .second, .val (.long q3), .second, .val (.long jr), .second, .val (.long jb), .second, .val (.long je), .second] [(.int (2147483647 : Int32)), (.long (jr * jb))]))
          refine own_st (fun _ k => XS.i2l X7.here hx rfl (hb hby own_dprog_13_method_8_code_40) rfl k) ?_
          show own_Go p.tables e below RR (T7.setTop (mkF m 41 #[.val (.ref o), .val (.long q1), .second, .val (.long q3), .second, .val (.long jr), .second, .val (.long jb), .second, .val (.long je), .second] [(.long (2147483647 : Int64)), (.long (jr * jb))]))
          refine own_st (fun _ k => XS.lrem X7.here hx rfl (hb hby own_dprog_13_method_8_code_41) rfl (by decide) k) ?_
          show own_Go p.tables e below RR (T7.setTop (mkF m 42 #[.val (.ref o), .val (.long q1), .second, .val (.long q3), .second, .val (.long jr), .second, .val (.long jb), .second, .val (.long je), .second] [(.long ((jr * jb) - ((jr * jb) / (2147483647 : Int64)) * (2147483647 : Int64)))]))
          rw [lrem_mod (jr * jb) (2147483647 : Int64)]
          show own_Go p.tables e below RR (T7.setTop (mkF m 42 #[.val (.ref o), .val (.long q1), .second, .val (.long q3), .second, .val (.long jr), .second, .val (.long jb), .second, .val (.long je), .second] [(.long ((jr * jb) % (2147483647 : Int64)))]))
          refine own_st (fun _ k => XS.lstore X7.here hx rfl (hb hby own_dprog_13_method_8_code_42) rfl (l' := #[.val (.ref o), .val (.long q1), .second, .val (.long q3), .second, .val (.long ((jr * jb) % (2147483647 : Int64))), .second, .val (.long jb), .second, .val (.long je), .second]) rfl (XS.lload X7.here hx rfl (hb hby own_dprog_13_method_8_code_44) rfl (XS.lload X7.here hx rfl (hb hby own_dprog_13_method_8_code_46) rfl (XS.lmul X7.here hx rfl (hb hby own_dprog_13_method_8_code_48) rfl (XS.aloadN X7.here hx rfl (hb hby own_dprog_13_method_8_code_49) rfl rfl k))))) ?_
          show own_Go p.tables e below RR (T7.setTop (mkF m 50 #[.val (.ref o), .val (.long q1), .second, .val (.long q3), .second, .val (.long ((jr * jb) % (2147483647 : Int64))), .second, .val (.long jb), .second, .val (.long je), .second] [(.ref o), (.long (jb * jb))]))
          obtain ⟨T8, X8, e8, st8⟩ := getF X7 hx hZ hown (host := "") (Or.inl (hw _ (List.mem_of_getElem? (i := 11) rfl))) Via.refl e7 F (g := (mkF m 50 #[.val (.ref o), .val (.long q1), .second, .val (.long q3), .second, .val (.long ((jr * jb) % (2147483647 : Int64))), .second, .val (.long jb), .second, .val (.long je), .second] [(.ref o), (.long (jb * jb))])) rfl rfl (hb hby own_dprog_13_method_8_code_50)
          refine own_st st8 ?_
          show own_Go p.tables e below RR (T8.setTop (mkF m 53 #[.val (.ref o), .val (.long q1), .second, .val (.long q3), .second, .val (.long ((jr * jb) % (2147483647 : Int64))), .second, .val (.long jb), .second, .val (.long je), .second] [(.int (2147483647 : Int32)), (.long (jb * jb))]))
          refine own_st (fun _ k => XS.i2l X8.here hx rfl (hb hby own_dprog_13_method_8_code_53) rfl k) ?_
          show own_Go p.tables e below RR (T8.setTop (mkF m 54 #[.val (.ref o), .val (.long q1), .second, .val (.long q3), .second, .val (.long ((jr * jb) % (2147483647 : Int64))), .second, .val (.long jb), .second, .val (.long je), .second] [(.long (2147483647 : Int64)), (.long (jb * jb))]))
          refine own_st (fun _ k => XS.lrem X8.here hx rfl (hb hby own_dprog_13_method_8_code_54) rfl (by decide) k) ?_
          show own_Go p.tables e below RR (T8.setTop (mkF m 55 #[.val (.ref o), .val (.long q1), .second, .val (.long q3), .second, .val (.long ((jr * jb) % (2147483647 : Int64))), .second, .val (.long jb), .second, .val (.long je), .second] [(.long ((jb * jb) - ((jb * jb) / (2147483647 : Int64)) * (2147483647 : Int64)))]))
          rw [lrem_mod (jb * jb) (2147483647 : Int64)]
          show own_Go p.tables e below RR (T8.setTop (mkF m 55 #[.val (.ref o), .val (.long q1), .second, .val (.long q3), .second, .val (.long ((jr * jb) % (2147483647 : Int64))), .second, .val (.long jb), .second, .val (.long je), .second] [(.long ((jb * jb) % (2147483647 : Int64)))]))
          refine own_st (fun _ k => XS.lstore X8.here hx rfl (hb hby own_dprog_13_method_8_code_55) rfl (l' := #[.val (.ref o), .val (.long q1), .second, .val (.long q3), .second, .val (.long ((jr * jb) % (2147483647 : Int64))), .second, .val (.long ((jb * jb) % (2147483647 : Int64))), .second, .val (.long je), .second]) rfl (XS.lload X8.here hx rfl (hb hby own_dprog_13_method_8_code_57) rfl (XS.iconst X8.here hx rfl (hb hby own_dprog_13_method_8_code_59) (XS.lshr X8.here hx rfl (hb hby own_dprog_13_method_8_code_60) rfl (XS.lstore X8.here hx rfl (hb hby own_dprog_13_method_8_code_61) rfl (l' := #[.val (.ref o), .val (.long q1), .second, .val (.long q3), .second, .val (.long ((jr * jb) % (2147483647 : Int64))), .second, .val (.long ((jb * jb) % (2147483647 : Int64))), .second, .val (.long (je >>> ((1 : Int32) &&& 0x3f).toInt64)), .second]) rfl (XS.goto X8.here hx rfl (pc0 := 63) (pc' := 15) rfl (hb hby own_dprog_13_method_8_code_63) (by decide) (by decide) k)))))) ?_
          show own_Go p.tables e below RR (T8.setTop (mkF m 15 #[.val (.ref o), .val (.long q1), .second, .val (.long q3), .second, .val (.long ((jr * jb) % (2147483647 : Int64))), .second, .val (.long ((jb * jb) % (2147483647 : Int64))), .second, .val (.long (je >>> ((1 : Int32) &&& 0x3f).toInt64)), .second] []))
          exact ih _ (hk ▸ (own_e2 hE hc19_4 hc28_5).2.2) T8 _ ((jr * jb) % (2147483647 : Int64)) ((jb * jb) % (2147483647 : Int64)) (je >>> ((1 : Int32) &&& 0x3f).toInt64) (R * B % 2147483647) (B * B % 2147483647) (E / 2) X8 e8 N3 (own_mm hR hR' hB hB') (Nat.mod_lt _ (by decide)) (own_mm hB hB' hB hB') (Nat.mod_lt _ (by decide)) (own_e2 hE hc19_4 hc28_5).1 ((own_odd R B (E / 2)).trans (by rw [(own_e2 hE hc19_4 hc28_5).2.1]; exact h4)) rfl
      · refine own_st (fun _ k => XS.ifYes X3.here hx rfl (pc0 := 19) (pc' := 66) rfl (hb hby own_dprog_13_method_8_code_19) rfl ((if0 _ _).trans (flt (fun q => hc19_4 ((lw_gt _ _).mp q))).2.2.2) (by decide) (by decide) (XS.lload X3.here hx rfl (hb hby own_dprog_13_method_8_code_66) rfl (XS.l2i X3.here hx rfl (hb hby own_dprog_13_method_8_code_68) rfl k))) ?_
        show own_Go p.tables e below RR (T3.setTop (mkF m 69 #[.val (.ref o), .val (.long q1), .second, .val (.long q3), .second, .val (.long jr), .second, .val (.long jb), .second, .val (.long je), .second] [(.int (jr.toInt32))]))
        obtain ⟨fs, hrt_, hrun, hended, hW, hsame⟩ := X3.leave (v := some (.int (jr.toInt32))) (fun h => by rw [Bd.returns] at h; cases h)
        refine own_fin (retI X3 hx Bd.returns (hb hby own_dprog_13_method_8_code_69) hrt_) (hRR _ ⟨_, hrun, hended, _, _, rfl, ?_, ⟨_, rfl⟩, hW, hsame.mono (by decide) (by decide)⟩)
        show own_QW Z o q1 q3 r h0 n0 _ T3.heap _
        rw [e3]
        exact ⟨own_ri (own_out hR hR' hE h4 hc19_4 hr), N3, rfl⟩
  exact loop3 _ T1 _ (1 : Int64) v2 q3 1 (q1.toInt.toNat % 2147483647) q3.toInt.toNat X1 e1 N0 (by decide) (by decide) (gv2 ▸ own_rem (own_nat hq)) (Nat.mod_lt _ (by decide)) (own_nat he) (own_init q1 q3) rfl
theorem own_dprog_13_method_1_code_0 : decode prog_13_method_1_code 0 = .ok (.aload_n 0, 1) := by decide +kernel
theorem own_dprog_13_method_1_code_1 : decode prog_13_method_1_code 1 = .ok (.invokespecial 1, 3) := by decide +kernel
theorem own_dprog_13_method_1_code_4 : decode prog_13_method_1_code 4 = .ok (.aload_n 0, 1) := by decide +kernel
theorem own_dprog_13_method_1_code_5 : decode prog_13_method_1_code 5 = .ok (.iload_n 1, 1) := by decide +kernel
theorem own_dprog_13_method_1_code_6 : decode prog_13_method_1_code 6 = .ok (.putfield 7, 3) := by decide +kernel
theorem own_dprog_13_method_1_code_9 : decode prog_13_method_1_code 9 = .ok (.aload_n 0, 1) := by decide +kernel
theorem own_dprog_13_method_1_code_10 : decode prog_13_method_1_code 10 = .ok (.iload_n 2, 1) := by decide +kernel
theorem own_dprog_13_method_1_code_11 : decode prog_13_method_1_code 11 = .ok (.putfield 13, 3) := by decide +kernel
theorem own_dprog_13_method_1_code_14 : decode prog_13_method_1_code 14 = .ok (.iconst 2, 1) := by decide +kernel
theorem own_dprog_13_method_1_code_15 : decode prog_13_method_1_code 15 = .ok (.istore_n 3, 1) := by decide +kernel
theorem own_dprog_13_method_1_code_16 : decode prog_13_method_1_code 16 = .ok (.aload_n 0, 1) := by decide +kernel
theorem own_dprog_13_method_1_code_17 : decode prog_13_method_1_code 17 = .ok (.iload_n 3, 1) := by decide +kernel
theorem own_dprog_13_method_1_code_18 : decode prog_13_method_1_code 18 = .ok (.i2l, 1) := by decide +kernel
theorem own_dprog_13_method_1_code_19 : decode prog_13_method_1_code 19 = .ok (.iload_n 1, 1) := by decide +kernel
theorem own_dprog_13_method_1_code_20 : decode prog_13_method_1_code 20 = .ok (.iconst 1, 1) := by decide +kernel
theorem own_dprog_13_method_1_code_21 : decode prog_13_method_1_code 21 = .ok (.isub, 1) := by decide +kernel
theorem own_dprog_13_method_1_code_22 : decode prog_13_method_1_code 22 = .ok (.iconst 2, 1) := by decide +kernel
theorem own_dprog_13_method_1_code_23 : decode prog_13_method_1_code 23 = .ok (.idiv, 1) := by decide +kernel
theorem own_dprog_13_method_1_code_24 : decode prog_13_method_1_code 24 = .ok (.i2l, 1) := by decide +kernel
theorem own_pd__JJ_I : parseMethodDescriptor "(JJ)I" = some ⟨[.long, .long], some .int⟩ := by decide +kernel
theorem own_dprog_13_method_1_code_25 : decode prog_13_method_1_code 25 = .ok (.invokevirtual 16, 3) := by decide +kernel
theorem own_dprog_13_method_1_code_28 : decode prog_13_method_1_code 28 = .ok (.iload_n 1, 1) := by decide +kernel
theorem own_dprog_13_method_1_code_29 : decode prog_13_method_1_code 29 = .ok (.iconst 1, 1) := by decide +kernel
theorem own_dprog_13_method_1_code_30 : decode prog_13_method_1_code 30 = .ok (.isub, 1) := by decide +kernel
theorem own_dprog_13_method_1_code_31 : decode prog_13_method_1_code 31 = .ok (.if_icmp .eq 9, 3) := by decide +kernel
theorem own_dprog_13_method_1_code_34 : decode prog_13_method_1_code 34 = .ok (.iinc 3 1, 3) := by decide +kernel
theorem own_dprog_13_method_1_code_37 : decode prog_13_method_1_code 37 = .ok (.goto (-21), 3) := by decide +kernel
theorem own_dprog_13_method_1_code_40 : decode prog_13_method_1_code 40 = .ok (.aload_n 0, 1) := by decide +kernel
theorem own_dprog_13_method_1_code_41 : decode prog_13_method_1_code 41 = .ok (.aload_n 0, 1) := by decide +kernel
theorem own_dprog_13_method_1_code_42 : decode prog_13_method_1_code 42 = .ok (.iload_n 3, 1) := by decide +kernel
theorem own_dprog_13_method_1_code_43 : decode prog_13_method_1_code 43 = .ok (.i2l, 1) := by decide +kernel
theorem own_dprog_13_method_1_code_44 : decode prog_13_method_1_code 44 = .ok (.iload_n 1, 1) := by decide +kernel
theorem own_dprog_13_method_1_code_45 : decode prog_13_method_1_code 45 = .ok (.iconst 1, 1) := by decide +kernel
theorem own_dprog_13_method_1_code_46 : decode prog_13_method_1_code 46 = .ok (.isub, 1) := by decide +kernel
theorem own_dprog_13_method_1_code_47 : decode prog_13_method_1_code 47 = .ok (.iload_n 2, 1) := by decide +kernel
theorem own_dprog_13_method_1_code_48 : decode prog_13_method_1_code 48 = .ok (.idiv, 1) := by decide +kernel
theorem own_dprog_13_method_1_code_49 : decode prog_13_method_1_code 49 = .ok (.i2l, 1) := by decide +kernel
theorem own_dprog_13_method_1_code_50 : decode prog_13_method_1_code 50 = .ok (.invokevirtual 16, 3) := by decide +kernel
theorem own_dprog_13_method_1_code_53 : decode prog_13_method_1_code 53 = .ok (.putfield 20, 3) := by decide +kernel
theorem own_dprog_13_method_1_code_56 : decode prog_13_method_1_code 56 = .ok (.return_, 1) := by decide +kernel
theorem own_efI (m : MethodId) (o : Addr) : entryFrame m #[(.ref o), (.int (2147483647 : Int32)), (.int (2 : Int32))] 4 = mkF m 0 #[.val (.ref o), .val (.int (2147483647 : Int32)), .val (.int (2 : Int32)), .unset] [] := by first | (simp [entryFrame, mkF, argsToLocals, Value.category]; done) | rfl
def own_QI (Z : State) (o : Addr) (h0 : Heap) (n0 : Nat) (v_ : Option Value) (h : Heap) (L_ : List Loc) : Prop := v_ = none ∧ Fr n0 L_ ∧ Keep h0 h [o] ∧ Exa Z h o "com/example/powderhorn/powderhorn/dice/Prime" ∧ Fld Z h o "com/example/powderhorn/powderhorn/dice/Prime" "value" "I" (.int (2147483647 : Int32))
abbrev own_RI : Room := { frames := 1, cells := 0, slots := 0, locals := 23 }
set_option maxRecDepth 65536 in
set_option maxHeartbeats 40000000 in
theorem own_rmI (l : Launch) (Z : State) (a0 : Array Value) (hw : ∀ d ∈ tables_1, d.before a0 Z = true) (ws : List Jvm.Cond) (o : Addr) (h0 : Heap) (n0 : Nat) (Z0 : n0 ≤ h0.size) (g_o : n0 ≤ o) (E : Exa Z h0 o "com/example/powderhorn/powderhorn/dice/Prime") (F0 : Fld Z h0 o "com/example/powderhorn/powderhorn/dice/Prime" "value" "I" (.int (0 : Int32))) (F1 : Fld Z h0 o "com/example/powderhorn/powderhorn/dice/Prime" "longest" "I" (.int (0 : Int32))) (F2 : Fld Z h0 o "com/example/powderhorn/powderhorn/dice/Prime" "root" "I" (.int (0 : Int32))) :
    MetFree l (⟨"com/example/powderhorn/powderhorn/dice/Prime", "<init>", "(II)V"⟩ : MethodName) (head1 (Jvm.Cond.code (⟨"com/example/powderhorn/powderhorn/dice/Prime", "<init>", "(II)V"⟩ : MethodName) prog_13_method_1_code 4 none :: ws) own_RI) (fun a U => a = #[(.ref o), (.int (2147483647 : Int32)), (.int (2 : Int32))] ∧ Z.Warmed39 U.vm ∧ U.heap = h0) (fun _ _ _ _ _ => True) (fun _ U oc_ U' => ∃ v_ L_, oc_ = .returned v_ ∧ own_QI Z o h0 n0 v_ U'.heap L_ ∧ FrameEnd U oc_ U' L_ own_RI.cells own_RI.slots) := by
  refine MetFree.of_bodySF (plainFor_of_name own_pn_com_example_powderhorn_powderhorn_dice_Prime) hisR ?_
  intro p e s m args below meth c s₁ Bd hml0 hP hK
  obtain ⟨rfl, hZ, hh⟩ := hP
  have hx := Bd.exec
  have hby := Bd.bytes
  have hml : c.maxLocals = 4 := hml0
  have hown : s.vm.findClass "com/example/powderhorn/powderhorn/dice/Prime" = some m.cls := findClass_of_methodNamed Bd.named
  have hnm := (name_of_methodNamed Bd.named Bd.method).1
  have X0 : Stand p l e own_RI s m #[(.ref o), (.int (2147483647 : Int32)), (.int (2 : Int32))] below meth c s₁ [] 0 0 := Stand.of_body Bd
  have e0 : s₁.heap = h0 := by rw [← hh, Bd.state]; rfl
  have N0 := Fr.nil n0
  refine own_in (fun _ k => castTop (own_efI m o) k) ?_
  intro RR hRR
  show own_Go p.tables e below RR (s₁.setTop (mkF m 0 #[.val (.ref o), .val (.int (2147483647 : Int32)), .val (.int (2 : Int32)), .unset] []))
  refine own_st (fun _ k => XS.aloadN X0.here hx rfl (hb hby own_dprog_13_method_1_code_0) rfl rfl k) ?_
  show own_Go p.tables e below RR (s₁.setTop (mkF m 1 #[.val (.ref o), .val (.int (2147483647 : Int32)), .val (.int (2 : Int32)), .unset] [(.ref o)]))
  obtain ⟨T1, X1, e1, st1⟩ := initO X0 hx hZ hown (hw _ (List.mem_of_getElem? (i := 8) rfl)) (hw _ (List.mem_of_getElem? (i := 9) rfl)) (hw _ (List.mem_of_getElem? (i := 10) rfl)) e0 (g := (mkF m 1 #[.val (.ref o), .val (.int (2147483647 : Int32)), .val (.int (2 : Int32)), .unset] [(.ref o)])) rfl (by rw [hml]; rfl) rfl (hb hby own_dprog_13_method_1_code_1) (by decide) (W := 0) (by show 2 * 0 + _ ≤ _; exact Nat.le_of_eq rfl) (by decide)
  refine own_st st1 ?_
  show own_Go p.tables e below RR (T1.setTop (mkF m 4 #[.val (.ref o), .val (.int (2147483647 : Int32)), .val (.int (2 : Int32)), .unset] []))
  refine own_st (fun _ k => XS.aloadN X1.here hx rfl (hb hby own_dprog_13_method_1_code_4) rfl rfl (XS.iloadN X1.here hx rfl (hb hby own_dprog_13_method_1_code_5) rfl k)) ?_
  show own_Go p.tables e below RR (T1.setTop (mkF m 6 #[.val (.ref o), .val (.int (2147483647 : Int32)), .val (.int (2 : Int32)), .unset] [(.int (2147483647 : Int32)), (.ref o)]))
  obtain ⟨T2, h2, X2, e2, W2, st2⟩ := putF X1 hx hZ hown (host := "") (Or.inl (hw _ (List.mem_of_getElem? (i := 11) rfl))) Via.refl e1 F0 E (Or.inr ⟨(hw _ (List.mem_of_getElem? (i := 12) rfl)), rfl, hnm⟩) (hw _ (List.mem_of_getElem? (i := 2) rfl)) (ty := .int) (by decide) rfl rfl (g := (mkF m 6 #[.val (.ref o), .val (.int (2147483647 : Int32)), .val (.int (2 : Int32)), .unset] [(.int (2147483647 : Int32)), (.ref o)])) rfl rfl (hb hby own_dprog_13_method_1_code_6)
  have Fw2 := F0.same W2
  have N2 := Fr.snoc X2 N0 g_o
  refine own_st st2 ?_
  have z3 : n0 ≤ h2.size := Nat.le_trans Z0 (Keep.of_wr W2).1
  have kk4 : Keep h0 h2 [o] := (Keep.refl h0 [o]).wr W2 (Or.inl (List.mem_of_getElem? (i := 0) rfl))
  show own_Go p.tables e below RR (T2.setTop (mkF m 9 #[.val (.ref o), .val (.int (2147483647 : Int32)), .val (.int (2 : Int32)), .unset] []))
  refine own_st (fun _ k => XS.aloadN X2.here hx rfl (hb hby own_dprog_13_method_1_code_9) rfl rfl (XS.iloadN X2.here hx rfl (hb hby own_dprog_13_method_1_code_10) rfl k)) ?_
  show own_Go p.tables e below RR (T2.setTop (mkF m 11 #[.val (.ref o), .val (.int (2147483647 : Int32)), .val (.int (2 : Int32)), .unset] [(.int (2 : Int32)), (.ref o)]))
  have f5 := (F1.other W2 (Or.inr (slot_ne (Or.inr (hw _ (List.mem_of_getElem? (i := 14) rfl))) (Or.inr (hw _ (List.mem_of_getElem? (i := 12) rfl))) (by decide) (t := .int) (t' := .int) (by decide) (by decide))))
  have f6 := (E.wr W2)
  obtain ⟨T7, h7, X7, e7, W7, st7⟩ := putF X2 hx hZ hown (host := "") (Or.inl (hw _ (List.mem_of_getElem? (i := 13) rfl))) Via.refl e2 f5 f6 (Or.inr ⟨(hw _ (List.mem_of_getElem? (i := 14) rfl)), rfl, hnm⟩) (hw _ (List.mem_of_getElem? (i := 2) rfl)) (ty := .int) (by decide) rfl rfl (g := (mkF m 11 #[.val (.ref o), .val (.int (2147483647 : Int32)), .val (.int (2 : Int32)), .unset] [(.int (2 : Int32)), (.ref o)])) rfl rfl (hb hby own_dprog_13_method_1_code_11)
  have Fw7 := f5.same W7
  have N7 := Fr.snoc X7 N2 g_o
  refine own_st st7 ?_
  have z8 : n0 ≤ h7.size := Nat.le_trans z3 (Keep.of_wr W7).1
  have kk9 : Keep h0 h7 [o] := kk4.wr W7 (Or.inl (List.mem_of_getElem? (i := 0) rfl))
  show own_Go p.tables e below RR (T7.setTop (mkF m 14 #[.val (.ref o), .val (.int (2147483647 : Int32)), .val (.int (2 : Int32)), .unset] []))
  refine own_st (fun _ k => XS.iconst X7.here hx rfl (hb hby own_dprog_13_method_1_code_14) (XS.istoreN X7.here hx rfl (hb hby own_dprog_13_method_1_code_15) rfl (l' := #[.val (.ref o), .val (.int (2147483647 : Int32)), .val (.int (2 : Int32)), .val (.int (2 : Int32))]) rfl (XS.aloadN X7.here hx rfl (hb hby own_dprog_13_method_1_code_16) rfl rfl (XS.iloadN X7.here hx rfl (hb hby own_dprog_13_method_1_code_17) rfl (XS.i2l X7.here hx rfl (hb hby own_dprog_13_method_1_code_18) rfl (XS.iloadN X7.here hx rfl (hb hby own_dprog_13_method_1_code_19) rfl (XS.iconst X7.here hx rfl (hb hby own_dprog_13_method_1_code_20) (XS.isub X7.here hx rfl (hb hby own_dprog_13_method_1_code_21) rfl k)))))))) ?_
  show own_Go p.tables e below RR (T7.setTop (mkF m 22 #[.val (.ref o), .val (.int (2147483647 : Int32)), .val (.int (2 : Int32)), .val (.int (2 : Int32))] [(.int (2147483646 : Int32)), (.long (2 : Int64)), (.ref o)]))
  refine own_st (fun _ k => XS.iconst X7.here hx rfl (hb hby own_dprog_13_method_1_code_22) k) ?_
  show own_Go p.tables e below RR (T7.setTop (mkF m 23 #[.val (.ref o), .val (.int (2147483647 : Int32)), .val (.int (2 : Int32)), .val (.int (2 : Int32))] [(.int (2 : Int32)), (.int (2147483646 : Int32)), (.long (2 : Int64)), (.ref o)]))
  refine own_st (fun _ k => XS.idiv X7.here hx rfl (hb hby own_dprog_13_method_1_code_23) rfl (by decide) k) ?_
  show own_Go p.tables e below RR (T7.setTop (mkF m 24 #[.val (.ref o), .val (.int (2147483647 : Int32)), .val (.int (2 : Int32)), .val (.int (2 : Int32))] [(.int ((2147483646 : Int32) / (2 : Int32))), (.long (2 : Int64)), (.ref o)]))
  rw [show ((2147483646 : Int32) / (2 : Int32)) = (1073741823 : Int32) from by decide]
  show own_Go p.tables e below RR (T7.setTop (mkF m 24 #[.val (.ref o), .val (.int (2147483647 : Int32)), .val (.int (2 : Int32)), .val (.int (2 : Int32))] [(.int (1073741823 : Int32)), (.long (2 : Int64)), (.ref o)]))
  refine own_st (fun _ k => XS.i2l X7.here hx rfl (hb hby own_dprog_13_method_1_code_24) rfl k) ?_
  show own_Go p.tables e below RR (T7.setTop (mkF m 25 #[.val (.ref o), .val (.int (2147483647 : Int32)), .val (.int (2 : Int32)), .val (.int (2 : Int32))] [(.long (1073741823 : Int64)), (.long (2 : Int64)), (.ref o)]))
  have f10 := (Fw2.other W7 (Or.inr (slot_ne (Or.inr (hw _ (List.mem_of_getElem? (i := 12) rfl))) (Or.inr (hw _ (List.mem_of_getElem? (i := 14) rfl))) (by decide) (t := .int) (t' := .int) (by decide) (by decide))))
  have f12 := (f6.wr W7)
  obtain ⟨cq11, kq11, q11a, q11b, q11c⟩ := isOf hZ e7 f12
  obtain ⟨_, _, ⟨T11, L11, k11, n11⟩, -, X11, ⟨Lc11, hQ11, l11, y11, z11⟩, st11⟩ := X7.virtualBack hx (y := (⟨"com/example/powderhorn/powderhorn/dice/Prime", "power", "(JJ)I"⟩ : MethodName)) (z := (⟨"com/example/powderhorn/powderhorn/dice/Prime", "power", "(JJ)I"⟩ : MethodName)) hown (mvT hZ (hw _ (List.mem_of_getElem? (i := 15) rfl))) (mvT hZ (hw _ (List.mem_of_getElem? (i := 16) rfl))) (notFace_of_selects (args := #[]) (mvT hZ (hw _ (List.mem_of_getElem? (i := 18) rfl)))) (mvT hZ (hw _ (List.mem_of_getElem? (i := 18) rfl))) (mvT hZ (hw _ (List.mem_of_getElem? (i := 17) rfl))) (by decide) (backOf (W := 0) (own_rmW l Z a0 hw [] o (2 : Int64) (1073741823 : Int64) (1 : Int32) h7 n0 z8 f10 (by decide) (by decide) (by rw [own_p2]; decide)) hZ (hw _ (List.mem_of_getElem? (i := 19) rfl)) (hw _ (List.mem_of_getElem? (i := 3) rfl)) (by decide) (by decide)) q11a q11c (g := (mkF m 25 #[.val (.ref o), .val (.int (2147483647 : Int32)), .val (.int (2 : Int32)), .val (.int (2 : Int32))] [(.long (1073741823 : Int64)), (.long (2 : Int64)), (.ref o)])) rfl (by rw [hml]; rfl) (Steps.refl _) (argsL := [(.long (2 : Int64)), (.long (1073741823 : Int64))]) (rest := []) (lenOf own_pd__JJ_I rfl) rfl (by show 2 * 0 + _ ≤ _; exact Nat.le_of_eq rfl) (hb hby own_dprog_13_method_1_code_25) (fun _ _ => ⟨rfl, e7, (by decide : 0 + 0 ≤ _), (by decide : 0 + 0 ≤ _)⟩)
  dsimp only [Pt.U, Pt.locs, Pt.cells, Pt.slots] at X11 l11 y11 z11 st11 hQ11
  subst l11 y11 z11
  obtain ⟨rfl, Nq11, eq11⟩ := hQ11
  have N11 := Fr.app N7 Nq11
  refine own_st (fun _ k => st11.trans k) ?_
  show own_Go p.tables e below RR (T11.setTop (mkF m 28 #[.val (.ref o), .val (.int (2147483647 : Int32)), .val (.int (2 : Int32)), .val (.int (2 : Int32))] [(.int (1 : Int32))]))
  refine own_st (fun _ k => XS.iloadN X11.here hx rfl (hb hby own_dprog_13_method_1_code_28) rfl (XS.iconst X11.here hx rfl (hb hby own_dprog_13_method_1_code_29) (XS.isub X11.here hx rfl (hb hby own_dprog_13_method_1_code_30) rfl k))) ?_
  show own_Go p.tables e below RR (T11.setTop (mkF m 31 #[.val (.ref o), .val (.int (2147483647 : Int32)), .val (.int (2 : Int32)), .val (.int (2 : Int32))] [(.int (2147483646 : Int32)), (.int (1 : Int32))]))
  refine own_st (fun _ k => XS.icmpNo X11.here hx rfl (hb hby own_dprog_13_method_1_code_31) rfl (feq (by decide)).1 (XS.iinc X11.here hx rfl (hb hby own_dprog_13_method_1_code_34) rfl (l' := #[.val (.ref o), .val (.int (2147483647 : Int32)), .val (.int (2 : Int32)), .val (.int (3 : Int32))]) rfl (XS.goto X11.here hx rfl (pc0 := 37) (pc' := 16) rfl (hb hby own_dprog_13_method_1_code_37) (by decide) (by decide) (XS.aloadN X11.here hx rfl (hb hby own_dprog_13_method_1_code_16) rfl rfl (XS.iloadN X11.here hx rfl (hb hby own_dprog_13_method_1_code_17) rfl (XS.i2l X11.here hx rfl (hb hby own_dprog_13_method_1_code_18) rfl (XS.iloadN X11.here hx rfl (hb hby own_dprog_13_method_1_code_19) rfl (XS.iconst X11.here hx rfl (hb hby own_dprog_13_method_1_code_20) k)))))))) ?_
  show own_Go p.tables e below RR (T11.setTop (mkF m 21 #[.val (.ref o), .val (.int (2147483647 : Int32)), .val (.int (2 : Int32)), .val (.int (3 : Int32))] [(.int (1 : Int32)), (.int (2147483647 : Int32)), (.long (3 : Int64)), (.ref o)]))
  refine own_st (fun _ k => XS.isub X11.here hx rfl (hb hby own_dprog_13_method_1_code_21) rfl (XS.iconst X11.here hx rfl (hb hby own_dprog_13_method_1_code_22) k)) ?_
  show own_Go p.tables e below RR (T11.setTop (mkF m 23 #[.val (.ref o), .val (.int (2147483647 : Int32)), .val (.int (2 : Int32)), .val (.int (3 : Int32))] [(.int (2 : Int32)), (.int (2147483646 : Int32)), (.long (3 : Int64)), (.ref o)]))
  refine own_st (fun _ k => XS.idiv X11.here hx rfl (hb hby own_dprog_13_method_1_code_23) rfl (by decide) k) ?_
  show own_Go p.tables e below RR (T11.setTop (mkF m 24 #[.val (.ref o), .val (.int (2147483647 : Int32)), .val (.int (2 : Int32)), .val (.int (3 : Int32))] [(.int ((2147483646 : Int32) / (2 : Int32))), (.long (3 : Int64)), (.ref o)]))
  rw [show ((2147483646 : Int32) / (2 : Int32)) = (1073741823 : Int32) from by decide]
  show own_Go p.tables e below RR (T11.setTop (mkF m 24 #[.val (.ref o), .val (.int (2147483647 : Int32)), .val (.int (2 : Int32)), .val (.int (3 : Int32))] [(.int (1073741823 : Int32)), (.long (3 : Int64)), (.ref o)]))
  refine own_st (fun _ k => XS.i2l X11.here hx rfl (hb hby own_dprog_13_method_1_code_24) rfl k) ?_
  show own_Go p.tables e below RR (T11.setTop (mkF m 25 #[.val (.ref o), .val (.int (2147483647 : Int32)), .val (.int (2 : Int32)), .val (.int (3 : Int32))] [(.long (1073741823 : Int64)), (.long (3 : Int64)), (.ref o)]))
  obtain ⟨cq13, kq13, q13a, q13b, q13c⟩ := isOf hZ eq11 f12
  obtain ⟨_, _, ⟨T13, L13, k13, n13⟩, -, X13, ⟨Lc13, hQ13, l13, y13, z13⟩, st13⟩ := X11.virtualBack hx (y := (⟨"com/example/powderhorn/powderhorn/dice/Prime", "power", "(JJ)I"⟩ : MethodName)) (z := (⟨"com/example/powderhorn/powderhorn/dice/Prime", "power", "(JJ)I"⟩ : MethodName)) hown (mvT hZ (hw _ (List.mem_of_getElem? (i := 15) rfl))) (mvT hZ (hw _ (List.mem_of_getElem? (i := 16) rfl))) (notFace_of_selects (args := #[]) (mvT hZ (hw _ (List.mem_of_getElem? (i := 18) rfl)))) (mvT hZ (hw _ (List.mem_of_getElem? (i := 18) rfl))) (mvT hZ (hw _ (List.mem_of_getElem? (i := 17) rfl))) (by decide) (backOf (W := 0) (own_rmW l Z a0 hw [] o (3 : Int64) (1073741823 : Int64) (2147483646 : Int32) h7 n0 z8 f10 (by decide) (by decide) (by rw [own_p3]; decide)) hZ (hw _ (List.mem_of_getElem? (i := 19) rfl)) (hw _ (List.mem_of_getElem? (i := 3) rfl)) (by decide) (by decide)) q13a q13c (g := (mkF m 25 #[.val (.ref o), .val (.int (2147483647 : Int32)), .val (.int (2 : Int32)), .val (.int (3 : Int32))] [(.long (1073741823 : Int64)), (.long (3 : Int64)), (.ref o)])) rfl (by rw [hml]; rfl) (Steps.refl _) (argsL := [(.long (3 : Int64)), (.long (1073741823 : Int64))]) (rest := []) (lenOf own_pd__JJ_I rfl) rfl (by show 2 * 0 + _ ≤ _; exact Nat.le_of_eq rfl) (hb hby own_dprog_13_method_1_code_25) (fun _ _ => ⟨rfl, eq11, (by decide : 0 + 0 ≤ _), (by decide : 0 + 0 ≤ _)⟩)
  dsimp only [Pt.U, Pt.locs, Pt.cells, Pt.slots] at X13 l13 y13 z13 st13 hQ13
  subst l13 y13 z13
  obtain ⟨rfl, Nq13, eq13⟩ := hQ13
  have N13 := Fr.app N11 Nq13
  refine own_st (fun _ k => st13.trans k) ?_
  show own_Go p.tables e below RR (T13.setTop (mkF m 28 #[.val (.ref o), .val (.int (2147483647 : Int32)), .val (.int (2 : Int32)), .val (.int (3 : Int32))] [(.int (2147483646 : Int32))]))
  refine own_st (fun _ k => XS.iloadN X13.here hx rfl (hb hby own_dprog_13_method_1_code_28) rfl (XS.iconst X13.here hx rfl (hb hby own_dprog_13_method_1_code_29) (XS.isub X13.here hx rfl (hb hby own_dprog_13_method_1_code_30) rfl k))) ?_
  show own_Go p.tables e below RR (T13.setTop (mkF m 31 #[.val (.ref o), .val (.int (2147483647 : Int32)), .val (.int (2 : Int32)), .val (.int (3 : Int32))] [(.int (2147483646 : Int32)), (.int (2147483646 : Int32))]))
  refine own_st (fun _ k => XS.icmpYes X13.here hx rfl (pc0 := 31) (pc' := 40) rfl (hb hby own_dprog_13_method_1_code_31) rfl (teq (by decide)).1 (by decide) (by decide) (XS.aloadN X13.here hx rfl (hb hby own_dprog_13_method_1_code_40) rfl rfl (XS.aloadN X13.here hx rfl (hb hby own_dprog_13_method_1_code_41) rfl rfl (XS.iloadN X13.here hx rfl (hb hby own_dprog_13_method_1_code_42) rfl (XS.i2l X13.here hx rfl (hb hby own_dprog_13_method_1_code_43) rfl (XS.iloadN X13.here hx rfl (hb hby own_dprog_13_method_1_code_44) rfl (XS.iconst X13.here hx rfl (hb hby own_dprog_13_method_1_code_45) (XS.isub X13.here hx rfl (hb hby own_dprog_13_method_1_code_46) rfl k)))))))) ?_
  show own_Go p.tables e below RR (T13.setTop (mkF m 47 #[.val (.ref o), .val (.int (2147483647 : Int32)), .val (.int (2 : Int32)), .val (.int (3 : Int32))] [(.int (2147483646 : Int32)), (.long (3 : Int64)), (.ref o), (.ref o)]))
  refine own_st (fun _ k => XS.iloadN X13.here hx rfl (hb hby own_dprog_13_method_1_code_47) rfl k) ?_
  show own_Go p.tables e below RR (T13.setTop (mkF m 48 #[.val (.ref o), .val (.int (2147483647 : Int32)), .val (.int (2 : Int32)), .val (.int (3 : Int32))] [(.int (2 : Int32)), (.int (2147483646 : Int32)), (.long (3 : Int64)), (.ref o), (.ref o)]))
  refine own_st (fun _ k => XS.idiv X13.here hx rfl (hb hby own_dprog_13_method_1_code_48) rfl (by decide) k) ?_
  show own_Go p.tables e below RR (T13.setTop (mkF m 49 #[.val (.ref o), .val (.int (2147483647 : Int32)), .val (.int (2 : Int32)), .val (.int (3 : Int32))] [(.int ((2147483646 : Int32) / (2 : Int32))), (.long (3 : Int64)), (.ref o), (.ref o)]))
  rw [show ((2147483646 : Int32) / (2 : Int32)) = (1073741823 : Int32) from by decide]
  show own_Go p.tables e below RR (T13.setTop (mkF m 49 #[.val (.ref o), .val (.int (2147483647 : Int32)), .val (.int (2 : Int32)), .val (.int (3 : Int32))] [(.int (1073741823 : Int32)), (.long (3 : Int64)), (.ref o), (.ref o)]))
  refine own_st (fun _ k => XS.i2l X13.here hx rfl (hb hby own_dprog_13_method_1_code_49) rfl k) ?_
  show own_Go p.tables e below RR (T13.setTop (mkF m 50 #[.val (.ref o), .val (.int (2147483647 : Int32)), .val (.int (2 : Int32)), .val (.int (3 : Int32))] [(.long (1073741823 : Int64)), (.long (3 : Int64)), (.ref o), (.ref o)]))
  obtain ⟨cq14, kq14, q14a, q14b, q14c⟩ := isOf hZ eq13 f12
  obtain ⟨_, _, ⟨T14, L14, k14, n14⟩, -, X14, ⟨Lc14, hQ14, l14, y14, z14⟩, st14⟩ := X13.virtualBack hx (y := (⟨"com/example/powderhorn/powderhorn/dice/Prime", "power", "(JJ)I"⟩ : MethodName)) (z := (⟨"com/example/powderhorn/powderhorn/dice/Prime", "power", "(JJ)I"⟩ : MethodName)) hown (mvT hZ (hw _ (List.mem_of_getElem? (i := 15) rfl))) (mvT hZ (hw _ (List.mem_of_getElem? (i := 16) rfl))) (notFace_of_selects (args := #[]) (mvT hZ (hw _ (List.mem_of_getElem? (i := 18) rfl)))) (mvT hZ (hw _ (List.mem_of_getElem? (i := 18) rfl))) (mvT hZ (hw _ (List.mem_of_getElem? (i := 17) rfl))) (by decide) (backOf (W := 1) (own_rmW l Z a0 hw [] o (3 : Int64) (1073741823 : Int64) (2147483646 : Int32) h7 n0 z8 f10 (by decide) (by decide) (by rw [own_p3]; decide)) hZ (hw _ (List.mem_of_getElem? (i := 19) rfl)) (hw _ (List.mem_of_getElem? (i := 3) rfl)) (by decide) (by decide)) q14a q14c (g := (mkF m 50 #[.val (.ref o), .val (.int (2147483647 : Int32)), .val (.int (2 : Int32)), .val (.int (3 : Int32))] [(.long (1073741823 : Int64)), (.long (3 : Int64)), (.ref o), (.ref o)])) rfl (by rw [hml]; rfl) (Steps.refl _) (argsL := [(.long (3 : Int64)), (.long (1073741823 : Int64))]) (rest := [(.ref o)]) (lenOf own_pd__JJ_I rfl) rfl (by show 2 * 0 + _ ≤ _; exact Nat.le_of_eq rfl) (hb hby own_dprog_13_method_1_code_50) (fun _ _ => ⟨rfl, eq13, (by decide : 0 + 0 ≤ _), (by decide : 0 + 0 ≤ _)⟩)
  dsimp only [Pt.U, Pt.locs, Pt.cells, Pt.slots] at X14 l14 y14 z14 st14 hQ14
  subst l14 y14 z14
  obtain ⟨rfl, Nq14, eq14⟩ := hQ14
  have N14 := Fr.app N13 Nq14
  refine own_st (fun _ k => st14.trans k) ?_
  show own_Go p.tables e below RR (T14.setTop (mkF m 53 #[.val (.ref o), .val (.int (2147483647 : Int32)), .val (.int (2 : Int32)), .val (.int (3 : Int32))] [(.int (2147483646 : Int32)), (.ref o)]))
  have f15 := ((F2.other W2 (Or.inr (slot_ne (Or.inr (hw _ (List.mem_of_getElem? (i := 21) rfl))) (Or.inr (hw _ (List.mem_of_getElem? (i := 12) rfl))) (by decide) (t := .int) (t' := .int) (by decide) (by decide)))).other W7 (Or.inr (slot_ne (Or.inr (hw _ (List.mem_of_getElem? (i := 21) rfl))) (Or.inr (hw _ (List.mem_of_getElem? (i := 14) rfl))) (by decide) (t := .int) (t' := .int) (by decide) (by decide))))
  obtain ⟨T16, h16, X16, e16, W16, st16⟩ := putF X14 hx hZ hown (host := "") (Or.inl (hw _ (List.mem_of_getElem? (i := 20) rfl))) Via.refl eq14 f15 f12 (Or.inr ⟨(hw _ (List.mem_of_getElem? (i := 21) rfl)), rfl, hnm⟩) (hw _ (List.mem_of_getElem? (i := 2) rfl)) (ty := .int) (by decide) rfl rfl (g := (mkF m 53 #[.val (.ref o), .val (.int (2147483647 : Int32)), .val (.int (2 : Int32)), .val (.int (3 : Int32))] [(.int (2147483646 : Int32)), (.ref o)])) rfl rfl (hb hby own_dprog_13_method_1_code_53)
  have Fw16 := f15.same W16
  have N16 := Fr.snoc X16 N14 g_o
  refine own_st st16 ?_
  have z17 : n0 ≤ h16.size := Nat.le_trans z8 (Keep.of_wr W16).1
  have kk18 : Keep h0 h16 [o] := kk9.wr W16 (Or.inl (List.mem_of_getElem? (i := 0) rfl))
  show own_Go p.tables e below RR (T16.setTop (mkF m 56 #[.val (.ref o), .val (.int (2147483647 : Int32)), .val (.int (2 : Int32)), .val (.int (3 : Int32))] []))
  obtain ⟨fs, hrt_, hrun, hended, hW, hsame⟩ := X16.leave (v := none) (fun _ => rfl)
  refine own_fin (X16.returnOut hx Bd.returns (hb hby own_dprog_13_method_1_code_56) hrt_) (hRR _ ⟨_, hrun, hended, _, _, rfl, ?_, ⟨_, rfl⟩, hW, hsame.mono (by decide) (by decide)⟩)
  show own_QI Z o h0 n0 _ T16.heap _
  rw [e16]
  have f19 := (f12.wr W16)
  have f20 := (f10.other W16 (Or.inr (slot_ne (Or.inr (hw _ (List.mem_of_getElem? (i := 12) rfl))) (Or.inr (hw _ (List.mem_of_getElem? (i := 21) rfl))) (by decide) (t := .int) (t' := .int) (by decide) (by decide))))
  exact ⟨rfl, N16, kk18, f19, f20⟩
theorem own_pn_com_example_powderhorn_powderhorn_dice_PrimePowerPinLaw : plainName "com/example/powderhorn/powderhorn/dice/PrimePowerPinLaw" = true := by first | (simp [plainName, overriddenIn]; done) | decide +kernel
theorem own_pd__II_V : parseMethodDescriptor "(II)V" = some ⟨[.int, .int], none⟩ := by decide +kernel
theorem own_ef0 (m : MethodId) (q1 : Int64) (q3 : Int64) (p5 : Int32) : entryFrame m #[(.long q1), (.long q3), (.int p5)] maxLocals = mkF m 0 #[.val (.long q1), .second, .val (.long q3), .second, .val (.int p5), .unset, .unset, .unset, .unset, .unset, .unset, .unset, .unset, .unset, .unset, .unset, .unset, .unset, .unset] [] := by first | (simp [entryFrame, mkF, argsToLocals, Value.category, maxLocals]; done) | rfl
def own_Q0 (Z : State) (q1 : Int64) (q3 : Int64) (p5 : Int32) (h0 : Heap) (n0 : Nat) (v_ : Option Value) (h : Heap) (L_ : List Loc) : Prop := v_ = some (.int 1) ∧ Fr n0 L_
set_option maxRecDepth 65536 in
set_option maxHeartbeats 40000000 in
theorem own_rm0 (l : Launch) (Z : State) (a0 : Array Value) (hw : ∀ d ∈ tables_1, d.before a0 Z = true) (ws : List Jvm.Cond) (q1 : Int64) (q3 : Int64) (p5 : Int32) (h0 : Heap) (n0 : Nat) (Z0 : n0 ≤ h0.size)  :
    MetFree l x (head1 (Jvm.Cond.code x code maxLocals ret :: ws) room_1) (fun a U => a = #[(.long q1), (.long q3), (.int p5)] ∧ Z.Warmed39 U.vm ∧ U.heap = h0) (fun _ _ _ _ _ => True) (fun _ U oc_ U' => ∃ v_ L_, oc_ = .returned v_ ∧ own_Q0 Z q1 q3 p5 h0 n0 v_ U'.heap L_ ∧ FrameEnd U oc_ U' L_ room_1.cells room_1.slots) := by
  refine MetFree.of_bodySF (plainFor_of_name own_pn_com_example_powderhorn_powderhorn_dice_PrimePowerPinLaw) hisR ?_
  intro p e s m args below meth c s₁ Bd hml0 hP hK
  obtain ⟨rfl, hZ, hh⟩ := hP
  have hx := Bd.exec
  have hby := Bd.bytes
  have hml : c.maxLocals = 19 := hml0
  have hown : s.vm.findClass "com/example/powderhorn/powderhorn/dice/PrimePowerPinLaw" = some m.cls := findClass_of_methodNamed Bd.named
  have hnm := (name_of_methodNamed Bd.named Bd.method).1
  have X0 : Stand p l e room_1 s m #[(.long q1), (.long q3), (.int p5)] below meth c s₁ [] 0 0 := Stand.of_body Bd
  have e0 : s₁.heap = h0 := by rw [← hh, Bd.state]; rfl
  have N0 := Fr.nil n0
  refine own_in (fun _ k => castTop (own_ef0 m q1 q3 p5) k) ?_
  intro RR hRR
  show own_Go p.tables e below RR (s₁.setTop (mkF m 0 #[.val (.long q1), .second, .val (.long q3), .second, .val (.int p5), .unset, .unset, .unset, .unset, .unset, .unset, .unset, .unset, .unset, .unset, .unset, .unset, .unset, .unset] []))
  refine own_st (fun _ k => X0.ldc2Long hx hown (mvT hZ (hw _ (List.mem_of_getElem? (i := 0) rfl))) (g := (mkF m 0 #[.val (.long q1), .second, .val (.long q3), .second, .val (.int p5), .unset, .unset, .unset, .unset, .unset, .unset, .unset, .unset, .unset, .unset, .unset, .unset, .unset, .unset] [])) rfl (hb hby at_0) _ (XS.lstore X0.here hx rfl (hb hby at_3) rfl (l' := #[.val (.long q1), .second, .val (.long q3), .second, .val (.int p5), .val (.long (2147483647 : Int64)), .second, .unset, .unset, .unset, .unset, .unset, .unset, .unset, .unset, .unset, .unset, .unset, .unset]) rfl k)) ?_
  show own_Go p.tables e below RR (s₁.setTop (mkF m 5 #[.val (.long q1), .second, .val (.long q3), .second, .val (.int p5), .val (.long (2147483647 : Int64)), .second, .unset, .unset, .unset, .unset, .unset, .unset, .unset, .unset, .unset, .unset, .unset, .unset] []))
  obtain ⟨T1, h1, X1, e1, E1, A1, D1, -, st1⟩ := newO X0 hx hZ hown (hw _ (List.mem_of_getElem? (i := 1) rfl)) (hw _ (List.mem_of_getElem? (i := 2) rfl)) (hw _ (List.mem_of_getElem? (i := 3) rfl)) e0 (g := (mkF m 5 #[.val (.long q1), .second, .val (.long q3), .second, .val (.int p5), .val (.long (2147483647 : Int64)), .second, .unset, .unset, .unset, .unset, .unset, .unset, .unset, .unset, .unset, .unset, .unset, .unset] [])) rfl (hb hby at_5) (by decide) (by decide)
  obtain ⟨b1, gb1⟩ : ∃ z, z = h0.size := ⟨_, rfl⟩
  rw [← gb1] at A1 D1 st1
  have ge1 : n0 ≤ b1 := Nat.le_trans Z0 (Nat.le_of_eq gb1.symm)
  refine own_st st1 ?_
  have z2 : n0 ≤ h1.size := Nat.le_trans Z0 E1.1
  have F1_12 : Fld Z h1 b1 "com/example/powderhorn/powderhorn/dice/Prime" "value" "I" (.int (0 : Int32)) := D1 (Or.inr (hw _ (List.mem_of_getElem? (i := 12) rfl))) (ty := .int) (by decide)
  have F1_14 : Fld Z h1 b1 "com/example/powderhorn/powderhorn/dice/Prime" "longest" "I" (.int (0 : Int32)) := D1 (Or.inr (hw _ (List.mem_of_getElem? (i := 14) rfl))) (ty := .int) (by decide)
  have F1_21 : Fld Z h1 b1 "com/example/powderhorn/powderhorn/dice/Prime" "root" "I" (.int (0 : Int32)) := D1 (Or.inr (hw _ (List.mem_of_getElem? (i := 21) rfl))) (ty := .int) (by decide)
  show own_Go p.tables e below RR (T1.setTop (mkF m 8 #[.val (.long q1), .second, .val (.long q3), .second, .val (.int p5), .val (.long (2147483647 : Int64)), .second, .unset, .unset, .unset, .unset, .unset, .unset, .unset, .unset, .unset, .unset, .unset, .unset] [(.ref b1)]))
  refine own_st (fun _ k => XS.dup X1.here hx rfl (hb hby at_8) rfl rfl (X1.ldcInt hx hown (mvT hZ (hw _ (List.mem_of_getElem? (i := 4) rfl))) (g := (mkF m 9 #[.val (.long q1), .second, .val (.long q3), .second, .val (.int p5), .val (.long (2147483647 : Int64)), .second, .unset, .unset, .unset, .unset, .unset, .unset, .unset, .unset, .unset, .unset, .unset, .unset] [(.ref b1), (.ref b1)])) rfl (hb hby at_9) _ (XS.iconst X1.here hx rfl (hb hby at_11) k))) ?_
  show own_Go p.tables e below RR (T1.setTop (mkF m 12 #[.val (.long q1), .second, .val (.long q3), .second, .val (.int p5), .val (.long (2147483647 : Int64)), .second, .unset, .unset, .unset, .unset, .unset, .unset, .unset, .unset, .unset, .unset, .unset, .unset] [(.int (2 : Int32)), (.int (2147483647 : Int32)), (.ref b1), (.ref b1)]))
  obtain ⟨_, _, ⟨T3, L3, k3, n3⟩, -, X3, ⟨Lc3, hQ3, l3, y3, z3⟩, st3⟩ := X1.specialBack hx (y := (⟨"com/example/powderhorn/powderhorn/dice/Prime", "<init>", "(II)V"⟩ : MethodName)) rfl hown (mvT hZ (hw _ (List.mem_of_getElem? (i := 5) rfl))) (mvT hZ (hw _ (List.mem_of_getElem? (i := 6) rfl))) (mvT hZ (hw _ (List.mem_of_getElem? (i := 7) rfl))) (by decide) (backOf (W := 1) (own_rmI l Z a0 hw [] b1 h1 n0 z2 ge1 A1 F1_12 F1_14 F1_21) hZ (hw _ (List.mem_of_getElem? (i := 7) rfl)) (hw _ (List.mem_of_getElem? (i := 3) rfl)) (by decide) (by decide)) (g := (mkF m 12 #[.val (.long q1), .second, .val (.long q3), .second, .val (.int p5), .val (.long (2147483647 : Int64)), .second, .unset, .unset, .unset, .unset, .unset, .unset, .unset, .unset, .unset, .unset, .unset, .unset] [(.int (2 : Int32)), (.int (2147483647 : Int32)), (.ref b1), (.ref b1)])) rfl (by rw [hml]; rfl) (Steps.refl _) (a := b1) (argsL := [(.int (2147483647 : Int32)), (.int (2 : Int32))]) (rest := [(.ref b1)]) (lenOf own_pd__II_V rfl) rfl (by show 2 * 0 + _ ≤ _; exact Nat.le_of_eq rfl) (hb hby at_12) (fun _ _ => ⟨rfl, e1, (by decide : 1 + 0 ≤ _), (by decide : 3 + 0 ≤ _)⟩)
  dsimp only [Pt.U, Pt.locs, Pt.cells, Pt.slots] at X3 l3 y3 z3 st3 hQ3
  subst l3 y3 z3
  obtain ⟨rfl, Nq3, Kq3, Eq3, Fq3⟩ := hQ3
  have N3 := Fr.app N0 Nq3
  refine own_st (fun _ k => st3.trans k) ?_
  have z4 : n0 ≤ T3.heap.size := Nat.le_trans z2 Kq3.1
  show own_Go p.tables e below RR (T3.setTop (mkF m 15 #[.val (.long q1), .second, .val (.long q3), .second, .val (.int p5), .val (.long (2147483647 : Int64)), .second, .unset, .unset, .unset, .unset, .unset, .unset, .unset, .unset, .unset, .unset, .unset, .unset] [(.ref b1)]))
  refine own_st (fun _ k => XS.astore X3.here hx rfl (hb hby at_15) rfl rfl (l' := #[.val (.long q1), .second, .val (.long q3), .second, .val (.int p5), .val (.long (2147483647 : Int64)), .second, .val (.ref b1), .unset, .unset, .unset, .unset, .unset, .unset, .unset, .unset, .unset, .unset, .unset]) rfl (XS.lloadN X3.here hx rfl (hb hby at_17) rfl (X3.ldc2Long hx hown (mvT hZ (hw _ (List.mem_of_getElem? (i := 22) rfl))) (g := (mkF m 18 #[.val (.long q1), .second, .val (.long q3), .second, .val (.int p5), .val (.long (2147483647 : Int64)), .second, .val (.ref b1), .unset, .unset, .unset, .unset, .unset, .unset, .unset, .unset, .unset, .unset, .unset] [(.long q1)])) rfl (hb hby at_18) _ (XS.land X3.here hx rfl (hb hby at_21) rfl k)))) ?_
  show own_Go p.tables e below RR (T3.setTop (mkF m 22 #[.val (.long q1), .second, .val (.long q3), .second, .val (.int p5), .val (.long (2147483647 : Int64)), .second, .val (.ref b1), .unset, .unset, .unset, .unset, .unset, .unset, .unset, .unset, .unset, .unset, .unset] [(.long (q1 &&& (9223372036854775807 : Int64)))]))
  generalize gv5 : (q1 &&& (9223372036854775807 : Int64)) = v5
  show own_Go p.tables e below RR (T3.setTop (mkF m 22 #[.val (.long q1), .second, .val (.long q3), .second, .val (.int p5), .val (.long (2147483647 : Int64)), .second, .val (.ref b1), .unset, .unset, .unset, .unset, .unset, .unset, .unset, .unset, .unset, .unset, .unset] [(.long v5)]))
  refine own_st (fun _ k => XS.lstore X3.here hx rfl (hb hby at_22) rfl (l' := #[.val (.long q1), .second, .val (.long q3), .second, .val (.int p5), .val (.long (2147483647 : Int64)), .second, .val (.ref b1), .val (.long v5), .second, .unset, .unset, .unset, .unset, .unset, .unset, .unset, .unset, .unset]) rfl (XS.lloadN X3.here hx rfl (hb hby at_24) rfl (X3.ldc2Long hx hown (mvT hZ (hw _ (List.mem_of_getElem? (i := 23) rfl))) (g := (mkF m 25 #[.val (.long q1), .second, .val (.long q3), .second, .val (.int p5), .val (.long (2147483647 : Int64)), .second, .val (.ref b1), .val (.long v5), .second, .unset, .unset, .unset, .unset, .unset, .unset, .unset, .unset, .unset] [(.long q3)])) rfl (hb hby at_25) _ (XS.land X3.here hx rfl (hb hby at_28) rfl k)))) ?_
  show own_Go p.tables e below RR (T3.setTop (mkF m 29 #[.val (.long q1), .second, .val (.long q3), .second, .val (.int p5), .val (.long (2147483647 : Int64)), .second, .val (.ref b1), .val (.long v5), .second, .unset, .unset, .unset, .unset, .unset, .unset, .unset, .unset, .unset] [(.long (q3 &&& (4611686018427387903 : Int64)))]))
  generalize gv6 : (q3 &&& (4611686018427387903 : Int64)) = v6
  show own_Go p.tables e below RR (T3.setTop (mkF m 29 #[.val (.long q1), .second, .val (.long q3), .second, .val (.int p5), .val (.long (2147483647 : Int64)), .second, .val (.ref b1), .val (.long v5), .second, .unset, .unset, .unset, .unset, .unset, .unset, .unset, .unset, .unset] [(.long v6)]))
  refine own_st (fun _ k => XS.lstore X3.here hx rfl (hb hby at_29) rfl (l' := #[.val (.long q1), .second, .val (.long q3), .second, .val (.int p5), .val (.long (2147483647 : Int64)), .second, .val (.ref b1), .val (.long v5), .second, .val (.long v6), .second, .unset, .unset, .unset, .unset, .unset, .unset, .unset]) rfl (XS.iload X3.here hx rfl (hb hby at_31) rfl (XS.iconst X3.here hx rfl (hb hby at_33) (XS.iand X3.here hx rfl (hb hby at_34) rfl (XS.i2l X3.here hx rfl (hb hby at_35) rfl k))))) ?_
  show own_Go p.tables e below RR (T3.setTop (mkF m 36 #[.val (.long q1), .second, .val (.long q3), .second, .val (.int p5), .val (.long (2147483647 : Int64)), .second, .val (.ref b1), .val (.long v5), .second, .val (.long v6), .second, .unset, .unset, .unset, .unset, .unset, .unset, .unset] [(.long ((p5 &&& (1 : Int32)).toInt64))]))
  generalize gv7 : ((p5 &&& (1 : Int32)).toInt64) = v7
  show own_Go p.tables e below RR (T3.setTop (mkF m 36 #[.val (.long q1), .second, .val (.long q3), .second, .val (.int p5), .val (.long (2147483647 : Int64)), .second, .val (.ref b1), .val (.long v5), .second, .val (.long v6), .second, .unset, .unset, .unset, .unset, .unset, .unset, .unset] [(.long v7)]))
  refine own_st (fun _ k => XS.lstore X3.here hx rfl (hb hby at_36) rfl (l' := #[.val (.long q1), .second, .val (.long q3), .second, .val (.int p5), .val (.long (2147483647 : Int64)), .second, .val (.ref b1), .val (.long v5), .second, .val (.long v6), .second, .val (.long v7), .second, .unset, .unset, .unset, .unset, .unset]) rfl (XS.aload X3.here hx rfl (hb hby at_38) rfl rfl (XS.lload X3.here hx rfl (hb hby at_40) rfl (XS.lconst X3.here hx rfl (hb hby at_42) k)))) ?_
  show own_Go p.tables e below RR (T3.setTop (mkF m 43 #[.val (.long q1), .second, .val (.long q3), .second, .val (.int p5), .val (.long (2147483647 : Int64)), .second, .val (.ref b1), .val (.long v5), .second, .val (.long v6), .second, .val (.long v7), .second, .unset, .unset, .unset, .unset, .unset] [(.long (0 : Int64)), (.long v5), (.ref b1)]))
  obtain ⟨cq8, kq8, q8a, q8b, q8c⟩ := isOf hZ rfl Eq3
  obtain ⟨_, _, ⟨T8, L8, k8, n8⟩, -, X8, ⟨Lc8, hQ8, l8, y8, z8⟩, st8⟩ := X3.virtualBack hx (y := (⟨"com/example/powderhorn/powderhorn/dice/Prime", "power", "(JJ)I"⟩ : MethodName)) (z := (⟨"com/example/powderhorn/powderhorn/dice/Prime", "power", "(JJ)I"⟩ : MethodName)) hown (mvT hZ (hw _ (List.mem_of_getElem? (i := 24) rfl))) (mvT hZ (hw _ (List.mem_of_getElem? (i := 16) rfl))) (notFace_of_selects (args := #[]) (mvT hZ (hw _ (List.mem_of_getElem? (i := 18) rfl)))) (mvT hZ (hw _ (List.mem_of_getElem? (i := 18) rfl))) (mvT hZ (hw _ (List.mem_of_getElem? (i := 17) rfl))) (by decide) (backOf (W := 0) (own_rmW l Z a0 hw [] b1 v5 (0 : Int64) (1 : Int32) T3.heap n0 z4 Fq3 (own_nn gv5) (by decide) (own_zero v5)) hZ (hw _ (List.mem_of_getElem? (i := 19) rfl)) (hw _ (List.mem_of_getElem? (i := 3) rfl)) (by decide) (by decide)) q8a q8c (g := (mkF m 43 #[.val (.long q1), .second, .val (.long q3), .second, .val (.int p5), .val (.long (2147483647 : Int64)), .second, .val (.ref b1), .val (.long v5), .second, .val (.long v6), .second, .val (.long v7), .second, .unset, .unset, .unset, .unset, .unset] [(.long (0 : Int64)), (.long v5), (.ref b1)])) rfl (by rw [hml]; rfl) (Steps.refl _) (argsL := [(.long v5), (.long (0 : Int64))]) (rest := []) (lenOf own_pd__JJ_I rfl) rfl (by show 2 * 0 + _ ≤ _; exact Nat.le_of_eq rfl) (hb hby at_43) (fun _ _ => ⟨rfl, rfl, (by decide : 1 + 0 ≤ _), (by decide : 3 + 0 ≤ _)⟩)
  dsimp only [Pt.U, Pt.locs, Pt.cells, Pt.slots] at X8 l8 y8 z8 st8 hQ8
  subst l8 y8 z8
  obtain ⟨rfl, Nq8, eq8⟩ := hQ8
  have N8 := Fr.app N3 Nq8
  refine own_st (fun _ k => st8.trans k) ?_
  show own_Go p.tables e below RR (T8.setTop (mkF m 46 #[.val (.long q1), .second, .val (.long q3), .second, .val (.int p5), .val (.long (2147483647 : Int64)), .second, .val (.ref b1), .val (.long v5), .second, .val (.long v6), .second, .val (.long v7), .second, .unset, .unset, .unset, .unset, .unset] [(.int (1 : Int32))]))
  refine own_st (fun _ k => XS.istore X8.here hx rfl (hb hby at_46) rfl (l' := #[.val (.long q1), .second, .val (.long q3), .second, .val (.int p5), .val (.long (2147483647 : Int64)), .second, .val (.ref b1), .val (.long v5), .second, .val (.long v6), .second, .val (.long v7), .second, .val (.int (1 : Int32)), .unset, .unset, .unset, .unset]) rfl (XS.aload X8.here hx rfl (hb hby at_48) rfl rfl (XS.lload X8.here hx rfl (hb hby at_50) rfl (XS.lload X8.here hx rfl (hb hby at_52) rfl k)))) ?_
  show own_Go p.tables e below RR (T8.setTop (mkF m 54 #[.val (.long q1), .second, .val (.long q3), .second, .val (.int p5), .val (.long (2147483647 : Int64)), .second, .val (.ref b1), .val (.long v5), .second, .val (.long v6), .second, .val (.long v7), .second, .val (.int (1 : Int32)), .unset, .unset, .unset, .unset] [(.long v6), (.long v5), (.ref b1)]))
  obtain ⟨h9f, eh9f⟩ := own_ex32 (own_pw_lt v5 v6)
  obtain ⟨cq10, kq10, q10a, q10b, q10c⟩ := isOf hZ eq8 Eq3
  obtain ⟨_, _, ⟨T10, L10, k10, n10⟩, -, X10, ⟨Lc10, hQ10, l10, y10, z10⟩, st10⟩ := X8.virtualBack hx (y := (⟨"com/example/powderhorn/powderhorn/dice/Prime", "power", "(JJ)I"⟩ : MethodName)) (z := (⟨"com/example/powderhorn/powderhorn/dice/Prime", "power", "(JJ)I"⟩ : MethodName)) hown (mvT hZ (hw _ (List.mem_of_getElem? (i := 24) rfl))) (mvT hZ (hw _ (List.mem_of_getElem? (i := 16) rfl))) (notFace_of_selects (args := #[]) (mvT hZ (hw _ (List.mem_of_getElem? (i := 18) rfl)))) (mvT hZ (hw _ (List.mem_of_getElem? (i := 18) rfl))) (mvT hZ (hw _ (List.mem_of_getElem? (i := 17) rfl))) (by decide) (backOf (W := 0) (own_rmW l Z a0 hw [] b1 v5 v6 h9f T3.heap n0 z4 Fq3 (own_nn gv5) (own_n62 gv6).1 eh9f) hZ (hw _ (List.mem_of_getElem? (i := 19) rfl)) (hw _ (List.mem_of_getElem? (i := 3) rfl)) (by decide) (by decide)) q10a q10c (g := (mkF m 54 #[.val (.long q1), .second, .val (.long q3), .second, .val (.int p5), .val (.long (2147483647 : Int64)), .second, .val (.ref b1), .val (.long v5), .second, .val (.long v6), .second, .val (.long v7), .second, .val (.int (1 : Int32)), .unset, .unset, .unset, .unset] [(.long v6), (.long v5), (.ref b1)])) rfl (by rw [hml]; rfl) (Steps.refl _) (argsL := [(.long v5), (.long v6)]) (rest := []) (lenOf own_pd__JJ_I rfl) rfl (by show 2 * 0 + _ ≤ _; exact Nat.le_of_eq rfl) (hb hby at_54) (fun _ _ => ⟨rfl, eq8, (by decide : 1 + 0 ≤ _), (by decide : 3 + 0 ≤ _)⟩)
  dsimp only [Pt.U, Pt.locs, Pt.cells, Pt.slots] at X10 l10 y10 z10 st10 hQ10
  subst l10 y10 z10
  obtain ⟨rfl, Nq10, eq10⟩ := hQ10
  have N10 := Fr.app N8 Nq10
  refine own_st (fun _ k => st10.trans k) ?_
  show own_Go p.tables e below RR (T10.setTop (mkF m 57 #[.val (.long q1), .second, .val (.long q3), .second, .val (.int p5), .val (.long (2147483647 : Int64)), .second, .val (.ref b1), .val (.long v5), .second, .val (.long v6), .second, .val (.long v7), .second, .val (.int (1 : Int32)), .unset, .unset, .unset, .unset] [(.int h9f)]))
  refine own_st (fun _ k => XS.istore X10.here hx rfl (hb hby at_57) rfl (l' := #[.val (.long q1), .second, .val (.long q3), .second, .val (.int p5), .val (.long (2147483647 : Int64)), .second, .val (.ref b1), .val (.long v5), .second, .val (.long v6), .second, .val (.long v7), .second, .val (.int (1 : Int32)), .val (.int h9f), .unset, .unset, .unset]) rfl (XS.aload X10.here hx rfl (hb hby at_59) rfl rfl (XS.lload X10.here hx rfl (hb hby at_61) rfl (X10.ldc2Long hx hown (mvT hZ (hw _ (List.mem_of_getElem? (i := 25) rfl))) (g := (mkF m 63 #[.val (.long q1), .second, .val (.long q3), .second, .val (.int p5), .val (.long (2147483647 : Int64)), .second, .val (.ref b1), .val (.long v5), .second, .val (.long v6), .second, .val (.long v7), .second, .val (.int (1 : Int32)), .val (.int h9f), .unset, .unset, .unset] [(.long v5), (.ref b1)])) rfl (hb hby at_63) _ (XS.lload X10.here hx rfl (hb hby at_66) rfl (XS.lmul X10.here hx rfl (hb hby at_68) rfl (XS.lload X10.here hx rfl (hb hby at_69) rfl (XS.ladd X10.here hx rfl (hb hby at_71) rfl k)))))))) ?_
  show own_Go p.tables e below RR (T10.setTop (mkF m 72 #[.val (.long q1), .second, .val (.long q3), .second, .val (.int p5), .val (.long (2147483647 : Int64)), .second, .val (.ref b1), .val (.long v5), .second, .val (.long v6), .second, .val (.long v7), .second, .val (.int (1 : Int32)), .val (.int h9f), .unset, .unset, .unset] [(.long (((2 : Int64) * v6) + v7)), (.long v5), (.ref b1)]))
  generalize gv11 : (((2 : Int64) * v6) + v7) = v11
  show own_Go p.tables e below RR (T10.setTop (mkF m 72 #[.val (.long q1), .second, .val (.long q3), .second, .val (.int p5), .val (.long (2147483647 : Int64)), .second, .val (.ref b1), .val (.long v5), .second, .val (.long v6), .second, .val (.long v7), .second, .val (.int (1 : Int32)), .val (.int h9f), .unset, .unset, .unset] [(.long v11), (.long v5), (.ref b1)]))
  obtain ⟨h12f, eh12f⟩ := own_ex32 (own_pw_lt v5 v11)
  obtain ⟨cq13, kq13, q13a, q13b, q13c⟩ := isOf hZ eq10 Eq3
  obtain ⟨_, _, ⟨T13, L13, k13, n13⟩, -, X13, ⟨Lc13, hQ13, l13, y13, z13⟩, st13⟩ := X10.virtualBack hx (y := (⟨"com/example/powderhorn/powderhorn/dice/Prime", "power", "(JJ)I"⟩ : MethodName)) (z := (⟨"com/example/powderhorn/powderhorn/dice/Prime", "power", "(JJ)I"⟩ : MethodName)) hown (mvT hZ (hw _ (List.mem_of_getElem? (i := 24) rfl))) (mvT hZ (hw _ (List.mem_of_getElem? (i := 16) rfl))) (notFace_of_selects (args := #[]) (mvT hZ (hw _ (List.mem_of_getElem? (i := 18) rfl)))) (mvT hZ (hw _ (List.mem_of_getElem? (i := 18) rfl))) (mvT hZ (hw _ (List.mem_of_getElem? (i := 17) rfl))) (by decide) (backOf (W := 0) (own_rmW l Z a0 hw [] b1 v5 v11 h12f T3.heap n0 z4 Fq3 (own_nn gv5) (by have := own_dbl (own_n62 gv6) (own_b01 gv7) gv11; have := (own_n62 gv6).1; have := own_b01 gv7; omega) eh12f) hZ (hw _ (List.mem_of_getElem? (i := 19) rfl)) (hw _ (List.mem_of_getElem? (i := 3) rfl)) (by decide) (by decide)) q13a q13c (g := (mkF m 72 #[.val (.long q1), .second, .val (.long q3), .second, .val (.int p5), .val (.long (2147483647 : Int64)), .second, .val (.ref b1), .val (.long v5), .second, .val (.long v6), .second, .val (.long v7), .second, .val (.int (1 : Int32)), .val (.int h9f), .unset, .unset, .unset] [(.long v11), (.long v5), (.ref b1)])) rfl (by rw [hml]; rfl) (Steps.refl _) (argsL := [(.long v5), (.long v11)]) (rest := []) (lenOf own_pd__JJ_I rfl) rfl (by show 2 * 0 + _ ≤ _; exact Nat.le_of_eq rfl) (hb hby at_72) (fun _ _ => ⟨rfl, eq10, (by decide : 1 + 0 ≤ _), (by decide : 3 + 0 ≤ _)⟩)
  dsimp only [Pt.U, Pt.locs, Pt.cells, Pt.slots] at X13 l13 y13 z13 st13 hQ13
  subst l13 y13 z13
  obtain ⟨rfl, Nq13, eq13⟩ := hQ13
  have N13 := Fr.app N10 Nq13
  refine own_st (fun _ k => st13.trans k) ?_
  show own_Go p.tables e below RR (T13.setTop (mkF m 75 #[.val (.long q1), .second, .val (.long q3), .second, .val (.int p5), .val (.long (2147483647 : Int64)), .second, .val (.ref b1), .val (.long v5), .second, .val (.long v6), .second, .val (.long v7), .second, .val (.int (1 : Int32)), .val (.int h9f), .unset, .unset, .unset] [(.int h12f)]))
  refine own_st (fun _ k => XS.istore X13.here hx rfl (hb hby at_75) rfl (l' := #[.val (.long q1), .second, .val (.long q3), .second, .val (.int p5), .val (.long (2147483647 : Int64)), .second, .val (.ref b1), .val (.long v5), .second, .val (.long v6), .second, .val (.long v7), .second, .val (.int (1 : Int32)), .val (.int h9f), .val (.int h12f), .unset, .unset]) rfl (XS.iload X13.here hx rfl (hb hby at_77) rfl (XS.iconst X13.here hx rfl (hb hby at_79) k))) ?_
  show own_Go p.tables e below RR (T13.setTop (mkF m 80 #[.val (.long q1), .second, .val (.long q3), .second, .val (.int p5), .val (.long (2147483647 : Int64)), .second, .val (.ref b1), .val (.long v5), .second, .val (.long v6), .second, .val (.long v7), .second, .val (.int (1 : Int32)), .val (.int h9f), .val (.int h12f), .unset, .unset] [(.int (1 : Int32)), (.int (1 : Int32))]))
  refine own_st (fun _ k => XS.icmpYes X13.here hx rfl (pc0 := 80) (pc' := 85) rfl (hb hby at_80) rfl (teq (by decide)).1 (by decide) (by decide) (XS.iload X13.here hx rfl (hb hby at_85) rfl k)) ?_
  show own_Go p.tables e below RR (T13.setTop (mkF m 87 #[.val (.long q1), .second, .val (.long q3), .second, .val (.int p5), .val (.long (2147483647 : Int64)), .second, .val (.ref b1), .val (.long v5), .second, .val (.long v6), .second, .val (.long v7), .second, .val (.int (1 : Int32)), .val (.int h9f), .val (.int h12f), .unset, .unset] [(.int h9f)]))
  have hc87_14 : ¬ (h9f < (0 : Int32)) := own_hneg eh9f
  refine own_st (fun _ k => XS.ifNo X13.here hx rfl (hb hby at_87) rfl ((if0 _ _).trans (flt hc87_14).1) (XS.iload X13.here hx rfl (hb hby at_90) rfl (XS.i2l X13.here hx rfl (hb hby at_92) rfl (XS.lload X13.here hx rfl (hb hby at_93) rfl (XS.lcmp X13.here hx rfl (hb hby at_95) rfl k))))) ?_
  show own_Go p.tables e below RR (T13.setTop (mkF m 96 #[.val (.long q1), .second, .val (.long q3), .second, .val (.int p5), .val (.long (2147483647 : Int64)), .second, .val (.ref b1), .val (.long v5), .second, .val (.long v6), .second, .val (.long v7), .second, .val (.int (1 : Int32)), .val (.int h9f), .val (.int h12f), .unset, .unset] [(.int (lcmpW (h9f.toInt64) (2147483647 : Int64)))]))
  have hc96_15 : (h9f.toInt64) < (2147483647 : Int64) := own_hlt eh9f
  refine own_st (fun _ k => XS.ifYes X13.here hx rfl (pc0 := 96) (pc' := 101) rfl (hb hby at_96) rfl ((if0 _ _).trans (tlt ((lw_lt _ _).mpr hc96_15)).1) (by decide) (by decide) (XS.iload X13.here hx rfl (hb hby at_101) rfl (XS.i2l X13.here hx rfl (hb hby at_103) rfl (XS.iload X13.here hx rfl (hb hby at_104) rfl (XS.i2l X13.here hx rfl (hb hby at_106) rfl (XS.lmul X13.here hx rfl (hb hby at_107) rfl (XS.lload X13.here hx rfl (hb hby at_108) rfl k))))))) ?_
  show own_Go p.tables e below RR (T13.setTop (mkF m 110 #[.val (.long q1), .second, .val (.long q3), .second, .val (.int p5), .val (.long (2147483647 : Int64)), .second, .val (.ref b1), .val (.long v5), .second, .val (.long v6), .second, .val (.long v7), .second, .val (.int (1 : Int32)), .val (.int h9f), .val (.int h12f), .unset, .unset] [(.long (2147483647 : Int64)), (.long ((h9f.toInt64) * (h9f.toInt64)))]))
  refine own_st (fun _ k => XS.lrem X13.here hx rfl (hb hby at_110) rfl (by decide) k) ?_
  show own_Go p.tables e below RR (T13.setTop (mkF m 111 #[.val (.long q1), .second, .val (.long q3), .second, .val (.int p5), .val (.long (2147483647 : Int64)), .second, .val (.ref b1), .val (.long v5), .second, .val (.long v6), .second, .val (.long v7), .second, .val (.int (1 : Int32)), .val (.int h9f), .val (.int h12f), .unset, .unset] [(.long (((h9f.toInt64) * (h9f.toInt64)) - (((h9f.toInt64) * (h9f.toInt64)) / (2147483647 : Int64)) * (2147483647 : Int64)))]))
  rw [lrem_mod ((h9f.toInt64) * (h9f.toInt64)) (2147483647 : Int64)]
  show own_Go p.tables e below RR (T13.setTop (mkF m 111 #[.val (.long q1), .second, .val (.long q3), .second, .val (.int p5), .val (.long (2147483647 : Int64)), .second, .val (.ref b1), .val (.long v5), .second, .val (.long v6), .second, .val (.long v7), .second, .val (.int (1 : Int32)), .val (.int h9f), .val (.int h12f), .unset, .unset] [(.long (((h9f.toInt64) * (h9f.toInt64)) % (2147483647 : Int64)))]))
  refine own_st (fun _ k => XS.lstore X13.here hx rfl (hb hby at_111) rfl (l' := #[.val (.long q1), .second, .val (.long q3), .second, .val (.int p5), .val (.long (2147483647 : Int64)), .second, .val (.ref b1), .val (.long v5), .second, .val (.long v6), .second, .val (.long v7), .second, .val (.int (1 : Int32)), .val (.int h9f), .val (.int h12f), .val (.long (((h9f.toInt64) * (h9f.toInt64)) % (2147483647 : Int64))), .second]) rfl (XS.lload X13.here hx rfl (hb hby at_113) rfl (XS.lconst X13.here hx rfl (hb hby at_115) (XS.lcmp X13.here hx rfl (hb hby at_116) rfl k)))) ?_
  show own_Go p.tables e below RR (T13.setTop (mkF m 117 #[.val (.long q1), .second, .val (.long q3), .second, .val (.int p5), .val (.long (2147483647 : Int64)), .second, .val (.ref b1), .val (.long v5), .second, .val (.long v6), .second, .val (.long v7), .second, .val (.int (1 : Int32)), .val (.int h9f), .val (.int h12f), .val (.long (((h9f.toInt64) * (h9f.toInt64)) % (2147483647 : Int64))), .second] [(.int (lcmpW v7 (1 : Int64)))]))
  by_cases hc117_16 : v7 = (1 : Int64)
  · refine own_st (fun _ k => XS.ifNo X13.here hx rfl (hb hby at_117) rfl ((if0 _ _).trans (teq ((lw_eq _ _).mpr hc117_16)).2) (XS.lload X13.here hx rfl (hb hby at_120) rfl (XS.lload X13.here hx rfl (hb hby at_122) rfl (XS.lload X13.here hx rfl (hb hby at_124) rfl k)))) ?_
    show own_Go p.tables e below RR (T13.setTop (mkF m 126 #[.val (.long q1), .second, .val (.long q3), .second, .val (.int p5), .val (.long (2147483647 : Int64)), .second, .val (.ref b1), .val (.long v5), .second, .val (.long v6), .second, .val (.long v7), .second, .val (.int (1 : Int32)), .val (.int h9f), .val (.int h12f), .val (.long (((h9f.toInt64) * (h9f.toInt64)) % (2147483647 : Int64))), .second] [(.long (2147483647 : Int64)), (.long v5), (.long (((h9f.toInt64) * (h9f.toInt64)) % (2147483647 : Int64)))]))
    refine own_st (fun _ k => XS.lrem X13.here hx rfl (hb hby at_126) rfl (by decide) k) ?_
    show own_Go p.tables e below RR (T13.setTop (mkF m 127 #[.val (.long q1), .second, .val (.long q3), .second, .val (.int p5), .val (.long (2147483647 : Int64)), .second, .val (.ref b1), .val (.long v5), .second, .val (.long v6), .second, .val (.long v7), .second, .val (.int (1 : Int32)), .val (.int h9f), .val (.int h12f), .val (.long (((h9f.toInt64) * (h9f.toInt64)) % (2147483647 : Int64))), .second] [(.long (v5 - (v5 / (2147483647 : Int64)) * (2147483647 : Int64))), (.long (((h9f.toInt64) * (h9f.toInt64)) % (2147483647 : Int64)))]))
    rw [lrem_mod v5 (2147483647 : Int64)]
    show own_Go p.tables e below RR (T13.setTop (mkF m 127 #[.val (.long q1), .second, .val (.long q3), .second, .val (.int p5), .val (.long (2147483647 : Int64)), .second, .val (.ref b1), .val (.long v5), .second, .val (.long v6), .second, .val (.long v7), .second, .val (.int (1 : Int32)), .val (.int h9f), .val (.int h12f), .val (.long (((h9f.toInt64) * (h9f.toInt64)) % (2147483647 : Int64))), .second] [(.long (v5 % (2147483647 : Int64))), (.long (((h9f.toInt64) * (h9f.toInt64)) % (2147483647 : Int64)))]))
    refine own_st (fun _ k => XS.lmul X13.here hx rfl (hb hby at_127) rfl (XS.lload X13.here hx rfl (hb hby at_128) rfl k)) ?_
    show own_Go p.tables e below RR (T13.setTop (mkF m 130 #[.val (.long q1), .second, .val (.long q3), .second, .val (.int p5), .val (.long (2147483647 : Int64)), .second, .val (.ref b1), .val (.long v5), .second, .val (.long v6), .second, .val (.long v7), .second, .val (.int (1 : Int32)), .val (.int h9f), .val (.int h12f), .val (.long (((h9f.toInt64) * (h9f.toInt64)) % (2147483647 : Int64))), .second] [(.long (2147483647 : Int64)), (.long ((((h9f.toInt64) * (h9f.toInt64)) % (2147483647 : Int64)) * (v5 % (2147483647 : Int64))))]))
    refine own_st (fun _ k => XS.lrem X13.here hx rfl (hb hby at_130) rfl (by decide) k) ?_
    show own_Go p.tables e below RR (T13.setTop (mkF m 131 #[.val (.long q1), .second, .val (.long q3), .second, .val (.int p5), .val (.long (2147483647 : Int64)), .second, .val (.ref b1), .val (.long v5), .second, .val (.long v6), .second, .val (.long v7), .second, .val (.int (1 : Int32)), .val (.int h9f), .val (.int h12f), .val (.long (((h9f.toInt64) * (h9f.toInt64)) % (2147483647 : Int64))), .second] [(.long (((((h9f.toInt64) * (h9f.toInt64)) % (2147483647 : Int64)) * (v5 % (2147483647 : Int64))) - (((((h9f.toInt64) * (h9f.toInt64)) % (2147483647 : Int64)) * (v5 % (2147483647 : Int64))) / (2147483647 : Int64)) * (2147483647 : Int64)))]))
    rw [lrem_mod ((((h9f.toInt64) * (h9f.toInt64)) % (2147483647 : Int64)) * (v5 % (2147483647 : Int64))) (2147483647 : Int64)]
    show own_Go p.tables e below RR (T13.setTop (mkF m 131 #[.val (.long q1), .second, .val (.long q3), .second, .val (.int p5), .val (.long (2147483647 : Int64)), .second, .val (.ref b1), .val (.long v5), .second, .val (.long v6), .second, .val (.long v7), .second, .val (.int (1 : Int32)), .val (.int h9f), .val (.int h12f), .val (.long (((h9f.toInt64) * (h9f.toInt64)) % (2147483647 : Int64))), .second] [(.long (((((h9f.toInt64) * (h9f.toInt64)) % (2147483647 : Int64)) * (v5 % (2147483647 : Int64))) % (2147483647 : Int64)))]))
    refine own_st (fun _ k => XS.lstore X13.here hx rfl (hb hby at_131) rfl (l' := #[.val (.long q1), .second, .val (.long q3), .second, .val (.int p5), .val (.long (2147483647 : Int64)), .second, .val (.ref b1), .val (.long v5), .second, .val (.long v6), .second, .val (.long v7), .second, .val (.int (1 : Int32)), .val (.int h9f), .val (.int h12f), .val (.long (((((h9f.toInt64) * (h9f.toInt64)) % (2147483647 : Int64)) * (v5 % (2147483647 : Int64))) % (2147483647 : Int64))), .second]) rfl (XS.iload X13.here hx rfl (hb hby at_133) rfl (XS.i2l X13.here hx rfl (hb hby at_135) rfl (XS.lload X13.here hx rfl (hb hby at_136) rfl (XS.lcmp X13.here hx rfl (hb hby at_138) rfl k))))) ?_
    show own_Go p.tables e below RR (T13.setTop (mkF m 139 #[.val (.long q1), .second, .val (.long q3), .second, .val (.int p5), .val (.long (2147483647 : Int64)), .second, .val (.ref b1), .val (.long v5), .second, .val (.long v6), .second, .val (.long v7), .second, .val (.int (1 : Int32)), .val (.int h9f), .val (.int h12f), .val (.long (((((h9f.toInt64) * (h9f.toInt64)) % (2147483647 : Int64)) * (v5 % (2147483647 : Int64))) % (2147483647 : Int64))), .second] [(.int (lcmpW (h12f.toInt64) (((((h9f.toInt64) * (h9f.toInt64)) % (2147483647 : Int64)) * (v5 % (2147483647 : Int64))) % (2147483647 : Int64))))]))
    have hc139_17 : (h12f.toInt64) = (((((h9f.toInt64) * (h9f.toInt64)) % (2147483647 : Int64)) * (v5 % (2147483647 : Int64))) % (2147483647 : Int64)) := own_fin1 (own_nn gv5) (own_n62 gv6) (own_b01 gv7) gv11 hc117_16 eh9f eh12f
    refine own_st (fun _ k => XS.ifNo X13.here hx rfl (hb hby at_139) rfl ((if0 _ _).trans (teq ((lw_eq _ _).mpr hc139_17)).2) (XS.iconst X13.here hx rfl (hb hby at_142) (XS.goto X13.here hx rfl (pc0 := 143) (pc' := 147) rfl (hb hby at_143) (by decide) (by decide) k))) ?_
    show own_Go p.tables e below RR (T13.setTop (mkF m 147 #[.val (.long q1), .second, .val (.long q3), .second, .val (.int p5), .val (.long (2147483647 : Int64)), .second, .val (.ref b1), .val (.long v5), .second, .val (.long v6), .second, .val (.long v7), .second, .val (.int (1 : Int32)), .val (.int h9f), .val (.int h12f), .val (.long (((((h9f.toInt64) * (h9f.toInt64)) % (2147483647 : Int64)) * (v5 % (2147483647 : Int64))) % (2147483647 : Int64))), .second] [(.int (1 : Int32))]))
    obtain ⟨fs, hrt_, hrun, hended, hW, hsame⟩ := X13.leave (v := some (.int (1 : Int32))) (fun h => by rw [Bd.returns] at h; cases h)
    refine own_fin (retN X13 hx (t := .boolean) Bd.returns (by simp) (hb hby at_147) hrt_) (hRR _ ⟨_, hrun, hended, _, _, rfl, ?_, ⟨_, rfl⟩, hW, hsame.mono (by decide) (by decide)⟩)
    show own_Q0 Z q1 q3 p5 h0 n0 _ T13.heap _
    rw [eq13]
    exact ⟨rfl, N13⟩
  · refine own_st (fun _ k => XS.ifYes X13.here hx rfl (pc0 := 117) (pc' := 133) rfl (hb hby at_117) rfl ((if0 _ _).trans (feq (fun q => hc117_16 ((lw_eq _ _).mp q))).2) (by decide) (by decide) (XS.iload X13.here hx rfl (hb hby at_133) rfl (XS.i2l X13.here hx rfl (hb hby at_135) rfl (XS.lload X13.here hx rfl (hb hby at_136) rfl (XS.lcmp X13.here hx rfl (hb hby at_138) rfl k))))) ?_
    show own_Go p.tables e below RR (T13.setTop (mkF m 139 #[.val (.long q1), .second, .val (.long q3), .second, .val (.int p5), .val (.long (2147483647 : Int64)), .second, .val (.ref b1), .val (.long v5), .second, .val (.long v6), .second, .val (.long v7), .second, .val (.int (1 : Int32)), .val (.int h9f), .val (.int h12f), .val (.long (((h9f.toInt64) * (h9f.toInt64)) % (2147483647 : Int64))), .second] [(.int (lcmpW (h12f.toInt64) (((h9f.toInt64) * (h9f.toInt64)) % (2147483647 : Int64))))]))
    have hc139_18 : (h12f.toInt64) = (((h9f.toInt64) * (h9f.toInt64)) % (2147483647 : Int64)) := own_fin0 (own_n62 gv6) (own_b01 gv7) gv11 hc117_16 eh9f eh12f
    refine own_st (fun _ k => XS.ifNo X13.here hx rfl (hb hby at_139) rfl ((if0 _ _).trans (teq ((lw_eq _ _).mpr hc139_18)).2) (XS.iconst X13.here hx rfl (hb hby at_142) (XS.goto X13.here hx rfl (pc0 := 143) (pc' := 147) rfl (hb hby at_143) (by decide) (by decide) k))) ?_
    show own_Go p.tables e below RR (T13.setTop (mkF m 147 #[.val (.long q1), .second, .val (.long q3), .second, .val (.int p5), .val (.long (2147483647 : Int64)), .second, .val (.ref b1), .val (.long v5), .second, .val (.long v6), .second, .val (.long v7), .second, .val (.int (1 : Int32)), .val (.int h9f), .val (.int h12f), .val (.long (((h9f.toInt64) * (h9f.toInt64)) % (2147483647 : Int64))), .second] [(.int (1 : Int32))]))
    obtain ⟨fs, hrt_, hrun, hended, hW, hsame⟩ := X13.leave (v := some (.int (1 : Int32))) (fun h => by rw [Bd.returns] at h; cases h)
    refine own_fin (retN X13 hx (t := .boolean) Bd.returns (by simp) (hb hby at_147) hrt_) (hRR _ ⟨_, hrun, hended, _, _, rfl, ?_, ⟨_, rfl⟩, hW, hsame.mono (by decide) (by decide)⟩)
    show own_Q0 Z q1 q3 p5 h0 n0 _ T13.heap _
    rw [eq13]
    exact ⟨rfl, N13⟩
set_option maxRecDepth 65536 in
set_option maxHeartbeats 40000000 in
theorem own_comes {Post : Tables → Env → Array Value → State → Outcome → State → Prop} (hpost : ∀ tb e args s v u, (limb_1_1.after args s (.returned v) u = true ∧ limb_1_2.after args s (.returned v) u = true ∧ True) → FrameEnd s (.returned v) u (Jvm.fieldLocs frame_1_writes args s ++ Jvm.arrayLocs frame_1_arrays args s ++ Jvm.staticLocs frame_1_statics s) 16 128 → Post tb e args s (.returned v) u) :
    ArmFor flags0 classFile x code maxLocals ret World_1 tables_1 room_1 Calls_1 rest_1 Pre_1 Post := by
  intro l hfl _ _ p e ha hc hk s m args below hf hA hF happ hP
  obtain ⟨hcalls, hrest, hpre⟩ := hP
  obtain ⟨-, -, -, hnamed, -, -, -, hat⟩ := (Spec.applies_iff hf).mp happ
  obtain ⟨hg, hn⟩ := and_e (Cond.before_iff.mp (show (Jvm.Cond.and given_1 narrow_1).before args s = true from hpre))
  obtain ⟨u1a, u1b⟩ := and_e hg
  obtain ⟨u2a, u2b⟩ := and_e u1b
  obtain ⟨u3a, u3b⟩ := and_e u2b
  obtain ⟨w0, w1, w2, rfl⟩ : ∃ w0 w1 w2 : Value, args = #[w0, w1, w2] := by
    have hs : args.size = 3 := by simpa [Cond.value, given_1] using u1a
    obtain ⟨L⟩ := args
    match L, hs with
    | [w0, w1, w2], _ => exact ⟨w0, w1, w2, rfl⟩
  have hw := fun d (hd : d ∈ tables_1) => atoms_spec (ws := Jvm.Cond.code x code maxLocals ret :: tables_1) hat d (List.mem_cons_of_mem _ hd)
  have hfit : Fit s := fun {y c} hc i hi => by
    obtain ⟨ha, rfl⟩ := Array.getElem?_eq_some_iff.mp hc
    have q := List.all_eq_true.mp ((Array.all_eq_true_iff_forall_mem.mp hF) _ (Array.getElem_mem ha)) i (List.mem_range.mpr hi)
    simpa [Array.getElem?_eq_getElem hi] using q
  obtain ⟨i0, ei0⟩ := isL_v u2a
  obtain rfl : w0 = (.long i0) := Option.some.inj ei0
  obtain ⟨i1, ei1⟩ := isL_v u3a
  obtain rfl : w1 = (.long i1) := Option.some.inj ei1
  obtain ⟨i2, ei2⟩ := is_v u3b
  obtain rfl : w2 = (.int i2) := Option.some.inj ei2
  obtain ⟨n, o, h1, h2, h3, _, L, rfl, ⟨rfl, N⟩, hq⟩ := own_rm0 l s _ hw tables_1 i0 i1 i2 s.heap s.heap.size (Nat.le_refl _)  p e ha hc hk s m _ below hf ((Spec.applies_iff_loose hf).mp happ).1 ⟨rfl, State.Warmed39.refl s, rfl⟩ trivial
  refine ⟨n, _, h1, h2, h3, hpost _ _ _ _ _ _ ⟨Cond.after_iff.mpr rfl, Cond.after_iff.mpr (eq_i res_at (Term.int_eval (1)) rfl), trivial⟩ ⟨hq.1, hq.2.1, (hq.2.2.sift fun y hy => Or.inr (N y hy)).mono (by decide) (by decide)⟩⟩
theorem main_1_1 : Claimed_1_1 := own_comes fun _ _ _ _ _ _ h hF => ⟨h.1, hF⟩
theorem main_1_2 : Claimed_1_2 := own_comes fun _ _ _ _ _ _ h hF => ⟨h.2.1, hF⟩
end Jvm.Pilot.@@N@@
namespace Jvm.Pilot.@@N@@
open Jvm Jvm.ClassFile Sem Op Lib Jvm.Free Jvm.Stand Jvm.Pilot.@@N@@.Jvm.D
/-! MADE BY PROGRAM (witnessworld.py) out of the Statement's table words and the real class files: 7 classes; the members and pool entries that the words name. The judged class is class 1, her method 1. -/
namespace start1
open Jvm.ClassFile
def u (s : String) : CpInfo := .utf8 (stringToUtf16 s)
/-- a pool by its gaps: so many unusable entries, then the entry; so many at the end -/
def gap : Nat → List CpInfo → List CpInfo
  | 0, r => r
  | n + 1, r => .unusable :: gap n r
def poolList (es : List (Nat × CpInfo)) (last : Nat) : List CpInfo := es.foldr (fun e r => gap e.1 (e.2 :: r)) (gap last [])
def pool (es : List (Nat × CpInfo)) (last : Nat) : Array CpInfo := ⟨poolList es last⟩
def fileOf (pool : Array CpInfo) (this : Nat) (attrs : Array Attribute := #[]) (ms : Array MethodInfo := #[]) (fl : Nat := 33) (sup : Nat := 0) (ifs : Array Nat := #[]) (fds : Array FieldInfo := #[]) : ClassFile where
  minorVersion := 0
  majorVersion := 65
  constantPool := pool
  accessFlags := fl
  thisClass := this
  superClass := sup
  interfaces := ifs
  fields := fds
  methods := ms
  attributes := attrs
def plain (name : String) (sup : Option ClassId) : Class where
  name := name
  kind := .ordinary
  loader := none
  accessFlags := 33
  super := sup
  interfaces := #[]
  cf := none
  fields := #[]
  methods := #[]
  instanceTypes := #[]
  staticTypes := #[]
  resolved := #[]
  callSites := []
  init := .initialized
  statics := none
  mirror := none

def pool0 : Array CpInfo := pool [(5, u "<init>"), (0, u "()V"), (1, .class_ 10), (1, u "java/lang/Object")] 113

def k0c0 : Code := { maxStack := 0, maxLocals := 1, code := object_method_1_code, exceptionTable := #[], attributes := #[] }
def k0m0 : Method := { name := "<init>", desc := "()V", sig := { parameters := [], returnType := none }, accessFlags := 1, code := some k0c0 }
/-- java/lang/Object -/
def k0 : Class := { plain "java/lang/Object" none with
  accessFlags := 33
  interfaces := #[]
  cf := some (fileOf pool0 8 #[] #[{ accessFlags := 1, nameIndex := 5, descriptorIndex := 6, attributes := #[] }] 33 0 #[] #[])
  fields := #[]
  methods := #[k0m0]
  instanceTypes := #[]
  staticTypes := #[]
  resolved := Array.replicate 124 none
  statics := none }

def pool1 : Array CpInfo := pool [(2, .class_ 4), (1, u "java/lang/Object"), (0, u "<init>"), (0, u "()V"), (0, .long 2147483647), (1, .class_ 10), (0, u "com/example/powderhorn/powderhorn/dice/Prime"), (0, .integer 2147483647), (0, .methodref 9 13), (0, .nameAndType 5 14), (0, u "(II)V"), (2, .long 9223372036854775807), (1, .long 4611686018427387903), (1, .methodref 9 22), (0, .nameAndType 23 24), (0, u "power"), (0, u "(JJ)I"), (0, .long 2), (1, .class_ 28), (0, u "com/example/powderhorn/powderhorn/dice/PrimePowerPinLaw"), (2, u "law"), (0, u "(JJI)Z")] 3

def k1m0 : Method := { name := "<init>", desc := "()V", sig := { parameters := [], returnType := none }, accessFlags := 1, code := none }
def k1c1 : Code := { maxStack := 7, maxLocals := 19, code := code, exceptionTable := #[], attributes := #[] }
def k1m1 : Method := { name := "law", desc := "(JJI)Z", sig := { parameters := [.long, .long, .int], returnType := some .boolean }, accessFlags := 9, code := some k1c1 }
/-- com/example/powderhorn/powderhorn/dice/PrimePowerPinLaw -/
def k1 : Class := { plain "com/example/powderhorn/powderhorn/dice/PrimePowerPinLaw" (some 0) with
  accessFlags := 49
  interfaces := #[]
  cf := some (fileOf pool1 27 #[] #[{ accessFlags := 1, nameIndex := 5, descriptorIndex := 6, attributes := #[] }, { accessFlags := 9, nameIndex := 31, descriptorIndex := 32, attributes := #[] }] 49 2 #[] #[])
  fields := #[]
  methods := #[k1m0, k1m1]
  instanceTypes := #[]
  staticTypes := #[]
  resolved := Array.replicate 36 none
  statics := none }

def pool2 : Array CpInfo := pool [(1, .methodref 2 3), (0, .class_ 4), (0, .nameAndType 5 6), (0, u "java/lang/Object"), (0, u "<init>"), (0, u "()V"), (0, .fieldref 8 9), (0, .class_ 10), (0, .nameAndType 11 12), (0, u "com/example/powderhorn/powderhorn/dice/Prime"), (0, u "value"), (0, u "I"), (0, .fieldref 8 14), (0, .nameAndType 15 12), (0, u "longest"), (0, .methodref 8 17), (0, .nameAndType 18 19), (0, u "power"), (0, u "(JJ)I"), (0, .fieldref 8 21), (0, .nameAndType 22 12), (0, u "root"), (68, u "(II)V")] 31

def k2c0 : Code := { maxStack := 6, maxLocals := 4, code := prog_13_method_1_code, exceptionTable := #[], attributes := #[] }
def k2m0 : Method := { name := "<init>", desc := "(II)V", sig := { parameters := [.int, .int], returnType := none }, accessFlags := 0, code := some k2c0 }
def k2c1 : Code := { maxStack := 4, maxLocals := 11, code := prog_13_method_8_code, exceptionTable := #[], attributes := #[] }
def k2m1 : Method := { name := "power", desc := "(JJ)I", sig := { parameters := [.long, .long], returnType := some .int }, accessFlags := 0, code := some k2c1 }
/-- com/example/powderhorn/powderhorn/dice/Prime -/
def k2 : Class := { plain "com/example/powderhorn/powderhorn/dice/Prime" (some 0) with
  accessFlags := 48
  interfaces := #[]
  cf := some (fileOf pool2 8 #[] #[{ accessFlags := 0, nameIndex := 5, descriptorIndex := 91, attributes := #[] }, { accessFlags := 0, nameIndex := 18, descriptorIndex := 19, attributes := #[] }] 48 2 #[] #[{ accessFlags := 18, nameIndex := 11, descriptorIndex := 12, attributes := #[] }, { accessFlags := 18, nameIndex := 15, descriptorIndex := 12, attributes := #[] }, { accessFlags := 18, nameIndex := 22, descriptorIndex := 12, attributes := #[] }])
  fields := #[{ name := "value", type := .int, accessFlags := 18, slot := 0, constantValue := 0 }, { name := "longest", type := .int, accessFlags := 18, slot := 1, constantValue := 0 }, { name := "root", type := .int, accessFlags := 18, slot := 2, constantValue := 0 }]
  methods := #[k2m0, k2m1]
  instanceTypes := #[.int, .int, .int]
  staticTypes := #[]
  resolved := Array.replicate 123 none
  statics := none }

def pool3 : Array CpInfo := pool [(1, u "java/lang/Cloneable"), (0, .class_ 1), (0, u "java/lang/Object"), (0, .class_ 3)] 3

/-- java/lang/Cloneable -/
def k3 : Class := { plain "java/lang/Cloneable" (some 0) with
  accessFlags := 1537
  interfaces := #[]
  cf := some (fileOf pool3 2 #[] #[] 1537 4 #[] #[])
  fields := #[]
  methods := #[]
  instanceTypes := #[]
  staticTypes := #[]
  resolved := Array.replicate 8 none
  statics := none }

def pool4 : Array CpInfo := pool [(1, u "java/io/Serializable"), (0, .class_ 1), (0, u "java/lang/Object"), (0, .class_ 3)] 3

/-- java/io/Serializable -/
def k4 : Class := { plain "java/io/Serializable" (some 0) with
  accessFlags := 1537
  interfaces := #[]
  cf := some (fileOf pool4 2 #[] #[] 1537 4 #[] #[])
  fields := #[]
  methods := #[]
  instanceTypes := #[]
  staticTypes := #[]
  resolved := Array.replicate 8 none
  statics := none }

/-- the primitive byte -/
def k5 : Class := { plain "byte" none with kind := .primitive 'B', accessFlags := 0x411 }
/-- [B -/
def k6 : Class := { plain "[B" (some 0) with kind := .array 5 .byte, interfaces := #[3, 4], accessFlags := 1041 }

def heap : Heap := #[]
def classes : Array Class := #[k0, k1, k2, k3, k4, k5, k6]
def interned : List (Array UInt16 × Addr) := []
def slotsUsed : Nat := 0
def theMethod : MethodId := ⟨1, 1⟩
def args0 : Array Value := #[.long 5, .long 3, .int 1]
def aboutOver (below : List Frame) : State where
  vm := { classes := classes, interned := interned.toArray }
  heap := heap
  slotsUsed := slotsUsed
  threads := #[{ frames := .invoking theMethod args0 :: below }]
def below0 : List Frame := [.native { method := ⟨0, 0⟩, args := #[] }]
def about1 : State := aboutOver below0
def p0 : Program := .bare "" "" ""
def e0 : Env := launch0.env 0 0 0
theorem w_frames : about1.frames = Frame.invoking theMethod args0 :: below0 := rfl
set_option maxRecDepth 65536 in
theorem w_args : argsFit about1.vm theMethod args0 = true := by decide +kernel
set_option maxRecDepth 65536 in
theorem w_heap : heapFits about1 = true := by decide +kernel
set_option maxRecDepth 65536 in
theorem w_runnable : about1.curStatus? = some .runnable := by decide +kernel
set_option maxRecDepth 65536 in
theorem w_alone : about1.alone = true := by decide +kernel
set_option maxRecDepth 65536 in
theorem w_named : about1.methodNamed? x = some theMethod := by decide +kernel
set_option maxRecDepth 65536 in
theorem w_hears : about1.hears theMethod below0 = true := by decide +kernel
set_option maxRecDepth 65536 in
theorem w_ripe : about1.ripe theMethod args0 below0 = true := by decide +kernel
theorem w_running : about1.status = .running := rfl
set_option maxRecDepth 65536 in
theorem w_room : about1.hasRoom e0.platform room_1 = true :=
  launch0.hasRoom_least _ room_1 (by decide +kernel) (by decide +kernel) (by decide +kernel) (by decide +kernel) (by decide +kernel) (by decide +kernel)
theorem allAtoms_all (ts : List Jvm.Cond) (a : Array Jvm.Value) (st : Jvm.State) : (allAtoms ts).before a st = ts.all (fun c => c.before a st) := by
  induction ts with
  | nil => rfl
  | cons c t ih =>
    show (Jvm.Cond.and c (allAtoms t)).before a st = _
    rw [Jvm.Cond.before_and, ih, List.all_cons]
def words1 : List Jvm.Cond := Jvm.Cond.code x code maxLocals ret :: tables_1
/-- a 'code' word, met by the world's own term for the bytes: nothing is compared byte by byte -/
theorem code_word {y : MethodName} {bytes : ByteArray} {mx : Nat} {rt : Option FieldType} {a : Array Value} {s : State} {m : MethodId} {meth : Method} {c : Code} (h1 : s.methodNamed? y = some m) (h2 : s.vm.method? m = some meth) (h3 : meth.code = some c) (h4 : c.code = bytes)
    (h5 : (c.maxLocals == mx && c.exceptionTable.isEmpty && decide (c.maxStack ≤ mostOperands) && decide (meth.sig.returnType = rt) && !meth.locks && decide (parseMethodDescriptor y.desc = some meth.sig)) = true) : (Jvm.Cond.code y bytes mx rt).before a s = true := by
  simp only [Bool.and_eq_true, beq_iff_eq, Bool.not_eq_true', decide_eq_true_eq] at h5
  obtain ⟨⟨⟨⟨⟨g1, g2⟩, g3⟩, g4⟩, g5⟩, g6⟩ := h5
  simp [Cond.before, Cond.holds, Cond.value, h1, h2, h3, h4, g1, g2, g3, g4, g5, g6]
def isCode : Jvm.Cond → Bool
  | .code _ _ _ _ => true
  | _ => false
theorem all_split {L : List Jvm.Cond} {P : Jvm.Cond → Bool} (h1 : L.all (fun c => isCode c || P c) = true) (h2 : ∀ c ∈ L.filter isCode, P c = true) : L.all P = true := by
  refine List.all_eq_true.mpr fun c hc => ?_
  have h := List.all_eq_true.mp h1 c hc
  rcases Bool.eq_false_or_eq_true (isCode c) with hi | hi
  · exact h2 c (List.mem_filter.mpr ⟨hc, hi⟩)
  · simpa [hi] using h
set_option maxRecDepth 65536 in
theorem w_c0 : (Jvm.Cond.code x code maxLocals ret).before args0 about1 = true := code_word (m := ⟨1, 1⟩) (meth := k1m1) (c := k1c1) (by decide +kernel) rfl rfl rfl (by decide +kernel)
set_option maxRecDepth 65536 in
theorem w_c1 : (Jvm.Cond.code ({ cls := "com/example/powderhorn/powderhorn/dice/Prime", name := "<init>", desc := "(II)V" } : Jvm.MethodName) prog_13_method_1_code (4 : Nat) (Option.none : Option Jvm.ClassFile.FieldType)).before args0 about1 = true := code_word (m := ⟨2, 0⟩) (meth := k2m0) (c := k2c0) (by decide +kernel) rfl rfl rfl (by decide +kernel)
set_option maxRecDepth 65536 in
theorem w_c2 : (Jvm.Cond.code ({ cls := "java/lang/Object", name := "<init>", desc := "()V" } : Jvm.MethodName) object_method_1_code (1 : Nat) (Option.none : Option Jvm.ClassFile.FieldType)).before args0 about1 = true := code_word (m := ⟨0, 0⟩) (meth := k0m0) (c := k0c0) (by decide +kernel) rfl rfl rfl (by decide +kernel)
set_option maxRecDepth 65536 in
theorem w_c3 : (Jvm.Cond.code ({ cls := "com/example/powderhorn/powderhorn/dice/Prime", name := "power", desc := "(JJ)I" } : Jvm.MethodName) prog_13_method_8_code (11 : Nat) (Option.some Jvm.ClassFile.FieldType.int)).before args0 about1 = true := code_word (m := ⟨2, 1⟩) (meth := k2m1) (c := k2c1) (by decide +kernel) rfl rfl rfl (by decide +kernel)
def codes1 : List Jvm.Cond := [Jvm.Cond.code x code maxLocals ret, Jvm.Cond.code ({ cls := "com/example/powderhorn/powderhorn/dice/Prime", name := "<init>", desc := "(II)V" } : Jvm.MethodName) prog_13_method_1_code (4 : Nat) (Option.none : Option Jvm.ClassFile.FieldType), Jvm.Cond.code ({ cls := "java/lang/Object", name := "<init>", desc := "()V" } : Jvm.MethodName) object_method_1_code (1 : Nat) (Option.none : Option Jvm.ClassFile.FieldType), Jvm.Cond.code ({ cls := "com/example/powderhorn/powderhorn/dice/Prime", name := "power", desc := "(JJ)I" } : Jvm.MethodName) prog_13_method_8_code (11 : Nat) (Option.some Jvm.ClassFile.FieldType.int)]
set_option maxRecDepth 65536 in
theorem codes_eq : words1.filter isCode = codes1 := rfl
theorem w_codes : ∀ c ∈ words1.filter isCode, c.before args0 about1 = true := by
  rw [codes_eq]
  intro c hc
  simp only [codes1, List.mem_cons, List.not_mem_nil, or_false] at hc
  rcases hc with rfl | rfl | rfl | rfl
  · exact w_c0
  · exact w_c1
  · exact w_c2
  · exact w_c3
set_option maxRecDepth 65536 in
theorem w_t1 : (words1.take 24).all (fun c => isCode c || c.before args0 about1) = true := by decide +kernel
set_option maxRecDepth 65536 in
theorem w_t2 : (words1.drop 24).all (fun c => isCode c || c.before args0 about1) = true := by decide +kernel
theorem w_tables : (allAtoms (Jvm.Cond.code x code maxLocals ret :: tables_1)).before args0 about1 = true := by
  rw [allAtoms_all]
  show words1.all (fun c => c.before args0 about1) = true
  refine all_split ?_ w_codes
  rw [← List.take_append_drop 24 words1, List.all_append, w_t1, w_t2]
  rfl
set_option maxRecDepth 65536 in
theorem w_case : (Jvm.Cond.and given_1 narrow_1).before args0 about1 = true := by decide +kernel
theorem w_applies : (headSpec (Jvm.Cond.code x code maxLocals ret :: tables_1) room_1).applies x e0.platform about1 = true :=
  (Spec.applies_iff w_frames).mpr ⟨w_running, w_runnable, w_alone, w_named, w_hears, w_ripe, w_room, w_tables⟩
theorem atStart : AtStart classFile x code maxLocals ret World_1 tables_1 room_1 Calls_1 rest_1 Pre_1 launch0 p0 e0 about1 theMethod args0 below0 :=
  ⟨lists_1, trivial, launch0.admits_env _ _ _, launch0.least_env, fairChoices_fair.cas, fairChoices_fair.clock, w_frames, w_args, w_heap, w_applies, trivial, trivial, w_case⟩
end start1
theorem witness_1 : WitnessClaimed_1 := ⟨start1.p0, start1.e0, start1.about1, start1.theMethod, start1.args0, start1.below0, start1.atStart⟩
end Jvm.Pilot.@@N@@
