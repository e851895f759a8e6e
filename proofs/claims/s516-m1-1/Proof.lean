import JvmDerived
import JvmDerived.Pilot.@@N@@Statement
import JvmDerived.Pilot.@@N@@Code
set_option linter.unusedVariables false
set_option linter.unusedSimpArgs false
namespace Jvm.RoadKit
open Sem ClassFile Op Lib Jvm.Stand Jvm.Free Jvm.LawKit
section Own
/-- from u a state is reached where R holds -/
def own_Go (tb : Tables) (e : Env) (below : List Frame) (R : State → Prop) (u : State) : Prop := ∃ t, Steps tb e below u t ∧ R t
theorem own_st {tb : Tables} {e : Env} {below : List Frame} {R : State → Prop} {u v : State} (h : ∀ t, Steps tb e below v t → Steps tb e below u t) (g : own_Go tb e below R v) : own_Go tb e below R u := by
  obtain ⟨t, h1, h2⟩ := g
  exact ⟨t, h t h1, h2⟩
theorem own_fin {tb : Tables} {e : Env} {below : List Frame} {R : State → Prop} {u t : State} (h : Steps tb e below u t) (r : R t) : own_Go tb e below R u := ⟨t, h, r⟩
theorem own_in {tb : Tables} {e : Env} {below : List Frame} {u v : State} {P : State → Outcome → Prop} (h : ∀ t, Steps tb e below v t → Steps tb e below u t)
    (g : ∀ RR : State → Prop, (∀ t, (∃ o, t.status = .running ∧ P t o) → RR t) → own_Go tb e below RR v) : ∃ t o, Steps tb e below u t ∧ t.status = .running ∧ P t o := by
  obtain ⟨t, h1, o, h2, h3⟩ := g (fun t => ∃ o, t.status = .running ∧ P t o) fun _ q => q
  exact ⟨t, o, h t h1, h2, h3⟩
theorem own_ri {x y : Int32} (h : x = y) : some (Value.int x) = some (Value.int y) := h ▸ rfl
theorem own_rj {x y : Int64} (h : x = y) : some (Value.long x) = some (Value.long y) := h ▸ rfl
theorem own_rr {x y : Addr} (h : x = y) : some (Value.ref x) = some (Value.ref y) := h ▸ rfl
theorem own_eq_int {args : Array Value} {first s : State} {o : Option Outcome} {idx : List Nat} {a : Term} {k : Int32} (h : (Cond.eq a (.int k)).value args first o s idx = some true) : a.eval args first o idx s = some (.int k) := by
  simp only [Cond.value, Term.eval] at h
  cases ht : a.eval args first o idx s with
  | none => simp [ht] at h
  | some x => cases x <;> simp [ht] at h ⊢; exact h
theorem own_eq_long {args : Array Value} {first s : State} {o : Option Outcome} {idx : List Nat} {a : Term} {k : Int64} (h : (Cond.eq a (.long k)).value args first o s idx = some true) : a.eval args first o idx s = some (.long k) := by
  simp only [Cond.value, Term.eval] at h
  cases ht : a.eval args first o idx s with
  | none => simp [ht] at h
  | some x => cases x <;> simp [ht] at h ⊢; exact h
theorem own_staK {Z : State} {h h' : Heap} {C n d : String} {w : Value} {ws : List Addr} (F : Sta Z h C n d w) (K : Keep h h' ws) (q : ∀ x ∈ ws, ∀ cell : Cell, h[x]? = some cell → cell.vm.isStatics = false) : Sta Z h' C n d w := by
  obtain ⟨cf, i, k, f, st, cell, h1, h2, h3, h4, h5, h6, h7⟩ := F
  exact ⟨cf, i, k, f, st, cell, h1, h2, h3, h4, K.2.1 st cell h5 (fun m => by have := q st m cell h5; rw [h6] at this; cases this), h6, h7⟩
theorem own_selP {s : State} {args : Array Value} {y : MethodName} {n : Nat} (wi : (Cond.instantiable y.cls n).before args s = true) (hp : s.PrivateAt y) (hi : (Cond.instanceMethod y).before args s = true) (hy : y.cls ≠ "java/lang/invoke/MethodHandle" ∧ y.cls ≠ "java/lang/invoke/VarHandle") : (Cond.selects y.cls y y).before args s = true := by
  obtain ⟨c, k, h1, h2, -, h4, -⟩ := Cond.instantiable_spec wi
  exact selects_self_of_private h1 h2 (Bool.or_eq_false_iff.mp h4).1 hp hi hy
variable {p : Program} {l : Launch} {e : Env} {R : Room} {s : State} {m : MethodId} {args : Array Value} {below : List Frame} {meth : Method} {c : Code} {T : State} {locs : List Loc} {cells slots : Nat} {Z : State} {h : Heap}
theorem retI (X : Stand p l e R s m args below meth c T locs cells slots) (hx : p.tables.exec = Jvm.exec) {pc : Nat} {Ls : Array Slot} {z : Int32} {rest : List Value} (hret : meth.sig.returnType = some .int) (hd : decode c.code pc = .ok (.ireturn, 1)) {fs : List Frame}
    (hl : ∀ (f : JFrame) (acts : List Action), f.method = m → f.locked = none → f.entered = [] → (doReturn e (T.setTop f) acts (some (.int z))).1 = T.setFrames fs) : Steps p.tables e below (T.setTop (mkF m pc Ls (.int z :: rest))) (T.setFrames fs) :=
  retOut X hx hret rfl (Or.inl ⟨rfl, Or.inl rfl, z, rfl⟩) hd hl
theorem own_len (X : Stand p l e R s m args below meth c T locs cells slots) (hx : p.tables.exec = Jvm.exec) (hZ : Z.Warmed39 s.vm) (eT : T.heap = h) {a : Addr} {cl : Cell} {ty : FieldType} (A : Arr Z h a cl ty) {z : Int32} (S : cl.slots.size = z.toNatClampNeg) (N : ¬ z < 0)
    {g : JFrame} (hg : g.method = m) {rest : List Value} (hs : g.stack = .ref a :: rest) (hd : decode c.code g.pc = .ok (.arraylength, 1)) {target : State}
    (k : Steps p.tables e below (T.setTop { g with pc := g.pc + 1, stack := .int z :: rest }) target) : Steps p.tables e below (T.setTop g) target :=
  X.arraylength hx (by rw [eT]; exact A.1) (State.isArrayOf_alike hZ.alike A.2.1) hg hs hd target (by rw [len_of S N]; exact k)
end Own
end Jvm.RoadKit
namespace Jvm.Pilot.@@N@@
open Jvm Jvm.ClassFile Sem Op Lib Jvm.Free Jvm.Stand Jvm.LawKit Jvm.RoadKit Bundle Jvm.Pilot.@@N@@.Jvm.D
def own_low (w : Int32) : Int64 := ((1 : Int64) <<< (w &&& 0x3f).toInt64) - (1 : Int64)
def own_tok (x : Int64) (s : Int32) (m : Int64) : Int64 := ((x.toUInt64 >>> (s &&& 0x3f).toInt64.toUInt64).toInt64) &&& m
def own_field (v : Int64) (s w : Int32) : Int64 := (((v <<< ((((64 : Int32) - s) - w) &&& 0x3f).toInt64).toUInt64 >>> (((64 : Int32) - w) &&& 0x3f).toInt64.toUInt64).toInt64)
theorem own_sh64 {q : Int32} {k : Nat} (h : q.toInt = (k : Int)) (hk : k < 64) : (q &&& 0x3f).toInt64.toBitVec = BitVec.ofNat 64 k := by
  have e : q = Int32.ofNat k := by
    apply Int32.toInt_inj.mp
    rw [Int32.toInt_ofNat_of_lt (by omega)]
    exact h
  subst e
  have : ∀ k : Fin 64, (Int32.ofNat k.1 &&& 0x3f).toInt64.toBitVec = BitVec.ofNat 64 k.1 := by decide +kernel
  exact this ⟨k, hk⟩
theorem own_lushr_bv {x : Int64} {q : Int32} {k : Nat} (h : q.toInt = (k : Int)) (hk : k < 64) : ((x.toUInt64 >>> (q &&& 0x3f).toInt64.toUInt64).toInt64).toBitVec = x.toBitVec >>> k := by
  show x.toBitVec >>> ((q &&& 0x3f).toInt64.toBitVec % 64) = _
  rw [own_sh64 h hk]
  have : BitVec.ofNat 64 k % 64 = BitVec.ofNat 64 k := by
    apply BitVec.eq_of_toNat_eq
    simp [BitVec.toNat_umod]
    omega
  rw [this, BitVec.ushiftRight_eq', BitVec.toNat_ofNat, Nat.mod_eq_of_lt (by omega)]
theorem own_lshl_bv {x : Int64} {q : Int32} {k : Nat} (h : q.toInt = (k : Int)) (hk : k < 64) : (x <<< (q &&& 0x3f).toInt64).toBitVec = x.toBitVec <<< k := by
  show x.toBitVec <<< ((q &&& 0x3f).toInt64.toBitVec.smod 64) = _
  rw [own_sh64 h hk]
  have : ∀ k : Fin 64, (BitVec.ofNat 64 k.1).smod 64 = BitVec.ofNat 64 k.1 := by decide +kernel
  rw [this ⟨k, hk⟩, BitVec.shiftLeft_eq', BitVec.toNat_ofNat, Nat.mod_eq_of_lt (by omega)]
theorem own_low_bv {w : Int32} {k : Nat} (h : w.toInt = (k : Int)) (hk : k < 64) : (own_low w).toBitVec = BitVec.ofNat 64 (2 ^ k - 1) := by
  unfold own_low
  show ((1 : Int64) <<< (w &&& 0x3f).toInt64).toBitVec - 1 = _
  rw [own_lshl_bv h hk]
  have : ∀ k : Fin 64, ((1 : Int64).toBitVec <<< k.1) - 1 = BitVec.ofNat 64 (2 ^ k.1 - 1) := by decide +kernel
  exact this ⟨k, hk⟩
theorem own_low_bit {w : Int32} {k : Nat} (h : w.toInt = (k : Int)) (hk : k < 64) (i : Nat) : (own_low w).toBitVec.getLsbD i = decide (i < k) := by
  rw [own_low_bv h hk, BitVec.getLsbD_ofNat]
  by_cases q : i < 64
  · simp [q, Nat.testBit_two_pow_sub_one]
  · simp [q]
    omega
theorem own_fld {x : Int64} {s w : Int32} {S W : Nat} (hs : s.toInt = (S : Int)) (hw : w.toInt = (W : Int)) (h1 : 1 ≤ W) (h2 : W ≤ 63) (h3 : S + W ≤ 64) : own_tok x s (own_low w) = own_field x s w := by
  have a1 : ((64 : Int32) - s - w).toInt = ((64 - S - W : Nat) : Int) := by
    have e : (64 : Int32).toInt = 64 := by decide
    have b1 : ((64 : Int32) - s).toInt = 64 - S := by
      rw [Int32.toInt_sub, e, hs, Int.bmod_eq_of_le] <;> omega
    rw [Int32.toInt_sub, b1, hw, Int.bmod_eq_of_le] <;> omega
  have a2 : ((64 : Int32) - w).toInt = ((64 - W : Nat) : Int) := by
    have e : (64 : Int32).toInt = 64 := by decide
    rw [Int32.toInt_sub, e, hw, Int.bmod_eq_of_le] <;> omega
  apply Int64.toBitVec_inj.mp
  unfold own_tok own_field
  rw [own_lushr_bv a2 (by omega), own_lshl_bv a1 (by omega)]
  show ((x.toUInt64 >>> (s &&& 0x3f).toInt64.toUInt64).toInt64).toBitVec &&& (own_low w).toBitVec = _
  rw [own_lushr_bv hs (by omega)]
  apply BitVec.eq_of_getLsbD_eq
  intro i hi
  rw [BitVec.getLsbD_and, own_low_bit hw (by omega), BitVec.getLsbD_ushiftRight, BitVec.getLsbD_ushiftRight, BitVec.getLsbD_shiftLeft]
  by_cases c : i < W
  · have : 64 - W + i < 64 := by omega
    have c2 : ¬ 64 - W + i < 64 - S - W := by omega
    simp [c, this, c2]
    congr 1
    omega
  · have : ¬ 64 - W + i < 64 := by omega
    simp [c, this]
def own_ushr (x y : Int32) : Int32 := ((x.toUInt32 >>> (y &&& 31).toUInt32).toInt32)
def own_n4 (n i : Int32) : Int32 := n - ((i.toUInt32 >>> ((1 : Int32) &&& 31).toUInt32).toInt32)
def own_n3 (n i : Int32) : Int32 := if i < (4 : Int32) then own_n4 n i else own_n4 (n + (-2 : Int32)) ((i.toUInt32 >>> ((2 : Int32) &&& 31).toUInt32).toInt32)
def own_n2 (n i : Int32) : Int32 := if i < (16 : Int32) then own_n3 n i else own_n3 (n + (-4 : Int32)) ((i.toUInt32 >>> ((4 : Int32) &&& 31).toUInt32).toInt32)
def own_n1 (n i : Int32) : Int32 := if i < (256 : Int32) then own_n2 n i else own_n2 (n + (-8 : Int32)) ((i.toUInt32 >>> ((8 : Int32) &&& 31).toUInt32).toInt32)
def own_n0 (i : Int32) : Int32 := if i < (65536 : Int32) then own_n1 (31 : Int32) i else own_n1 ((31 : Int32) + (-16 : Int32)) ((i.toUInt32 >>> ((16 : Int32) &&& 31).toUInt32).toInt32)
def own_nlzI (i : Int32) : Int32 := if (0 : Int32) < i then own_n0 i else if i = (0 : Int32) then (32 : Int32) else (0 : Int32)
def own_nlzL (q : Int64) : Int32 := if (((q.toUInt64 >>> ((32 : Int32) &&& 0x3f).toInt64.toUInt64).toInt64).toInt32) = (0 : Int32) then (32 : Int32) + own_nlzI (q.toInt32) else own_nlzI (((q.toUInt64 >>> ((32 : Int32) &&& 0x3f).toInt64.toUInt64).toInt64).toInt32)
def own_maxI (a b : Int32) : Int32 := if a < b then b else a
def own_bits (q : Int64) : Int32 := own_maxI (1 : Int32) ((64 : Int32) - own_nlzL q)
def own_wo1 (a b : Int32) : Int32 := if (64 : Int32) < a + b then 1 else 0
def own_sh1 (a b : Int32) : Int32 := if (64 : Int32) < a + b then 0 else a
def own_us (a b : Int32) : Int32 := if (64 : Int32) < a + b then b else a + b
def own_wo2 (a b c : Int32) : Int32 := if (64 : Int32) < own_us a b + c then own_wo1 a b + 1 else own_wo1 a b
def own_sh2 (a b c : Int32) : Int32 := if (64 : Int32) < own_us a b + c then 0 else own_us a b
theorem own_le64 {w : Int32} (h : 1 ≤ w.toInt ∧ w.toInt ≤ 63) : ¬ (64 : Int32) < w := by
  rw [Int32.lt_iff_toInt_lt]
  have : (64 : Int32).toInt = 64 := by decide
  omega
theorem own_iof {w : Int32} {k : Nat} (h : w.toInt = (k : Int)) (hk : k < 1000) : w = Int32.ofNat k := by
  apply Int32.toInt_inj.mp
  rw [Int32.toInt_ofNat_of_lt (by omega)]
  exact h
theorem own_bits1 {w : Int32} (h : 1 ≤ w.toInt ∧ w.toInt ≤ 63) : own_bits ((1 : Int64) <<< ((w - (1 : Int32)) &&& 0x3f).toInt64) = w := by
  have : ∀ k : Fin 63, own_bits ((1 : Int64) <<< ((Int32.ofNat (k.1 + 1) - (1 : Int32)) &&& 0x3f).toInt64) = Int32.ofNat (k.1 + 1) := by decide +kernel
  obtain ⟨k, hk⟩ : ∃ k : Nat, w.toInt = ((k + 1 : Nat) : Int) := ⟨(w.toInt - 1).toNat, by omega⟩
  have e := own_iof hk (by omega)
  have := this ⟨k, by omega⟩
  rw [e]
  exact this
theorem own_sum {a b : Int32} (ha : 0 ≤ a.toInt ∧ a.toInt ≤ 200) (hb : 0 ≤ b.toInt ∧ b.toInt ≤ 200) : (a + b).toInt = a.toInt + b.toInt := by
  rw [Int32.toInt_add, Int.bmod_eq_of_le] <;> omega
theorem own_fit {a b : Int32} (ha : 0 ≤ a.toInt ∧ a.toInt ≤ 200) (hb : 0 ≤ b.toInt ∧ b.toInt ≤ 200) (h : ¬ (64 : Int32) < a + b) : a.toInt + b.toInt ≤ 64 := by
  rw [Int32.lt_iff_toInt_lt, own_sum ha hb] at h
  have : (64 : Int32).toInt = 64 := by decide
  omega
theorem own_fldI {x : Int64} {s w : Int32} (hs : 0 ≤ s.toInt) (hw : 1 ≤ w.toInt ∧ w.toInt ≤ 63) (h3 : s.toInt + w.toInt ≤ 64) : own_tok x s (own_low w) = own_field x s w :=
  own_fld (S := s.toInt.toNat) (W := w.toInt.toNat) (by omega) (by omega) (by omega) (by omega) (by omega)
theorem own_pn_java_lang_Integer : plainName "java/lang/Integer" = true := by first | (simp [plainName, overriddenIn]; done) | decide +kernel
theorem own_djdk_33_method_47_code_0 : decode jdk_33_method_47_code 0 = .ok (.iload_n 0, 1) := by decide +kernel
theorem own_djdk_33_method_47_code_1 : decode jdk_33_method_47_code 1 = .ok (.ifCond .gt 14, 3) := by decide +kernel
theorem own_djdk_33_method_47_code_15 : decode jdk_33_method_47_code 15 = .ok (.bipush 31, 2) := by decide +kernel
theorem own_djdk_33_method_47_code_17 : decode jdk_33_method_47_code 17 = .ok (.istore_n 1, 1) := by decide +kernel
theorem own_djdk_33_method_47_code_18 : decode jdk_33_method_47_code 18 = .ok (.iload_n 0, 1) := by decide +kernel
theorem own_djdk_33_method_47_code_19 : decode jdk_33_method_47_code 19 = .ok (.ldc_w 264, 3) := by decide +kernel
theorem own_djdk_33_method_47_code_22 : decode jdk_33_method_47_code 22 = .ok (.if_icmp .lt 11, 3) := by decide +kernel
theorem own_djdk_33_method_47_code_33 : decode jdk_33_method_47_code 33 = .ok (.iload_n 0, 1) := by decide +kernel
theorem own_djdk_33_method_47_code_34 : decode jdk_33_method_47_code 34 = .ok (.sipush 256, 3) := by decide +kernel
theorem own_djdk_33_method_47_code_37 : decode jdk_33_method_47_code 37 = .ok (.if_icmp .lt 11, 3) := by decide +kernel
theorem own_djdk_33_method_47_code_48 : decode jdk_33_method_47_code 48 = .ok (.iload_n 0, 1) := by decide +kernel
theorem own_djdk_33_method_47_code_49 : decode jdk_33_method_47_code 49 = .ok (.bipush 16, 2) := by decide +kernel
theorem own_djdk_33_method_47_code_51 : decode jdk_33_method_47_code 51 = .ok (.if_icmp .lt 10, 3) := by decide +kernel
theorem own_djdk_33_method_47_code_61 : decode jdk_33_method_47_code 61 = .ok (.iload_n 0, 1) := by decide +kernel
theorem own_djdk_33_method_47_code_62 : decode jdk_33_method_47_code 62 = .ok (.iconst 4, 1) := by decide +kernel
theorem own_djdk_33_method_47_code_63 : decode jdk_33_method_47_code 63 = .ok (.if_icmp .lt 10, 3) := by decide +kernel
theorem own_djdk_33_method_47_code_73 : decode jdk_33_method_47_code 73 = .ok (.iload_n 1, 1) := by decide +kernel
theorem own_djdk_33_method_47_code_74 : decode jdk_33_method_47_code 74 = .ok (.iload_n 0, 1) := by decide +kernel
theorem own_djdk_33_method_47_code_75 : decode jdk_33_method_47_code 75 = .ok (.iconst 1, 1) := by decide +kernel
theorem own_djdk_33_method_47_code_76 : decode jdk_33_method_47_code 76 = .ok (.iushr, 1) := by decide +kernel
theorem own_djdk_33_method_47_code_77 : decode jdk_33_method_47_code 77 = .ok (.isub, 1) := by decide +kernel
theorem own_djdk_33_method_47_code_78 : decode jdk_33_method_47_code 78 = .ok (.ireturn, 1) := by decide +kernel
theorem own_djdk_33_method_47_code_66 : decode jdk_33_method_47_code 66 = .ok (.iinc 1 (-2), 3) := by decide +kernel
theorem own_djdk_33_method_47_code_69 : decode jdk_33_method_47_code 69 = .ok (.iload_n 0, 1) := by decide +kernel
theorem own_djdk_33_method_47_code_70 : decode jdk_33_method_47_code 70 = .ok (.iconst 2, 1) := by decide +kernel
theorem own_djdk_33_method_47_code_71 : decode jdk_33_method_47_code 71 = .ok (.iushr, 1) := by decide +kernel
theorem own_djdk_33_method_47_code_72 : decode jdk_33_method_47_code 72 = .ok (.istore_n 0, 1) := by decide +kernel
theorem own_djdk_33_method_47_code_54 : decode jdk_33_method_47_code 54 = .ok (.iinc 1 (-4), 3) := by decide +kernel
theorem own_djdk_33_method_47_code_57 : decode jdk_33_method_47_code 57 = .ok (.iload_n 0, 1) := by decide +kernel
theorem own_djdk_33_method_47_code_58 : decode jdk_33_method_47_code 58 = .ok (.iconst 4, 1) := by decide +kernel
theorem own_djdk_33_method_47_code_59 : decode jdk_33_method_47_code 59 = .ok (.iushr, 1) := by decide +kernel
theorem own_djdk_33_method_47_code_60 : decode jdk_33_method_47_code 60 = .ok (.istore_n 0, 1) := by decide +kernel
theorem own_djdk_33_method_47_code_40 : decode jdk_33_method_47_code 40 = .ok (.iinc 1 (-8), 3) := by decide +kernel
theorem own_djdk_33_method_47_code_43 : decode jdk_33_method_47_code 43 = .ok (.iload_n 0, 1) := by decide +kernel
theorem own_djdk_33_method_47_code_44 : decode jdk_33_method_47_code 44 = .ok (.bipush 8, 2) := by decide +kernel
theorem own_djdk_33_method_47_code_46 : decode jdk_33_method_47_code 46 = .ok (.iushr, 1) := by decide +kernel
theorem own_djdk_33_method_47_code_47 : decode jdk_33_method_47_code 47 = .ok (.istore_n 0, 1) := by decide +kernel
theorem own_djdk_33_method_47_code_25 : decode jdk_33_method_47_code 25 = .ok (.iinc 1 (-16), 3) := by decide +kernel
theorem own_djdk_33_method_47_code_28 : decode jdk_33_method_47_code 28 = .ok (.iload_n 0, 1) := by decide +kernel
theorem own_djdk_33_method_47_code_29 : decode jdk_33_method_47_code 29 = .ok (.bipush 16, 2) := by decide +kernel
theorem own_djdk_33_method_47_code_31 : decode jdk_33_method_47_code 31 = .ok (.iushr, 1) := by decide +kernel
theorem own_djdk_33_method_47_code_32 : decode jdk_33_method_47_code 32 = .ok (.istore_n 0, 1) := by decide +kernel
theorem own_djdk_33_method_47_code_4 : decode jdk_33_method_47_code 4 = .ok (.iload_n 0, 1) := by decide +kernel
theorem own_djdk_33_method_47_code_5 : decode jdk_33_method_47_code 5 = .ok (.ifCond .ne 8, 3) := by decide +kernel
theorem own_djdk_33_method_47_code_8 : decode jdk_33_method_47_code 8 = .ok (.bipush 32, 2) := by decide +kernel
theorem own_djdk_33_method_47_code_10 : decode jdk_33_method_47_code 10 = .ok (.goto 4, 3) := by decide +kernel
theorem own_djdk_33_method_47_code_14 : decode jdk_33_method_47_code 14 = .ok (.ireturn, 1) := by decide +kernel
theorem own_djdk_33_method_47_code_13 : decode jdk_33_method_47_code 13 = .ok (.iconst 0, 1) := by decide +kernel
theorem own_efNI (m : MethodId) (p1 : Int32) : entryFrame m #[(.int p1)] 2 = mkF m 0 #[.val (.int p1), .unset] [] := by first | (simp [entryFrame, mkF, argsToLocals, Value.category]; done) | rfl
def own_QNI (Z : State) (p1 : Int32) (h0 : Heap) (n0 : Nat) (rv__ : Option Value) (h : Heap) (rL__ : List Loc) : Prop := rv__ = some (.int (own_nlzI p1)) ∧ Fr n0 rL__ ∧ h = h0
abbrev own_RNI : Room := { frames := 0, cells := 0, slots := 0, locals := 0 }
set_option maxRecDepth 65536 in
set_option maxHeartbeats 40000000 in
theorem own_rmNI (l : Launch) (Z : State) (a0 : Array Value) (hw : ∀ d ∈ tables_1, d.before a0 Z = true) (ws : List Jvm.Cond) (p1 : Int32) (h0 : Heap) (n0 : Nat) (Z0 : n0 ≤ h0.size)  :
    MetFree l (⟨"java/lang/Integer", "numberOfLeadingZeros", "(I)I"⟩ : MethodName) (head1 (Jvm.Cond.code (⟨"java/lang/Integer", "numberOfLeadingZeros", "(I)I"⟩ : MethodName) jdk_33_method_47_code 2 (some .int) :: ws) own_RNI) (fun aa__ U => aa__ = #[(.int p1)] ∧ Z.Warmed39 U.vm ∧ U.heap = h0) (fun _ _ _ _ _ => True) (fun _ U oc_ U' => ∃ rv__ rL__, oc_ = .returned rv__ ∧ own_QNI Z p1 h0 n0 rv__ U'.heap rL__ ∧ FrameEnd U oc_ U' rL__ own_RNI.cells own_RNI.slots) := by
  refine MetFree.of_bodySF (plainFor_of_name own_pn_java_lang_Integer) hisR ?_
  intro p e s m args below meth c s₁ Bd hml0 hP hK
  obtain ⟨rfl, hZ, hh⟩ := hP
  have hx := Bd.exec
  have hby := Bd.bytes
  have hml : c.maxLocals = 2 := hml0
  have hown : s.vm.findClass "java/lang/Integer" = some m.cls := findClass_of_methodNamed Bd.named
  have hnm := (name_of_methodNamed Bd.named Bd.method).1
  have X0 : Stand p l e own_RNI s m #[(.int p1)] below meth c s₁ [] 0 0 := Stand.of_body Bd
  have e0 : s₁.heap = h0 := by rw [← hh, Bd.state]; rfl
  have N0 := Fr.nil n0
  refine own_in (fun _ k => castTop (own_efNI m p1) k) ?_
  intro RR hRR
  show own_Go p.tables e below RR (s₁.setTop (mkF m 0 #[.val (.int p1), .unset] []))
  refine own_st (fun _ k => XS.iloadN X0.here hx rfl (hb hby own_djdk_33_method_47_code_0) rfl k) ?_
  show own_Go p.tables e below RR (s₁.setTop (mkF m 1 #[.val (.int p1), .unset] [(.int p1)]))
  by_cases hc1_1 : (0 : Int32) < p1
  · refine own_st (fun _ k => XS.ifYes X0.here hx rfl (pc0 := 1) (pc' := 15) rfl (hb hby own_djdk_33_method_47_code_1) rfl ((if0 _ _).trans (tlt hc1_1).2.2.1) (by decide) (by decide) (XS.bipush X0.here hx rfl (hb hby own_djdk_33_method_47_code_15) (XS.istoreN X0.here hx rfl (hb hby own_djdk_33_method_47_code_17) rfl (l' := #[.val (.int p1), .val (.int (31 : Int32))]) rfl (XS.iloadN X0.here hx rfl (hb hby own_djdk_33_method_47_code_18) rfl (X0.ldcwInt hx hown (mvT hZ (hw _ (List.mem_of_getElem? (i := 39) rfl))) (g := (mkF m 19 #[.val (.int p1), .val (.int (31 : Int32))] [(.int p1)])) rfl (hb hby own_djdk_33_method_47_code_19) _ k))))) ?_
    show own_Go p.tables e below RR (s₁.setTop (mkF m 22 #[.val (.int p1), .val (.int (31 : Int32))] [(.int (65536 : Int32)), (.int p1)]))
    by_cases hc22_2 : p1 < (65536 : Int32)
    · refine own_st (fun _ k => XS.icmpYes X0.here hx rfl (pc0 := 22) (pc' := 33) rfl (hb hby own_djdk_33_method_47_code_22) rfl (tlt hc22_2).1 (by decide) (by decide) (XS.iloadN X0.here hx rfl (hb hby own_djdk_33_method_47_code_33) rfl (XS.sipush X0.here hx rfl (hb hby own_djdk_33_method_47_code_34) k))) ?_
      show own_Go p.tables e below RR (s₁.setTop (mkF m 37 #[.val (.int p1), .val (.int (31 : Int32))] [(.int (256 : Int32)), (.int p1)]))
      by_cases hc37_3 : p1 < (256 : Int32)
      · refine own_st (fun _ k => XS.icmpYes X0.here hx rfl (pc0 := 37) (pc' := 48) rfl (hb hby own_djdk_33_method_47_code_37) rfl (tlt hc37_3).1 (by decide) (by decide) (XS.iloadN X0.here hx rfl (hb hby own_djdk_33_method_47_code_48) rfl (XS.bipush X0.here hx rfl (hb hby own_djdk_33_method_47_code_49) k))) ?_
        show own_Go p.tables e below RR (s₁.setTop (mkF m 51 #[.val (.int p1), .val (.int (31 : Int32))] [(.int (16 : Int32)), (.int p1)]))
        by_cases hc51_4 : p1 < (16 : Int32)
        · refine own_st (fun _ k => XS.icmpYes X0.here hx rfl (pc0 := 51) (pc' := 61) rfl (hb hby own_djdk_33_method_47_code_51) rfl (tlt hc51_4).1 (by decide) (by decide) (XS.iloadN X0.here hx rfl (hb hby own_djdk_33_method_47_code_61) rfl (XS.iconst X0.here hx rfl (hb hby own_djdk_33_method_47_code_62) k))) ?_
          show own_Go p.tables e below RR (s₁.setTop (mkF m 63 #[.val (.int p1), .val (.int (31 : Int32))] [(.int (4 : Int32)), (.int p1)]))
          by_cases hc63_5 : p1 < (4 : Int32)
          · refine own_st (fun _ k => XS.icmpYes X0.here hx rfl (pc0 := 63) (pc' := 73) rfl (hb hby own_djdk_33_method_47_code_63) rfl (tlt hc63_5).1 (by decide) (by decide) (XS.iloadN X0.here hx rfl (hb hby own_djdk_33_method_47_code_73) rfl (XS.iloadN X0.here hx rfl (hb hby own_djdk_33_method_47_code_74) rfl (XS.iconst X0.here hx rfl (hb hby own_djdk_33_method_47_code_75) (XS.iushr X0.here hx rfl (hb hby own_djdk_33_method_47_code_76) rfl (XS.isub X0.here hx rfl (hb hby own_djdk_33_method_47_code_77) rfl k)))))) ?_
            show own_Go p.tables e below RR (s₁.setTop (mkF m 78 #[.val (.int p1), .val (.int (31 : Int32))] [(.int ((31 : Int32) - ((p1.toUInt32 >>> ((1 : Int32) &&& 31).toUInt32).toInt32)))]))
            obtain ⟨fs, hrt_, hrun, hended, hW, hsame⟩ := X0.leave (v := some (.int ((31 : Int32) - ((p1.toUInt32 >>> ((1 : Int32) &&& 31).toUInt32).toInt32)))) (fun h => by rw [Bd.returns] at h; cases h)
            refine own_fin (retI X0 hx Bd.returns (hb hby own_djdk_33_method_47_code_78) hrt_) (hRR _ ⟨_, hrun, hended, _, _, rfl, ?_, ⟨_, rfl⟩, hW, hsame.mono (by decide) (by decide)⟩)
            show own_QNI Z p1 h0 n0 _ s₁.heap _
            rw [e0]
            exact ⟨own_ri (by first | (simp only [own_nlzI, own_n0, own_n1, own_n2, own_n3, own_n4, hc1_1, hc22_2, hc37_3, hc51_4, hc63_5, if_true, if_false]; done) | (subst_vars; decide)), N0, rfl⟩
          · refine own_st (fun _ k => XS.icmpNo X0.here hx rfl (hb hby own_djdk_33_method_47_code_63) rfl (flt hc63_5).1 (XS.iinc X0.here hx rfl (hb hby own_djdk_33_method_47_code_66) rfl (l' := #[.val (.int p1), .val (.int ((31 : Int32) + (-2 : Int32)))]) rfl (XS.iloadN X0.here hx rfl (hb hby own_djdk_33_method_47_code_69) rfl (XS.iconst X0.here hx rfl (hb hby own_djdk_33_method_47_code_70) (XS.iushr X0.here hx rfl (hb hby own_djdk_33_method_47_code_71) rfl (XS.istoreN X0.here hx rfl (hb hby own_djdk_33_method_47_code_72) rfl (l' := #[.val (.int ((p1.toUInt32 >>> ((2 : Int32) &&& 31).toUInt32).toInt32)), .val (.int ((31 : Int32) + (-2 : Int32)))]) rfl (XS.iloadN X0.here hx rfl (hb hby own_djdk_33_method_47_code_73) rfl (XS.iloadN X0.here hx rfl (hb hby own_djdk_33_method_47_code_74) rfl k)))))))) ?_
            show own_Go p.tables e below RR (s₁.setTop (mkF m 75 #[.val (.int ((p1.toUInt32 >>> ((2 : Int32) &&& 31).toUInt32).toInt32)), .val (.int ((31 : Int32) + (-2 : Int32)))] [(.int ((p1.toUInt32 >>> ((2 : Int32) &&& 31).toUInt32).toInt32)), (.int ((31 : Int32) + (-2 : Int32)))]))
            refine own_st (fun _ k => XS.iconst X0.here hx rfl (hb hby own_djdk_33_method_47_code_75) (XS.iushr X0.here hx rfl (hb hby own_djdk_33_method_47_code_76) rfl (XS.isub X0.here hx rfl (hb hby own_djdk_33_method_47_code_77) rfl k))) ?_
            show own_Go p.tables e below RR (s₁.setTop (mkF m 78 #[.val (.int ((p1.toUInt32 >>> ((2 : Int32) &&& 31).toUInt32).toInt32)), .val (.int ((31 : Int32) + (-2 : Int32)))] [(.int (((31 : Int32) + (-2 : Int32)) - ((((p1.toUInt32 >>> ((2 : Int32) &&& 31).toUInt32).toInt32).toUInt32 >>> ((1 : Int32) &&& 31).toUInt32).toInt32)))]))
            obtain ⟨fs, hrt_, hrun, hended, hW, hsame⟩ := X0.leave (v := some (.int (((31 : Int32) + (-2 : Int32)) - ((((p1.toUInt32 >>> ((2 : Int32) &&& 31).toUInt32).toInt32).toUInt32 >>> ((1 : Int32) &&& 31).toUInt32).toInt32)))) (fun h => by rw [Bd.returns] at h; cases h)
            refine own_fin (retI X0 hx Bd.returns (hb hby own_djdk_33_method_47_code_78) hrt_) (hRR _ ⟨_, hrun, hended, _, _, rfl, ?_, ⟨_, rfl⟩, hW, hsame.mono (by decide) (by decide)⟩)
            show own_QNI Z p1 h0 n0 _ s₁.heap _
            rw [e0]
            exact ⟨own_ri (by first | (simp only [own_nlzI, own_n0, own_n1, own_n2, own_n3, own_n4, hc1_1, hc22_2, hc37_3, hc51_4, hc63_5, if_true, if_false]; done) | (subst_vars; decide)), N0, rfl⟩
        · refine own_st (fun _ k => XS.icmpNo X0.here hx rfl (hb hby own_djdk_33_method_47_code_51) rfl (flt hc51_4).1 (XS.iinc X0.here hx rfl (hb hby own_djdk_33_method_47_code_54) rfl (l' := #[.val (.int p1), .val (.int ((31 : Int32) + (-4 : Int32)))]) rfl (XS.iloadN X0.here hx rfl (hb hby own_djdk_33_method_47_code_57) rfl (XS.iconst X0.here hx rfl (hb hby own_djdk_33_method_47_code_58) (XS.iushr X0.here hx rfl (hb hby own_djdk_33_method_47_code_59) rfl (XS.istoreN X0.here hx rfl (hb hby own_djdk_33_method_47_code_60) rfl (l' := #[.val (.int ((p1.toUInt32 >>> ((4 : Int32) &&& 31).toUInt32).toInt32)), .val (.int ((31 : Int32) + (-4 : Int32)))]) rfl (XS.iloadN X0.here hx rfl (hb hby own_djdk_33_method_47_code_61) rfl (XS.iconst X0.here hx rfl (hb hby own_djdk_33_method_47_code_62) k)))))))) ?_
          show own_Go p.tables e below RR (s₁.setTop (mkF m 63 #[.val (.int ((p1.toUInt32 >>> ((4 : Int32) &&& 31).toUInt32).toInt32)), .val (.int ((31 : Int32) + (-4 : Int32)))] [(.int (4 : Int32)), (.int ((p1.toUInt32 >>> ((4 : Int32) &&& 31).toUInt32).toInt32))]))
          by_cases hc63_6 : ((p1.toUInt32 >>> ((4 : Int32) &&& 31).toUInt32).toInt32) < (4 : Int32)
          · refine own_st (fun _ k => XS.icmpYes X0.here hx rfl (pc0 := 63) (pc' := 73) rfl (hb hby own_djdk_33_method_47_code_63) rfl (tlt hc63_6).1 (by decide) (by decide) (XS.iloadN X0.here hx rfl (hb hby own_djdk_33_method_47_code_73) rfl (XS.iloadN X0.here hx rfl (hb hby own_djdk_33_method_47_code_74) rfl (XS.iconst X0.here hx rfl (hb hby own_djdk_33_method_47_code_75) (XS.iushr X0.here hx rfl (hb hby own_djdk_33_method_47_code_76) rfl (XS.isub X0.here hx rfl (hb hby own_djdk_33_method_47_code_77) rfl k)))))) ?_
            show own_Go p.tables e below RR (s₁.setTop (mkF m 78 #[.val (.int ((p1.toUInt32 >>> ((4 : Int32) &&& 31).toUInt32).toInt32)), .val (.int ((31 : Int32) + (-4 : Int32)))] [(.int (((31 : Int32) + (-4 : Int32)) - ((((p1.toUInt32 >>> ((4 : Int32) &&& 31).toUInt32).toInt32).toUInt32 >>> ((1 : Int32) &&& 31).toUInt32).toInt32)))]))
            obtain ⟨fs, hrt_, hrun, hended, hW, hsame⟩ := X0.leave (v := some (.int (((31 : Int32) + (-4 : Int32)) - ((((p1.toUInt32 >>> ((4 : Int32) &&& 31).toUInt32).toInt32).toUInt32 >>> ((1 : Int32) &&& 31).toUInt32).toInt32)))) (fun h => by rw [Bd.returns] at h; cases h)
            refine own_fin (retI X0 hx Bd.returns (hb hby own_djdk_33_method_47_code_78) hrt_) (hRR _ ⟨_, hrun, hended, _, _, rfl, ?_, ⟨_, rfl⟩, hW, hsame.mono (by decide) (by decide)⟩)
            show own_QNI Z p1 h0 n0 _ s₁.heap _
            rw [e0]
            exact ⟨own_ri (by first | (simp only [own_nlzI, own_n0, own_n1, own_n2, own_n3, own_n4, hc1_1, hc22_2, hc37_3, hc51_4, hc63_6, if_true, if_false]; done) | (subst_vars; decide)), N0, rfl⟩
          · refine own_st (fun _ k => XS.icmpNo X0.here hx rfl (hb hby own_djdk_33_method_47_code_63) rfl (flt hc63_6).1 (XS.iinc X0.here hx rfl (hb hby own_djdk_33_method_47_code_66) rfl (l' := #[.val (.int ((p1.toUInt32 >>> ((4 : Int32) &&& 31).toUInt32).toInt32)), .val (.int (((31 : Int32) + (-4 : Int32)) + (-2 : Int32)))]) rfl (XS.iloadN X0.here hx rfl (hb hby own_djdk_33_method_47_code_69) rfl (XS.iconst X0.here hx rfl (hb hby own_djdk_33_method_47_code_70) (XS.iushr X0.here hx rfl (hb hby own_djdk_33_method_47_code_71) rfl (XS.istoreN X0.here hx rfl (hb hby own_djdk_33_method_47_code_72) rfl (l' := #[.val (.int ((((p1.toUInt32 >>> ((4 : Int32) &&& 31).toUInt32).toInt32).toUInt32 >>> ((2 : Int32) &&& 31).toUInt32).toInt32)), .val (.int (((31 : Int32) + (-4 : Int32)) + (-2 : Int32)))]) rfl (XS.iloadN X0.here hx rfl (hb hby own_djdk_33_method_47_code_73) rfl (XS.iloadN X0.here hx rfl (hb hby own_djdk_33_method_47_code_74) rfl k)))))))) ?_
            show own_Go p.tables e below RR (s₁.setTop (mkF m 75 #[.val (.int ((((p1.toUInt32 >>> ((4 : Int32) &&& 31).toUInt32).toInt32).toUInt32 >>> ((2 : Int32) &&& 31).toUInt32).toInt32)), .val (.int (((31 : Int32) + (-4 : Int32)) + (-2 : Int32)))] [(.int ((((p1.toUInt32 >>> ((4 : Int32) &&& 31).toUInt32).toInt32).toUInt32 >>> ((2 : Int32) &&& 31).toUInt32).toInt32)), (.int (((31 : Int32) + (-4 : Int32)) + (-2 : Int32)))]))
            refine own_st (fun _ k => XS.iconst X0.here hx rfl (hb hby own_djdk_33_method_47_code_75) (XS.iushr X0.here hx rfl (hb hby own_djdk_33_method_47_code_76) rfl (XS.isub X0.here hx rfl (hb hby own_djdk_33_method_47_code_77) rfl k))) ?_
            show own_Go p.tables e below RR (s₁.setTop (mkF m 78 #[.val (.int ((((p1.toUInt32 >>> ((4 : Int32) &&& 31).toUInt32).toInt32).toUInt32 >>> ((2 : Int32) &&& 31).toUInt32).toInt32)), .val (.int (((31 : Int32) + (-4 : Int32)) + (-2 : Int32)))] [(.int ((((31 : Int32) + (-4 : Int32)) + (-2 : Int32)) - ((((((p1.toUInt32 >>> ((4 : Int32) &&& 31).toUInt32).toInt32).toUInt32 >>> ((2 : Int32) &&& 31).toUInt32).toInt32).toUInt32 >>> ((1 : Int32) &&& 31).toUInt32).toInt32)))]))
            obtain ⟨fs, hrt_, hrun, hended, hW, hsame⟩ := X0.leave (v := some (.int ((((31 : Int32) + (-4 : Int32)) + (-2 : Int32)) - ((((((p1.toUInt32 >>> ((4 : Int32) &&& 31).toUInt32).toInt32).toUInt32 >>> ((2 : Int32) &&& 31).toUInt32).toInt32).toUInt32 >>> ((1 : Int32) &&& 31).toUInt32).toInt32)))) (fun h => by rw [Bd.returns] at h; cases h)
            refine own_fin (retI X0 hx Bd.returns (hb hby own_djdk_33_method_47_code_78) hrt_) (hRR _ ⟨_, hrun, hended, _, _, rfl, ?_, ⟨_, rfl⟩, hW, hsame.mono (by decide) (by decide)⟩)
            show own_QNI Z p1 h0 n0 _ s₁.heap _
            rw [e0]
            exact ⟨own_ri (by first | (simp only [own_nlzI, own_n0, own_n1, own_n2, own_n3, own_n4, hc1_1, hc22_2, hc37_3, hc51_4, hc63_6, if_true, if_false]; done) | (subst_vars; decide)), N0, rfl⟩
      · refine own_st (fun _ k => XS.icmpNo X0.here hx rfl (hb hby own_djdk_33_method_47_code_37) rfl (flt hc37_3).1 (XS.iinc X0.here hx rfl (hb hby own_djdk_33_method_47_code_40) rfl (l' := #[.val (.int p1), .val (.int ((31 : Int32) + (-8 : Int32)))]) rfl (XS.iloadN X0.here hx rfl (hb hby own_djdk_33_method_47_code_43) rfl (XS.bipush X0.here hx rfl (hb hby own_djdk_33_method_47_code_44) (XS.iushr X0.here hx rfl (hb hby own_djdk_33_method_47_code_46) rfl (XS.istoreN X0.here hx rfl (hb hby own_djdk_33_method_47_code_47) rfl (l' := #[.val (.int ((p1.toUInt32 >>> ((8 : Int32) &&& 31).toUInt32).toInt32)), .val (.int ((31 : Int32) + (-8 : Int32)))]) rfl (XS.iloadN X0.here hx rfl (hb hby own_djdk_33_method_47_code_48) rfl (XS.bipush X0.here hx rfl (hb hby own_djdk_33_method_47_code_49) k)))))))) ?_
        show own_Go p.tables e below RR (s₁.setTop (mkF m 51 #[.val (.int ((p1.toUInt32 >>> ((8 : Int32) &&& 31).toUInt32).toInt32)), .val (.int ((31 : Int32) + (-8 : Int32)))] [(.int (16 : Int32)), (.int ((p1.toUInt32 >>> ((8 : Int32) &&& 31).toUInt32).toInt32))]))
        by_cases hc51_7 : ((p1.toUInt32 >>> ((8 : Int32) &&& 31).toUInt32).toInt32) < (16 : Int32)
        · refine own_st (fun _ k => XS.icmpYes X0.here hx rfl (pc0 := 51) (pc' := 61) rfl (hb hby own_djdk_33_method_47_code_51) rfl (tlt hc51_7).1 (by decide) (by decide) (XS.iloadN X0.here hx rfl (hb hby own_djdk_33_method_47_code_61) rfl (XS.iconst X0.here hx rfl (hb hby own_djdk_33_method_47_code_62) k))) ?_
          show own_Go p.tables e below RR (s₁.setTop (mkF m 63 #[.val (.int ((p1.toUInt32 >>> ((8 : Int32) &&& 31).toUInt32).toInt32)), .val (.int ((31 : Int32) + (-8 : Int32)))] [(.int (4 : Int32)), (.int ((p1.toUInt32 >>> ((8 : Int32) &&& 31).toUInt32).toInt32))]))
          by_cases hc63_8 : ((p1.toUInt32 >>> ((8 : Int32) &&& 31).toUInt32).toInt32) < (4 : Int32)
          · refine own_st (fun _ k => XS.icmpYes X0.here hx rfl (pc0 := 63) (pc' := 73) rfl (hb hby own_djdk_33_method_47_code_63) rfl (tlt hc63_8).1 (by decide) (by decide) (XS.iloadN X0.here hx rfl (hb hby own_djdk_33_method_47_code_73) rfl (XS.iloadN X0.here hx rfl (hb hby own_djdk_33_method_47_code_74) rfl (XS.iconst X0.here hx rfl (hb hby own_djdk_33_method_47_code_75) (XS.iushr X0.here hx rfl (hb hby own_djdk_33_method_47_code_76) rfl (XS.isub X0.here hx rfl (hb hby own_djdk_33_method_47_code_77) rfl k)))))) ?_
            show own_Go p.tables e below RR (s₁.setTop (mkF m 78 #[.val (.int ((p1.toUInt32 >>> ((8 : Int32) &&& 31).toUInt32).toInt32)), .val (.int ((31 : Int32) + (-8 : Int32)))] [(.int (((31 : Int32) + (-8 : Int32)) - ((((p1.toUInt32 >>> ((8 : Int32) &&& 31).toUInt32).toInt32).toUInt32 >>> ((1 : Int32) &&& 31).toUInt32).toInt32)))]))
            obtain ⟨fs, hrt_, hrun, hended, hW, hsame⟩ := X0.leave (v := some (.int (((31 : Int32) + (-8 : Int32)) - ((((p1.toUInt32 >>> ((8 : Int32) &&& 31).toUInt32).toInt32).toUInt32 >>> ((1 : Int32) &&& 31).toUInt32).toInt32)))) (fun h => by rw [Bd.returns] at h; cases h)
            refine own_fin (retI X0 hx Bd.returns (hb hby own_djdk_33_method_47_code_78) hrt_) (hRR _ ⟨_, hrun, hended, _, _, rfl, ?_, ⟨_, rfl⟩, hW, hsame.mono (by decide) (by decide)⟩)
            show own_QNI Z p1 h0 n0 _ s₁.heap _
            rw [e0]
            exact ⟨own_ri (by first | (simp only [own_nlzI, own_n0, own_n1, own_n2, own_n3, own_n4, hc1_1, hc22_2, hc37_3, hc51_7, hc63_8, if_true, if_false]; done) | (subst_vars; decide)), N0, rfl⟩
          · refine own_st (fun _ k => XS.icmpNo X0.here hx rfl (hb hby own_djdk_33_method_47_code_63) rfl (flt hc63_8).1 (XS.iinc X0.here hx rfl (hb hby own_djdk_33_method_47_code_66) rfl (l' := #[.val (.int ((p1.toUInt32 >>> ((8 : Int32) &&& 31).toUInt32).toInt32)), .val (.int (((31 : Int32) + (-8 : Int32)) + (-2 : Int32)))]) rfl (XS.iloadN X0.here hx rfl (hb hby own_djdk_33_method_47_code_69) rfl (XS.iconst X0.here hx rfl (hb hby own_djdk_33_method_47_code_70) (XS.iushr X0.here hx rfl (hb hby own_djdk_33_method_47_code_71) rfl (XS.istoreN X0.here hx rfl (hb hby own_djdk_33_method_47_code_72) rfl (l' := #[.val (.int ((((p1.toUInt32 >>> ((8 : Int32) &&& 31).toUInt32).toInt32).toUInt32 >>> ((2 : Int32) &&& 31).toUInt32).toInt32)), .val (.int (((31 : Int32) + (-8 : Int32)) + (-2 : Int32)))]) rfl (XS.iloadN X0.here hx rfl (hb hby own_djdk_33_method_47_code_73) rfl (XS.iloadN X0.here hx rfl (hb hby own_djdk_33_method_47_code_74) rfl k)))))))) ?_
            show own_Go p.tables e below RR (s₁.setTop (mkF m 75 #[.val (.int ((((p1.toUInt32 >>> ((8 : Int32) &&& 31).toUInt32).toInt32).toUInt32 >>> ((2 : Int32) &&& 31).toUInt32).toInt32)), .val (.int (((31 : Int32) + (-8 : Int32)) + (-2 : Int32)))] [(.int ((((p1.toUInt32 >>> ((8 : Int32) &&& 31).toUInt32).toInt32).toUInt32 >>> ((2 : Int32) &&& 31).toUInt32).toInt32)), (.int (((31 : Int32) + (-8 : Int32)) + (-2 : Int32)))]))
            refine own_st (fun _ k => XS.iconst X0.here hx rfl (hb hby own_djdk_33_method_47_code_75) (XS.iushr X0.here hx rfl (hb hby own_djdk_33_method_47_code_76) rfl (XS.isub X0.here hx rfl (hb hby own_djdk_33_method_47_code_77) rfl k))) ?_
            show own_Go p.tables e below RR (s₁.setTop (mkF m 78 #[.val (.int ((((p1.toUInt32 >>> ((8 : Int32) &&& 31).toUInt32).toInt32).toUInt32 >>> ((2 : Int32) &&& 31).toUInt32).toInt32)), .val (.int (((31 : Int32) + (-8 : Int32)) + (-2 : Int32)))] [(.int ((((31 : Int32) + (-8 : Int32)) + (-2 : Int32)) - ((((((p1.toUInt32 >>> ((8 : Int32) &&& 31).toUInt32).toInt32).toUInt32 >>> ((2 : Int32) &&& 31).toUInt32).toInt32).toUInt32 >>> ((1 : Int32) &&& 31).toUInt32).toInt32)))]))
            obtain ⟨fs, hrt_, hrun, hended, hW, hsame⟩ := X0.leave (v := some (.int ((((31 : Int32) + (-8 : Int32)) + (-2 : Int32)) - ((((((p1.toUInt32 >>> ((8 : Int32) &&& 31).toUInt32).toInt32).toUInt32 >>> ((2 : Int32) &&& 31).toUInt32).toInt32).toUInt32 >>> ((1 : Int32) &&& 31).toUInt32).toInt32)))) (fun h => by rw [Bd.returns] at h; cases h)
            refine own_fin (retI X0 hx Bd.returns (hb hby own_djdk_33_method_47_code_78) hrt_) (hRR _ ⟨_, hrun, hended, _, _, rfl, ?_, ⟨_, rfl⟩, hW, hsame.mono (by decide) (by decide)⟩)
            show own_QNI Z p1 h0 n0 _ s₁.heap _
            rw [e0]
            exact ⟨own_ri (by first | (simp only [own_nlzI, own_n0, own_n1, own_n2, own_n3, own_n4, hc1_1, hc22_2, hc37_3, hc51_7, hc63_8, if_true, if_false]; done) | (subst_vars; decide)), N0, rfl⟩
        · refine own_st (fun _ k => XS.icmpNo X0.here hx rfl (hb hby own_djdk_33_method_47_code_51) rfl (flt hc51_7).1 (XS.iinc X0.here hx rfl (hb hby own_djdk_33_method_47_code_54) rfl (l' := #[.val (.int ((p1.toUInt32 >>> ((8 : Int32) &&& 31).toUInt32).toInt32)), .val (.int (((31 : Int32) + (-8 : Int32)) + (-4 : Int32)))]) rfl (XS.iloadN X0.here hx rfl (hb hby own_djdk_33_method_47_code_57) rfl (XS.iconst X0.here hx rfl (hb hby own_djdk_33_method_47_code_58) (XS.iushr X0.here hx rfl (hb hby own_djdk_33_method_47_code_59) rfl (XS.istoreN X0.here hx rfl (hb hby own_djdk_33_method_47_code_60) rfl (l' := #[.val (.int ((((p1.toUInt32 >>> ((8 : Int32) &&& 31).toUInt32).toInt32).toUInt32 >>> ((4 : Int32) &&& 31).toUInt32).toInt32)), .val (.int (((31 : Int32) + (-8 : Int32)) + (-4 : Int32)))]) rfl (XS.iloadN X0.here hx rfl (hb hby own_djdk_33_method_47_code_61) rfl (XS.iconst X0.here hx rfl (hb hby own_djdk_33_method_47_code_62) k)))))))) ?_
          show own_Go p.tables e below RR (s₁.setTop (mkF m 63 #[.val (.int ((((p1.toUInt32 >>> ((8 : Int32) &&& 31).toUInt32).toInt32).toUInt32 >>> ((4 : Int32) &&& 31).toUInt32).toInt32)), .val (.int (((31 : Int32) + (-8 : Int32)) + (-4 : Int32)))] [(.int (4 : Int32)), (.int ((((p1.toUInt32 >>> ((8 : Int32) &&& 31).toUInt32).toInt32).toUInt32 >>> ((4 : Int32) &&& 31).toUInt32).toInt32))]))
          by_cases hc63_9 : ((((p1.toUInt32 >>> ((8 : Int32) &&& 31).toUInt32).toInt32).toUInt32 >>> ((4 : Int32) &&& 31).toUInt32).toInt32) < (4 : Int32)
          · refine own_st (fun _ k => XS.icmpYes X0.here hx rfl (pc0 := 63) (pc' := 73) rfl (hb hby own_djdk_33_method_47_code_63) rfl (tlt hc63_9).1 (by decide) (by decide) (XS.iloadN X0.here hx rfl (hb hby own_djdk_33_method_47_code_73) rfl (XS.iloadN X0.here hx rfl (hb hby own_djdk_33_method_47_code_74) rfl (XS.iconst X0.here hx rfl (hb hby own_djdk_33_method_47_code_75) (XS.iushr X0.here hx rfl (hb hby own_djdk_33_method_47_code_76) rfl (XS.isub X0.here hx rfl (hb hby own_djdk_33_method_47_code_77) rfl k)))))) ?_
            show own_Go p.tables e below RR (s₁.setTop (mkF m 78 #[.val (.int ((((p1.toUInt32 >>> ((8 : Int32) &&& 31).toUInt32).toInt32).toUInt32 >>> ((4 : Int32) &&& 31).toUInt32).toInt32)), .val (.int (((31 : Int32) + (-8 : Int32)) + (-4 : Int32)))] [(.int ((((31 : Int32) + (-8 : Int32)) + (-4 : Int32)) - ((((((p1.toUInt32 >>> ((8 : Int32) &&& 31).toUInt32).toInt32).toUInt32 >>> ((4 : Int32) &&& 31).toUInt32).toInt32).toUInt32 >>> ((1 : Int32) &&& 31).toUInt32).toInt32)))]))
            obtain ⟨fs, hrt_, hrun, hended, hW, hsame⟩ := X0.leave (v := some (.int ((((31 : Int32) + (-8 : Int32)) + (-4 : Int32)) - ((((((p1.toUInt32 >>> ((8 : Int32) &&& 31).toUInt32).toInt32).toUInt32 >>> ((4 : Int32) &&& 31).toUInt32).toInt32).toUInt32 >>> ((1 : Int32) &&& 31).toUInt32).toInt32)))) (fun h => by rw [Bd.returns] at h; cases h)
            refine own_fin (retI X0 hx Bd.returns (hb hby own_djdk_33_method_47_code_78) hrt_) (hRR _ ⟨_, hrun, hended, _, _, rfl, ?_, ⟨_, rfl⟩, hW, hsame.mono (by decide) (by decide)⟩)
            show own_QNI Z p1 h0 n0 _ s₁.heap _
            rw [e0]
            exact ⟨own_ri (by first | (simp only [own_nlzI, own_n0, own_n1, own_n2, own_n3, own_n4, hc1_1, hc22_2, hc37_3, hc51_7, hc63_9, if_true, if_false]; done) | (subst_vars; decide)), N0, rfl⟩
          · refine own_st (fun _ k => XS.icmpNo X0.here hx rfl (hb hby own_djdk_33_method_47_code_63) rfl (flt hc63_9).1 (XS.iinc X0.here hx rfl (hb hby own_djdk_33_method_47_code_66) rfl (l' := #[.val (.int ((((p1.toUInt32 >>> ((8 : Int32) &&& 31).toUInt32).toInt32).toUInt32 >>> ((4 : Int32) &&& 31).toUInt32).toInt32)), .val (.int ((((31 : Int32) + (-8 : Int32)) + (-4 : Int32)) + (-2 : Int32)))]) rfl (XS.iloadN X0.here hx rfl (hb hby own_djdk_33_method_47_code_69) rfl (XS.iconst X0.here hx rfl (hb hby own_djdk_33_method_47_code_70) (XS.iushr X0.here hx rfl (hb hby own_djdk_33_method_47_code_71) rfl (XS.istoreN X0.here hx rfl (hb hby own_djdk_33_method_47_code_72) rfl (l' := #[.val (.int ((((((p1.toUInt32 >>> ((8 : Int32) &&& 31).toUInt32).toInt32).toUInt32 >>> ((4 : Int32) &&& 31).toUInt32).toInt32).toUInt32 >>> ((2 : Int32) &&& 31).toUInt32).toInt32)), .val (.int ((((31 : Int32) + (-8 : Int32)) + (-4 : Int32)) + (-2 : Int32)))]) rfl (XS.iloadN X0.here hx rfl (hb hby own_djdk_33_method_47_code_73) rfl (XS.iloadN X0.here hx rfl (hb hby own_djdk_33_method_47_code_74) rfl k)))))))) ?_
            show own_Go p.tables e below RR (s₁.setTop (mkF m 75 #[.val (.int ((((((p1.toUInt32 >>> ((8 : Int32) &&& 31).toUInt32).toInt32).toUInt32 >>> ((4 : Int32) &&& 31).toUInt32).toInt32).toUInt32 >>> ((2 : Int32) &&& 31).toUInt32).toInt32)), .val (.int ((((31 : Int32) + (-8 : Int32)) + (-4 : Int32)) + (-2 : Int32)))] [(.int ((((((p1.toUInt32 >>> ((8 : Int32) &&& 31).toUInt32).toInt32).toUInt32 >>> ((4 : Int32) &&& 31).toUInt32).toInt32).toUInt32 >>> ((2 : Int32) &&& 31).toUInt32).toInt32)), (.int ((((31 : Int32) + (-8 : Int32)) + (-4 : Int32)) + (-2 : Int32)))]))
            refine own_st (fun _ k => XS.iconst X0.here hx rfl (hb hby own_djdk_33_method_47_code_75) (XS.iushr X0.here hx rfl (hb hby own_djdk_33_method_47_code_76) rfl (XS.isub X0.here hx rfl (hb hby own_djdk_33_method_47_code_77) rfl k))) ?_
            show own_Go p.tables e below RR (s₁.setTop (mkF m 78 #[.val (.int ((((((p1.toUInt32 >>> ((8 : Int32) &&& 31).toUInt32).toInt32).toUInt32 >>> ((4 : Int32) &&& 31).toUInt32).toInt32).toUInt32 >>> ((2 : Int32) &&& 31).toUInt32).toInt32)), .val (.int ((((31 : Int32) + (-8 : Int32)) + (-4 : Int32)) + (-2 : Int32)))] [(.int (((((31 : Int32) + (-8 : Int32)) + (-4 : Int32)) + (-2 : Int32)) - ((((((((p1.toUInt32 >>> ((8 : Int32) &&& 31).toUInt32).toInt32).toUInt32 >>> ((4 : Int32) &&& 31).toUInt32).toInt32).toUInt32 >>> ((2 : Int32) &&& 31).toUInt32).toInt32).toUInt32 >>> ((1 : Int32) &&& 31).toUInt32).toInt32)))]))
            obtain ⟨fs, hrt_, hrun, hended, hW, hsame⟩ := X0.leave (v := some (.int (((((31 : Int32) + (-8 : Int32)) + (-4 : Int32)) + (-2 : Int32)) - ((((((((p1.toUInt32 >>> ((8 : Int32) &&& 31).toUInt32).toInt32).toUInt32 >>> ((4 : Int32) &&& 31).toUInt32).toInt32).toUInt32 >>> ((2 : Int32) &&& 31).toUInt32).toInt32).toUInt32 >>> ((1 : Int32) &&& 31).toUInt32).toInt32)))) (fun h => by rw [Bd.returns] at h; cases h)
            refine own_fin (retI X0 hx Bd.returns (hb hby own_djdk_33_method_47_code_78) hrt_) (hRR _ ⟨_, hrun, hended, _, _, rfl, ?_, ⟨_, rfl⟩, hW, hsame.mono (by decide) (by decide)⟩)
            show own_QNI Z p1 h0 n0 _ s₁.heap _
            rw [e0]
            exact ⟨own_ri (by first | (simp only [own_nlzI, own_n0, own_n1, own_n2, own_n3, own_n4, hc1_1, hc22_2, hc37_3, hc51_7, hc63_9, if_true, if_false]; done) | (subst_vars; decide)), N0, rfl⟩
    · refine own_st (fun _ k => XS.icmpNo X0.here hx rfl (hb hby own_djdk_33_method_47_code_22) rfl (flt hc22_2).1 (XS.iinc X0.here hx rfl (hb hby own_djdk_33_method_47_code_25) rfl (l' := #[.val (.int p1), .val (.int ((31 : Int32) + (-16 : Int32)))]) rfl (XS.iloadN X0.here hx rfl (hb hby own_djdk_33_method_47_code_28) rfl (XS.bipush X0.here hx rfl (hb hby own_djdk_33_method_47_code_29) (XS.iushr X0.here hx rfl (hb hby own_djdk_33_method_47_code_31) rfl (XS.istoreN X0.here hx rfl (hb hby own_djdk_33_method_47_code_32) rfl (l' := #[.val (.int ((p1.toUInt32 >>> ((16 : Int32) &&& 31).toUInt32).toInt32)), .val (.int ((31 : Int32) + (-16 : Int32)))]) rfl (XS.iloadN X0.here hx rfl (hb hby own_djdk_33_method_47_code_33) rfl (XS.sipush X0.here hx rfl (hb hby own_djdk_33_method_47_code_34) k)))))))) ?_
      show own_Go p.tables e below RR (s₁.setTop (mkF m 37 #[.val (.int ((p1.toUInt32 >>> ((16 : Int32) &&& 31).toUInt32).toInt32)), .val (.int ((31 : Int32) + (-16 : Int32)))] [(.int (256 : Int32)), (.int ((p1.toUInt32 >>> ((16 : Int32) &&& 31).toUInt32).toInt32))]))
      by_cases hc37_10 : ((p1.toUInt32 >>> ((16 : Int32) &&& 31).toUInt32).toInt32) < (256 : Int32)
      · refine own_st (fun _ k => XS.icmpYes X0.here hx rfl (pc0 := 37) (pc' := 48) rfl (hb hby own_djdk_33_method_47_code_37) rfl (tlt hc37_10).1 (by decide) (by decide) (XS.iloadN X0.here hx rfl (hb hby own_djdk_33_method_47_code_48) rfl (XS.bipush X0.here hx rfl (hb hby own_djdk_33_method_47_code_49) k))) ?_
        show own_Go p.tables e below RR (s₁.setTop (mkF m 51 #[.val (.int ((p1.toUInt32 >>> ((16 : Int32) &&& 31).toUInt32).toInt32)), .val (.int ((31 : Int32) + (-16 : Int32)))] [(.int (16 : Int32)), (.int ((p1.toUInt32 >>> ((16 : Int32) &&& 31).toUInt32).toInt32))]))
        by_cases hc51_11 : ((p1.toUInt32 >>> ((16 : Int32) &&& 31).toUInt32).toInt32) < (16 : Int32)
        · refine own_st (fun _ k => XS.icmpYes X0.here hx rfl (pc0 := 51) (pc' := 61) rfl (hb hby own_djdk_33_method_47_code_51) rfl (tlt hc51_11).1 (by decide) (by decide) (XS.iloadN X0.here hx rfl (hb hby own_djdk_33_method_47_code_61) rfl (XS.iconst X0.here hx rfl (hb hby own_djdk_33_method_47_code_62) k))) ?_
          show own_Go p.tables e below RR (s₁.setTop (mkF m 63 #[.val (.int ((p1.toUInt32 >>> ((16 : Int32) &&& 31).toUInt32).toInt32)), .val (.int ((31 : Int32) + (-16 : Int32)))] [(.int (4 : Int32)), (.int ((p1.toUInt32 >>> ((16 : Int32) &&& 31).toUInt32).toInt32))]))
          by_cases hc63_12 : ((p1.toUInt32 >>> ((16 : Int32) &&& 31).toUInt32).toInt32) < (4 : Int32)
          · refine own_st (fun _ k => XS.icmpYes X0.here hx rfl (pc0 := 63) (pc' := 73) rfl (hb hby own_djdk_33_method_47_code_63) rfl (tlt hc63_12).1 (by decide) (by decide) (XS.iloadN X0.here hx rfl (hb hby own_djdk_33_method_47_code_73) rfl (XS.iloadN X0.here hx rfl (hb hby own_djdk_33_method_47_code_74) rfl (XS.iconst X0.here hx rfl (hb hby own_djdk_33_method_47_code_75) (XS.iushr X0.here hx rfl (hb hby own_djdk_33_method_47_code_76) rfl (XS.isub X0.here hx rfl (hb hby own_djdk_33_method_47_code_77) rfl k)))))) ?_
            show own_Go p.tables e below RR (s₁.setTop (mkF m 78 #[.val (.int ((p1.toUInt32 >>> ((16 : Int32) &&& 31).toUInt32).toInt32)), .val (.int ((31 : Int32) + (-16 : Int32)))] [(.int (((31 : Int32) + (-16 : Int32)) - ((((p1.toUInt32 >>> ((16 : Int32) &&& 31).toUInt32).toInt32).toUInt32 >>> ((1 : Int32) &&& 31).toUInt32).toInt32)))]))
            obtain ⟨fs, hrt_, hrun, hended, hW, hsame⟩ := X0.leave (v := some (.int (((31 : Int32) + (-16 : Int32)) - ((((p1.toUInt32 >>> ((16 : Int32) &&& 31).toUInt32).toInt32).toUInt32 >>> ((1 : Int32) &&& 31).toUInt32).toInt32)))) (fun h => by rw [Bd.returns] at h; cases h)
            refine own_fin (retI X0 hx Bd.returns (hb hby own_djdk_33_method_47_code_78) hrt_) (hRR _ ⟨_, hrun, hended, _, _, rfl, ?_, ⟨_, rfl⟩, hW, hsame.mono (by decide) (by decide)⟩)
            show own_QNI Z p1 h0 n0 _ s₁.heap _
            rw [e0]
            exact ⟨own_ri (by first | (simp only [own_nlzI, own_n0, own_n1, own_n2, own_n3, own_n4, hc1_1, hc22_2, hc37_10, hc51_11, hc63_12, if_true, if_false]; done) | (subst_vars; decide)), N0, rfl⟩
          · refine own_st (fun _ k => XS.icmpNo X0.here hx rfl (hb hby own_djdk_33_method_47_code_63) rfl (flt hc63_12).1 (XS.iinc X0.here hx rfl (hb hby own_djdk_33_method_47_code_66) rfl (l' := #[.val (.int ((p1.toUInt32 >>> ((16 : Int32) &&& 31).toUInt32).toInt32)), .val (.int (((31 : Int32) + (-16 : Int32)) + (-2 : Int32)))]) rfl (XS.iloadN X0.here hx rfl (hb hby own_djdk_33_method_47_code_69) rfl (XS.iconst X0.here hx rfl (hb hby own_djdk_33_method_47_code_70) (XS.iushr X0.here hx rfl (hb hby own_djdk_33_method_47_code_71) rfl (XS.istoreN X0.here hx rfl (hb hby own_djdk_33_method_47_code_72) rfl (l' := #[.val (.int ((((p1.toUInt32 >>> ((16 : Int32) &&& 31).toUInt32).toInt32).toUInt32 >>> ((2 : Int32) &&& 31).toUInt32).toInt32)), .val (.int (((31 : Int32) + (-16 : Int32)) + (-2 : Int32)))]) rfl (XS.iloadN X0.here hx rfl (hb hby own_djdk_33_method_47_code_73) rfl (XS.iloadN X0.here hx rfl (hb hby own_djdk_33_method_47_code_74) rfl k)))))))) ?_
            show own_Go p.tables e below RR (s₁.setTop (mkF m 75 #[.val (.int ((((p1.toUInt32 >>> ((16 : Int32) &&& 31).toUInt32).toInt32).toUInt32 >>> ((2 : Int32) &&& 31).toUInt32).toInt32)), .val (.int (((31 : Int32) + (-16 : Int32)) + (-2 : Int32)))] [(.int ((((p1.toUInt32 >>> ((16 : Int32) &&& 31).toUInt32).toInt32).toUInt32 >>> ((2 : Int32) &&& 31).toUInt32).toInt32)), (.int (((31 : Int32) + (-16 : Int32)) + (-2 : Int32)))]))
            refine own_st (fun _ k => XS.iconst X0.here hx rfl (hb hby own_djdk_33_method_47_code_75) (XS.iushr X0.here hx rfl (hb hby own_djdk_33_method_47_code_76) rfl (XS.isub X0.here hx rfl (hb hby own_djdk_33_method_47_code_77) rfl k))) ?_
            show own_Go p.tables e below RR (s₁.setTop (mkF m 78 #[.val (.int ((((p1.toUInt32 >>> ((16 : Int32) &&& 31).toUInt32).toInt32).toUInt32 >>> ((2 : Int32) &&& 31).toUInt32).toInt32)), .val (.int (((31 : Int32) + (-16 : Int32)) + (-2 : Int32)))] [(.int ((((31 : Int32) + (-16 : Int32)) + (-2 : Int32)) - ((((((p1.toUInt32 >>> ((16 : Int32) &&& 31).toUInt32).toInt32).toUInt32 >>> ((2 : Int32) &&& 31).toUInt32).toInt32).toUInt32 >>> ((1 : Int32) &&& 31).toUInt32).toInt32)))]))
            obtain ⟨fs, hrt_, hrun, hended, hW, hsame⟩ := X0.leave (v := some (.int ((((31 : Int32) + (-16 : Int32)) + (-2 : Int32)) - ((((((p1.toUInt32 >>> ((16 : Int32) &&& 31).toUInt32).toInt32).toUInt32 >>> ((2 : Int32) &&& 31).toUInt32).toInt32).toUInt32 >>> ((1 : Int32) &&& 31).toUInt32).toInt32)))) (fun h => by rw [Bd.returns] at h; cases h)
            refine own_fin (retI X0 hx Bd.returns (hb hby own_djdk_33_method_47_code_78) hrt_) (hRR _ ⟨_, hrun, hended, _, _, rfl, ?_, ⟨_, rfl⟩, hW, hsame.mono (by decide) (by decide)⟩)
            show own_QNI Z p1 h0 n0 _ s₁.heap _
            rw [e0]
            exact ⟨own_ri (by first | (simp only [own_nlzI, own_n0, own_n1, own_n2, own_n3, own_n4, hc1_1, hc22_2, hc37_10, hc51_11, hc63_12, if_true, if_false]; done) | (subst_vars; decide)), N0, rfl⟩
        · refine own_st (fun _ k => XS.icmpNo X0.here hx rfl (hb hby own_djdk_33_method_47_code_51) rfl (flt hc51_11).1 (XS.iinc X0.here hx rfl (hb hby own_djdk_33_method_47_code_54) rfl (l' := #[.val (.int ((p1.toUInt32 >>> ((16 : Int32) &&& 31).toUInt32).toInt32)), .val (.int (((31 : Int32) + (-16 : Int32)) + (-4 : Int32)))]) rfl (XS.iloadN X0.here hx rfl (hb hby own_djdk_33_method_47_code_57) rfl (XS.iconst X0.here hx rfl (hb hby own_djdk_33_method_47_code_58) (XS.iushr X0.here hx rfl (hb hby own_djdk_33_method_47_code_59) rfl (XS.istoreN X0.here hx rfl (hb hby own_djdk_33_method_47_code_60) rfl (l' := #[.val (.int ((((p1.toUInt32 >>> ((16 : Int32) &&& 31).toUInt32).toInt32).toUInt32 >>> ((4 : Int32) &&& 31).toUInt32).toInt32)), .val (.int (((31 : Int32) + (-16 : Int32)) + (-4 : Int32)))]) rfl (XS.iloadN X0.here hx rfl (hb hby own_djdk_33_method_47_code_61) rfl (XS.iconst X0.here hx rfl (hb hby own_djdk_33_method_47_code_62) k)))))))) ?_
          show own_Go p.tables e below RR (s₁.setTop (mkF m 63 #[.val (.int ((((p1.toUInt32 >>> ((16 : Int32) &&& 31).toUInt32).toInt32).toUInt32 >>> ((4 : Int32) &&& 31).toUInt32).toInt32)), .val (.int (((31 : Int32) + (-16 : Int32)) + (-4 : Int32)))] [(.int (4 : Int32)), (.int ((((p1.toUInt32 >>> ((16 : Int32) &&& 31).toUInt32).toInt32).toUInt32 >>> ((4 : Int32) &&& 31).toUInt32).toInt32))]))
          by_cases hc63_13 : ((((p1.toUInt32 >>> ((16 : Int32) &&& 31).toUInt32).toInt32).toUInt32 >>> ((4 : Int32) &&& 31).toUInt32).toInt32) < (4 : Int32)
          · refine own_st (fun _ k => XS.icmpYes X0.here hx rfl (pc0 := 63) (pc' := 73) rfl (hb hby own_djdk_33_method_47_code_63) rfl (tlt hc63_13).1 (by decide) (by decide) (XS.iloadN X0.here hx rfl (hb hby own_djdk_33_method_47_code_73) rfl (XS.iloadN X0.here hx rfl (hb hby own_djdk_33_method_47_code_74) rfl (XS.iconst X0.here hx rfl (hb hby own_djdk_33_method_47_code_75) (XS.iushr X0.here hx rfl (hb hby own_djdk_33_method_47_code_76) rfl (XS.isub X0.here hx rfl (hb hby own_djdk_33_method_47_code_77) rfl k)))))) ?_
            show own_Go p.tables e below RR (s₁.setTop (mkF m 78 #[.val (.int ((((p1.toUInt32 >>> ((16 : Int32) &&& 31).toUInt32).toInt32).toUInt32 >>> ((4 : Int32) &&& 31).toUInt32).toInt32)), .val (.int (((31 : Int32) + (-16 : Int32)) + (-4 : Int32)))] [(.int ((((31 : Int32) + (-16 : Int32)) + (-4 : Int32)) - ((((((p1.toUInt32 >>> ((16 : Int32) &&& 31).toUInt32).toInt32).toUInt32 >>> ((4 : Int32) &&& 31).toUInt32).toInt32).toUInt32 >>> ((1 : Int32) &&& 31).toUInt32).toInt32)))]))
            obtain ⟨fs, hrt_, hrun, hended, hW, hsame⟩ := X0.leave (v := some (.int ((((31 : Int32) + (-16 : Int32)) + (-4 : Int32)) - ((((((p1.toUInt32 >>> ((16 : Int32) &&& 31).toUInt32).toInt32).toUInt32 >>> ((4 : Int32) &&& 31).toUInt32).toInt32).toUInt32 >>> ((1 : Int32) &&& 31).toUInt32).toInt32)))) (fun h => by rw [Bd.returns] at h; cases h)
            refine own_fin (retI X0 hx Bd.returns (hb hby own_djdk_33_method_47_code_78) hrt_) (hRR _ ⟨_, hrun, hended, _, _, rfl, ?_, ⟨_, rfl⟩, hW, hsame.mono (by decide) (by decide)⟩)
            show own_QNI Z p1 h0 n0 _ s₁.heap _
            rw [e0]
            exact ⟨own_ri (by first | (simp only [own_nlzI, own_n0, own_n1, own_n2, own_n3, own_n4, hc1_1, hc22_2, hc37_10, hc51_11, hc63_13, if_true, if_false]; done) | (subst_vars; decide)), N0, rfl⟩
          · refine own_st (fun _ k => XS.icmpNo X0.here hx rfl (hb hby own_djdk_33_method_47_code_63) rfl (flt hc63_13).1 (XS.iinc X0.here hx rfl (hb hby own_djdk_33_method_47_code_66) rfl (l' := #[.val (.int ((((p1.toUInt32 >>> ((16 : Int32) &&& 31).toUInt32).toInt32).toUInt32 >>> ((4 : Int32) &&& 31).toUInt32).toInt32)), .val (.int ((((31 : Int32) + (-16 : Int32)) + (-4 : Int32)) + (-2 : Int32)))]) rfl (XS.iloadN X0.here hx rfl (hb hby own_djdk_33_method_47_code_69) rfl (XS.iconst X0.here hx rfl (hb hby own_djdk_33_method_47_code_70) (XS.iushr X0.here hx rfl (hb hby own_djdk_33_method_47_code_71) rfl (XS.istoreN X0.here hx rfl (hb hby own_djdk_33_method_47_code_72) rfl (l' := #[.val (.int ((((((p1.toUInt32 >>> ((16 : Int32) &&& 31).toUInt32).toInt32).toUInt32 >>> ((4 : Int32) &&& 31).toUInt32).toInt32).toUInt32 >>> ((2 : Int32) &&& 31).toUInt32).toInt32)), .val (.int ((((31 : Int32) + (-16 : Int32)) + (-4 : Int32)) + (-2 : Int32)))]) rfl (XS.iloadN X0.here hx rfl (hb hby own_djdk_33_method_47_code_73) rfl (XS.iloadN X0.here hx rfl (hb hby own_djdk_33_method_47_code_74) rfl k)))))))) ?_
            show own_Go p.tables e below RR (s₁.setTop (mkF m 75 #[.val (.int ((((((p1.toUInt32 >>> ((16 : Int32) &&& 31).toUInt32).toInt32).toUInt32 >>> ((4 : Int32) &&& 31).toUInt32).toInt32).toUInt32 >>> ((2 : Int32) &&& 31).toUInt32).toInt32)), .val (.int ((((31 : Int32) + (-16 : Int32)) + (-4 : Int32)) + (-2 : Int32)))] [(.int ((((((p1.toUInt32 >>> ((16 : Int32) &&& 31).toUInt32).toInt32).toUInt32 >>> ((4 : Int32) &&& 31).toUInt32).toInt32).toUInt32 >>> ((2 : Int32) &&& 31).toUInt32).toInt32)), (.int ((((31 : Int32) + (-16 : Int32)) + (-4 : Int32)) + (-2 : Int32)))]))
            refine own_st (fun _ k => XS.iconst X0.here hx rfl (hb hby own_djdk_33_method_47_code_75) (XS.iushr X0.here hx rfl (hb hby own_djdk_33_method_47_code_76) rfl (XS.isub X0.here hx rfl (hb hby own_djdk_33_method_47_code_77) rfl k))) ?_
            show own_Go p.tables e below RR (s₁.setTop (mkF m 78 #[.val (.int ((((((p1.toUInt32 >>> ((16 : Int32) &&& 31).toUInt32).toInt32).toUInt32 >>> ((4 : Int32) &&& 31).toUInt32).toInt32).toUInt32 >>> ((2 : Int32) &&& 31).toUInt32).toInt32)), .val (.int ((((31 : Int32) + (-16 : Int32)) + (-4 : Int32)) + (-2 : Int32)))] [(.int (((((31 : Int32) + (-16 : Int32)) + (-4 : Int32)) + (-2 : Int32)) - ((((((((p1.toUInt32 >>> ((16 : Int32) &&& 31).toUInt32).toInt32).toUInt32 >>> ((4 : Int32) &&& 31).toUInt32).toInt32).toUInt32 >>> ((2 : Int32) &&& 31).toUInt32).toInt32).toUInt32 >>> ((1 : Int32) &&& 31).toUInt32).toInt32)))]))
            obtain ⟨fs, hrt_, hrun, hended, hW, hsame⟩ := X0.leave (v := some (.int (((((31 : Int32) + (-16 : Int32)) + (-4 : Int32)) + (-2 : Int32)) - ((((((((p1.toUInt32 >>> ((16 : Int32) &&& 31).toUInt32).toInt32).toUInt32 >>> ((4 : Int32) &&& 31).toUInt32).toInt32).toUInt32 >>> ((2 : Int32) &&& 31).toUInt32).toInt32).toUInt32 >>> ((1 : Int32) &&& 31).toUInt32).toInt32)))) (fun h => by rw [Bd.returns] at h; cases h)
            refine own_fin (retI X0 hx Bd.returns (hb hby own_djdk_33_method_47_code_78) hrt_) (hRR _ ⟨_, hrun, hended, _, _, rfl, ?_, ⟨_, rfl⟩, hW, hsame.mono (by decide) (by decide)⟩)
            show own_QNI Z p1 h0 n0 _ s₁.heap _
            rw [e0]
            exact ⟨own_ri (by first | (simp only [own_nlzI, own_n0, own_n1, own_n2, own_n3, own_n4, hc1_1, hc22_2, hc37_10, hc51_11, hc63_13, if_true, if_false]; done) | (subst_vars; decide)), N0, rfl⟩
      · refine own_st (fun _ k => XS.icmpNo X0.here hx rfl (hb hby own_djdk_33_method_47_code_37) rfl (flt hc37_10).1 (XS.iinc X0.here hx rfl (hb hby own_djdk_33_method_47_code_40) rfl (l' := #[.val (.int ((p1.toUInt32 >>> ((16 : Int32) &&& 31).toUInt32).toInt32)), .val (.int (((31 : Int32) + (-16 : Int32)) + (-8 : Int32)))]) rfl (XS.iloadN X0.here hx rfl (hb hby own_djdk_33_method_47_code_43) rfl (XS.bipush X0.here hx rfl (hb hby own_djdk_33_method_47_code_44) (XS.iushr X0.here hx rfl (hb hby own_djdk_33_method_47_code_46) rfl (XS.istoreN X0.here hx rfl (hb hby own_djdk_33_method_47_code_47) rfl (l' := #[.val (.int ((((p1.toUInt32 >>> ((16 : Int32) &&& 31).toUInt32).toInt32).toUInt32 >>> ((8 : Int32) &&& 31).toUInt32).toInt32)), .val (.int (((31 : Int32) + (-16 : Int32)) + (-8 : Int32)))]) rfl (XS.iloadN X0.here hx rfl (hb hby own_djdk_33_method_47_code_48) rfl (XS.bipush X0.here hx rfl (hb hby own_djdk_33_method_47_code_49) k)))))))) ?_
        show own_Go p.tables e below RR (s₁.setTop (mkF m 51 #[.val (.int ((((p1.toUInt32 >>> ((16 : Int32) &&& 31).toUInt32).toInt32).toUInt32 >>> ((8 : Int32) &&& 31).toUInt32).toInt32)), .val (.int (((31 : Int32) + (-16 : Int32)) + (-8 : Int32)))] [(.int (16 : Int32)), (.int ((((p1.toUInt32 >>> ((16 : Int32) &&& 31).toUInt32).toInt32).toUInt32 >>> ((8 : Int32) &&& 31).toUInt32).toInt32))]))
        by_cases hc51_14 : ((((p1.toUInt32 >>> ((16 : Int32) &&& 31).toUInt32).toInt32).toUInt32 >>> ((8 : Int32) &&& 31).toUInt32).toInt32) < (16 : Int32)
        · refine own_st (fun _ k => XS.icmpYes X0.here hx rfl (pc0 := 51) (pc' := 61) rfl (hb hby own_djdk_33_method_47_code_51) rfl (tlt hc51_14).1 (by decide) (by decide) (XS.iloadN X0.here hx rfl (hb hby own_djdk_33_method_47_code_61) rfl (XS.iconst X0.here hx rfl (hb hby own_djdk_33_method_47_code_62) k))) ?_
          show own_Go p.tables e below RR (s₁.setTop (mkF m 63 #[.val (.int ((((p1.toUInt32 >>> ((16 : Int32) &&& 31).toUInt32).toInt32).toUInt32 >>> ((8 : Int32) &&& 31).toUInt32).toInt32)), .val (.int (((31 : Int32) + (-16 : Int32)) + (-8 : Int32)))] [(.int (4 : Int32)), (.int ((((p1.toUInt32 >>> ((16 : Int32) &&& 31).toUInt32).toInt32).toUInt32 >>> ((8 : Int32) &&& 31).toUInt32).toInt32))]))
          by_cases hc63_15 : ((((p1.toUInt32 >>> ((16 : Int32) &&& 31).toUInt32).toInt32).toUInt32 >>> ((8 : Int32) &&& 31).toUInt32).toInt32) < (4 : Int32)
          · refine own_st (fun _ k => XS.icmpYes X0.here hx rfl (pc0 := 63) (pc' := 73) rfl (hb hby own_djdk_33_method_47_code_63) rfl (tlt hc63_15).1 (by decide) (by decide) (XS.iloadN X0.here hx rfl (hb hby own_djdk_33_method_47_code_73) rfl (XS.iloadN X0.here hx rfl (hb hby own_djdk_33_method_47_code_74) rfl (XS.iconst X0.here hx rfl (hb hby own_djdk_33_method_47_code_75) (XS.iushr X0.here hx rfl (hb hby own_djdk_33_method_47_code_76) rfl (XS.isub X0.here hx rfl (hb hby own_djdk_33_method_47_code_77) rfl k)))))) ?_
            show own_Go p.tables e below RR (s₁.setTop (mkF m 78 #[.val (.int ((((p1.toUInt32 >>> ((16 : Int32) &&& 31).toUInt32).toInt32).toUInt32 >>> ((8 : Int32) &&& 31).toUInt32).toInt32)), .val (.int (((31 : Int32) + (-16 : Int32)) + (-8 : Int32)))] [(.int ((((31 : Int32) + (-16 : Int32)) + (-8 : Int32)) - ((((((p1.toUInt32 >>> ((16 : Int32) &&& 31).toUInt32).toInt32).toUInt32 >>> ((8 : Int32) &&& 31).toUInt32).toInt32).toUInt32 >>> ((1 : Int32) &&& 31).toUInt32).toInt32)))]))
            obtain ⟨fs, hrt_, hrun, hended, hW, hsame⟩ := X0.leave (v := some (.int ((((31 : Int32) + (-16 : Int32)) + (-8 : Int32)) - ((((((p1.toUInt32 >>> ((16 : Int32) &&& 31).toUInt32).toInt32).toUInt32 >>> ((8 : Int32) &&& 31).toUInt32).toInt32).toUInt32 >>> ((1 : Int32) &&& 31).toUInt32).toInt32)))) (fun h => by rw [Bd.returns] at h; cases h)
            refine own_fin (retI X0 hx Bd.returns (hb hby own_djdk_33_method_47_code_78) hrt_) (hRR _ ⟨_, hrun, hended, _, _, rfl, ?_, ⟨_, rfl⟩, hW, hsame.mono (by decide) (by decide)⟩)
            show own_QNI Z p1 h0 n0 _ s₁.heap _
            rw [e0]
            exact ⟨own_ri (by first | (simp only [own_nlzI, own_n0, own_n1, own_n2, own_n3, own_n4, hc1_1, hc22_2, hc37_10, hc51_14, hc63_15, if_true, if_false]; done) | (subst_vars; decide)), N0, rfl⟩
          · refine own_st (fun _ k => XS.icmpNo X0.here hx rfl (hb hby own_djdk_33_method_47_code_63) rfl (flt hc63_15).1 (XS.iinc X0.here hx rfl (hb hby own_djdk_33_method_47_code_66) rfl (l' := #[.val (.int ((((p1.toUInt32 >>> ((16 : Int32) &&& 31).toUInt32).toInt32).toUInt32 >>> ((8 : Int32) &&& 31).toUInt32).toInt32)), .val (.int ((((31 : Int32) + (-16 : Int32)) + (-8 : Int32)) + (-2 : Int32)))]) rfl (XS.iloadN X0.here hx rfl (hb hby own_djdk_33_method_47_code_69) rfl (XS.iconst X0.here hx rfl (hb hby own_djdk_33_method_47_code_70) (XS.iushr X0.here hx rfl (hb hby own_djdk_33_method_47_code_71) rfl (XS.istoreN X0.here hx rfl (hb hby own_djdk_33_method_47_code_72) rfl (l' := #[.val (.int ((((((p1.toUInt32 >>> ((16 : Int32) &&& 31).toUInt32).toInt32).toUInt32 >>> ((8 : Int32) &&& 31).toUInt32).toInt32).toUInt32 >>> ((2 : Int32) &&& 31).toUInt32).toInt32)), .val (.int ((((31 : Int32) + (-16 : Int32)) + (-8 : Int32)) + (-2 : Int32)))]) rfl (XS.iloadN X0.here hx rfl (hb hby own_djdk_33_method_47_code_73) rfl (XS.iloadN X0.here hx rfl (hb hby own_djdk_33_method_47_code_74) rfl k)))))))) ?_
            show own_Go p.tables e below RR (s₁.setTop (mkF m 75 #[.val (.int ((((((p1.toUInt32 >>> ((16 : Int32) &&& 31).toUInt32).toInt32).toUInt32 >>> ((8 : Int32) &&& 31).toUInt32).toInt32).toUInt32 >>> ((2 : Int32) &&& 31).toUInt32).toInt32)), .val (.int ((((31 : Int32) + (-16 : Int32)) + (-8 : Int32)) + (-2 : Int32)))] [(.int ((((((p1.toUInt32 >>> ((16 : Int32) &&& 31).toUInt32).toInt32).toUInt32 >>> ((8 : Int32) &&& 31).toUInt32).toInt32).toUInt32 >>> ((2 : Int32) &&& 31).toUInt32).toInt32)), (.int ((((31 : Int32) + (-16 : Int32)) + (-8 : Int32)) + (-2 : Int32)))]))
            refine own_st (fun _ k => XS.iconst X0.here hx rfl (hb hby own_djdk_33_method_47_code_75) (XS.iushr X0.here hx rfl (hb hby own_djdk_33_method_47_code_76) rfl (XS.isub X0.here hx rfl (hb hby own_djdk_33_method_47_code_77) rfl k))) ?_
            show own_Go p.tables e below RR (s₁.setTop (mkF m 78 #[.val (.int ((((((p1.toUInt32 >>> ((16 : Int32) &&& 31).toUInt32).toInt32).toUInt32 >>> ((8 : Int32) &&& 31).toUInt32).toInt32).toUInt32 >>> ((2 : Int32) &&& 31).toUInt32).toInt32)), .val (.int ((((31 : Int32) + (-16 : Int32)) + (-8 : Int32)) + (-2 : Int32)))] [(.int (((((31 : Int32) + (-16 : Int32)) + (-8 : Int32)) + (-2 : Int32)) - ((((((((p1.toUInt32 >>> ((16 : Int32) &&& 31).toUInt32).toInt32).toUInt32 >>> ((8 : Int32) &&& 31).toUInt32).toInt32).toUInt32 >>> ((2 : Int32) &&& 31).toUInt32).toInt32).toUInt32 >>> ((1 : Int32) &&& 31).toUInt32).toInt32)))]))
            obtain ⟨fs, hrt_, hrun, hended, hW, hsame⟩ := X0.leave (v := some (.int (((((31 : Int32) + (-16 : Int32)) + (-8 : Int32)) + (-2 : Int32)) - ((((((((p1.toUInt32 >>> ((16 : Int32) &&& 31).toUInt32).toInt32).toUInt32 >>> ((8 : Int32) &&& 31).toUInt32).toInt32).toUInt32 >>> ((2 : Int32) &&& 31).toUInt32).toInt32).toUInt32 >>> ((1 : Int32) &&& 31).toUInt32).toInt32)))) (fun h => by rw [Bd.returns] at h; cases h)
            refine own_fin (retI X0 hx Bd.returns (hb hby own_djdk_33_method_47_code_78) hrt_) (hRR _ ⟨_, hrun, hended, _, _, rfl, ?_, ⟨_, rfl⟩, hW, hsame.mono (by decide) (by decide)⟩)
            show own_QNI Z p1 h0 n0 _ s₁.heap _
            rw [e0]
            exact ⟨own_ri (by first | (simp only [own_nlzI, own_n0, own_n1, own_n2, own_n3, own_n4, hc1_1, hc22_2, hc37_10, hc51_14, hc63_15, if_true, if_false]; done) | (subst_vars; decide)), N0, rfl⟩
        · refine own_st (fun _ k => XS.icmpNo X0.here hx rfl (hb hby own_djdk_33_method_47_code_51) rfl (flt hc51_14).1 (XS.iinc X0.here hx rfl (hb hby own_djdk_33_method_47_code_54) rfl (l' := #[.val (.int ((((p1.toUInt32 >>> ((16 : Int32) &&& 31).toUInt32).toInt32).toUInt32 >>> ((8 : Int32) &&& 31).toUInt32).toInt32)), .val (.int ((((31 : Int32) + (-16 : Int32)) + (-8 : Int32)) + (-4 : Int32)))]) rfl (XS.iloadN X0.here hx rfl (hb hby own_djdk_33_method_47_code_57) rfl (XS.iconst X0.here hx rfl (hb hby own_djdk_33_method_47_code_58) (XS.iushr X0.here hx rfl (hb hby own_djdk_33_method_47_code_59) rfl (XS.istoreN X0.here hx rfl (hb hby own_djdk_33_method_47_code_60) rfl (l' := #[.val (.int ((((((p1.toUInt32 >>> ((16 : Int32) &&& 31).toUInt32).toInt32).toUInt32 >>> ((8 : Int32) &&& 31).toUInt32).toInt32).toUInt32 >>> ((4 : Int32) &&& 31).toUInt32).toInt32)), .val (.int ((((31 : Int32) + (-16 : Int32)) + (-8 : Int32)) + (-4 : Int32)))]) rfl (XS.iloadN X0.here hx rfl (hb hby own_djdk_33_method_47_code_61) rfl (XS.iconst X0.here hx rfl (hb hby own_djdk_33_method_47_code_62) k)))))))) ?_
          show own_Go p.tables e below RR (s₁.setTop (mkF m 63 #[.val (.int ((((((p1.toUInt32 >>> ((16 : Int32) &&& 31).toUInt32).toInt32).toUInt32 >>> ((8 : Int32) &&& 31).toUInt32).toInt32).toUInt32 >>> ((4 : Int32) &&& 31).toUInt32).toInt32)), .val (.int ((((31 : Int32) + (-16 : Int32)) + (-8 : Int32)) + (-4 : Int32)))] [(.int (4 : Int32)), (.int ((((((p1.toUInt32 >>> ((16 : Int32) &&& 31).toUInt32).toInt32).toUInt32 >>> ((8 : Int32) &&& 31).toUInt32).toInt32).toUInt32 >>> ((4 : Int32) &&& 31).toUInt32).toInt32))]))
          by_cases hc63_16 : ((((((p1.toUInt32 >>> ((16 : Int32) &&& 31).toUInt32).toInt32).toUInt32 >>> ((8 : Int32) &&& 31).toUInt32).toInt32).toUInt32 >>> ((4 : Int32) &&& 31).toUInt32).toInt32) < (4 : Int32)
          · refine own_st (fun _ k => XS.icmpYes X0.here hx rfl (pc0 := 63) (pc' := 73) rfl (hb hby own_djdk_33_method_47_code_63) rfl (tlt hc63_16).1 (by decide) (by decide) (XS.iloadN X0.here hx rfl (hb hby own_djdk_33_method_47_code_73) rfl (XS.iloadN X0.here hx rfl (hb hby own_djdk_33_method_47_code_74) rfl (XS.iconst X0.here hx rfl (hb hby own_djdk_33_method_47_code_75) (XS.iushr X0.here hx rfl (hb hby own_djdk_33_method_47_code_76) rfl (XS.isub X0.here hx rfl (hb hby own_djdk_33_method_47_code_77) rfl k)))))) ?_
            show own_Go p.tables e below RR (s₁.setTop (mkF m 78 #[.val (.int ((((((p1.toUInt32 >>> ((16 : Int32) &&& 31).toUInt32).toInt32).toUInt32 >>> ((8 : Int32) &&& 31).toUInt32).toInt32).toUInt32 >>> ((4 : Int32) &&& 31).toUInt32).toInt32)), .val (.int ((((31 : Int32) + (-16 : Int32)) + (-8 : Int32)) + (-4 : Int32)))] [(.int (((((31 : Int32) + (-16 : Int32)) + (-8 : Int32)) + (-4 : Int32)) - ((((((((p1.toUInt32 >>> ((16 : Int32) &&& 31).toUInt32).toInt32).toUInt32 >>> ((8 : Int32) &&& 31).toUInt32).toInt32).toUInt32 >>> ((4 : Int32) &&& 31).toUInt32).toInt32).toUInt32 >>> ((1 : Int32) &&& 31).toUInt32).toInt32)))]))
            obtain ⟨fs, hrt_, hrun, hended, hW, hsame⟩ := X0.leave (v := some (.int (((((31 : Int32) + (-16 : Int32)) + (-8 : Int32)) + (-4 : Int32)) - ((((((((p1.toUInt32 >>> ((16 : Int32) &&& 31).toUInt32).toInt32).toUInt32 >>> ((8 : Int32) &&& 31).toUInt32).toInt32).toUInt32 >>> ((4 : Int32) &&& 31).toUInt32).toInt32).toUInt32 >>> ((1 : Int32) &&& 31).toUInt32).toInt32)))) (fun h => by rw [Bd.returns] at h; cases h)
            refine own_fin (retI X0 hx Bd.returns (hb hby own_djdk_33_method_47_code_78) hrt_) (hRR _ ⟨_, hrun, hended, _, _, rfl, ?_, ⟨_, rfl⟩, hW, hsame.mono (by decide) (by decide)⟩)
            show own_QNI Z p1 h0 n0 _ s₁.heap _
            rw [e0]
            exact ⟨own_ri (by first | (simp only [own_nlzI, own_n0, own_n1, own_n2, own_n3, own_n4, hc1_1, hc22_2, hc37_10, hc51_14, hc63_16, if_true, if_false]; done) | (subst_vars; decide)), N0, rfl⟩
          · refine own_st (fun _ k => XS.icmpNo X0.here hx rfl (hb hby own_djdk_33_method_47_code_63) rfl (flt hc63_16).1 (XS.iinc X0.here hx rfl (hb hby own_djdk_33_method_47_code_66) rfl (l' := #[.val (.int ((((((p1.toUInt32 >>> ((16 : Int32) &&& 31).toUInt32).toInt32).toUInt32 >>> ((8 : Int32) &&& 31).toUInt32).toInt32).toUInt32 >>> ((4 : Int32) &&& 31).toUInt32).toInt32)), .val (.int (((((31 : Int32) + (-16 : Int32)) + (-8 : Int32)) + (-4 : Int32)) + (-2 : Int32)))]) rfl (XS.iloadN X0.here hx rfl (hb hby own_djdk_33_method_47_code_69) rfl (XS.iconst X0.here hx rfl (hb hby own_djdk_33_method_47_code_70) (XS.iushr X0.here hx rfl (hb hby own_djdk_33_method_47_code_71) rfl (XS.istoreN X0.here hx rfl (hb hby own_djdk_33_method_47_code_72) rfl (l' := #[.val (.int ((((((((p1.toUInt32 >>> ((16 : Int32) &&& 31).toUInt32).toInt32).toUInt32 >>> ((8 : Int32) &&& 31).toUInt32).toInt32).toUInt32 >>> ((4 : Int32) &&& 31).toUInt32).toInt32).toUInt32 >>> ((2 : Int32) &&& 31).toUInt32).toInt32)), .val (.int (((((31 : Int32) + (-16 : Int32)) + (-8 : Int32)) + (-4 : Int32)) + (-2 : Int32)))]) rfl (XS.iloadN X0.here hx rfl (hb hby own_djdk_33_method_47_code_73) rfl (XS.iloadN X0.here hx rfl (hb hby own_djdk_33_method_47_code_74) rfl k)))))))) ?_
            show own_Go p.tables e below RR (s₁.setTop (mkF m 75 #[.val (.int ((((((((p1.toUInt32 >>> ((16 : Int32) &&& 31).toUInt32).toInt32).toUInt32 >>> ((8 : Int32) &&& 31).toUInt32).toInt32).toUInt32 >>> ((4 : Int32) &&& 31).toUInt32).toInt32).toUInt32 >>> ((2 : Int32) &&& 31).toUInt32).toInt32)), .val (.int (((((31 : Int32) + (-16 : Int32)) + (-8 : Int32)) + (-4 : Int32)) + (-2 : Int32)))] [(.int ((((((((p1.toUInt32 >>> ((16 : Int32) &&& 31).toUInt32).toInt32).toUInt32 >>> ((8 : Int32) &&& 31).toUInt32).toInt32).toUInt32 >>> ((4 : Int32) &&& 31).toUInt32).toInt32).toUInt32 >>> ((2 : Int32) &&& 31).toUInt32).toInt32)), (.int (((((31 : Int32) + (-16 : Int32)) + (-8 : Int32)) + (-4 : Int32)) + (-2 : Int32)))]))
            refine own_st (fun _ k => XS.iconst X0.here hx rfl (hb hby own_djdk_33_method_47_code_75) (XS.iushr X0.here hx rfl (hb hby own_djdk_33_method_47_code_76) rfl (XS.isub X0.here hx rfl (hb hby own_djdk_33_method_47_code_77) rfl k))) ?_
            show own_Go p.tables e below RR (s₁.setTop (mkF m 78 #[.val (.int ((((((((p1.toUInt32 >>> ((16 : Int32) &&& 31).toUInt32).toInt32).toUInt32 >>> ((8 : Int32) &&& 31).toUInt32).toInt32).toUInt32 >>> ((4 : Int32) &&& 31).toUInt32).toInt32).toUInt32 >>> ((2 : Int32) &&& 31).toUInt32).toInt32)), .val (.int (((((31 : Int32) + (-16 : Int32)) + (-8 : Int32)) + (-4 : Int32)) + (-2 : Int32)))] [(.int ((((((31 : Int32) + (-16 : Int32)) + (-8 : Int32)) + (-4 : Int32)) + (-2 : Int32)) - ((((((((((p1.toUInt32 >>> ((16 : Int32) &&& 31).toUInt32).toInt32).toUInt32 >>> ((8 : Int32) &&& 31).toUInt32).toInt32).toUInt32 >>> ((4 : Int32) &&& 31).toUInt32).toInt32).toUInt32 >>> ((2 : Int32) &&& 31).toUInt32).toInt32).toUInt32 >>> ((1 : Int32) &&& 31).toUInt32).toInt32)))]))
            obtain ⟨fs, hrt_, hrun, hended, hW, hsame⟩ := X0.leave (v := some (.int ((((((31 : Int32) + (-16 : Int32)) + (-8 : Int32)) + (-4 : Int32)) + (-2 : Int32)) - ((((((((((p1.toUInt32 >>> ((16 : Int32) &&& 31).toUInt32).toInt32).toUInt32 >>> ((8 : Int32) &&& 31).toUInt32).toInt32).toUInt32 >>> ((4 : Int32) &&& 31).toUInt32).toInt32).toUInt32 >>> ((2 : Int32) &&& 31).toUInt32).toInt32).toUInt32 >>> ((1 : Int32) &&& 31).toUInt32).toInt32)))) (fun h => by rw [Bd.returns] at h; cases h)
            refine own_fin (retI X0 hx Bd.returns (hb hby own_djdk_33_method_47_code_78) hrt_) (hRR _ ⟨_, hrun, hended, _, _, rfl, ?_, ⟨_, rfl⟩, hW, hsame.mono (by decide) (by decide)⟩)
            show own_QNI Z p1 h0 n0 _ s₁.heap _
            rw [e0]
            exact ⟨own_ri (by first | (simp only [own_nlzI, own_n0, own_n1, own_n2, own_n3, own_n4, hc1_1, hc22_2, hc37_10, hc51_14, hc63_16, if_true, if_false]; done) | (subst_vars; decide)), N0, rfl⟩
  · refine own_st (fun _ k => XS.ifNo X0.here hx rfl (hb hby own_djdk_33_method_47_code_1) rfl ((if0 _ _).trans (flt hc1_1).2.2.1) (XS.iloadN X0.here hx rfl (hb hby own_djdk_33_method_47_code_4) rfl k)) ?_
    show own_Go p.tables e below RR (s₁.setTop (mkF m 5 #[.val (.int p1), .unset] [(.int p1)]))
    by_cases hc5_17 : p1 = (0 : Int32)
    · refine own_st (fun _ k => XS.ifNo X0.here hx rfl (hb hby own_djdk_33_method_47_code_5) rfl ((if0 _ _).trans (teq hc5_17).2) (XS.bipush X0.here hx rfl (hb hby own_djdk_33_method_47_code_8) (XS.goto X0.here hx rfl (pc0 := 10) (pc' := 14) rfl (hb hby own_djdk_33_method_47_code_10) (by decide) (by decide) k))) ?_
      show own_Go p.tables e below RR (s₁.setTop (mkF m 14 #[.val (.int p1), .unset] [(.int (32 : Int32))]))
      obtain ⟨fs, hrt_, hrun, hended, hW, hsame⟩ := X0.leave (v := some (.int (32 : Int32))) (fun h => by rw [Bd.returns] at h; cases h)
      refine own_fin (retI X0 hx Bd.returns (hb hby own_djdk_33_method_47_code_14) hrt_) (hRR _ ⟨_, hrun, hended, _, _, rfl, ?_, ⟨_, rfl⟩, hW, hsame.mono (by decide) (by decide)⟩)
      show own_QNI Z p1 h0 n0 _ s₁.heap _
      rw [e0]
      exact ⟨own_ri (by first | (simp only [own_nlzI, own_n0, own_n1, own_n2, own_n3, own_n4, hc1_1, hc5_17, if_true, if_false]; done) | (subst_vars; decide)), N0, rfl⟩
    · refine own_st (fun _ k => XS.ifYes X0.here hx rfl (pc0 := 5) (pc' := 13) rfl (hb hby own_djdk_33_method_47_code_5) rfl ((if0 _ _).trans (feq hc5_17).2) (by decide) (by decide) (XS.iconst X0.here hx rfl (hb hby own_djdk_33_method_47_code_13) k)) ?_
      show own_Go p.tables e below RR (s₁.setTop (mkF m 14 #[.val (.int p1), .unset] [(.int (0 : Int32))]))
      obtain ⟨fs, hrt_, hrun, hended, hW, hsame⟩ := X0.leave (v := some (.int (0 : Int32))) (fun h => by rw [Bd.returns] at h; cases h)
      refine own_fin (retI X0 hx Bd.returns (hb hby own_djdk_33_method_47_code_14) hrt_) (hRR _ ⟨_, hrun, hended, _, _, rfl, ?_, ⟨_, rfl⟩, hW, hsame.mono (by decide) (by decide)⟩)
      show own_QNI Z p1 h0 n0 _ s₁.heap _
      rw [e0]
      exact ⟨own_ri (by first | (simp only [own_nlzI, own_n0, own_n1, own_n2, own_n3, own_n4, hc1_1, hc5_17, if_true, if_false]; done) | (subst_vars; decide)), N0, rfl⟩
theorem own_pn_java_lang_Long : plainName "java/lang/Long" = true := by first | (simp [plainName, overriddenIn]; done) | decide +kernel
theorem own_djdk_35_method_48_code_0 : decode jdk_35_method_48_code 0 = .ok (.lload_n 0, 1) := by decide +kernel
theorem own_djdk_35_method_48_code_1 : decode jdk_35_method_48_code 1 = .ok (.bipush 32, 2) := by decide +kernel
theorem own_djdk_35_method_48_code_3 : decode jdk_35_method_48_code 3 = .ok (.lushr, 1) := by decide +kernel
theorem own_djdk_35_method_48_code_4 : decode jdk_35_method_48_code 4 = .ok (.l2i, 1) := by decide +kernel
theorem own_djdk_35_method_48_code_5 : decode jdk_35_method_48_code 5 = .ok (.istore_n 2, 1) := by decide +kernel
theorem own_djdk_35_method_48_code_6 : decode jdk_35_method_48_code 6 = .ok (.iload_n 2, 1) := by decide +kernel
theorem own_djdk_35_method_48_code_7 : decode jdk_35_method_48_code 7 = .ok (.ifCond .ne 14, 3) := by decide +kernel
theorem own_djdk_35_method_48_code_10 : decode jdk_35_method_48_code 10 = .ok (.bipush 32, 2) := by decide +kernel
theorem own_djdk_35_method_48_code_12 : decode jdk_35_method_48_code 12 = .ok (.lload_n 0, 1) := by decide +kernel
theorem own_djdk_35_method_48_code_13 : decode jdk_35_method_48_code 13 = .ok (.l2i, 1) := by decide +kernel
theorem own_pd__I_I : parseMethodDescriptor "(I)I" = some ⟨[.int], some .int⟩ := by decide +kernel
theorem own_djdk_35_method_48_code_14 : decode jdk_35_method_48_code 14 = .ok (.invokestatic 308, 3) := by decide +kernel
theorem own_djdk_35_method_48_code_17 : decode jdk_35_method_48_code 17 = .ok (.iadd, 1) := by decide +kernel
theorem own_djdk_35_method_48_code_18 : decode jdk_35_method_48_code 18 = .ok (.goto 7, 3) := by decide +kernel
theorem own_djdk_35_method_48_code_25 : decode jdk_35_method_48_code 25 = .ok (.ireturn, 1) := by decide +kernel
theorem own_djdk_35_method_48_code_21 : decode jdk_35_method_48_code 21 = .ok (.iload_n 2, 1) := by decide +kernel
theorem own_djdk_35_method_48_code_22 : decode jdk_35_method_48_code 22 = .ok (.invokestatic 308, 3) := by decide +kernel
theorem own_efNL (m : MethodId) (q1 : Int64) : entryFrame m #[(.long q1)] 3 = mkF m 0 #[.val (.long q1), .second, .unset] [] := by first | (simp [entryFrame, mkF, argsToLocals, Value.category]; done) | rfl
def own_QNL (Z : State) (q1 : Int64) (h0 : Heap) (n0 : Nat) (rv__ : Option Value) (h : Heap) (rL__ : List Loc) : Prop := rv__ = some (.int (own_nlzL q1)) ∧ Fr n0 rL__ ∧ h = h0
abbrev own_RNL : Room := { frames := 1, cells := 0, slots := 0, locals := 14 }
set_option maxRecDepth 65536 in
set_option maxHeartbeats 40000000 in
theorem own_rmNL (l : Launch) (Z : State) (a0 : Array Value) (hw : ∀ d ∈ tables_1, d.before a0 Z = true) (ws : List Jvm.Cond) (q1 : Int64) (h0 : Heap) (n0 : Nat) (Z0 : n0 ≤ h0.size)  :
    MetFree l (⟨"java/lang/Long", "numberOfLeadingZeros", "(J)I"⟩ : MethodName) (head1 (Jvm.Cond.code (⟨"java/lang/Long", "numberOfLeadingZeros", "(J)I"⟩ : MethodName) jdk_35_method_48_code 3 (some .int) :: ws) own_RNL) (fun aa__ U => aa__ = #[(.long q1)] ∧ Z.Warmed39 U.vm ∧ U.heap = h0) (fun _ _ _ _ _ => True) (fun _ U oc_ U' => ∃ rv__ rL__, oc_ = .returned rv__ ∧ own_QNL Z q1 h0 n0 rv__ U'.heap rL__ ∧ FrameEnd U oc_ U' rL__ own_RNL.cells own_RNL.slots) := by
  refine MetFree.of_bodySF (plainFor_of_name own_pn_java_lang_Long) hisR ?_
  intro p e s m args below meth c s₁ Bd hml0 hP hK
  obtain ⟨rfl, hZ, hh⟩ := hP
  have hx := Bd.exec
  have hby := Bd.bytes
  have hml : c.maxLocals = 3 := hml0
  have hown : s.vm.findClass "java/lang/Long" = some m.cls := findClass_of_methodNamed Bd.named
  have hnm := (name_of_methodNamed Bd.named Bd.method).1
  have X0 : Stand p l e own_RNL s m #[(.long q1)] below meth c s₁ [] 0 0 := Stand.of_body Bd
  have e0 : s₁.heap = h0 := by rw [← hh, Bd.state]; rfl
  have N0 := Fr.nil n0
  refine own_in (fun _ k => castTop (own_efNL m q1) k) ?_
  intro RR hRR
  show own_Go p.tables e below RR (s₁.setTop (mkF m 0 #[.val (.long q1), .second, .unset] []))
  refine own_st (fun _ k => XS.lloadN X0.here hx rfl (hb hby own_djdk_35_method_48_code_0) rfl (XS.bipush X0.here hx rfl (hb hby own_djdk_35_method_48_code_1) (XS.lushr X0.here hx rfl (hb hby own_djdk_35_method_48_code_3) rfl (XS.l2i X0.here hx rfl (hb hby own_djdk_35_method_48_code_4) rfl (XS.istoreN X0.here hx rfl (hb hby own_djdk_35_method_48_code_5) rfl (l' := #[.val (.long q1), .second, .val (.int (((q1.toUInt64 >>> ((32 : Int32) &&& 0x3f).toInt64.toUInt64).toInt64).toInt32))]) rfl (XS.iloadN X0.here hx rfl (hb hby own_djdk_35_method_48_code_6) rfl k)))))) ?_
  show own_Go p.tables e below RR (s₁.setTop (mkF m 7 #[.val (.long q1), .second, .val (.int (((q1.toUInt64 >>> ((32 : Int32) &&& 0x3f).toInt64.toUInt64).toInt64).toInt32))] [(.int (((q1.toUInt64 >>> ((32 : Int32) &&& 0x3f).toInt64.toUInt64).toInt64).toInt32))]))
  by_cases hc7_1 : (((q1.toUInt64 >>> ((32 : Int32) &&& 0x3f).toInt64.toUInt64).toInt64).toInt32) = (0 : Int32)
  · refine own_st (fun _ k => XS.ifNo X0.here hx rfl (hb hby own_djdk_35_method_48_code_7) rfl ((if0 _ _).trans (teq hc7_1).2) (XS.bipush X0.here hx rfl (hb hby own_djdk_35_method_48_code_10) (XS.lloadN X0.here hx rfl (hb hby own_djdk_35_method_48_code_12) rfl (XS.l2i X0.here hx rfl (hb hby own_djdk_35_method_48_code_13) rfl k)))) ?_
    show own_Go p.tables e below RR (s₁.setTop (mkF m 14 #[.val (.long q1), .second, .val (.int (((q1.toUInt64 >>> ((32 : Int32) &&& 0x3f).toInt64.toUInt64).toInt64).toInt32))] [(.int (q1.toInt32)), (.int (32 : Int32))]))
    obtain ⟨_, _, ⟨T2, L2, k2, n2⟩, -, X2, ⟨Lc2, hQ2, l2, y2, z2⟩, st2⟩ := Jvm.LawKit.callS X0 hx (y := (⟨"java/lang/Integer", "numberOfLeadingZeros", "(I)I"⟩ : MethodName)) hown (mvT hZ (hw _ (List.mem_of_getElem? (i := 35) rfl))) (mvT hZ (hw _ (List.mem_of_getElem? (i := 36) rfl))) (mvT hZ (hw _ (List.mem_of_getElem? (i := 37) rfl))) (mvT hZ (hw _ (List.mem_of_getElem? (i := 38) rfl))) (by decide) (backOf (W := 1) (own_rmNI l Z a0 hw [] (q1.toInt32) h0 n0 Z0 ) hZ (hw _ (List.mem_of_getElem? (i := 38) rfl)) (hw _ (List.mem_of_getElem? (i := 37) rfl)) (by decide) (by decide)) (g := (mkF m 14 #[.val (.long q1), .second, .val (.int (((q1.toUInt64 >>> ((32 : Int32) &&& 0x3f).toInt64.toUInt64).toInt64).toInt32))] [(.int (q1.toInt32)), (.int (32 : Int32))])) rfl (by rw [hml]; rfl) (argsL := [(.int (q1.toInt32))]) (rest := [(.int (32 : Int32))]) (lenOf own_pd__I_I rfl) rfl (by show 2 * 0 + _ ≤ _; exact Nat.le_of_eq rfl) (hb hby own_djdk_35_method_48_code_14) (fun _ _ => ⟨rfl, e0, (by decide : 0 + 0 ≤ _), (by decide : 0 + 0 ≤ _)⟩)
    dsimp only [Pt.U, Pt.locs, Pt.cells, Pt.slots] at X2 l2 y2 z2 st2 hQ2
    subst l2 y2 z2
    obtain ⟨rfl, Nq2, eq2⟩ := hQ2
    have N2 := Fr.app N0 Nq2
    refine own_st st2 ?_
    show own_Go p.tables e below RR (T2.setTop (mkF m 17 #[.val (.long q1), .second, .val (.int (((q1.toUInt64 >>> ((32 : Int32) &&& 0x3f).toInt64.toUInt64).toInt64).toInt32))] [(.int (own_nlzI (q1.toInt32))), (.int (32 : Int32))]))
    refine own_st (fun _ k => XS.iadd X2.here hx rfl (hb hby own_djdk_35_method_48_code_17) rfl (XS.goto X2.here hx rfl (pc0 := 18) (pc' := 25) rfl (hb hby own_djdk_35_method_48_code_18) (by decide) (by decide) k)) ?_
    show own_Go p.tables e below RR (T2.setTop (mkF m 25 #[.val (.long q1), .second, .val (.int (((q1.toUInt64 >>> ((32 : Int32) &&& 0x3f).toInt64.toUInt64).toInt64).toInt32))] [(.int ((32 : Int32) + (own_nlzI (q1.toInt32))))]))
    obtain ⟨fs, hrt_, hrun, hended, hW, hsame⟩ := X2.leave (v := some (.int ((32 : Int32) + (own_nlzI (q1.toInt32))))) (fun h => by rw [Bd.returns] at h; cases h)
    refine own_fin (retI X2 hx Bd.returns (hb hby own_djdk_35_method_48_code_25) hrt_) (hRR _ ⟨_, hrun, hended, _, _, rfl, ?_, ⟨_, rfl⟩, hW, hsame.mono (by decide) (by decide)⟩)
    show own_QNL Z q1 h0 n0 _ T2.heap _
    rw [eq2]
    exact ⟨own_ri (by simp only [own_nlzL, hc7_1, if_true, if_false]), N2, rfl⟩
  · refine own_st (fun _ k => XS.ifYes X0.here hx rfl (pc0 := 7) (pc' := 21) rfl (hb hby own_djdk_35_method_48_code_7) rfl ((if0 _ _).trans (feq hc7_1).2) (by decide) (by decide) (XS.iloadN X0.here hx rfl (hb hby own_djdk_35_method_48_code_21) rfl k)) ?_
    show own_Go p.tables e below RR (s₁.setTop (mkF m 22 #[.val (.long q1), .second, .val (.int (((q1.toUInt64 >>> ((32 : Int32) &&& 0x3f).toInt64.toUInt64).toInt64).toInt32))] [(.int (((q1.toUInt64 >>> ((32 : Int32) &&& 0x3f).toInt64.toUInt64).toInt64).toInt32))]))
    obtain ⟨_, _, ⟨T3, L3, k3, n3⟩, -, X3, ⟨Lc3, hQ3, l3, y3, z3⟩, st3⟩ := Jvm.LawKit.callS X0 hx (y := (⟨"java/lang/Integer", "numberOfLeadingZeros", "(I)I"⟩ : MethodName)) hown (mvT hZ (hw _ (List.mem_of_getElem? (i := 35) rfl))) (mvT hZ (hw _ (List.mem_of_getElem? (i := 36) rfl))) (mvT hZ (hw _ (List.mem_of_getElem? (i := 37) rfl))) (mvT hZ (hw _ (List.mem_of_getElem? (i := 38) rfl))) (by decide) (backOf (W := 0) (own_rmNI l Z a0 hw [] (((q1.toUInt64 >>> ((32 : Int32) &&& 0x3f).toInt64.toUInt64).toInt64).toInt32) h0 n0 Z0 ) hZ (hw _ (List.mem_of_getElem? (i := 38) rfl)) (hw _ (List.mem_of_getElem? (i := 37) rfl)) (by decide) (by decide)) (g := (mkF m 22 #[.val (.long q1), .second, .val (.int (((q1.toUInt64 >>> ((32 : Int32) &&& 0x3f).toInt64.toUInt64).toInt64).toInt32))] [(.int (((q1.toUInt64 >>> ((32 : Int32) &&& 0x3f).toInt64.toUInt64).toInt64).toInt32))])) rfl (by rw [hml]; rfl) (argsL := [(.int (((q1.toUInt64 >>> ((32 : Int32) &&& 0x3f).toInt64.toUInt64).toInt64).toInt32))]) (rest := []) (lenOf own_pd__I_I rfl) rfl (by show 2 * 0 + _ ≤ _; exact Nat.le_of_eq rfl) (hb hby own_djdk_35_method_48_code_22) (fun _ _ => ⟨rfl, e0, (by decide : 0 + 0 ≤ _), (by decide : 0 + 0 ≤ _)⟩)
    dsimp only [Pt.U, Pt.locs, Pt.cells, Pt.slots] at X3 l3 y3 z3 st3 hQ3
    subst l3 y3 z3
    obtain ⟨rfl, Nq3, eq3⟩ := hQ3
    have N3 := Fr.app N0 Nq3
    refine own_st st3 ?_
    show own_Go p.tables e below RR (T3.setTop (mkF m 25 #[.val (.long q1), .second, .val (.int (((q1.toUInt64 >>> ((32 : Int32) &&& 0x3f).toInt64.toUInt64).toInt64).toInt32))] [(.int (own_nlzI (((q1.toUInt64 >>> ((32 : Int32) &&& 0x3f).toInt64.toUInt64).toInt64).toInt32)))]))
    obtain ⟨fs, hrt_, hrun, hended, hW, hsame⟩ := X3.leave (v := some (.int (own_nlzI (((q1.toUInt64 >>> ((32 : Int32) &&& 0x3f).toInt64.toUInt64).toInt64).toInt32)))) (fun h => by rw [Bd.returns] at h; cases h)
    refine own_fin (retI X3 hx Bd.returns (hb hby own_djdk_35_method_48_code_25) hrt_) (hRR _ ⟨_, hrun, hended, _, _, rfl, ?_, ⟨_, rfl⟩, hW, hsame.mono (by decide) (by decide)⟩)
    show own_QNL Z q1 h0 n0 _ T3.heap _
    rw [eq3]
    exact ⟨own_ri (by simp only [own_nlzL, hc7_1, if_true, if_false]), N3, rfl⟩
theorem own_pf_java_lang_Mathmax : plainFor (⟨"java/lang/Math", "max", "(II)I"⟩ : MethodName) = true := by first | exact Jvm.Free.JP.mathPlain rfl (by decide +kernel) | decide +kernel
theorem own_djdk_29_method_65_code_0 : decode jdk_29_method_65_code 0 = .ok (.iload_n 0, 1) := by decide +kernel
theorem own_djdk_29_method_65_code_1 : decode jdk_29_method_65_code 1 = .ok (.iload_n 1, 1) := by decide +kernel
theorem own_djdk_29_method_65_code_2 : decode jdk_29_method_65_code 2 = .ok (.if_icmp .lt 7, 3) := by decide +kernel
theorem own_djdk_29_method_65_code_9 : decode jdk_29_method_65_code 9 = .ok (.iload_n 1, 1) := by decide +kernel
theorem own_djdk_29_method_65_code_10 : decode jdk_29_method_65_code 10 = .ok (.ireturn, 1) := by decide +kernel
theorem own_djdk_29_method_65_code_5 : decode jdk_29_method_65_code 5 = .ok (.iload_n 0, 1) := by decide +kernel
theorem own_djdk_29_method_65_code_6 : decode jdk_29_method_65_code 6 = .ok (.goto 4, 3) := by decide +kernel
theorem own_efMX (m : MethodId) (p1 : Int32) (p2 : Int32) : entryFrame m #[(.int p1), (.int p2)] 2 = mkF m 0 #[.val (.int p1), .val (.int p2)] [] := by first | (simp [entryFrame, mkF, argsToLocals, Value.category]; done) | rfl
def own_QMX (Z : State) (p1 : Int32) (p2 : Int32) (h0 : Heap) (n0 : Nat) (rv__ : Option Value) (h : Heap) (rL__ : List Loc) : Prop := rv__ = some (.int (own_maxI p1 p2)) ∧ Fr n0 rL__ ∧ h = h0
abbrev own_RMX : Room := { frames := 0, cells := 0, slots := 0, locals := 0 }
set_option maxRecDepth 65536 in
set_option maxHeartbeats 40000000 in
theorem own_rmMX (l : Launch) (Z : State) (a0 : Array Value) (hw : ∀ d ∈ tables_1, d.before a0 Z = true) (ws : List Jvm.Cond) (p1 : Int32) (p2 : Int32) (h0 : Heap) (n0 : Nat) (Z0 : n0 ≤ h0.size)  :
    MetFree l (⟨"java/lang/Math", "max", "(II)I"⟩ : MethodName) (head1 (Jvm.Cond.code (⟨"java/lang/Math", "max", "(II)I"⟩ : MethodName) jdk_29_method_65_code 2 (some .int) :: ws) own_RMX) (fun aa__ U => aa__ = #[(.int p1), (.int p2)] ∧ Z.Warmed39 U.vm ∧ U.heap = h0) (fun _ _ _ _ _ => True) (fun _ U oc_ U' => ∃ rv__ rL__, oc_ = .returned rv__ ∧ own_QMX Z p1 p2 h0 n0 rv__ U'.heap rL__ ∧ FrameEnd U oc_ U' rL__ own_RMX.cells own_RMX.slots) := by
  refine MetFree.of_bodySF own_pf_java_lang_Mathmax hisR ?_
  intro p e s m args below meth c s₁ Bd hml0 hP hK
  obtain ⟨rfl, hZ, hh⟩ := hP
  have hx := Bd.exec
  have hby := Bd.bytes
  have hml : c.maxLocals = 2 := hml0
  have hown : s.vm.findClass "java/lang/Math" = some m.cls := findClass_of_methodNamed Bd.named
  have hnm := (name_of_methodNamed Bd.named Bd.method).1
  have X0 : Stand p l e own_RMX s m #[(.int p1), (.int p2)] below meth c s₁ [] 0 0 := Stand.of_body Bd
  have e0 : s₁.heap = h0 := by rw [← hh, Bd.state]; rfl
  have N0 := Fr.nil n0
  refine own_in (fun _ k => castTop (own_efMX m p1 p2) k) ?_
  intro RR hRR
  show own_Go p.tables e below RR (s₁.setTop (mkF m 0 #[.val (.int p1), .val (.int p2)] []))
  refine own_st (fun _ k => XS.iloadN X0.here hx rfl (hb hby own_djdk_29_method_65_code_0) rfl (XS.iloadN X0.here hx rfl (hb hby own_djdk_29_method_65_code_1) rfl k)) ?_
  show own_Go p.tables e below RR (s₁.setTop (mkF m 2 #[.val (.int p1), .val (.int p2)] [(.int p2), (.int p1)]))
  by_cases hc2_1 : p1 < p2
  · refine own_st (fun _ k => XS.icmpYes X0.here hx rfl (pc0 := 2) (pc' := 9) rfl (hb hby own_djdk_29_method_65_code_2) rfl (tlt hc2_1).1 (by decide) (by decide) (XS.iloadN X0.here hx rfl (hb hby own_djdk_29_method_65_code_9) rfl k)) ?_
    show own_Go p.tables e below RR (s₁.setTop (mkF m 10 #[.val (.int p1), .val (.int p2)] [(.int p2)]))
    obtain ⟨fs, hrt_, hrun, hended, hW, hsame⟩ := X0.leave (v := some (.int p2)) (fun h => by rw [Bd.returns] at h; cases h)
    refine own_fin (retI X0 hx Bd.returns (hb hby own_djdk_29_method_65_code_10) hrt_) (hRR _ ⟨_, hrun, hended, _, _, rfl, ?_, ⟨_, rfl⟩, hW, hsame.mono (by decide) (by decide)⟩)
    show own_QMX Z p1 p2 h0 n0 _ s₁.heap _
    rw [e0]
    exact ⟨own_ri (by simp only [own_maxI, hc2_1, if_true, if_false]), N0, rfl⟩
  · refine own_st (fun _ k => XS.icmpNo X0.here hx rfl (hb hby own_djdk_29_method_65_code_2) rfl (flt hc2_1).1 (XS.iloadN X0.here hx rfl (hb hby own_djdk_29_method_65_code_5) rfl (XS.goto X0.here hx rfl (pc0 := 6) (pc' := 10) rfl (hb hby own_djdk_29_method_65_code_6) (by decide) (by decide) k))) ?_
    show own_Go p.tables e below RR (s₁.setTop (mkF m 10 #[.val (.int p1), .val (.int p2)] [(.int p1)]))
    obtain ⟨fs, hrt_, hrun, hended, hW, hsame⟩ := X0.leave (v := some (.int p1)) (fun h => by rw [Bd.returns] at h; cases h)
    refine own_fin (retI X0 hx Bd.returns (hb hby own_djdk_29_method_65_code_10) hrt_) (hRR _ ⟨_, hrun, hended, _, _, rfl, ?_, ⟨_, rfl⟩, hW, hsame.mono (by decide) (by decide)⟩)
    show own_QMX Z p1 p2 h0 n0 _ s₁.heap _
    rw [e0]
    exact ⟨own_ri (by simp only [own_maxI, hc2_1, if_true, if_false]), N0, rfl⟩
theorem own_pn_com_example_nesiph_nesiph_MarkingSet : plainName "com/example/nesiph/nesiph/MarkingSet" = true := by first | (simp [plainName, overriddenIn]; done) | decide +kernel
theorem own_dprog_21_method_24_code_0 : decode prog_21_method_24_code 0 = .ok (.iconst 1, 1) := by decide +kernel
theorem own_dprog_21_method_24_code_1 : decode prog_21_method_24_code 1 = .ok (.bipush 64, 2) := by decide +kernel
theorem own_dprog_21_method_24_code_3 : decode prog_21_method_24_code 3 = .ok (.lload_n 0, 1) := by decide +kernel
theorem own_pd__J_I : parseMethodDescriptor "(J)I" = some ⟨[.long], some .int⟩ := by decide +kernel
theorem own_dprog_21_method_24_code_4 : decode prog_21_method_24_code 4 = .ok (.invokestatic 141, 3) := by decide +kernel
theorem own_dprog_21_method_24_code_7 : decode prog_21_method_24_code 7 = .ok (.isub, 1) := by decide +kernel
theorem own_pd__II_I : parseMethodDescriptor "(II)I" = some ⟨[.int, .int], some .int⟩ := by decide +kernel
theorem own_dprog_21_method_24_code_8 : decode prog_21_method_24_code 8 = .ok (.invokestatic 113, 3) := by decide +kernel
theorem own_dprog_21_method_24_code_11 : decode prog_21_method_24_code 11 = .ok (.ireturn, 1) := by decide +kernel
theorem own_efBF (m : MethodId) (q1 : Int64) : entryFrame m #[(.long q1)] 2 = mkF m 0 #[.val (.long q1), .second] [] := by first | (simp [entryFrame, mkF, argsToLocals, Value.category]; done) | rfl
def own_QBF (Z : State) (q1 : Int64) (r : Int32) (h0 : Heap) (n0 : Nat) (rv__ : Option Value) (h : Heap) (rL__ : List Loc) : Prop := rv__ = some (.int r) ∧ Fr n0 rL__ ∧ h = h0
abbrev own_RBF : Room := { frames := 2, cells := 0, slots := 0, locals := 30 }
set_option maxRecDepth 65536 in
set_option maxHeartbeats 40000000 in
theorem own_rmBF (l : Launch) (Z : State) (a0 : Array Value) (hw : ∀ d ∈ tables_1, d.before a0 Z = true) (ws : List Jvm.Cond) (q1 : Int64) (r : Int32) (h0 : Heap) (n0 : Nat) (Z0 : n0 ≤ h0.size) (hbf : own_bits q1 = r) :
    MetFree l (⟨"com/example/nesiph/nesiph/MarkingSet", "bitsFor", "(J)I"⟩ : MethodName) (head1 (Jvm.Cond.code (⟨"com/example/nesiph/nesiph/MarkingSet", "bitsFor", "(J)I"⟩ : MethodName) prog_21_method_24_code 2 (some .int) :: ws) own_RBF) (fun aa__ U => aa__ = #[(.long q1)] ∧ Z.Warmed39 U.vm ∧ U.heap = h0) (fun _ _ _ _ _ => True) (fun _ U oc_ U' => ∃ rv__ rL__, oc_ = .returned rv__ ∧ own_QBF Z q1 r h0 n0 rv__ U'.heap rL__ ∧ FrameEnd U oc_ U' rL__ own_RBF.cells own_RBF.slots) := by
  refine MetFree.of_bodySF (plainFor_of_name own_pn_com_example_nesiph_nesiph_MarkingSet) hisR ?_
  intro p e s m args below meth c s₁ Bd hml0 hP hK
  obtain ⟨rfl, hZ, hh⟩ := hP
  have hx := Bd.exec
  have hby := Bd.bytes
  have hml : c.maxLocals = 2 := hml0
  have hown : s.vm.findClass "com/example/nesiph/nesiph/MarkingSet" = some m.cls := findClass_of_methodNamed Bd.named
  have hnm := (name_of_methodNamed Bd.named Bd.method).1
  have X0 : Stand p l e own_RBF s m #[(.long q1)] below meth c s₁ [] 0 0 := Stand.of_body Bd
  have e0 : s₁.heap = h0 := by rw [← hh, Bd.state]; rfl
  have N0 := Fr.nil n0
  refine own_in (fun _ k => castTop (own_efBF m q1) k) ?_
  intro RR hRR
  show own_Go p.tables e below RR (s₁.setTop (mkF m 0 #[.val (.long q1), .second] []))
  refine own_st (fun _ k => XS.iconst X0.here hx rfl (hb hby own_dprog_21_method_24_code_0) (XS.bipush X0.here hx rfl (hb hby own_dprog_21_method_24_code_1) (XS.lloadN X0.here hx rfl (hb hby own_dprog_21_method_24_code_3) rfl k))) ?_
  show own_Go p.tables e below RR (s₁.setTop (mkF m 4 #[.val (.long q1), .second] [(.long q1), (.int (64 : Int32)), (.int (1 : Int32))]))
  obtain ⟨_, _, ⟨T1, L1, k1, n1⟩, -, X1, ⟨Lc1, hQ1, l1, y1, z1⟩, st1⟩ := Jvm.LawKit.callS X0 hx (y := (⟨"java/lang/Long", "numberOfLeadingZeros", "(J)I"⟩ : MethodName)) hown (mvT hZ (hw _ (List.mem_of_getElem? (i := 31) rfl))) (mvT hZ (hw _ (List.mem_of_getElem? (i := 32) rfl))) (mvT hZ (hw _ (List.mem_of_getElem? (i := 33) rfl))) (mvT hZ (hw _ (List.mem_of_getElem? (i := 34) rfl))) (by decide) (backOf (W := 2) (own_rmNL l Z a0 hw [] q1 h0 n0 Z0 ) hZ (hw _ (List.mem_of_getElem? (i := 34) rfl)) (hw _ (List.mem_of_getElem? (i := 33) rfl)) (by decide) (by decide)) (g := (mkF m 4 #[.val (.long q1), .second] [(.long q1), (.int (64 : Int32)), (.int (1 : Int32))])) rfl (by rw [hml]; rfl) (argsL := [(.long q1)]) (rest := [(.int (64 : Int32)), (.int (1 : Int32))]) (lenOf own_pd__J_I rfl) rfl (by show 2 * 0 + _ ≤ _; exact Nat.le_of_eq rfl) (hb hby own_dprog_21_method_24_code_4) (fun _ _ => ⟨rfl, e0, (by decide : 0 + 0 ≤ _), (by decide : 0 + 0 ≤ _)⟩)
  dsimp only [Pt.U, Pt.locs, Pt.cells, Pt.slots] at X1 l1 y1 z1 st1 hQ1
  subst l1 y1 z1
  obtain ⟨rfl, Nq1, eq1⟩ := hQ1
  have N1 := Fr.app N0 Nq1
  refine own_st st1 ?_
  show own_Go p.tables e below RR (T1.setTop (mkF m 7 #[.val (.long q1), .second] [(.int (own_nlzL q1)), (.int (64 : Int32)), (.int (1 : Int32))]))
  refine own_st (fun _ k => XS.isub X1.here hx rfl (hb hby own_dprog_21_method_24_code_7) rfl k) ?_
  show own_Go p.tables e below RR (T1.setTop (mkF m 8 #[.val (.long q1), .second] [(.int ((64 : Int32) - (own_nlzL q1))), (.int (1 : Int32))]))
  obtain ⟨_, _, ⟨T2, L2, k2, n2⟩, -, X2, ⟨Lc2, hQ2, l2, y2, z2⟩, st2⟩ := Jvm.LawKit.callS X1 hx (y := (⟨"java/lang/Math", "max", "(II)I"⟩ : MethodName)) hown (mvT hZ (hw _ (List.mem_of_getElem? (i := 40) rfl))) (mvT hZ (hw _ (List.mem_of_getElem? (i := 41) rfl))) (mvT hZ (hw _ (List.mem_of_getElem? (i := 42) rfl))) (mvT hZ (hw _ (List.mem_of_getElem? (i := 43) rfl))) (by decide) (backOf (W := 0) (own_rmMX l Z a0 hw [] (1 : Int32) ((64 : Int32) - (own_nlzL q1)) h0 n0 Z0 ) hZ (hw _ (List.mem_of_getElem? (i := 43) rfl)) (hw _ (List.mem_of_getElem? (i := 42) rfl)) (by decide) (by decide)) (g := (mkF m 8 #[.val (.long q1), .second] [(.int ((64 : Int32) - (own_nlzL q1))), (.int (1 : Int32))])) rfl (by rw [hml]; rfl) (argsL := [(.int (1 : Int32)), (.int ((64 : Int32) - (own_nlzL q1)))]) (rest := []) (lenOf own_pd__II_I rfl) rfl (by show 2 * 0 + _ ≤ _; exact Nat.le_of_eq rfl) (hb hby own_dprog_21_method_24_code_8) (fun _ _ => ⟨rfl, eq1, (by decide : 0 + 0 ≤ _), (by decide : 0 + 0 ≤ _)⟩)
  dsimp only [Pt.U, Pt.locs, Pt.cells, Pt.slots] at X2 l2 y2 z2 st2 hQ2
  subst l2 y2 z2
  obtain ⟨rfl, Nq2, eq2⟩ := hQ2
  have N2 := Fr.app N1 Nq2
  refine own_st st2 ?_
  show own_Go p.tables e below RR (T2.setTop (mkF m 11 #[.val (.long q1), .second] [(.int (own_maxI (1 : Int32) ((64 : Int32) - (own_nlzL q1))))]))
  obtain ⟨fs, hrt_, hrun, hended, hW, hsame⟩ := X2.leave (v := some (.int (own_maxI (1 : Int32) ((64 : Int32) - (own_nlzL q1))))) (fun h => by rw [Bd.returns] at h; cases h)
  refine own_fin (retI X2 hx Bd.returns (hb hby own_dprog_21_method_24_code_11) hrt_) (hRR _ ⟨_, hrun, hended, _, _, rfl, ?_, ⟨_, rfl⟩, hW, hsame.mono (by decide) (by decide)⟩)
  show own_QBF Z q1 r h0 n0 _ T2.heap _
  rw [eq2]
  exact ⟨own_ri (hbf), N2, rfl⟩
theorem own_dprog_21_method_23_code_0 : decode prog_21_method_23_code 0 = .ok (.lconst 1, 1) := by decide +kernel
theorem own_dprog_21_method_23_code_1 : decode prog_21_method_23_code 1 = .ok (.iload_n 0, 1) := by decide +kernel
theorem own_dprog_21_method_23_code_2 : decode prog_21_method_23_code 2 = .ok (.lshl, 1) := by decide +kernel
theorem own_dprog_21_method_23_code_3 : decode prog_21_method_23_code 3 = .ok (.lconst 1, 1) := by decide +kernel
theorem own_dprog_21_method_23_code_4 : decode prog_21_method_23_code 4 = .ok (.lsub, 1) := by decide +kernel
theorem own_dprog_21_method_23_code_5 : decode prog_21_method_23_code 5 = .ok (.lreturn, 1) := by decide +kernel
theorem own_efLB (m : MethodId) (p1 : Int32) : entryFrame m #[(.int p1)] 1 = mkF m 0 #[.val (.int p1)] [] := by first | (simp [entryFrame, mkF, argsToLocals, Value.category]; done) | rfl
def own_QLB (Z : State) (p1 : Int32) (h0 : Heap) (n0 : Nat) (rv__ : Option Value) (h : Heap) (rL__ : List Loc) : Prop := rv__ = some (.long (own_low p1)) ∧ Fr n0 rL__ ∧ h = h0
abbrev own_RLB : Room := { frames := 0, cells := 0, slots := 0, locals := 0 }
set_option maxRecDepth 65536 in
set_option maxHeartbeats 40000000 in
theorem own_rmLB (l : Launch) (Z : State) (a0 : Array Value) (hw : ∀ d ∈ tables_1, d.before a0 Z = true) (ws : List Jvm.Cond) (p1 : Int32) (h0 : Heap) (n0 : Nat) (Z0 : n0 ≤ h0.size)  :
    MetFree l (⟨"com/example/nesiph/nesiph/MarkingSet", "lowBits", "(I)J"⟩ : MethodName) (head1 (Jvm.Cond.code (⟨"com/example/nesiph/nesiph/MarkingSet", "lowBits", "(I)J"⟩ : MethodName) prog_21_method_23_code 1 (some .long) :: ws) own_RLB) (fun aa__ U => aa__ = #[(.int p1)] ∧ Z.Warmed39 U.vm ∧ U.heap = h0) (fun _ _ _ _ _ => True) (fun _ U oc_ U' => ∃ rv__ rL__, oc_ = .returned rv__ ∧ own_QLB Z p1 h0 n0 rv__ U'.heap rL__ ∧ FrameEnd U oc_ U' rL__ own_RLB.cells own_RLB.slots) := by
  refine MetFree.of_bodySF (plainFor_of_name own_pn_com_example_nesiph_nesiph_MarkingSet) hisR ?_
  intro p e s m args below meth c s₁ Bd hml0 hP hK
  obtain ⟨rfl, hZ, hh⟩ := hP
  have hx := Bd.exec
  have hby := Bd.bytes
  have hml : c.maxLocals = 1 := hml0
  have hown : s.vm.findClass "com/example/nesiph/nesiph/MarkingSet" = some m.cls := findClass_of_methodNamed Bd.named
  have hnm := (name_of_methodNamed Bd.named Bd.method).1
  have X0 : Stand p l e own_RLB s m #[(.int p1)] below meth c s₁ [] 0 0 := Stand.of_body Bd
  have e0 : s₁.heap = h0 := by rw [← hh, Bd.state]; rfl
  have N0 := Fr.nil n0
  refine own_in (fun _ k => castTop (own_efLB m p1) k) ?_
  intro RR hRR
  show own_Go p.tables e below RR (s₁.setTop (mkF m 0 #[.val (.int p1)] []))
  refine own_st (fun _ k => XS.lconst X0.here hx rfl (hb hby own_dprog_21_method_23_code_0) (XS.iloadN X0.here hx rfl (hb hby own_dprog_21_method_23_code_1) rfl (XS.lshl X0.here hx rfl (hb hby own_dprog_21_method_23_code_2) rfl (XS.lconst X0.here hx rfl (hb hby own_dprog_21_method_23_code_3) (XS.lsub X0.here hx rfl (hb hby own_dprog_21_method_23_code_4) rfl k))))) ?_
  show own_Go p.tables e below RR (s₁.setTop (mkF m 5 #[.val (.int p1)] [(.long (((1 : Int64) <<< (p1 &&& 0x3f).toInt64) - (1 : Int64)))]))
  obtain ⟨fs, hrt_, hrun, hended, hW, hsame⟩ := X0.leave (v := some (.long (((1 : Int64) <<< (p1 &&& 0x3f).toInt64) - (1 : Int64)))) (fun h => by rw [Bd.returns] at h; cases h)
  refine own_fin (retOut X0 hx Bd.returns rfl (Or.inr (Or.inl ⟨rfl, rfl, _, rfl⟩)) (hb hby own_dprog_21_method_23_code_5) hrt_) (hRR _ ⟨_, hrun, hended, _, _, rfl, ?_, ⟨_, rfl⟩, hW, hsame.mono (by decide) (by decide)⟩)
  show own_QLB Z p1 h0 n0 _ s₁.heap _
  rw [e0]
  exact ⟨rfl, N0, rfl⟩
theorem own_dprog_21_method_15_code_0 : decode prog_21_method_15_code 0 = .ok (.aload_n 0, 1) := by decide +kernel
theorem own_dprog_21_method_15_code_1 : decode prog_21_method_15_code 1 = .ok (.getfield 21, 3) := by decide +kernel
theorem own_dprog_21_method_15_code_4 : decode prog_21_method_15_code 4 = .ok (.iload_n 1, 1) := by decide +kernel
theorem own_dprog_21_method_15_code_5 : decode prog_21_method_15_code 5 = .ok (.iload_n 2, 1) := by decide +kernel
theorem own_dprog_21_method_15_code_6 : decode prog_21_method_15_code 6 = .ok (.iastore, 1) := by decide +kernel
theorem own_dprog_21_method_15_code_7 : decode prog_21_method_15_code 7 = .ok (.aload_n 0, 1) := by decide +kernel
theorem own_dprog_21_method_15_code_8 : decode prog_21_method_15_code 8 = .ok (.getfield 24, 3) := by decide +kernel
theorem own_dprog_21_method_15_code_11 : decode prog_21_method_15_code 11 = .ok (.iload_n 1, 1) := by decide +kernel
theorem own_dprog_21_method_15_code_12 : decode prog_21_method_15_code 12 = .ok (.iload_n 3, 1) := by decide +kernel
theorem own_dprog_21_method_15_code_13 : decode prog_21_method_15_code 13 = .ok (.iastore, 1) := by decide +kernel
theorem own_dprog_21_method_15_code_14 : decode prog_21_method_15_code 14 = .ok (.aload_n 0, 1) := by decide +kernel
theorem own_dprog_21_method_15_code_15 : decode prog_21_method_15_code 15 = .ok (.getfield 17, 3) := by decide +kernel
theorem own_dprog_21_method_15_code_18 : decode prog_21_method_15_code 18 = .ok (.iload_n 1, 1) := by decide +kernel
theorem own_dprog_21_method_15_code_19 : decode prog_21_method_15_code 19 = .ok (.iload 4, 2) := by decide +kernel
theorem own_dprog_21_method_15_code_21 : decode prog_21_method_15_code 21 = .ok (.iastore, 1) := by decide +kernel
theorem own_dprog_21_method_15_code_22 : decode prog_21_method_15_code 22 = .ok (.aload_n 0, 1) := by decide +kernel
theorem own_dprog_21_method_15_code_23 : decode prog_21_method_15_code 23 = .ok (.getfield 27, 3) := by decide +kernel
theorem own_dprog_21_method_15_code_26 : decode prog_21_method_15_code 26 = .ok (.iload_n 1, 1) := by decide +kernel
theorem own_dprog_21_method_15_code_27 : decode prog_21_method_15_code 27 = .ok (.iload 4, 2) := by decide +kernel
theorem own_pd__I_J : parseMethodDescriptor "(I)J" = some ⟨[.int], some .long⟩ := by decide +kernel
theorem own_dprog_21_method_15_code_29 : decode prog_21_method_15_code 29 = .ok (.invokestatic 99, 3) := by decide +kernel
theorem own_dprog_21_method_15_code_32 : decode prog_21_method_15_code 32 = .ok (.lastore, 1) := by decide +kernel
theorem own_dprog_21_method_15_code_33 : decode prog_21_method_15_code 33 = .ok (.return_, 1) := by decide +kernel
theorem own_efPF0 (m : MethodId) (o : Addr) (p2 : Int32) (p3 : Int32) (p4 : Int32) : entryFrame m #[(.ref o), (.int (0 : Int32)), (.int p2), (.int p3), (.int p4)] 5 = mkF m 0 #[.val (.ref o), .val (.int (0 : Int32)), .val (.int p2), .val (.int p3), .val (.int p4)] [] := by first | (simp [entryFrame, mkF, argsToLocals, Value.category]; done) | rfl
def own_QPF0 (Z : State) (o : Addr) (p2 : Int32) (p3 : Int32) (p4 : Int32) (aw : Addr) (as_ : Addr) (ad : Addr) (am : Addr) (kw : ClassId) (ks : ClassId) (kd : ClassId) (km : ClassId) (w_0 : Value) (w_1 : Value) (w_2 : Value) (s_0 : Value) (s_1 : Value) (s_2 : Value) (d_0 : Value) (d_1 : Value) (d_2 : Value) (m_0 : Value) (m_1 : Value) (m_2 : Value) (h0 : Heap) (n0 : Nat) (rv__ : Option Value) (h : Heap) (rL__ : List Loc) : Prop := rv__ = none ∧ Fr n0 rL__ ∧ Keep h0 h [aw, as_, ad, am] ∧ Arv Z h aw kw .int (3 : Int32) [(.int p2), w_1, w_2] (.int (0 : Int32)) ∧ Arv Z h as_ ks .int (3 : Int32) [(.int p3), s_1, s_2] (.int (0 : Int32)) ∧ Arv Z h ad kd .int (3 : Int32) [(.int p4), d_1, d_2] (.int (0 : Int32)) ∧ Arv Z h am km .long (3 : Int32) [(.long (own_low p4)), m_1, m_2] (.long (0 : Int64))
abbrev own_RPF0 : Room := { frames := 1, cells := 0, slots := 0, locals := 14 }
set_option maxRecDepth 65536 in
set_option maxHeartbeats 40000000 in
theorem own_rmPF0 (l : Launch) (Z : State) (a0 : Array Value) (hw : ∀ d ∈ tables_1, d.before a0 Z = true) (ws : List Jvm.Cond) (o : Addr) (p2 : Int32) (p3 : Int32) (p4 : Int32) (aw : Addr) (as_ : Addr) (ad : Addr) (am : Addr) (kw : ClassId) (ks : ClassId) (kd : ClassId) (km : ClassId) (w_0 : Value) (w_1 : Value) (w_2 : Value) (s_0 : Value) (s_1 : Value) (s_2 : Value) (d_0 : Value) (d_1 : Value) (d_2 : Value) (m_0 : Value) (m_1 : Value) (m_2 : Value) (h0 : Heap) (n0 : Nat) (Z0 : n0 ≤ h0.size) (F_wordOf : Fld Z h0 o "com/example/nesiph/nesiph/MarkingSet" "wordOf" "[I" (.ref aw)) (F_shiftOf : Fld Z h0 o "com/example/nesiph/nesiph/MarkingSet" "shiftOf" "[I" (.ref as_)) (F_widths : Fld Z h0 o "com/example/nesiph/nesiph/MarkingSet" "widths" "[I" (.ref ad)) (F_maskOf : Fld Z h0 o "com/example/nesiph/nesiph/MarkingSet" "maskOf" "[J" (.ref am)) (V_wordOf : Arv Z h0 aw kw .int (3 : Int32) [w_0, w_1, w_2] (.int (0 : Int32))) (V_shiftOf : Arv Z h0 as_ ks .int (3 : Int32) [s_0, s_1, s_2] (.int (0 : Int32))) (V_widths : Arv Z h0 ad kd .int (3 : Int32) [d_0, d_1, d_2] (.int (0 : Int32))) (V_maskOf : Arv Z h0 am km .long (3 : Int32) [m_0, m_1, m_2] (.long (0 : Int64))) (g_aw : n0 ≤ aw) (g_as_ : n0 ≤ as_) (g_ad : n0 ≤ ad) (g_am : n0 ≤ am) (n_oaw : o ≠ aw) (n_oas_ : o ≠ as_) (n_oad : o ≠ ad) (n_oam : o ≠ am) (n_awas_ : aw ≠ as_) (n_awad : aw ≠ ad) (n_awam : aw ≠ am) (n_as_ad : as_ ≠ ad) (n_as_am : as_ ≠ am) (n_adam : ad ≠ am) :
    MetFree l (⟨"com/example/nesiph/nesiph/MarkingSet", "placeField", "(IIII)V"⟩ : MethodName) (head1 (Jvm.Cond.code (⟨"com/example/nesiph/nesiph/MarkingSet", "placeField", "(IIII)V"⟩ : MethodName) prog_21_method_15_code 5 none :: ws) own_RPF0) (fun aa__ U => aa__ = #[(.ref o), (.int (0 : Int32)), (.int p2), (.int p3), (.int p4)] ∧ Z.Warmed39 U.vm ∧ U.heap = h0) (fun _ _ _ _ _ => True) (fun _ U oc_ U' => ∃ rv__ rL__, oc_ = .returned rv__ ∧ own_QPF0 Z o p2 p3 p4 aw as_ ad am kw ks kd km w_0 w_1 w_2 s_0 s_1 s_2 d_0 d_1 d_2 m_0 m_1 m_2 h0 n0 rv__ U'.heap rL__ ∧ FrameEnd U oc_ U' rL__ own_RPF0.cells own_RPF0.slots) := by
  refine MetFree.of_bodySF (plainFor_of_name own_pn_com_example_nesiph_nesiph_MarkingSet) hisR ?_
  intro p e s m args below meth c s₁ Bd hml0 hP hK
  obtain ⟨rfl, hZ, hh⟩ := hP
  have hx := Bd.exec
  have hby := Bd.bytes
  have hml : c.maxLocals = 5 := hml0
  have hown : s.vm.findClass "com/example/nesiph/nesiph/MarkingSet" = some m.cls := findClass_of_methodNamed Bd.named
  have hnm := (name_of_methodNamed Bd.named Bd.method).1
  have X0 : Stand p l e own_RPF0 s m #[(.ref o), (.int (0 : Int32)), (.int p2), (.int p3), (.int p4)] below meth c s₁ [] 0 0 := Stand.of_body Bd
  have e0 : s₁.heap = h0 := by rw [← hh, Bd.state]; rfl
  have N0 := Fr.nil n0
  refine own_in (fun _ k => castTop (own_efPF0 m o p2 p3 p4) k) ?_
  intro RR hRR
  show own_Go p.tables e below RR (s₁.setTop (mkF m 0 #[.val (.ref o), .val (.int (0 : Int32)), .val (.int p2), .val (.int p3), .val (.int p4)] []))
  refine own_st (fun _ k => XS.aloadN X0.here hx rfl (hb hby own_dprog_21_method_15_code_0) rfl rfl k) ?_
  show own_Go p.tables e below RR (s₁.setTop (mkF m 1 #[.val (.ref o), .val (.int (0 : Int32)), .val (.int p2), .val (.int p3), .val (.int p4)] [(.ref o)]))
  obtain ⟨T1, X1, e1, st1⟩ := getF X0 hx hZ hown (host := "") (Or.inl (hw _ (List.mem_of_getElem? (i := 22) rfl))) Via.refl e0 F_wordOf (g := (mkF m 1 #[.val (.ref o), .val (.int (0 : Int32)), .val (.int p2), .val (.int p3), .val (.int p4)] [(.ref o)])) rfl rfl (hb hby own_dprog_21_method_15_code_1)
  refine own_st st1 ?_
  show own_Go p.tables e below RR (T1.setTop (mkF m 4 #[.val (.ref o), .val (.int (0 : Int32)), .val (.int p2), .val (.int p3), .val (.int p4)] [(.ref aw)]))
  refine own_st (fun _ k => XS.iloadN X1.here hx rfl (hb hby own_dprog_21_method_15_code_4) rfl (XS.iloadN X1.here hx rfl (hb hby own_dprog_21_method_15_code_5) rfl k)) ?_
  show own_Go p.tables e below RR (T1.setTop (mkF m 6 #[.val (.ref o), .val (.int (0 : Int32)), .val (.int p2), .val (.int p3), .val (.int p4)] [(.int p2), (.int (0 : Int32)), (.ref aw)]))
  obtain ⟨c2, A2, q2, s2, m2, H2, G2⟩ := id V_wordOf
  obtain ⟨T3, h3, X3, e3, W3, st3⟩ := stI X1 hx hZ e1 A2 (j := (0 : Int32)) (inb_of s2 ⟨by decide, by decide⟩) (g := (mkF m 6 #[.val (.ref o), .val (.int (0 : Int32)), .val (.int p2), .val (.int p3), .val (.int p4)] [(.int p2), (.int (0 : Int32)), (.ref aw)])) rfl rfl (hb hby own_dprog_21_method_15_code_6)
  have V3 := Arv.set A2 q2 s2 m2 H2 G2 rfl W3 0 rfl (Nat.le_of_ble_eq_true rfl)
  have V3 : Arv Z h3 aw kw .int (3 : Int32) [(.int p2), w_1, w_2] (.int (0 : Int32)) := V3
  have N3 := Fr.snoc X3 N0 g_aw
  refine own_st st3 ?_
  have z4 : n0 ≤ h3.size := Nat.le_trans Z0 (Keep.of_wr W3).1
  have kk5 : Keep h0 h3 [aw, as_, ad, am] := (Keep.refl h0 [aw, as_, ad, am]).wr W3 (Or.inl (List.mem_of_getElem? (i := 0) rfl))
  show own_Go p.tables e below RR (T3.setTop (mkF m 7 #[.val (.ref o), .val (.int (0 : Int32)), .val (.int p2), .val (.int p3), .val (.int p4)] []))
  refine own_st (fun _ k => XS.aloadN X3.here hx rfl (hb hby own_dprog_21_method_15_code_7) rfl rfl k) ?_
  show own_Go p.tables e below RR (T3.setTop (mkF m 8 #[.val (.ref o), .val (.int (0 : Int32)), .val (.int p2), .val (.int p3), .val (.int p4)] [(.ref o)]))
  have f6 := (F_shiftOf.other W3 (Or.inl n_oaw))
  obtain ⟨T7, X7, e7, st7⟩ := getF X3 hx hZ hown (host := "") (Or.inl (hw _ (List.mem_of_getElem? (i := 24) rfl))) Via.refl e3 f6 (g := (mkF m 8 #[.val (.ref o), .val (.int (0 : Int32)), .val (.int p2), .val (.int p3), .val (.int p4)] [(.ref o)])) rfl rfl (hb hby own_dprog_21_method_15_code_8)
  refine own_st st7 ?_
  show own_Go p.tables e below RR (T7.setTop (mkF m 11 #[.val (.ref o), .val (.int (0 : Int32)), .val (.int p2), .val (.int p3), .val (.int p4)] [(.ref as_)]))
  refine own_st (fun _ k => XS.iloadN X7.here hx rfl (hb hby own_dprog_21_method_15_code_11) rfl (XS.iloadN X7.here hx rfl (hb hby own_dprog_21_method_15_code_12) rfl k)) ?_
  show own_Go p.tables e below RR (T7.setTop (mkF m 13 #[.val (.ref o), .val (.int (0 : Int32)), .val (.int p2), .val (.int p3), .val (.int p4)] [(.int p3), (.int (0 : Int32)), (.ref as_)]))
  have f8 := (V_shiftOf.other W3 (Ne.symm n_awas_))
  obtain ⟨c9, A9, q9, s9, m9, H9, G9⟩ := id f8
  obtain ⟨T10, h10, X10, e10, W10, st10⟩ := stI X7 hx hZ e7 A9 (j := (0 : Int32)) (inb_of s9 ⟨by decide, by decide⟩) (g := (mkF m 13 #[.val (.ref o), .val (.int (0 : Int32)), .val (.int p2), .val (.int p3), .val (.int p4)] [(.int p3), (.int (0 : Int32)), (.ref as_)])) rfl rfl (hb hby own_dprog_21_method_15_code_13)
  have V10 := Arv.set A9 q9 s9 m9 H9 G9 rfl W10 0 rfl (Nat.le_of_ble_eq_true rfl)
  have V10 : Arv Z h10 as_ ks .int (3 : Int32) [(.int p3), s_1, s_2] (.int (0 : Int32)) := V10
  have N10 := Fr.snoc X10 N3 g_as_
  refine own_st st10 ?_
  have z11 : n0 ≤ h10.size := Nat.le_trans z4 (Keep.of_wr W10).1
  have kk12 : Keep h0 h10 [aw, as_, ad, am] := kk5.wr W10 (Or.inl (List.mem_of_getElem? (i := 1) rfl))
  show own_Go p.tables e below RR (T10.setTop (mkF m 14 #[.val (.ref o), .val (.int (0 : Int32)), .val (.int p2), .val (.int p3), .val (.int p4)] []))
  refine own_st (fun _ k => XS.aloadN X10.here hx rfl (hb hby own_dprog_21_method_15_code_14) rfl rfl k) ?_
  show own_Go p.tables e below RR (T10.setTop (mkF m 15 #[.val (.ref o), .val (.int (0 : Int32)), .val (.int p2), .val (.int p3), .val (.int p4)] [(.ref o)]))
  have f13 := ((F_widths.other W3 (Or.inl n_oaw)).other W10 (Or.inl n_oas_))
  obtain ⟨T14, X14, e14, st14⟩ := getF X10 hx hZ hown (host := "") (Or.inl (hw _ (List.mem_of_getElem? (i := 20) rfl))) Via.refl e10 f13 (g := (mkF m 15 #[.val (.ref o), .val (.int (0 : Int32)), .val (.int p2), .val (.int p3), .val (.int p4)] [(.ref o)])) rfl rfl (hb hby own_dprog_21_method_15_code_15)
  refine own_st st14 ?_
  show own_Go p.tables e below RR (T14.setTop (mkF m 18 #[.val (.ref o), .val (.int (0 : Int32)), .val (.int p2), .val (.int p3), .val (.int p4)] [(.ref ad)]))
  refine own_st (fun _ k => XS.iloadN X14.here hx rfl (hb hby own_dprog_21_method_15_code_18) rfl (XS.iload X14.here hx rfl (hb hby own_dprog_21_method_15_code_19) rfl k)) ?_
  show own_Go p.tables e below RR (T14.setTop (mkF m 21 #[.val (.ref o), .val (.int (0 : Int32)), .val (.int p2), .val (.int p3), .val (.int p4)] [(.int p4), (.int (0 : Int32)), (.ref ad)]))
  have f15 := ((V_widths.other W3 (Ne.symm n_awad)).other W10 (Ne.symm n_as_ad))
  obtain ⟨c16, A16, q16, s16, m16, H16, G16⟩ := id f15
  obtain ⟨T17, h17, X17, e17, W17, st17⟩ := stI X14 hx hZ e14 A16 (j := (0 : Int32)) (inb_of s16 ⟨by decide, by decide⟩) (g := (mkF m 21 #[.val (.ref o), .val (.int (0 : Int32)), .val (.int p2), .val (.int p3), .val (.int p4)] [(.int p4), (.int (0 : Int32)), (.ref ad)])) rfl rfl (hb hby own_dprog_21_method_15_code_21)
  have V17 := Arv.set A16 q16 s16 m16 H16 G16 rfl W17 0 rfl (Nat.le_of_ble_eq_true rfl)
  have V17 : Arv Z h17 ad kd .int (3 : Int32) [(.int p4), d_1, d_2] (.int (0 : Int32)) := V17
  have N17 := Fr.snoc X17 N10 g_ad
  refine own_st st17 ?_
  have z18 : n0 ≤ h17.size := Nat.le_trans z11 (Keep.of_wr W17).1
  have kk19 : Keep h0 h17 [aw, as_, ad, am] := kk12.wr W17 (Or.inl (List.mem_of_getElem? (i := 2) rfl))
  show own_Go p.tables e below RR (T17.setTop (mkF m 22 #[.val (.ref o), .val (.int (0 : Int32)), .val (.int p2), .val (.int p3), .val (.int p4)] []))
  refine own_st (fun _ k => XS.aloadN X17.here hx rfl (hb hby own_dprog_21_method_15_code_22) rfl rfl k) ?_
  show own_Go p.tables e below RR (T17.setTop (mkF m 23 #[.val (.ref o), .val (.int (0 : Int32)), .val (.int p2), .val (.int p3), .val (.int p4)] [(.ref o)]))
  have f20 := (((F_maskOf.other W3 (Or.inl n_oaw)).other W10 (Or.inl n_oas_)).other W17 (Or.inl n_oad))
  obtain ⟨T21, X21, e21, st21⟩ := getF X17 hx hZ hown (host := "") (Or.inl (hw _ (List.mem_of_getElem? (i := 26) rfl))) Via.refl e17 f20 (g := (mkF m 23 #[.val (.ref o), .val (.int (0 : Int32)), .val (.int p2), .val (.int p3), .val (.int p4)] [(.ref o)])) rfl rfl (hb hby own_dprog_21_method_15_code_23)
  refine own_st st21 ?_
  show own_Go p.tables e below RR (T21.setTop (mkF m 26 #[.val (.ref o), .val (.int (0 : Int32)), .val (.int p2), .val (.int p3), .val (.int p4)] [(.ref am)]))
  refine own_st (fun _ k => XS.iloadN X21.here hx rfl (hb hby own_dprog_21_method_15_code_26) rfl (XS.iload X21.here hx rfl (hb hby own_dprog_21_method_15_code_27) rfl k)) ?_
  show own_Go p.tables e below RR (T21.setTop (mkF m 29 #[.val (.ref o), .val (.int (0 : Int32)), .val (.int p2), .val (.int p3), .val (.int p4)] [(.int p4), (.int (0 : Int32)), (.ref am)]))
  obtain ⟨_, _, ⟨T22, L22, k22, n22⟩, -, X22, ⟨Lc22, hQ22, l22, y22, z22⟩, st22⟩ := Jvm.LawKit.callS X21 hx (y := (⟨"com/example/nesiph/nesiph/MarkingSet", "lowBits", "(I)J"⟩ : MethodName)) hown (mvT hZ (hw _ (List.mem_of_getElem? (i := 48) rfl))) (mvT hZ (hw _ (List.mem_of_getElem? (i := 49) rfl))) (mvT hZ (hw _ (List.mem_of_getElem? (i := 8) rfl))) (mvT hZ (hw _ (List.mem_of_getElem? (i := 50) rfl))) (by decide) (backOf (W := 2) (own_rmLB l Z a0 hw [] p4 h17 n0 z18 ) hZ (hw _ (List.mem_of_getElem? (i := 50) rfl)) (hw _ (List.mem_of_getElem? (i := 8) rfl)) (by decide) (by decide)) (g := (mkF m 29 #[.val (.ref o), .val (.int (0 : Int32)), .val (.int p2), .val (.int p3), .val (.int p4)] [(.int p4), (.int (0 : Int32)), (.ref am)])) rfl (by rw [hml]; rfl) (argsL := [(.int p4)]) (rest := [(.int (0 : Int32)), (.ref am)]) (lenOf own_pd__I_J rfl) rfl (by show 2 * 0 + _ ≤ _; exact Nat.le_of_eq rfl) (hb hby own_dprog_21_method_15_code_29) (fun _ _ => ⟨rfl, e21, (by decide : 0 + 0 ≤ _), (by decide : 0 + 0 ≤ _)⟩)
  dsimp only [Pt.U, Pt.locs, Pt.cells, Pt.slots] at X22 l22 y22 z22 st22 hQ22
  subst l22 y22 z22
  obtain ⟨rfl, Nq22, eq22⟩ := hQ22
  have N22 := Fr.app N17 Nq22
  refine own_st st22 ?_
  show own_Go p.tables e below RR (T22.setTop (mkF m 32 #[.val (.ref o), .val (.int (0 : Int32)), .val (.int p2), .val (.int p3), .val (.int p4)] [(.long (own_low p4)), (.int (0 : Int32)), (.ref am)]))
  have f23 := (((V_maskOf.other W3 (Ne.symm n_awam)).other W10 (Ne.symm n_as_am)).other W17 (Ne.symm n_adam))
  obtain ⟨c24, A24, q24, s24, m24, H24, G24⟩ := id f23
  obtain ⟨T25, h25, X25, e25, W25, st25⟩ := stJ X22 hx hZ eq22 A24 (j := (0 : Int32)) (inb_of s24 ⟨by decide, by decide⟩) (g := (mkF m 32 #[.val (.ref o), .val (.int (0 : Int32)), .val (.int p2), .val (.int p3), .val (.int p4)] [(.long (own_low p4)), (.int (0 : Int32)), (.ref am)])) rfl rfl (hb hby own_dprog_21_method_15_code_32)
  have V25 := Arv.set A24 q24 s24 m24 H24 G24 rfl W25 0 rfl (Nat.le_of_ble_eq_true rfl)
  have V25 : Arv Z h25 am km .long (3 : Int32) [(.long (own_low p4)), m_1, m_2] (.long (0 : Int64)) := V25
  have N25 := Fr.snoc X25 N22 g_am
  refine own_st st25 ?_
  have z26 : n0 ≤ h25.size := Nat.le_trans z18 (Keep.of_wr W25).1
  have kk27 : Keep h0 h25 [aw, as_, ad, am] := kk19.wr W25 (Or.inl (List.mem_of_getElem? (i := 3) rfl))
  show own_Go p.tables e below RR (T25.setTop (mkF m 33 #[.val (.ref o), .val (.int (0 : Int32)), .val (.int p2), .val (.int p3), .val (.int p4)] []))
  obtain ⟨fs, hrt_, hrun, hended, hW, hsame⟩ := X25.leave (v := none) (fun _ => rfl)
  refine own_fin (X25.returnOut hx Bd.returns (hb hby own_dprog_21_method_15_code_33) hrt_) (hRR _ ⟨_, hrun, hended, _, _, rfl, ?_, ⟨_, rfl⟩, hW, hsame.mono (by decide) (by decide)⟩)
  show own_QPF0 Z o p2 p3 p4 aw as_ ad am kw ks kd km w_0 w_1 w_2 s_0 s_1 s_2 d_0 d_1 d_2 m_0 m_1 m_2 h0 n0 _ T25.heap _
  rw [e25]
  have f28 := (((V3.other W10 n_awas_).other W17 n_awad).other W25 n_awam)
  have f29 := ((V10.other W17 n_as_ad).other W25 n_as_am)
  have f30 := (V17.other W25 n_adam)
  exact ⟨rfl, N25, kk27, f28, f29, f30, V25⟩
theorem own_efPF1 (m : MethodId) (o : Addr) (p2 : Int32) (p3 : Int32) (p4 : Int32) : entryFrame m #[(.ref o), (.int (1 : Int32)), (.int p2), (.int p3), (.int p4)] 5 = mkF m 0 #[.val (.ref o), .val (.int (1 : Int32)), .val (.int p2), .val (.int p3), .val (.int p4)] [] := by first | (simp [entryFrame, mkF, argsToLocals, Value.category]; done) | rfl
def own_QPF1 (Z : State) (o : Addr) (p2 : Int32) (p3 : Int32) (p4 : Int32) (aw : Addr) (as_ : Addr) (ad : Addr) (am : Addr) (kw : ClassId) (ks : ClassId) (kd : ClassId) (km : ClassId) (w_0 : Value) (w_1 : Value) (w_2 : Value) (s_0 : Value) (s_1 : Value) (s_2 : Value) (d_0 : Value) (d_1 : Value) (d_2 : Value) (m_0 : Value) (m_1 : Value) (m_2 : Value) (h0 : Heap) (n0 : Nat) (rv__ : Option Value) (h : Heap) (rL__ : List Loc) : Prop := rv__ = none ∧ Fr n0 rL__ ∧ Keep h0 h [aw, as_, ad, am] ∧ Arv Z h aw kw .int (3 : Int32) [w_0, (.int p2), w_2] (.int (0 : Int32)) ∧ Arv Z h as_ ks .int (3 : Int32) [s_0, (.int p3), s_2] (.int (0 : Int32)) ∧ Arv Z h ad kd .int (3 : Int32) [d_0, (.int p4), d_2] (.int (0 : Int32)) ∧ Arv Z h am km .long (3 : Int32) [m_0, (.long (own_low p4)), m_2] (.long (0 : Int64))
abbrev own_RPF1 : Room := { frames := 1, cells := 0, slots := 0, locals := 14 }
set_option maxRecDepth 65536 in
set_option maxHeartbeats 40000000 in
theorem own_rmPF1 (l : Launch) (Z : State) (a0 : Array Value) (hw : ∀ d ∈ tables_1, d.before a0 Z = true) (ws : List Jvm.Cond) (o : Addr) (p2 : Int32) (p3 : Int32) (p4 : Int32) (aw : Addr) (as_ : Addr) (ad : Addr) (am : Addr) (kw : ClassId) (ks : ClassId) (kd : ClassId) (km : ClassId) (w_0 : Value) (w_1 : Value) (w_2 : Value) (s_0 : Value) (s_1 : Value) (s_2 : Value) (d_0 : Value) (d_1 : Value) (d_2 : Value) (m_0 : Value) (m_1 : Value) (m_2 : Value) (h0 : Heap) (n0 : Nat) (Z0 : n0 ≤ h0.size) (F_wordOf : Fld Z h0 o "com/example/nesiph/nesiph/MarkingSet" "wordOf" "[I" (.ref aw)) (F_shiftOf : Fld Z h0 o "com/example/nesiph/nesiph/MarkingSet" "shiftOf" "[I" (.ref as_)) (F_widths : Fld Z h0 o "com/example/nesiph/nesiph/MarkingSet" "widths" "[I" (.ref ad)) (F_maskOf : Fld Z h0 o "com/example/nesiph/nesiph/MarkingSet" "maskOf" "[J" (.ref am)) (V_wordOf : Arv Z h0 aw kw .int (3 : Int32) [w_0, w_1, w_2] (.int (0 : Int32))) (V_shiftOf : Arv Z h0 as_ ks .int (3 : Int32) [s_0, s_1, s_2] (.int (0 : Int32))) (V_widths : Arv Z h0 ad kd .int (3 : Int32) [d_0, d_1, d_2] (.int (0 : Int32))) (V_maskOf : Arv Z h0 am km .long (3 : Int32) [m_0, m_1, m_2] (.long (0 : Int64))) (g_aw : n0 ≤ aw) (g_as_ : n0 ≤ as_) (g_ad : n0 ≤ ad) (g_am : n0 ≤ am) (n_oaw : o ≠ aw) (n_oas_ : o ≠ as_) (n_oad : o ≠ ad) (n_oam : o ≠ am) (n_awas_ : aw ≠ as_) (n_awad : aw ≠ ad) (n_awam : aw ≠ am) (n_as_ad : as_ ≠ ad) (n_as_am : as_ ≠ am) (n_adam : ad ≠ am) :
    MetFree l (⟨"com/example/nesiph/nesiph/MarkingSet", "placeField", "(IIII)V"⟩ : MethodName) (head1 (Jvm.Cond.code (⟨"com/example/nesiph/nesiph/MarkingSet", "placeField", "(IIII)V"⟩ : MethodName) prog_21_method_15_code 5 none :: ws) own_RPF1) (fun aa__ U => aa__ = #[(.ref o), (.int (1 : Int32)), (.int p2), (.int p3), (.int p4)] ∧ Z.Warmed39 U.vm ∧ U.heap = h0) (fun _ _ _ _ _ => True) (fun _ U oc_ U' => ∃ rv__ rL__, oc_ = .returned rv__ ∧ own_QPF1 Z o p2 p3 p4 aw as_ ad am kw ks kd km w_0 w_1 w_2 s_0 s_1 s_2 d_0 d_1 d_2 m_0 m_1 m_2 h0 n0 rv__ U'.heap rL__ ∧ FrameEnd U oc_ U' rL__ own_RPF1.cells own_RPF1.slots) := by
  refine MetFree.of_bodySF (plainFor_of_name own_pn_com_example_nesiph_nesiph_MarkingSet) hisR ?_
  intro p e s m args below meth c s₁ Bd hml0 hP hK
  obtain ⟨rfl, hZ, hh⟩ := hP
  have hx := Bd.exec
  have hby := Bd.bytes
  have hml : c.maxLocals = 5 := hml0
  have hown : s.vm.findClass "com/example/nesiph/nesiph/MarkingSet" = some m.cls := findClass_of_methodNamed Bd.named
  have hnm := (name_of_methodNamed Bd.named Bd.method).1
  have X0 : Stand p l e own_RPF1 s m #[(.ref o), (.int (1 : Int32)), (.int p2), (.int p3), (.int p4)] below meth c s₁ [] 0 0 := Stand.of_body Bd
  have e0 : s₁.heap = h0 := by rw [← hh, Bd.state]; rfl
  have N0 := Fr.nil n0
  refine own_in (fun _ k => castTop (own_efPF1 m o p2 p3 p4) k) ?_
  intro RR hRR
  show own_Go p.tables e below RR (s₁.setTop (mkF m 0 #[.val (.ref o), .val (.int (1 : Int32)), .val (.int p2), .val (.int p3), .val (.int p4)] []))
  refine own_st (fun _ k => XS.aloadN X0.here hx rfl (hb hby own_dprog_21_method_15_code_0) rfl rfl k) ?_
  show own_Go p.tables e below RR (s₁.setTop (mkF m 1 #[.val (.ref o), .val (.int (1 : Int32)), .val (.int p2), .val (.int p3), .val (.int p4)] [(.ref o)]))
  obtain ⟨T1, X1, e1, st1⟩ := getF X0 hx hZ hown (host := "") (Or.inl (hw _ (List.mem_of_getElem? (i := 22) rfl))) Via.refl e0 F_wordOf (g := (mkF m 1 #[.val (.ref o), .val (.int (1 : Int32)), .val (.int p2), .val (.int p3), .val (.int p4)] [(.ref o)])) rfl rfl (hb hby own_dprog_21_method_15_code_1)
  refine own_st st1 ?_
  show own_Go p.tables e below RR (T1.setTop (mkF m 4 #[.val (.ref o), .val (.int (1 : Int32)), .val (.int p2), .val (.int p3), .val (.int p4)] [(.ref aw)]))
  refine own_st (fun _ k => XS.iloadN X1.here hx rfl (hb hby own_dprog_21_method_15_code_4) rfl (XS.iloadN X1.here hx rfl (hb hby own_dprog_21_method_15_code_5) rfl k)) ?_
  show own_Go p.tables e below RR (T1.setTop (mkF m 6 #[.val (.ref o), .val (.int (1 : Int32)), .val (.int p2), .val (.int p3), .val (.int p4)] [(.int p2), (.int (1 : Int32)), (.ref aw)]))
  obtain ⟨c2, A2, q2, s2, m2, H2, G2⟩ := id V_wordOf
  obtain ⟨T3, h3, X3, e3, W3, st3⟩ := stI X1 hx hZ e1 A2 (j := (1 : Int32)) (inb_of s2 ⟨by decide, by decide⟩) (g := (mkF m 6 #[.val (.ref o), .val (.int (1 : Int32)), .val (.int p2), .val (.int p3), .val (.int p4)] [(.int p2), (.int (1 : Int32)), (.ref aw)])) rfl rfl (hb hby own_dprog_21_method_15_code_6)
  have V3 := Arv.set A2 q2 s2 m2 H2 G2 rfl W3 1 rfl (Nat.le_of_ble_eq_true rfl)
  have V3 : Arv Z h3 aw kw .int (3 : Int32) [w_0, (.int p2), w_2] (.int (0 : Int32)) := V3
  have N3 := Fr.snoc X3 N0 g_aw
  refine own_st st3 ?_
  have z4 : n0 ≤ h3.size := Nat.le_trans Z0 (Keep.of_wr W3).1
  have kk5 : Keep h0 h3 [aw, as_, ad, am] := (Keep.refl h0 [aw, as_, ad, am]).wr W3 (Or.inl (List.mem_of_getElem? (i := 0) rfl))
  show own_Go p.tables e below RR (T3.setTop (mkF m 7 #[.val (.ref o), .val (.int (1 : Int32)), .val (.int p2), .val (.int p3), .val (.int p4)] []))
  refine own_st (fun _ k => XS.aloadN X3.here hx rfl (hb hby own_dprog_21_method_15_code_7) rfl rfl k) ?_
  show own_Go p.tables e below RR (T3.setTop (mkF m 8 #[.val (.ref o), .val (.int (1 : Int32)), .val (.int p2), .val (.int p3), .val (.int p4)] [(.ref o)]))
  have f6 := (F_shiftOf.other W3 (Or.inl n_oaw))
  obtain ⟨T7, X7, e7, st7⟩ := getF X3 hx hZ hown (host := "") (Or.inl (hw _ (List.mem_of_getElem? (i := 24) rfl))) Via.refl e3 f6 (g := (mkF m 8 #[.val (.ref o), .val (.int (1 : Int32)), .val (.int p2), .val (.int p3), .val (.int p4)] [(.ref o)])) rfl rfl (hb hby own_dprog_21_method_15_code_8)
  refine own_st st7 ?_
  show own_Go p.tables e below RR (T7.setTop (mkF m 11 #[.val (.ref o), .val (.int (1 : Int32)), .val (.int p2), .val (.int p3), .val (.int p4)] [(.ref as_)]))
  refine own_st (fun _ k => XS.iloadN X7.here hx rfl (hb hby own_dprog_21_method_15_code_11) rfl (XS.iloadN X7.here hx rfl (hb hby own_dprog_21_method_15_code_12) rfl k)) ?_
  show own_Go p.tables e below RR (T7.setTop (mkF m 13 #[.val (.ref o), .val (.int (1 : Int32)), .val (.int p2), .val (.int p3), .val (.int p4)] [(.int p3), (.int (1 : Int32)), (.ref as_)]))
  have f8 := (V_shiftOf.other W3 (Ne.symm n_awas_))
  obtain ⟨c9, A9, q9, s9, m9, H9, G9⟩ := id f8
  obtain ⟨T10, h10, X10, e10, W10, st10⟩ := stI X7 hx hZ e7 A9 (j := (1 : Int32)) (inb_of s9 ⟨by decide, by decide⟩) (g := (mkF m 13 #[.val (.ref o), .val (.int (1 : Int32)), .val (.int p2), .val (.int p3), .val (.int p4)] [(.int p3), (.int (1 : Int32)), (.ref as_)])) rfl rfl (hb hby own_dprog_21_method_15_code_13)
  have V10 := Arv.set A9 q9 s9 m9 H9 G9 rfl W10 1 rfl (Nat.le_of_ble_eq_true rfl)
  have V10 : Arv Z h10 as_ ks .int (3 : Int32) [s_0, (.int p3), s_2] (.int (0 : Int32)) := V10
  have N10 := Fr.snoc X10 N3 g_as_
  refine own_st st10 ?_
  have z11 : n0 ≤ h10.size := Nat.le_trans z4 (Keep.of_wr W10).1
  have kk12 : Keep h0 h10 [aw, as_, ad, am] := kk5.wr W10 (Or.inl (List.mem_of_getElem? (i := 1) rfl))
  show own_Go p.tables e below RR (T10.setTop (mkF m 14 #[.val (.ref o), .val (.int (1 : Int32)), .val (.int p2), .val (.int p3), .val (.int p4)] []))
  refine own_st (fun _ k => XS.aloadN X10.here hx rfl (hb hby own_dprog_21_method_15_code_14) rfl rfl k) ?_
  show own_Go p.tables e below RR (T10.setTop (mkF m 15 #[.val (.ref o), .val (.int (1 : Int32)), .val (.int p2), .val (.int p3), .val (.int p4)] [(.ref o)]))
  have f13 := ((F_widths.other W3 (Or.inl n_oaw)).other W10 (Or.inl n_oas_))
  obtain ⟨T14, X14, e14, st14⟩ := getF X10 hx hZ hown (host := "") (Or.inl (hw _ (List.mem_of_getElem? (i := 20) rfl))) Via.refl e10 f13 (g := (mkF m 15 #[.val (.ref o), .val (.int (1 : Int32)), .val (.int p2), .val (.int p3), .val (.int p4)] [(.ref o)])) rfl rfl (hb hby own_dprog_21_method_15_code_15)
  refine own_st st14 ?_
  show own_Go p.tables e below RR (T14.setTop (mkF m 18 #[.val (.ref o), .val (.int (1 : Int32)), .val (.int p2), .val (.int p3), .val (.int p4)] [(.ref ad)]))
  refine own_st (fun _ k => XS.iloadN X14.here hx rfl (hb hby own_dprog_21_method_15_code_18) rfl (XS.iload X14.here hx rfl (hb hby own_dprog_21_method_15_code_19) rfl k)) ?_
  show own_Go p.tables e below RR (T14.setTop (mkF m 21 #[.val (.ref o), .val (.int (1 : Int32)), .val (.int p2), .val (.int p3), .val (.int p4)] [(.int p4), (.int (1 : Int32)), (.ref ad)]))
  have f15 := ((V_widths.other W3 (Ne.symm n_awad)).other W10 (Ne.symm n_as_ad))
  obtain ⟨c16, A16, q16, s16, m16, H16, G16⟩ := id f15
  obtain ⟨T17, h17, X17, e17, W17, st17⟩ := stI X14 hx hZ e14 A16 (j := (1 : Int32)) (inb_of s16 ⟨by decide, by decide⟩) (g := (mkF m 21 #[.val (.ref o), .val (.int (1 : Int32)), .val (.int p2), .val (.int p3), .val (.int p4)] [(.int p4), (.int (1 : Int32)), (.ref ad)])) rfl rfl (hb hby own_dprog_21_method_15_code_21)
  have V17 := Arv.set A16 q16 s16 m16 H16 G16 rfl W17 1 rfl (Nat.le_of_ble_eq_true rfl)
  have V17 : Arv Z h17 ad kd .int (3 : Int32) [d_0, (.int p4), d_2] (.int (0 : Int32)) := V17
  have N17 := Fr.snoc X17 N10 g_ad
  refine own_st st17 ?_
  have z18 : n0 ≤ h17.size := Nat.le_trans z11 (Keep.of_wr W17).1
  have kk19 : Keep h0 h17 [aw, as_, ad, am] := kk12.wr W17 (Or.inl (List.mem_of_getElem? (i := 2) rfl))
  show own_Go p.tables e below RR (T17.setTop (mkF m 22 #[.val (.ref o), .val (.int (1 : Int32)), .val (.int p2), .val (.int p3), .val (.int p4)] []))
  refine own_st (fun _ k => XS.aloadN X17.here hx rfl (hb hby own_dprog_21_method_15_code_22) rfl rfl k) ?_
  show own_Go p.tables e below RR (T17.setTop (mkF m 23 #[.val (.ref o), .val (.int (1 : Int32)), .val (.int p2), .val (.int p3), .val (.int p4)] [(.ref o)]))
  have f20 := (((F_maskOf.other W3 (Or.inl n_oaw)).other W10 (Or.inl n_oas_)).other W17 (Or.inl n_oad))
  obtain ⟨T21, X21, e21, st21⟩ := getF X17 hx hZ hown (host := "") (Or.inl (hw _ (List.mem_of_getElem? (i := 26) rfl))) Via.refl e17 f20 (g := (mkF m 23 #[.val (.ref o), .val (.int (1 : Int32)), .val (.int p2), .val (.int p3), .val (.int p4)] [(.ref o)])) rfl rfl (hb hby own_dprog_21_method_15_code_23)
  refine own_st st21 ?_
  show own_Go p.tables e below RR (T21.setTop (mkF m 26 #[.val (.ref o), .val (.int (1 : Int32)), .val (.int p2), .val (.int p3), .val (.int p4)] [(.ref am)]))
  refine own_st (fun _ k => XS.iloadN X21.here hx rfl (hb hby own_dprog_21_method_15_code_26) rfl (XS.iload X21.here hx rfl (hb hby own_dprog_21_method_15_code_27) rfl k)) ?_
  show own_Go p.tables e below RR (T21.setTop (mkF m 29 #[.val (.ref o), .val (.int (1 : Int32)), .val (.int p2), .val (.int p3), .val (.int p4)] [(.int p4), (.int (1 : Int32)), (.ref am)]))
  obtain ⟨_, _, ⟨T22, L22, k22, n22⟩, -, X22, ⟨Lc22, hQ22, l22, y22, z22⟩, st22⟩ := Jvm.LawKit.callS X21 hx (y := (⟨"com/example/nesiph/nesiph/MarkingSet", "lowBits", "(I)J"⟩ : MethodName)) hown (mvT hZ (hw _ (List.mem_of_getElem? (i := 48) rfl))) (mvT hZ (hw _ (List.mem_of_getElem? (i := 49) rfl))) (mvT hZ (hw _ (List.mem_of_getElem? (i := 8) rfl))) (mvT hZ (hw _ (List.mem_of_getElem? (i := 50) rfl))) (by decide) (backOf (W := 2) (own_rmLB l Z a0 hw [] p4 h17 n0 z18 ) hZ (hw _ (List.mem_of_getElem? (i := 50) rfl)) (hw _ (List.mem_of_getElem? (i := 8) rfl)) (by decide) (by decide)) (g := (mkF m 29 #[.val (.ref o), .val (.int (1 : Int32)), .val (.int p2), .val (.int p3), .val (.int p4)] [(.int p4), (.int (1 : Int32)), (.ref am)])) rfl (by rw [hml]; rfl) (argsL := [(.int p4)]) (rest := [(.int (1 : Int32)), (.ref am)]) (lenOf own_pd__I_J rfl) rfl (by show 2 * 0 + _ ≤ _; exact Nat.le_of_eq rfl) (hb hby own_dprog_21_method_15_code_29) (fun _ _ => ⟨rfl, e21, (by decide : 0 + 0 ≤ _), (by decide : 0 + 0 ≤ _)⟩)
  dsimp only [Pt.U, Pt.locs, Pt.cells, Pt.slots] at X22 l22 y22 z22 st22 hQ22
  subst l22 y22 z22
  obtain ⟨rfl, Nq22, eq22⟩ := hQ22
  have N22 := Fr.app N17 Nq22
  refine own_st st22 ?_
  show own_Go p.tables e below RR (T22.setTop (mkF m 32 #[.val (.ref o), .val (.int (1 : Int32)), .val (.int p2), .val (.int p3), .val (.int p4)] [(.long (own_low p4)), (.int (1 : Int32)), (.ref am)]))
  have f23 := (((V_maskOf.other W3 (Ne.symm n_awam)).other W10 (Ne.symm n_as_am)).other W17 (Ne.symm n_adam))
  obtain ⟨c24, A24, q24, s24, m24, H24, G24⟩ := id f23
  obtain ⟨T25, h25, X25, e25, W25, st25⟩ := stJ X22 hx hZ eq22 A24 (j := (1 : Int32)) (inb_of s24 ⟨by decide, by decide⟩) (g := (mkF m 32 #[.val (.ref o), .val (.int (1 : Int32)), .val (.int p2), .val (.int p3), .val (.int p4)] [(.long (own_low p4)), (.int (1 : Int32)), (.ref am)])) rfl rfl (hb hby own_dprog_21_method_15_code_32)
  have V25 := Arv.set A24 q24 s24 m24 H24 G24 rfl W25 1 rfl (Nat.le_of_ble_eq_true rfl)
  have V25 : Arv Z h25 am km .long (3 : Int32) [m_0, (.long (own_low p4)), m_2] (.long (0 : Int64)) := V25
  have N25 := Fr.snoc X25 N22 g_am
  refine own_st st25 ?_
  have z26 : n0 ≤ h25.size := Nat.le_trans z18 (Keep.of_wr W25).1
  have kk27 : Keep h0 h25 [aw, as_, ad, am] := kk19.wr W25 (Or.inl (List.mem_of_getElem? (i := 3) rfl))
  show own_Go p.tables e below RR (T25.setTop (mkF m 33 #[.val (.ref o), .val (.int (1 : Int32)), .val (.int p2), .val (.int p3), .val (.int p4)] []))
  obtain ⟨fs, hrt_, hrun, hended, hW, hsame⟩ := X25.leave (v := none) (fun _ => rfl)
  refine own_fin (X25.returnOut hx Bd.returns (hb hby own_dprog_21_method_15_code_33) hrt_) (hRR _ ⟨_, hrun, hended, _, _, rfl, ?_, ⟨_, rfl⟩, hW, hsame.mono (by decide) (by decide)⟩)
  show own_QPF1 Z o p2 p3 p4 aw as_ ad am kw ks kd km w_0 w_1 w_2 s_0 s_1 s_2 d_0 d_1 d_2 m_0 m_1 m_2 h0 n0 _ T25.heap _
  rw [e25]
  have f28 := (((V3.other W10 n_awas_).other W17 n_awad).other W25 n_awam)
  have f29 := ((V10.other W17 n_as_ad).other W25 n_as_am)
  have f30 := (V17.other W25 n_adam)
  exact ⟨rfl, N25, kk27, f28, f29, f30, V25⟩
theorem own_efPF2 (m : MethodId) (o : Addr) (p2 : Int32) (p3 : Int32) (p4 : Int32) : entryFrame m #[(.ref o), (.int (2 : Int32)), (.int p2), (.int p3), (.int p4)] 5 = mkF m 0 #[.val (.ref o), .val (.int (2 : Int32)), .val (.int p2), .val (.int p3), .val (.int p4)] [] := by first | (simp [entryFrame, mkF, argsToLocals, Value.category]; done) | rfl
def own_QPF2 (Z : State) (o : Addr) (p2 : Int32) (p3 : Int32) (p4 : Int32) (aw : Addr) (as_ : Addr) (ad : Addr) (am : Addr) (kw : ClassId) (ks : ClassId) (kd : ClassId) (km : ClassId) (w_0 : Value) (w_1 : Value) (w_2 : Value) (s_0 : Value) (s_1 : Value) (s_2 : Value) (d_0 : Value) (d_1 : Value) (d_2 : Value) (m_0 : Value) (m_1 : Value) (m_2 : Value) (h0 : Heap) (n0 : Nat) (rv__ : Option Value) (h : Heap) (rL__ : List Loc) : Prop := rv__ = none ∧ Fr n0 rL__ ∧ Keep h0 h [aw, as_, ad, am] ∧ Arv Z h aw kw .int (3 : Int32) [w_0, w_1, (.int p2)] (.int (0 : Int32)) ∧ Arv Z h as_ ks .int (3 : Int32) [s_0, s_1, (.int p3)] (.int (0 : Int32)) ∧ Arv Z h ad kd .int (3 : Int32) [d_0, d_1, (.int p4)] (.int (0 : Int32)) ∧ Arv Z h am km .long (3 : Int32) [m_0, m_1, (.long (own_low p4))] (.long (0 : Int64))
abbrev own_RPF2 : Room := { frames := 1, cells := 0, slots := 0, locals := 14 }
set_option maxRecDepth 65536 in
set_option maxHeartbeats 40000000 in
theorem own_rmPF2 (l : Launch) (Z : State) (a0 : Array Value) (hw : ∀ d ∈ tables_1, d.before a0 Z = true) (ws : List Jvm.Cond) (o : Addr) (p2 : Int32) (p3 : Int32) (p4 : Int32) (aw : Addr) (as_ : Addr) (ad : Addr) (am : Addr) (kw : ClassId) (ks : ClassId) (kd : ClassId) (km : ClassId) (w_0 : Value) (w_1 : Value) (w_2 : Value) (s_0 : Value) (s_1 : Value) (s_2 : Value) (d_0 : Value) (d_1 : Value) (d_2 : Value) (m_0 : Value) (m_1 : Value) (m_2 : Value) (h0 : Heap) (n0 : Nat) (Z0 : n0 ≤ h0.size) (F_wordOf : Fld Z h0 o "com/example/nesiph/nesiph/MarkingSet" "wordOf" "[I" (.ref aw)) (F_shiftOf : Fld Z h0 o "com/example/nesiph/nesiph/MarkingSet" "shiftOf" "[I" (.ref as_)) (F_widths : Fld Z h0 o "com/example/nesiph/nesiph/MarkingSet" "widths" "[I" (.ref ad)) (F_maskOf : Fld Z h0 o "com/example/nesiph/nesiph/MarkingSet" "maskOf" "[J" (.ref am)) (V_wordOf : Arv Z h0 aw kw .int (3 : Int32) [w_0, w_1, w_2] (.int (0 : Int32))) (V_shiftOf : Arv Z h0 as_ ks .int (3 : Int32) [s_0, s_1, s_2] (.int (0 : Int32))) (V_widths : Arv Z h0 ad kd .int (3 : Int32) [d_0, d_1, d_2] (.int (0 : Int32))) (V_maskOf : Arv Z h0 am km .long (3 : Int32) [m_0, m_1, m_2] (.long (0 : Int64))) (g_aw : n0 ≤ aw) (g_as_ : n0 ≤ as_) (g_ad : n0 ≤ ad) (g_am : n0 ≤ am) (n_oaw : o ≠ aw) (n_oas_ : o ≠ as_) (n_oad : o ≠ ad) (n_oam : o ≠ am) (n_awas_ : aw ≠ as_) (n_awad : aw ≠ ad) (n_awam : aw ≠ am) (n_as_ad : as_ ≠ ad) (n_as_am : as_ ≠ am) (n_adam : ad ≠ am) :
    MetFree l (⟨"com/example/nesiph/nesiph/MarkingSet", "placeField", "(IIII)V"⟩ : MethodName) (head1 (Jvm.Cond.code (⟨"com/example/nesiph/nesiph/MarkingSet", "placeField", "(IIII)V"⟩ : MethodName) prog_21_method_15_code 5 none :: ws) own_RPF2) (fun aa__ U => aa__ = #[(.ref o), (.int (2 : Int32)), (.int p2), (.int p3), (.int p4)] ∧ Z.Warmed39 U.vm ∧ U.heap = h0) (fun _ _ _ _ _ => True) (fun _ U oc_ U' => ∃ rv__ rL__, oc_ = .returned rv__ ∧ own_QPF2 Z o p2 p3 p4 aw as_ ad am kw ks kd km w_0 w_1 w_2 s_0 s_1 s_2 d_0 d_1 d_2 m_0 m_1 m_2 h0 n0 rv__ U'.heap rL__ ∧ FrameEnd U oc_ U' rL__ own_RPF2.cells own_RPF2.slots) := by
  refine MetFree.of_bodySF (plainFor_of_name own_pn_com_example_nesiph_nesiph_MarkingSet) hisR ?_
  intro p e s m args below meth c s₁ Bd hml0 hP hK
  obtain ⟨rfl, hZ, hh⟩ := hP
  have hx := Bd.exec
  have hby := Bd.bytes
  have hml : c.maxLocals = 5 := hml0
  have hown : s.vm.findClass "com/example/nesiph/nesiph/MarkingSet" = some m.cls := findClass_of_methodNamed Bd.named
  have hnm := (name_of_methodNamed Bd.named Bd.method).1
  have X0 : Stand p l e own_RPF2 s m #[(.ref o), (.int (2 : Int32)), (.int p2), (.int p3), (.int p4)] below meth c s₁ [] 0 0 := Stand.of_body Bd
  have e0 : s₁.heap = h0 := by rw [← hh, Bd.state]; rfl
  have N0 := Fr.nil n0
  refine own_in (fun _ k => castTop (own_efPF2 m o p2 p3 p4) k) ?_
  intro RR hRR
  show own_Go p.tables e below RR (s₁.setTop (mkF m 0 #[.val (.ref o), .val (.int (2 : Int32)), .val (.int p2), .val (.int p3), .val (.int p4)] []))
  refine own_st (fun _ k => XS.aloadN X0.here hx rfl (hb hby own_dprog_21_method_15_code_0) rfl rfl k) ?_
  show own_Go p.tables e below RR (s₁.setTop (mkF m 1 #[.val (.ref o), .val (.int (2 : Int32)), .val (.int p2), .val (.int p3), .val (.int p4)] [(.ref o)]))
  obtain ⟨T1, X1, e1, st1⟩ := getF X0 hx hZ hown (host := "") (Or.inl (hw _ (List.mem_of_getElem? (i := 22) rfl))) Via.refl e0 F_wordOf (g := (mkF m 1 #[.val (.ref o), .val (.int (2 : Int32)), .val (.int p2), .val (.int p3), .val (.int p4)] [(.ref o)])) rfl rfl (hb hby own_dprog_21_method_15_code_1)
  refine own_st st1 ?_
  show own_Go p.tables e below RR (T1.setTop (mkF m 4 #[.val (.ref o), .val (.int (2 : Int32)), .val (.int p2), .val (.int p3), .val (.int p4)] [(.ref aw)]))
  refine own_st (fun _ k => XS.iloadN X1.here hx rfl (hb hby own_dprog_21_method_15_code_4) rfl (XS.iloadN X1.here hx rfl (hb hby own_dprog_21_method_15_code_5) rfl k)) ?_
  show own_Go p.tables e below RR (T1.setTop (mkF m 6 #[.val (.ref o), .val (.int (2 : Int32)), .val (.int p2), .val (.int p3), .val (.int p4)] [(.int p2), (.int (2 : Int32)), (.ref aw)]))
  obtain ⟨c2, A2, q2, s2, m2, H2, G2⟩ := id V_wordOf
  obtain ⟨T3, h3, X3, e3, W3, st3⟩ := stI X1 hx hZ e1 A2 (j := (2 : Int32)) (inb_of s2 ⟨by decide, by decide⟩) (g := (mkF m 6 #[.val (.ref o), .val (.int (2 : Int32)), .val (.int p2), .val (.int p3), .val (.int p4)] [(.int p2), (.int (2 : Int32)), (.ref aw)])) rfl rfl (hb hby own_dprog_21_method_15_code_6)
  have V3 := Arv.set A2 q2 s2 m2 H2 G2 rfl W3 2 rfl (Nat.le_of_ble_eq_true rfl)
  have V3 : Arv Z h3 aw kw .int (3 : Int32) [w_0, w_1, (.int p2)] (.int (0 : Int32)) := V3
  have N3 := Fr.snoc X3 N0 g_aw
  refine own_st st3 ?_
  have z4 : n0 ≤ h3.size := Nat.le_trans Z0 (Keep.of_wr W3).1
  have kk5 : Keep h0 h3 [aw, as_, ad, am] := (Keep.refl h0 [aw, as_, ad, am]).wr W3 (Or.inl (List.mem_of_getElem? (i := 0) rfl))
  show own_Go p.tables e below RR (T3.setTop (mkF m 7 #[.val (.ref o), .val (.int (2 : Int32)), .val (.int p2), .val (.int p3), .val (.int p4)] []))
  refine own_st (fun _ k => XS.aloadN X3.here hx rfl (hb hby own_dprog_21_method_15_code_7) rfl rfl k) ?_
  show own_Go p.tables e below RR (T3.setTop (mkF m 8 #[.val (.ref o), .val (.int (2 : Int32)), .val (.int p2), .val (.int p3), .val (.int p4)] [(.ref o)]))
  have f6 := (F_shiftOf.other W3 (Or.inl n_oaw))
  obtain ⟨T7, X7, e7, st7⟩ := getF X3 hx hZ hown (host := "") (Or.inl (hw _ (List.mem_of_getElem? (i := 24) rfl))) Via.refl e3 f6 (g := (mkF m 8 #[.val (.ref o), .val (.int (2 : Int32)), .val (.int p2), .val (.int p3), .val (.int p4)] [(.ref o)])) rfl rfl (hb hby own_dprog_21_method_15_code_8)
  refine own_st st7 ?_
  show own_Go p.tables e below RR (T7.setTop (mkF m 11 #[.val (.ref o), .val (.int (2 : Int32)), .val (.int p2), .val (.int p3), .val (.int p4)] [(.ref as_)]))
  refine own_st (fun _ k => XS.iloadN X7.here hx rfl (hb hby own_dprog_21_method_15_code_11) rfl (XS.iloadN X7.here hx rfl (hb hby own_dprog_21_method_15_code_12) rfl k)) ?_
  show own_Go p.tables e below RR (T7.setTop (mkF m 13 #[.val (.ref o), .val (.int (2 : Int32)), .val (.int p2), .val (.int p3), .val (.int p4)] [(.int p3), (.int (2 : Int32)), (.ref as_)]))
  have f8 := (V_shiftOf.other W3 (Ne.symm n_awas_))
  obtain ⟨c9, A9, q9, s9, m9, H9, G9⟩ := id f8
  obtain ⟨T10, h10, X10, e10, W10, st10⟩ := stI X7 hx hZ e7 A9 (j := (2 : Int32)) (inb_of s9 ⟨by decide, by decide⟩) (g := (mkF m 13 #[.val (.ref o), .val (.int (2 : Int32)), .val (.int p2), .val (.int p3), .val (.int p4)] [(.int p3), (.int (2 : Int32)), (.ref as_)])) rfl rfl (hb hby own_dprog_21_method_15_code_13)
  have V10 := Arv.set A9 q9 s9 m9 H9 G9 rfl W10 2 rfl (Nat.le_of_ble_eq_true rfl)
  have V10 : Arv Z h10 as_ ks .int (3 : Int32) [s_0, s_1, (.int p3)] (.int (0 : Int32)) := V10
  have N10 := Fr.snoc X10 N3 g_as_
  refine own_st st10 ?_
  have z11 : n0 ≤ h10.size := Nat.le_trans z4 (Keep.of_wr W10).1
  have kk12 : Keep h0 h10 [aw, as_, ad, am] := kk5.wr W10 (Or.inl (List.mem_of_getElem? (i := 1) rfl))
  show own_Go p.tables e below RR (T10.setTop (mkF m 14 #[.val (.ref o), .val (.int (2 : Int32)), .val (.int p2), .val (.int p3), .val (.int p4)] []))
  refine own_st (fun _ k => XS.aloadN X10.here hx rfl (hb hby own_dprog_21_method_15_code_14) rfl rfl k) ?_
  show own_Go p.tables e below RR (T10.setTop (mkF m 15 #[.val (.ref o), .val (.int (2 : Int32)), .val (.int p2), .val (.int p3), .val (.int p4)] [(.ref o)]))
  have f13 := ((F_widths.other W3 (Or.inl n_oaw)).other W10 (Or.inl n_oas_))
  obtain ⟨T14, X14, e14, st14⟩ := getF X10 hx hZ hown (host := "") (Or.inl (hw _ (List.mem_of_getElem? (i := 20) rfl))) Via.refl e10 f13 (g := (mkF m 15 #[.val (.ref o), .val (.int (2 : Int32)), .val (.int p2), .val (.int p3), .val (.int p4)] [(.ref o)])) rfl rfl (hb hby own_dprog_21_method_15_code_15)
  refine own_st st14 ?_
  show own_Go p.tables e below RR (T14.setTop (mkF m 18 #[.val (.ref o), .val (.int (2 : Int32)), .val (.int p2), .val (.int p3), .val (.int p4)] [(.ref ad)]))
  refine own_st (fun _ k => XS.iloadN X14.here hx rfl (hb hby own_dprog_21_method_15_code_18) rfl (XS.iload X14.here hx rfl (hb hby own_dprog_21_method_15_code_19) rfl k)) ?_
  show own_Go p.tables e below RR (T14.setTop (mkF m 21 #[.val (.ref o), .val (.int (2 : Int32)), .val (.int p2), .val (.int p3), .val (.int p4)] [(.int p4), (.int (2 : Int32)), (.ref ad)]))
  have f15 := ((V_widths.other W3 (Ne.symm n_awad)).other W10 (Ne.symm n_as_ad))
  obtain ⟨c16, A16, q16, s16, m16, H16, G16⟩ := id f15
  obtain ⟨T17, h17, X17, e17, W17, st17⟩ := stI X14 hx hZ e14 A16 (j := (2 : Int32)) (inb_of s16 ⟨by decide, by decide⟩) (g := (mkF m 21 #[.val (.ref o), .val (.int (2 : Int32)), .val (.int p2), .val (.int p3), .val (.int p4)] [(.int p4), (.int (2 : Int32)), (.ref ad)])) rfl rfl (hb hby own_dprog_21_method_15_code_21)
  have V17 := Arv.set A16 q16 s16 m16 H16 G16 rfl W17 2 rfl (Nat.le_of_ble_eq_true rfl)
  have V17 : Arv Z h17 ad kd .int (3 : Int32) [d_0, d_1, (.int p4)] (.int (0 : Int32)) := V17
  have N17 := Fr.snoc X17 N10 g_ad
  refine own_st st17 ?_
  have z18 : n0 ≤ h17.size := Nat.le_trans z11 (Keep.of_wr W17).1
  have kk19 : Keep h0 h17 [aw, as_, ad, am] := kk12.wr W17 (Or.inl (List.mem_of_getElem? (i := 2) rfl))
  show own_Go p.tables e below RR (T17.setTop (mkF m 22 #[.val (.ref o), .val (.int (2 : Int32)), .val (.int p2), .val (.int p3), .val (.int p4)] []))
  refine own_st (fun _ k => XS.aloadN X17.here hx rfl (hb hby own_dprog_21_method_15_code_22) rfl rfl k) ?_
  show own_Go p.tables e below RR (T17.setTop (mkF m 23 #[.val (.ref o), .val (.int (2 : Int32)), .val (.int p2), .val (.int p3), .val (.int p4)] [(.ref o)]))
  have f20 := (((F_maskOf.other W3 (Or.inl n_oaw)).other W10 (Or.inl n_oas_)).other W17 (Or.inl n_oad))
  obtain ⟨T21, X21, e21, st21⟩ := getF X17 hx hZ hown (host := "") (Or.inl (hw _ (List.mem_of_getElem? (i := 26) rfl))) Via.refl e17 f20 (g := (mkF m 23 #[.val (.ref o), .val (.int (2 : Int32)), .val (.int p2), .val (.int p3), .val (.int p4)] [(.ref o)])) rfl rfl (hb hby own_dprog_21_method_15_code_23)
  refine own_st st21 ?_
  show own_Go p.tables e below RR (T21.setTop (mkF m 26 #[.val (.ref o), .val (.int (2 : Int32)), .val (.int p2), .val (.int p3), .val (.int p4)] [(.ref am)]))
  refine own_st (fun _ k => XS.iloadN X21.here hx rfl (hb hby own_dprog_21_method_15_code_26) rfl (XS.iload X21.here hx rfl (hb hby own_dprog_21_method_15_code_27) rfl k)) ?_
  show own_Go p.tables e below RR (T21.setTop (mkF m 29 #[.val (.ref o), .val (.int (2 : Int32)), .val (.int p2), .val (.int p3), .val (.int p4)] [(.int p4), (.int (2 : Int32)), (.ref am)]))
  obtain ⟨_, _, ⟨T22, L22, k22, n22⟩, -, X22, ⟨Lc22, hQ22, l22, y22, z22⟩, st22⟩ := Jvm.LawKit.callS X21 hx (y := (⟨"com/example/nesiph/nesiph/MarkingSet", "lowBits", "(I)J"⟩ : MethodName)) hown (mvT hZ (hw _ (List.mem_of_getElem? (i := 48) rfl))) (mvT hZ (hw _ (List.mem_of_getElem? (i := 49) rfl))) (mvT hZ (hw _ (List.mem_of_getElem? (i := 8) rfl))) (mvT hZ (hw _ (List.mem_of_getElem? (i := 50) rfl))) (by decide) (backOf (W := 2) (own_rmLB l Z a0 hw [] p4 h17 n0 z18 ) hZ (hw _ (List.mem_of_getElem? (i := 50) rfl)) (hw _ (List.mem_of_getElem? (i := 8) rfl)) (by decide) (by decide)) (g := (mkF m 29 #[.val (.ref o), .val (.int (2 : Int32)), .val (.int p2), .val (.int p3), .val (.int p4)] [(.int p4), (.int (2 : Int32)), (.ref am)])) rfl (by rw [hml]; rfl) (argsL := [(.int p4)]) (rest := [(.int (2 : Int32)), (.ref am)]) (lenOf own_pd__I_J rfl) rfl (by show 2 * 0 + _ ≤ _; exact Nat.le_of_eq rfl) (hb hby own_dprog_21_method_15_code_29) (fun _ _ => ⟨rfl, e21, (by decide : 0 + 0 ≤ _), (by decide : 0 + 0 ≤ _)⟩)
  dsimp only [Pt.U, Pt.locs, Pt.cells, Pt.slots] at X22 l22 y22 z22 st22 hQ22
  subst l22 y22 z22
  obtain ⟨rfl, Nq22, eq22⟩ := hQ22
  have N22 := Fr.app N17 Nq22
  refine own_st st22 ?_
  show own_Go p.tables e below RR (T22.setTop (mkF m 32 #[.val (.ref o), .val (.int (2 : Int32)), .val (.int p2), .val (.int p3), .val (.int p4)] [(.long (own_low p4)), (.int (2 : Int32)), (.ref am)]))
  have f23 := (((V_maskOf.other W3 (Ne.symm n_awam)).other W10 (Ne.symm n_as_am)).other W17 (Ne.symm n_adam))
  obtain ⟨c24, A24, q24, s24, m24, H24, G24⟩ := id f23
  obtain ⟨T25, h25, X25, e25, W25, st25⟩ := stJ X22 hx hZ eq22 A24 (j := (2 : Int32)) (inb_of s24 ⟨by decide, by decide⟩) (g := (mkF m 32 #[.val (.ref o), .val (.int (2 : Int32)), .val (.int p2), .val (.int p3), .val (.int p4)] [(.long (own_low p4)), (.int (2 : Int32)), (.ref am)])) rfl rfl (hb hby own_dprog_21_method_15_code_32)
  have V25 := Arv.set A24 q24 s24 m24 H24 G24 rfl W25 2 rfl (Nat.le_of_ble_eq_true rfl)
  have V25 : Arv Z h25 am km .long (3 : Int32) [m_0, m_1, (.long (own_low p4))] (.long (0 : Int64)) := V25
  have N25 := Fr.snoc X25 N22 g_am
  refine own_st st25 ?_
  have z26 : n0 ≤ h25.size := Nat.le_trans z18 (Keep.of_wr W25).1
  have kk27 : Keep h0 h25 [aw, as_, ad, am] := kk19.wr W25 (Or.inl (List.mem_of_getElem? (i := 3) rfl))
  show own_Go p.tables e below RR (T25.setTop (mkF m 33 #[.val (.ref o), .val (.int (2 : Int32)), .val (.int p2), .val (.int p3), .val (.int p4)] []))
  obtain ⟨fs, hrt_, hrun, hended, hW, hsame⟩ := X25.leave (v := none) (fun _ => rfl)
  refine own_fin (X25.returnOut hx Bd.returns (hb hby own_dprog_21_method_15_code_33) hrt_) (hRR _ ⟨_, hrun, hended, _, _, rfl, ?_, ⟨_, rfl⟩, hW, hsame.mono (by decide) (by decide)⟩)
  show own_QPF2 Z o p2 p3 p4 aw as_ ad am kw ks kd km w_0 w_1 w_2 s_0 s_1 s_2 d_0 d_1 d_2 m_0 m_1 m_2 h0 n0 _ T25.heap _
  rw [e25]
  have f28 := (((V3.other W10 n_awas_).other W17 n_awad).other W25 n_awam)
  have f29 := ((V10.other W17 n_as_ad).other W25 n_as_am)
  have f30 := (V17.other W25 n_adam)
  exact ⟨rfl, N25, kk27, f28, f29, f30, V25⟩
theorem own_pn_java_util_Arrays : plainName "java/util/Arrays" = true := by first | (simp [plainName, overriddenIn]; done) | decide +kernel
theorem own_djdk_65_method_101_code_0 : decode jdk_65_method_101_code 0 = .ok (.iconst 0, 1) := by decide +kernel
theorem own_djdk_65_method_101_code_1 : decode jdk_65_method_101_code 1 = .ok (.istore_n 3, 1) := by decide +kernel
theorem own_djdk_65_method_101_code_2 : decode jdk_65_method_101_code 2 = .ok (.aload_n 0, 1) := by decide +kernel
theorem own_djdk_65_method_101_code_3 : decode jdk_65_method_101_code 3 = .ok (.arraylength, 1) := by decide +kernel
theorem own_djdk_65_method_101_code_4 : decode jdk_65_method_101_code 4 = .ok (.istore 4, 2) := by decide +kernel
theorem own_djdk_65_method_101_code_6 : decode jdk_65_method_101_code 6 = .ok (.iload_n 3, 1) := by decide +kernel
theorem own_djdk_65_method_101_code_7 : decode jdk_65_method_101_code 7 = .ok (.iload 4, 2) := by decide +kernel
theorem own_djdk_65_method_101_code_9 : decode jdk_65_method_101_code 9 = .ok (.if_icmp .ge 13, 3) := by decide +kernel
theorem own_djdk_65_method_101_code_12 : decode jdk_65_method_101_code 12 = .ok (.aload_n 0, 1) := by decide +kernel
theorem own_djdk_65_method_101_code_13 : decode jdk_65_method_101_code 13 = .ok (.iload_n 3, 1) := by decide +kernel
theorem own_djdk_65_method_101_code_14 : decode jdk_65_method_101_code 14 = .ok (.lload_n 1, 1) := by decide +kernel
theorem own_djdk_65_method_101_code_15 : decode jdk_65_method_101_code 15 = .ok (.lastore, 1) := by decide +kernel
theorem own_djdk_65_method_101_code_16 : decode jdk_65_method_101_code 16 = .ok (.iinc 3 1, 3) := by decide +kernel
theorem own_djdk_65_method_101_code_19 : decode jdk_65_method_101_code 19 = .ok (.goto (-13), 3) := by decide +kernel
theorem own_djdk_65_method_101_code_22 : decode jdk_65_method_101_code 22 = .ok (.return_, 1) := by decide +kernel
theorem own_efFL (m : MethodId) (o : Addr) (q1 : Int64) : entryFrame m #[(.ref o), (.long q1)] 5 = mkF m 0 #[.val (.ref o), .val (.long q1), .second, .unset, .unset] [] := by first | (simp [entryFrame, mkF, argsToLocals, Value.category]; done) | rfl
def own_QFL (Z : State) (o : Addr) (q1 : Int64) (k_ : ClassId) (h0 : Heap) (n0 : Nat) (rv__ : Option Value) (h : Heap) (rL__ : List Loc) : Prop := rv__ = none ∧ Fr n0 rL__ ∧ Keep h0 h [o]
abbrev own_RFL : Room := { frames := 0, cells := 0, slots := 0, locals := 0 }
set_option maxRecDepth 65536 in
set_option maxHeartbeats 40000000 in
theorem own_rmFL (l : Launch) (Z : State) (a0 : Array Value) (hw : ∀ d ∈ tables_1, d.before a0 Z = true) (ws : List Jvm.Cond) (o : Addr) (q1 : Int64) (k_ : ClassId) (h0 : Heap) (n0 : Nat) (Z0 : n0 ≤ h0.size) (Vx : Arv Z h0 o k_ .long (16 : Int32) [(.long (0 : Int64)), (.long (0 : Int64)), (.long (0 : Int64)), (.long (0 : Int64)), (.long (0 : Int64)), (.long (0 : Int64)), (.long (0 : Int64)), (.long (0 : Int64)), (.long (0 : Int64)), (.long (0 : Int64)), (.long (0 : Int64)), (.long (0 : Int64)), (.long (0 : Int64)), (.long (0 : Int64)), (.long (0 : Int64)), (.long (0 : Int64))] (.long (0 : Int64))) (g_o : n0 ≤ o) :
    MetFree l (⟨"java/util/Arrays", "fill", "([JJ)V"⟩ : MethodName) (head1 (Jvm.Cond.code (⟨"java/util/Arrays", "fill", "([JJ)V"⟩ : MethodName) jdk_65_method_101_code 5 none :: ws) own_RFL) (fun aa__ U => aa__ = #[(.ref o), (.long q1)] ∧ Z.Warmed39 U.vm ∧ U.heap = h0) (fun _ _ _ _ _ => True) (fun _ U oc_ U' => ∃ rv__ rL__, oc_ = .returned rv__ ∧ own_QFL Z o q1 k_ h0 n0 rv__ U'.heap rL__ ∧ FrameEnd U oc_ U' rL__ own_RFL.cells own_RFL.slots) := by
  refine MetFree.of_bodySF (plainFor_of_name own_pn_java_util_Arrays) hisR ?_
  intro p e s m args below meth c s₁ Bd hml0 hP hK
  obtain ⟨rfl, hZ, hh⟩ := hP
  have hx := Bd.exec
  have hby := Bd.bytes
  have hml : c.maxLocals = 5 := hml0
  have hown : s.vm.findClass "java/util/Arrays" = some m.cls := findClass_of_methodNamed Bd.named
  have hnm := (name_of_methodNamed Bd.named Bd.method).1
  have X0 : Stand p l e own_RFL s m #[(.ref o), (.long q1)] below meth c s₁ [] 0 0 := Stand.of_body Bd
  have e0 : s₁.heap = h0 := by rw [← hh, Bd.state]; rfl
  have N0 := Fr.nil n0
  refine own_in (fun _ k => castTop (own_efFL m o q1) k) ?_
  intro RR hRR
  show own_Go p.tables e below RR (s₁.setTop (mkF m 0 #[.val (.ref o), .val (.long q1), .second, .unset, .unset] []))
  refine own_st (fun _ k => XS.iconst X0.here hx rfl (hb hby own_djdk_65_method_101_code_0) (XS.istoreN X0.here hx rfl (hb hby own_djdk_65_method_101_code_1) rfl (l' := #[.val (.ref o), .val (.long q1), .second, .val (.int (0 : Int32)), .unset]) rfl (XS.aloadN X0.here hx rfl (hb hby own_djdk_65_method_101_code_2) rfl rfl k))) ?_
  show own_Go p.tables e below RR (s₁.setTop (mkF m 3 #[.val (.ref o), .val (.long q1), .second, .val (.int (0 : Int32)), .unset] [(.ref o)]))
  obtain ⟨c1, A1, -, s1, m1, -, -⟩ := id Vx
  refine own_st (fun _ k => own_len X0 hx hZ e0 A1 s1 m1 (g := (mkF m 3 #[.val (.ref o), .val (.long q1), .second, .val (.int (0 : Int32)), .unset] [(.ref o)])) rfl rfl (hb hby own_djdk_65_method_101_code_3) (XS.istore X0.here hx rfl (hb hby own_djdk_65_method_101_code_4) rfl (l' := #[.val (.ref o), .val (.long q1), .second, .val (.int (0 : Int32)), .val (.int (16 : Int32))]) rfl (XS.iloadN X0.here hx rfl (hb hby own_djdk_65_method_101_code_6) rfl (XS.iload X0.here hx rfl (hb hby own_djdk_65_method_101_code_7) rfl k)))) ?_
  show own_Go p.tables e below RR (s₁.setTop (mkF m 9 #[.val (.ref o), .val (.long q1), .second, .val (.int (0 : Int32)), .val (.int (16 : Int32))] [(.int (16 : Int32)), (.int (0 : Int32))]))
  refine own_st (fun _ k => XS.icmpNo X0.here hx rfl (hb hby own_djdk_65_method_101_code_9) rfl (tlt (by decide)).2.1 (XS.aloadN X0.here hx rfl (hb hby own_djdk_65_method_101_code_12) rfl rfl (XS.iloadN X0.here hx rfl (hb hby own_djdk_65_method_101_code_13) rfl (XS.lloadN X0.here hx rfl (hb hby own_djdk_65_method_101_code_14) rfl k)))) ?_
  show own_Go p.tables e below RR (s₁.setTop (mkF m 15 #[.val (.ref o), .val (.long q1), .second, .val (.int (0 : Int32)), .val (.int (16 : Int32))] [(.long q1), (.int (0 : Int32)), (.ref o)]))
  obtain ⟨c2, A2, q2, s2, m2, H2, G2⟩ := id Vx
  obtain ⟨T3, h3, X3, e3, W3, st3⟩ := stJ X0 hx hZ e0 A2 (j := (0 : Int32)) (inb_of s2 ⟨by decide, by decide⟩) (g := (mkF m 15 #[.val (.ref o), .val (.long q1), .second, .val (.int (0 : Int32)), .val (.int (16 : Int32))] [(.long q1), (.int (0 : Int32)), (.ref o)])) rfl rfl (hb hby own_djdk_65_method_101_code_15)
  have V3 := Arv.set A2 q2 s2 m2 H2 G2 rfl W3 0 rfl (Nat.le_of_ble_eq_true rfl)
  have V3 : Arv Z h3 o k_ .long (16 : Int32) [(.long q1), (.long (0 : Int64)), (.long (0 : Int64)), (.long (0 : Int64)), (.long (0 : Int64)), (.long (0 : Int64)), (.long (0 : Int64)), (.long (0 : Int64)), (.long (0 : Int64)), (.long (0 : Int64)), (.long (0 : Int64)), (.long (0 : Int64)), (.long (0 : Int64)), (.long (0 : Int64)), (.long (0 : Int64)), (.long (0 : Int64))] (.long (0 : Int64)) := V3
  have N3 := Fr.snoc X3 N0 g_o
  refine own_st st3 ?_
  have z4 : n0 ≤ h3.size := Nat.le_trans Z0 (Keep.of_wr W3).1
  have kk5 : Keep h0 h3 [o] := (Keep.refl h0 [o]).wr W3 (Or.inl (List.mem_of_getElem? (i := 0) rfl))
  show own_Go p.tables e below RR (T3.setTop (mkF m 16 #[.val (.ref o), .val (.long q1), .second, .val (.int (0 : Int32)), .val (.int (16 : Int32))] []))
  refine own_st (fun _ k => XS.iinc X3.here hx rfl (hb hby own_djdk_65_method_101_code_16) rfl (l' := #[.val (.ref o), .val (.long q1), .second, .val (.int (1 : Int32)), .val (.int (16 : Int32))]) rfl (XS.goto X3.here hx rfl (pc0 := 19) (pc' := 6) rfl (hb hby own_djdk_65_method_101_code_19) (by decide) (by decide) (XS.iloadN X3.here hx rfl (hb hby own_djdk_65_method_101_code_6) rfl (XS.iload X3.here hx rfl (hb hby own_djdk_65_method_101_code_7) rfl k)))) ?_
  show own_Go p.tables e below RR (T3.setTop (mkF m 9 #[.val (.ref o), .val (.long q1), .second, .val (.int (1 : Int32)), .val (.int (16 : Int32))] [(.int (16 : Int32)), (.int (1 : Int32))]))
  refine own_st (fun _ k => XS.icmpNo X3.here hx rfl (hb hby own_djdk_65_method_101_code_9) rfl (tlt (by decide)).2.1 (XS.aloadN X3.here hx rfl (hb hby own_djdk_65_method_101_code_12) rfl rfl (XS.iloadN X3.here hx rfl (hb hby own_djdk_65_method_101_code_13) rfl (XS.lloadN X3.here hx rfl (hb hby own_djdk_65_method_101_code_14) rfl k)))) ?_
  show own_Go p.tables e below RR (T3.setTop (mkF m 15 #[.val (.ref o), .val (.long q1), .second, .val (.int (1 : Int32)), .val (.int (16 : Int32))] [(.long q1), (.int (1 : Int32)), (.ref o)]))
  obtain ⟨c6, A6, q6, s6, m6, H6, G6⟩ := id V3
  obtain ⟨T7, h7, X7, e7, W7, st7⟩ := stJ X3 hx hZ e3 A6 (j := (1 : Int32)) (inb_of s6 ⟨by decide, by decide⟩) (g := (mkF m 15 #[.val (.ref o), .val (.long q1), .second, .val (.int (1 : Int32)), .val (.int (16 : Int32))] [(.long q1), (.int (1 : Int32)), (.ref o)])) rfl rfl (hb hby own_djdk_65_method_101_code_15)
  have V7 := Arv.set A6 q6 s6 m6 H6 G6 rfl W7 1 rfl (Nat.le_of_ble_eq_true rfl)
  have V7 : Arv Z h7 o k_ .long (16 : Int32) [(.long q1), (.long q1), (.long (0 : Int64)), (.long (0 : Int64)), (.long (0 : Int64)), (.long (0 : Int64)), (.long (0 : Int64)), (.long (0 : Int64)), (.long (0 : Int64)), (.long (0 : Int64)), (.long (0 : Int64)), (.long (0 : Int64)), (.long (0 : Int64)), (.long (0 : Int64)), (.long (0 : Int64)), (.long (0 : Int64))] (.long (0 : Int64)) := V7
  have N7 := Fr.snoc X7 N3 g_o
  refine own_st st7 ?_
  have z8 : n0 ≤ h7.size := Nat.le_trans z4 (Keep.of_wr W7).1
  have kk9 : Keep h0 h7 [o] := kk5.wr W7 (Or.inl (List.mem_of_getElem? (i := 0) rfl))
  show own_Go p.tables e below RR (T7.setTop (mkF m 16 #[.val (.ref o), .val (.long q1), .second, .val (.int (1 : Int32)), .val (.int (16 : Int32))] []))
  refine own_st (fun _ k => XS.iinc X7.here hx rfl (hb hby own_djdk_65_method_101_code_16) rfl (l' := #[.val (.ref o), .val (.long q1), .second, .val (.int (2 : Int32)), .val (.int (16 : Int32))]) rfl (XS.goto X7.here hx rfl (pc0 := 19) (pc' := 6) rfl (hb hby own_djdk_65_method_101_code_19) (by decide) (by decide) (XS.iloadN X7.here hx rfl (hb hby own_djdk_65_method_101_code_6) rfl (XS.iload X7.here hx rfl (hb hby own_djdk_65_method_101_code_7) rfl k)))) ?_
  show own_Go p.tables e below RR (T7.setTop (mkF m 9 #[.val (.ref o), .val (.long q1), .second, .val (.int (2 : Int32)), .val (.int (16 : Int32))] [(.int (16 : Int32)), (.int (2 : Int32))]))
  refine own_st (fun _ k => XS.icmpNo X7.here hx rfl (hb hby own_djdk_65_method_101_code_9) rfl (tlt (by decide)).2.1 (XS.aloadN X7.here hx rfl (hb hby own_djdk_65_method_101_code_12) rfl rfl (XS.iloadN X7.here hx rfl (hb hby own_djdk_65_method_101_code_13) rfl (XS.lloadN X7.here hx rfl (hb hby own_djdk_65_method_101_code_14) rfl k)))) ?_
  show own_Go p.tables e below RR (T7.setTop (mkF m 15 #[.val (.ref o), .val (.long q1), .second, .val (.int (2 : Int32)), .val (.int (16 : Int32))] [(.long q1), (.int (2 : Int32)), (.ref o)]))
  obtain ⟨c10, A10, q10, s10, m10, H10, G10⟩ := id V7
  obtain ⟨T11, h11, X11, e11, W11, st11⟩ := stJ X7 hx hZ e7 A10 (j := (2 : Int32)) (inb_of s10 ⟨by decide, by decide⟩) (g := (mkF m 15 #[.val (.ref o), .val (.long q1), .second, .val (.int (2 : Int32)), .val (.int (16 : Int32))] [(.long q1), (.int (2 : Int32)), (.ref o)])) rfl rfl (hb hby own_djdk_65_method_101_code_15)
  have V11 := Arv.set A10 q10 s10 m10 H10 G10 rfl W11 2 rfl (Nat.le_of_ble_eq_true rfl)
  have V11 : Arv Z h11 o k_ .long (16 : Int32) [(.long q1), (.long q1), (.long q1), (.long (0 : Int64)), (.long (0 : Int64)), (.long (0 : Int64)), (.long (0 : Int64)), (.long (0 : Int64)), (.long (0 : Int64)), (.long (0 : Int64)), (.long (0 : Int64)), (.long (0 : Int64)), (.long (0 : Int64)), (.long (0 : Int64)), (.long (0 : Int64)), (.long (0 : Int64))] (.long (0 : Int64)) := V11
  have N11 := Fr.snoc X11 N7 g_o
  refine own_st st11 ?_
  have z12 : n0 ≤ h11.size := Nat.le_trans z8 (Keep.of_wr W11).1
  have kk13 : Keep h0 h11 [o] := kk9.wr W11 (Or.inl (List.mem_of_getElem? (i := 0) rfl))
  show own_Go p.tables e below RR (T11.setTop (mkF m 16 #[.val (.ref o), .val (.long q1), .second, .val (.int (2 : Int32)), .val (.int (16 : Int32))] []))
  refine own_st (fun _ k => XS.iinc X11.here hx rfl (hb hby own_djdk_65_method_101_code_16) rfl (l' := #[.val (.ref o), .val (.long q1), .second, .val (.int (3 : Int32)), .val (.int (16 : Int32))]) rfl (XS.goto X11.here hx rfl (pc0 := 19) (pc' := 6) rfl (hb hby own_djdk_65_method_101_code_19) (by decide) (by decide) (XS.iloadN X11.here hx rfl (hb hby own_djdk_65_method_101_code_6) rfl (XS.iload X11.here hx rfl (hb hby own_djdk_65_method_101_code_7) rfl k)))) ?_
  show own_Go p.tables e below RR (T11.setTop (mkF m 9 #[.val (.ref o), .val (.long q1), .second, .val (.int (3 : Int32)), .val (.int (16 : Int32))] [(.int (16 : Int32)), (.int (3 : Int32))]))
  refine own_st (fun _ k => XS.icmpNo X11.here hx rfl (hb hby own_djdk_65_method_101_code_9) rfl (tlt (by decide)).2.1 (XS.aloadN X11.here hx rfl (hb hby own_djdk_65_method_101_code_12) rfl rfl (XS.iloadN X11.here hx rfl (hb hby own_djdk_65_method_101_code_13) rfl (XS.lloadN X11.here hx rfl (hb hby own_djdk_65_method_101_code_14) rfl k)))) ?_
  show own_Go p.tables e below RR (T11.setTop (mkF m 15 #[.val (.ref o), .val (.long q1), .second, .val (.int (3 : Int32)), .val (.int (16 : Int32))] [(.long q1), (.int (3 : Int32)), (.ref o)]))
  obtain ⟨c14, A14, q14, s14, m14, H14, G14⟩ := id V11
  obtain ⟨T15, h15, X15, e15, W15, st15⟩ := stJ X11 hx hZ e11 A14 (j := (3 : Int32)) (inb_of s14 ⟨by decide, by decide⟩) (g := (mkF m 15 #[.val (.ref o), .val (.long q1), .second, .val (.int (3 : Int32)), .val (.int (16 : Int32))] [(.long q1), (.int (3 : Int32)), (.ref o)])) rfl rfl (hb hby own_djdk_65_method_101_code_15)
  have V15 := Arv.set A14 q14 s14 m14 H14 G14 rfl W15 3 rfl (Nat.le_of_ble_eq_true rfl)
  have V15 : Arv Z h15 o k_ .long (16 : Int32) [(.long q1), (.long q1), (.long q1), (.long q1), (.long (0 : Int64)), (.long (0 : Int64)), (.long (0 : Int64)), (.long (0 : Int64)), (.long (0 : Int64)), (.long (0 : Int64)), (.long (0 : Int64)), (.long (0 : Int64)), (.long (0 : Int64)), (.long (0 : Int64)), (.long (0 : Int64)), (.long (0 : Int64))] (.long (0 : Int64)) := V15
  have N15 := Fr.snoc X15 N11 g_o
  refine own_st st15 ?_
  have z16 : n0 ≤ h15.size := Nat.le_trans z12 (Keep.of_wr W15).1
  have kk17 : Keep h0 h15 [o] := kk13.wr W15 (Or.inl (List.mem_of_getElem? (i := 0) rfl))
  show own_Go p.tables e below RR (T15.setTop (mkF m 16 #[.val (.ref o), .val (.long q1), .second, .val (.int (3 : Int32)), .val (.int (16 : Int32))] []))
  refine own_st (fun _ k => XS.iinc X15.here hx rfl (hb hby own_djdk_65_method_101_code_16) rfl (l' := #[.val (.ref o), .val (.long q1), .second, .val (.int (4 : Int32)), .val (.int (16 : Int32))]) rfl (XS.goto X15.here hx rfl (pc0 := 19) (pc' := 6) rfl (hb hby own_djdk_65_method_101_code_19) (by decide) (by decide) (XS.iloadN X15.here hx rfl (hb hby own_djdk_65_method_101_code_6) rfl (XS.iload X15.here hx rfl (hb hby own_djdk_65_method_101_code_7) rfl k)))) ?_
  show own_Go p.tables e below RR (T15.setTop (mkF m 9 #[.val (.ref o), .val (.long q1), .second, .val (.int (4 : Int32)), .val (.int (16 : Int32))] [(.int (16 : Int32)), (.int (4 : Int32))]))
  refine own_st (fun _ k => XS.icmpNo X15.here hx rfl (hb hby own_djdk_65_method_101_code_9) rfl (tlt (by decide)).2.1 (XS.aloadN X15.here hx rfl (hb hby own_djdk_65_method_101_code_12) rfl rfl (XS.iloadN X15.here hx rfl (hb hby own_djdk_65_method_101_code_13) rfl (XS.lloadN X15.here hx rfl (hb hby own_djdk_65_method_101_code_14) rfl k)))) ?_
  show own_Go p.tables e below RR (T15.setTop (mkF m 15 #[.val (.ref o), .val (.long q1), .second, .val (.int (4 : Int32)), .val (.int (16 : Int32))] [(.long q1), (.int (4 : Int32)), (.ref o)]))
  obtain ⟨c18, A18, q18, s18, m18, H18, G18⟩ := id V15
  obtain ⟨T19, h19, X19, e19, W19, st19⟩ := stJ X15 hx hZ e15 A18 (j := (4 : Int32)) (inb_of s18 ⟨by decide, by decide⟩) (g := (mkF m 15 #[.val (.ref o), .val (.long q1), .second, .val (.int (4 : Int32)), .val (.int (16 : Int32))] [(.long q1), (.int (4 : Int32)), (.ref o)])) rfl rfl (hb hby own_djdk_65_method_101_code_15)
  have V19 := Arv.set A18 q18 s18 m18 H18 G18 rfl W19 4 rfl (Nat.le_of_ble_eq_true rfl)
  have V19 : Arv Z h19 o k_ .long (16 : Int32) [(.long q1), (.long q1), (.long q1), (.long q1), (.long q1), (.long (0 : Int64)), (.long (0 : Int64)), (.long (0 : Int64)), (.long (0 : Int64)), (.long (0 : Int64)), (.long (0 : Int64)), (.long (0 : Int64)), (.long (0 : Int64)), (.long (0 : Int64)), (.long (0 : Int64)), (.long (0 : Int64))] (.long (0 : Int64)) := V19
  have N19 := Fr.snoc X19 N15 g_o
  refine own_st st19 ?_
  have z20 : n0 ≤ h19.size := Nat.le_trans z16 (Keep.of_wr W19).1
  have kk21 : Keep h0 h19 [o] := kk17.wr W19 (Or.inl (List.mem_of_getElem? (i := 0) rfl))
  show own_Go p.tables e below RR (T19.setTop (mkF m 16 #[.val (.ref o), .val (.long q1), .second, .val (.int (4 : Int32)), .val (.int (16 : Int32))] []))
  refine own_st (fun _ k => XS.iinc X19.here hx rfl (hb hby own_djdk_65_method_101_code_16) rfl (l' := #[.val (.ref o), .val (.long q1), .second, .val (.int (5 : Int32)), .val (.int (16 : Int32))]) rfl (XS.goto X19.here hx rfl (pc0 := 19) (pc' := 6) rfl (hb hby own_djdk_65_method_101_code_19) (by decide) (by decide) (XS.iloadN X19.here hx rfl (hb hby own_djdk_65_method_101_code_6) rfl (XS.iload X19.here hx rfl (hb hby own_djdk_65_method_101_code_7) rfl k)))) ?_
  show own_Go p.tables e below RR (T19.setTop (mkF m 9 #[.val (.ref o), .val (.long q1), .second, .val (.int (5 : Int32)), .val (.int (16 : Int32))] [(.int (16 : Int32)), (.int (5 : Int32))]))
  refine own_st (fun _ k => XS.icmpNo X19.here hx rfl (hb hby own_djdk_65_method_101_code_9) rfl (tlt (by decide)).2.1 (XS.aloadN X19.here hx rfl (hb hby own_djdk_65_method_101_code_12) rfl rfl (XS.iloadN X19.here hx rfl (hb hby own_djdk_65_method_101_code_13) rfl (XS.lloadN X19.here hx rfl (hb hby own_djdk_65_method_101_code_14) rfl k)))) ?_
  show own_Go p.tables e below RR (T19.setTop (mkF m 15 #[.val (.ref o), .val (.long q1), .second, .val (.int (5 : Int32)), .val (.int (16 : Int32))] [(.long q1), (.int (5 : Int32)), (.ref o)]))
  obtain ⟨c22, A22, q22, s22, m22, H22, G22⟩ := id V19
  obtain ⟨T23, h23, X23, e23, W23, st23⟩ := stJ X19 hx hZ e19 A22 (j := (5 : Int32)) (inb_of s22 ⟨by decide, by decide⟩) (g := (mkF m 15 #[.val (.ref o), .val (.long q1), .second, .val (.int (5 : Int32)), .val (.int (16 : Int32))] [(.long q1), (.int (5 : Int32)), (.ref o)])) rfl rfl (hb hby own_djdk_65_method_101_code_15)
  have V23 := Arv.set A22 q22 s22 m22 H22 G22 rfl W23 5 rfl (Nat.le_of_ble_eq_true rfl)
  have V23 : Arv Z h23 o k_ .long (16 : Int32) [(.long q1), (.long q1), (.long q1), (.long q1), (.long q1), (.long q1), (.long (0 : Int64)), (.long (0 : Int64)), (.long (0 : Int64)), (.long (0 : Int64)), (.long (0 : Int64)), (.long (0 : Int64)), (.long (0 : Int64)), (.long (0 : Int64)), (.long (0 : Int64)), (.long (0 : Int64))] (.long (0 : Int64)) := V23
  have N23 := Fr.snoc X23 N19 g_o
  refine own_st st23 ?_
  have z24 : n0 ≤ h23.size := Nat.le_trans z20 (Keep.of_wr W23).1
  have kk25 : Keep h0 h23 [o] := kk21.wr W23 (Or.inl (List.mem_of_getElem? (i := 0) rfl))
  show own_Go p.tables e below RR (T23.setTop (mkF m 16 #[.val (.ref o), .val (.long q1), .second, .val (.int (5 : Int32)), .val (.int (16 : Int32))] []))
  refine own_st (fun _ k => XS.iinc X23.here hx rfl (hb hby own_djdk_65_method_101_code_16) rfl (l' := #[.val (.ref o), .val (.long q1), .second, .val (.int (6 : Int32)), .val (.int (16 : Int32))]) rfl (XS.goto X23.here hx rfl (pc0 := 19) (pc' := 6) rfl (hb hby own_djdk_65_method_101_code_19) (by decide) (by decide) (XS.iloadN X23.here hx rfl (hb hby own_djdk_65_method_101_code_6) rfl (XS.iload X23.here hx rfl (hb hby own_djdk_65_method_101_code_7) rfl k)))) ?_
  show own_Go p.tables e below RR (T23.setTop (mkF m 9 #[.val (.ref o), .val (.long q1), .second, .val (.int (6 : Int32)), .val (.int (16 : Int32))] [(.int (16 : Int32)), (.int (6 : Int32))]))
  refine own_st (fun _ k => XS.icmpNo X23.here hx rfl (hb hby own_djdk_65_method_101_code_9) rfl (tlt (by decide)).2.1 (XS.aloadN X23.here hx rfl (hb hby own_djdk_65_method_101_code_12) rfl rfl (XS.iloadN X23.here hx rfl (hb hby own_djdk_65_method_101_code_13) rfl (XS.lloadN X23.here hx rfl (hb hby own_djdk_65_method_101_code_14) rfl k)))) ?_
  show own_Go p.tables e below RR (T23.setTop (mkF m 15 #[.val (.ref o), .val (.long q1), .second, .val (.int (6 : Int32)), .val (.int (16 : Int32))] [(.long q1), (.int (6 : Int32)), (.ref o)]))
  obtain ⟨c26, A26, q26, s26, m26, H26, G26⟩ := id V23
  obtain ⟨T27, h27, X27, e27, W27, st27⟩ := stJ X23 hx hZ e23 A26 (j := (6 : Int32)) (inb_of s26 ⟨by decide, by decide⟩) (g := (mkF m 15 #[.val (.ref o), .val (.long q1), .second, .val (.int (6 : Int32)), .val (.int (16 : Int32))] [(.long q1), (.int (6 : Int32)), (.ref o)])) rfl rfl (hb hby own_djdk_65_method_101_code_15)
  have V27 := Arv.set A26 q26 s26 m26 H26 G26 rfl W27 6 rfl (Nat.le_of_ble_eq_true rfl)
  have V27 : Arv Z h27 o k_ .long (16 : Int32) [(.long q1), (.long q1), (.long q1), (.long q1), (.long q1), (.long q1), (.long q1), (.long (0 : Int64)), (.long (0 : Int64)), (.long (0 : Int64)), (.long (0 : Int64)), (.long (0 : Int64)), (.long (0 : Int64)), (.long (0 : Int64)), (.long (0 : Int64)), (.long (0 : Int64))] (.long (0 : Int64)) := V27
  have N27 := Fr.snoc X27 N23 g_o
  refine own_st st27 ?_
  have z28 : n0 ≤ h27.size := Nat.le_trans z24 (Keep.of_wr W27).1
  have kk29 : Keep h0 h27 [o] := kk25.wr W27 (Or.inl (List.mem_of_getElem? (i := 0) rfl))
  show own_Go p.tables e below RR (T27.setTop (mkF m 16 #[.val (.ref o), .val (.long q1), .second, .val (.int (6 : Int32)), .val (.int (16 : Int32))] []))
  refine own_st (fun _ k => XS.iinc X27.here hx rfl (hb hby own_djdk_65_method_101_code_16) rfl (l' := #[.val (.ref o), .val (.long q1), .second, .val (.int (7 : Int32)), .val (.int (16 : Int32))]) rfl (XS.goto X27.here hx rfl (pc0 := 19) (pc' := 6) rfl (hb hby own_djdk_65_method_101_code_19) (by decide) (by decide) (XS.iloadN X27.here hx rfl (hb hby own_djdk_65_method_101_code_6) rfl (XS.iload X27.here hx rfl (hb hby own_djdk_65_method_101_code_7) rfl k)))) ?_
  show own_Go p.tables e below RR (T27.setTop (mkF m 9 #[.val (.ref o), .val (.long q1), .second, .val (.int (7 : Int32)), .val (.int (16 : Int32))] [(.int (16 : Int32)), (.int (7 : Int32))]))
  refine own_st (fun _ k => XS.icmpNo X27.here hx rfl (hb hby own_djdk_65_method_101_code_9) rfl (tlt (by decide)).2.1 (XS.aloadN X27.here hx rfl (hb hby own_djdk_65_method_101_code_12) rfl rfl (XS.iloadN X27.here hx rfl (hb hby own_djdk_65_method_101_code_13) rfl (XS.lloadN X27.here hx rfl (hb hby own_djdk_65_method_101_code_14) rfl k)))) ?_
  show own_Go p.tables e below RR (T27.setTop (mkF m 15 #[.val (.ref o), .val (.long q1), .second, .val (.int (7 : Int32)), .val (.int (16 : Int32))] [(.long q1), (.int (7 : Int32)), (.ref o)]))
  obtain ⟨c30, A30, q30, s30, m30, H30, G30⟩ := id V27
  obtain ⟨T31, h31, X31, e31, W31, st31⟩ := stJ X27 hx hZ e27 A30 (j := (7 : Int32)) (inb_of s30 ⟨by decide, by decide⟩) (g := (mkF m 15 #[.val (.ref o), .val (.long q1), .second, .val (.int (7 : Int32)), .val (.int (16 : Int32))] [(.long q1), (.int (7 : Int32)), (.ref o)])) rfl rfl (hb hby own_djdk_65_method_101_code_15)
  have V31 := Arv.set A30 q30 s30 m30 H30 G30 rfl W31 7 rfl (Nat.le_of_ble_eq_true rfl)
  have V31 : Arv Z h31 o k_ .long (16 : Int32) [(.long q1), (.long q1), (.long q1), (.long q1), (.long q1), (.long q1), (.long q1), (.long q1), (.long (0 : Int64)), (.long (0 : Int64)), (.long (0 : Int64)), (.long (0 : Int64)), (.long (0 : Int64)), (.long (0 : Int64)), (.long (0 : Int64)), (.long (0 : Int64))] (.long (0 : Int64)) := V31
  have N31 := Fr.snoc X31 N27 g_o
  refine own_st st31 ?_
  have z32 : n0 ≤ h31.size := Nat.le_trans z28 (Keep.of_wr W31).1
  have kk33 : Keep h0 h31 [o] := kk29.wr W31 (Or.inl (List.mem_of_getElem? (i := 0) rfl))
  show own_Go p.tables e below RR (T31.setTop (mkF m 16 #[.val (.ref o), .val (.long q1), .second, .val (.int (7 : Int32)), .val (.int (16 : Int32))] []))
  refine own_st (fun _ k => XS.iinc X31.here hx rfl (hb hby own_djdk_65_method_101_code_16) rfl (l' := #[.val (.ref o), .val (.long q1), .second, .val (.int (8 : Int32)), .val (.int (16 : Int32))]) rfl (XS.goto X31.here hx rfl (pc0 := 19) (pc' := 6) rfl (hb hby own_djdk_65_method_101_code_19) (by decide) (by decide) (XS.iloadN X31.here hx rfl (hb hby own_djdk_65_method_101_code_6) rfl (XS.iload X31.here hx rfl (hb hby own_djdk_65_method_101_code_7) rfl k)))) ?_
  show own_Go p.tables e below RR (T31.setTop (mkF m 9 #[.val (.ref o), .val (.long q1), .second, .val (.int (8 : Int32)), .val (.int (16 : Int32))] [(.int (16 : Int32)), (.int (8 : Int32))]))
  refine own_st (fun _ k => XS.icmpNo X31.here hx rfl (hb hby own_djdk_65_method_101_code_9) rfl (tlt (by decide)).2.1 (XS.aloadN X31.here hx rfl (hb hby own_djdk_65_method_101_code_12) rfl rfl (XS.iloadN X31.here hx rfl (hb hby own_djdk_65_method_101_code_13) rfl (XS.lloadN X31.here hx rfl (hb hby own_djdk_65_method_101_code_14) rfl k)))) ?_
  show own_Go p.tables e below RR (T31.setTop (mkF m 15 #[.val (.ref o), .val (.long q1), .second, .val (.int (8 : Int32)), .val (.int (16 : Int32))] [(.long q1), (.int (8 : Int32)), (.ref o)]))
  obtain ⟨c34, A34, q34, s34, m34, H34, G34⟩ := id V31
  obtain ⟨T35, h35, X35, e35, W35, st35⟩ := stJ X31 hx hZ e31 A34 (j := (8 : Int32)) (inb_of s34 ⟨by decide, by decide⟩) (g := (mkF m 15 #[.val (.ref o), .val (.long q1), .second, .val (.int (8 : Int32)), .val (.int (16 : Int32))] [(.long q1), (.int (8 : Int32)), (.ref o)])) rfl rfl (hb hby own_djdk_65_method_101_code_15)
  have V35 := Arv.set A34 q34 s34 m34 H34 G34 rfl W35 8 rfl (Nat.le_of_ble_eq_true rfl)
  have V35 : Arv Z h35 o k_ .long (16 : Int32) [(.long q1), (.long q1), (.long q1), (.long q1), (.long q1), (.long q1), (.long q1), (.long q1), (.long q1), (.long (0 : Int64)), (.long (0 : Int64)), (.long (0 : Int64)), (.long (0 : Int64)), (.long (0 : Int64)), (.long (0 : Int64)), (.long (0 : Int64))] (.long (0 : Int64)) := V35
  have N35 := Fr.snoc X35 N31 g_o
  refine own_st st35 ?_
  have z36 : n0 ≤ h35.size := Nat.le_trans z32 (Keep.of_wr W35).1
  have kk37 : Keep h0 h35 [o] := kk33.wr W35 (Or.inl (List.mem_of_getElem? (i := 0) rfl))
  show own_Go p.tables e below RR (T35.setTop (mkF m 16 #[.val (.ref o), .val (.long q1), .second, .val (.int (8 : Int32)), .val (.int (16 : Int32))] []))
  refine own_st (fun _ k => XS.iinc X35.here hx rfl (hb hby own_djdk_65_method_101_code_16) rfl (l' := #[.val (.ref o), .val (.long q1), .second, .val (.int (9 : Int32)), .val (.int (16 : Int32))]) rfl (XS.goto X35.here hx rfl (pc0 := 19) (pc' := 6) rfl (hb hby own_djdk_65_method_101_code_19) (by decide) (by decide) (XS.iloadN X35.here hx rfl (hb hby own_djdk_65_method_101_code_6) rfl (XS.iload X35.here hx rfl (hb hby own_djdk_65_method_101_code_7) rfl k)))) ?_
  show own_Go p.tables e below RR (T35.setTop (mkF m 9 #[.val (.ref o), .val (.long q1), .second, .val (.int (9 : Int32)), .val (.int (16 : Int32))] [(.int (16 : Int32)), (.int (9 : Int32))]))
  refine own_st (fun _ k => XS.icmpNo X35.here hx rfl (hb hby own_djdk_65_method_101_code_9) rfl (tlt (by decide)).2.1 (XS.aloadN X35.here hx rfl (hb hby own_djdk_65_method_101_code_12) rfl rfl (XS.iloadN X35.here hx rfl (hb hby own_djdk_65_method_101_code_13) rfl (XS.lloadN X35.here hx rfl (hb hby own_djdk_65_method_101_code_14) rfl k)))) ?_
  show own_Go p.tables e below RR (T35.setTop (mkF m 15 #[.val (.ref o), .val (.long q1), .second, .val (.int (9 : Int32)), .val (.int (16 : Int32))] [(.long q1), (.int (9 : Int32)), (.ref o)]))
  obtain ⟨c38, A38, q38, s38, m38, H38, G38⟩ := id V35
  obtain ⟨T39, h39, X39, e39, W39, st39⟩ := stJ X35 hx hZ e35 A38 (j := (9 : Int32)) (inb_of s38 ⟨by decide, by decide⟩) (g := (mkF m 15 #[.val (.ref o), .val (.long q1), .second, .val (.int (9 : Int32)), .val (.int (16 : Int32))] [(.long q1), (.int (9 : Int32)), (.ref o)])) rfl rfl (hb hby own_djdk_65_method_101_code_15)
  have V39 := Arv.set A38 q38 s38 m38 H38 G38 rfl W39 9 rfl (Nat.le_of_ble_eq_true rfl)
  have V39 : Arv Z h39 o k_ .long (16 : Int32) [(.long q1), (.long q1), (.long q1), (.long q1), (.long q1), (.long q1), (.long q1), (.long q1), (.long q1), (.long q1), (.long (0 : Int64)), (.long (0 : Int64)), (.long (0 : Int64)), (.long (0 : Int64)), (.long (0 : Int64)), (.long (0 : Int64))] (.long (0 : Int64)) := V39
  have N39 := Fr.snoc X39 N35 g_o
  refine own_st st39 ?_
  have z40 : n0 ≤ h39.size := Nat.le_trans z36 (Keep.of_wr W39).1
  have kk41 : Keep h0 h39 [o] := kk37.wr W39 (Or.inl (List.mem_of_getElem? (i := 0) rfl))
  show own_Go p.tables e below RR (T39.setTop (mkF m 16 #[.val (.ref o), .val (.long q1), .second, .val (.int (9 : Int32)), .val (.int (16 : Int32))] []))
  refine own_st (fun _ k => XS.iinc X39.here hx rfl (hb hby own_djdk_65_method_101_code_16) rfl (l' := #[.val (.ref o), .val (.long q1), .second, .val (.int (10 : Int32)), .val (.int (16 : Int32))]) rfl (XS.goto X39.here hx rfl (pc0 := 19) (pc' := 6) rfl (hb hby own_djdk_65_method_101_code_19) (by decide) (by decide) (XS.iloadN X39.here hx rfl (hb hby own_djdk_65_method_101_code_6) rfl (XS.iload X39.here hx rfl (hb hby own_djdk_65_method_101_code_7) rfl k)))) ?_
  show own_Go p.tables e below RR (T39.setTop (mkF m 9 #[.val (.ref o), .val (.long q1), .second, .val (.int (10 : Int32)), .val (.int (16 : Int32))] [(.int (16 : Int32)), (.int (10 : Int32))]))
  refine own_st (fun _ k => XS.icmpNo X39.here hx rfl (hb hby own_djdk_65_method_101_code_9) rfl (tlt (by decide)).2.1 (XS.aloadN X39.here hx rfl (hb hby own_djdk_65_method_101_code_12) rfl rfl (XS.iloadN X39.here hx rfl (hb hby own_djdk_65_method_101_code_13) rfl (XS.lloadN X39.here hx rfl (hb hby own_djdk_65_method_101_code_14) rfl k)))) ?_
  show own_Go p.tables e below RR (T39.setTop (mkF m 15 #[.val (.ref o), .val (.long q1), .second, .val (.int (10 : Int32)), .val (.int (16 : Int32))] [(.long q1), (.int (10 : Int32)), (.ref o)]))
  obtain ⟨c42, A42, q42, s42, m42, H42, G42⟩ := id V39
  obtain ⟨T43, h43, X43, e43, W43, st43⟩ := stJ X39 hx hZ e39 A42 (j := (10 : Int32)) (inb_of s42 ⟨by decide, by decide⟩) (g := (mkF m 15 #[.val (.ref o), .val (.long q1), .second, .val (.int (10 : Int32)), .val (.int (16 : Int32))] [(.long q1), (.int (10 : Int32)), (.ref o)])) rfl rfl (hb hby own_djdk_65_method_101_code_15)
  have V43 := Arv.set A42 q42 s42 m42 H42 G42 rfl W43 10 rfl (Nat.le_of_ble_eq_true rfl)
  have V43 : Arv Z h43 o k_ .long (16 : Int32) [(.long q1), (.long q1), (.long q1), (.long q1), (.long q1), (.long q1), (.long q1), (.long q1), (.long q1), (.long q1), (.long q1), (.long (0 : Int64)), (.long (0 : Int64)), (.long (0 : Int64)), (.long (0 : Int64)), (.long (0 : Int64))] (.long (0 : Int64)) := V43
  have N43 := Fr.snoc X43 N39 g_o
  refine own_st st43 ?_
  have z44 : n0 ≤ h43.size := Nat.le_trans z40 (Keep.of_wr W43).1
  have kk45 : Keep h0 h43 [o] := kk41.wr W43 (Or.inl (List.mem_of_getElem? (i := 0) rfl))
  show own_Go p.tables e below RR (T43.setTop (mkF m 16 #[.val (.ref o), .val (.long q1), .second, .val (.int (10 : Int32)), .val (.int (16 : Int32))] []))
  refine own_st (fun _ k => XS.iinc X43.here hx rfl (hb hby own_djdk_65_method_101_code_16) rfl (l' := #[.val (.ref o), .val (.long q1), .second, .val (.int (11 : Int32)), .val (.int (16 : Int32))]) rfl (XS.goto X43.here hx rfl (pc0 := 19) (pc' := 6) rfl (hb hby own_djdk_65_method_101_code_19) (by decide) (by decide) (XS.iloadN X43.here hx rfl (hb hby own_djdk_65_method_101_code_6) rfl (XS.iload X43.here hx rfl (hb hby own_djdk_65_method_101_code_7) rfl k)))) ?_
  show own_Go p.tables e below RR (T43.setTop (mkF m 9 #[.val (.ref o), .val (.long q1), .second, .val (.int (11 : Int32)), .val (.int (16 : Int32))] [(.int (16 : Int32)), (.int (11 : Int32))]))
  refine own_st (fun _ k => XS.icmpNo X43.here hx rfl (hb hby own_djdk_65_method_101_code_9) rfl (tlt (by decide)).2.1 (XS.aloadN X43.here hx rfl (hb hby own_djdk_65_method_101_code_12) rfl rfl (XS.iloadN X43.here hx rfl (hb hby own_djdk_65_method_101_code_13) rfl (XS.lloadN X43.here hx rfl (hb hby own_djdk_65_method_101_code_14) rfl k)))) ?_
  show own_Go p.tables e below RR (T43.setTop (mkF m 15 #[.val (.ref o), .val (.long q1), .second, .val (.int (11 : Int32)), .val (.int (16 : Int32))] [(.long q1), (.int (11 : Int32)), (.ref o)]))
  obtain ⟨c46, A46, q46, s46, m46, H46, G46⟩ := id V43
  obtain ⟨T47, h47, X47, e47, W47, st47⟩ := stJ X43 hx hZ e43 A46 (j := (11 : Int32)) (inb_of s46 ⟨by decide, by decide⟩) (g := (mkF m 15 #[.val (.ref o), .val (.long q1), .second, .val (.int (11 : Int32)), .val (.int (16 : Int32))] [(.long q1), (.int (11 : Int32)), (.ref o)])) rfl rfl (hb hby own_djdk_65_method_101_code_15)
  have V47 := Arv.set A46 q46 s46 m46 H46 G46 rfl W47 11 rfl (Nat.le_of_ble_eq_true rfl)
  have V47 : Arv Z h47 o k_ .long (16 : Int32) [(.long q1), (.long q1), (.long q1), (.long q1), (.long q1), (.long q1), (.long q1), (.long q1), (.long q1), (.long q1), (.long q1), (.long q1), (.long (0 : Int64)), (.long (0 : Int64)), (.long (0 : Int64)), (.long (0 : Int64))] (.long (0 : Int64)) := V47
  have N47 := Fr.snoc X47 N43 g_o
  refine own_st st47 ?_
  have z48 : n0 ≤ h47.size := Nat.le_trans z44 (Keep.of_wr W47).1
  have kk49 : Keep h0 h47 [o] := kk45.wr W47 (Or.inl (List.mem_of_getElem? (i := 0) rfl))
  show own_Go p.tables e below RR (T47.setTop (mkF m 16 #[.val (.ref o), .val (.long q1), .second, .val (.int (11 : Int32)), .val (.int (16 : Int32))] []))
  refine own_st (fun _ k => XS.iinc X47.here hx rfl (hb hby own_djdk_65_method_101_code_16) rfl (l' := #[.val (.ref o), .val (.long q1), .second, .val (.int (12 : Int32)), .val (.int (16 : Int32))]) rfl (XS.goto X47.here hx rfl (pc0 := 19) (pc' := 6) rfl (hb hby own_djdk_65_method_101_code_19) (by decide) (by decide) (XS.iloadN X47.here hx rfl (hb hby own_djdk_65_method_101_code_6) rfl (XS.iload X47.here hx rfl (hb hby own_djdk_65_method_101_code_7) rfl k)))) ?_
  show own_Go p.tables e below RR (T47.setTop (mkF m 9 #[.val (.ref o), .val (.long q1), .second, .val (.int (12 : Int32)), .val (.int (16 : Int32))] [(.int (16 : Int32)), (.int (12 : Int32))]))
  refine own_st (fun _ k => XS.icmpNo X47.here hx rfl (hb hby own_djdk_65_method_101_code_9) rfl (tlt (by decide)).2.1 (XS.aloadN X47.here hx rfl (hb hby own_djdk_65_method_101_code_12) rfl rfl (XS.iloadN X47.here hx rfl (hb hby own_djdk_65_method_101_code_13) rfl (XS.lloadN X47.here hx rfl (hb hby own_djdk_65_method_101_code_14) rfl k)))) ?_
  show own_Go p.tables e below RR (T47.setTop (mkF m 15 #[.val (.ref o), .val (.long q1), .second, .val (.int (12 : Int32)), .val (.int (16 : Int32))] [(.long q1), (.int (12 : Int32)), (.ref o)]))
  obtain ⟨c50, A50, q50, s50, m50, H50, G50⟩ := id V47
  obtain ⟨T51, h51, X51, e51, W51, st51⟩ := stJ X47 hx hZ e47 A50 (j := (12 : Int32)) (inb_of s50 ⟨by decide, by decide⟩) (g := (mkF m 15 #[.val (.ref o), .val (.long q1), .second, .val (.int (12 : Int32)), .val (.int (16 : Int32))] [(.long q1), (.int (12 : Int32)), (.ref o)])) rfl rfl (hb hby own_djdk_65_method_101_code_15)
  have V51 := Arv.set A50 q50 s50 m50 H50 G50 rfl W51 12 rfl (Nat.le_of_ble_eq_true rfl)
  have V51 : Arv Z h51 o k_ .long (16 : Int32) [(.long q1), (.long q1), (.long q1), (.long q1), (.long q1), (.long q1), (.long q1), (.long q1), (.long q1), (.long q1), (.long q1), (.long q1), (.long q1), (.long (0 : Int64)), (.long (0 : Int64)), (.long (0 : Int64))] (.long (0 : Int64)) := V51
  have N51 := Fr.snoc X51 N47 g_o
  refine own_st st51 ?_
  have z52 : n0 ≤ h51.size := Nat.le_trans z48 (Keep.of_wr W51).1
  have kk53 : Keep h0 h51 [o] := kk49.wr W51 (Or.inl (List.mem_of_getElem? (i := 0) rfl))
  show own_Go p.tables e below RR (T51.setTop (mkF m 16 #[.val (.ref o), .val (.long q1), .second, .val (.int (12 : Int32)), .val (.int (16 : Int32))] []))
  refine own_st (fun _ k => XS.iinc X51.here hx rfl (hb hby own_djdk_65_method_101_code_16) rfl (l' := #[.val (.ref o), .val (.long q1), .second, .val (.int (13 : Int32)), .val (.int (16 : Int32))]) rfl (XS.goto X51.here hx rfl (pc0 := 19) (pc' := 6) rfl (hb hby own_djdk_65_method_101_code_19) (by decide) (by decide) (XS.iloadN X51.here hx rfl (hb hby own_djdk_65_method_101_code_6) rfl (XS.iload X51.here hx rfl (hb hby own_djdk_65_method_101_code_7) rfl k)))) ?_
  show own_Go p.tables e below RR (T51.setTop (mkF m 9 #[.val (.ref o), .val (.long q1), .second, .val (.int (13 : Int32)), .val (.int (16 : Int32))] [(.int (16 : Int32)), (.int (13 : Int32))]))
  refine own_st (fun _ k => XS.icmpNo X51.here hx rfl (hb hby own_djdk_65_method_101_code_9) rfl (tlt (by decide)).2.1 (XS.aloadN X51.here hx rfl (hb hby own_djdk_65_method_101_code_12) rfl rfl (XS.iloadN X51.here hx rfl (hb hby own_djdk_65_method_101_code_13) rfl (XS.lloadN X51.here hx rfl (hb hby own_djdk_65_method_101_code_14) rfl k)))) ?_
  show own_Go p.tables e below RR (T51.setTop (mkF m 15 #[.val (.ref o), .val (.long q1), .second, .val (.int (13 : Int32)), .val (.int (16 : Int32))] [(.long q1), (.int (13 : Int32)), (.ref o)]))
  obtain ⟨c54, A54, q54, s54, m54, H54, G54⟩ := id V51
  obtain ⟨T55, h55, X55, e55, W55, st55⟩ := stJ X51 hx hZ e51 A54 (j := (13 : Int32)) (inb_of s54 ⟨by decide, by decide⟩) (g := (mkF m 15 #[.val (.ref o), .val (.long q1), .second, .val (.int (13 : Int32)), .val (.int (16 : Int32))] [(.long q1), (.int (13 : Int32)), (.ref o)])) rfl rfl (hb hby own_djdk_65_method_101_code_15)
  have V55 := Arv.set A54 q54 s54 m54 H54 G54 rfl W55 13 rfl (Nat.le_of_ble_eq_true rfl)
  have V55 : Arv Z h55 o k_ .long (16 : Int32) [(.long q1), (.long q1), (.long q1), (.long q1), (.long q1), (.long q1), (.long q1), (.long q1), (.long q1), (.long q1), (.long q1), (.long q1), (.long q1), (.long q1), (.long (0 : Int64)), (.long (0 : Int64))] (.long (0 : Int64)) := V55
  have N55 := Fr.snoc X55 N51 g_o
  refine own_st st55 ?_
  have z56 : n0 ≤ h55.size := Nat.le_trans z52 (Keep.of_wr W55).1
  have kk57 : Keep h0 h55 [o] := kk53.wr W55 (Or.inl (List.mem_of_getElem? (i := 0) rfl))
  show own_Go p.tables e below RR (T55.setTop (mkF m 16 #[.val (.ref o), .val (.long q1), .second, .val (.int (13 : Int32)), .val (.int (16 : Int32))] []))
  refine own_st (fun _ k => XS.iinc X55.here hx rfl (hb hby own_djdk_65_method_101_code_16) rfl (l' := #[.val (.ref o), .val (.long q1), .second, .val (.int (14 : Int32)), .val (.int (16 : Int32))]) rfl (XS.goto X55.here hx rfl (pc0 := 19) (pc' := 6) rfl (hb hby own_djdk_65_method_101_code_19) (by decide) (by decide) (XS.iloadN X55.here hx rfl (hb hby own_djdk_65_method_101_code_6) rfl (XS.iload X55.here hx rfl (hb hby own_djdk_65_method_101_code_7) rfl k)))) ?_
  show own_Go p.tables e below RR (T55.setTop (mkF m 9 #[.val (.ref o), .val (.long q1), .second, .val (.int (14 : Int32)), .val (.int (16 : Int32))] [(.int (16 : Int32)), (.int (14 : Int32))]))
  refine own_st (fun _ k => XS.icmpNo X55.here hx rfl (hb hby own_djdk_65_method_101_code_9) rfl (tlt (by decide)).2.1 (XS.aloadN X55.here hx rfl (hb hby own_djdk_65_method_101_code_12) rfl rfl (XS.iloadN X55.here hx rfl (hb hby own_djdk_65_method_101_code_13) rfl (XS.lloadN X55.here hx rfl (hb hby own_djdk_65_method_101_code_14) rfl k)))) ?_
  show own_Go p.tables e below RR (T55.setTop (mkF m 15 #[.val (.ref o), .val (.long q1), .second, .val (.int (14 : Int32)), .val (.int (16 : Int32))] [(.long q1), (.int (14 : Int32)), (.ref o)]))
  obtain ⟨c58, A58, q58, s58, m58, H58, G58⟩ := id V55
  obtain ⟨T59, h59, X59, e59, W59, st59⟩ := stJ X55 hx hZ e55 A58 (j := (14 : Int32)) (inb_of s58 ⟨by decide, by decide⟩) (g := (mkF m 15 #[.val (.ref o), .val (.long q1), .second, .val (.int (14 : Int32)), .val (.int (16 : Int32))] [(.long q1), (.int (14 : Int32)), (.ref o)])) rfl rfl (hb hby own_djdk_65_method_101_code_15)
  have V59 := Arv.set A58 q58 s58 m58 H58 G58 rfl W59 14 rfl (Nat.le_of_ble_eq_true rfl)
  have V59 : Arv Z h59 o k_ .long (16 : Int32) [(.long q1), (.long q1), (.long q1), (.long q1), (.long q1), (.long q1), (.long q1), (.long q1), (.long q1), (.long q1), (.long q1), (.long q1), (.long q1), (.long q1), (.long q1), (.long (0 : Int64))] (.long (0 : Int64)) := V59
  have N59 := Fr.snoc X59 N55 g_o
  refine own_st st59 ?_
  have z60 : n0 ≤ h59.size := Nat.le_trans z56 (Keep.of_wr W59).1
  have kk61 : Keep h0 h59 [o] := kk57.wr W59 (Or.inl (List.mem_of_getElem? (i := 0) rfl))
  show own_Go p.tables e below RR (T59.setTop (mkF m 16 #[.val (.ref o), .val (.long q1), .second, .val (.int (14 : Int32)), .val (.int (16 : Int32))] []))
  refine own_st (fun _ k => XS.iinc X59.here hx rfl (hb hby own_djdk_65_method_101_code_16) rfl (l' := #[.val (.ref o), .val (.long q1), .second, .val (.int (15 : Int32)), .val (.int (16 : Int32))]) rfl (XS.goto X59.here hx rfl (pc0 := 19) (pc' := 6) rfl (hb hby own_djdk_65_method_101_code_19) (by decide) (by decide) (XS.iloadN X59.here hx rfl (hb hby own_djdk_65_method_101_code_6) rfl (XS.iload X59.here hx rfl (hb hby own_djdk_65_method_101_code_7) rfl k)))) ?_
  show own_Go p.tables e below RR (T59.setTop (mkF m 9 #[.val (.ref o), .val (.long q1), .second, .val (.int (15 : Int32)), .val (.int (16 : Int32))] [(.int (16 : Int32)), (.int (15 : Int32))]))
  refine own_st (fun _ k => XS.icmpNo X59.here hx rfl (hb hby own_djdk_65_method_101_code_9) rfl (tlt (by decide)).2.1 (XS.aloadN X59.here hx rfl (hb hby own_djdk_65_method_101_code_12) rfl rfl (XS.iloadN X59.here hx rfl (hb hby own_djdk_65_method_101_code_13) rfl (XS.lloadN X59.here hx rfl (hb hby own_djdk_65_method_101_code_14) rfl k)))) ?_
  show own_Go p.tables e below RR (T59.setTop (mkF m 15 #[.val (.ref o), .val (.long q1), .second, .val (.int (15 : Int32)), .val (.int (16 : Int32))] [(.long q1), (.int (15 : Int32)), (.ref o)]))
  obtain ⟨c62, A62, q62, s62, m62, H62, G62⟩ := id V59
  obtain ⟨T63, h63, X63, e63, W63, st63⟩ := stJ X59 hx hZ e59 A62 (j := (15 : Int32)) (inb_of s62 ⟨by decide, by decide⟩) (g := (mkF m 15 #[.val (.ref o), .val (.long q1), .second, .val (.int (15 : Int32)), .val (.int (16 : Int32))] [(.long q1), (.int (15 : Int32)), (.ref o)])) rfl rfl (hb hby own_djdk_65_method_101_code_15)
  have V63 := Arv.set A62 q62 s62 m62 H62 G62 rfl W63 15 rfl (Nat.le_of_ble_eq_true rfl)
  have V63 : Arv Z h63 o k_ .long (16 : Int32) [(.long q1), (.long q1), (.long q1), (.long q1), (.long q1), (.long q1), (.long q1), (.long q1), (.long q1), (.long q1), (.long q1), (.long q1), (.long q1), (.long q1), (.long q1), (.long q1)] (.long (0 : Int64)) := V63
  have N63 := Fr.snoc X63 N59 g_o
  refine own_st st63 ?_
  have z64 : n0 ≤ h63.size := Nat.le_trans z60 (Keep.of_wr W63).1
  have kk65 : Keep h0 h63 [o] := kk61.wr W63 (Or.inl (List.mem_of_getElem? (i := 0) rfl))
  show own_Go p.tables e below RR (T63.setTop (mkF m 16 #[.val (.ref o), .val (.long q1), .second, .val (.int (15 : Int32)), .val (.int (16 : Int32))] []))
  refine own_st (fun _ k => XS.iinc X63.here hx rfl (hb hby own_djdk_65_method_101_code_16) rfl (l' := #[.val (.ref o), .val (.long q1), .second, .val (.int (16 : Int32)), .val (.int (16 : Int32))]) rfl (XS.goto X63.here hx rfl (pc0 := 19) (pc' := 6) rfl (hb hby own_djdk_65_method_101_code_19) (by decide) (by decide) (XS.iloadN X63.here hx rfl (hb hby own_djdk_65_method_101_code_6) rfl (XS.iload X63.here hx rfl (hb hby own_djdk_65_method_101_code_7) rfl k)))) ?_
  show own_Go p.tables e below RR (T63.setTop (mkF m 9 #[.val (.ref o), .val (.long q1), .second, .val (.int (16 : Int32)), .val (.int (16 : Int32))] [(.int (16 : Int32)), (.int (16 : Int32))]))
  refine own_st (fun _ k => XS.icmpYes X63.here hx rfl (pc0 := 9) (pc' := 22) rfl (hb hby own_djdk_65_method_101_code_9) rfl (flt (by decide)).2.1 (by decide) (by decide) k) ?_
  show own_Go p.tables e below RR (T63.setTop (mkF m 22 #[.val (.ref o), .val (.long q1), .second, .val (.int (16 : Int32)), .val (.int (16 : Int32))] []))
  obtain ⟨fs, hrt_, hrun, hended, hW, hsame⟩ := X63.leave (v := none) (fun _ => rfl)
  refine own_fin (X63.returnOut hx Bd.returns (hb hby own_djdk_65_method_101_code_22) hrt_) (hRR _ ⟨_, hrun, hended, _, _, rfl, ?_, ⟨_, rfl⟩, hW, hsame.mono (by decide) (by decide)⟩)
  show own_QFL Z o q1 k_ h0 n0 _ T63.heap _
  rw [e63]
  exact ⟨rfl, N63, kk65⟩
theorem own_dprog_21_method_1_code_0 : decode prog_21_method_1_code 0 = .ok (.aload_n 0, 1) := by decide +kernel
theorem own_dprog_21_method_1_code_1 : decode prog_21_method_1_code 1 = .ok (.invokespecial 3, 3) := by decide +kernel
theorem own_dprog_21_method_1_code_4 : decode prog_21_method_1_code 4 = .ok (.aload_n 0, 1) := by decide +kernel
theorem own_dprog_21_method_1_code_5 : decode prog_21_method_1_code 5 = .ok (.iconst 1, 1) := by decide +kernel
theorem own_dprog_21_method_1_code_6 : decode prog_21_method_1_code 6 = .ok (.anewarray 9, 3) := by decide +kernel
theorem own_dprog_21_method_1_code_9 : decode prog_21_method_1_code 9 = .ok (.putfield 11, 3) := by decide +kernel
theorem own_dprog_21_method_1_code_12 : decode prog_21_method_1_code 12 = .ok (.aload_n 1, 1) := by decide +kernel
theorem own_dprog_21_method_1_code_13 : decode prog_21_method_1_code 13 = .ok (.arraylength, 1) := by decide +kernel
theorem own_dprog_21_method_1_code_14 : decode prog_21_method_1_code 14 = .ok (.istore_n 2, 1) := by decide +kernel
theorem own_dprog_21_method_1_code_15 : decode prog_21_method_1_code 15 = .ok (.aload_n 0, 1) := by decide +kernel
theorem own_dprog_21_method_1_code_16 : decode prog_21_method_1_code 16 = .ok (.iload_n 2, 1) := by decide +kernel
theorem own_dprog_21_method_1_code_17 : decode prog_21_method_1_code 17 = .ok (.newarray .int, 2) := by decide +kernel
theorem own_dprog_21_method_1_code_19 : decode prog_21_method_1_code 19 = .ok (.putfield 17, 3) := by decide +kernel
theorem own_dprog_21_method_1_code_22 : decode prog_21_method_1_code 22 = .ok (.aload_n 0, 1) := by decide +kernel
theorem own_dprog_21_method_1_code_23 : decode prog_21_method_1_code 23 = .ok (.iload_n 2, 1) := by decide +kernel
theorem own_dprog_21_method_1_code_24 : decode prog_21_method_1_code 24 = .ok (.newarray .int, 2) := by decide +kernel
theorem own_dprog_21_method_1_code_26 : decode prog_21_method_1_code 26 = .ok (.putfield 21, 3) := by decide +kernel
theorem own_dprog_21_method_1_code_29 : decode prog_21_method_1_code 29 = .ok (.aload_n 0, 1) := by decide +kernel
theorem own_dprog_21_method_1_code_30 : decode prog_21_method_1_code 30 = .ok (.iload_n 2, 1) := by decide +kernel
theorem own_dprog_21_method_1_code_31 : decode prog_21_method_1_code 31 = .ok (.newarray .int, 2) := by decide +kernel
theorem own_dprog_21_method_1_code_33 : decode prog_21_method_1_code 33 = .ok (.putfield 24, 3) := by decide +kernel
theorem own_dprog_21_method_1_code_36 : decode prog_21_method_1_code 36 = .ok (.aload_n 0, 1) := by decide +kernel
theorem own_dprog_21_method_1_code_37 : decode prog_21_method_1_code 37 = .ok (.iload_n 2, 1) := by decide +kernel
theorem own_dprog_21_method_1_code_38 : decode prog_21_method_1_code 38 = .ok (.newarray .long, 2) := by decide +kernel
theorem own_dprog_21_method_1_code_40 : decode prog_21_method_1_code 40 = .ok (.putfield 27, 3) := by decide +kernel
theorem own_dprog_21_method_1_code_43 : decode prog_21_method_1_code 43 = .ok (.iconst 0, 1) := by decide +kernel
theorem own_dprog_21_method_1_code_44 : decode prog_21_method_1_code 44 = .ok (.istore_n 3, 1) := by decide +kernel
theorem own_dprog_21_method_1_code_45 : decode prog_21_method_1_code 45 = .ok (.iconst 0, 1) := by decide +kernel
theorem own_dprog_21_method_1_code_46 : decode prog_21_method_1_code 46 = .ok (.istore 4, 2) := by decide +kernel
theorem own_dprog_21_method_1_code_48 : decode prog_21_method_1_code 48 = .ok (.iconst 0, 1) := by decide +kernel
theorem own_dprog_21_method_1_code_49 : decode prog_21_method_1_code 49 = .ok (.istore 5, 2) := by decide +kernel
theorem own_dprog_21_method_1_code_51 : decode prog_21_method_1_code 51 = .ok (.iload 5, 2) := by decide +kernel
theorem own_dprog_21_method_1_code_53 : decode prog_21_method_1_code 53 = .ok (.iload_n 2, 1) := by decide +kernel
theorem own_dprog_21_method_1_code_54 : decode prog_21_method_1_code 54 = .ok (.if_icmp .ge 52, 3) := by decide +kernel
theorem own_dprog_21_method_1_code_57 : decode prog_21_method_1_code 57 = .ok (.aload_n 1, 1) := by decide +kernel
theorem own_dprog_21_method_1_code_58 : decode prog_21_method_1_code 58 = .ok (.iload 5, 2) := by decide +kernel
theorem own_dprog_21_method_1_code_60 : decode prog_21_method_1_code 60 = .ok (.laload, 1) := by decide +kernel
theorem own_dprog_21_method_1_code_61 : decode prog_21_method_1_code 61 = .ok (.invokestatic 30, 3) := by decide +kernel
theorem own_dprog_21_method_1_code_64 : decode prog_21_method_1_code 64 = .ok (.istore 6, 2) := by decide +kernel
theorem own_dprog_21_method_1_code_66 : decode prog_21_method_1_code 66 = .ok (.iload 4, 2) := by decide +kernel
theorem own_dprog_21_method_1_code_68 : decode prog_21_method_1_code 68 = .ok (.iload 6, 2) := by decide +kernel
theorem own_dprog_21_method_1_code_70 : decode prog_21_method_1_code 70 = .ok (.iadd, 1) := by decide +kernel
theorem own_dprog_21_method_1_code_71 : decode prog_21_method_1_code 71 = .ok (.bipush 64, 2) := by decide +kernel
theorem own_dprog_21_method_1_code_73 : decode prog_21_method_1_code 73 = .ok (.if_icmp .le 9, 3) := by decide +kernel
theorem own_dprog_21_method_1_code_82 : decode prog_21_method_1_code 82 = .ok (.aload_n 0, 1) := by decide +kernel
theorem own_dprog_21_method_1_code_83 : decode prog_21_method_1_code 83 = .ok (.iload 5, 2) := by decide +kernel
theorem own_dprog_21_method_1_code_85 : decode prog_21_method_1_code 85 = .ok (.iload_n 3, 1) := by decide +kernel
theorem own_dprog_21_method_1_code_86 : decode prog_21_method_1_code 86 = .ok (.iload 4, 2) := by decide +kernel
theorem own_dprog_21_method_1_code_88 : decode prog_21_method_1_code 88 = .ok (.iload 6, 2) := by decide +kernel
theorem own_pd__IIII_V : parseMethodDescriptor "(IIII)V" = some ⟨[.int, .int, .int, .int], none⟩ := by decide +kernel
theorem own_dprog_21_method_1_code_90 : decode prog_21_method_1_code 90 = .ok (.invokevirtual 36, 3) := by decide +kernel
theorem own_dprog_21_method_1_code_93 : decode prog_21_method_1_code 93 = .ok (.iload 4, 2) := by decide +kernel
theorem own_dprog_21_method_1_code_95 : decode prog_21_method_1_code 95 = .ok (.iload 6, 2) := by decide +kernel
theorem own_dprog_21_method_1_code_97 : decode prog_21_method_1_code 97 = .ok (.iadd, 1) := by decide +kernel
theorem own_dprog_21_method_1_code_98 : decode prog_21_method_1_code 98 = .ok (.istore 4, 2) := by decide +kernel
theorem own_dprog_21_method_1_code_100 : decode prog_21_method_1_code 100 = .ok (.iinc 5 1, 3) := by decide +kernel
theorem own_dprog_21_method_1_code_103 : decode prog_21_method_1_code 103 = .ok (.goto (-52), 3) := by decide +kernel
theorem own_dprog_21_method_1_code_76 : decode prog_21_method_1_code 76 = .ok (.iinc 3 1, 3) := by decide +kernel
theorem own_dprog_21_method_1_code_79 : decode prog_21_method_1_code 79 = .ok (.iconst 0, 1) := by decide +kernel
theorem own_dprog_21_method_1_code_80 : decode prog_21_method_1_code 80 = .ok (.istore 4, 2) := by decide +kernel
theorem own_dprog_21_method_1_code_106 : decode prog_21_method_1_code 106 = .ok (.aload_n 0, 1) := by decide +kernel
theorem own_dprog_21_method_1_code_107 : decode prog_21_method_1_code 107 = .ok (.iload_n 3, 1) := by decide +kernel
theorem own_dprog_21_method_1_code_108 : decode prog_21_method_1_code 108 = .ok (.iconst 1, 1) := by decide +kernel
theorem own_dprog_21_method_1_code_109 : decode prog_21_method_1_code 109 = .ok (.iadd, 1) := by decide +kernel
theorem own_dprog_21_method_1_code_110 : decode prog_21_method_1_code 110 = .ok (.putfield 40, 3) := by decide +kernel
theorem own_dprog_21_method_1_code_113 : decode prog_21_method_1_code 113 = .ok (.aload_n 0, 1) := by decide +kernel
theorem own_dprog_21_method_1_code_114 : decode prog_21_method_1_code 114 = .ok (.bipush 16, 2) := by decide +kernel
theorem own_dprog_21_method_1_code_116 : decode prog_21_method_1_code 116 = .ok (.newarray .long, 2) := by decide +kernel
theorem own_dprog_21_method_1_code_118 : decode prog_21_method_1_code 118 = .ok (.putfield 44, 3) := by decide +kernel
theorem own_dprog_21_method_1_code_121 : decode prog_21_method_1_code 121 = .ok (.aload_n 0, 1) := by decide +kernel
theorem own_dprog_21_method_1_code_122 : decode prog_21_method_1_code 122 = .ok (.getfield 44, 3) := by decide +kernel
theorem own_dprog_21_method_1_code_125 : decode prog_21_method_1_code 125 = .ok (.ldc2_w 47, 3) := by decide +kernel
theorem own_pd___JJ_V : parseMethodDescriptor "([JJ)V" = some ⟨[(.array .long), .long], none⟩ := by decide +kernel
theorem own_dprog_21_method_1_code_128 : decode prog_21_method_1_code 128 = .ok (.invokestatic 49, 3) := by decide +kernel
theorem own_dprog_21_method_1_code_131 : decode prog_21_method_1_code 131 = .ok (.return_, 1) := by decide +kernel
theorem own_efIN (m : MethodId) (o : Addr) (at_ : Addr) : entryFrame m #[(.ref o), (.ref at_)] 7 = mkF m 0 #[.val (.ref o), .val (.ref at_), .unset, .unset, .unset, .unset, .unset] [] := by first | (simp [entryFrame, mkF, argsToLocals, Value.category]; done) | rfl
def own_QIN (Z : State) (o : Addr) (at_ : Addr) (kt : ClassId) (t0 : Int64) (t1 : Int64) (t2 : Int64) (w0 : Int32) (w1 : Int32) (w2 : Int32) (h0 : Heap) (n0 : Nat) (rv__ : Option Value) (h : Heap) (rL__ : List Loc) : Prop := rv__ = none ∧ Fr n0 rL__ ∧ Keep h0 h [o] ∧ Exa Z h o "com/example/nesiph/nesiph/MarkingSet" ∧ ∃ (aw as_ am : Addr) (kw ks km : ClassId), h0.size ≤ aw ∧ h0.size ≤ as_ ∧ h0.size ≤ am ∧ Fld Z h o "com/example/nesiph/nesiph/MarkingSet" "wordOf" "[I" (.ref aw) ∧ Fld Z h o "com/example/nesiph/nesiph/MarkingSet" "shiftOf" "[I" (.ref as_) ∧ Fld Z h o "com/example/nesiph/nesiph/MarkingSet" "maskOf" "[J" (.ref am) ∧ Arv Z h aw kw .int (3 : Int32) [(.int (0 : Int32)), (.int (own_wo1 w0 w1)), (.int (own_wo2 w0 w1 w2))] (.int (0 : Int32)) ∧ Arv Z h as_ ks .int (3 : Int32) [(.int (0 : Int32)), (.int (own_sh1 w0 w1)), (.int (own_sh2 w0 w1 w2))] (.int (0 : Int32)) ∧ Arv Z h am km .long (3 : Int32) [(.long (own_low w0)), (.long (own_low w1)), (.long (own_low w2))] (.long (0 : Int64))
abbrev own_RIN : Room := { frames := 3, cells := 6, slots := 29, locals := 43 }
set_option maxRecDepth 65536 in
set_option maxHeartbeats 40000000 in
theorem own_rmIN (l : Launch) (Z : State) (a0 : Array Value) (hw : ∀ d ∈ tables_1, d.before a0 Z = true) (ws : List Jvm.Cond) (o : Addr) (at_ : Addr) (kt : ClassId) (t0 : Int64) (t1 : Int64) (t2 : Int64) (w0 : Int32) (w1 : Int32) (w2 : Int32) (h0 : Heap) (n0 : Nat) (Z0 : n0 ≤ h0.size) (g_o : n0 ≤ o) (E : Exa Z h0 o "com/example/nesiph/nesiph/MarkingSet") (neot : o ≠ at_) (F_pages : Fld Z h0 o "com/example/nesiph/nesiph/MarkingSet" "pages" "[[J" .null) (F_widths : Fld Z h0 o "com/example/nesiph/nesiph/MarkingSet" "widths" "[I" .null) (F_wordOf : Fld Z h0 o "com/example/nesiph/nesiph/MarkingSet" "wordOf" "[I" .null) (F_shiftOf : Fld Z h0 o "com/example/nesiph/nesiph/MarkingSet" "shiftOf" "[I" .null) (F_maskOf : Fld Z h0 o "com/example/nesiph/nesiph/MarkingSet" "maskOf" "[J" .null) (F_slots : Fld Z h0 o "com/example/nesiph/nesiph/MarkingSet" "slots" "[J" .null) (F_wc : Fld Z h0 o "com/example/nesiph/nesiph/MarkingSet" "wordCount" "I" (.int (0 : Int32))) (Vt : Arv Z h0 at_ kt .long (3 : Int32) [(.long t0), (.long t1), (.long t2)] (.long (0 : Int64))) (hb0 : own_bits t0 = w0) (hb1 : own_bits t1 = w1) (hb2 : own_bits t2 = w2) (hw0 : 1 ≤ w0.toInt ∧ w0.toInt ≤ 63) (hw1 : 1 ≤ w1.toInt ∧ w1.toInt ≤ 63) (hw2 : 1 ≤ w2.toInt ∧ w2.toInt ≤ 63) :
    MetFree l (⟨"com/example/nesiph/nesiph/MarkingSet", "<init>", "([J)V"⟩ : MethodName) (head1 (Jvm.Cond.code (⟨"com/example/nesiph/nesiph/MarkingSet", "<init>", "([J)V"⟩ : MethodName) prog_21_method_1_code 7 none :: ws) own_RIN) (fun aa__ U => aa__ = #[(.ref o), (.ref at_)] ∧ Z.Warmed39 U.vm ∧ U.heap = h0) (fun _ _ _ _ _ => True) (fun _ U oc_ U' => ∃ rv__ rL__, oc_ = .returned rv__ ∧ own_QIN Z o at_ kt t0 t1 t2 w0 w1 w2 h0 n0 rv__ U'.heap rL__ ∧ FrameEnd U oc_ U' rL__ own_RIN.cells own_RIN.slots) := by
  refine MetFree.of_bodySF (plainFor_of_name own_pn_com_example_nesiph_nesiph_MarkingSet) hisR ?_
  intro p e s m args below meth c s₁ Bd hml0 hP hK
  obtain ⟨rfl, hZ, hh⟩ := hP
  have hx := Bd.exec
  have hby := Bd.bytes
  have hml : c.maxLocals = 7 := hml0
  have hown : s.vm.findClass "com/example/nesiph/nesiph/MarkingSet" = some m.cls := findClass_of_methodNamed Bd.named
  have hnm := (name_of_methodNamed Bd.named Bd.method).1
  have X0 : Stand p l e own_RIN s m #[(.ref o), (.ref at_)] below meth c s₁ [] 0 0 := Stand.of_body Bd
  have e0 : s₁.heap = h0 := by rw [← hh, Bd.state]; rfl
  have N0 := Fr.nil n0
  refine own_in (fun _ k => castTop (own_efIN m o at_) k) ?_
  intro RR hRR
  show own_Go p.tables e below RR (s₁.setTop (mkF m 0 #[.val (.ref o), .val (.ref at_), .unset, .unset, .unset, .unset, .unset] []))
  refine own_st (fun _ k => XS.aloadN X0.here hx rfl (hb hby own_dprog_21_method_1_code_0) rfl rfl k) ?_
  show own_Go p.tables e below RR (s₁.setTop (mkF m 1 #[.val (.ref o), .val (.ref at_), .unset, .unset, .unset, .unset, .unset] [(.ref o)]))
  obtain ⟨T1, X1, e1, st1⟩ := initO X0 hx hZ hown (hw _ (List.mem_of_getElem? (i := 12) rfl)) (hw _ (List.mem_of_getElem? (i := 13) rfl)) (hw _ (List.mem_of_getElem? (i := 14) rfl)) e0 (g := (mkF m 1 #[.val (.ref o), .val (.ref at_), .unset, .unset, .unset, .unset, .unset] [(.ref o)])) rfl (by rw [hml]; rfl) rfl (hb hby own_dprog_21_method_1_code_1) (by decide) (W := 0) (by show 2 * 0 + _ ≤ _; exact Nat.le_of_eq rfl) (by decide)
  refine own_st st1 ?_
  show own_Go p.tables e below RR (T1.setTop (mkF m 4 #[.val (.ref o), .val (.ref at_), .unset, .unset, .unset, .unset, .unset] []))
  refine own_st (fun _ k => XS.aloadN X1.here hx rfl (hb hby own_dprog_21_method_1_code_4) rfl rfl (XS.iconst X1.here hx rfl (hb hby own_dprog_21_method_1_code_5) k)) ?_
  show own_Go p.tables e below RR (T1.setTop (mkF m 6 #[.val (.ref o), .val (.ref at_), .unset, .unset, .unset, .unset, .unset] [(.int (1 : Int32)), (.ref o)]))
  obtain ⟨T2, h2, k2, X2, e2, E2, A2, B2, O2, st2⟩ := newRA X1 hx hZ hown (ty := .long) (C := "[J") (by decide) (hw _ (List.mem_of_getElem? (i := 15) rfl)) (hw _ (List.mem_of_getElem? (i := 16) rfl)) e1 (g := (mkF m 6 #[.val (.ref o), .val (.ref at_), .unset, .unset, .unset, .unset, .unset] [(.int (1 : Int32)), (.ref o)])) rfl (hb hby own_dprog_21_method_1_code_6) rfl (by decide) (cap := 1) (by decide) (by decide) (by decide) (by decide) (ad := "[[J") (by decide)
  obtain ⟨b2, gb2⟩ : ∃ z, z = h0.size := ⟨_, rfl⟩
  rw [← gb2] at A2 B2 st2
  have ge2 : n0 ≤ b2 := Nat.le_trans Z0 (Nat.le_of_eq gb2.symm)
  have sz2 : h0.size ≤ b2 := Nat.le_trans (Keep.refl h0 [o]).1 (Nat.le_of_eq gb2.symm)
  refine own_st st2 ?_
  have z3 : n0 ≤ h2.size := Nat.le_trans Z0 E2.1
  have kk4 : Keep h0 h2 [o] := (Keep.refl h0 [o]).ext E2
  have V2 : Arv Z h2 b2 k2 (.array .long) (1 : Int32) [.null] .null := (Arv.new A2 (by decide)).pad (pad_rep [] .null 1)
  show own_Go p.tables e below RR (T2.setTop (mkF m 9 #[.val (.ref o), .val (.ref at_), .unset, .unset, .unset, .unset, .unset] [(.ref b2), (.ref o)]))
  have f5 := (F_pages.ext E2)
  have f6 := (E.ext E2)
  obtain ⟨T7, h7, X7, e7, W7, st7⟩ := putF X2 hx hZ hown (host := "") (Or.inl (hw _ (List.mem_of_getElem? (i := 17) rfl))) Via.refl e2 f5 f6 (Or.inl (hw _ (List.mem_of_getElem? (i := 18) rfl))) (hw _ (List.mem_of_getElem? (i := 7) rfl)) (ty := (.array (.array .long))) (by decide) rfl rfl (g := (mkF m 9 #[.val (.ref o), .val (.ref at_), .unset, .unset, .unset, .unset, .unset] [(.ref b2), (.ref o)])) rfl rfl (hb hby own_dprog_21_method_1_code_9)
  have Fw7 := f5.same W7
  have N7 := Fr.snoc X7 N0 g_o
  refine own_st st7 ?_
  have z8 : n0 ≤ h7.size := Nat.le_trans z3 (Keep.of_wr W7).1
  have kk9 : Keep h0 h7 [o] := kk4.wr W7 (Or.inl (List.mem_of_getElem? (i := 0) rfl))
  show own_Go p.tables e below RR (T7.setTop (mkF m 12 #[.val (.ref o), .val (.ref at_), .unset, .unset, .unset, .unset, .unset] []))
  refine own_st (fun _ k => XS.aloadN X7.here hx rfl (hb hby own_dprog_21_method_1_code_12) rfl rfl k) ?_
  show own_Go p.tables e below RR (T7.setTop (mkF m 13 #[.val (.ref o), .val (.ref at_), .unset, .unset, .unset, .unset, .unset] [(.ref at_)]))
  have f10 := ((Vt.ext E2).other W7 (Ne.symm neot))
  obtain ⟨c11, A11, -, s11, m11, -, -⟩ := id f10
  refine own_st (fun _ k => own_len X7 hx hZ e7 A11 s11 m11 (g := (mkF m 13 #[.val (.ref o), .val (.ref at_), .unset, .unset, .unset, .unset, .unset] [(.ref at_)])) rfl rfl (hb hby own_dprog_21_method_1_code_13) (XS.istoreN X7.here hx rfl (hb hby own_dprog_21_method_1_code_14) rfl (l' := #[.val (.ref o), .val (.ref at_), .val (.int (3 : Int32)), .unset, .unset, .unset, .unset]) rfl (XS.aloadN X7.here hx rfl (hb hby own_dprog_21_method_1_code_15) rfl rfl (XS.iloadN X7.here hx rfl (hb hby own_dprog_21_method_1_code_16) rfl k)))) ?_
  show own_Go p.tables e below RR (T7.setTop (mkF m 17 #[.val (.ref o), .val (.ref at_), .val (.int (3 : Int32)), .unset, .unset, .unset, .unset] [(.int (3 : Int32)), (.ref o)]))
  obtain ⟨T12, h12, k12, X12, e12, E12, A12, st12⟩ := newP X7 hx hZ (hw _ (List.mem_of_getElem? (i := 19) rfl)) e7 (g := (mkF m 17 #[.val (.ref o), .val (.ref at_), .val (.int (3 : Int32)), .unset, .unset, .unset, .unset] [(.int (3 : Int32)), (.ref o)])) rfl (hb hby own_dprog_21_method_1_code_17) rfl (by decide) (cap := 3) (by decide) (by decide) (by decide) (by decide)
  obtain ⟨b12, gb12⟩ : ∃ z, z = h7.size := ⟨_, rfl⟩
  rw [← gb12] at A12 st12
  have ge12 : n0 ≤ b12 := Nat.le_trans z8 (Nat.le_of_eq gb12.symm)
  have sz12 : h0.size ≤ b12 := Nat.le_trans kk9.1 (Nat.le_of_eq gb12.symm)
  refine own_st st12 ?_
  have z13 : n0 ≤ h12.size := Nat.le_trans z8 E12.1
  have kk14 : Keep h0 h12 [o] := kk9.ext E12
  have V12 : Arv Z h12 b12 k12 .int (3 : Int32) [(.int (0 : Int32)), (.int (0 : Int32)), (.int (0 : Int32))] (.int (0 : Int32)) := (Arv.new A12 (by decide)).pad (pad_rep [] (.int (0 : Int32)) 3)
  show own_Go p.tables e below RR (T12.setTop (mkF m 19 #[.val (.ref o), .val (.ref at_), .val (.int (3 : Int32)), .unset, .unset, .unset, .unset] [(.ref b12), (.ref o)]))
  have f15 := (((F_widths.ext E2).other W7 (Or.inr (slot_ne (Or.inr (hw _ (List.mem_of_getElem? (i := 21) rfl))) (Or.inl (hw _ (List.mem_of_getElem? (i := 18) rfl))) (by decide) (t := (.array .int)) (t' := (.array (.array .long))) (by decide) (by decide)))).ext E12)
  have f16 := ((f6.wr W7).ext E12)
  obtain ⟨T17, h17, X17, e17, W17, st17⟩ := putF X12 hx hZ hown (host := "") (Or.inl (hw _ (List.mem_of_getElem? (i := 20) rfl))) Via.refl e12 f15 f16 (Or.inr ⟨(hw _ (List.mem_of_getElem? (i := 21) rfl)), rfl, hnm⟩) (hw _ (List.mem_of_getElem? (i := 7) rfl)) (ty := (.array .int)) (by decide) rfl rfl (g := (mkF m 19 #[.val (.ref o), .val (.ref at_), .val (.int (3 : Int32)), .unset, .unset, .unset, .unset] [(.ref b12), (.ref o)])) rfl rfl (hb hby own_dprog_21_method_1_code_19)
  have Fw17 := f15.same W17
  have N17 := Fr.snoc X17 N7 g_o
  refine own_st st17 ?_
  have z18 : n0 ≤ h17.size := Nat.le_trans z13 (Keep.of_wr W17).1
  have kk19 : Keep h0 h17 [o] := kk14.wr W17 (Or.inl (List.mem_of_getElem? (i := 0) rfl))
  show own_Go p.tables e below RR (T17.setTop (mkF m 22 #[.val (.ref o), .val (.ref at_), .val (.int (3 : Int32)), .unset, .unset, .unset, .unset] []))
  refine own_st (fun _ k => XS.aloadN X17.here hx rfl (hb hby own_dprog_21_method_1_code_22) rfl rfl (XS.iloadN X17.here hx rfl (hb hby own_dprog_21_method_1_code_23) rfl k)) ?_
  show own_Go p.tables e below RR (T17.setTop (mkF m 24 #[.val (.ref o), .val (.ref at_), .val (.int (3 : Int32)), .unset, .unset, .unset, .unset] [(.int (3 : Int32)), (.ref o)]))
  obtain ⟨T20, h20, k20, X20, e20, E20, A20, st20⟩ := newP X17 hx hZ (hw _ (List.mem_of_getElem? (i := 19) rfl)) e17 (g := (mkF m 24 #[.val (.ref o), .val (.ref at_), .val (.int (3 : Int32)), .unset, .unset, .unset, .unset] [(.int (3 : Int32)), (.ref o)])) rfl (hb hby own_dprog_21_method_1_code_24) rfl (by decide) (cap := 3) (by decide) (by decide) (by decide) (by decide)
  obtain ⟨b20, gb20⟩ : ∃ z, z = h17.size := ⟨_, rfl⟩
  rw [← gb20] at A20 st20
  have ge20 : n0 ≤ b20 := Nat.le_trans z18 (Nat.le_of_eq gb20.symm)
  have sz20 : h0.size ≤ b20 := Nat.le_trans kk19.1 (Nat.le_of_eq gb20.symm)
  refine own_st st20 ?_
  have z21 : n0 ≤ h20.size := Nat.le_trans z18 E20.1
  have kk22 : Keep h0 h20 [o] := kk19.ext E20
  have V20 : Arv Z h20 b20 k20 .int (3 : Int32) [(.int (0 : Int32)), (.int (0 : Int32)), (.int (0 : Int32))] (.int (0 : Int32)) := (Arv.new A20 (by decide)).pad (pad_rep [] (.int (0 : Int32)) 3)
  show own_Go p.tables e below RR (T20.setTop (mkF m 26 #[.val (.ref o), .val (.ref at_), .val (.int (3 : Int32)), .unset, .unset, .unset, .unset] [(.ref b20), (.ref o)]))
  have f23 := (((((F_wordOf.ext E2).other W7 (Or.inr (slot_ne (Or.inr (hw _ (List.mem_of_getElem? (i := 23) rfl))) (Or.inl (hw _ (List.mem_of_getElem? (i := 18) rfl))) (by decide) (t := (.array .int)) (t' := (.array (.array .long))) (by decide) (by decide)))).ext E12).other W17 (Or.inr (slot_ne (Or.inr (hw _ (List.mem_of_getElem? (i := 23) rfl))) (Or.inr (hw _ (List.mem_of_getElem? (i := 21) rfl))) (by decide) (t := (.array .int)) (t' := (.array .int)) (by decide) (by decide)))).ext E20)
  have f24 := ((f16.wr W17).ext E20)
  obtain ⟨T25, h25, X25, e25, W25, st25⟩ := putF X20 hx hZ hown (host := "") (Or.inl (hw _ (List.mem_of_getElem? (i := 22) rfl))) Via.refl e20 f23 f24 (Or.inr ⟨(hw _ (List.mem_of_getElem? (i := 23) rfl)), rfl, hnm⟩) (hw _ (List.mem_of_getElem? (i := 7) rfl)) (ty := (.array .int)) (by decide) rfl rfl (g := (mkF m 26 #[.val (.ref o), .val (.ref at_), .val (.int (3 : Int32)), .unset, .unset, .unset, .unset] [(.ref b20), (.ref o)])) rfl rfl (hb hby own_dprog_21_method_1_code_26)
  have Fw25 := f23.same W25
  have N25 := Fr.snoc X25 N17 g_o
  refine own_st st25 ?_
  have z26 : n0 ≤ h25.size := Nat.le_trans z21 (Keep.of_wr W25).1
  have kk27 : Keep h0 h25 [o] := kk22.wr W25 (Or.inl (List.mem_of_getElem? (i := 0) rfl))
  show own_Go p.tables e below RR (T25.setTop (mkF m 29 #[.val (.ref o), .val (.ref at_), .val (.int (3 : Int32)), .unset, .unset, .unset, .unset] []))
  refine own_st (fun _ k => XS.aloadN X25.here hx rfl (hb hby own_dprog_21_method_1_code_29) rfl rfl (XS.iloadN X25.here hx rfl (hb hby own_dprog_21_method_1_code_30) rfl k)) ?_
  show own_Go p.tables e below RR (T25.setTop (mkF m 31 #[.val (.ref o), .val (.ref at_), .val (.int (3 : Int32)), .unset, .unset, .unset, .unset] [(.int (3 : Int32)), (.ref o)]))
  obtain ⟨T28, h28, k28, X28, e28, E28, A28, st28⟩ := newP X25 hx hZ (hw _ (List.mem_of_getElem? (i := 19) rfl)) e25 (g := (mkF m 31 #[.val (.ref o), .val (.ref at_), .val (.int (3 : Int32)), .unset, .unset, .unset, .unset] [(.int (3 : Int32)), (.ref o)])) rfl (hb hby own_dprog_21_method_1_code_31) rfl (by decide) (cap := 3) (by decide) (by decide) (by decide) (by decide)
  obtain ⟨b28, gb28⟩ : ∃ z, z = h25.size := ⟨_, rfl⟩
  rw [← gb28] at A28 st28
  have ge28 : n0 ≤ b28 := Nat.le_trans z26 (Nat.le_of_eq gb28.symm)
  have sz28 : h0.size ≤ b28 := Nat.le_trans kk27.1 (Nat.le_of_eq gb28.symm)
  refine own_st st28 ?_
  have z29 : n0 ≤ h28.size := Nat.le_trans z26 E28.1
  have kk30 : Keep h0 h28 [o] := kk27.ext E28
  have V28 : Arv Z h28 b28 k28 .int (3 : Int32) [(.int (0 : Int32)), (.int (0 : Int32)), (.int (0 : Int32))] (.int (0 : Int32)) := (Arv.new A28 (by decide)).pad (pad_rep [] (.int (0 : Int32)) 3)
  show own_Go p.tables e below RR (T28.setTop (mkF m 33 #[.val (.ref o), .val (.ref at_), .val (.int (3 : Int32)), .unset, .unset, .unset, .unset] [(.ref b28), (.ref o)]))
  have f31 := (((((((F_shiftOf.ext E2).other W7 (Or.inr (slot_ne (Or.inr (hw _ (List.mem_of_getElem? (i := 25) rfl))) (Or.inl (hw _ (List.mem_of_getElem? (i := 18) rfl))) (by decide) (t := (.array .int)) (t' := (.array (.array .long))) (by decide) (by decide)))).ext E12).other W17 (Or.inr (slot_ne (Or.inr (hw _ (List.mem_of_getElem? (i := 25) rfl))) (Or.inr (hw _ (List.mem_of_getElem? (i := 21) rfl))) (by decide) (t := (.array .int)) (t' := (.array .int)) (by decide) (by decide)))).ext E20).other W25 (Or.inr (slot_ne (Or.inr (hw _ (List.mem_of_getElem? (i := 25) rfl))) (Or.inr (hw _ (List.mem_of_getElem? (i := 23) rfl))) (by decide) (t := (.array .int)) (t' := (.array .int)) (by decide) (by decide)))).ext E28)
  have f32 := ((f24.wr W25).ext E28)
  obtain ⟨T33, h33, X33, e33, W33, st33⟩ := putF X28 hx hZ hown (host := "") (Or.inl (hw _ (List.mem_of_getElem? (i := 24) rfl))) Via.refl e28 f31 f32 (Or.inr ⟨(hw _ (List.mem_of_getElem? (i := 25) rfl)), rfl, hnm⟩) (hw _ (List.mem_of_getElem? (i := 7) rfl)) (ty := (.array .int)) (by decide) rfl rfl (g := (mkF m 33 #[.val (.ref o), .val (.ref at_), .val (.int (3 : Int32)), .unset, .unset, .unset, .unset] [(.ref b28), (.ref o)])) rfl rfl (hb hby own_dprog_21_method_1_code_33)
  have Fw33 := f31.same W33
  have N33 := Fr.snoc X33 N25 g_o
  refine own_st st33 ?_
  have z34 : n0 ≤ h33.size := Nat.le_trans z29 (Keep.of_wr W33).1
  have kk35 : Keep h0 h33 [o] := kk30.wr W33 (Or.inl (List.mem_of_getElem? (i := 0) rfl))
  show own_Go p.tables e below RR (T33.setTop (mkF m 36 #[.val (.ref o), .val (.ref at_), .val (.int (3 : Int32)), .unset, .unset, .unset, .unset] []))
  refine own_st (fun _ k => XS.aloadN X33.here hx rfl (hb hby own_dprog_21_method_1_code_36) rfl rfl (XS.iloadN X33.here hx rfl (hb hby own_dprog_21_method_1_code_37) rfl k)) ?_
  show own_Go p.tables e below RR (T33.setTop (mkF m 38 #[.val (.ref o), .val (.ref at_), .val (.int (3 : Int32)), .unset, .unset, .unset, .unset] [(.int (3 : Int32)), (.ref o)]))
  obtain ⟨T36, h36, k36, X36, e36, E36, A36, st36⟩ := newP X33 hx hZ (hw _ (List.mem_of_getElem? (i := 0) rfl)) e33 (g := (mkF m 38 #[.val (.ref o), .val (.ref at_), .val (.int (3 : Int32)), .unset, .unset, .unset, .unset] [(.int (3 : Int32)), (.ref o)])) rfl (hb hby own_dprog_21_method_1_code_38) rfl (by decide) (cap := 3) (by decide) (by decide) (by decide) (by decide)
  obtain ⟨b36, gb36⟩ : ∃ z, z = h33.size := ⟨_, rfl⟩
  rw [← gb36] at A36 st36
  have ge36 : n0 ≤ b36 := Nat.le_trans z34 (Nat.le_of_eq gb36.symm)
  have sz36 : h0.size ≤ b36 := Nat.le_trans kk35.1 (Nat.le_of_eq gb36.symm)
  refine own_st st36 ?_
  have z37 : n0 ≤ h36.size := Nat.le_trans z34 E36.1
  have kk38 : Keep h0 h36 [o] := kk35.ext E36
  have V36 : Arv Z h36 b36 k36 .long (3 : Int32) [(.long (0 : Int64)), (.long (0 : Int64)), (.long (0 : Int64))] (.long (0 : Int64)) := (Arv.new A36 (by decide)).pad (pad_rep [] (.long (0 : Int64)) 3)
  show own_Go p.tables e below RR (T36.setTop (mkF m 40 #[.val (.ref o), .val (.ref at_), .val (.int (3 : Int32)), .unset, .unset, .unset, .unset] [(.ref b36), (.ref o)]))
  have f39 := (((((((((F_maskOf.ext E2).other W7 (Or.inr (slot_ne (Or.inr (hw _ (List.mem_of_getElem? (i := 27) rfl))) (Or.inl (hw _ (List.mem_of_getElem? (i := 18) rfl))) (by decide) (t := (.array .long)) (t' := (.array (.array .long))) (by decide) (by decide)))).ext E12).other W17 (Or.inr (slot_ne (Or.inr (hw _ (List.mem_of_getElem? (i := 27) rfl))) (Or.inr (hw _ (List.mem_of_getElem? (i := 21) rfl))) (by decide) (t := (.array .long)) (t' := (.array .int)) (by decide) (by decide)))).ext E20).other W25 (Or.inr (slot_ne (Or.inr (hw _ (List.mem_of_getElem? (i := 27) rfl))) (Or.inr (hw _ (List.mem_of_getElem? (i := 23) rfl))) (by decide) (t := (.array .long)) (t' := (.array .int)) (by decide) (by decide)))).ext E28).other W33 (Or.inr (slot_ne (Or.inr (hw _ (List.mem_of_getElem? (i := 27) rfl))) (Or.inr (hw _ (List.mem_of_getElem? (i := 25) rfl))) (by decide) (t := (.array .long)) (t' := (.array .int)) (by decide) (by decide)))).ext E36)
  have f40 := ((f32.wr W33).ext E36)
  obtain ⟨T41, h41, X41, e41, W41, st41⟩ := putF X36 hx hZ hown (host := "") (Or.inl (hw _ (List.mem_of_getElem? (i := 26) rfl))) Via.refl e36 f39 f40 (Or.inr ⟨(hw _ (List.mem_of_getElem? (i := 27) rfl)), rfl, hnm⟩) (hw _ (List.mem_of_getElem? (i := 7) rfl)) (ty := (.array .long)) (by decide) rfl rfl (g := (mkF m 40 #[.val (.ref o), .val (.ref at_), .val (.int (3 : Int32)), .unset, .unset, .unset, .unset] [(.ref b36), (.ref o)])) rfl rfl (hb hby own_dprog_21_method_1_code_40)
  have Fw41 := f39.same W41
  have N41 := Fr.snoc X41 N33 g_o
  refine own_st st41 ?_
  have z42 : n0 ≤ h41.size := Nat.le_trans z37 (Keep.of_wr W41).1
  have kk43 : Keep h0 h41 [o] := kk38.wr W41 (Or.inl (List.mem_of_getElem? (i := 0) rfl))
  show own_Go p.tables e below RR (T41.setTop (mkF m 43 #[.val (.ref o), .val (.ref at_), .val (.int (3 : Int32)), .unset, .unset, .unset, .unset] []))
  refine own_st (fun _ k => XS.iconst X41.here hx rfl (hb hby own_dprog_21_method_1_code_43) (XS.istoreN X41.here hx rfl (hb hby own_dprog_21_method_1_code_44) rfl (l' := #[.val (.ref o), .val (.ref at_), .val (.int (3 : Int32)), .val (.int (0 : Int32)), .unset, .unset, .unset]) rfl (XS.iconst X41.here hx rfl (hb hby own_dprog_21_method_1_code_45) (XS.istore X41.here hx rfl (hb hby own_dprog_21_method_1_code_46) rfl (l' := #[.val (.ref o), .val (.ref at_), .val (.int (3 : Int32)), .val (.int (0 : Int32)), .val (.int (0 : Int32)), .unset, .unset]) rfl (XS.iconst X41.here hx rfl (hb hby own_dprog_21_method_1_code_48) (XS.istore X41.here hx rfl (hb hby own_dprog_21_method_1_code_49) rfl (l' := #[.val (.ref o), .val (.ref at_), .val (.int (3 : Int32)), .val (.int (0 : Int32)), .val (.int (0 : Int32)), .val (.int (0 : Int32)), .unset]) rfl (XS.iload X41.here hx rfl (hb hby own_dprog_21_method_1_code_51) rfl (XS.iloadN X41.here hx rfl (hb hby own_dprog_21_method_1_code_53) rfl k)))))))) ?_
  show own_Go p.tables e below RR (T41.setTop (mkF m 54 #[.val (.ref o), .val (.ref at_), .val (.int (3 : Int32)), .val (.int (0 : Int32)), .val (.int (0 : Int32)), .val (.int (0 : Int32)), .unset] [(.int (3 : Int32)), (.int (0 : Int32))]))
  refine own_st (fun _ k => XS.icmpNo X41.here hx rfl (hb hby own_dprog_21_method_1_code_54) rfl (tlt (by decide)).2.1 (XS.aloadN X41.here hx rfl (hb hby own_dprog_21_method_1_code_57) rfl rfl (XS.iload X41.here hx rfl (hb hby own_dprog_21_method_1_code_58) rfl k))) ?_
  show own_Go p.tables e below RR (T41.setTop (mkF m 60 #[.val (.ref o), .val (.ref at_), .val (.int (3 : Int32)), .val (.int (0 : Int32)), .val (.int (0 : Int32)), .val (.int (0 : Int32)), .unset] [(.int (0 : Int32)), (.ref at_)]))
  have f44 := ((((((((f10.ext E12).other W17 (Ne.symm neot)).ext E20).other W25 (Ne.symm neot)).ext E28).other W33 (Ne.symm neot)).ext E36).other W41 (Ne.symm neot))
  obtain ⟨c45, A45, q45, s45, m45, H45, G45⟩ := id f44
  have b45 := inb_of (j := (0 : Int32)) s45 ⟨by decide, by decide⟩
  refine own_st (fun _ k => X41.laload hx (j := (0 : Int32)) (v := (.long t0)) (by rw [e41]; exact A45.1) (State.isArrayOf_alike hZ.alike A45.2.1) A45.2.2 b45 (Has.at H45 b45 rfl) (g := (mkF m 60 #[.val (.ref o), .val (.ref at_), .val (.int (3 : Int32)), .val (.int (0 : Int32)), .val (.int (0 : Int32)), .val (.int (0 : Int32)), .unset] [(.int (0 : Int32)), (.ref at_)])) rfl rfl (hb hby own_dprog_21_method_1_code_60) _ k) ?_
  show own_Go p.tables e below RR (T41.setTop (mkF m 61 #[.val (.ref o), .val (.ref at_), .val (.int (3 : Int32)), .val (.int (0 : Int32)), .val (.int (0 : Int32)), .val (.int (0 : Int32)), .unset] [(.long t0)]))
  obtain ⟨_, _, ⟨T46, L46, k46, n46⟩, -, X46, ⟨Lc46, hQ46, l46, y46, z46⟩, st46⟩ := Jvm.LawKit.callS X41 hx (y := (⟨"com/example/nesiph/nesiph/MarkingSet", "bitsFor", "(J)I"⟩ : MethodName)) hown (mvT hZ (hw _ (List.mem_of_getElem? (i := 28) rfl))) (mvT hZ (hw _ (List.mem_of_getElem? (i := 29) rfl))) (mvT hZ (hw _ (List.mem_of_getElem? (i := 8) rfl))) (mvT hZ (hw _ (List.mem_of_getElem? (i := 30) rfl))) (by decide) (backOf (W := 0) (own_rmBF l Z a0 hw [] t0 w0 h41 n0 z42 hb0) hZ (hw _ (List.mem_of_getElem? (i := 30) rfl)) (hw _ (List.mem_of_getElem? (i := 8) rfl)) (by decide) (by decide)) (g := (mkF m 61 #[.val (.ref o), .val (.ref at_), .val (.int (3 : Int32)), .val (.int (0 : Int32)), .val (.int (0 : Int32)), .val (.int (0 : Int32)), .unset] [(.long t0)])) rfl (by rw [hml]; rfl) (argsL := [(.long t0)]) (rest := []) (lenOf own_pd__J_I rfl) rfl (by show 2 * 0 + _ ≤ _; exact Nat.le_of_eq rfl) (hb hby own_dprog_21_method_1_code_61) (fun _ _ => ⟨rfl, e41, (by decide : 5 + 0 ≤ _), (by decide : 13 + 0 ≤ _)⟩)
  dsimp only [Pt.U, Pt.locs, Pt.cells, Pt.slots] at X46 l46 y46 z46 st46 hQ46
  subst l46 y46 z46
  obtain ⟨rfl, Nq46, eq46⟩ := hQ46
  have N46 := Fr.app N41 Nq46
  refine own_st st46 ?_
  show own_Go p.tables e below RR (T46.setTop (mkF m 64 #[.val (.ref o), .val (.ref at_), .val (.int (3 : Int32)), .val (.int (0 : Int32)), .val (.int (0 : Int32)), .val (.int (0 : Int32)), .unset] [(.int w0)]))
  refine own_st (fun _ k => XS.istore X46.here hx rfl (hb hby own_dprog_21_method_1_code_64) rfl (l' := #[.val (.ref o), .val (.ref at_), .val (.int (3 : Int32)), .val (.int (0 : Int32)), .val (.int (0 : Int32)), .val (.int (0 : Int32)), .val (.int w0)]) rfl (XS.iload X46.here hx rfl (hb hby own_dprog_21_method_1_code_66) rfl (XS.iload X46.here hx rfl (hb hby own_dprog_21_method_1_code_68) rfl (XS.iadd X46.here hx rfl (hb hby own_dprog_21_method_1_code_70) rfl k)))) ?_
  show own_Go p.tables e below RR (T46.setTop (mkF m 71 #[.val (.ref o), .val (.ref at_), .val (.int (3 : Int32)), .val (.int (0 : Int32)), .val (.int (0 : Int32)), .val (.int (0 : Int32)), .val (.int w0)] [(.int ((0 : Int32) + w0))]))
  rw [Int32.zero_add]
  show own_Go p.tables e below RR (T46.setTop (mkF m 71 #[.val (.ref o), .val (.ref at_), .val (.int (3 : Int32)), .val (.int (0 : Int32)), .val (.int (0 : Int32)), .val (.int (0 : Int32)), .val (.int w0)] [(.int w0)]))
  refine own_st (fun _ k => XS.bipush X46.here hx rfl (hb hby own_dprog_21_method_1_code_71) k) ?_
  show own_Go p.tables e below RR (T46.setTop (mkF m 73 #[.val (.ref o), .val (.ref at_), .val (.int (3 : Int32)), .val (.int (0 : Int32)), .val (.int (0 : Int32)), .val (.int (0 : Int32)), .val (.int w0)] [(.int (64 : Int32)), (.int w0)]))
  have hc73_47 : ¬ ((64 : Int32) < w0) := own_le64 hw0
  refine own_st (fun _ k => XS.icmpYes X46.here hx rfl (pc0 := 73) (pc' := 82) rfl (hb hby own_dprog_21_method_1_code_73) rfl (flt hc73_47).2.2.2 (by decide) (by decide) (XS.aloadN X46.here hx rfl (hb hby own_dprog_21_method_1_code_82) rfl rfl (XS.iload X46.here hx rfl (hb hby own_dprog_21_method_1_code_83) rfl (XS.iloadN X46.here hx rfl (hb hby own_dprog_21_method_1_code_85) rfl (XS.iload X46.here hx rfl (hb hby own_dprog_21_method_1_code_86) rfl (XS.iload X46.here hx rfl (hb hby own_dprog_21_method_1_code_88) rfl k)))))) ?_
  show own_Go p.tables e below RR (T46.setTop (mkF m 90 #[.val (.ref o), .val (.ref at_), .val (.int (3 : Int32)), .val (.int (0 : Int32)), .val (.int (0 : Int32)), .val (.int (0 : Int32)), .val (.int w0)] [(.int w0), (.int (0 : Int32)), (.int (0 : Int32)), (.int (0 : Int32)), (.ref o)]))
  have f48 := ((((Fw25.ext E28).other W33 (Or.inr (slot_ne (Or.inr (hw _ (List.mem_of_getElem? (i := 23) rfl))) (Or.inr (hw _ (List.mem_of_getElem? (i := 25) rfl))) (by decide) (t := (.array .int)) (t' := (.array .int)) (by decide) (by decide)))).ext E36).other W41 (Or.inr (slot_ne (Or.inr (hw _ (List.mem_of_getElem? (i := 23) rfl))) (Or.inr (hw _ (List.mem_of_getElem? (i := 27) rfl))) (by decide) (t := (.array .int)) (t' := (.array .long)) (by decide) (by decide))))
  have f49 := ((Fw33.ext E36).other W41 (Or.inr (slot_ne (Or.inr (hw _ (List.mem_of_getElem? (i := 25) rfl))) (Or.inr (hw _ (List.mem_of_getElem? (i := 27) rfl))) (by decide) (t := (.array .int)) (t' := (.array .long)) (by decide) (by decide))))
  have f50 := ((((((Fw17.ext E20).other W25 (Or.inr (slot_ne (Or.inr (hw _ (List.mem_of_getElem? (i := 21) rfl))) (Or.inr (hw _ (List.mem_of_getElem? (i := 23) rfl))) (by decide) (t := (.array .int)) (t' := (.array .int)) (by decide) (by decide)))).ext E28).other W33 (Or.inr (slot_ne (Or.inr (hw _ (List.mem_of_getElem? (i := 21) rfl))) (Or.inr (hw _ (List.mem_of_getElem? (i := 25) rfl))) (by decide) (t := (.array .int)) (t' := (.array .int)) (by decide) (by decide)))).ext E36).other W41 (Or.inr (slot_ne (Or.inr (hw _ (List.mem_of_getElem? (i := 21) rfl))) (Or.inr (hw _ (List.mem_of_getElem? (i := 27) rfl))) (by decide) (t := (.array .int)) (t' := (.array .long)) (by decide) (by decide))))
  have ne51 : o ≠ b20 := (Nat.ne_of_lt (Nat.lt_of_lt_of_le (f16.wr W17).lt (Nat.le_of_eq gb20.symm)))
  have f52 := (((((V20.other W25 (Ne.symm ne51)).ext E28).other W33 (Ne.symm ne51)).ext E36).other W41 (Ne.symm ne51))
  have ne53 : o ≠ b28 := (Nat.ne_of_lt (Nat.lt_of_lt_of_le (f24.wr W25).lt (Nat.le_of_eq gb28.symm)))
  have f54 := (((V28.other W33 (Ne.symm ne53)).ext E36).other W41 (Ne.symm ne53))
  have ne55 : o ≠ b12 := (Nat.ne_of_lt (Nat.lt_of_lt_of_le (f6.wr W7).lt (Nat.le_of_eq gb12.symm)))
  have f56 := (((((((V12.other W17 (Ne.symm ne55)).ext E20).other W25 (Ne.symm ne55)).ext E28).other W33 (Ne.symm ne55)).ext E36).other W41 (Ne.symm ne55))
  have ne57 : o ≠ b36 := (Nat.ne_of_lt (Nat.lt_of_lt_of_le (f32.wr W33).lt (Nat.le_of_eq gb36.symm)))
  have f58 := (V36.other W41 (Ne.symm ne57))
  have ne59 : b20 ≠ b28 := (Nat.ne_of_lt (Nat.lt_of_lt_of_le (V20.other W25 (Ne.symm ne51)).lt (Nat.le_of_eq gb28.symm)))
  have ne60 : b12 ≠ b20 := (Nat.ne_of_lt (Nat.lt_of_lt_of_le (V12.other W17 (Ne.symm ne55)).lt (Nat.le_of_eq gb20.symm)))
  have ne61 : b20 ≠ b36 := (Nat.ne_of_lt (Nat.lt_of_lt_of_le (((V20.other W25 (Ne.symm ne51)).ext E28).other W33 (Ne.symm ne51)).lt (Nat.le_of_eq gb36.symm)))
  have ne62 : b12 ≠ b28 := (Nat.ne_of_lt (Nat.lt_of_lt_of_le (((V12.other W17 (Ne.symm ne55)).ext E20).other W25 (Ne.symm ne55)).lt (Nat.le_of_eq gb28.symm)))
  have ne63 : b28 ≠ b36 := (Nat.ne_of_lt (Nat.lt_of_lt_of_le (V28.other W33 (Ne.symm ne53)).lt (Nat.le_of_eq gb36.symm)))
  have ne64 : b12 ≠ b36 := (Nat.ne_of_lt (Nat.lt_of_lt_of_le (((((V12.other W17 (Ne.symm ne55)).ext E20).other W25 (Ne.symm ne55)).ext E28).other W33 (Ne.symm ne55)).lt (Nat.le_of_eq gb36.symm)))
  have f66 := (f40.wr W41)
  obtain ⟨cq65, q65, q65'⟩ := f66.cell
  obtain ⟨_, _, ⟨T65, L65, k65, n65⟩, -, X65, ⟨Lc65, hQ65, l65, y65, z65⟩, st65⟩ := X46.privateBack hx (y := (⟨"com/example/nesiph/nesiph/MarkingSet", "placeField", "(IIII)V"⟩ : MethodName)) hown (mvT hZ (hw _ (List.mem_of_getElem? (i := 44) rfl))) (mvT hZ (hw _ (List.mem_of_getElem? (i := 45) rfl))) (own_selP (mvT hZ (hw _ (List.mem_of_getElem? (i := 7) rfl))) (Cond.privateMethod_at (mvP hZ (hw _ (List.mem_of_getElem? (i := 46) rfl)) (args := #[]))) (mvT hZ (hw _ (List.mem_of_getElem? (i := 45) rfl))) (by decide)) (Cond.privateMethod_at (mvP hZ (hw _ (List.mem_of_getElem? (i := 46) rfl)) (args := #[]))) (mvT hZ (hw _ (List.mem_of_getElem? (i := 47) rfl))) (by decide) (backOf (W := 0) (own_rmPF0 l Z a0 hw [] o (0 : Int32) (0 : Int32) w0 b20 b28 b12 b36 k20 k28 k12 k36 (.int (0 : Int32)) (.int (0 : Int32)) (.int (0 : Int32)) (.int (0 : Int32)) (.int (0 : Int32)) (.int (0 : Int32)) (.int (0 : Int32)) (.int (0 : Int32)) (.int (0 : Int32)) (.long (0 : Int64)) (.long (0 : Int64)) (.long (0 : Int64)) h41 n0 z42 f48 f49 f50 Fw41 f52 f54 f56 f58 ge20 ge28 ge12 ge36 ne51 ne53 ne55 ne57 ne59 (Ne.symm ne60) ne61 (Ne.symm ne62) ne63 ne64) hZ (hw _ (List.mem_of_getElem? (i := 47) rfl)) (hw _ (List.mem_of_getElem? (i := 8) rfl)) (by decide) (by decide)) (g := (mkF m 90 #[.val (.ref o), .val (.ref at_), .val (.int (3 : Int32)), .val (.int (0 : Int32)), .val (.int (0 : Int32)), .val (.int (0 : Int32)), .val (.int w0)] [(.int w0), (.int (0 : Int32)), (.int (0 : Int32)), (.int (0 : Int32)), (.ref o)])) rfl (by rw [hml]; rfl) (Steps.refl _) (a := o) (by rw [eq46]; exact q65) q65' (argsL := [(.int (0 : Int32)), (.int (0 : Int32)), (.int (0 : Int32)), (.int w0)]) (rest := []) (lenOf own_pd__IIII_V rfl) rfl (by show 2 * 0 + _ ≤ _; exact Nat.le_of_eq rfl) (hb hby own_dprog_21_method_1_code_90) (fun _ _ => ⟨rfl, eq46, (by decide : 5 + 0 ≤ _), (by decide : 13 + 0 ≤ _)⟩)
  dsimp only [Pt.U, Pt.locs, Pt.cells, Pt.slots] at X65 l65 y65 z65 st65 hQ65
  subst l65 y65 z65
  obtain ⟨rfl, Nq65, Kq65, Vq0_65, Vq1_65, Vq2_65, Vq3_65⟩ := hQ65
  have N65 := Fr.app N46 Nq65
  refine own_st (fun _ k => st65.trans k) ?_
  have z67 : n0 ≤ T65.heap.size := Nat.le_trans z42 Kq65.1
  have kk68 : Keep h0 T65.heap [o] := kk43.trans Kq65 (allS (Or.inr sz20) (allS (Or.inr sz28) (allS (Or.inr sz12) (allS (Or.inr sz36) all0))))
  show own_Go p.tables e below RR (T65.setTop (mkF m 93 #[.val (.ref o), .val (.ref at_), .val (.int (3 : Int32)), .val (.int (0 : Int32)), .val (.int (0 : Int32)), .val (.int (0 : Int32)), .val (.int w0)] []))
  refine own_st (fun _ k => XS.iload X65.here hx rfl (hb hby own_dprog_21_method_1_code_93) rfl (XS.iload X65.here hx rfl (hb hby own_dprog_21_method_1_code_95) rfl (XS.iadd X65.here hx rfl (hb hby own_dprog_21_method_1_code_97) rfl k))) ?_
  show own_Go p.tables e below RR (T65.setTop (mkF m 98 #[.val (.ref o), .val (.ref at_), .val (.int (3 : Int32)), .val (.int (0 : Int32)), .val (.int (0 : Int32)), .val (.int (0 : Int32)), .val (.int w0)] [(.int ((0 : Int32) + w0))]))
  rw [Int32.zero_add]
  show own_Go p.tables e below RR (T65.setTop (mkF m 98 #[.val (.ref o), .val (.ref at_), .val (.int (3 : Int32)), .val (.int (0 : Int32)), .val (.int (0 : Int32)), .val (.int (0 : Int32)), .val (.int w0)] [(.int w0)]))
  refine own_st (fun _ k => XS.istore X65.here hx rfl (hb hby own_dprog_21_method_1_code_98) rfl (l' := #[.val (.ref o), .val (.ref at_), .val (.int (3 : Int32)), .val (.int (0 : Int32)), .val (.int w0), .val (.int (0 : Int32)), .val (.int w0)]) rfl (XS.iinc X65.here hx rfl (hb hby own_dprog_21_method_1_code_100) rfl (l' := #[.val (.ref o), .val (.ref at_), .val (.int (3 : Int32)), .val (.int (0 : Int32)), .val (.int w0), .val (.int (1 : Int32)), .val (.int w0)]) rfl (XS.goto X65.here hx rfl (pc0 := 103) (pc' := 51) rfl (hb hby own_dprog_21_method_1_code_103) (by decide) (by decide) (XS.iload X65.here hx rfl (hb hby own_dprog_21_method_1_code_51) rfl (XS.iloadN X65.here hx rfl (hb hby own_dprog_21_method_1_code_53) rfl k))))) ?_
  show own_Go p.tables e below RR (T65.setTop (mkF m 54 #[.val (.ref o), .val (.ref at_), .val (.int (3 : Int32)), .val (.int (0 : Int32)), .val (.int w0), .val (.int (1 : Int32)), .val (.int w0)] [(.int (3 : Int32)), (.int (1 : Int32))]))
  refine own_st (fun _ k => XS.icmpNo X65.here hx rfl (hb hby own_dprog_21_method_1_code_54) rfl (tlt (by decide)).2.1 (XS.aloadN X65.here hx rfl (hb hby own_dprog_21_method_1_code_57) rfl rfl (XS.iload X65.here hx rfl (hb hby own_dprog_21_method_1_code_58) rfl k))) ?_
  show own_Go p.tables e below RR (T65.setTop (mkF m 60 #[.val (.ref o), .val (.ref at_), .val (.int (3 : Int32)), .val (.int (0 : Int32)), .val (.int w0), .val (.int (1 : Int32)), .val (.int w0)] [(.int (1 : Int32)), (.ref at_)]))
  have ne69 : at_ ≠ b36 := (Nat.ne_of_lt (Nat.lt_of_lt_of_le ((((((f10.ext E12).other W17 (Ne.symm neot)).ext E20).other W25 (Ne.symm neot)).ext E28).other W33 (Ne.symm neot)).lt (Nat.le_of_eq gb36.symm)))
  have ne70 : at_ ≠ b12 := (Nat.ne_of_lt (Nat.lt_of_lt_of_le f10.lt (Nat.le_of_eq gb12.symm)))
  have ne71 : at_ ≠ b28 := (Nat.ne_of_lt (Nat.lt_of_lt_of_le ((((f10.ext E12).other W17 (Ne.symm neot)).ext E20).other W25 (Ne.symm neot)).lt (Nat.le_of_eq gb28.symm)))
  have ne72 : at_ ≠ b20 := (Nat.ne_of_lt (Nat.lt_of_lt_of_le ((f10.ext E12).other W17 (Ne.symm neot)).lt (Nat.le_of_eq gb20.symm)))
  have f73 := (f44.keep Kq65 (ninS ne72 (ninS ne71 (ninS ne70 (ninS ne69 nin0)))))
  obtain ⟨c74, A74, q74, s74, m74, H74, G74⟩ := id f73
  have b74 := inb_of (j := (1 : Int32)) s74 ⟨by decide, by decide⟩
  refine own_st (fun _ k => X65.laload hx (j := (1 : Int32)) (v := (.long t1)) (by exact A74.1) (State.isArrayOf_alike hZ.alike A74.2.1) A74.2.2 b74 (Has.at H74 b74 rfl) (g := (mkF m 60 #[.val (.ref o), .val (.ref at_), .val (.int (3 : Int32)), .val (.int (0 : Int32)), .val (.int w0), .val (.int (1 : Int32)), .val (.int w0)] [(.int (1 : Int32)), (.ref at_)])) rfl rfl (hb hby own_dprog_21_method_1_code_60) _ k) ?_
  show own_Go p.tables e below RR (T65.setTop (mkF m 61 #[.val (.ref o), .val (.ref at_), .val (.int (3 : Int32)), .val (.int (0 : Int32)), .val (.int w0), .val (.int (1 : Int32)), .val (.int w0)] [(.long t1)]))
  obtain ⟨_, _, ⟨T75, L75, k75, n75⟩, -, X75, ⟨Lc75, hQ75, l75, y75, z75⟩, st75⟩ := Jvm.LawKit.callS X65 hx (y := (⟨"com/example/nesiph/nesiph/MarkingSet", "bitsFor", "(J)I"⟩ : MethodName)) hown (mvT hZ (hw _ (List.mem_of_getElem? (i := 28) rfl))) (mvT hZ (hw _ (List.mem_of_getElem? (i := 29) rfl))) (mvT hZ (hw _ (List.mem_of_getElem? (i := 8) rfl))) (mvT hZ (hw _ (List.mem_of_getElem? (i := 30) rfl))) (by decide) (backOf (W := 0) (own_rmBF l Z a0 hw [] t1 w1 T65.heap n0 z67 hb1) hZ (hw _ (List.mem_of_getElem? (i := 30) rfl)) (hw _ (List.mem_of_getElem? (i := 8) rfl)) (by decide) (by decide)) (g := (mkF m 61 #[.val (.ref o), .val (.ref at_), .val (.int (3 : Int32)), .val (.int (0 : Int32)), .val (.int w0), .val (.int (1 : Int32)), .val (.int w0)] [(.long t1)])) rfl (by rw [hml]; rfl) (argsL := [(.long t1)]) (rest := []) (lenOf own_pd__J_I rfl) rfl (by show 2 * 0 + _ ≤ _; exact Nat.le_of_eq rfl) (hb hby own_dprog_21_method_1_code_61) (fun _ _ => ⟨rfl, rfl, (by decide : 5 + 0 ≤ _), (by decide : 13 + 0 ≤ _)⟩)
  dsimp only [Pt.U, Pt.locs, Pt.cells, Pt.slots] at X75 l75 y75 z75 st75 hQ75
  subst l75 y75 z75
  obtain ⟨rfl, Nq75, eq75⟩ := hQ75
  have N75 := Fr.app N65 Nq75
  refine own_st st75 ?_
  show own_Go p.tables e below RR (T75.setTop (mkF m 64 #[.val (.ref o), .val (.ref at_), .val (.int (3 : Int32)), .val (.int (0 : Int32)), .val (.int w0), .val (.int (1 : Int32)), .val (.int w0)] [(.int w1)]))
  refine own_st (fun _ k => XS.istore X75.here hx rfl (hb hby own_dprog_21_method_1_code_64) rfl (l' := #[.val (.ref o), .val (.ref at_), .val (.int (3 : Int32)), .val (.int (0 : Int32)), .val (.int w0), .val (.int (1 : Int32)), .val (.int w1)]) rfl (XS.iload X75.here hx rfl (hb hby own_dprog_21_method_1_code_66) rfl (XS.iload X75.here hx rfl (hb hby own_dprog_21_method_1_code_68) rfl (XS.iadd X75.here hx rfl (hb hby own_dprog_21_method_1_code_70) rfl (XS.bipush X75.here hx rfl (hb hby own_dprog_21_method_1_code_71) k))))) ?_
  show own_Go p.tables e below RR (T75.setTop (mkF m 73 #[.val (.ref o), .val (.ref at_), .val (.int (3 : Int32)), .val (.int (0 : Int32)), .val (.int w0), .val (.int (1 : Int32)), .val (.int w1)] [(.int (64 : Int32)), (.int (w0 + w1))]))
  by_cases hc73_76 : (64 : Int32) < (w0 + w1)
  · refine own_st (fun _ k => XS.icmpNo X75.here hx rfl (hb hby own_dprog_21_method_1_code_73) rfl (tlt hc73_76).2.2.2 (XS.iinc X75.here hx rfl (hb hby own_dprog_21_method_1_code_76) rfl (l' := #[.val (.ref o), .val (.ref at_), .val (.int (3 : Int32)), .val (.int (1 : Int32)), .val (.int w0), .val (.int (1 : Int32)), .val (.int w1)]) rfl (XS.iconst X75.here hx rfl (hb hby own_dprog_21_method_1_code_79) (XS.istore X75.here hx rfl (hb hby own_dprog_21_method_1_code_80) rfl (l' := #[.val (.ref o), .val (.ref at_), .val (.int (3 : Int32)), .val (.int (1 : Int32)), .val (.int (0 : Int32)), .val (.int (1 : Int32)), .val (.int w1)]) rfl (XS.aloadN X75.here hx rfl (hb hby own_dprog_21_method_1_code_82) rfl rfl (XS.iload X75.here hx rfl (hb hby own_dprog_21_method_1_code_83) rfl (XS.iloadN X75.here hx rfl (hb hby own_dprog_21_method_1_code_85) rfl (XS.iload X75.here hx rfl (hb hby own_dprog_21_method_1_code_86) rfl k)))))))) ?_
    show own_Go p.tables e below RR (T75.setTop (mkF m 88 #[.val (.ref o), .val (.ref at_), .val (.int (3 : Int32)), .val (.int (1 : Int32)), .val (.int (0 : Int32)), .val (.int (1 : Int32)), .val (.int w1)] [(.int (0 : Int32)), (.int (1 : Int32)), (.int (1 : Int32)), (.ref o)]))
    refine own_st (fun _ k => XS.iload X75.here hx rfl (hb hby own_dprog_21_method_1_code_88) rfl k) ?_
    show own_Go p.tables e below RR (T75.setTop (mkF m 90 #[.val (.ref o), .val (.ref at_), .val (.int (3 : Int32)), .val (.int (1 : Int32)), .val (.int (0 : Int32)), .val (.int (1 : Int32)), .val (.int w1)] [(.int w1), (.int (0 : Int32)), (.int (1 : Int32)), (.int (1 : Int32)), (.ref o)]))
    have f77 := (f48.keep Kq65 (ninS ne51 (ninS ne53 (ninS ne55 (ninS ne57 nin0)))))
    have f78 := (f49.keep Kq65 (ninS ne51 (ninS ne53 (ninS ne55 (ninS ne57 nin0)))))
    have f79 := (f50.keep Kq65 (ninS ne51 (ninS ne53 (ninS ne55 (ninS ne57 nin0)))))
    have f80 := (Fw41.keep Kq65 (ninS ne51 (ninS ne53 (ninS ne55 (ninS ne57 nin0)))))
    have f82 := (f66.keep Kq65)
    obtain ⟨cq81, q81, q81'⟩ := f82.cell
    obtain ⟨_, _, ⟨T81, L81, k81, n81⟩, -, X81, ⟨Lc81, hQ81, l81, y81, z81⟩, st81⟩ := X75.privateBack hx (y := (⟨"com/example/nesiph/nesiph/MarkingSet", "placeField", "(IIII)V"⟩ : MethodName)) hown (mvT hZ (hw _ (List.mem_of_getElem? (i := 44) rfl))) (mvT hZ (hw _ (List.mem_of_getElem? (i := 45) rfl))) (own_selP (mvT hZ (hw _ (List.mem_of_getElem? (i := 7) rfl))) (Cond.privateMethod_at (mvP hZ (hw _ (List.mem_of_getElem? (i := 46) rfl)) (args := #[]))) (mvT hZ (hw _ (List.mem_of_getElem? (i := 45) rfl))) (by decide)) (Cond.privateMethod_at (mvP hZ (hw _ (List.mem_of_getElem? (i := 46) rfl)) (args := #[]))) (mvT hZ (hw _ (List.mem_of_getElem? (i := 47) rfl))) (by decide) (backOf (W := 0) (own_rmPF1 l Z a0 hw [] o (1 : Int32) (0 : Int32) w1 b20 b28 b12 b36 k20 k28 k12 k36 (.int (0 : Int32)) (.int (0 : Int32)) (.int (0 : Int32)) (.int (0 : Int32)) (.int (0 : Int32)) (.int (0 : Int32)) (.int w0) (.int (0 : Int32)) (.int (0 : Int32)) (.long (own_low w0)) (.long (0 : Int64)) (.long (0 : Int64)) T65.heap n0 z67 f77 f78 f79 f80 Vq0_65 Vq1_65 Vq2_65 Vq3_65 ge20 ge28 ge12 ge36 ne51 ne53 ne55 ne57 ne59 (Ne.symm ne60) ne61 (Ne.symm ne62) ne63 ne64) hZ (hw _ (List.mem_of_getElem? (i := 47) rfl)) (hw _ (List.mem_of_getElem? (i := 8) rfl)) (by decide) (by decide)) (g := (mkF m 90 #[.val (.ref o), .val (.ref at_), .val (.int (3 : Int32)), .val (.int (1 : Int32)), .val (.int (0 : Int32)), .val (.int (1 : Int32)), .val (.int w1)] [(.int w1), (.int (0 : Int32)), (.int (1 : Int32)), (.int (1 : Int32)), (.ref o)])) rfl (by rw [hml]; rfl) (Steps.refl _) (a := o) (by rw [eq75]; exact q81) q81' (argsL := [(.int (1 : Int32)), (.int (1 : Int32)), (.int (0 : Int32)), (.int w1)]) (rest := []) (lenOf own_pd__IIII_V rfl) rfl (by show 2 * 0 + _ ≤ _; exact Nat.le_of_eq rfl) (hb hby own_dprog_21_method_1_code_90) (fun _ _ => ⟨rfl, eq75, (by decide : 5 + 0 ≤ _), (by decide : 13 + 0 ≤ _)⟩)
    dsimp only [Pt.U, Pt.locs, Pt.cells, Pt.slots] at X81 l81 y81 z81 st81 hQ81
    subst l81 y81 z81
    obtain ⟨rfl, Nq81, Kq81, Vq0_81, Vq1_81, Vq2_81, Vq3_81⟩ := hQ81
    have N81 := Fr.app N75 Nq81
    refine own_st (fun _ k => st81.trans k) ?_
    have z83 : n0 ≤ T81.heap.size := Nat.le_trans z67 Kq81.1
    have kk84 : Keep h0 T81.heap [o] := kk68.trans Kq81 (allS (Or.inr sz20) (allS (Or.inr sz28) (allS (Or.inr sz12) (allS (Or.inr sz36) all0))))
    show own_Go p.tables e below RR (T81.setTop (mkF m 93 #[.val (.ref o), .val (.ref at_), .val (.int (3 : Int32)), .val (.int (1 : Int32)), .val (.int (0 : Int32)), .val (.int (1 : Int32)), .val (.int w1)] []))
    refine own_st (fun _ k => XS.iload X81.here hx rfl (hb hby own_dprog_21_method_1_code_93) rfl (XS.iload X81.here hx rfl (hb hby own_dprog_21_method_1_code_95) rfl (XS.iadd X81.here hx rfl (hb hby own_dprog_21_method_1_code_97) rfl k))) ?_
    show own_Go p.tables e below RR (T81.setTop (mkF m 98 #[.val (.ref o), .val (.ref at_), .val (.int (3 : Int32)), .val (.int (1 : Int32)), .val (.int (0 : Int32)), .val (.int (1 : Int32)), .val (.int w1)] [(.int ((0 : Int32) + w1))]))
    rw [Int32.zero_add]
    show own_Go p.tables e below RR (T81.setTop (mkF m 98 #[.val (.ref o), .val (.ref at_), .val (.int (3 : Int32)), .val (.int (1 : Int32)), .val (.int (0 : Int32)), .val (.int (1 : Int32)), .val (.int w1)] [(.int w1)]))
    refine own_st (fun _ k => XS.istore X81.here hx rfl (hb hby own_dprog_21_method_1_code_98) rfl (l' := #[.val (.ref o), .val (.ref at_), .val (.int (3 : Int32)), .val (.int (1 : Int32)), .val (.int w1), .val (.int (1 : Int32)), .val (.int w1)]) rfl (XS.iinc X81.here hx rfl (hb hby own_dprog_21_method_1_code_100) rfl (l' := #[.val (.ref o), .val (.ref at_), .val (.int (3 : Int32)), .val (.int (1 : Int32)), .val (.int w1), .val (.int (2 : Int32)), .val (.int w1)]) rfl (XS.goto X81.here hx rfl (pc0 := 103) (pc' := 51) rfl (hb hby own_dprog_21_method_1_code_103) (by decide) (by decide) (XS.iload X81.here hx rfl (hb hby own_dprog_21_method_1_code_51) rfl (XS.iloadN X81.here hx rfl (hb hby own_dprog_21_method_1_code_53) rfl k))))) ?_
    show own_Go p.tables e below RR (T81.setTop (mkF m 54 #[.val (.ref o), .val (.ref at_), .val (.int (3 : Int32)), .val (.int (1 : Int32)), .val (.int w1), .val (.int (2 : Int32)), .val (.int w1)] [(.int (3 : Int32)), (.int (2 : Int32))]))
    refine own_st (fun _ k => XS.icmpNo X81.here hx rfl (hb hby own_dprog_21_method_1_code_54) rfl (tlt (by decide)).2.1 (XS.aloadN X81.here hx rfl (hb hby own_dprog_21_method_1_code_57) rfl rfl (XS.iload X81.here hx rfl (hb hby own_dprog_21_method_1_code_58) rfl k))) ?_
    show own_Go p.tables e below RR (T81.setTop (mkF m 60 #[.val (.ref o), .val (.ref at_), .val (.int (3 : Int32)), .val (.int (1 : Int32)), .val (.int w1), .val (.int (2 : Int32)), .val (.int w1)] [(.int (2 : Int32)), (.ref at_)]))
    have f85 := (f73.keep Kq81 (ninS ne72 (ninS ne71 (ninS ne70 (ninS ne69 nin0)))))
    obtain ⟨c86, A86, q86, s86, m86, H86, G86⟩ := id f85
    have b86 := inb_of (j := (2 : Int32)) s86 ⟨by decide, by decide⟩
    refine own_st (fun _ k => X81.laload hx (j := (2 : Int32)) (v := (.long t2)) (by exact A86.1) (State.isArrayOf_alike hZ.alike A86.2.1) A86.2.2 b86 (Has.at H86 b86 rfl) (g := (mkF m 60 #[.val (.ref o), .val (.ref at_), .val (.int (3 : Int32)), .val (.int (1 : Int32)), .val (.int w1), .val (.int (2 : Int32)), .val (.int w1)] [(.int (2 : Int32)), (.ref at_)])) rfl rfl (hb hby own_dprog_21_method_1_code_60) _ k) ?_
    show own_Go p.tables e below RR (T81.setTop (mkF m 61 #[.val (.ref o), .val (.ref at_), .val (.int (3 : Int32)), .val (.int (1 : Int32)), .val (.int w1), .val (.int (2 : Int32)), .val (.int w1)] [(.long t2)]))
    obtain ⟨_, _, ⟨T87, L87, k87, n87⟩, -, X87, ⟨Lc87, hQ87, l87, y87, z87⟩, st87⟩ := Jvm.LawKit.callS X81 hx (y := (⟨"com/example/nesiph/nesiph/MarkingSet", "bitsFor", "(J)I"⟩ : MethodName)) hown (mvT hZ (hw _ (List.mem_of_getElem? (i := 28) rfl))) (mvT hZ (hw _ (List.mem_of_getElem? (i := 29) rfl))) (mvT hZ (hw _ (List.mem_of_getElem? (i := 8) rfl))) (mvT hZ (hw _ (List.mem_of_getElem? (i := 30) rfl))) (by decide) (backOf (W := 0) (own_rmBF l Z a0 hw [] t2 w2 T81.heap n0 z83 hb2) hZ (hw _ (List.mem_of_getElem? (i := 30) rfl)) (hw _ (List.mem_of_getElem? (i := 8) rfl)) (by decide) (by decide)) (g := (mkF m 61 #[.val (.ref o), .val (.ref at_), .val (.int (3 : Int32)), .val (.int (1 : Int32)), .val (.int w1), .val (.int (2 : Int32)), .val (.int w1)] [(.long t2)])) rfl (by rw [hml]; rfl) (argsL := [(.long t2)]) (rest := []) (lenOf own_pd__J_I rfl) rfl (by show 2 * 0 + _ ≤ _; exact Nat.le_of_eq rfl) (hb hby own_dprog_21_method_1_code_61) (fun _ _ => ⟨rfl, rfl, (by decide : 5 + 0 ≤ _), (by decide : 13 + 0 ≤ _)⟩)
    dsimp only [Pt.U, Pt.locs, Pt.cells, Pt.slots] at X87 l87 y87 z87 st87 hQ87
    subst l87 y87 z87
    obtain ⟨rfl, Nq87, eq87⟩ := hQ87
    have N87 := Fr.app N81 Nq87
    refine own_st st87 ?_
    show own_Go p.tables e below RR (T87.setTop (mkF m 64 #[.val (.ref o), .val (.ref at_), .val (.int (3 : Int32)), .val (.int (1 : Int32)), .val (.int w1), .val (.int (2 : Int32)), .val (.int w1)] [(.int w2)]))
    refine own_st (fun _ k => XS.istore X87.here hx rfl (hb hby own_dprog_21_method_1_code_64) rfl (l' := #[.val (.ref o), .val (.ref at_), .val (.int (3 : Int32)), .val (.int (1 : Int32)), .val (.int w1), .val (.int (2 : Int32)), .val (.int w2)]) rfl (XS.iload X87.here hx rfl (hb hby own_dprog_21_method_1_code_66) rfl (XS.iload X87.here hx rfl (hb hby own_dprog_21_method_1_code_68) rfl (XS.iadd X87.here hx rfl (hb hby own_dprog_21_method_1_code_70) rfl (XS.bipush X87.here hx rfl (hb hby own_dprog_21_method_1_code_71) k))))) ?_
    show own_Go p.tables e below RR (T87.setTop (mkF m 73 #[.val (.ref o), .val (.ref at_), .val (.int (3 : Int32)), .val (.int (1 : Int32)), .val (.int w1), .val (.int (2 : Int32)), .val (.int w2)] [(.int (64 : Int32)), (.int (w1 + w2))]))
    by_cases hc73_88 : (64 : Int32) < (w1 + w2)
    · refine own_st (fun _ k => XS.icmpNo X87.here hx rfl (hb hby own_dprog_21_method_1_code_73) rfl (tlt hc73_88).2.2.2 (XS.iinc X87.here hx rfl (hb hby own_dprog_21_method_1_code_76) rfl (l' := #[.val (.ref o), .val (.ref at_), .val (.int (3 : Int32)), .val (.int (2 : Int32)), .val (.int w1), .val (.int (2 : Int32)), .val (.int w2)]) rfl (XS.iconst X87.here hx rfl (hb hby own_dprog_21_method_1_code_79) (XS.istore X87.here hx rfl (hb hby own_dprog_21_method_1_code_80) rfl (l' := #[.val (.ref o), .val (.ref at_), .val (.int (3 : Int32)), .val (.int (2 : Int32)), .val (.int (0 : Int32)), .val (.int (2 : Int32)), .val (.int w2)]) rfl (XS.aloadN X87.here hx rfl (hb hby own_dprog_21_method_1_code_82) rfl rfl (XS.iload X87.here hx rfl (hb hby own_dprog_21_method_1_code_83) rfl (XS.iloadN X87.here hx rfl (hb hby own_dprog_21_method_1_code_85) rfl (XS.iload X87.here hx rfl (hb hby own_dprog_21_method_1_code_86) rfl k)))))))) ?_
      show own_Go p.tables e below RR (T87.setTop (mkF m 88 #[.val (.ref o), .val (.ref at_), .val (.int (3 : Int32)), .val (.int (2 : Int32)), .val (.int (0 : Int32)), .val (.int (2 : Int32)), .val (.int w2)] [(.int (0 : Int32)), (.int (2 : Int32)), (.int (2 : Int32)), (.ref o)]))
      refine own_st (fun _ k => XS.iload X87.here hx rfl (hb hby own_dprog_21_method_1_code_88) rfl k) ?_
      show own_Go p.tables e below RR (T87.setTop (mkF m 90 #[.val (.ref o), .val (.ref at_), .val (.int (3 : Int32)), .val (.int (2 : Int32)), .val (.int (0 : Int32)), .val (.int (2 : Int32)), .val (.int w2)] [(.int w2), (.int (0 : Int32)), (.int (2 : Int32)), (.int (2 : Int32)), (.ref o)]))
      have f89 := (f77.keep Kq81 (ninS ne51 (ninS ne53 (ninS ne55 (ninS ne57 nin0)))))
      have f90 := (f78.keep Kq81 (ninS ne51 (ninS ne53 (ninS ne55 (ninS ne57 nin0)))))
      have f91 := (f79.keep Kq81 (ninS ne51 (ninS ne53 (ninS ne55 (ninS ne57 nin0)))))
      have f92 := (f80.keep Kq81 (ninS ne51 (ninS ne53 (ninS ne55 (ninS ne57 nin0)))))
      have f94 := (f82.keep Kq81)
      obtain ⟨cq93, q93, q93'⟩ := f94.cell
      obtain ⟨_, _, ⟨T93, L93, k93, n93⟩, -, X93, ⟨Lc93, hQ93, l93, y93, z93⟩, st93⟩ := X87.privateBack hx (y := (⟨"com/example/nesiph/nesiph/MarkingSet", "placeField", "(IIII)V"⟩ : MethodName)) hown (mvT hZ (hw _ (List.mem_of_getElem? (i := 44) rfl))) (mvT hZ (hw _ (List.mem_of_getElem? (i := 45) rfl))) (own_selP (mvT hZ (hw _ (List.mem_of_getElem? (i := 7) rfl))) (Cond.privateMethod_at (mvP hZ (hw _ (List.mem_of_getElem? (i := 46) rfl)) (args := #[]))) (mvT hZ (hw _ (List.mem_of_getElem? (i := 45) rfl))) (by decide)) (Cond.privateMethod_at (mvP hZ (hw _ (List.mem_of_getElem? (i := 46) rfl)) (args := #[]))) (mvT hZ (hw _ (List.mem_of_getElem? (i := 47) rfl))) (by decide) (backOf (W := 0) (own_rmPF2 l Z a0 hw [] o (2 : Int32) (0 : Int32) w2 b20 b28 b12 b36 k20 k28 k12 k36 (.int (0 : Int32)) (.int (1 : Int32)) (.int (0 : Int32)) (.int (0 : Int32)) (.int (0 : Int32)) (.int (0 : Int32)) (.int w0) (.int w1) (.int (0 : Int32)) (.long (own_low w0)) (.long (own_low w1)) (.long (0 : Int64)) T81.heap n0 z83 f89 f90 f91 f92 Vq0_81 Vq1_81 Vq2_81 Vq3_81 ge20 ge28 ge12 ge36 ne51 ne53 ne55 ne57 ne59 (Ne.symm ne60) ne61 (Ne.symm ne62) ne63 ne64) hZ (hw _ (List.mem_of_getElem? (i := 47) rfl)) (hw _ (List.mem_of_getElem? (i := 8) rfl)) (by decide) (by decide)) (g := (mkF m 90 #[.val (.ref o), .val (.ref at_), .val (.int (3 : Int32)), .val (.int (2 : Int32)), .val (.int (0 : Int32)), .val (.int (2 : Int32)), .val (.int w2)] [(.int w2), (.int (0 : Int32)), (.int (2 : Int32)), (.int (2 : Int32)), (.ref o)])) rfl (by rw [hml]; rfl) (Steps.refl _) (a := o) (by rw [eq87]; exact q93) q93' (argsL := [(.int (2 : Int32)), (.int (2 : Int32)), (.int (0 : Int32)), (.int w2)]) (rest := []) (lenOf own_pd__IIII_V rfl) rfl (by show 2 * 0 + _ ≤ _; exact Nat.le_of_eq rfl) (hb hby own_dprog_21_method_1_code_90) (fun _ _ => ⟨rfl, eq87, (by decide : 5 + 0 ≤ _), (by decide : 13 + 0 ≤ _)⟩)
      dsimp only [Pt.U, Pt.locs, Pt.cells, Pt.slots] at X93 l93 y93 z93 st93 hQ93
      subst l93 y93 z93
      obtain ⟨rfl, Nq93, Kq93, Vq0_93, Vq1_93, Vq2_93, Vq3_93⟩ := hQ93
      have N93 := Fr.app N87 Nq93
      refine own_st (fun _ k => st93.trans k) ?_
      have z95 : n0 ≤ T93.heap.size := Nat.le_trans z83 Kq93.1
      have kk96 : Keep h0 T93.heap [o] := kk84.trans Kq93 (allS (Or.inr sz20) (allS (Or.inr sz28) (allS (Or.inr sz12) (allS (Or.inr sz36) all0))))
      show own_Go p.tables e below RR (T93.setTop (mkF m 93 #[.val (.ref o), .val (.ref at_), .val (.int (3 : Int32)), .val (.int (2 : Int32)), .val (.int (0 : Int32)), .val (.int (2 : Int32)), .val (.int w2)] []))
      refine own_st (fun _ k => XS.iload X93.here hx rfl (hb hby own_dprog_21_method_1_code_93) rfl (XS.iload X93.here hx rfl (hb hby own_dprog_21_method_1_code_95) rfl (XS.iadd X93.here hx rfl (hb hby own_dprog_21_method_1_code_97) rfl k))) ?_
      show own_Go p.tables e below RR (T93.setTop (mkF m 98 #[.val (.ref o), .val (.ref at_), .val (.int (3 : Int32)), .val (.int (2 : Int32)), .val (.int (0 : Int32)), .val (.int (2 : Int32)), .val (.int w2)] [(.int ((0 : Int32) + w2))]))
      rw [Int32.zero_add]
      show own_Go p.tables e below RR (T93.setTop (mkF m 98 #[.val (.ref o), .val (.ref at_), .val (.int (3 : Int32)), .val (.int (2 : Int32)), .val (.int (0 : Int32)), .val (.int (2 : Int32)), .val (.int w2)] [(.int w2)]))
      refine own_st (fun _ k => XS.istore X93.here hx rfl (hb hby own_dprog_21_method_1_code_98) rfl (l' := #[.val (.ref o), .val (.ref at_), .val (.int (3 : Int32)), .val (.int (2 : Int32)), .val (.int w2), .val (.int (2 : Int32)), .val (.int w2)]) rfl (XS.iinc X93.here hx rfl (hb hby own_dprog_21_method_1_code_100) rfl (l' := #[.val (.ref o), .val (.ref at_), .val (.int (3 : Int32)), .val (.int (2 : Int32)), .val (.int w2), .val (.int (3 : Int32)), .val (.int w2)]) rfl (XS.goto X93.here hx rfl (pc0 := 103) (pc' := 51) rfl (hb hby own_dprog_21_method_1_code_103) (by decide) (by decide) (XS.iload X93.here hx rfl (hb hby own_dprog_21_method_1_code_51) rfl (XS.iloadN X93.here hx rfl (hb hby own_dprog_21_method_1_code_53) rfl k))))) ?_
      show own_Go p.tables e below RR (T93.setTop (mkF m 54 #[.val (.ref o), .val (.ref at_), .val (.int (3 : Int32)), .val (.int (2 : Int32)), .val (.int w2), .val (.int (3 : Int32)), .val (.int w2)] [(.int (3 : Int32)), (.int (3 : Int32))]))
      refine own_st (fun _ k => XS.icmpYes X93.here hx rfl (pc0 := 54) (pc' := 106) rfl (hb hby own_dprog_21_method_1_code_54) rfl (flt (by decide)).2.1 (by decide) (by decide) (XS.aloadN X93.here hx rfl (hb hby own_dprog_21_method_1_code_106) rfl rfl (XS.iloadN X93.here hx rfl (hb hby own_dprog_21_method_1_code_107) rfl (XS.iconst X93.here hx rfl (hb hby own_dprog_21_method_1_code_108) (XS.iadd X93.here hx rfl (hb hby own_dprog_21_method_1_code_109) rfl k))))) ?_
      show own_Go p.tables e below RR (T93.setTop (mkF m 110 #[.val (.ref o), .val (.ref at_), .val (.int (3 : Int32)), .val (.int (2 : Int32)), .val (.int w2), .val (.int (3 : Int32)), .val (.int w2)] [(.int (3 : Int32)), (.ref o)]))
      have f97 := (((((((((((((F_wc.ext E2).other W7 (Or.inr (slot_ne (Or.inl (hw _ (List.mem_of_getElem? (i := 52) rfl))) (Or.inl (hw _ (List.mem_of_getElem? (i := 18) rfl))) (by decide) (t := .int) (t' := (.array (.array .long))) (by decide) (by decide)))).ext E12).other W17 (Or.inr (slot_ne (Or.inl (hw _ (List.mem_of_getElem? (i := 52) rfl))) (Or.inr (hw _ (List.mem_of_getElem? (i := 21) rfl))) (by decide) (t := .int) (t' := (.array .int)) (by decide) (by decide)))).ext E20).other W25 (Or.inr (slot_ne (Or.inl (hw _ (List.mem_of_getElem? (i := 52) rfl))) (Or.inr (hw _ (List.mem_of_getElem? (i := 23) rfl))) (by decide) (t := .int) (t' := (.array .int)) (by decide) (by decide)))).ext E28).other W33 (Or.inr (slot_ne (Or.inl (hw _ (List.mem_of_getElem? (i := 52) rfl))) (Or.inr (hw _ (List.mem_of_getElem? (i := 25) rfl))) (by decide) (t := .int) (t' := (.array .int)) (by decide) (by decide)))).ext E36).other W41 (Or.inr (slot_ne (Or.inl (hw _ (List.mem_of_getElem? (i := 52) rfl))) (Or.inr (hw _ (List.mem_of_getElem? (i := 27) rfl))) (by decide) (t := .int) (t' := (.array .long)) (by decide) (by decide)))).keep Kq65 (ninS ne51 (ninS ne53 (ninS ne55 (ninS ne57 nin0))))).keep Kq81 (ninS ne51 (ninS ne53 (ninS ne55 (ninS ne57 nin0))))).keep Kq93 (ninS ne51 (ninS ne53 (ninS ne55 (ninS ne57 nin0)))))
      have f98 := (f94.keep Kq93)
      obtain ⟨T99, h99, X99, e99, W99, st99⟩ := putF X93 hx hZ hown (host := "") (Or.inl (hw _ (List.mem_of_getElem? (i := 51) rfl))) Via.refl rfl f97 f98 (Or.inl (hw _ (List.mem_of_getElem? (i := 52) rfl))) (hw _ (List.mem_of_getElem? (i := 7) rfl)) (ty := .int) (by decide) rfl rfl (g := (mkF m 110 #[.val (.ref o), .val (.ref at_), .val (.int (3 : Int32)), .val (.int (2 : Int32)), .val (.int w2), .val (.int (3 : Int32)), .val (.int w2)] [(.int (3 : Int32)), (.ref o)])) rfl rfl (hb hby own_dprog_21_method_1_code_110)
      have Fw99 := f97.same W99
      have N99 := Fr.snoc X99 N93 g_o
      refine own_st st99 ?_
      have z100 : n0 ≤ h99.size := Nat.le_trans z95 (Keep.of_wr W99).1
      have kk101 : Keep h0 h99 [o] := kk96.wr W99 (Or.inl (List.mem_of_getElem? (i := 0) rfl))
      show own_Go p.tables e below RR (T99.setTop (mkF m 113 #[.val (.ref o), .val (.ref at_), .val (.int (3 : Int32)), .val (.int (2 : Int32)), .val (.int w2), .val (.int (3 : Int32)), .val (.int w2)] []))
      refine own_st (fun _ k => XS.aloadN X99.here hx rfl (hb hby own_dprog_21_method_1_code_113) rfl rfl (XS.bipush X99.here hx rfl (hb hby own_dprog_21_method_1_code_114) k)) ?_
      show own_Go p.tables e below RR (T99.setTop (mkF m 116 #[.val (.ref o), .val (.ref at_), .val (.int (3 : Int32)), .val (.int (2 : Int32)), .val (.int w2), .val (.int (3 : Int32)), .val (.int w2)] [(.int (16 : Int32)), (.ref o)]))
      obtain ⟨T102, h102, k102, X102, e102, E102, A102, st102⟩ := newP X99 hx hZ (hw _ (List.mem_of_getElem? (i := 0) rfl)) e99 (g := (mkF m 116 #[.val (.ref o), .val (.ref at_), .val (.int (3 : Int32)), .val (.int (2 : Int32)), .val (.int w2), .val (.int (3 : Int32)), .val (.int w2)] [(.int (16 : Int32)), (.ref o)])) rfl (hb hby own_dprog_21_method_1_code_116) rfl (by decide) (cap := 16) (by decide) (by decide) (by decide) (by decide)
      obtain ⟨b102, gb102⟩ : ∃ z, z = h99.size := ⟨_, rfl⟩
      rw [← gb102] at A102 st102
      have ge102 : n0 ≤ b102 := Nat.le_trans z100 (Nat.le_of_eq gb102.symm)
      have sz102 : h0.size ≤ b102 := Nat.le_trans kk101.1 (Nat.le_of_eq gb102.symm)
      refine own_st st102 ?_
      have z103 : n0 ≤ h102.size := Nat.le_trans z100 E102.1
      have kk104 : Keep h0 h102 [o] := kk101.ext E102
      have V102 : Arv Z h102 b102 k102 .long (16 : Int32) [(.long (0 : Int64)), (.long (0 : Int64)), (.long (0 : Int64)), (.long (0 : Int64)), (.long (0 : Int64)), (.long (0 : Int64)), (.long (0 : Int64)), (.long (0 : Int64)), (.long (0 : Int64)), (.long (0 : Int64)), (.long (0 : Int64)), (.long (0 : Int64)), (.long (0 : Int64)), (.long (0 : Int64)), (.long (0 : Int64)), (.long (0 : Int64))] (.long (0 : Int64)) := (Arv.new A102 (by decide)).pad (pad_rep [] (.long (0 : Int64)) 16)
      show own_Go p.tables e below RR (T102.setTop (mkF m 118 #[.val (.ref o), .val (.ref at_), .val (.int (3 : Int32)), .val (.int (2 : Int32)), .val (.int w2), .val (.int (3 : Int32)), .val (.int w2)] [(.ref b102), (.ref o)]))
      have f105 := (((((((((((((((F_slots.ext E2).other W7 (Or.inr (slot_ne (Or.inl (hw _ (List.mem_of_getElem? (i := 54) rfl))) (Or.inl (hw _ (List.mem_of_getElem? (i := 18) rfl))) (by decide) (t := (.array .long)) (t' := (.array (.array .long))) (by decide) (by decide)))).ext E12).other W17 (Or.inr (slot_ne (Or.inl (hw _ (List.mem_of_getElem? (i := 54) rfl))) (Or.inr (hw _ (List.mem_of_getElem? (i := 21) rfl))) (by decide) (t := (.array .long)) (t' := (.array .int)) (by decide) (by decide)))).ext E20).other W25 (Or.inr (slot_ne (Or.inl (hw _ (List.mem_of_getElem? (i := 54) rfl))) (Or.inr (hw _ (List.mem_of_getElem? (i := 23) rfl))) (by decide) (t := (.array .long)) (t' := (.array .int)) (by decide) (by decide)))).ext E28).other W33 (Or.inr (slot_ne (Or.inl (hw _ (List.mem_of_getElem? (i := 54) rfl))) (Or.inr (hw _ (List.mem_of_getElem? (i := 25) rfl))) (by decide) (t := (.array .long)) (t' := (.array .int)) (by decide) (by decide)))).ext E36).other W41 (Or.inr (slot_ne (Or.inl (hw _ (List.mem_of_getElem? (i := 54) rfl))) (Or.inr (hw _ (List.mem_of_getElem? (i := 27) rfl))) (by decide) (t := (.array .long)) (t' := (.array .long)) (by decide) (by decide)))).keep Kq65 (ninS ne51 (ninS ne53 (ninS ne55 (ninS ne57 nin0))))).keep Kq81 (ninS ne51 (ninS ne53 (ninS ne55 (ninS ne57 nin0))))).keep Kq93 (ninS ne51 (ninS ne53 (ninS ne55 (ninS ne57 nin0))))).other W99 (Or.inr (slot_ne (Or.inl (hw _ (List.mem_of_getElem? (i := 54) rfl))) (Or.inl (hw _ (List.mem_of_getElem? (i := 52) rfl))) (by decide) (t := (.array .long)) (t' := .int) (by decide) (by decide)))).ext E102)
      have f106 := ((f98.wr W99).ext E102)
      obtain ⟨T107, h107, X107, e107, W107, st107⟩ := putF X102 hx hZ hown (host := "") (Or.inl (hw _ (List.mem_of_getElem? (i := 53) rfl))) Via.refl e102 f105 f106 (Or.inl (hw _ (List.mem_of_getElem? (i := 54) rfl))) (hw _ (List.mem_of_getElem? (i := 7) rfl)) (ty := (.array .long)) (by decide) rfl rfl (g := (mkF m 118 #[.val (.ref o), .val (.ref at_), .val (.int (3 : Int32)), .val (.int (2 : Int32)), .val (.int w2), .val (.int (3 : Int32)), .val (.int w2)] [(.ref b102), (.ref o)])) rfl rfl (hb hby own_dprog_21_method_1_code_118)
      have Fw107 := f105.same W107
      have N107 := Fr.snoc X107 N99 g_o
      refine own_st st107 ?_
      have z108 : n0 ≤ h107.size := Nat.le_trans z103 (Keep.of_wr W107).1
      have kk109 : Keep h0 h107 [o] := kk104.wr W107 (Or.inl (List.mem_of_getElem? (i := 0) rfl))
      show own_Go p.tables e below RR (T107.setTop (mkF m 121 #[.val (.ref o), .val (.ref at_), .val (.int (3 : Int32)), .val (.int (2 : Int32)), .val (.int w2), .val (.int (3 : Int32)), .val (.int w2)] []))
      refine own_st (fun _ k => XS.aloadN X107.here hx rfl (hb hby own_dprog_21_method_1_code_121) rfl rfl k) ?_
      show own_Go p.tables e below RR (T107.setTop (mkF m 122 #[.val (.ref o), .val (.ref at_), .val (.int (3 : Int32)), .val (.int (2 : Int32)), .val (.int w2), .val (.int (3 : Int32)), .val (.int w2)] [(.ref o)]))
      obtain ⟨T110, X110, e110, st110⟩ := getF X107 hx hZ hown (host := "") (Or.inl (hw _ (List.mem_of_getElem? (i := 53) rfl))) Via.refl e107 Fw107 (g := (mkF m 122 #[.val (.ref o), .val (.ref at_), .val (.int (3 : Int32)), .val (.int (2 : Int32)), .val (.int w2), .val (.int (3 : Int32)), .val (.int w2)] [(.ref o)])) rfl rfl (hb hby own_dprog_21_method_1_code_122)
      refine own_st st110 ?_
      show own_Go p.tables e below RR (T110.setTop (mkF m 125 #[.val (.ref o), .val (.ref at_), .val (.int (3 : Int32)), .val (.int (2 : Int32)), .val (.int w2), .val (.int (3 : Int32)), .val (.int w2)] [(.ref b102)]))
      refine own_st (fun _ k => X110.ldc2Long hx hown (mvT hZ (hw _ (List.mem_of_getElem? (i := 55) rfl))) (g := (mkF m 125 #[.val (.ref o), .val (.ref at_), .val (.int (3 : Int32)), .val (.int (2 : Int32)), .val (.int w2), .val (.int (3 : Int32)), .val (.int w2)] [(.ref b102)])) rfl (hb hby own_dprog_21_method_1_code_125) _ k) ?_
      show own_Go p.tables e below RR (T110.setTop (mkF m 128 #[.val (.ref o), .val (.ref at_), .val (.int (3 : Int32)), .val (.int (2 : Int32)), .val (.int w2), .val (.int (3 : Int32)), .val (.int w2)] [(.long (-1 : Int64)), (.ref b102)]))
      have ne111 : o ≠ b102 := (Nat.ne_of_lt (Nat.lt_of_lt_of_le (f98.wr W99).lt (Nat.le_of_eq gb102.symm)))
      have f112 := (V102.other W107 (Ne.symm ne111))
      obtain ⟨_, _, ⟨T113, L113, k113, n113⟩, -, X113, ⟨Lc113, hQ113, l113, y113, z113⟩, st113⟩ := Jvm.LawKit.callS X110 hx (y := (⟨"java/util/Arrays", "fill", "([JJ)V"⟩ : MethodName)) hown (mvT hZ (hw _ (List.mem_of_getElem? (i := 56) rfl))) (mvT hZ (hw _ (List.mem_of_getElem? (i := 57) rfl))) (mvT hZ (hw _ (List.mem_of_getElem? (i := 58) rfl))) (mvT hZ (hw _ (List.mem_of_getElem? (i := 59) rfl))) (by decide) (backOf (W := 0) (own_rmFL l Z a0 hw [] b102 (-1 : Int64) k102 h107 n0 z108 f112 ge102) hZ (hw _ (List.mem_of_getElem? (i := 59) rfl)) (hw _ (List.mem_of_getElem? (i := 58) rfl)) (by decide) (by decide)) (g := (mkF m 128 #[.val (.ref o), .val (.ref at_), .val (.int (3 : Int32)), .val (.int (2 : Int32)), .val (.int w2), .val (.int (3 : Int32)), .val (.int w2)] [(.long (-1 : Int64)), (.ref b102)])) rfl (by rw [hml]; rfl) (argsL := [(.ref b102), (.long (-1 : Int64))]) (rest := []) (lenOf own_pd___JJ_V rfl) rfl (by show 2 * 0 + _ ≤ _; exact Nat.le_of_eq rfl) (hb hby own_dprog_21_method_1_code_128) (fun _ _ => ⟨rfl, e110, (by decide : 6 + 0 ≤ _), (by decide : 29 + 0 ≤ _)⟩)
      dsimp only [Pt.U, Pt.locs, Pt.cells, Pt.slots] at X113 l113 y113 z113 st113 hQ113
      subst l113 y113 z113
      obtain ⟨rfl, Nq113, Kq113⟩ := hQ113
      have N113 := Fr.app N107 Nq113
      refine own_st st113 ?_
      have z114 : n0 ≤ T113.heap.size := Nat.le_trans z108 Kq113.1
      have kk115 : Keep h0 T113.heap [o] := kk109.trans Kq113 (allS (Or.inr sz102) all0)
      show own_Go p.tables e below RR (T113.setTop (mkF m 131 #[.val (.ref o), .val (.ref at_), .val (.int (3 : Int32)), .val (.int (2 : Int32)), .val (.int w2), .val (.int (3 : Int32)), .val (.int w2)] []))
      obtain ⟨fs, hrt_, hrun, hended, hW, hsame⟩ := X113.leave (v := none) (fun _ => rfl)
      refine own_fin (X113.returnOut hx Bd.returns (hb hby own_dprog_21_method_1_code_131) hrt_) (hRR _ ⟨_, hrun, hended, _, _, rfl, ?_, ⟨_, rfl⟩, hW, hsame.mono (by decide) (by decide)⟩)
      show own_QIN Z o at_ kt t0 t1 t2 w0 w1 w2 h0 n0 _ T113.heap _
      have f116 := (((((f89.keep Kq93 (ninS ne51 (ninS ne53 (ninS ne55 (ninS ne57 nin0))))).other W99 (Or.inr (slot_ne (Or.inr (hw _ (List.mem_of_getElem? (i := 23) rfl))) (Or.inl (hw _ (List.mem_of_getElem? (i := 52) rfl))) (by decide) (t := (.array .int)) (t' := .int) (by decide) (by decide)))).ext E102).other W107 (Or.inr (slot_ne (Or.inr (hw _ (List.mem_of_getElem? (i := 23) rfl))) (Or.inl (hw _ (List.mem_of_getElem? (i := 54) rfl))) (by decide) (t := (.array .int)) (t' := (.array .long)) (by decide) (by decide)))).keep Kq113 (ninS ne111 nin0))
      have f117 := (((((f90.keep Kq93 (ninS ne51 (ninS ne53 (ninS ne55 (ninS ne57 nin0))))).other W99 (Or.inr (slot_ne (Or.inr (hw _ (List.mem_of_getElem? (i := 25) rfl))) (Or.inl (hw _ (List.mem_of_getElem? (i := 52) rfl))) (by decide) (t := (.array .int)) (t' := .int) (by decide) (by decide)))).ext E102).other W107 (Or.inr (slot_ne (Or.inr (hw _ (List.mem_of_getElem? (i := 25) rfl))) (Or.inl (hw _ (List.mem_of_getElem? (i := 54) rfl))) (by decide) (t := (.array .int)) (t' := (.array .long)) (by decide) (by decide)))).keep Kq113 (ninS ne111 nin0))
      have f118 := (((((f92.keep Kq93 (ninS ne51 (ninS ne53 (ninS ne55 (ninS ne57 nin0))))).other W99 (Or.inr (slot_ne (Or.inr (hw _ (List.mem_of_getElem? (i := 27) rfl))) (Or.inl (hw _ (List.mem_of_getElem? (i := 52) rfl))) (by decide) (t := (.array .long)) (t' := .int) (by decide) (by decide)))).ext E102).other W107 (Or.inr (slot_ne (Or.inr (hw _ (List.mem_of_getElem? (i := 27) rfl))) (Or.inl (hw _ (List.mem_of_getElem? (i := 54) rfl))) (by decide) (t := (.array .long)) (t' := (.array .long)) (by decide) (by decide)))).keep Kq113 (ninS ne111 nin0))
      have f119 := ((f106.wr W107).keep Kq113)
      have ne120 : b20 ≠ b102 := (Nat.ne_of_lt (Nat.lt_of_lt_of_le (Vq0_93.other W99 (Ne.symm ne51)).lt (Nat.le_of_eq gb102.symm)))
      have f121 := ((((Vq0_93.other W99 (Ne.symm ne51)).ext E102).other W107 (Ne.symm ne51)).keep Kq113 (ninS ne120 nin0))
      have ne122 : b28 ≠ b102 := (Nat.ne_of_lt (Nat.lt_of_lt_of_le (Vq1_93.other W99 (Ne.symm ne53)).lt (Nat.le_of_eq gb102.symm)))
      have f123 := ((((Vq1_93.other W99 (Ne.symm ne53)).ext E102).other W107 (Ne.symm ne53)).keep Kq113 (ninS ne122 nin0))
      have ne124 : b36 ≠ b102 := (Nat.ne_of_lt (Nat.lt_of_lt_of_le (Vq3_93.other W99 (Ne.symm ne57)).lt (Nat.le_of_eq gb102.symm)))
      have f125 := ((((Vq3_93.other W99 (Ne.symm ne57)).ext E102).other W107 (Ne.symm ne57)).keep Kq113 (ninS ne124 nin0))
      exact ⟨rfl, N113, kk115, f119, b20, b28, b36, _, _, _, sz20, sz28, sz36, f116, f117, f118, (by have q := f121; first | (simp only [own_wo1, own_wo2, own_sh1, own_sh2, own_us, hc73_76, hc73_88, if_true, if_false]; exact q) | exact q), (by have q := f123; first | (simp only [own_wo1, own_wo2, own_sh1, own_sh2, own_us, hc73_76, hc73_88, if_true, if_false]; exact q) | exact q), (by have q := f125; first | (simp only [own_wo1, own_wo2, own_sh1, own_sh2, own_us, hc73_76, hc73_88, if_true, if_false]; exact q) | exact q)⟩
    · refine own_st (fun _ k => XS.icmpYes X87.here hx rfl (pc0 := 73) (pc' := 82) rfl (hb hby own_dprog_21_method_1_code_73) rfl (flt hc73_88).2.2.2 (by decide) (by decide) (XS.aloadN X87.here hx rfl (hb hby own_dprog_21_method_1_code_82) rfl rfl (XS.iload X87.here hx rfl (hb hby own_dprog_21_method_1_code_83) rfl (XS.iloadN X87.here hx rfl (hb hby own_dprog_21_method_1_code_85) rfl (XS.iload X87.here hx rfl (hb hby own_dprog_21_method_1_code_86) rfl (XS.iload X87.here hx rfl (hb hby own_dprog_21_method_1_code_88) rfl k)))))) ?_
      show own_Go p.tables e below RR (T87.setTop (mkF m 90 #[.val (.ref o), .val (.ref at_), .val (.int (3 : Int32)), .val (.int (1 : Int32)), .val (.int w1), .val (.int (2 : Int32)), .val (.int w2)] [(.int w2), (.int w1), (.int (1 : Int32)), (.int (2 : Int32)), (.ref o)]))
      have f126 := (f77.keep Kq81 (ninS ne51 (ninS ne53 (ninS ne55 (ninS ne57 nin0)))))
      have f127 := (f78.keep Kq81 (ninS ne51 (ninS ne53 (ninS ne55 (ninS ne57 nin0)))))
      have f128 := (f79.keep Kq81 (ninS ne51 (ninS ne53 (ninS ne55 (ninS ne57 nin0)))))
      have f129 := (f80.keep Kq81 (ninS ne51 (ninS ne53 (ninS ne55 (ninS ne57 nin0)))))
      have f131 := (f82.keep Kq81)
      obtain ⟨cq130, q130, q130'⟩ := f131.cell
      obtain ⟨_, _, ⟨T130, L130, k130, n130⟩, -, X130, ⟨Lc130, hQ130, l130, y130, z130⟩, st130⟩ := X87.privateBack hx (y := (⟨"com/example/nesiph/nesiph/MarkingSet", "placeField", "(IIII)V"⟩ : MethodName)) hown (mvT hZ (hw _ (List.mem_of_getElem? (i := 44) rfl))) (mvT hZ (hw _ (List.mem_of_getElem? (i := 45) rfl))) (own_selP (mvT hZ (hw _ (List.mem_of_getElem? (i := 7) rfl))) (Cond.privateMethod_at (mvP hZ (hw _ (List.mem_of_getElem? (i := 46) rfl)) (args := #[]))) (mvT hZ (hw _ (List.mem_of_getElem? (i := 45) rfl))) (by decide)) (Cond.privateMethod_at (mvP hZ (hw _ (List.mem_of_getElem? (i := 46) rfl)) (args := #[]))) (mvT hZ (hw _ (List.mem_of_getElem? (i := 47) rfl))) (by decide) (backOf (W := 0) (own_rmPF2 l Z a0 hw [] o (1 : Int32) w1 w2 b20 b28 b12 b36 k20 k28 k12 k36 (.int (0 : Int32)) (.int (1 : Int32)) (.int (0 : Int32)) (.int (0 : Int32)) (.int (0 : Int32)) (.int (0 : Int32)) (.int w0) (.int w1) (.int (0 : Int32)) (.long (own_low w0)) (.long (own_low w1)) (.long (0 : Int64)) T81.heap n0 z83 f126 f127 f128 f129 Vq0_81 Vq1_81 Vq2_81 Vq3_81 ge20 ge28 ge12 ge36 ne51 ne53 ne55 ne57 ne59 (Ne.symm ne60) ne61 (Ne.symm ne62) ne63 ne64) hZ (hw _ (List.mem_of_getElem? (i := 47) rfl)) (hw _ (List.mem_of_getElem? (i := 8) rfl)) (by decide) (by decide)) (g := (mkF m 90 #[.val (.ref o), .val (.ref at_), .val (.int (3 : Int32)), .val (.int (1 : Int32)), .val (.int w1), .val (.int (2 : Int32)), .val (.int w2)] [(.int w2), (.int w1), (.int (1 : Int32)), (.int (2 : Int32)), (.ref o)])) rfl (by rw [hml]; rfl) (Steps.refl _) (a := o) (by rw [eq87]; exact q130) q130' (argsL := [(.int (2 : Int32)), (.int (1 : Int32)), (.int w1), (.int w2)]) (rest := []) (lenOf own_pd__IIII_V rfl) rfl (by show 2 * 0 + _ ≤ _; exact Nat.le_of_eq rfl) (hb hby own_dprog_21_method_1_code_90) (fun _ _ => ⟨rfl, eq87, (by decide : 5 + 0 ≤ _), (by decide : 13 + 0 ≤ _)⟩)
      dsimp only [Pt.U, Pt.locs, Pt.cells, Pt.slots] at X130 l130 y130 z130 st130 hQ130
      subst l130 y130 z130
      obtain ⟨rfl, Nq130, Kq130, Vq0_130, Vq1_130, Vq2_130, Vq3_130⟩ := hQ130
      have N130 := Fr.app N87 Nq130
      refine own_st (fun _ k => st130.trans k) ?_
      have z132 : n0 ≤ T130.heap.size := Nat.le_trans z83 Kq130.1
      have kk133 : Keep h0 T130.heap [o] := kk84.trans Kq130 (allS (Or.inr sz20) (allS (Or.inr sz28) (allS (Or.inr sz12) (allS (Or.inr sz36) all0))))
      show own_Go p.tables e below RR (T130.setTop (mkF m 93 #[.val (.ref o), .val (.ref at_), .val (.int (3 : Int32)), .val (.int (1 : Int32)), .val (.int w1), .val (.int (2 : Int32)), .val (.int w2)] []))
      refine own_st (fun _ k => XS.iload X130.here hx rfl (hb hby own_dprog_21_method_1_code_93) rfl (XS.iload X130.here hx rfl (hb hby own_dprog_21_method_1_code_95) rfl (XS.iadd X130.here hx rfl (hb hby own_dprog_21_method_1_code_97) rfl (XS.istore X130.here hx rfl (hb hby own_dprog_21_method_1_code_98) rfl (l' := #[.val (.ref o), .val (.ref at_), .val (.int (3 : Int32)), .val (.int (1 : Int32)), .val (.int (w1 + w2)), .val (.int (2 : Int32)), .val (.int w2)]) rfl (XS.iinc X130.here hx rfl (hb hby own_dprog_21_method_1_code_100) rfl (l' := #[.val (.ref o), .val (.ref at_), .val (.int (3 : Int32)), .val (.int (1 : Int32)), .val (.int (w1 + w2)), .val (.int (3 : Int32)), .val (.int w2)]) rfl (XS.goto X130.here hx rfl (pc0 := 103) (pc' := 51) rfl (hb hby own_dprog_21_method_1_code_103) (by decide) (by decide) (XS.iload X130.here hx rfl (hb hby own_dprog_21_method_1_code_51) rfl (XS.iloadN X130.here hx rfl (hb hby own_dprog_21_method_1_code_53) rfl k)))))))) ?_
      show own_Go p.tables e below RR (T130.setTop (mkF m 54 #[.val (.ref o), .val (.ref at_), .val (.int (3 : Int32)), .val (.int (1 : Int32)), .val (.int (w1 + w2)), .val (.int (3 : Int32)), .val (.int w2)] [(.int (3 : Int32)), (.int (3 : Int32))]))
      refine own_st (fun _ k => XS.icmpYes X130.here hx rfl (pc0 := 54) (pc' := 106) rfl (hb hby own_dprog_21_method_1_code_54) rfl (flt (by decide)).2.1 (by decide) (by decide) (XS.aloadN X130.here hx rfl (hb hby own_dprog_21_method_1_code_106) rfl rfl (XS.iloadN X130.here hx rfl (hb hby own_dprog_21_method_1_code_107) rfl (XS.iconst X130.here hx rfl (hb hby own_dprog_21_method_1_code_108) (XS.iadd X130.here hx rfl (hb hby own_dprog_21_method_1_code_109) rfl k))))) ?_
      show own_Go p.tables e below RR (T130.setTop (mkF m 110 #[.val (.ref o), .val (.ref at_), .val (.int (3 : Int32)), .val (.int (1 : Int32)), .val (.int (w1 + w2)), .val (.int (3 : Int32)), .val (.int w2)] [(.int (2 : Int32)), (.ref o)]))
      have f134 := (((((((((((((F_wc.ext E2).other W7 (Or.inr (slot_ne (Or.inl (hw _ (List.mem_of_getElem? (i := 52) rfl))) (Or.inl (hw _ (List.mem_of_getElem? (i := 18) rfl))) (by decide) (t := .int) (t' := (.array (.array .long))) (by decide) (by decide)))).ext E12).other W17 (Or.inr (slot_ne (Or.inl (hw _ (List.mem_of_getElem? (i := 52) rfl))) (Or.inr (hw _ (List.mem_of_getElem? (i := 21) rfl))) (by decide) (t := .int) (t' := (.array .int)) (by decide) (by decide)))).ext E20).other W25 (Or.inr (slot_ne (Or.inl (hw _ (List.mem_of_getElem? (i := 52) rfl))) (Or.inr (hw _ (List.mem_of_getElem? (i := 23) rfl))) (by decide) (t := .int) (t' := (.array .int)) (by decide) (by decide)))).ext E28).other W33 (Or.inr (slot_ne (Or.inl (hw _ (List.mem_of_getElem? (i := 52) rfl))) (Or.inr (hw _ (List.mem_of_getElem? (i := 25) rfl))) (by decide) (t := .int) (t' := (.array .int)) (by decide) (by decide)))).ext E36).other W41 (Or.inr (slot_ne (Or.inl (hw _ (List.mem_of_getElem? (i := 52) rfl))) (Or.inr (hw _ (List.mem_of_getElem? (i := 27) rfl))) (by decide) (t := .int) (t' := (.array .long)) (by decide) (by decide)))).keep Kq65 (ninS ne51 (ninS ne53 (ninS ne55 (ninS ne57 nin0))))).keep Kq81 (ninS ne51 (ninS ne53 (ninS ne55 (ninS ne57 nin0))))).keep Kq130 (ninS ne51 (ninS ne53 (ninS ne55 (ninS ne57 nin0)))))
      have f135 := (f131.keep Kq130)
      obtain ⟨T136, h136, X136, e136, W136, st136⟩ := putF X130 hx hZ hown (host := "") (Or.inl (hw _ (List.mem_of_getElem? (i := 51) rfl))) Via.refl rfl f134 f135 (Or.inl (hw _ (List.mem_of_getElem? (i := 52) rfl))) (hw _ (List.mem_of_getElem? (i := 7) rfl)) (ty := .int) (by decide) rfl rfl (g := (mkF m 110 #[.val (.ref o), .val (.ref at_), .val (.int (3 : Int32)), .val (.int (1 : Int32)), .val (.int (w1 + w2)), .val (.int (3 : Int32)), .val (.int w2)] [(.int (2 : Int32)), (.ref o)])) rfl rfl (hb hby own_dprog_21_method_1_code_110)
      have Fw136 := f134.same W136
      have N136 := Fr.snoc X136 N130 g_o
      refine own_st st136 ?_
      have z137 : n0 ≤ h136.size := Nat.le_trans z132 (Keep.of_wr W136).1
      have kk138 : Keep h0 h136 [o] := kk133.wr W136 (Or.inl (List.mem_of_getElem? (i := 0) rfl))
      show own_Go p.tables e below RR (T136.setTop (mkF m 113 #[.val (.ref o), .val (.ref at_), .val (.int (3 : Int32)), .val (.int (1 : Int32)), .val (.int (w1 + w2)), .val (.int (3 : Int32)), .val (.int w2)] []))
      refine own_st (fun _ k => XS.aloadN X136.here hx rfl (hb hby own_dprog_21_method_1_code_113) rfl rfl (XS.bipush X136.here hx rfl (hb hby own_dprog_21_method_1_code_114) k)) ?_
      show own_Go p.tables e below RR (T136.setTop (mkF m 116 #[.val (.ref o), .val (.ref at_), .val (.int (3 : Int32)), .val (.int (1 : Int32)), .val (.int (w1 + w2)), .val (.int (3 : Int32)), .val (.int w2)] [(.int (16 : Int32)), (.ref o)]))
      obtain ⟨T139, h139, k139, X139, e139, E139, A139, st139⟩ := newP X136 hx hZ (hw _ (List.mem_of_getElem? (i := 0) rfl)) e136 (g := (mkF m 116 #[.val (.ref o), .val (.ref at_), .val (.int (3 : Int32)), .val (.int (1 : Int32)), .val (.int (w1 + w2)), .val (.int (3 : Int32)), .val (.int w2)] [(.int (16 : Int32)), (.ref o)])) rfl (hb hby own_dprog_21_method_1_code_116) rfl (by decide) (cap := 16) (by decide) (by decide) (by decide) (by decide)
      obtain ⟨b139, gb139⟩ : ∃ z, z = h136.size := ⟨_, rfl⟩
      rw [← gb139] at A139 st139
      have ge139 : n0 ≤ b139 := Nat.le_trans z137 (Nat.le_of_eq gb139.symm)
      have sz139 : h0.size ≤ b139 := Nat.le_trans kk138.1 (Nat.le_of_eq gb139.symm)
      refine own_st st139 ?_
      have z140 : n0 ≤ h139.size := Nat.le_trans z137 E139.1
      have kk141 : Keep h0 h139 [o] := kk138.ext E139
      have V139 : Arv Z h139 b139 k139 .long (16 : Int32) [(.long (0 : Int64)), (.long (0 : Int64)), (.long (0 : Int64)), (.long (0 : Int64)), (.long (0 : Int64)), (.long (0 : Int64)), (.long (0 : Int64)), (.long (0 : Int64)), (.long (0 : Int64)), (.long (0 : Int64)), (.long (0 : Int64)), (.long (0 : Int64)), (.long (0 : Int64)), (.long (0 : Int64)), (.long (0 : Int64)), (.long (0 : Int64))] (.long (0 : Int64)) := (Arv.new A139 (by decide)).pad (pad_rep [] (.long (0 : Int64)) 16)
      show own_Go p.tables e below RR (T139.setTop (mkF m 118 #[.val (.ref o), .val (.ref at_), .val (.int (3 : Int32)), .val (.int (1 : Int32)), .val (.int (w1 + w2)), .val (.int (3 : Int32)), .val (.int w2)] [(.ref b139), (.ref o)]))
      have f142 := (((((((((((((((F_slots.ext E2).other W7 (Or.inr (slot_ne (Or.inl (hw _ (List.mem_of_getElem? (i := 54) rfl))) (Or.inl (hw _ (List.mem_of_getElem? (i := 18) rfl))) (by decide) (t := (.array .long)) (t' := (.array (.array .long))) (by decide) (by decide)))).ext E12).other W17 (Or.inr (slot_ne (Or.inl (hw _ (List.mem_of_getElem? (i := 54) rfl))) (Or.inr (hw _ (List.mem_of_getElem? (i := 21) rfl))) (by decide) (t := (.array .long)) (t' := (.array .int)) (by decide) (by decide)))).ext E20).other W25 (Or.inr (slot_ne (Or.inl (hw _ (List.mem_of_getElem? (i := 54) rfl))) (Or.inr (hw _ (List.mem_of_getElem? (i := 23) rfl))) (by decide) (t := (.array .long)) (t' := (.array .int)) (by decide) (by decide)))).ext E28).other W33 (Or.inr (slot_ne (Or.inl (hw _ (List.mem_of_getElem? (i := 54) rfl))) (Or.inr (hw _ (List.mem_of_getElem? (i := 25) rfl))) (by decide) (t := (.array .long)) (t' := (.array .int)) (by decide) (by decide)))).ext E36).other W41 (Or.inr (slot_ne (Or.inl (hw _ (List.mem_of_getElem? (i := 54) rfl))) (Or.inr (hw _ (List.mem_of_getElem? (i := 27) rfl))) (by decide) (t := (.array .long)) (t' := (.array .long)) (by decide) (by decide)))).keep Kq65 (ninS ne51 (ninS ne53 (ninS ne55 (ninS ne57 nin0))))).keep Kq81 (ninS ne51 (ninS ne53 (ninS ne55 (ninS ne57 nin0))))).keep Kq130 (ninS ne51 (ninS ne53 (ninS ne55 (ninS ne57 nin0))))).other W136 (Or.inr (slot_ne (Or.inl (hw _ (List.mem_of_getElem? (i := 54) rfl))) (Or.inl (hw _ (List.mem_of_getElem? (i := 52) rfl))) (by decide) (t := (.array .long)) (t' := .int) (by decide) (by decide)))).ext E139)
      have f143 := ((f135.wr W136).ext E139)
      obtain ⟨T144, h144, X144, e144, W144, st144⟩ := putF X139 hx hZ hown (host := "") (Or.inl (hw _ (List.mem_of_getElem? (i := 53) rfl))) Via.refl e139 f142 f143 (Or.inl (hw _ (List.mem_of_getElem? (i := 54) rfl))) (hw _ (List.mem_of_getElem? (i := 7) rfl)) (ty := (.array .long)) (by decide) rfl rfl (g := (mkF m 118 #[.val (.ref o), .val (.ref at_), .val (.int (3 : Int32)), .val (.int (1 : Int32)), .val (.int (w1 + w2)), .val (.int (3 : Int32)), .val (.int w2)] [(.ref b139), (.ref o)])) rfl rfl (hb hby own_dprog_21_method_1_code_118)
      have Fw144 := f142.same W144
      have N144 := Fr.snoc X144 N136 g_o
      refine own_st st144 ?_
      have z145 : n0 ≤ h144.size := Nat.le_trans z140 (Keep.of_wr W144).1
      have kk146 : Keep h0 h144 [o] := kk141.wr W144 (Or.inl (List.mem_of_getElem? (i := 0) rfl))
      show own_Go p.tables e below RR (T144.setTop (mkF m 121 #[.val (.ref o), .val (.ref at_), .val (.int (3 : Int32)), .val (.int (1 : Int32)), .val (.int (w1 + w2)), .val (.int (3 : Int32)), .val (.int w2)] []))
      refine own_st (fun _ k => XS.aloadN X144.here hx rfl (hb hby own_dprog_21_method_1_code_121) rfl rfl k) ?_
      show own_Go p.tables e below RR (T144.setTop (mkF m 122 #[.val (.ref o), .val (.ref at_), .val (.int (3 : Int32)), .val (.int (1 : Int32)), .val (.int (w1 + w2)), .val (.int (3 : Int32)), .val (.int w2)] [(.ref o)]))
      obtain ⟨T147, X147, e147, st147⟩ := getF X144 hx hZ hown (host := "") (Or.inl (hw _ (List.mem_of_getElem? (i := 53) rfl))) Via.refl e144 Fw144 (g := (mkF m 122 #[.val (.ref o), .val (.ref at_), .val (.int (3 : Int32)), .val (.int (1 : Int32)), .val (.int (w1 + w2)), .val (.int (3 : Int32)), .val (.int w2)] [(.ref o)])) rfl rfl (hb hby own_dprog_21_method_1_code_122)
      refine own_st st147 ?_
      show own_Go p.tables e below RR (T147.setTop (mkF m 125 #[.val (.ref o), .val (.ref at_), .val (.int (3 : Int32)), .val (.int (1 : Int32)), .val (.int (w1 + w2)), .val (.int (3 : Int32)), .val (.int w2)] [(.ref b139)]))
      refine own_st (fun _ k => X147.ldc2Long hx hown (mvT hZ (hw _ (List.mem_of_getElem? (i := 55) rfl))) (g := (mkF m 125 #[.val (.ref o), .val (.ref at_), .val (.int (3 : Int32)), .val (.int (1 : Int32)), .val (.int (w1 + w2)), .val (.int (3 : Int32)), .val (.int w2)] [(.ref b139)])) rfl (hb hby own_dprog_21_method_1_code_125) _ k) ?_
      show own_Go p.tables e below RR (T147.setTop (mkF m 128 #[.val (.ref o), .val (.ref at_), .val (.int (3 : Int32)), .val (.int (1 : Int32)), .val (.int (w1 + w2)), .val (.int (3 : Int32)), .val (.int w2)] [(.long (-1 : Int64)), (.ref b139)]))
      have ne148 : o ≠ b139 := (Nat.ne_of_lt (Nat.lt_of_lt_of_le (f135.wr W136).lt (Nat.le_of_eq gb139.symm)))
      have f149 := (V139.other W144 (Ne.symm ne148))
      obtain ⟨_, _, ⟨T150, L150, k150, n150⟩, -, X150, ⟨Lc150, hQ150, l150, y150, z150⟩, st150⟩ := Jvm.LawKit.callS X147 hx (y := (⟨"java/util/Arrays", "fill", "([JJ)V"⟩ : MethodName)) hown (mvT hZ (hw _ (List.mem_of_getElem? (i := 56) rfl))) (mvT hZ (hw _ (List.mem_of_getElem? (i := 57) rfl))) (mvT hZ (hw _ (List.mem_of_getElem? (i := 58) rfl))) (mvT hZ (hw _ (List.mem_of_getElem? (i := 59) rfl))) (by decide) (backOf (W := 0) (own_rmFL l Z a0 hw [] b139 (-1 : Int64) k139 h144 n0 z145 f149 ge139) hZ (hw _ (List.mem_of_getElem? (i := 59) rfl)) (hw _ (List.mem_of_getElem? (i := 58) rfl)) (by decide) (by decide)) (g := (mkF m 128 #[.val (.ref o), .val (.ref at_), .val (.int (3 : Int32)), .val (.int (1 : Int32)), .val (.int (w1 + w2)), .val (.int (3 : Int32)), .val (.int w2)] [(.long (-1 : Int64)), (.ref b139)])) rfl (by rw [hml]; rfl) (argsL := [(.ref b139), (.long (-1 : Int64))]) (rest := []) (lenOf own_pd___JJ_V rfl) rfl (by show 2 * 0 + _ ≤ _; exact Nat.le_of_eq rfl) (hb hby own_dprog_21_method_1_code_128) (fun _ _ => ⟨rfl, e147, (by decide : 6 + 0 ≤ _), (by decide : 29 + 0 ≤ _)⟩)
      dsimp only [Pt.U, Pt.locs, Pt.cells, Pt.slots] at X150 l150 y150 z150 st150 hQ150
      subst l150 y150 z150
      obtain ⟨rfl, Nq150, Kq150⟩ := hQ150
      have N150 := Fr.app N144 Nq150
      refine own_st st150 ?_
      have z151 : n0 ≤ T150.heap.size := Nat.le_trans z145 Kq150.1
      have kk152 : Keep h0 T150.heap [o] := kk146.trans Kq150 (allS (Or.inr sz139) all0)
      show own_Go p.tables e below RR (T150.setTop (mkF m 131 #[.val (.ref o), .val (.ref at_), .val (.int (3 : Int32)), .val (.int (1 : Int32)), .val (.int (w1 + w2)), .val (.int (3 : Int32)), .val (.int w2)] []))
      obtain ⟨fs, hrt_, hrun, hended, hW, hsame⟩ := X150.leave (v := none) (fun _ => rfl)
      refine own_fin (X150.returnOut hx Bd.returns (hb hby own_dprog_21_method_1_code_131) hrt_) (hRR _ ⟨_, hrun, hended, _, _, rfl, ?_, ⟨_, rfl⟩, hW, hsame.mono (by decide) (by decide)⟩)
      show own_QIN Z o at_ kt t0 t1 t2 w0 w1 w2 h0 n0 _ T150.heap _
      have f153 := (((((f126.keep Kq130 (ninS ne51 (ninS ne53 (ninS ne55 (ninS ne57 nin0))))).other W136 (Or.inr (slot_ne (Or.inr (hw _ (List.mem_of_getElem? (i := 23) rfl))) (Or.inl (hw _ (List.mem_of_getElem? (i := 52) rfl))) (by decide) (t := (.array .int)) (t' := .int) (by decide) (by decide)))).ext E139).other W144 (Or.inr (slot_ne (Or.inr (hw _ (List.mem_of_getElem? (i := 23) rfl))) (Or.inl (hw _ (List.mem_of_getElem? (i := 54) rfl))) (by decide) (t := (.array .int)) (t' := (.array .long)) (by decide) (by decide)))).keep Kq150 (ninS ne148 nin0))
      have f154 := (((((f127.keep Kq130 (ninS ne51 (ninS ne53 (ninS ne55 (ninS ne57 nin0))))).other W136 (Or.inr (slot_ne (Or.inr (hw _ (List.mem_of_getElem? (i := 25) rfl))) (Or.inl (hw _ (List.mem_of_getElem? (i := 52) rfl))) (by decide) (t := (.array .int)) (t' := .int) (by decide) (by decide)))).ext E139).other W144 (Or.inr (slot_ne (Or.inr (hw _ (List.mem_of_getElem? (i := 25) rfl))) (Or.inl (hw _ (List.mem_of_getElem? (i := 54) rfl))) (by decide) (t := (.array .int)) (t' := (.array .long)) (by decide) (by decide)))).keep Kq150 (ninS ne148 nin0))
      have f155 := (((((f129.keep Kq130 (ninS ne51 (ninS ne53 (ninS ne55 (ninS ne57 nin0))))).other W136 (Or.inr (slot_ne (Or.inr (hw _ (List.mem_of_getElem? (i := 27) rfl))) (Or.inl (hw _ (List.mem_of_getElem? (i := 52) rfl))) (by decide) (t := (.array .long)) (t' := .int) (by decide) (by decide)))).ext E139).other W144 (Or.inr (slot_ne (Or.inr (hw _ (List.mem_of_getElem? (i := 27) rfl))) (Or.inl (hw _ (List.mem_of_getElem? (i := 54) rfl))) (by decide) (t := (.array .long)) (t' := (.array .long)) (by decide) (by decide)))).keep Kq150 (ninS ne148 nin0))
      have f156 := ((f143.wr W144).keep Kq150)
      have ne157 : b20 ≠ b139 := (Nat.ne_of_lt (Nat.lt_of_lt_of_le (Vq0_130.other W136 (Ne.symm ne51)).lt (Nat.le_of_eq gb139.symm)))
      have f158 := ((((Vq0_130.other W136 (Ne.symm ne51)).ext E139).other W144 (Ne.symm ne51)).keep Kq150 (ninS ne157 nin0))
      have ne159 : b28 ≠ b139 := (Nat.ne_of_lt (Nat.lt_of_lt_of_le (Vq1_130.other W136 (Ne.symm ne53)).lt (Nat.le_of_eq gb139.symm)))
      have f160 := ((((Vq1_130.other W136 (Ne.symm ne53)).ext E139).other W144 (Ne.symm ne53)).keep Kq150 (ninS ne159 nin0))
      have ne161 : b36 ≠ b139 := (Nat.ne_of_lt (Nat.lt_of_lt_of_le (Vq3_130.other W136 (Ne.symm ne57)).lt (Nat.le_of_eq gb139.symm)))
      have f162 := ((((Vq3_130.other W136 (Ne.symm ne57)).ext E139).other W144 (Ne.symm ne57)).keep Kq150 (ninS ne161 nin0))
      exact ⟨rfl, N150, kk152, f156, b20, b28, b36, _, _, _, sz20, sz28, sz36, f153, f154, f155, (by have q := f158; first | (simp only [own_wo1, own_wo2, own_sh1, own_sh2, own_us, hc73_76, hc73_88, if_true, if_false]; exact q) | exact q), (by have q := f160; first | (simp only [own_wo1, own_wo2, own_sh1, own_sh2, own_us, hc73_76, hc73_88, if_true, if_false]; exact q) | exact q), (by have q := f162; first | (simp only [own_wo1, own_wo2, own_sh1, own_sh2, own_us, hc73_76, hc73_88, if_true, if_false]; exact q) | exact q)⟩
  · refine own_st (fun _ k => XS.icmpYes X75.here hx rfl (pc0 := 73) (pc' := 82) rfl (hb hby own_dprog_21_method_1_code_73) rfl (flt hc73_76).2.2.2 (by decide) (by decide) (XS.aloadN X75.here hx rfl (hb hby own_dprog_21_method_1_code_82) rfl rfl (XS.iload X75.here hx rfl (hb hby own_dprog_21_method_1_code_83) rfl (XS.iloadN X75.here hx rfl (hb hby own_dprog_21_method_1_code_85) rfl (XS.iload X75.here hx rfl (hb hby own_dprog_21_method_1_code_86) rfl (XS.iload X75.here hx rfl (hb hby own_dprog_21_method_1_code_88) rfl k)))))) ?_
    show own_Go p.tables e below RR (T75.setTop (mkF m 90 #[.val (.ref o), .val (.ref at_), .val (.int (3 : Int32)), .val (.int (0 : Int32)), .val (.int w0), .val (.int (1 : Int32)), .val (.int w1)] [(.int w1), (.int w0), (.int (0 : Int32)), (.int (1 : Int32)), (.ref o)]))
    have f163 := (f48.keep Kq65 (ninS ne51 (ninS ne53 (ninS ne55 (ninS ne57 nin0)))))
    have f164 := (f49.keep Kq65 (ninS ne51 (ninS ne53 (ninS ne55 (ninS ne57 nin0)))))
    have f165 := (f50.keep Kq65 (ninS ne51 (ninS ne53 (ninS ne55 (ninS ne57 nin0)))))
    have f166 := (Fw41.keep Kq65 (ninS ne51 (ninS ne53 (ninS ne55 (ninS ne57 nin0)))))
    have f168 := (f66.keep Kq65)
    obtain ⟨cq167, q167, q167'⟩ := f168.cell
    obtain ⟨_, _, ⟨T167, L167, k167, n167⟩, -, X167, ⟨Lc167, hQ167, l167, y167, z167⟩, st167⟩ := X75.privateBack hx (y := (⟨"com/example/nesiph/nesiph/MarkingSet", "placeField", "(IIII)V"⟩ : MethodName)) hown (mvT hZ (hw _ (List.mem_of_getElem? (i := 44) rfl))) (mvT hZ (hw _ (List.mem_of_getElem? (i := 45) rfl))) (own_selP (mvT hZ (hw _ (List.mem_of_getElem? (i := 7) rfl))) (Cond.privateMethod_at (mvP hZ (hw _ (List.mem_of_getElem? (i := 46) rfl)) (args := #[]))) (mvT hZ (hw _ (List.mem_of_getElem? (i := 45) rfl))) (by decide)) (Cond.privateMethod_at (mvP hZ (hw _ (List.mem_of_getElem? (i := 46) rfl)) (args := #[]))) (mvT hZ (hw _ (List.mem_of_getElem? (i := 47) rfl))) (by decide) (backOf (W := 0) (own_rmPF1 l Z a0 hw [] o (0 : Int32) w0 w1 b20 b28 b12 b36 k20 k28 k12 k36 (.int (0 : Int32)) (.int (0 : Int32)) (.int (0 : Int32)) (.int (0 : Int32)) (.int (0 : Int32)) (.int (0 : Int32)) (.int w0) (.int (0 : Int32)) (.int (0 : Int32)) (.long (own_low w0)) (.long (0 : Int64)) (.long (0 : Int64)) T65.heap n0 z67 f163 f164 f165 f166 Vq0_65 Vq1_65 Vq2_65 Vq3_65 ge20 ge28 ge12 ge36 ne51 ne53 ne55 ne57 ne59 (Ne.symm ne60) ne61 (Ne.symm ne62) ne63 ne64) hZ (hw _ (List.mem_of_getElem? (i := 47) rfl)) (hw _ (List.mem_of_getElem? (i := 8) rfl)) (by decide) (by decide)) (g := (mkF m 90 #[.val (.ref o), .val (.ref at_), .val (.int (3 : Int32)), .val (.int (0 : Int32)), .val (.int w0), .val (.int (1 : Int32)), .val (.int w1)] [(.int w1), (.int w0), (.int (0 : Int32)), (.int (1 : Int32)), (.ref o)])) rfl (by rw [hml]; rfl) (Steps.refl _) (a := o) (by rw [eq75]; exact q167) q167' (argsL := [(.int (1 : Int32)), (.int (0 : Int32)), (.int w0), (.int w1)]) (rest := []) (lenOf own_pd__IIII_V rfl) rfl (by show 2 * 0 + _ ≤ _; exact Nat.le_of_eq rfl) (hb hby own_dprog_21_method_1_code_90) (fun _ _ => ⟨rfl, eq75, (by decide : 5 + 0 ≤ _), (by decide : 13 + 0 ≤ _)⟩)
    dsimp only [Pt.U, Pt.locs, Pt.cells, Pt.slots] at X167 l167 y167 z167 st167 hQ167
    subst l167 y167 z167
    obtain ⟨rfl, Nq167, Kq167, Vq0_167, Vq1_167, Vq2_167, Vq3_167⟩ := hQ167
    have N167 := Fr.app N75 Nq167
    refine own_st (fun _ k => st167.trans k) ?_
    have z169 : n0 ≤ T167.heap.size := Nat.le_trans z67 Kq167.1
    have kk170 : Keep h0 T167.heap [o] := kk68.trans Kq167 (allS (Or.inr sz20) (allS (Or.inr sz28) (allS (Or.inr sz12) (allS (Or.inr sz36) all0))))
    show own_Go p.tables e below RR (T167.setTop (mkF m 93 #[.val (.ref o), .val (.ref at_), .val (.int (3 : Int32)), .val (.int (0 : Int32)), .val (.int w0), .val (.int (1 : Int32)), .val (.int w1)] []))
    refine own_st (fun _ k => XS.iload X167.here hx rfl (hb hby own_dprog_21_method_1_code_93) rfl (XS.iload X167.here hx rfl (hb hby own_dprog_21_method_1_code_95) rfl (XS.iadd X167.here hx rfl (hb hby own_dprog_21_method_1_code_97) rfl (XS.istore X167.here hx rfl (hb hby own_dprog_21_method_1_code_98) rfl (l' := #[.val (.ref o), .val (.ref at_), .val (.int (3 : Int32)), .val (.int (0 : Int32)), .val (.int (w0 + w1)), .val (.int (1 : Int32)), .val (.int w1)]) rfl (XS.iinc X167.here hx rfl (hb hby own_dprog_21_method_1_code_100) rfl (l' := #[.val (.ref o), .val (.ref at_), .val (.int (3 : Int32)), .val (.int (0 : Int32)), .val (.int (w0 + w1)), .val (.int (2 : Int32)), .val (.int w1)]) rfl (XS.goto X167.here hx rfl (pc0 := 103) (pc' := 51) rfl (hb hby own_dprog_21_method_1_code_103) (by decide) (by decide) (XS.iload X167.here hx rfl (hb hby own_dprog_21_method_1_code_51) rfl (XS.iloadN X167.here hx rfl (hb hby own_dprog_21_method_1_code_53) rfl k)))))))) ?_
    show own_Go p.tables e below RR (T167.setTop (mkF m 54 #[.val (.ref o), .val (.ref at_), .val (.int (3 : Int32)), .val (.int (0 : Int32)), .val (.int (w0 + w1)), .val (.int (2 : Int32)), .val (.int w1)] [(.int (3 : Int32)), (.int (2 : Int32))]))
    refine own_st (fun _ k => XS.icmpNo X167.here hx rfl (hb hby own_dprog_21_method_1_code_54) rfl (tlt (by decide)).2.1 (XS.aloadN X167.here hx rfl (hb hby own_dprog_21_method_1_code_57) rfl rfl (XS.iload X167.here hx rfl (hb hby own_dprog_21_method_1_code_58) rfl k))) ?_
    show own_Go p.tables e below RR (T167.setTop (mkF m 60 #[.val (.ref o), .val (.ref at_), .val (.int (3 : Int32)), .val (.int (0 : Int32)), .val (.int (w0 + w1)), .val (.int (2 : Int32)), .val (.int w1)] [(.int (2 : Int32)), (.ref at_)]))
    have f171 := (f73.keep Kq167 (ninS ne72 (ninS ne71 (ninS ne70 (ninS ne69 nin0)))))
    obtain ⟨c172, A172, q172, s172, m172, H172, G172⟩ := id f171
    have b172 := inb_of (j := (2 : Int32)) s172 ⟨by decide, by decide⟩
    refine own_st (fun _ k => X167.laload hx (j := (2 : Int32)) (v := (.long t2)) (by exact A172.1) (State.isArrayOf_alike hZ.alike A172.2.1) A172.2.2 b172 (Has.at H172 b172 rfl) (g := (mkF m 60 #[.val (.ref o), .val (.ref at_), .val (.int (3 : Int32)), .val (.int (0 : Int32)), .val (.int (w0 + w1)), .val (.int (2 : Int32)), .val (.int w1)] [(.int (2 : Int32)), (.ref at_)])) rfl rfl (hb hby own_dprog_21_method_1_code_60) _ k) ?_
    show own_Go p.tables e below RR (T167.setTop (mkF m 61 #[.val (.ref o), .val (.ref at_), .val (.int (3 : Int32)), .val (.int (0 : Int32)), .val (.int (w0 + w1)), .val (.int (2 : Int32)), .val (.int w1)] [(.long t2)]))
    obtain ⟨_, _, ⟨T173, L173, k173, n173⟩, -, X173, ⟨Lc173, hQ173, l173, y173, z173⟩, st173⟩ := Jvm.LawKit.callS X167 hx (y := (⟨"com/example/nesiph/nesiph/MarkingSet", "bitsFor", "(J)I"⟩ : MethodName)) hown (mvT hZ (hw _ (List.mem_of_getElem? (i := 28) rfl))) (mvT hZ (hw _ (List.mem_of_getElem? (i := 29) rfl))) (mvT hZ (hw _ (List.mem_of_getElem? (i := 8) rfl))) (mvT hZ (hw _ (List.mem_of_getElem? (i := 30) rfl))) (by decide) (backOf (W := 0) (own_rmBF l Z a0 hw [] t2 w2 T167.heap n0 z169 hb2) hZ (hw _ (List.mem_of_getElem? (i := 30) rfl)) (hw _ (List.mem_of_getElem? (i := 8) rfl)) (by decide) (by decide)) (g := (mkF m 61 #[.val (.ref o), .val (.ref at_), .val (.int (3 : Int32)), .val (.int (0 : Int32)), .val (.int (w0 + w1)), .val (.int (2 : Int32)), .val (.int w1)] [(.long t2)])) rfl (by rw [hml]; rfl) (argsL := [(.long t2)]) (rest := []) (lenOf own_pd__J_I rfl) rfl (by show 2 * 0 + _ ≤ _; exact Nat.le_of_eq rfl) (hb hby own_dprog_21_method_1_code_61) (fun _ _ => ⟨rfl, rfl, (by decide : 5 + 0 ≤ _), (by decide : 13 + 0 ≤ _)⟩)
    dsimp only [Pt.U, Pt.locs, Pt.cells, Pt.slots] at X173 l173 y173 z173 st173 hQ173
    subst l173 y173 z173
    obtain ⟨rfl, Nq173, eq173⟩ := hQ173
    have N173 := Fr.app N167 Nq173
    refine own_st st173 ?_
    show own_Go p.tables e below RR (T173.setTop (mkF m 64 #[.val (.ref o), .val (.ref at_), .val (.int (3 : Int32)), .val (.int (0 : Int32)), .val (.int (w0 + w1)), .val (.int (2 : Int32)), .val (.int w1)] [(.int w2)]))
    refine own_st (fun _ k => XS.istore X173.here hx rfl (hb hby own_dprog_21_method_1_code_64) rfl (l' := #[.val (.ref o), .val (.ref at_), .val (.int (3 : Int32)), .val (.int (0 : Int32)), .val (.int (w0 + w1)), .val (.int (2 : Int32)), .val (.int w2)]) rfl (XS.iload X173.here hx rfl (hb hby own_dprog_21_method_1_code_66) rfl (XS.iload X173.here hx rfl (hb hby own_dprog_21_method_1_code_68) rfl (XS.iadd X173.here hx rfl (hb hby own_dprog_21_method_1_code_70) rfl (XS.bipush X173.here hx rfl (hb hby own_dprog_21_method_1_code_71) k))))) ?_
    show own_Go p.tables e below RR (T173.setTop (mkF m 73 #[.val (.ref o), .val (.ref at_), .val (.int (3 : Int32)), .val (.int (0 : Int32)), .val (.int (w0 + w1)), .val (.int (2 : Int32)), .val (.int w2)] [(.int (64 : Int32)), (.int ((w0 + w1) + w2))]))
    by_cases hc73_174 : (64 : Int32) < ((w0 + w1) + w2)
    · refine own_st (fun _ k => XS.icmpNo X173.here hx rfl (hb hby own_dprog_21_method_1_code_73) rfl (tlt hc73_174).2.2.2 (XS.iinc X173.here hx rfl (hb hby own_dprog_21_method_1_code_76) rfl (l' := #[.val (.ref o), .val (.ref at_), .val (.int (3 : Int32)), .val (.int (1 : Int32)), .val (.int (w0 + w1)), .val (.int (2 : Int32)), .val (.int w2)]) rfl (XS.iconst X173.here hx rfl (hb hby own_dprog_21_method_1_code_79) (XS.istore X173.here hx rfl (hb hby own_dprog_21_method_1_code_80) rfl (l' := #[.val (.ref o), .val (.ref at_), .val (.int (3 : Int32)), .val (.int (1 : Int32)), .val (.int (0 : Int32)), .val (.int (2 : Int32)), .val (.int w2)]) rfl (XS.aloadN X173.here hx rfl (hb hby own_dprog_21_method_1_code_82) rfl rfl (XS.iload X173.here hx rfl (hb hby own_dprog_21_method_1_code_83) rfl (XS.iloadN X173.here hx rfl (hb hby own_dprog_21_method_1_code_85) rfl (XS.iload X173.here hx rfl (hb hby own_dprog_21_method_1_code_86) rfl k)))))))) ?_
      show own_Go p.tables e below RR (T173.setTop (mkF m 88 #[.val (.ref o), .val (.ref at_), .val (.int (3 : Int32)), .val (.int (1 : Int32)), .val (.int (0 : Int32)), .val (.int (2 : Int32)), .val (.int w2)] [(.int (0 : Int32)), (.int (1 : Int32)), (.int (2 : Int32)), (.ref o)]))
      refine own_st (fun _ k => XS.iload X173.here hx rfl (hb hby own_dprog_21_method_1_code_88) rfl k) ?_
      show own_Go p.tables e below RR (T173.setTop (mkF m 90 #[.val (.ref o), .val (.ref at_), .val (.int (3 : Int32)), .val (.int (1 : Int32)), .val (.int (0 : Int32)), .val (.int (2 : Int32)), .val (.int w2)] [(.int w2), (.int (0 : Int32)), (.int (1 : Int32)), (.int (2 : Int32)), (.ref o)]))
      have f175 := (f163.keep Kq167 (ninS ne51 (ninS ne53 (ninS ne55 (ninS ne57 nin0)))))
      have f176 := (f164.keep Kq167 (ninS ne51 (ninS ne53 (ninS ne55 (ninS ne57 nin0)))))
      have f177 := (f165.keep Kq167 (ninS ne51 (ninS ne53 (ninS ne55 (ninS ne57 nin0)))))
      have f178 := (f166.keep Kq167 (ninS ne51 (ninS ne53 (ninS ne55 (ninS ne57 nin0)))))
      have f180 := (f168.keep Kq167)
      obtain ⟨cq179, q179, q179'⟩ := f180.cell
      obtain ⟨_, _, ⟨T179, L179, k179, n179⟩, -, X179, ⟨Lc179, hQ179, l179, y179, z179⟩, st179⟩ := X173.privateBack hx (y := (⟨"com/example/nesiph/nesiph/MarkingSet", "placeField", "(IIII)V"⟩ : MethodName)) hown (mvT hZ (hw _ (List.mem_of_getElem? (i := 44) rfl))) (mvT hZ (hw _ (List.mem_of_getElem? (i := 45) rfl))) (own_selP (mvT hZ (hw _ (List.mem_of_getElem? (i := 7) rfl))) (Cond.privateMethod_at (mvP hZ (hw _ (List.mem_of_getElem? (i := 46) rfl)) (args := #[]))) (mvT hZ (hw _ (List.mem_of_getElem? (i := 45) rfl))) (by decide)) (Cond.privateMethod_at (mvP hZ (hw _ (List.mem_of_getElem? (i := 46) rfl)) (args := #[]))) (mvT hZ (hw _ (List.mem_of_getElem? (i := 47) rfl))) (by decide) (backOf (W := 0) (own_rmPF2 l Z a0 hw [] o (1 : Int32) (0 : Int32) w2 b20 b28 b12 b36 k20 k28 k12 k36 (.int (0 : Int32)) (.int (0 : Int32)) (.int (0 : Int32)) (.int (0 : Int32)) (.int w0) (.int (0 : Int32)) (.int w0) (.int w1) (.int (0 : Int32)) (.long (own_low w0)) (.long (own_low w1)) (.long (0 : Int64)) T167.heap n0 z169 f175 f176 f177 f178 Vq0_167 Vq1_167 Vq2_167 Vq3_167 ge20 ge28 ge12 ge36 ne51 ne53 ne55 ne57 ne59 (Ne.symm ne60) ne61 (Ne.symm ne62) ne63 ne64) hZ (hw _ (List.mem_of_getElem? (i := 47) rfl)) (hw _ (List.mem_of_getElem? (i := 8) rfl)) (by decide) (by decide)) (g := (mkF m 90 #[.val (.ref o), .val (.ref at_), .val (.int (3 : Int32)), .val (.int (1 : Int32)), .val (.int (0 : Int32)), .val (.int (2 : Int32)), .val (.int w2)] [(.int w2), (.int (0 : Int32)), (.int (1 : Int32)), (.int (2 : Int32)), (.ref o)])) rfl (by rw [hml]; rfl) (Steps.refl _) (a := o) (by rw [eq173]; exact q179) q179' (argsL := [(.int (2 : Int32)), (.int (1 : Int32)), (.int (0 : Int32)), (.int w2)]) (rest := []) (lenOf own_pd__IIII_V rfl) rfl (by show 2 * 0 + _ ≤ _; exact Nat.le_of_eq rfl) (hb hby own_dprog_21_method_1_code_90) (fun _ _ => ⟨rfl, eq173, (by decide : 5 + 0 ≤ _), (by decide : 13 + 0 ≤ _)⟩)
      dsimp only [Pt.U, Pt.locs, Pt.cells, Pt.slots] at X179 l179 y179 z179 st179 hQ179
      subst l179 y179 z179
      obtain ⟨rfl, Nq179, Kq179, Vq0_179, Vq1_179, Vq2_179, Vq3_179⟩ := hQ179
      have N179 := Fr.app N173 Nq179
      refine own_st (fun _ k => st179.trans k) ?_
      have z181 : n0 ≤ T179.heap.size := Nat.le_trans z169 Kq179.1
      have kk182 : Keep h0 T179.heap [o] := kk170.trans Kq179 (allS (Or.inr sz20) (allS (Or.inr sz28) (allS (Or.inr sz12) (allS (Or.inr sz36) all0))))
      show own_Go p.tables e below RR (T179.setTop (mkF m 93 #[.val (.ref o), .val (.ref at_), .val (.int (3 : Int32)), .val (.int (1 : Int32)), .val (.int (0 : Int32)), .val (.int (2 : Int32)), .val (.int w2)] []))
      refine own_st (fun _ k => XS.iload X179.here hx rfl (hb hby own_dprog_21_method_1_code_93) rfl (XS.iload X179.here hx rfl (hb hby own_dprog_21_method_1_code_95) rfl (XS.iadd X179.here hx rfl (hb hby own_dprog_21_method_1_code_97) rfl k))) ?_
      show own_Go p.tables e below RR (T179.setTop (mkF m 98 #[.val (.ref o), .val (.ref at_), .val (.int (3 : Int32)), .val (.int (1 : Int32)), .val (.int (0 : Int32)), .val (.int (2 : Int32)), .val (.int w2)] [(.int ((0 : Int32) + w2))]))
      rw [Int32.zero_add]
      show own_Go p.tables e below RR (T179.setTop (mkF m 98 #[.val (.ref o), .val (.ref at_), .val (.int (3 : Int32)), .val (.int (1 : Int32)), .val (.int (0 : Int32)), .val (.int (2 : Int32)), .val (.int w2)] [(.int w2)]))
      refine own_st (fun _ k => XS.istore X179.here hx rfl (hb hby own_dprog_21_method_1_code_98) rfl (l' := #[.val (.ref o), .val (.ref at_), .val (.int (3 : Int32)), .val (.int (1 : Int32)), .val (.int w2), .val (.int (2 : Int32)), .val (.int w2)]) rfl (XS.iinc X179.here hx rfl (hb hby own_dprog_21_method_1_code_100) rfl (l' := #[.val (.ref o), .val (.ref at_), .val (.int (3 : Int32)), .val (.int (1 : Int32)), .val (.int w2), .val (.int (3 : Int32)), .val (.int w2)]) rfl (XS.goto X179.here hx rfl (pc0 := 103) (pc' := 51) rfl (hb hby own_dprog_21_method_1_code_103) (by decide) (by decide) (XS.iload X179.here hx rfl (hb hby own_dprog_21_method_1_code_51) rfl (XS.iloadN X179.here hx rfl (hb hby own_dprog_21_method_1_code_53) rfl k))))) ?_
      show own_Go p.tables e below RR (T179.setTop (mkF m 54 #[.val (.ref o), .val (.ref at_), .val (.int (3 : Int32)), .val (.int (1 : Int32)), .val (.int w2), .val (.int (3 : Int32)), .val (.int w2)] [(.int (3 : Int32)), (.int (3 : Int32))]))
      refine own_st (fun _ k => XS.icmpYes X179.here hx rfl (pc0 := 54) (pc' := 106) rfl (hb hby own_dprog_21_method_1_code_54) rfl (flt (by decide)).2.1 (by decide) (by decide) (XS.aloadN X179.here hx rfl (hb hby own_dprog_21_method_1_code_106) rfl rfl (XS.iloadN X179.here hx rfl (hb hby own_dprog_21_method_1_code_107) rfl (XS.iconst X179.here hx rfl (hb hby own_dprog_21_method_1_code_108) (XS.iadd X179.here hx rfl (hb hby own_dprog_21_method_1_code_109) rfl k))))) ?_
      show own_Go p.tables e below RR (T179.setTop (mkF m 110 #[.val (.ref o), .val (.ref at_), .val (.int (3 : Int32)), .val (.int (1 : Int32)), .val (.int w2), .val (.int (3 : Int32)), .val (.int w2)] [(.int (2 : Int32)), (.ref o)]))
      have f183 := (((((((((((((F_wc.ext E2).other W7 (Or.inr (slot_ne (Or.inl (hw _ (List.mem_of_getElem? (i := 52) rfl))) (Or.inl (hw _ (List.mem_of_getElem? (i := 18) rfl))) (by decide) (t := .int) (t' := (.array (.array .long))) (by decide) (by decide)))).ext E12).other W17 (Or.inr (slot_ne (Or.inl (hw _ (List.mem_of_getElem? (i := 52) rfl))) (Or.inr (hw _ (List.mem_of_getElem? (i := 21) rfl))) (by decide) (t := .int) (t' := (.array .int)) (by decide) (by decide)))).ext E20).other W25 (Or.inr (slot_ne (Or.inl (hw _ (List.mem_of_getElem? (i := 52) rfl))) (Or.inr (hw _ (List.mem_of_getElem? (i := 23) rfl))) (by decide) (t := .int) (t' := (.array .int)) (by decide) (by decide)))).ext E28).other W33 (Or.inr (slot_ne (Or.inl (hw _ (List.mem_of_getElem? (i := 52) rfl))) (Or.inr (hw _ (List.mem_of_getElem? (i := 25) rfl))) (by decide) (t := .int) (t' := (.array .int)) (by decide) (by decide)))).ext E36).other W41 (Or.inr (slot_ne (Or.inl (hw _ (List.mem_of_getElem? (i := 52) rfl))) (Or.inr (hw _ (List.mem_of_getElem? (i := 27) rfl))) (by decide) (t := .int) (t' := (.array .long)) (by decide) (by decide)))).keep Kq65 (ninS ne51 (ninS ne53 (ninS ne55 (ninS ne57 nin0))))).keep Kq167 (ninS ne51 (ninS ne53 (ninS ne55 (ninS ne57 nin0))))).keep Kq179 (ninS ne51 (ninS ne53 (ninS ne55 (ninS ne57 nin0)))))
      have f184 := (f180.keep Kq179)
      obtain ⟨T185, h185, X185, e185, W185, st185⟩ := putF X179 hx hZ hown (host := "") (Or.inl (hw _ (List.mem_of_getElem? (i := 51) rfl))) Via.refl rfl f183 f184 (Or.inl (hw _ (List.mem_of_getElem? (i := 52) rfl))) (hw _ (List.mem_of_getElem? (i := 7) rfl)) (ty := .int) (by decide) rfl rfl (g := (mkF m 110 #[.val (.ref o), .val (.ref at_), .val (.int (3 : Int32)), .val (.int (1 : Int32)), .val (.int w2), .val (.int (3 : Int32)), .val (.int w2)] [(.int (2 : Int32)), (.ref o)])) rfl rfl (hb hby own_dprog_21_method_1_code_110)
      have Fw185 := f183.same W185
      have N185 := Fr.snoc X185 N179 g_o
      refine own_st st185 ?_
      have z186 : n0 ≤ h185.size := Nat.le_trans z181 (Keep.of_wr W185).1
      have kk187 : Keep h0 h185 [o] := kk182.wr W185 (Or.inl (List.mem_of_getElem? (i := 0) rfl))
      show own_Go p.tables e below RR (T185.setTop (mkF m 113 #[.val (.ref o), .val (.ref at_), .val (.int (3 : Int32)), .val (.int (1 : Int32)), .val (.int w2), .val (.int (3 : Int32)), .val (.int w2)] []))
      refine own_st (fun _ k => XS.aloadN X185.here hx rfl (hb hby own_dprog_21_method_1_code_113) rfl rfl (XS.bipush X185.here hx rfl (hb hby own_dprog_21_method_1_code_114) k)) ?_
      show own_Go p.tables e below RR (T185.setTop (mkF m 116 #[.val (.ref o), .val (.ref at_), .val (.int (3 : Int32)), .val (.int (1 : Int32)), .val (.int w2), .val (.int (3 : Int32)), .val (.int w2)] [(.int (16 : Int32)), (.ref o)]))
      obtain ⟨T188, h188, k188, X188, e188, E188, A188, st188⟩ := newP X185 hx hZ (hw _ (List.mem_of_getElem? (i := 0) rfl)) e185 (g := (mkF m 116 #[.val (.ref o), .val (.ref at_), .val (.int (3 : Int32)), .val (.int (1 : Int32)), .val (.int w2), .val (.int (3 : Int32)), .val (.int w2)] [(.int (16 : Int32)), (.ref o)])) rfl (hb hby own_dprog_21_method_1_code_116) rfl (by decide) (cap := 16) (by decide) (by decide) (by decide) (by decide)
      obtain ⟨b188, gb188⟩ : ∃ z, z = h185.size := ⟨_, rfl⟩
      rw [← gb188] at A188 st188
      have ge188 : n0 ≤ b188 := Nat.le_trans z186 (Nat.le_of_eq gb188.symm)
      have sz188 : h0.size ≤ b188 := Nat.le_trans kk187.1 (Nat.le_of_eq gb188.symm)
      refine own_st st188 ?_
      have z189 : n0 ≤ h188.size := Nat.le_trans z186 E188.1
      have kk190 : Keep h0 h188 [o] := kk187.ext E188
      have V188 : Arv Z h188 b188 k188 .long (16 : Int32) [(.long (0 : Int64)), (.long (0 : Int64)), (.long (0 : Int64)), (.long (0 : Int64)), (.long (0 : Int64)), (.long (0 : Int64)), (.long (0 : Int64)), (.long (0 : Int64)), (.long (0 : Int64)), (.long (0 : Int64)), (.long (0 : Int64)), (.long (0 : Int64)), (.long (0 : Int64)), (.long (0 : Int64)), (.long (0 : Int64)), (.long (0 : Int64))] (.long (0 : Int64)) := (Arv.new A188 (by decide)).pad (pad_rep [] (.long (0 : Int64)) 16)
      show own_Go p.tables e below RR (T188.setTop (mkF m 118 #[.val (.ref o), .val (.ref at_), .val (.int (3 : Int32)), .val (.int (1 : Int32)), .val (.int w2), .val (.int (3 : Int32)), .val (.int w2)] [(.ref b188), (.ref o)]))
      have f191 := (((((((((((((((F_slots.ext E2).other W7 (Or.inr (slot_ne (Or.inl (hw _ (List.mem_of_getElem? (i := 54) rfl))) (Or.inl (hw _ (List.mem_of_getElem? (i := 18) rfl))) (by decide) (t := (.array .long)) (t' := (.array (.array .long))) (by decide) (by decide)))).ext E12).other W17 (Or.inr (slot_ne (Or.inl (hw _ (List.mem_of_getElem? (i := 54) rfl))) (Or.inr (hw _ (List.mem_of_getElem? (i := 21) rfl))) (by decide) (t := (.array .long)) (t' := (.array .int)) (by decide) (by decide)))).ext E20).other W25 (Or.inr (slot_ne (Or.inl (hw _ (List.mem_of_getElem? (i := 54) rfl))) (Or.inr (hw _ (List.mem_of_getElem? (i := 23) rfl))) (by decide) (t := (.array .long)) (t' := (.array .int)) (by decide) (by decide)))).ext E28).other W33 (Or.inr (slot_ne (Or.inl (hw _ (List.mem_of_getElem? (i := 54) rfl))) (Or.inr (hw _ (List.mem_of_getElem? (i := 25) rfl))) (by decide) (t := (.array .long)) (t' := (.array .int)) (by decide) (by decide)))).ext E36).other W41 (Or.inr (slot_ne (Or.inl (hw _ (List.mem_of_getElem? (i := 54) rfl))) (Or.inr (hw _ (List.mem_of_getElem? (i := 27) rfl))) (by decide) (t := (.array .long)) (t' := (.array .long)) (by decide) (by decide)))).keep Kq65 (ninS ne51 (ninS ne53 (ninS ne55 (ninS ne57 nin0))))).keep Kq167 (ninS ne51 (ninS ne53 (ninS ne55 (ninS ne57 nin0))))).keep Kq179 (ninS ne51 (ninS ne53 (ninS ne55 (ninS ne57 nin0))))).other W185 (Or.inr (slot_ne (Or.inl (hw _ (List.mem_of_getElem? (i := 54) rfl))) (Or.inl (hw _ (List.mem_of_getElem? (i := 52) rfl))) (by decide) (t := (.array .long)) (t' := .int) (by decide) (by decide)))).ext E188)
      have f192 := ((f184.wr W185).ext E188)
      obtain ⟨T193, h193, X193, e193, W193, st193⟩ := putF X188 hx hZ hown (host := "") (Or.inl (hw _ (List.mem_of_getElem? (i := 53) rfl))) Via.refl e188 f191 f192 (Or.inl (hw _ (List.mem_of_getElem? (i := 54) rfl))) (hw _ (List.mem_of_getElem? (i := 7) rfl)) (ty := (.array .long)) (by decide) rfl rfl (g := (mkF m 118 #[.val (.ref o), .val (.ref at_), .val (.int (3 : Int32)), .val (.int (1 : Int32)), .val (.int w2), .val (.int (3 : Int32)), .val (.int w2)] [(.ref b188), (.ref o)])) rfl rfl (hb hby own_dprog_21_method_1_code_118)
      have Fw193 := f191.same W193
      have N193 := Fr.snoc X193 N185 g_o
      refine own_st st193 ?_
      have z194 : n0 ≤ h193.size := Nat.le_trans z189 (Keep.of_wr W193).1
      have kk195 : Keep h0 h193 [o] := kk190.wr W193 (Or.inl (List.mem_of_getElem? (i := 0) rfl))
      show own_Go p.tables e below RR (T193.setTop (mkF m 121 #[.val (.ref o), .val (.ref at_), .val (.int (3 : Int32)), .val (.int (1 : Int32)), .val (.int w2), .val (.int (3 : Int32)), .val (.int w2)] []))
      refine own_st (fun _ k => XS.aloadN X193.here hx rfl (hb hby own_dprog_21_method_1_code_121) rfl rfl k) ?_
      show own_Go p.tables e below RR (T193.setTop (mkF m 122 #[.val (.ref o), .val (.ref at_), .val (.int (3 : Int32)), .val (.int (1 : Int32)), .val (.int w2), .val (.int (3 : Int32)), .val (.int w2)] [(.ref o)]))
      obtain ⟨T196, X196, e196, st196⟩ := getF X193 hx hZ hown (host := "") (Or.inl (hw _ (List.mem_of_getElem? (i := 53) rfl))) Via.refl e193 Fw193 (g := (mkF m 122 #[.val (.ref o), .val (.ref at_), .val (.int (3 : Int32)), .val (.int (1 : Int32)), .val (.int w2), .val (.int (3 : Int32)), .val (.int w2)] [(.ref o)])) rfl rfl (hb hby own_dprog_21_method_1_code_122)
      refine own_st st196 ?_
      show own_Go p.tables e below RR (T196.setTop (mkF m 125 #[.val (.ref o), .val (.ref at_), .val (.int (3 : Int32)), .val (.int (1 : Int32)), .val (.int w2), .val (.int (3 : Int32)), .val (.int w2)] [(.ref b188)]))
      refine own_st (fun _ k => X196.ldc2Long hx hown (mvT hZ (hw _ (List.mem_of_getElem? (i := 55) rfl))) (g := (mkF m 125 #[.val (.ref o), .val (.ref at_), .val (.int (3 : Int32)), .val (.int (1 : Int32)), .val (.int w2), .val (.int (3 : Int32)), .val (.int w2)] [(.ref b188)])) rfl (hb hby own_dprog_21_method_1_code_125) _ k) ?_
      show own_Go p.tables e below RR (T196.setTop (mkF m 128 #[.val (.ref o), .val (.ref at_), .val (.int (3 : Int32)), .val (.int (1 : Int32)), .val (.int w2), .val (.int (3 : Int32)), .val (.int w2)] [(.long (-1 : Int64)), (.ref b188)]))
      have ne197 : o ≠ b188 := (Nat.ne_of_lt (Nat.lt_of_lt_of_le (f184.wr W185).lt (Nat.le_of_eq gb188.symm)))
      have f198 := (V188.other W193 (Ne.symm ne197))
      obtain ⟨_, _, ⟨T199, L199, k199, n199⟩, -, X199, ⟨Lc199, hQ199, l199, y199, z199⟩, st199⟩ := Jvm.LawKit.callS X196 hx (y := (⟨"java/util/Arrays", "fill", "([JJ)V"⟩ : MethodName)) hown (mvT hZ (hw _ (List.mem_of_getElem? (i := 56) rfl))) (mvT hZ (hw _ (List.mem_of_getElem? (i := 57) rfl))) (mvT hZ (hw _ (List.mem_of_getElem? (i := 58) rfl))) (mvT hZ (hw _ (List.mem_of_getElem? (i := 59) rfl))) (by decide) (backOf (W := 0) (own_rmFL l Z a0 hw [] b188 (-1 : Int64) k188 h193 n0 z194 f198 ge188) hZ (hw _ (List.mem_of_getElem? (i := 59) rfl)) (hw _ (List.mem_of_getElem? (i := 58) rfl)) (by decide) (by decide)) (g := (mkF m 128 #[.val (.ref o), .val (.ref at_), .val (.int (3 : Int32)), .val (.int (1 : Int32)), .val (.int w2), .val (.int (3 : Int32)), .val (.int w2)] [(.long (-1 : Int64)), (.ref b188)])) rfl (by rw [hml]; rfl) (argsL := [(.ref b188), (.long (-1 : Int64))]) (rest := []) (lenOf own_pd___JJ_V rfl) rfl (by show 2 * 0 + _ ≤ _; exact Nat.le_of_eq rfl) (hb hby own_dprog_21_method_1_code_128) (fun _ _ => ⟨rfl, e196, (by decide : 6 + 0 ≤ _), (by decide : 29 + 0 ≤ _)⟩)
      dsimp only [Pt.U, Pt.locs, Pt.cells, Pt.slots] at X199 l199 y199 z199 st199 hQ199
      subst l199 y199 z199
      obtain ⟨rfl, Nq199, Kq199⟩ := hQ199
      have N199 := Fr.app N193 Nq199
      refine own_st st199 ?_
      have z200 : n0 ≤ T199.heap.size := Nat.le_trans z194 Kq199.1
      have kk201 : Keep h0 T199.heap [o] := kk195.trans Kq199 (allS (Or.inr sz188) all0)
      show own_Go p.tables e below RR (T199.setTop (mkF m 131 #[.val (.ref o), .val (.ref at_), .val (.int (3 : Int32)), .val (.int (1 : Int32)), .val (.int w2), .val (.int (3 : Int32)), .val (.int w2)] []))
      obtain ⟨fs, hrt_, hrun, hended, hW, hsame⟩ := X199.leave (v := none) (fun _ => rfl)
      refine own_fin (X199.returnOut hx Bd.returns (hb hby own_dprog_21_method_1_code_131) hrt_) (hRR _ ⟨_, hrun, hended, _, _, rfl, ?_, ⟨_, rfl⟩, hW, hsame.mono (by decide) (by decide)⟩)
      show own_QIN Z o at_ kt t0 t1 t2 w0 w1 w2 h0 n0 _ T199.heap _
      have f202 := (((((f175.keep Kq179 (ninS ne51 (ninS ne53 (ninS ne55 (ninS ne57 nin0))))).other W185 (Or.inr (slot_ne (Or.inr (hw _ (List.mem_of_getElem? (i := 23) rfl))) (Or.inl (hw _ (List.mem_of_getElem? (i := 52) rfl))) (by decide) (t := (.array .int)) (t' := .int) (by decide) (by decide)))).ext E188).other W193 (Or.inr (slot_ne (Or.inr (hw _ (List.mem_of_getElem? (i := 23) rfl))) (Or.inl (hw _ (List.mem_of_getElem? (i := 54) rfl))) (by decide) (t := (.array .int)) (t' := (.array .long)) (by decide) (by decide)))).keep Kq199 (ninS ne197 nin0))
      have f203 := (((((f176.keep Kq179 (ninS ne51 (ninS ne53 (ninS ne55 (ninS ne57 nin0))))).other W185 (Or.inr (slot_ne (Or.inr (hw _ (List.mem_of_getElem? (i := 25) rfl))) (Or.inl (hw _ (List.mem_of_getElem? (i := 52) rfl))) (by decide) (t := (.array .int)) (t' := .int) (by decide) (by decide)))).ext E188).other W193 (Or.inr (slot_ne (Or.inr (hw _ (List.mem_of_getElem? (i := 25) rfl))) (Or.inl (hw _ (List.mem_of_getElem? (i := 54) rfl))) (by decide) (t := (.array .int)) (t' := (.array .long)) (by decide) (by decide)))).keep Kq199 (ninS ne197 nin0))
      have f204 := (((((f178.keep Kq179 (ninS ne51 (ninS ne53 (ninS ne55 (ninS ne57 nin0))))).other W185 (Or.inr (slot_ne (Or.inr (hw _ (List.mem_of_getElem? (i := 27) rfl))) (Or.inl (hw _ (List.mem_of_getElem? (i := 52) rfl))) (by decide) (t := (.array .long)) (t' := .int) (by decide) (by decide)))).ext E188).other W193 (Or.inr (slot_ne (Or.inr (hw _ (List.mem_of_getElem? (i := 27) rfl))) (Or.inl (hw _ (List.mem_of_getElem? (i := 54) rfl))) (by decide) (t := (.array .long)) (t' := (.array .long)) (by decide) (by decide)))).keep Kq199 (ninS ne197 nin0))
      have f205 := ((f192.wr W193).keep Kq199)
      have ne206 : b20 ≠ b188 := (Nat.ne_of_lt (Nat.lt_of_lt_of_le (Vq0_179.other W185 (Ne.symm ne51)).lt (Nat.le_of_eq gb188.symm)))
      have f207 := ((((Vq0_179.other W185 (Ne.symm ne51)).ext E188).other W193 (Ne.symm ne51)).keep Kq199 (ninS ne206 nin0))
      have ne208 : b28 ≠ b188 := (Nat.ne_of_lt (Nat.lt_of_lt_of_le (Vq1_179.other W185 (Ne.symm ne53)).lt (Nat.le_of_eq gb188.symm)))
      have f209 := ((((Vq1_179.other W185 (Ne.symm ne53)).ext E188).other W193 (Ne.symm ne53)).keep Kq199 (ninS ne208 nin0))
      have ne210 : b36 ≠ b188 := (Nat.ne_of_lt (Nat.lt_of_lt_of_le (Vq3_179.other W185 (Ne.symm ne57)).lt (Nat.le_of_eq gb188.symm)))
      have f211 := ((((Vq3_179.other W185 (Ne.symm ne57)).ext E188).other W193 (Ne.symm ne57)).keep Kq199 (ninS ne210 nin0))
      exact ⟨rfl, N199, kk201, f205, b20, b28, b36, _, _, _, sz20, sz28, sz36, f202, f203, f204, (by have q := f207; first | (simp only [own_wo1, own_wo2, own_sh1, own_sh2, own_us, hc73_76, hc73_174, if_true, if_false]; exact q) | exact q), (by have q := f209; first | (simp only [own_wo1, own_wo2, own_sh1, own_sh2, own_us, hc73_76, hc73_174, if_true, if_false]; exact q) | exact q), (by have q := f211; first | (simp only [own_wo1, own_wo2, own_sh1, own_sh2, own_us, hc73_76, hc73_174, if_true, if_false]; exact q) | exact q)⟩
    · refine own_st (fun _ k => XS.icmpYes X173.here hx rfl (pc0 := 73) (pc' := 82) rfl (hb hby own_dprog_21_method_1_code_73) rfl (flt hc73_174).2.2.2 (by decide) (by decide) (XS.aloadN X173.here hx rfl (hb hby own_dprog_21_method_1_code_82) rfl rfl (XS.iload X173.here hx rfl (hb hby own_dprog_21_method_1_code_83) rfl (XS.iloadN X173.here hx rfl (hb hby own_dprog_21_method_1_code_85) rfl (XS.iload X173.here hx rfl (hb hby own_dprog_21_method_1_code_86) rfl (XS.iload X173.here hx rfl (hb hby own_dprog_21_method_1_code_88) rfl k)))))) ?_
      show own_Go p.tables e below RR (T173.setTop (mkF m 90 #[.val (.ref o), .val (.ref at_), .val (.int (3 : Int32)), .val (.int (0 : Int32)), .val (.int (w0 + w1)), .val (.int (2 : Int32)), .val (.int w2)] [(.int w2), (.int (w0 + w1)), (.int (0 : Int32)), (.int (2 : Int32)), (.ref o)]))
      have f212 := (f163.keep Kq167 (ninS ne51 (ninS ne53 (ninS ne55 (ninS ne57 nin0)))))
      have f213 := (f164.keep Kq167 (ninS ne51 (ninS ne53 (ninS ne55 (ninS ne57 nin0)))))
      have f214 := (f165.keep Kq167 (ninS ne51 (ninS ne53 (ninS ne55 (ninS ne57 nin0)))))
      have f215 := (f166.keep Kq167 (ninS ne51 (ninS ne53 (ninS ne55 (ninS ne57 nin0)))))
      have f217 := (f168.keep Kq167)
      obtain ⟨cq216, q216, q216'⟩ := f217.cell
      obtain ⟨_, _, ⟨T216, L216, k216, n216⟩, -, X216, ⟨Lc216, hQ216, l216, y216, z216⟩, st216⟩ := X173.privateBack hx (y := (⟨"com/example/nesiph/nesiph/MarkingSet", "placeField", "(IIII)V"⟩ : MethodName)) hown (mvT hZ (hw _ (List.mem_of_getElem? (i := 44) rfl))) (mvT hZ (hw _ (List.mem_of_getElem? (i := 45) rfl))) (own_selP (mvT hZ (hw _ (List.mem_of_getElem? (i := 7) rfl))) (Cond.privateMethod_at (mvP hZ (hw _ (List.mem_of_getElem? (i := 46) rfl)) (args := #[]))) (mvT hZ (hw _ (List.mem_of_getElem? (i := 45) rfl))) (by decide)) (Cond.privateMethod_at (mvP hZ (hw _ (List.mem_of_getElem? (i := 46) rfl)) (args := #[]))) (mvT hZ (hw _ (List.mem_of_getElem? (i := 47) rfl))) (by decide) (backOf (W := 0) (own_rmPF2 l Z a0 hw [] o (0 : Int32) (w0 + w1) w2 b20 b28 b12 b36 k20 k28 k12 k36 (.int (0 : Int32)) (.int (0 : Int32)) (.int (0 : Int32)) (.int (0 : Int32)) (.int w0) (.int (0 : Int32)) (.int w0) (.int w1) (.int (0 : Int32)) (.long (own_low w0)) (.long (own_low w1)) (.long (0 : Int64)) T167.heap n0 z169 f212 f213 f214 f215 Vq0_167 Vq1_167 Vq2_167 Vq3_167 ge20 ge28 ge12 ge36 ne51 ne53 ne55 ne57 ne59 (Ne.symm ne60) ne61 (Ne.symm ne62) ne63 ne64) hZ (hw _ (List.mem_of_getElem? (i := 47) rfl)) (hw _ (List.mem_of_getElem? (i := 8) rfl)) (by decide) (by decide)) (g := (mkF m 90 #[.val (.ref o), .val (.ref at_), .val (.int (3 : Int32)), .val (.int (0 : Int32)), .val (.int (w0 + w1)), .val (.int (2 : Int32)), .val (.int w2)] [(.int w2), (.int (w0 + w1)), (.int (0 : Int32)), (.int (2 : Int32)), (.ref o)])) rfl (by rw [hml]; rfl) (Steps.refl _) (a := o) (by rw [eq173]; exact q216) q216' (argsL := [(.int (2 : Int32)), (.int (0 : Int32)), (.int (w0 + w1)), (.int w2)]) (rest := []) (lenOf own_pd__IIII_V rfl) rfl (by show 2 * 0 + _ ≤ _; exact Nat.le_of_eq rfl) (hb hby own_dprog_21_method_1_code_90) (fun _ _ => ⟨rfl, eq173, (by decide : 5 + 0 ≤ _), (by decide : 13 + 0 ≤ _)⟩)
      dsimp only [Pt.U, Pt.locs, Pt.cells, Pt.slots] at X216 l216 y216 z216 st216 hQ216
      subst l216 y216 z216
      obtain ⟨rfl, Nq216, Kq216, Vq0_216, Vq1_216, Vq2_216, Vq3_216⟩ := hQ216
      have N216 := Fr.app N173 Nq216
      refine own_st (fun _ k => st216.trans k) ?_
      have z218 : n0 ≤ T216.heap.size := Nat.le_trans z169 Kq216.1
      have kk219 : Keep h0 T216.heap [o] := kk170.trans Kq216 (allS (Or.inr sz20) (allS (Or.inr sz28) (allS (Or.inr sz12) (allS (Or.inr sz36) all0))))
      show own_Go p.tables e below RR (T216.setTop (mkF m 93 #[.val (.ref o), .val (.ref at_), .val (.int (3 : Int32)), .val (.int (0 : Int32)), .val (.int (w0 + w1)), .val (.int (2 : Int32)), .val (.int w2)] []))
      refine own_st (fun _ k => XS.iload X216.here hx rfl (hb hby own_dprog_21_method_1_code_93) rfl (XS.iload X216.here hx rfl (hb hby own_dprog_21_method_1_code_95) rfl (XS.iadd X216.here hx rfl (hb hby own_dprog_21_method_1_code_97) rfl (XS.istore X216.here hx rfl (hb hby own_dprog_21_method_1_code_98) rfl (l' := #[.val (.ref o), .val (.ref at_), .val (.int (3 : Int32)), .val (.int (0 : Int32)), .val (.int ((w0 + w1) + w2)), .val (.int (2 : Int32)), .val (.int w2)]) rfl (XS.iinc X216.here hx rfl (hb hby own_dprog_21_method_1_code_100) rfl (l' := #[.val (.ref o), .val (.ref at_), .val (.int (3 : Int32)), .val (.int (0 : Int32)), .val (.int ((w0 + w1) + w2)), .val (.int (3 : Int32)), .val (.int w2)]) rfl (XS.goto X216.here hx rfl (pc0 := 103) (pc' := 51) rfl (hb hby own_dprog_21_method_1_code_103) (by decide) (by decide) (XS.iload X216.here hx rfl (hb hby own_dprog_21_method_1_code_51) rfl (XS.iloadN X216.here hx rfl (hb hby own_dprog_21_method_1_code_53) rfl k)))))))) ?_
      show own_Go p.tables e below RR (T216.setTop (mkF m 54 #[.val (.ref o), .val (.ref at_), .val (.int (3 : Int32)), .val (.int (0 : Int32)), .val (.int ((w0 + w1) + w2)), .val (.int (3 : Int32)), .val (.int w2)] [(.int (3 : Int32)), (.int (3 : Int32))]))
      refine own_st (fun _ k => XS.icmpYes X216.here hx rfl (pc0 := 54) (pc' := 106) rfl (hb hby own_dprog_21_method_1_code_54) rfl (flt (by decide)).2.1 (by decide) (by decide) (XS.aloadN X216.here hx rfl (hb hby own_dprog_21_method_1_code_106) rfl rfl (XS.iloadN X216.here hx rfl (hb hby own_dprog_21_method_1_code_107) rfl (XS.iconst X216.here hx rfl (hb hby own_dprog_21_method_1_code_108) (XS.iadd X216.here hx rfl (hb hby own_dprog_21_method_1_code_109) rfl k))))) ?_
      show own_Go p.tables e below RR (T216.setTop (mkF m 110 #[.val (.ref o), .val (.ref at_), .val (.int (3 : Int32)), .val (.int (0 : Int32)), .val (.int ((w0 + w1) + w2)), .val (.int (3 : Int32)), .val (.int w2)] [(.int (1 : Int32)), (.ref o)]))
      have f220 := (((((((((((((F_wc.ext E2).other W7 (Or.inr (slot_ne (Or.inl (hw _ (List.mem_of_getElem? (i := 52) rfl))) (Or.inl (hw _ (List.mem_of_getElem? (i := 18) rfl))) (by decide) (t := .int) (t' := (.array (.array .long))) (by decide) (by decide)))).ext E12).other W17 (Or.inr (slot_ne (Or.inl (hw _ (List.mem_of_getElem? (i := 52) rfl))) (Or.inr (hw _ (List.mem_of_getElem? (i := 21) rfl))) (by decide) (t := .int) (t' := (.array .int)) (by decide) (by decide)))).ext E20).other W25 (Or.inr (slot_ne (Or.inl (hw _ (List.mem_of_getElem? (i := 52) rfl))) (Or.inr (hw _ (List.mem_of_getElem? (i := 23) rfl))) (by decide) (t := .int) (t' := (.array .int)) (by decide) (by decide)))).ext E28).other W33 (Or.inr (slot_ne (Or.inl (hw _ (List.mem_of_getElem? (i := 52) rfl))) (Or.inr (hw _ (List.mem_of_getElem? (i := 25) rfl))) (by decide) (t := .int) (t' := (.array .int)) (by decide) (by decide)))).ext E36).other W41 (Or.inr (slot_ne (Or.inl (hw _ (List.mem_of_getElem? (i := 52) rfl))) (Or.inr (hw _ (List.mem_of_getElem? (i := 27) rfl))) (by decide) (t := .int) (t' := (.array .long)) (by decide) (by decide)))).keep Kq65 (ninS ne51 (ninS ne53 (ninS ne55 (ninS ne57 nin0))))).keep Kq167 (ninS ne51 (ninS ne53 (ninS ne55 (ninS ne57 nin0))))).keep Kq216 (ninS ne51 (ninS ne53 (ninS ne55 (ninS ne57 nin0)))))
      have f221 := (f217.keep Kq216)
      obtain ⟨T222, h222, X222, e222, W222, st222⟩ := putF X216 hx hZ hown (host := "") (Or.inl (hw _ (List.mem_of_getElem? (i := 51) rfl))) Via.refl rfl f220 f221 (Or.inl (hw _ (List.mem_of_getElem? (i := 52) rfl))) (hw _ (List.mem_of_getElem? (i := 7) rfl)) (ty := .int) (by decide) rfl rfl (g := (mkF m 110 #[.val (.ref o), .val (.ref at_), .val (.int (3 : Int32)), .val (.int (0 : Int32)), .val (.int ((w0 + w1) + w2)), .val (.int (3 : Int32)), .val (.int w2)] [(.int (1 : Int32)), (.ref o)])) rfl rfl (hb hby own_dprog_21_method_1_code_110)
      have Fw222 := f220.same W222
      have N222 := Fr.snoc X222 N216 g_o
      refine own_st st222 ?_
      have z223 : n0 ≤ h222.size := Nat.le_trans z218 (Keep.of_wr W222).1
      have kk224 : Keep h0 h222 [o] := kk219.wr W222 (Or.inl (List.mem_of_getElem? (i := 0) rfl))
      show own_Go p.tables e below RR (T222.setTop (mkF m 113 #[.val (.ref o), .val (.ref at_), .val (.int (3 : Int32)), .val (.int (0 : Int32)), .val (.int ((w0 + w1) + w2)), .val (.int (3 : Int32)), .val (.int w2)] []))
      refine own_st (fun _ k => XS.aloadN X222.here hx rfl (hb hby own_dprog_21_method_1_code_113) rfl rfl (XS.bipush X222.here hx rfl (hb hby own_dprog_21_method_1_code_114) k)) ?_
      show own_Go p.tables e below RR (T222.setTop (mkF m 116 #[.val (.ref o), .val (.ref at_), .val (.int (3 : Int32)), .val (.int (0 : Int32)), .val (.int ((w0 + w1) + w2)), .val (.int (3 : Int32)), .val (.int w2)] [(.int (16 : Int32)), (.ref o)]))
      obtain ⟨T225, h225, k225, X225, e225, E225, A225, st225⟩ := newP X222 hx hZ (hw _ (List.mem_of_getElem? (i := 0) rfl)) e222 (g := (mkF m 116 #[.val (.ref o), .val (.ref at_), .val (.int (3 : Int32)), .val (.int (0 : Int32)), .val (.int ((w0 + w1) + w2)), .val (.int (3 : Int32)), .val (.int w2)] [(.int (16 : Int32)), (.ref o)])) rfl (hb hby own_dprog_21_method_1_code_116) rfl (by decide) (cap := 16) (by decide) (by decide) (by decide) (by decide)
      obtain ⟨b225, gb225⟩ : ∃ z, z = h222.size := ⟨_, rfl⟩
      rw [← gb225] at A225 st225
      have ge225 : n0 ≤ b225 := Nat.le_trans z223 (Nat.le_of_eq gb225.symm)
      have sz225 : h0.size ≤ b225 := Nat.le_trans kk224.1 (Nat.le_of_eq gb225.symm)
      refine own_st st225 ?_
      have z226 : n0 ≤ h225.size := Nat.le_trans z223 E225.1
      have kk227 : Keep h0 h225 [o] := kk224.ext E225
      have V225 : Arv Z h225 b225 k225 .long (16 : Int32) [(.long (0 : Int64)), (.long (0 : Int64)), (.long (0 : Int64)), (.long (0 : Int64)), (.long (0 : Int64)), (.long (0 : Int64)), (.long (0 : Int64)), (.long (0 : Int64)), (.long (0 : Int64)), (.long (0 : Int64)), (.long (0 : Int64)), (.long (0 : Int64)), (.long (0 : Int64)), (.long (0 : Int64)), (.long (0 : Int64)), (.long (0 : Int64))] (.long (0 : Int64)) := (Arv.new A225 (by decide)).pad (pad_rep [] (.long (0 : Int64)) 16)
      show own_Go p.tables e below RR (T225.setTop (mkF m 118 #[.val (.ref o), .val (.ref at_), .val (.int (3 : Int32)), .val (.int (0 : Int32)), .val (.int ((w0 + w1) + w2)), .val (.int (3 : Int32)), .val (.int w2)] [(.ref b225), (.ref o)]))
      have f228 := (((((((((((((((F_slots.ext E2).other W7 (Or.inr (slot_ne (Or.inl (hw _ (List.mem_of_getElem? (i := 54) rfl))) (Or.inl (hw _ (List.mem_of_getElem? (i := 18) rfl))) (by decide) (t := (.array .long)) (t' := (.array (.array .long))) (by decide) (by decide)))).ext E12).other W17 (Or.inr (slot_ne (Or.inl (hw _ (List.mem_of_getElem? (i := 54) rfl))) (Or.inr (hw _ (List.mem_of_getElem? (i := 21) rfl))) (by decide) (t := (.array .long)) (t' := (.array .int)) (by decide) (by decide)))).ext E20).other W25 (Or.inr (slot_ne (Or.inl (hw _ (List.mem_of_getElem? (i := 54) rfl))) (Or.inr (hw _ (List.mem_of_getElem? (i := 23) rfl))) (by decide) (t := (.array .long)) (t' := (.array .int)) (by decide) (by decide)))).ext E28).other W33 (Or.inr (slot_ne (Or.inl (hw _ (List.mem_of_getElem? (i := 54) rfl))) (Or.inr (hw _ (List.mem_of_getElem? (i := 25) rfl))) (by decide) (t := (.array .long)) (t' := (.array .int)) (by decide) (by decide)))).ext E36).other W41 (Or.inr (slot_ne (Or.inl (hw _ (List.mem_of_getElem? (i := 54) rfl))) (Or.inr (hw _ (List.mem_of_getElem? (i := 27) rfl))) (by decide) (t := (.array .long)) (t' := (.array .long)) (by decide) (by decide)))).keep Kq65 (ninS ne51 (ninS ne53 (ninS ne55 (ninS ne57 nin0))))).keep Kq167 (ninS ne51 (ninS ne53 (ninS ne55 (ninS ne57 nin0))))).keep Kq216 (ninS ne51 (ninS ne53 (ninS ne55 (ninS ne57 nin0))))).other W222 (Or.inr (slot_ne (Or.inl (hw _ (List.mem_of_getElem? (i := 54) rfl))) (Or.inl (hw _ (List.mem_of_getElem? (i := 52) rfl))) (by decide) (t := (.array .long)) (t' := .int) (by decide) (by decide)))).ext E225)
      have f229 := ((f221.wr W222).ext E225)
      obtain ⟨T230, h230, X230, e230, W230, st230⟩ := putF X225 hx hZ hown (host := "") (Or.inl (hw _ (List.mem_of_getElem? (i := 53) rfl))) Via.refl e225 f228 f229 (Or.inl (hw _ (List.mem_of_getElem? (i := 54) rfl))) (hw _ (List.mem_of_getElem? (i := 7) rfl)) (ty := (.array .long)) (by decide) rfl rfl (g := (mkF m 118 #[.val (.ref o), .val (.ref at_), .val (.int (3 : Int32)), .val (.int (0 : Int32)), .val (.int ((w0 + w1) + w2)), .val (.int (3 : Int32)), .val (.int w2)] [(.ref b225), (.ref o)])) rfl rfl (hb hby own_dprog_21_method_1_code_118)
      have Fw230 := f228.same W230
      have N230 := Fr.snoc X230 N222 g_o
      refine own_st st230 ?_
      have z231 : n0 ≤ h230.size := Nat.le_trans z226 (Keep.of_wr W230).1
      have kk232 : Keep h0 h230 [o] := kk227.wr W230 (Or.inl (List.mem_of_getElem? (i := 0) rfl))
      show own_Go p.tables e below RR (T230.setTop (mkF m 121 #[.val (.ref o), .val (.ref at_), .val (.int (3 : Int32)), .val (.int (0 : Int32)), .val (.int ((w0 + w1) + w2)), .val (.int (3 : Int32)), .val (.int w2)] []))
      refine own_st (fun _ k => XS.aloadN X230.here hx rfl (hb hby own_dprog_21_method_1_code_121) rfl rfl k) ?_
      show own_Go p.tables e below RR (T230.setTop (mkF m 122 #[.val (.ref o), .val (.ref at_), .val (.int (3 : Int32)), .val (.int (0 : Int32)), .val (.int ((w0 + w1) + w2)), .val (.int (3 : Int32)), .val (.int w2)] [(.ref o)]))
      obtain ⟨T233, X233, e233, st233⟩ := getF X230 hx hZ hown (host := "") (Or.inl (hw _ (List.mem_of_getElem? (i := 53) rfl))) Via.refl e230 Fw230 (g := (mkF m 122 #[.val (.ref o), .val (.ref at_), .val (.int (3 : Int32)), .val (.int (0 : Int32)), .val (.int ((w0 + w1) + w2)), .val (.int (3 : Int32)), .val (.int w2)] [(.ref o)])) rfl rfl (hb hby own_dprog_21_method_1_code_122)
      refine own_st st233 ?_
      show own_Go p.tables e below RR (T233.setTop (mkF m 125 #[.val (.ref o), .val (.ref at_), .val (.int (3 : Int32)), .val (.int (0 : Int32)), .val (.int ((w0 + w1) + w2)), .val (.int (3 : Int32)), .val (.int w2)] [(.ref b225)]))
      refine own_st (fun _ k => X233.ldc2Long hx hown (mvT hZ (hw _ (List.mem_of_getElem? (i := 55) rfl))) (g := (mkF m 125 #[.val (.ref o), .val (.ref at_), .val (.int (3 : Int32)), .val (.int (0 : Int32)), .val (.int ((w0 + w1) + w2)), .val (.int (3 : Int32)), .val (.int w2)] [(.ref b225)])) rfl (hb hby own_dprog_21_method_1_code_125) _ k) ?_
      show own_Go p.tables e below RR (T233.setTop (mkF m 128 #[.val (.ref o), .val (.ref at_), .val (.int (3 : Int32)), .val (.int (0 : Int32)), .val (.int ((w0 + w1) + w2)), .val (.int (3 : Int32)), .val (.int w2)] [(.long (-1 : Int64)), (.ref b225)]))
      have ne234 : o ≠ b225 := (Nat.ne_of_lt (Nat.lt_of_lt_of_le (f221.wr W222).lt (Nat.le_of_eq gb225.symm)))
      have f235 := (V225.other W230 (Ne.symm ne234))
      obtain ⟨_, _, ⟨T236, L236, k236, n236⟩, -, X236, ⟨Lc236, hQ236, l236, y236, z236⟩, st236⟩ := Jvm.LawKit.callS X233 hx (y := (⟨"java/util/Arrays", "fill", "([JJ)V"⟩ : MethodName)) hown (mvT hZ (hw _ (List.mem_of_getElem? (i := 56) rfl))) (mvT hZ (hw _ (List.mem_of_getElem? (i := 57) rfl))) (mvT hZ (hw _ (List.mem_of_getElem? (i := 58) rfl))) (mvT hZ (hw _ (List.mem_of_getElem? (i := 59) rfl))) (by decide) (backOf (W := 0) (own_rmFL l Z a0 hw [] b225 (-1 : Int64) k225 h230 n0 z231 f235 ge225) hZ (hw _ (List.mem_of_getElem? (i := 59) rfl)) (hw _ (List.mem_of_getElem? (i := 58) rfl)) (by decide) (by decide)) (g := (mkF m 128 #[.val (.ref o), .val (.ref at_), .val (.int (3 : Int32)), .val (.int (0 : Int32)), .val (.int ((w0 + w1) + w2)), .val (.int (3 : Int32)), .val (.int w2)] [(.long (-1 : Int64)), (.ref b225)])) rfl (by rw [hml]; rfl) (argsL := [(.ref b225), (.long (-1 : Int64))]) (rest := []) (lenOf own_pd___JJ_V rfl) rfl (by show 2 * 0 + _ ≤ _; exact Nat.le_of_eq rfl) (hb hby own_dprog_21_method_1_code_128) (fun _ _ => ⟨rfl, e233, (by decide : 6 + 0 ≤ _), (by decide : 29 + 0 ≤ _)⟩)
      dsimp only [Pt.U, Pt.locs, Pt.cells, Pt.slots] at X236 l236 y236 z236 st236 hQ236
      subst l236 y236 z236
      obtain ⟨rfl, Nq236, Kq236⟩ := hQ236
      have N236 := Fr.app N230 Nq236
      refine own_st st236 ?_
      have z237 : n0 ≤ T236.heap.size := Nat.le_trans z231 Kq236.1
      have kk238 : Keep h0 T236.heap [o] := kk232.trans Kq236 (allS (Or.inr sz225) all0)
      show own_Go p.tables e below RR (T236.setTop (mkF m 131 #[.val (.ref o), .val (.ref at_), .val (.int (3 : Int32)), .val (.int (0 : Int32)), .val (.int ((w0 + w1) + w2)), .val (.int (3 : Int32)), .val (.int w2)] []))
      obtain ⟨fs, hrt_, hrun, hended, hW, hsame⟩ := X236.leave (v := none) (fun _ => rfl)
      refine own_fin (X236.returnOut hx Bd.returns (hb hby own_dprog_21_method_1_code_131) hrt_) (hRR _ ⟨_, hrun, hended, _, _, rfl, ?_, ⟨_, rfl⟩, hW, hsame.mono (by decide) (by decide)⟩)
      show own_QIN Z o at_ kt t0 t1 t2 w0 w1 w2 h0 n0 _ T236.heap _
      have f239 := (((((f212.keep Kq216 (ninS ne51 (ninS ne53 (ninS ne55 (ninS ne57 nin0))))).other W222 (Or.inr (slot_ne (Or.inr (hw _ (List.mem_of_getElem? (i := 23) rfl))) (Or.inl (hw _ (List.mem_of_getElem? (i := 52) rfl))) (by decide) (t := (.array .int)) (t' := .int) (by decide) (by decide)))).ext E225).other W230 (Or.inr (slot_ne (Or.inr (hw _ (List.mem_of_getElem? (i := 23) rfl))) (Or.inl (hw _ (List.mem_of_getElem? (i := 54) rfl))) (by decide) (t := (.array .int)) (t' := (.array .long)) (by decide) (by decide)))).keep Kq236 (ninS ne234 nin0))
      have f240 := (((((f213.keep Kq216 (ninS ne51 (ninS ne53 (ninS ne55 (ninS ne57 nin0))))).other W222 (Or.inr (slot_ne (Or.inr (hw _ (List.mem_of_getElem? (i := 25) rfl))) (Or.inl (hw _ (List.mem_of_getElem? (i := 52) rfl))) (by decide) (t := (.array .int)) (t' := .int) (by decide) (by decide)))).ext E225).other W230 (Or.inr (slot_ne (Or.inr (hw _ (List.mem_of_getElem? (i := 25) rfl))) (Or.inl (hw _ (List.mem_of_getElem? (i := 54) rfl))) (by decide) (t := (.array .int)) (t' := (.array .long)) (by decide) (by decide)))).keep Kq236 (ninS ne234 nin0))
      have f241 := (((((f215.keep Kq216 (ninS ne51 (ninS ne53 (ninS ne55 (ninS ne57 nin0))))).other W222 (Or.inr (slot_ne (Or.inr (hw _ (List.mem_of_getElem? (i := 27) rfl))) (Or.inl (hw _ (List.mem_of_getElem? (i := 52) rfl))) (by decide) (t := (.array .long)) (t' := .int) (by decide) (by decide)))).ext E225).other W230 (Or.inr (slot_ne (Or.inr (hw _ (List.mem_of_getElem? (i := 27) rfl))) (Or.inl (hw _ (List.mem_of_getElem? (i := 54) rfl))) (by decide) (t := (.array .long)) (t' := (.array .long)) (by decide) (by decide)))).keep Kq236 (ninS ne234 nin0))
      have f242 := ((f229.wr W230).keep Kq236)
      have ne243 : b20 ≠ b225 := (Nat.ne_of_lt (Nat.lt_of_lt_of_le (Vq0_216.other W222 (Ne.symm ne51)).lt (Nat.le_of_eq gb225.symm)))
      have f244 := ((((Vq0_216.other W222 (Ne.symm ne51)).ext E225).other W230 (Ne.symm ne51)).keep Kq236 (ninS ne243 nin0))
      have ne245 : b28 ≠ b225 := (Nat.ne_of_lt (Nat.lt_of_lt_of_le (Vq1_216.other W222 (Ne.symm ne53)).lt (Nat.le_of_eq gb225.symm)))
      have f246 := ((((Vq1_216.other W222 (Ne.symm ne53)).ext E225).other W230 (Ne.symm ne53)).keep Kq236 (ninS ne245 nin0))
      have ne247 : b36 ≠ b225 := (Nat.ne_of_lt (Nat.lt_of_lt_of_le (Vq3_216.other W222 (Ne.symm ne57)).lt (Nat.le_of_eq gb225.symm)))
      have f248 := ((((Vq3_216.other W222 (Ne.symm ne57)).ext E225).other W230 (Ne.symm ne57)).keep Kq236 (ninS ne247 nin0))
      exact ⟨rfl, N236, kk238, f242, b20, b28, b36, _, _, _, sz20, sz28, sz36, f239, f240, f241, (by have q := f244; first | (simp only [own_wo1, own_wo2, own_sh1, own_sh2, own_us, hc73_76, hc73_174, if_true, if_false]; exact q) | exact q), (by have q := f246; first | (simp only [own_wo1, own_wo2, own_sh1, own_sh2, own_us, hc73_76, hc73_174, if_true, if_false]; exact q) | exact q), (by have q := f248; first | (simp only [own_wo1, own_wo2, own_sh1, own_sh2, own_us, hc73_76, hc73_174, if_true, if_false]; exact q) | exact q)⟩
theorem own_dprog_21_method_4_code_0 : decode prog_21_method_4_code 0 = .ok (.aload_n 1, 1) := by decide +kernel
theorem own_dprog_21_method_4_code_1 : decode prog_21_method_4_code 1 = .ok (.aload_n 0, 1) := by decide +kernel
theorem own_dprog_21_method_4_code_2 : decode prog_21_method_4_code 2 = .ok (.getfield 21, 3) := by decide +kernel
theorem own_dprog_21_method_4_code_5 : decode prog_21_method_4_code 5 = .ok (.iload_n 2, 1) := by decide +kernel
theorem own_dprog_21_method_4_code_6 : decode prog_21_method_4_code 6 = .ok (.iaload, 1) := by decide +kernel
theorem own_dprog_21_method_4_code_7 : decode prog_21_method_4_code 7 = .ok (.laload, 1) := by decide +kernel
theorem own_dprog_21_method_4_code_8 : decode prog_21_method_4_code 8 = .ok (.aload_n 0, 1) := by decide +kernel
theorem own_dprog_21_method_4_code_9 : decode prog_21_method_4_code 9 = .ok (.getfield 24, 3) := by decide +kernel
theorem own_dprog_21_method_4_code_12 : decode prog_21_method_4_code 12 = .ok (.iload_n 2, 1) := by decide +kernel
theorem own_dprog_21_method_4_code_13 : decode prog_21_method_4_code 13 = .ok (.iaload, 1) := by decide +kernel
theorem own_dprog_21_method_4_code_14 : decode prog_21_method_4_code 14 = .ok (.lushr, 1) := by decide +kernel
theorem own_dprog_21_method_4_code_15 : decode prog_21_method_4_code 15 = .ok (.aload_n 0, 1) := by decide +kernel
theorem own_dprog_21_method_4_code_16 : decode prog_21_method_4_code 16 = .ok (.getfield 27, 3) := by decide +kernel
theorem own_dprog_21_method_4_code_19 : decode prog_21_method_4_code 19 = .ok (.iload_n 2, 1) := by decide +kernel
theorem own_dprog_21_method_4_code_20 : decode prog_21_method_4_code 20 = .ok (.laload, 1) := by decide +kernel
theorem own_dprog_21_method_4_code_21 : decode prog_21_method_4_code 21 = .ok (.land, 1) := by decide +kernel
theorem own_dprog_21_method_4_code_22 : decode prog_21_method_4_code 22 = .ok (.lreturn, 1) := by decide +kernel
theorem own_efTK0 (m : MethodId) (o : Addr) (pa : Addr) : entryFrame m #[(.ref o), (.ref pa), (.int (0 : Int32))] 3 = mkF m 0 #[.val (.ref o), .val (.ref pa), .val (.int (0 : Int32))] [] := by first | (simp [entryFrame, mkF, argsToLocals, Value.category]; done) | rfl
def own_QTK0 (Z : State) (o : Addr) (pa : Addr) (kp : ClassId) (x0 : Int64) (x1 : Int64) (x2 : Int64) (aw : Addr) (as_ : Addr) (am : Addr) (kw : ClassId) (ks : ClassId) (km : ClassId) (wo0 : Int32) (wo1 : Int32) (wo2 : Int32) (sh0 : Int32) (sh1 : Int32) (sh2 : Int32) (mk0 : Int64) (mk1 : Int64) (mk2 : Int64) (x : Int64) (h0 : Heap) (n0 : Nat) (rv__ : Option Value) (h : Heap) (rL__ : List Loc) : Prop := rv__ = some (.long (own_tok x sh0 mk0)) ∧ Fr n0 rL__ ∧ h = h0
abbrev own_RTK0 : Room := { frames := 0, cells := 0, slots := 0, locals := 0 }
set_option maxRecDepth 65536 in
set_option maxHeartbeats 40000000 in
theorem own_rmTK0 (l : Launch) (Z : State) (a0 : Array Value) (hw : ∀ d ∈ tables_1, d.before a0 Z = true) (ws : List Jvm.Cond) (o : Addr) (pa : Addr) (kp : ClassId) (x0 : Int64) (x1 : Int64) (x2 : Int64) (aw : Addr) (as_ : Addr) (am : Addr) (kw : ClassId) (ks : ClassId) (km : ClassId) (wo0 : Int32) (wo1 : Int32) (wo2 : Int32) (sh0 : Int32) (sh1 : Int32) (sh2 : Int32) (mk0 : Int64) (mk1 : Int64) (mk2 : Int64) (x : Int64) (h0 : Heap) (n0 : Nat) (Z0 : n0 ≤ h0.size) (Fw : Fld Z h0 o "com/example/nesiph/nesiph/MarkingSet" "wordOf" "[I" (.ref aw)) (Fs : Fld Z h0 o "com/example/nesiph/nesiph/MarkingSet" "shiftOf" "[I" (.ref as_)) (Fm : Fld Z h0 o "com/example/nesiph/nesiph/MarkingSet" "maskOf" "[J" (.ref am)) (Vp : Arv Z h0 pa kp .long (3 : Int32) [(.long x0), (.long x1), (.long x2)] (.long (0 : Int64))) (Vw : Arv Z h0 aw kw .int (3 : Int32) [(.int wo0), (.int wo1), (.int wo2)] (.int (0 : Int32))) (Vs : Arv Z h0 as_ ks .int (3 : Int32) [(.int sh0), (.int sh1), (.int sh2)] (.int (0 : Int32))) (Vm : Arv Z h0 am km .long (3 : Int32) [(.long mk0), (.long mk1), (.long mk2)] (.long (0 : Int64))) (hin : ¬ wo0 < (0 : Int32) ∧ wo0 < (3 : Int32)) (hat : [Value.long x0, Value.long x1, Value.long x2].getD wo0.toNatClampNeg (.long (0 : Int64)) = .long x) :
    MetFree l (⟨"com/example/nesiph/nesiph/MarkingSet", "tokens", "([JI)J"⟩ : MethodName) (head1 (Jvm.Cond.code (⟨"com/example/nesiph/nesiph/MarkingSet", "tokens", "([JI)J"⟩ : MethodName) prog_21_method_4_code 3 (some .long) :: ws) own_RTK0) (fun aa__ U => aa__ = #[(.ref o), (.ref pa), (.int (0 : Int32))] ∧ Z.Warmed39 U.vm ∧ U.heap = h0) (fun _ _ _ _ _ => True) (fun _ U oc_ U' => ∃ rv__ rL__, oc_ = .returned rv__ ∧ own_QTK0 Z o pa kp x0 x1 x2 aw as_ am kw ks km wo0 wo1 wo2 sh0 sh1 sh2 mk0 mk1 mk2 x h0 n0 rv__ U'.heap rL__ ∧ FrameEnd U oc_ U' rL__ own_RTK0.cells own_RTK0.slots) := by
  refine MetFree.of_bodySF (plainFor_of_name own_pn_com_example_nesiph_nesiph_MarkingSet) hisR ?_
  intro p e s m args below meth c s₁ Bd hml0 hP hK
  obtain ⟨rfl, hZ, hh⟩ := hP
  have hx := Bd.exec
  have hby := Bd.bytes
  have hml : c.maxLocals = 3 := hml0
  have hown : s.vm.findClass "com/example/nesiph/nesiph/MarkingSet" = some m.cls := findClass_of_methodNamed Bd.named
  have hnm := (name_of_methodNamed Bd.named Bd.method).1
  have X0 : Stand p l e own_RTK0 s m #[(.ref o), (.ref pa), (.int (0 : Int32))] below meth c s₁ [] 0 0 := Stand.of_body Bd
  have e0 : s₁.heap = h0 := by rw [← hh, Bd.state]; rfl
  have N0 := Fr.nil n0
  refine own_in (fun _ k => castTop (own_efTK0 m o pa) k) ?_
  intro RR hRR
  show own_Go p.tables e below RR (s₁.setTop (mkF m 0 #[.val (.ref o), .val (.ref pa), .val (.int (0 : Int32))] []))
  refine own_st (fun _ k => XS.aloadN X0.here hx rfl (hb hby own_dprog_21_method_4_code_0) rfl rfl (XS.aloadN X0.here hx rfl (hb hby own_dprog_21_method_4_code_1) rfl rfl k)) ?_
  show own_Go p.tables e below RR (s₁.setTop (mkF m 2 #[.val (.ref o), .val (.ref pa), .val (.int (0 : Int32))] [(.ref o), (.ref pa)]))
  obtain ⟨T1, X1, e1, st1⟩ := getF X0 hx hZ hown (host := "") (Or.inl (hw _ (List.mem_of_getElem? (i := 22) rfl))) Via.refl e0 Fw (g := (mkF m 2 #[.val (.ref o), .val (.ref pa), .val (.int (0 : Int32))] [(.ref o), (.ref pa)])) rfl rfl (hb hby own_dprog_21_method_4_code_2)
  refine own_st st1 ?_
  show own_Go p.tables e below RR (T1.setTop (mkF m 5 #[.val (.ref o), .val (.ref pa), .val (.int (0 : Int32))] [(.ref aw), (.ref pa)]))
  refine own_st (fun _ k => XS.iloadN X1.here hx rfl (hb hby own_dprog_21_method_4_code_5) rfl k) ?_
  show own_Go p.tables e below RR (T1.setTop (mkF m 6 #[.val (.ref o), .val (.ref pa), .val (.int (0 : Int32))] [(.int (0 : Int32)), (.ref aw), (.ref pa)]))
  obtain ⟨c2, A2, q2, s2, m2, H2, G2⟩ := id Vw
  have b2 := inb_of (j := (0 : Int32)) s2 ⟨by decide, by decide⟩
  refine own_st (fun _ k => X1.iaload hx (j := (0 : Int32)) (v := (.int wo0)) (by rw [e1]; exact A2.1) (State.isArrayOf_alike hZ.alike A2.2.1) A2.2.2 b2 (Has.at H2 b2 rfl) (g := (mkF m 6 #[.val (.ref o), .val (.ref pa), .val (.int (0 : Int32))] [(.int (0 : Int32)), (.ref aw), (.ref pa)])) rfl rfl (hb hby own_dprog_21_method_4_code_6) _ k) ?_
  show own_Go p.tables e below RR (T1.setTop (mkF m 7 #[.val (.ref o), .val (.ref pa), .val (.int (0 : Int32))] [(.int wo0), (.ref pa)]))
  obtain ⟨c3, A3, q3, s3, m3, H3, G3⟩ := id Vp
  have b3 := inb_of (j := wo0) s3 hin
  refine own_st (fun _ k => X1.laload hx (j := wo0) (v := (.long x)) (by rw [e1]; exact A3.1) (State.isArrayOf_alike hZ.alike A3.2.1) A3.2.2 b3 (Has.at H3 b3 hat) (g := (mkF m 7 #[.val (.ref o), .val (.ref pa), .val (.int (0 : Int32))] [(.int wo0), (.ref pa)])) rfl rfl (hb hby own_dprog_21_method_4_code_7) _ (XS.aloadN X1.here hx rfl (hb hby own_dprog_21_method_4_code_8) rfl rfl k)) ?_
  show own_Go p.tables e below RR (T1.setTop (mkF m 9 #[.val (.ref o), .val (.ref pa), .val (.int (0 : Int32))] [(.ref o), (.long x)]))
  obtain ⟨T4, X4, e4, st4⟩ := getF X1 hx hZ hown (host := "") (Or.inl (hw _ (List.mem_of_getElem? (i := 24) rfl))) Via.refl e1 Fs (g := (mkF m 9 #[.val (.ref o), .val (.ref pa), .val (.int (0 : Int32))] [(.ref o), (.long x)])) rfl rfl (hb hby own_dprog_21_method_4_code_9)
  refine own_st st4 ?_
  show own_Go p.tables e below RR (T4.setTop (mkF m 12 #[.val (.ref o), .val (.ref pa), .val (.int (0 : Int32))] [(.ref as_), (.long x)]))
  refine own_st (fun _ k => XS.iloadN X4.here hx rfl (hb hby own_dprog_21_method_4_code_12) rfl k) ?_
  show own_Go p.tables e below RR (T4.setTop (mkF m 13 #[.val (.ref o), .val (.ref pa), .val (.int (0 : Int32))] [(.int (0 : Int32)), (.ref as_), (.long x)]))
  obtain ⟨c5, A5, q5, s5, m5, H5, G5⟩ := id Vs
  have b5 := inb_of (j := (0 : Int32)) s5 ⟨by decide, by decide⟩
  refine own_st (fun _ k => X4.iaload hx (j := (0 : Int32)) (v := (.int sh0)) (by rw [e4]; exact A5.1) (State.isArrayOf_alike hZ.alike A5.2.1) A5.2.2 b5 (Has.at H5 b5 rfl) (g := (mkF m 13 #[.val (.ref o), .val (.ref pa), .val (.int (0 : Int32))] [(.int (0 : Int32)), (.ref as_), (.long x)])) rfl rfl (hb hby own_dprog_21_method_4_code_13) _ (XS.lushr X4.here hx rfl (hb hby own_dprog_21_method_4_code_14) rfl (XS.aloadN X4.here hx rfl (hb hby own_dprog_21_method_4_code_15) rfl rfl k))) ?_
  show own_Go p.tables e below RR (T4.setTop (mkF m 16 #[.val (.ref o), .val (.ref pa), .val (.int (0 : Int32))] [(.ref o), (.long ((x.toUInt64 >>> (sh0 &&& 0x3f).toInt64.toUInt64).toInt64))]))
  obtain ⟨T6, X6, e6, st6⟩ := getF X4 hx hZ hown (host := "") (Or.inl (hw _ (List.mem_of_getElem? (i := 26) rfl))) Via.refl e4 Fm (g := (mkF m 16 #[.val (.ref o), .val (.ref pa), .val (.int (0 : Int32))] [(.ref o), (.long ((x.toUInt64 >>> (sh0 &&& 0x3f).toInt64.toUInt64).toInt64))])) rfl rfl (hb hby own_dprog_21_method_4_code_16)
  refine own_st st6 ?_
  show own_Go p.tables e below RR (T6.setTop (mkF m 19 #[.val (.ref o), .val (.ref pa), .val (.int (0 : Int32))] [(.ref am), (.long ((x.toUInt64 >>> (sh0 &&& 0x3f).toInt64.toUInt64).toInt64))]))
  refine own_st (fun _ k => XS.iloadN X6.here hx rfl (hb hby own_dprog_21_method_4_code_19) rfl k) ?_
  show own_Go p.tables e below RR (T6.setTop (mkF m 20 #[.val (.ref o), .val (.ref pa), .val (.int (0 : Int32))] [(.int (0 : Int32)), (.ref am), (.long ((x.toUInt64 >>> (sh0 &&& 0x3f).toInt64.toUInt64).toInt64))]))
  obtain ⟨c7, A7, q7, s7, m7, H7, G7⟩ := id Vm
  have b7 := inb_of (j := (0 : Int32)) s7 ⟨by decide, by decide⟩
  refine own_st (fun _ k => X6.laload hx (j := (0 : Int32)) (v := (.long mk0)) (by rw [e6]; exact A7.1) (State.isArrayOf_alike hZ.alike A7.2.1) A7.2.2 b7 (Has.at H7 b7 rfl) (g := (mkF m 20 #[.val (.ref o), .val (.ref pa), .val (.int (0 : Int32))] [(.int (0 : Int32)), (.ref am), (.long ((x.toUInt64 >>> (sh0 &&& 0x3f).toInt64.toUInt64).toInt64))])) rfl rfl (hb hby own_dprog_21_method_4_code_20) _ (XS.land X6.here hx rfl (hb hby own_dprog_21_method_4_code_21) rfl k)) ?_
  show own_Go p.tables e below RR (T6.setTop (mkF m 22 #[.val (.ref o), .val (.ref pa), .val (.int (0 : Int32))] [(.long (((x.toUInt64 >>> (sh0 &&& 0x3f).toInt64.toUInt64).toInt64) &&& mk0))]))
  obtain ⟨fs, hrt_, hrun, hended, hW, hsame⟩ := X6.leave (v := some (.long (((x.toUInt64 >>> (sh0 &&& 0x3f).toInt64.toUInt64).toInt64) &&& mk0))) (fun h => by rw [Bd.returns] at h; cases h)
  refine own_fin (retOut X6 hx Bd.returns rfl (Or.inr (Or.inl ⟨rfl, rfl, _, rfl⟩)) (hb hby own_dprog_21_method_4_code_22) hrt_) (hRR _ ⟨_, hrun, hended, _, _, rfl, ?_, ⟨_, rfl⟩, hW, hsame.mono (by decide) (by decide)⟩)
  show own_QTK0 Z o pa kp x0 x1 x2 aw as_ am kw ks km wo0 wo1 wo2 sh0 sh1 sh2 mk0 mk1 mk2 x h0 n0 _ T6.heap _
  rw [e6]
  exact ⟨rfl, N0, rfl⟩
theorem own_efTK1 (m : MethodId) (o : Addr) (pa : Addr) : entryFrame m #[(.ref o), (.ref pa), (.int (1 : Int32))] 3 = mkF m 0 #[.val (.ref o), .val (.ref pa), .val (.int (1 : Int32))] [] := by first | (simp [entryFrame, mkF, argsToLocals, Value.category]; done) | rfl
def own_QTK1 (Z : State) (o : Addr) (pa : Addr) (kp : ClassId) (x0 : Int64) (x1 : Int64) (x2 : Int64) (aw : Addr) (as_ : Addr) (am : Addr) (kw : ClassId) (ks : ClassId) (km : ClassId) (wo0 : Int32) (wo1 : Int32) (wo2 : Int32) (sh0 : Int32) (sh1 : Int32) (sh2 : Int32) (mk0 : Int64) (mk1 : Int64) (mk2 : Int64) (x : Int64) (h0 : Heap) (n0 : Nat) (rv__ : Option Value) (h : Heap) (rL__ : List Loc) : Prop := rv__ = some (.long (own_tok x sh1 mk1)) ∧ Fr n0 rL__ ∧ h = h0
abbrev own_RTK1 : Room := { frames := 0, cells := 0, slots := 0, locals := 0 }
set_option maxRecDepth 65536 in
set_option maxHeartbeats 40000000 in
theorem own_rmTK1 (l : Launch) (Z : State) (a0 : Array Value) (hw : ∀ d ∈ tables_1, d.before a0 Z = true) (ws : List Jvm.Cond) (o : Addr) (pa : Addr) (kp : ClassId) (x0 : Int64) (x1 : Int64) (x2 : Int64) (aw : Addr) (as_ : Addr) (am : Addr) (kw : ClassId) (ks : ClassId) (km : ClassId) (wo0 : Int32) (wo1 : Int32) (wo2 : Int32) (sh0 : Int32) (sh1 : Int32) (sh2 : Int32) (mk0 : Int64) (mk1 : Int64) (mk2 : Int64) (x : Int64) (h0 : Heap) (n0 : Nat) (Z0 : n0 ≤ h0.size) (Fw : Fld Z h0 o "com/example/nesiph/nesiph/MarkingSet" "wordOf" "[I" (.ref aw)) (Fs : Fld Z h0 o "com/example/nesiph/nesiph/MarkingSet" "shiftOf" "[I" (.ref as_)) (Fm : Fld Z h0 o "com/example/nesiph/nesiph/MarkingSet" "maskOf" "[J" (.ref am)) (Vp : Arv Z h0 pa kp .long (3 : Int32) [(.long x0), (.long x1), (.long x2)] (.long (0 : Int64))) (Vw : Arv Z h0 aw kw .int (3 : Int32) [(.int wo0), (.int wo1), (.int wo2)] (.int (0 : Int32))) (Vs : Arv Z h0 as_ ks .int (3 : Int32) [(.int sh0), (.int sh1), (.int sh2)] (.int (0 : Int32))) (Vm : Arv Z h0 am km .long (3 : Int32) [(.long mk0), (.long mk1), (.long mk2)] (.long (0 : Int64))) (hin : ¬ wo1 < (0 : Int32) ∧ wo1 < (3 : Int32)) (hat : [Value.long x0, Value.long x1, Value.long x2].getD wo1.toNatClampNeg (.long (0 : Int64)) = .long x) :
    MetFree l (⟨"com/example/nesiph/nesiph/MarkingSet", "tokens", "([JI)J"⟩ : MethodName) (head1 (Jvm.Cond.code (⟨"com/example/nesiph/nesiph/MarkingSet", "tokens", "([JI)J"⟩ : MethodName) prog_21_method_4_code 3 (some .long) :: ws) own_RTK1) (fun aa__ U => aa__ = #[(.ref o), (.ref pa), (.int (1 : Int32))] ∧ Z.Warmed39 U.vm ∧ U.heap = h0) (fun _ _ _ _ _ => True) (fun _ U oc_ U' => ∃ rv__ rL__, oc_ = .returned rv__ ∧ own_QTK1 Z o pa kp x0 x1 x2 aw as_ am kw ks km wo0 wo1 wo2 sh0 sh1 sh2 mk0 mk1 mk2 x h0 n0 rv__ U'.heap rL__ ∧ FrameEnd U oc_ U' rL__ own_RTK1.cells own_RTK1.slots) := by
  refine MetFree.of_bodySF (plainFor_of_name own_pn_com_example_nesiph_nesiph_MarkingSet) hisR ?_
  intro p e s m args below meth c s₁ Bd hml0 hP hK
  obtain ⟨rfl, hZ, hh⟩ := hP
  have hx := Bd.exec
  have hby := Bd.bytes
  have hml : c.maxLocals = 3 := hml0
  have hown : s.vm.findClass "com/example/nesiph/nesiph/MarkingSet" = some m.cls := findClass_of_methodNamed Bd.named
  have hnm := (name_of_methodNamed Bd.named Bd.method).1
  have X0 : Stand p l e own_RTK1 s m #[(.ref o), (.ref pa), (.int (1 : Int32))] below meth c s₁ [] 0 0 := Stand.of_body Bd
  have e0 : s₁.heap = h0 := by rw [← hh, Bd.state]; rfl
  have N0 := Fr.nil n0
  refine own_in (fun _ k => castTop (own_efTK1 m o pa) k) ?_
  intro RR hRR
  show own_Go p.tables e below RR (s₁.setTop (mkF m 0 #[.val (.ref o), .val (.ref pa), .val (.int (1 : Int32))] []))
  refine own_st (fun _ k => XS.aloadN X0.here hx rfl (hb hby own_dprog_21_method_4_code_0) rfl rfl (XS.aloadN X0.here hx rfl (hb hby own_dprog_21_method_4_code_1) rfl rfl k)) ?_
  show own_Go p.tables e below RR (s₁.setTop (mkF m 2 #[.val (.ref o), .val (.ref pa), .val (.int (1 : Int32))] [(.ref o), (.ref pa)]))
  obtain ⟨T1, X1, e1, st1⟩ := getF X0 hx hZ hown (host := "") (Or.inl (hw _ (List.mem_of_getElem? (i := 22) rfl))) Via.refl e0 Fw (g := (mkF m 2 #[.val (.ref o), .val (.ref pa), .val (.int (1 : Int32))] [(.ref o), (.ref pa)])) rfl rfl (hb hby own_dprog_21_method_4_code_2)
  refine own_st st1 ?_
  show own_Go p.tables e below RR (T1.setTop (mkF m 5 #[.val (.ref o), .val (.ref pa), .val (.int (1 : Int32))] [(.ref aw), (.ref pa)]))
  refine own_st (fun _ k => XS.iloadN X1.here hx rfl (hb hby own_dprog_21_method_4_code_5) rfl k) ?_
  show own_Go p.tables e below RR (T1.setTop (mkF m 6 #[.val (.ref o), .val (.ref pa), .val (.int (1 : Int32))] [(.int (1 : Int32)), (.ref aw), (.ref pa)]))
  obtain ⟨c2, A2, q2, s2, m2, H2, G2⟩ := id Vw
  have b2 := inb_of (j := (1 : Int32)) s2 ⟨by decide, by decide⟩
  refine own_st (fun _ k => X1.iaload hx (j := (1 : Int32)) (v := (.int wo1)) (by rw [e1]; exact A2.1) (State.isArrayOf_alike hZ.alike A2.2.1) A2.2.2 b2 (Has.at H2 b2 rfl) (g := (mkF m 6 #[.val (.ref o), .val (.ref pa), .val (.int (1 : Int32))] [(.int (1 : Int32)), (.ref aw), (.ref pa)])) rfl rfl (hb hby own_dprog_21_method_4_code_6) _ k) ?_
  show own_Go p.tables e below RR (T1.setTop (mkF m 7 #[.val (.ref o), .val (.ref pa), .val (.int (1 : Int32))] [(.int wo1), (.ref pa)]))
  obtain ⟨c3, A3, q3, s3, m3, H3, G3⟩ := id Vp
  have b3 := inb_of (j := wo1) s3 hin
  refine own_st (fun _ k => X1.laload hx (j := wo1) (v := (.long x)) (by rw [e1]; exact A3.1) (State.isArrayOf_alike hZ.alike A3.2.1) A3.2.2 b3 (Has.at H3 b3 hat) (g := (mkF m 7 #[.val (.ref o), .val (.ref pa), .val (.int (1 : Int32))] [(.int wo1), (.ref pa)])) rfl rfl (hb hby own_dprog_21_method_4_code_7) _ (XS.aloadN X1.here hx rfl (hb hby own_dprog_21_method_4_code_8) rfl rfl k)) ?_
  show own_Go p.tables e below RR (T1.setTop (mkF m 9 #[.val (.ref o), .val (.ref pa), .val (.int (1 : Int32))] [(.ref o), (.long x)]))
  obtain ⟨T4, X4, e4, st4⟩ := getF X1 hx hZ hown (host := "") (Or.inl (hw _ (List.mem_of_getElem? (i := 24) rfl))) Via.refl e1 Fs (g := (mkF m 9 #[.val (.ref o), .val (.ref pa), .val (.int (1 : Int32))] [(.ref o), (.long x)])) rfl rfl (hb hby own_dprog_21_method_4_code_9)
  refine own_st st4 ?_
  show own_Go p.tables e below RR (T4.setTop (mkF m 12 #[.val (.ref o), .val (.ref pa), .val (.int (1 : Int32))] [(.ref as_), (.long x)]))
  refine own_st (fun _ k => XS.iloadN X4.here hx rfl (hb hby own_dprog_21_method_4_code_12) rfl k) ?_
  show own_Go p.tables e below RR (T4.setTop (mkF m 13 #[.val (.ref o), .val (.ref pa), .val (.int (1 : Int32))] [(.int (1 : Int32)), (.ref as_), (.long x)]))
  obtain ⟨c5, A5, q5, s5, m5, H5, G5⟩ := id Vs
  have b5 := inb_of (j := (1 : Int32)) s5 ⟨by decide, by decide⟩
  refine own_st (fun _ k => X4.iaload hx (j := (1 : Int32)) (v := (.int sh1)) (by rw [e4]; exact A5.1) (State.isArrayOf_alike hZ.alike A5.2.1) A5.2.2 b5 (Has.at H5 b5 rfl) (g := (mkF m 13 #[.val (.ref o), .val (.ref pa), .val (.int (1 : Int32))] [(.int (1 : Int32)), (.ref as_), (.long x)])) rfl rfl (hb hby own_dprog_21_method_4_code_13) _ (XS.lushr X4.here hx rfl (hb hby own_dprog_21_method_4_code_14) rfl (XS.aloadN X4.here hx rfl (hb hby own_dprog_21_method_4_code_15) rfl rfl k))) ?_
  show own_Go p.tables e below RR (T4.setTop (mkF m 16 #[.val (.ref o), .val (.ref pa), .val (.int (1 : Int32))] [(.ref o), (.long ((x.toUInt64 >>> (sh1 &&& 0x3f).toInt64.toUInt64).toInt64))]))
  obtain ⟨T6, X6, e6, st6⟩ := getF X4 hx hZ hown (host := "") (Or.inl (hw _ (List.mem_of_getElem? (i := 26) rfl))) Via.refl e4 Fm (g := (mkF m 16 #[.val (.ref o), .val (.ref pa), .val (.int (1 : Int32))] [(.ref o), (.long ((x.toUInt64 >>> (sh1 &&& 0x3f).toInt64.toUInt64).toInt64))])) rfl rfl (hb hby own_dprog_21_method_4_code_16)
  refine own_st st6 ?_
  show own_Go p.tables e below RR (T6.setTop (mkF m 19 #[.val (.ref o), .val (.ref pa), .val (.int (1 : Int32))] [(.ref am), (.long ((x.toUInt64 >>> (sh1 &&& 0x3f).toInt64.toUInt64).toInt64))]))
  refine own_st (fun _ k => XS.iloadN X6.here hx rfl (hb hby own_dprog_21_method_4_code_19) rfl k) ?_
  show own_Go p.tables e below RR (T6.setTop (mkF m 20 #[.val (.ref o), .val (.ref pa), .val (.int (1 : Int32))] [(.int (1 : Int32)), (.ref am), (.long ((x.toUInt64 >>> (sh1 &&& 0x3f).toInt64.toUInt64).toInt64))]))
  obtain ⟨c7, A7, q7, s7, m7, H7, G7⟩ := id Vm
  have b7 := inb_of (j := (1 : Int32)) s7 ⟨by decide, by decide⟩
  refine own_st (fun _ k => X6.laload hx (j := (1 : Int32)) (v := (.long mk1)) (by rw [e6]; exact A7.1) (State.isArrayOf_alike hZ.alike A7.2.1) A7.2.2 b7 (Has.at H7 b7 rfl) (g := (mkF m 20 #[.val (.ref o), .val (.ref pa), .val (.int (1 : Int32))] [(.int (1 : Int32)), (.ref am), (.long ((x.toUInt64 >>> (sh1 &&& 0x3f).toInt64.toUInt64).toInt64))])) rfl rfl (hb hby own_dprog_21_method_4_code_20) _ (XS.land X6.here hx rfl (hb hby own_dprog_21_method_4_code_21) rfl k)) ?_
  show own_Go p.tables e below RR (T6.setTop (mkF m 22 #[.val (.ref o), .val (.ref pa), .val (.int (1 : Int32))] [(.long (((x.toUInt64 >>> (sh1 &&& 0x3f).toInt64.toUInt64).toInt64) &&& mk1))]))
  obtain ⟨fs, hrt_, hrun, hended, hW, hsame⟩ := X6.leave (v := some (.long (((x.toUInt64 >>> (sh1 &&& 0x3f).toInt64.toUInt64).toInt64) &&& mk1))) (fun h => by rw [Bd.returns] at h; cases h)
  refine own_fin (retOut X6 hx Bd.returns rfl (Or.inr (Or.inl ⟨rfl, rfl, _, rfl⟩)) (hb hby own_dprog_21_method_4_code_22) hrt_) (hRR _ ⟨_, hrun, hended, _, _, rfl, ?_, ⟨_, rfl⟩, hW, hsame.mono (by decide) (by decide)⟩)
  show own_QTK1 Z o pa kp x0 x1 x2 aw as_ am kw ks km wo0 wo1 wo2 sh0 sh1 sh2 mk0 mk1 mk2 x h0 n0 _ T6.heap _
  rw [e6]
  exact ⟨rfl, N0, rfl⟩
theorem own_efTK2 (m : MethodId) (o : Addr) (pa : Addr) : entryFrame m #[(.ref o), (.ref pa), (.int (2 : Int32))] 3 = mkF m 0 #[.val (.ref o), .val (.ref pa), .val (.int (2 : Int32))] [] := by first | (simp [entryFrame, mkF, argsToLocals, Value.category]; done) | rfl
def own_QTK2 (Z : State) (o : Addr) (pa : Addr) (kp : ClassId) (x0 : Int64) (x1 : Int64) (x2 : Int64) (aw : Addr) (as_ : Addr) (am : Addr) (kw : ClassId) (ks : ClassId) (km : ClassId) (wo0 : Int32) (wo1 : Int32) (wo2 : Int32) (sh0 : Int32) (sh1 : Int32) (sh2 : Int32) (mk0 : Int64) (mk1 : Int64) (mk2 : Int64) (x : Int64) (h0 : Heap) (n0 : Nat) (rv__ : Option Value) (h : Heap) (rL__ : List Loc) : Prop := rv__ = some (.long (own_tok x sh2 mk2)) ∧ Fr n0 rL__ ∧ h = h0
abbrev own_RTK2 : Room := { frames := 0, cells := 0, slots := 0, locals := 0 }
set_option maxRecDepth 65536 in
set_option maxHeartbeats 40000000 in
theorem own_rmTK2 (l : Launch) (Z : State) (a0 : Array Value) (hw : ∀ d ∈ tables_1, d.before a0 Z = true) (ws : List Jvm.Cond) (o : Addr) (pa : Addr) (kp : ClassId) (x0 : Int64) (x1 : Int64) (x2 : Int64) (aw : Addr) (as_ : Addr) (am : Addr) (kw : ClassId) (ks : ClassId) (km : ClassId) (wo0 : Int32) (wo1 : Int32) (wo2 : Int32) (sh0 : Int32) (sh1 : Int32) (sh2 : Int32) (mk0 : Int64) (mk1 : Int64) (mk2 : Int64) (x : Int64) (h0 : Heap) (n0 : Nat) (Z0 : n0 ≤ h0.size) (Fw : Fld Z h0 o "com/example/nesiph/nesiph/MarkingSet" "wordOf" "[I" (.ref aw)) (Fs : Fld Z h0 o "com/example/nesiph/nesiph/MarkingSet" "shiftOf" "[I" (.ref as_)) (Fm : Fld Z h0 o "com/example/nesiph/nesiph/MarkingSet" "maskOf" "[J" (.ref am)) (Vp : Arv Z h0 pa kp .long (3 : Int32) [(.long x0), (.long x1), (.long x2)] (.long (0 : Int64))) (Vw : Arv Z h0 aw kw .int (3 : Int32) [(.int wo0), (.int wo1), (.int wo2)] (.int (0 : Int32))) (Vs : Arv Z h0 as_ ks .int (3 : Int32) [(.int sh0), (.int sh1), (.int sh2)] (.int (0 : Int32))) (Vm : Arv Z h0 am km .long (3 : Int32) [(.long mk0), (.long mk1), (.long mk2)] (.long (0 : Int64))) (hin : ¬ wo2 < (0 : Int32) ∧ wo2 < (3 : Int32)) (hat : [Value.long x0, Value.long x1, Value.long x2].getD wo2.toNatClampNeg (.long (0 : Int64)) = .long x) :
    MetFree l (⟨"com/example/nesiph/nesiph/MarkingSet", "tokens", "([JI)J"⟩ : MethodName) (head1 (Jvm.Cond.code (⟨"com/example/nesiph/nesiph/MarkingSet", "tokens", "([JI)J"⟩ : MethodName) prog_21_method_4_code 3 (some .long) :: ws) own_RTK2) (fun aa__ U => aa__ = #[(.ref o), (.ref pa), (.int (2 : Int32))] ∧ Z.Warmed39 U.vm ∧ U.heap = h0) (fun _ _ _ _ _ => True) (fun _ U oc_ U' => ∃ rv__ rL__, oc_ = .returned rv__ ∧ own_QTK2 Z o pa kp x0 x1 x2 aw as_ am kw ks km wo0 wo1 wo2 sh0 sh1 sh2 mk0 mk1 mk2 x h0 n0 rv__ U'.heap rL__ ∧ FrameEnd U oc_ U' rL__ own_RTK2.cells own_RTK2.slots) := by
  refine MetFree.of_bodySF (plainFor_of_name own_pn_com_example_nesiph_nesiph_MarkingSet) hisR ?_
  intro p e s m args below meth c s₁ Bd hml0 hP hK
  obtain ⟨rfl, hZ, hh⟩ := hP
  have hx := Bd.exec
  have hby := Bd.bytes
  have hml : c.maxLocals = 3 := hml0
  have hown : s.vm.findClass "com/example/nesiph/nesiph/MarkingSet" = some m.cls := findClass_of_methodNamed Bd.named
  have hnm := (name_of_methodNamed Bd.named Bd.method).1
  have X0 : Stand p l e own_RTK2 s m #[(.ref o), (.ref pa), (.int (2 : Int32))] below meth c s₁ [] 0 0 := Stand.of_body Bd
  have e0 : s₁.heap = h0 := by rw [← hh, Bd.state]; rfl
  have N0 := Fr.nil n0
  refine own_in (fun _ k => castTop (own_efTK2 m o pa) k) ?_
  intro RR hRR
  show own_Go p.tables e below RR (s₁.setTop (mkF m 0 #[.val (.ref o), .val (.ref pa), .val (.int (2 : Int32))] []))
  refine own_st (fun _ k => XS.aloadN X0.here hx rfl (hb hby own_dprog_21_method_4_code_0) rfl rfl (XS.aloadN X0.here hx rfl (hb hby own_dprog_21_method_4_code_1) rfl rfl k)) ?_
  show own_Go p.tables e below RR (s₁.setTop (mkF m 2 #[.val (.ref o), .val (.ref pa), .val (.int (2 : Int32))] [(.ref o), (.ref pa)]))
  obtain ⟨T1, X1, e1, st1⟩ := getF X0 hx hZ hown (host := "") (Or.inl (hw _ (List.mem_of_getElem? (i := 22) rfl))) Via.refl e0 Fw (g := (mkF m 2 #[.val (.ref o), .val (.ref pa), .val (.int (2 : Int32))] [(.ref o), (.ref pa)])) rfl rfl (hb hby own_dprog_21_method_4_code_2)
  refine own_st st1 ?_
  show own_Go p.tables e below RR (T1.setTop (mkF m 5 #[.val (.ref o), .val (.ref pa), .val (.int (2 : Int32))] [(.ref aw), (.ref pa)]))
  refine own_st (fun _ k => XS.iloadN X1.here hx rfl (hb hby own_dprog_21_method_4_code_5) rfl k) ?_
  show own_Go p.tables e below RR (T1.setTop (mkF m 6 #[.val (.ref o), .val (.ref pa), .val (.int (2 : Int32))] [(.int (2 : Int32)), (.ref aw), (.ref pa)]))
  obtain ⟨c2, A2, q2, s2, m2, H2, G2⟩ := id Vw
  have b2 := inb_of (j := (2 : Int32)) s2 ⟨by decide, by decide⟩
  refine own_st (fun _ k => X1.iaload hx (j := (2 : Int32)) (v := (.int wo2)) (by rw [e1]; exact A2.1) (State.isArrayOf_alike hZ.alike A2.2.1) A2.2.2 b2 (Has.at H2 b2 rfl) (g := (mkF m 6 #[.val (.ref o), .val (.ref pa), .val (.int (2 : Int32))] [(.int (2 : Int32)), (.ref aw), (.ref pa)])) rfl rfl (hb hby own_dprog_21_method_4_code_6) _ k) ?_
  show own_Go p.tables e below RR (T1.setTop (mkF m 7 #[.val (.ref o), .val (.ref pa), .val (.int (2 : Int32))] [(.int wo2), (.ref pa)]))
  obtain ⟨c3, A3, q3, s3, m3, H3, G3⟩ := id Vp
  have b3 := inb_of (j := wo2) s3 hin
  refine own_st (fun _ k => X1.laload hx (j := wo2) (v := (.long x)) (by rw [e1]; exact A3.1) (State.isArrayOf_alike hZ.alike A3.2.1) A3.2.2 b3 (Has.at H3 b3 hat) (g := (mkF m 7 #[.val (.ref o), .val (.ref pa), .val (.int (2 : Int32))] [(.int wo2), (.ref pa)])) rfl rfl (hb hby own_dprog_21_method_4_code_7) _ (XS.aloadN X1.here hx rfl (hb hby own_dprog_21_method_4_code_8) rfl rfl k)) ?_
  show own_Go p.tables e below RR (T1.setTop (mkF m 9 #[.val (.ref o), .val (.ref pa), .val (.int (2 : Int32))] [(.ref o), (.long x)]))
  obtain ⟨T4, X4, e4, st4⟩ := getF X1 hx hZ hown (host := "") (Or.inl (hw _ (List.mem_of_getElem? (i := 24) rfl))) Via.refl e1 Fs (g := (mkF m 9 #[.val (.ref o), .val (.ref pa), .val (.int (2 : Int32))] [(.ref o), (.long x)])) rfl rfl (hb hby own_dprog_21_method_4_code_9)
  refine own_st st4 ?_
  show own_Go p.tables e below RR (T4.setTop (mkF m 12 #[.val (.ref o), .val (.ref pa), .val (.int (2 : Int32))] [(.ref as_), (.long x)]))
  refine own_st (fun _ k => XS.iloadN X4.here hx rfl (hb hby own_dprog_21_method_4_code_12) rfl k) ?_
  show own_Go p.tables e below RR (T4.setTop (mkF m 13 #[.val (.ref o), .val (.ref pa), .val (.int (2 : Int32))] [(.int (2 : Int32)), (.ref as_), (.long x)]))
  obtain ⟨c5, A5, q5, s5, m5, H5, G5⟩ := id Vs
  have b5 := inb_of (j := (2 : Int32)) s5 ⟨by decide, by decide⟩
  refine own_st (fun _ k => X4.iaload hx (j := (2 : Int32)) (v := (.int sh2)) (by rw [e4]; exact A5.1) (State.isArrayOf_alike hZ.alike A5.2.1) A5.2.2 b5 (Has.at H5 b5 rfl) (g := (mkF m 13 #[.val (.ref o), .val (.ref pa), .val (.int (2 : Int32))] [(.int (2 : Int32)), (.ref as_), (.long x)])) rfl rfl (hb hby own_dprog_21_method_4_code_13) _ (XS.lushr X4.here hx rfl (hb hby own_dprog_21_method_4_code_14) rfl (XS.aloadN X4.here hx rfl (hb hby own_dprog_21_method_4_code_15) rfl rfl k))) ?_
  show own_Go p.tables e below RR (T4.setTop (mkF m 16 #[.val (.ref o), .val (.ref pa), .val (.int (2 : Int32))] [(.ref o), (.long ((x.toUInt64 >>> (sh2 &&& 0x3f).toInt64.toUInt64).toInt64))]))
  obtain ⟨T6, X6, e6, st6⟩ := getF X4 hx hZ hown (host := "") (Or.inl (hw _ (List.mem_of_getElem? (i := 26) rfl))) Via.refl e4 Fm (g := (mkF m 16 #[.val (.ref o), .val (.ref pa), .val (.int (2 : Int32))] [(.ref o), (.long ((x.toUInt64 >>> (sh2 &&& 0x3f).toInt64.toUInt64).toInt64))])) rfl rfl (hb hby own_dprog_21_method_4_code_16)
  refine own_st st6 ?_
  show own_Go p.tables e below RR (T6.setTop (mkF m 19 #[.val (.ref o), .val (.ref pa), .val (.int (2 : Int32))] [(.ref am), (.long ((x.toUInt64 >>> (sh2 &&& 0x3f).toInt64.toUInt64).toInt64))]))
  refine own_st (fun _ k => XS.iloadN X6.here hx rfl (hb hby own_dprog_21_method_4_code_19) rfl k) ?_
  show own_Go p.tables e below RR (T6.setTop (mkF m 20 #[.val (.ref o), .val (.ref pa), .val (.int (2 : Int32))] [(.int (2 : Int32)), (.ref am), (.long ((x.toUInt64 >>> (sh2 &&& 0x3f).toInt64.toUInt64).toInt64))]))
  obtain ⟨c7, A7, q7, s7, m7, H7, G7⟩ := id Vm
  have b7 := inb_of (j := (2 : Int32)) s7 ⟨by decide, by decide⟩
  refine own_st (fun _ k => X6.laload hx (j := (2 : Int32)) (v := (.long mk2)) (by rw [e6]; exact A7.1) (State.isArrayOf_alike hZ.alike A7.2.1) A7.2.2 b7 (Has.at H7 b7 rfl) (g := (mkF m 20 #[.val (.ref o), .val (.ref pa), .val (.int (2 : Int32))] [(.int (2 : Int32)), (.ref am), (.long ((x.toUInt64 >>> (sh2 &&& 0x3f).toInt64.toUInt64).toInt64))])) rfl rfl (hb hby own_dprog_21_method_4_code_20) _ (XS.land X6.here hx rfl (hb hby own_dprog_21_method_4_code_21) rfl k)) ?_
  show own_Go p.tables e below RR (T6.setTop (mkF m 22 #[.val (.ref o), .val (.ref pa), .val (.int (2 : Int32))] [(.long (((x.toUInt64 >>> (sh2 &&& 0x3f).toInt64.toUInt64).toInt64) &&& mk2))]))
  obtain ⟨fs, hrt_, hrun, hended, hW, hsame⟩ := X6.leave (v := some (.long (((x.toUInt64 >>> (sh2 &&& 0x3f).toInt64.toUInt64).toInt64) &&& mk2))) (fun h => by rw [Bd.returns] at h; cases h)
  refine own_fin (retOut X6 hx Bd.returns rfl (Or.inr (Or.inl ⟨rfl, rfl, _, rfl⟩)) (hb hby own_dprog_21_method_4_code_22) hrt_) (hRR _ ⟨_, hrun, hended, _, _, rfl, ?_, ⟨_, rfl⟩, hW, hsame.mono (by decide) (by decide)⟩)
  show own_QTK2 Z o pa kp x0 x1 x2 aw as_ am kw ks km wo0 wo1 wo2 sh0 sh1 sh2 mk0 mk1 mk2 x h0 n0 _ T6.heap _
  rw [e6]
  exact ⟨rfl, N0, rfl⟩
def own_put (x : Int64) (s : Int32) (m t : Int64) : Int64 := (x &&& ((m <<< (s &&& 0x3f).toInt64) ^^^ (-1 : Int64))) ||| (t <<< (s &&& 0x3f).toInt64)
def own_Fit (t : Int64) (w : Int32) : Prop := ∀ i, w.toInt.toNat ≤ i → t.toBitVec.getLsbD i = false
theorem own_put_bit {x t : Int64} {s w : Int32} {S W : Nat} (hs : s.toInt = (S : Int)) (hw : w.toInt = (W : Int)) (h2 : W ≤ 63) (h3 : S + W ≤ 64) (h4 : S < 64) (ht : own_Fit t w) (i : Nat) (hi : i < 64) :
    (own_put x s (own_low w) t).toBitVec.getLsbD i = if S ≤ i ∧ i < S + W then t.toBitVec.getLsbD (i - S) else x.toBitVec.getLsbD i := by
  unfold own_put
  show ((x.toBitVec &&& ((own_low w <<< (s &&& 0x3f).toInt64).toBitVec ^^^ (-1 : Int64).toBitVec)) ||| (t <<< (s &&& 0x3f).toInt64).toBitVec).getLsbD i = _
  rw [own_lshl_bv hs h4, own_lshl_bv hs h4]
  have e1 : (-1 : Int64).toBitVec = BitVec.allOnes 64 := by decide
  rw [e1]
  simp only [BitVec.getLsbD_or, BitVec.getLsbD_and, BitVec.getLsbD_xor, BitVec.getLsbD_allOnes, BitVec.getLsbD_shiftLeft, own_low_bit hw (by omega), hi]
  have hW : w.toInt.toNat = W := by omega
  by_cases c : S ≤ i ∧ i < S + W
  · rw [if_pos c]
    have c1 : ¬ i < S := by omega
    have c2 : i - S < W := by omega
    simp [c1, c2]
  · rw [if_neg c]
    by_cases c1 : i < S
    · simp [c1]
    · have c2 : ¬ i - S < W := by omega
      have := ht (i - S) (by omega)
      simp [c1, c2, this]
theorem own_tok_bit {x : Int64} {s w : Int32} {S W : Nat} (hs : s.toInt = (S : Int)) (hw : w.toInt = (W : Int)) (h2 : W ≤ 63) (h4 : S < 64) (i : Nat) : (own_tok x s (own_low w)).toBitVec.getLsbD i = (x.toBitVec.getLsbD (S + i) && decide (i < W)) := by
  unfold own_tok
  show (((x.toUInt64 >>> (s &&& 0x3f).toInt64.toUInt64).toInt64).toBitVec &&& (own_low w).toBitVec).getLsbD i = _
  rw [own_lushr_bv hs h4, BitVec.getLsbD_and, own_low_bit hw (by omega), BitVec.getLsbD_ushiftRight]
theorem own_tok_fit {x : Int64} {s w : Int32} (hs : 0 ≤ s.toInt) (hw : 1 ≤ w.toInt ∧ w.toInt ≤ 63) (h3 : s.toInt + w.toInt ≤ 64) : own_Fit (own_tok x s (own_low w)) w := fun i hi => by
  rw [own_tok_bit (S := s.toInt.toNat) (W := w.toInt.toNat) (by omega) (by omega) (by omega) (by omega)]
  have : ¬ i < w.toInt.toNat := by omega
  rw [decide_eq_false this, Bool.and_false]
theorem own_and_fit {t : Int64} {w : Int32} (hw : 1 ≤ w.toInt ∧ w.toInt ≤ 63) : own_Fit (t &&& own_low w) w := fun i hi => by
  show (t.toBitVec &&& (own_low w).toBitVec).getLsbD i = false
  rw [BitVec.getLsbD_and, own_low_bit (k := w.toInt.toNat) (by omega) (by omega)]
  have : ¬ i < w.toInt.toNat := by omega
  rw [decide_eq_false this, Bool.and_false]
theorem own_same {x t : Int64} {s w : Int32} (hs : 0 ≤ s.toInt) (hw : 1 ≤ w.toInt ∧ w.toInt ≤ 63) (h3 : s.toInt + w.toInt ≤ 64) (ht : own_Fit t w) : own_tok (own_put x s (own_low w) t) s (own_low w) = t := by
  apply Int64.toBitVec_inj.mp
  apply BitVec.eq_of_getLsbD_eq
  intro i hi
  rw [own_tok_bit (S := s.toInt.toNat) (W := w.toInt.toNat) (by omega) (by omega) (by omega) (by omega)]
  by_cases c : i < w.toInt.toNat
  · rw [own_put_bit (S := s.toInt.toNat) (W := w.toInt.toNat) (by omega) (by omega) (by omega) (by omega) (by omega) ht _ (by omega), if_pos (by omega)]
    have : s.toInt.toNat + i - s.toInt.toNat = i := by omega
    rw [decide_eq_true c, Bool.and_true, this]
  · rw [ht i (by omega), decide_eq_false c, Bool.and_false]
theorem own_other {x t : Int64} {s w s' w' : Int32} (hs : 0 ≤ s.toInt) (hw : 1 ≤ w.toInt ∧ w.toInt ≤ 63) (h3 : s.toInt + w.toInt ≤ 64) (ht : own_Fit t w) (hs' : 0 ≤ s'.toInt) (hw' : 1 ≤ w'.toInt ∧ w'.toInt ≤ 63) (h3' : s'.toInt + w'.toInt ≤ 64)
    (hd : s.toInt + w.toInt ≤ s'.toInt ∨ s'.toInt + w'.toInt ≤ s.toInt) : own_tok (own_put x s (own_low w) t) s' (own_low w') = own_tok x s' (own_low w') := by
  apply Int64.toBitVec_inj.mp
  apply BitVec.eq_of_getLsbD_eq
  intro i hi
  rw [own_tok_bit (S := s'.toInt.toNat) (W := w'.toInt.toNat) (by omega) (by omega) (by omega) (by omega), own_tok_bit (S := s'.toInt.toNat) (W := w'.toInt.toNat) (by omega) (by omega) (by omega) (by omega)]
  by_cases c : i < w'.toInt.toNat
  · rw [own_put_bit (S := s.toInt.toNat) (W := w.toInt.toNat) (by omega) (by omega) (by omega) (by omega) (by omega) ht _ (by omega), if_neg (by omega)]
  · rw [decide_eq_false c, Bool.and_false, Bool.and_false]
theorem own_back {x t : Int64} {s w : Int32} (hs : 0 ≤ s.toInt) (hw : 1 ≤ w.toInt ∧ w.toInt ≤ 63) (h3 : s.toInt + w.toInt ≤ 64) (ht : own_Fit t w) : own_put (own_put x s (own_low w) t) s (own_low w) (own_tok x s (own_low w)) = x := by
  apply Int64.toBitVec_inj.mp
  apply BitVec.eq_of_getLsbD_eq
  intro i hi
  rw [own_put_bit (S := s.toInt.toNat) (W := w.toInt.toNat) (by omega) (by omega) (by omega) (by omega) (by omega) (own_tok_fit hs hw h3) _ hi]
  by_cases c : s.toInt.toNat ≤ i ∧ i < s.toInt.toNat + w.toInt.toNat
  · rw [if_pos c, own_tok_bit (S := s.toInt.toNat) (W := w.toInt.toNat) (by omega) (by omega) (by omega) (by omega)]
    have c1 : s.toInt.toNat + (i - s.toInt.toNat) = i := by omega
    have c2 : i - s.toInt.toNat < w.toInt.toNat := by omega
    rw [c1, decide_eq_true c2, Bool.and_true]
  · rw [if_neg c, own_put_bit (S := s.toInt.toNat) (W := w.toInt.toNat) (by omega) (by omega) (by omega) (by omega) (by omega) ht _ hi, if_neg c]
def own_G (X : List Int64) (n s : Int32) (m : Int64) : Int64 := own_tok (X.getD n.toNatClampNeg 0) s m
def own_P (X : List Int64) (n s : Int32) (m t : Int64) : List Int64 := X.set n.toNatClampNeg (own_put (X.getD n.toNatClampNeg 0) s m t)
theorem own_P_len {X : List Int64} {n s : Int32} {m t : Int64} (h : X.length = 3) : (own_P X n s m t).length = 3 := by
  unfold own_P
  rw [List.length_set]
  exact h
theorem own_nlt {n : Int32} (h : ¬ n < (0 : Int32) ∧ n < (3 : Int32)) : n.toNatClampNeg < 3 ∧ n.toInt = (n.toNatClampNeg : Int) := by
  have h1 := h.1
  have h2 := h.2
  rw [Int32.lt_iff_toInt_lt] at h1 h2
  have e0 : (0 : Int32).toInt = 0 := by decide
  have e3 : (3 : Int32).toInt = 3 := by decide
  show n.toInt.toNat < 3 ∧ n.toInt = (n.toInt.toNat : Int)
  omega
theorem own_getset {X : List Int64} {n : Nat} {v : Int64} (h : n < X.length) : (X.set n v).getD n 0 = v := by
  rw [List.getD_eq_getElem?_getD, List.getElem?_set_self h]
  rfl
theorem own_A {X : List Int64} {n s w : Int32} {t : Int64} (hX : X.length = 3) (hn : ¬ n < (0 : Int32) ∧ n < (3 : Int32)) (hs : 0 ≤ s.toInt) (hw : 1 ≤ w.toInt ∧ w.toInt ≤ 63) (h3 : s.toInt + w.toInt ≤ 64) (ht : own_Fit t w) : own_G (own_P X n s (own_low w) t) n s (own_low w) = t := by
  unfold own_G own_P
  rw [own_getset (by rw [hX]; exact (own_nlt hn).1)]
  exact own_same hs hw h3 ht
def own_D (n s w n' s' w' : Int32) : Prop := n ≠ n' ∨ s.toInt + w.toInt ≤ s'.toInt ∨ s'.toInt + w'.toInt ≤ s.toInt
theorem own_D.symm {n s w n' s' w' : Int32} (h : own_D n s w n' s' w') : own_D n' s' w' n s w := by
  rcases h with h | h | h
  · exact Or.inl (Ne.symm h)
  · exact Or.inr (Or.inr h)
  · exact Or.inr (Or.inl h)
theorem own_B {X : List Int64} {n s w n' s' w' : Int32} {t : Int64} (hX : X.length = 3) (hn : ¬ n < (0 : Int32) ∧ n < (3 : Int32)) (hs : 0 ≤ s.toInt) (hw : 1 ≤ w.toInt ∧ w.toInt ≤ 63) (h3 : s.toInt + w.toInt ≤ 64) (ht : own_Fit t w)
    (hn' : ¬ n' < (0 : Int32) ∧ n' < (3 : Int32)) (hs' : 0 ≤ s'.toInt) (hw' : 1 ≤ w'.toInt ∧ w'.toInt ≤ 63) (h3' : s'.toInt + w'.toInt ≤ 64) (hD : own_D n s w n' s' w') : own_G (own_P X n s (own_low w) t) n' s' (own_low w') = own_G X n' s' (own_low w') := by
  unfold own_G own_P
  by_cases e : n.toNatClampNeg = n'.toNatClampNeg
  · rw [← e, own_getset (by rw [hX]; exact (own_nlt hn).1)]
    refine own_other hs hw h3 ht hs' hw' h3' ?_
    rcases hD with h | h
    · exact absurd (Int32.toInt_inj.mp (by rw [(own_nlt hn).2, (own_nlt hn').2, e])) h
    · exact h
  · rw [List.getD_eq_getElem?_getD, List.getElem?_set_ne e, ← List.getD_eq_getElem?_getD]
theorem own_C {X : List Int64} {n s w : Int32} {t : Int64} (hX : X.length = 3) (hn : ¬ n < (0 : Int32) ∧ n < (3 : Int32)) (hs : 0 ≤ s.toInt) (hw : 1 ≤ w.toInt ∧ w.toInt ≤ 63) (h3 : s.toInt + w.toInt ≤ 64) (ht : own_Fit t w) : own_P (own_P X n s (own_low w) t) n s (own_low w) (own_G X n s (own_low w)) = X := by
  unfold own_G own_P
  have hl : n.toNatClampNeg < X.length := by rw [hX]; exact (own_nlt hn).1
  rw [own_getset hl, List.set_set, own_back hs hw h3 ht]
  apply List.ext_getElem?
  intro i
  by_cases e : n.toNatClampNeg = i
  · subst e
    rw [List.getElem?_set_self hl, List.getD_eq_getElem?_getD, List.getElem?_eq_getElem hl]
    rfl
  · rw [List.getElem?_set_ne e]
theorem own_map_getD {X : List Int64} {n : Nat} (f : Int64 → α) : (X.map f).getD n (f 0) = f (X.getD n 0) := by
  rw [List.getD_eq_getElem?_getD, List.getD_eq_getElem?_getD, List.getElem?_map]
  cases X[n]? <;> rfl
theorem own_layout {a b c : Int32} (ha : 1 ≤ a.toInt ∧ a.toInt ≤ 63) (hb : 1 ≤ b.toInt ∧ b.toInt ≤ 63) (hc : 1 ≤ c.toInt ∧ c.toInt ≤ 63) :
    (¬ own_wo1 a b < (0 : Int32) ∧ own_wo1 a b < (3 : Int32)) ∧ (¬ own_wo2 a b c < (0 : Int32) ∧ own_wo2 a b c < (3 : Int32)) ∧ (0 ≤ (own_sh1 a b).toInt ∧ (own_sh1 a b).toInt + b.toInt ≤ 64) ∧ (0 ≤ (own_sh2 a b c).toInt ∧ (own_sh2 a b c).toInt + c.toInt ≤ 64) ∧
    own_D 0 0 a (own_wo1 a b) (own_sh1 a b) b ∧ own_D 0 0 a (own_wo2 a b c) (own_sh2 a b c) c ∧ own_D (own_wo1 a b) (own_sh1 a b) b (own_wo2 a b c) (own_sh2 a b c) c := by
  have e0 : (0 : Int32).toInt = 0 := by decide
  have e64 : (64 : Int32).toInt = 64 := by decide
  have s1 := own_sum (a := a) (b := b) (by omega) (by omega)
  have s2 := own_sum (a := b) (b := c) (by omega) (by omega)
  have s3 := own_sum (a := a + b) (b := c) (by omega) (by omega)
  unfold own_wo2 own_sh2 own_wo1 own_sh1 own_us own_D
  by_cases p : (64 : Int32) < a + b
  · simp only [p, if_true]
    by_cases q : (64 : Int32) < b + c
    · simp only [q, if_true]
      refine ⟨by decide, by decide, by omega, by omega, Or.inl (by decide), Or.inl (by decide), Or.inl (by decide)⟩
    · simp only [q, if_false]
      rw [Int32.lt_iff_toInt_lt] at q
      refine ⟨by decide, by decide, by omega, by omega, Or.inl (by decide), Or.inl (by decide), Or.inr (by omega)⟩
  · simp only [p, if_false]
    rw [Int32.lt_iff_toInt_lt] at p
    by_cases q : (64 : Int32) < a + b + c
    · simp only [q, if_true]
      refine ⟨by decide, by decide, by omega, by omega, Or.inr (by omega), Or.inl (by decide), Or.inl (by decide)⟩
    · simp only [q, if_false]
      rw [Int32.lt_iff_toInt_lt] at q
      refine ⟨by decide, by decide, by omega, by omega, Or.inr (by omega), Or.inr (by omega), Or.inr (by omega)⟩
def own_mf (p : Int32) : Int64 := (((-1 : Int64).toUInt64 >>> (((1 : Int32) + (p &&& (63 : Int32)) % (63 : Int32)) &&& 0x3f).toInt64.toUInt64).toInt64)
theorem own_mfx (p : Int32) (hp : 0 ≤ (p &&& (63 : Int32)).toInt ∧ (p &&& (63 : Int32)).toInt ≤ 63) : ∃ w : Int32, (1 ≤ w.toInt ∧ w.toInt ≤ 63) ∧ own_mf p = own_low w ∧ own_bits (own_low w) = w := by
  have H : ∀ k : Fin 64, (1 ≤ ((63 : Int32) - Int32.ofNat k.1 % 63).toInt ∧ ((63 : Int32) - Int32.ofNat k.1 % 63).toInt ≤ 63) ∧ (((-1 : Int64).toUInt64 >>> (((1 : Int32) + Int32.ofNat k.1 % (63 : Int32)) &&& 0x3f).toInt64.toUInt64).toInt64) = own_low ((63 : Int32) - Int32.ofNat k.1 % 63) ∧ own_bits (own_low ((63 : Int32) - Int32.ofNat k.1 % 63)) = (63 : Int32) - Int32.ofNat k.1 % 63 := by decide +kernel
  obtain ⟨k, hk⟩ : ∃ k : Nat, (p &&& (63 : Int32)).toInt = (k : Int) := ⟨_, (Int.toNat_of_nonneg hp.1).symm⟩
  have e := own_iof hk (by omega)
  refine ⟨(63 : Int32) - (p &&& 63) % 63, ?_⟩
  unfold own_mf
  rw [e]
  exact H ⟨k, by omega⟩
theorem own_three {x v : Int32} (h : (x &&& (2147483647 : Int32)) % (3 : Int32) = v) : v = 0 ∨ v = 1 ∨ v = 2 := by
  have h1 := c_mask x 2147483647 31 (by decide) (by decide)
  have h2 := c_irem (x &&& 2147483647) 3 3 (by decide)
  rw [h] at h2
  have e : v.toInt = 0 ∨ v.toInt = 1 ∨ v.toInt = 2 := by omega
  simpa [← Int32.toInt_inj] using e
theorem own_m63 (p : Int32) : 0 ≤ (p &&& (63 : Int32)).toInt ∧ (p &&& (63 : Int32)).toInt ≤ 63 := by
  have h1 := c_mask p 63 6 (by decide) (by decide)
  omega
theorem own_pn_com_example_nesiph_nesiph_MarkingSetSetTokensPinLaw : plainName "com/example/nesiph/nesiph/MarkingSetSetTokensPinLaw" = true := by first | (simp [plainName, overriddenIn]; done) | decide +kernel
theorem own_dmethod_3_code_0 : decode method_3_code 0 = .ok (.ldc2_w 27, 3) := by decide +kernel
theorem own_dmethod_3_code_3 : decode method_3_code 3 = .ok (.iconst 1, 1) := by decide +kernel
theorem own_dmethod_3_code_4 : decode method_3_code 4 = .ok (.iload_n 0, 1) := by decide +kernel
theorem own_dmethod_3_code_5 : decode method_3_code 5 = .ok (.bipush 63, 2) := by decide +kernel
theorem own_dmethod_3_code_7 : decode method_3_code 7 = .ok (.iand, 1) := by decide +kernel
theorem own_dmethod_3_code_8 : decode method_3_code 8 = .ok (.bipush 63, 2) := by decide +kernel
theorem own_dmethod_3_code_10 : decode method_3_code 10 = .ok (.irem, 1) := by decide +kernel
theorem own_dmethod_3_code_11 : decode method_3_code 11 = .ok (.iadd, 1) := by decide +kernel
theorem own_dmethod_3_code_12 : decode method_3_code 12 = .ok (.lushr, 1) := by decide +kernel
theorem own_dmethod_3_code_13 : decode method_3_code 13 = .ok (.lreturn, 1) := by decide +kernel
theorem own_efMF (m : MethodId) (p1 : Int32) : entryFrame m #[(.int p1)] 1 = mkF m 0 #[.val (.int p1)] [] := by first | (simp [entryFrame, mkF, argsToLocals, Value.category]; done) | rfl
def own_QMF (Z : State) (p1 : Int32) (r : Int64) (h0 : Heap) (n0 : Nat) (rv__ : Option Value) (h : Heap) (rL__ : List Loc) : Prop := rv__ = some (.long r) ∧ Fr n0 rL__ ∧ h = h0
abbrev own_RMF : Room := { frames := 0, cells := 0, slots := 0, locals := 0 }
set_option maxRecDepth 65536 in
set_option maxHeartbeats 40000000 in
theorem own_rmMF (l : Launch) (Z : State) (a0 : Array Value) (hw : ∀ d ∈ tables_1, d.before a0 Z = true) (ws : List Jvm.Cond) (p1 : Int32) (r : Int64) (h0 : Heap) (n0 : Nat) (Z0 : n0 ≤ h0.size) (hr : own_mf p1 = r) :
    MetFree l (⟨"com/example/nesiph/nesiph/MarkingSetSetTokensPinLaw", "maxFor", "(I)J"⟩ : MethodName) (head1 (Jvm.Cond.code (⟨"com/example/nesiph/nesiph/MarkingSetSetTokensPinLaw", "maxFor", "(I)J"⟩ : MethodName) method_3_code 1 (some .long) :: ws) own_RMF) (fun aa__ U => aa__ = #[(.int p1)] ∧ Z.Warmed39 U.vm ∧ U.heap = h0) (fun _ _ _ _ _ => True) (fun _ U oc_ U' => ∃ rv__ rL__, oc_ = .returned rv__ ∧ own_QMF Z p1 r h0 n0 rv__ U'.heap rL__ ∧ FrameEnd U oc_ U' rL__ own_RMF.cells own_RMF.slots) := by
  refine MetFree.of_bodySF (plainFor_of_name own_pn_com_example_nesiph_nesiph_MarkingSetSetTokensPinLaw) hisR ?_
  intro p e s m args below meth c s₁ Bd hml0 hP hK
  obtain ⟨rfl, hZ, hh⟩ := hP
  have hx := Bd.exec
  have hby := Bd.bytes
  have hml : c.maxLocals = 1 := hml0
  have hown : s.vm.findClass "com/example/nesiph/nesiph/MarkingSetSetTokensPinLaw" = some m.cls := findClass_of_methodNamed Bd.named
  have hnm := (name_of_methodNamed Bd.named Bd.method).1
  have X0 : Stand p l e own_RMF s m #[(.int p1)] below meth c s₁ [] 0 0 := Stand.of_body Bd
  have e0 : s₁.heap = h0 := by rw [← hh, Bd.state]; rfl
  have N0 := Fr.nil n0
  refine own_in (fun _ k => castTop (own_efMF m p1) k) ?_
  intro RR hRR
  show own_Go p.tables e below RR (s₁.setTop (mkF m 0 #[.val (.int p1)] []))
  refine own_st (fun _ k => X0.ldc2Long hx hown (mvT hZ (hw _ (List.mem_of_getElem? (i := 5) rfl))) (g := (mkF m 0 #[.val (.int p1)] [])) rfl (hb hby own_dmethod_3_code_0) _ (XS.iconst X0.here hx rfl (hb hby own_dmethod_3_code_3) (XS.iloadN X0.here hx rfl (hb hby own_dmethod_3_code_4) rfl (XS.bipush X0.here hx rfl (hb hby own_dmethod_3_code_5) (XS.iand X0.here hx rfl (hb hby own_dmethod_3_code_7) rfl (XS.bipush X0.here hx rfl (hb hby own_dmethod_3_code_8) k)))))) ?_
  show own_Go p.tables e below RR (s₁.setTop (mkF m 10 #[.val (.int p1)] [(.int (63 : Int32)), (.int (p1 &&& (63 : Int32))), (.int (1 : Int32)), (.long (-1 : Int64))]))
  refine own_st (fun _ k => XS.irem X0.here hx rfl (hb hby own_dmethod_3_code_10) rfl (by decide) k) ?_
  show own_Go p.tables e below RR (s₁.setTop (mkF m 11 #[.val (.int p1)] [(.int ((p1 &&& (63 : Int32)) - ((p1 &&& (63 : Int32)) / (63 : Int32)) * (63 : Int32))), (.int (1 : Int32)), (.long (-1 : Int64))]))
  rw [irem_eq_mod (p1 &&& (63 : Int32)) (63 : Int32)]
  show own_Go p.tables e below RR (s₁.setTop (mkF m 11 #[.val (.int p1)] [(.int ((p1 &&& (63 : Int32)) % (63 : Int32))), (.int (1 : Int32)), (.long (-1 : Int64))]))
  refine own_st (fun _ k => XS.iadd X0.here hx rfl (hb hby own_dmethod_3_code_11) rfl (XS.lushr X0.here hx rfl (hb hby own_dmethod_3_code_12) rfl k)) ?_
  show own_Go p.tables e below RR (s₁.setTop (mkF m 13 #[.val (.int p1)] [(.long (((-1 : Int64).toUInt64 >>> (((1 : Int32) + ((p1 &&& (63 : Int32)) % (63 : Int32))) &&& 0x3f).toInt64.toUInt64).toInt64))]))
  obtain ⟨fs, hrt_, hrun, hended, hW, hsame⟩ := X0.leave (v := some (.long (((-1 : Int64).toUInt64 >>> (((1 : Int32) + ((p1 &&& (63 : Int32)) % (63 : Int32))) &&& 0x3f).toInt64.toUInt64).toInt64))) (fun h => by rw [Bd.returns] at h; cases h)
  refine own_fin (retOut X0 hx Bd.returns rfl (Or.inr (Or.inl ⟨rfl, rfl, _, rfl⟩)) (hb hby own_dmethod_3_code_13) hrt_) (hRR _ ⟨_, hrun, hended, _, _, rfl, ?_, ⟨_, rfl⟩, hW, hsame.mono (by decide) (by decide)⟩)
  show own_QMF Z p1 r h0 n0 _ s₁.heap _
  rw [e0]
  exact ⟨own_rj (hr), N0, rfl⟩
theorem own_efTL0 (m : MethodId) (o : Addr) (pa : Addr) : entryFrame m #[(.ref o), (.ref pa), (.int (0 : Int32))] 3 = mkF m 0 #[.val (.ref o), .val (.ref pa), .val (.int (0 : Int32))] [] := by first | (simp [entryFrame, mkF, argsToLocals, Value.category]; done) | rfl
def own_QTL0 (Z : State) (o : Addr) (pa : Addr) (kp : ClassId) (X : List Int64) (aw : Addr) (as_ : Addr) (am : Addr) (kw : ClassId) (ks : ClassId) (km : ClassId) (wo0 : Int32) (wo1 : Int32) (wo2 : Int32) (sh0 : Int32) (sh1 : Int32) (sh2 : Int32) (mk0 : Int64) (mk1 : Int64) (mk2 : Int64) (h0 : Heap) (n0 : Nat) (rv__ : Option Value) (h : Heap) (rL__ : List Loc) : Prop := rv__ = some (.long (own_G X wo0 sh0 mk0)) ∧ Fr n0 rL__ ∧ h = h0
abbrev own_RTL0 : Room := { frames := 0, cells := 0, slots := 0, locals := 0 }
set_option maxRecDepth 65536 in
set_option maxHeartbeats 40000000 in
theorem own_rmTL0 (l : Launch) (Z : State) (a0 : Array Value) (hw : ∀ d ∈ tables_1, d.before a0 Z = true) (ws : List Jvm.Cond) (o : Addr) (pa : Addr) (kp : ClassId) (X : List Int64) (aw : Addr) (as_ : Addr) (am : Addr) (kw : ClassId) (ks : ClassId) (km : ClassId) (wo0 : Int32) (wo1 : Int32) (wo2 : Int32) (sh0 : Int32) (sh1 : Int32) (sh2 : Int32) (mk0 : Int64) (mk1 : Int64) (mk2 : Int64) (h0 : Heap) (n0 : Nat) (Z0 : n0 ≤ h0.size) (Fw : Fld Z h0 o "com/example/nesiph/nesiph/MarkingSet" "wordOf" "[I" (.ref aw)) (Fs : Fld Z h0 o "com/example/nesiph/nesiph/MarkingSet" "shiftOf" "[I" (.ref as_)) (Fm : Fld Z h0 o "com/example/nesiph/nesiph/MarkingSet" "maskOf" "[J" (.ref am)) (Vp : Arv Z h0 pa kp .long (3 : Int32) (X.map Value.long) (.long (0 : Int64))) (Vw : Arv Z h0 aw kw .int (3 : Int32) [(.int wo0), (.int wo1), (.int wo2)] (.int (0 : Int32))) (Vs : Arv Z h0 as_ ks .int (3 : Int32) [(.int sh0), (.int sh1), (.int sh2)] (.int (0 : Int32))) (Vm : Arv Z h0 am km .long (3 : Int32) [(.long mk0), (.long mk1), (.long mk2)] (.long (0 : Int64))) (hX : X.length = 3) (hin : ¬ wo0 < (0 : Int32) ∧ wo0 < (3 : Int32)) :
    MetFree l (⟨"com/example/nesiph/nesiph/MarkingSet", "tokens", "([JI)J"⟩ : MethodName) (head1 (Jvm.Cond.code (⟨"com/example/nesiph/nesiph/MarkingSet", "tokens", "([JI)J"⟩ : MethodName) prog_21_method_4_code 3 (some .long) :: ws) own_RTL0) (fun aa__ U => aa__ = #[(.ref o), (.ref pa), (.int (0 : Int32))] ∧ Z.Warmed39 U.vm ∧ U.heap = h0) (fun _ _ _ _ _ => True) (fun _ U oc_ U' => ∃ rv__ rL__, oc_ = .returned rv__ ∧ own_QTL0 Z o pa kp X aw as_ am kw ks km wo0 wo1 wo2 sh0 sh1 sh2 mk0 mk1 mk2 h0 n0 rv__ U'.heap rL__ ∧ FrameEnd U oc_ U' rL__ own_RTL0.cells own_RTL0.slots) := by
  refine MetFree.of_bodySF (plainFor_of_name own_pn_com_example_nesiph_nesiph_MarkingSet) hisR ?_
  intro p e s m args below meth c s₁ Bd hml0 hP hK
  obtain ⟨rfl, hZ, hh⟩ := hP
  have hx := Bd.exec
  have hby := Bd.bytes
  have hml : c.maxLocals = 3 := hml0
  have hown : s.vm.findClass "com/example/nesiph/nesiph/MarkingSet" = some m.cls := findClass_of_methodNamed Bd.named
  have hnm := (name_of_methodNamed Bd.named Bd.method).1
  have X0 : Stand p l e own_RTL0 s m #[(.ref o), (.ref pa), (.int (0 : Int32))] below meth c s₁ [] 0 0 := Stand.of_body Bd
  have e0 : s₁.heap = h0 := by rw [← hh, Bd.state]; rfl
  have N0 := Fr.nil n0
  refine own_in (fun _ k => castTop (own_efTL0 m o pa) k) ?_
  intro RR hRR
  show own_Go p.tables e below RR (s₁.setTop (mkF m 0 #[.val (.ref o), .val (.ref pa), .val (.int (0 : Int32))] []))
  refine own_st (fun _ k => XS.aloadN X0.here hx rfl (hb hby own_dprog_21_method_4_code_0) rfl rfl (XS.aloadN X0.here hx rfl (hb hby own_dprog_21_method_4_code_1) rfl rfl k)) ?_
  show own_Go p.tables e below RR (s₁.setTop (mkF m 2 #[.val (.ref o), .val (.ref pa), .val (.int (0 : Int32))] [(.ref o), (.ref pa)]))
  obtain ⟨T1, X1, e1, st1⟩ := getF X0 hx hZ hown (host := "") (Or.inl (hw _ (List.mem_of_getElem? (i := 22) rfl))) Via.refl e0 Fw (g := (mkF m 2 #[.val (.ref o), .val (.ref pa), .val (.int (0 : Int32))] [(.ref o), (.ref pa)])) rfl rfl (hb hby own_dprog_21_method_4_code_2)
  refine own_st st1 ?_
  show own_Go p.tables e below RR (T1.setTop (mkF m 5 #[.val (.ref o), .val (.ref pa), .val (.int (0 : Int32))] [(.ref aw), (.ref pa)]))
  refine own_st (fun _ k => XS.iloadN X1.here hx rfl (hb hby own_dprog_21_method_4_code_5) rfl k) ?_
  show own_Go p.tables e below RR (T1.setTop (mkF m 6 #[.val (.ref o), .val (.ref pa), .val (.int (0 : Int32))] [(.int (0 : Int32)), (.ref aw), (.ref pa)]))
  obtain ⟨c2, A2, q2, s2, m2, H2, G2⟩ := id Vw
  have b2 := inb_of (j := (0 : Int32)) s2 ⟨by decide, by decide⟩
  refine own_st (fun _ k => X1.iaload hx (j := (0 : Int32)) (v := (.int wo0)) (by rw [e1]; exact A2.1) (State.isArrayOf_alike hZ.alike A2.2.1) A2.2.2 b2 (Has.at H2 b2 rfl) (g := (mkF m 6 #[.val (.ref o), .val (.ref pa), .val (.int (0 : Int32))] [(.int (0 : Int32)), (.ref aw), (.ref pa)])) rfl rfl (hb hby own_dprog_21_method_4_code_6) _ k) ?_
  show own_Go p.tables e below RR (T1.setTop (mkF m 7 #[.val (.ref o), .val (.ref pa), .val (.int (0 : Int32))] [(.int wo0), (.ref pa)]))
  obtain ⟨c3, A3, q3, s3, m3, H3, G3⟩ := id Vp
  have b3 := inb_of (j := wo0) s3 hin
  refine own_st (fun _ k => X1.laload hx (j := wo0) (v := (.long (X.getD wo0.toNatClampNeg 0))) (by rw [e1]; exact A3.1) (State.isArrayOf_alike hZ.alike A3.2.1) A3.2.2 b3 (Has.at H3 b3 (own_map_getD Value.long)) (g := (mkF m 7 #[.val (.ref o), .val (.ref pa), .val (.int (0 : Int32))] [(.int wo0), (.ref pa)])) rfl rfl (hb hby own_dprog_21_method_4_code_7) _ (XS.aloadN X1.here hx rfl (hb hby own_dprog_21_method_4_code_8) rfl rfl k)) ?_
  show own_Go p.tables e below RR (T1.setTop (mkF m 9 #[.val (.ref o), .val (.ref pa), .val (.int (0 : Int32))] [(.ref o), (.long (X.getD wo0.toNatClampNeg 0))]))
  obtain ⟨T4, X4, e4, st4⟩ := getF X1 hx hZ hown (host := "") (Or.inl (hw _ (List.mem_of_getElem? (i := 24) rfl))) Via.refl e1 Fs (g := (mkF m 9 #[.val (.ref o), .val (.ref pa), .val (.int (0 : Int32))] [(.ref o), (.long (X.getD wo0.toNatClampNeg 0))])) rfl rfl (hb hby own_dprog_21_method_4_code_9)
  refine own_st st4 ?_
  show own_Go p.tables e below RR (T4.setTop (mkF m 12 #[.val (.ref o), .val (.ref pa), .val (.int (0 : Int32))] [(.ref as_), (.long (X.getD wo0.toNatClampNeg 0))]))
  refine own_st (fun _ k => XS.iloadN X4.here hx rfl (hb hby own_dprog_21_method_4_code_12) rfl k) ?_
  show own_Go p.tables e below RR (T4.setTop (mkF m 13 #[.val (.ref o), .val (.ref pa), .val (.int (0 : Int32))] [(.int (0 : Int32)), (.ref as_), (.long (X.getD wo0.toNatClampNeg 0))]))
  obtain ⟨c5, A5, q5, s5, m5, H5, G5⟩ := id Vs
  have b5 := inb_of (j := (0 : Int32)) s5 ⟨by decide, by decide⟩
  refine own_st (fun _ k => X4.iaload hx (j := (0 : Int32)) (v := (.int sh0)) (by rw [e4]; exact A5.1) (State.isArrayOf_alike hZ.alike A5.2.1) A5.2.2 b5 (Has.at H5 b5 rfl) (g := (mkF m 13 #[.val (.ref o), .val (.ref pa), .val (.int (0 : Int32))] [(.int (0 : Int32)), (.ref as_), (.long (X.getD wo0.toNatClampNeg 0))])) rfl rfl (hb hby own_dprog_21_method_4_code_13) _ (XS.lushr X4.here hx rfl (hb hby own_dprog_21_method_4_code_14) rfl (XS.aloadN X4.here hx rfl (hb hby own_dprog_21_method_4_code_15) rfl rfl k))) ?_
  show own_Go p.tables e below RR (T4.setTop (mkF m 16 #[.val (.ref o), .val (.ref pa), .val (.int (0 : Int32))] [(.ref o), (.long (((X.getD wo0.toNatClampNeg 0).toUInt64 >>> (sh0 &&& 0x3f).toInt64.toUInt64).toInt64))]))
  obtain ⟨T6, X6, e6, st6⟩ := getF X4 hx hZ hown (host := "") (Or.inl (hw _ (List.mem_of_getElem? (i := 26) rfl))) Via.refl e4 Fm (g := (mkF m 16 #[.val (.ref o), .val (.ref pa), .val (.int (0 : Int32))] [(.ref o), (.long (((X.getD wo0.toNatClampNeg 0).toUInt64 >>> (sh0 &&& 0x3f).toInt64.toUInt64).toInt64))])) rfl rfl (hb hby own_dprog_21_method_4_code_16)
  refine own_st st6 ?_
  show own_Go p.tables e below RR (T6.setTop (mkF m 19 #[.val (.ref o), .val (.ref pa), .val (.int (0 : Int32))] [(.ref am), (.long (((X.getD wo0.toNatClampNeg 0).toUInt64 >>> (sh0 &&& 0x3f).toInt64.toUInt64).toInt64))]))
  refine own_st (fun _ k => XS.iloadN X6.here hx rfl (hb hby own_dprog_21_method_4_code_19) rfl k) ?_
  show own_Go p.tables e below RR (T6.setTop (mkF m 20 #[.val (.ref o), .val (.ref pa), .val (.int (0 : Int32))] [(.int (0 : Int32)), (.ref am), (.long (((X.getD wo0.toNatClampNeg 0).toUInt64 >>> (sh0 &&& 0x3f).toInt64.toUInt64).toInt64))]))
  obtain ⟨c7, A7, q7, s7, m7, H7, G7⟩ := id Vm
  have b7 := inb_of (j := (0 : Int32)) s7 ⟨by decide, by decide⟩
  refine own_st (fun _ k => X6.laload hx (j := (0 : Int32)) (v := (.long mk0)) (by rw [e6]; exact A7.1) (State.isArrayOf_alike hZ.alike A7.2.1) A7.2.2 b7 (Has.at H7 b7 rfl) (g := (mkF m 20 #[.val (.ref o), .val (.ref pa), .val (.int (0 : Int32))] [(.int (0 : Int32)), (.ref am), (.long (((X.getD wo0.toNatClampNeg 0).toUInt64 >>> (sh0 &&& 0x3f).toInt64.toUInt64).toInt64))])) rfl rfl (hb hby own_dprog_21_method_4_code_20) _ (XS.land X6.here hx rfl (hb hby own_dprog_21_method_4_code_21) rfl k)) ?_
  show own_Go p.tables e below RR (T6.setTop (mkF m 22 #[.val (.ref o), .val (.ref pa), .val (.int (0 : Int32))] [(.long ((((X.getD wo0.toNatClampNeg 0).toUInt64 >>> (sh0 &&& 0x3f).toInt64.toUInt64).toInt64) &&& mk0))]))
  obtain ⟨fs, hrt_, hrun, hended, hW, hsame⟩ := X6.leave (v := some (.long ((((X.getD wo0.toNatClampNeg 0).toUInt64 >>> (sh0 &&& 0x3f).toInt64.toUInt64).toInt64) &&& mk0))) (fun h => by rw [Bd.returns] at h; cases h)
  refine own_fin (retOut X6 hx Bd.returns rfl (Or.inr (Or.inl ⟨rfl, rfl, _, rfl⟩)) (hb hby own_dprog_21_method_4_code_22) hrt_) (hRR _ ⟨_, hrun, hended, _, _, rfl, ?_, ⟨_, rfl⟩, hW, hsame.mono (by decide) (by decide)⟩)
  show own_QTL0 Z o pa kp X aw as_ am kw ks km wo0 wo1 wo2 sh0 sh1 sh2 mk0 mk1 mk2 h0 n0 _ T6.heap _
  rw [e6]
  exact ⟨rfl, N0, rfl⟩
theorem own_dprog_21_method_6_code_0 : decode prog_21_method_6_code 0 = .ok (.aload_n 0, 1) := by decide +kernel
theorem own_dprog_21_method_6_code_1 : decode prog_21_method_6_code 1 = .ok (.getfield 21, 3) := by decide +kernel
theorem own_dprog_21_method_6_code_4 : decode prog_21_method_6_code 4 = .ok (.iload_n 2, 1) := by decide +kernel
theorem own_dprog_21_method_6_code_5 : decode prog_21_method_6_code 5 = .ok (.iaload, 1) := by decide +kernel
theorem own_dprog_21_method_6_code_6 : decode prog_21_method_6_code 6 = .ok (.istore 5, 2) := by decide +kernel
theorem own_dprog_21_method_6_code_8 : decode prog_21_method_6_code 8 = .ok (.aload_n 0, 1) := by decide +kernel
theorem own_dprog_21_method_6_code_9 : decode prog_21_method_6_code 9 = .ok (.getfield 24, 3) := by decide +kernel
theorem own_dprog_21_method_6_code_12 : decode prog_21_method_6_code 12 = .ok (.iload_n 2, 1) := by decide +kernel
theorem own_dprog_21_method_6_code_13 : decode prog_21_method_6_code 13 = .ok (.iaload, 1) := by decide +kernel
theorem own_dprog_21_method_6_code_14 : decode prog_21_method_6_code 14 = .ok (.istore 6, 2) := by decide +kernel
theorem own_dprog_21_method_6_code_16 : decode prog_21_method_6_code 16 = .ok (.aload_n 1, 1) := by decide +kernel
theorem own_dprog_21_method_6_code_17 : decode prog_21_method_6_code 17 = .ok (.iload 5, 2) := by decide +kernel
theorem own_dprog_21_method_6_code_19 : decode prog_21_method_6_code 19 = .ok (.aload_n 1, 1) := by decide +kernel
theorem own_dprog_21_method_6_code_20 : decode prog_21_method_6_code 20 = .ok (.iload 5, 2) := by decide +kernel
theorem own_dprog_21_method_6_code_22 : decode prog_21_method_6_code 22 = .ok (.laload, 1) := by decide +kernel
theorem own_dprog_21_method_6_code_23 : decode prog_21_method_6_code 23 = .ok (.aload_n 0, 1) := by decide +kernel
theorem own_dprog_21_method_6_code_24 : decode prog_21_method_6_code 24 = .ok (.getfield 27, 3) := by decide +kernel
theorem own_dprog_21_method_6_code_27 : decode prog_21_method_6_code 27 = .ok (.iload_n 2, 1) := by decide +kernel
theorem own_dprog_21_method_6_code_28 : decode prog_21_method_6_code 28 = .ok (.laload, 1) := by decide +kernel
theorem own_dprog_21_method_6_code_29 : decode prog_21_method_6_code 29 = .ok (.iload 6, 2) := by decide +kernel
theorem own_dprog_21_method_6_code_31 : decode prog_21_method_6_code 31 = .ok (.lshl, 1) := by decide +kernel
theorem own_dprog_21_method_6_code_32 : decode prog_21_method_6_code 32 = .ok (.ldc2_w 47, 3) := by decide +kernel
theorem own_dprog_21_method_6_code_35 : decode prog_21_method_6_code 35 = .ok (.lxor, 1) := by decide +kernel
theorem own_dprog_21_method_6_code_36 : decode prog_21_method_6_code 36 = .ok (.land, 1) := by decide +kernel
theorem own_dprog_21_method_6_code_37 : decode prog_21_method_6_code 37 = .ok (.lload_n 3, 1) := by decide +kernel
theorem own_dprog_21_method_6_code_38 : decode prog_21_method_6_code 38 = .ok (.iload 6, 2) := by decide +kernel
theorem own_dprog_21_method_6_code_40 : decode prog_21_method_6_code 40 = .ok (.lshl, 1) := by decide +kernel
theorem own_dprog_21_method_6_code_41 : decode prog_21_method_6_code 41 = .ok (.lor, 1) := by decide +kernel
theorem own_dprog_21_method_6_code_42 : decode prog_21_method_6_code 42 = .ok (.lastore, 1) := by decide +kernel
theorem own_dprog_21_method_6_code_43 : decode prog_21_method_6_code 43 = .ok (.return_, 1) := by decide +kernel
theorem own_efSL0 (m : MethodId) (o : Addr) (pa : Addr) (q : Int64) : entryFrame m #[(.ref o), (.ref pa), (.int (0 : Int32)), (.long q)] 7 = mkF m 0 #[.val (.ref o), .val (.ref pa), .val (.int (0 : Int32)), .val (.long q), .second, .unset, .unset] [] := by first | (simp [entryFrame, mkF, argsToLocals, Value.category]; done) | rfl
def own_QSL0 (Z : State) (o : Addr) (pa : Addr) (kp : ClassId) (X : List Int64) (aw : Addr) (as_ : Addr) (am : Addr) (kw : ClassId) (ks : ClassId) (km : ClassId) (wo0 : Int32) (wo1 : Int32) (wo2 : Int32) (sh0 : Int32) (sh1 : Int32) (sh2 : Int32) (mk0 : Int64) (mk1 : Int64) (mk2 : Int64) (q : Int64) (h0 : Heap) (n0 : Nat) (rv__ : Option Value) (h : Heap) (rL__ : List Loc) : Prop := rv__ = none ∧ Fr n0 rL__ ∧ Keep h0 h [pa] ∧ Arv Z h pa kp .long (3 : Int32) ((own_P X wo0 sh0 mk0 q).map Value.long) (.long (0 : Int64))
abbrev own_RSL0 : Room := { frames := 0, cells := 0, slots := 0, locals := 0 }
set_option maxRecDepth 65536 in
set_option maxHeartbeats 40000000 in
theorem own_rmSL0 (l : Launch) (Z : State) (a0 : Array Value) (hw : ∀ d ∈ tables_1, d.before a0 Z = true) (ws : List Jvm.Cond) (o : Addr) (pa : Addr) (kp : ClassId) (X : List Int64) (aw : Addr) (as_ : Addr) (am : Addr) (kw : ClassId) (ks : ClassId) (km : ClassId) (wo0 : Int32) (wo1 : Int32) (wo2 : Int32) (sh0 : Int32) (sh1 : Int32) (sh2 : Int32) (mk0 : Int64) (mk1 : Int64) (mk2 : Int64) (q : Int64) (h0 : Heap) (n0 : Nat) (Z0 : n0 ≤ h0.size) (Fw : Fld Z h0 o "com/example/nesiph/nesiph/MarkingSet" "wordOf" "[I" (.ref aw)) (Fs : Fld Z h0 o "com/example/nesiph/nesiph/MarkingSet" "shiftOf" "[I" (.ref as_)) (Fm : Fld Z h0 o "com/example/nesiph/nesiph/MarkingSet" "maskOf" "[J" (.ref am)) (Vp : Arv Z h0 pa kp .long (3 : Int32) (X.map Value.long) (.long (0 : Int64))) (Vw : Arv Z h0 aw kw .int (3 : Int32) [(.int wo0), (.int wo1), (.int wo2)] (.int (0 : Int32))) (Vs : Arv Z h0 as_ ks .int (3 : Int32) [(.int sh0), (.int sh1), (.int sh2)] (.int (0 : Int32))) (Vm : Arv Z h0 am km .long (3 : Int32) [(.long mk0), (.long mk1), (.long mk2)] (.long (0 : Int64))) (hX : X.length = 3) (hin : ¬ wo0 < (0 : Int32) ∧ wo0 < (3 : Int32)) (g_p : n0 ≤ pa) :
    MetFree l (⟨"com/example/nesiph/nesiph/MarkingSet", "setTokens", "([JIJ)V"⟩ : MethodName) (head1 (Jvm.Cond.code (⟨"com/example/nesiph/nesiph/MarkingSet", "setTokens", "([JIJ)V"⟩ : MethodName) prog_21_method_6_code 7 none :: ws) own_RSL0) (fun aa__ U => aa__ = #[(.ref o), (.ref pa), (.int (0 : Int32)), (.long q)] ∧ Z.Warmed39 U.vm ∧ U.heap = h0) (fun _ _ _ _ _ => True) (fun _ U oc_ U' => ∃ rv__ rL__, oc_ = .returned rv__ ∧ own_QSL0 Z o pa kp X aw as_ am kw ks km wo0 wo1 wo2 sh0 sh1 sh2 mk0 mk1 mk2 q h0 n0 rv__ U'.heap rL__ ∧ FrameEnd U oc_ U' rL__ own_RSL0.cells own_RSL0.slots) := by
  refine MetFree.of_bodySF (plainFor_of_name own_pn_com_example_nesiph_nesiph_MarkingSet) hisR ?_
  intro p e s m args below meth c s₁ Bd hml0 hP hK
  obtain ⟨rfl, hZ, hh⟩ := hP
  have hx := Bd.exec
  have hby := Bd.bytes
  have hml : c.maxLocals = 7 := hml0
  have hown : s.vm.findClass "com/example/nesiph/nesiph/MarkingSet" = some m.cls := findClass_of_methodNamed Bd.named
  have hnm := (name_of_methodNamed Bd.named Bd.method).1
  have X0 : Stand p l e own_RSL0 s m #[(.ref o), (.ref pa), (.int (0 : Int32)), (.long q)] below meth c s₁ [] 0 0 := Stand.of_body Bd
  have e0 : s₁.heap = h0 := by rw [← hh, Bd.state]; rfl
  have N0 := Fr.nil n0
  refine own_in (fun _ k => castTop (own_efSL0 m o pa q) k) ?_
  intro RR hRR
  show own_Go p.tables e below RR (s₁.setTop (mkF m 0 #[.val (.ref o), .val (.ref pa), .val (.int (0 : Int32)), .val (.long q), .second, .unset, .unset] []))
  refine own_st (fun _ k => XS.aloadN X0.here hx rfl (hb hby own_dprog_21_method_6_code_0) rfl rfl k) ?_
  show own_Go p.tables e below RR (s₁.setTop (mkF m 1 #[.val (.ref o), .val (.ref pa), .val (.int (0 : Int32)), .val (.long q), .second, .unset, .unset] [(.ref o)]))
  obtain ⟨T1, X1, e1, st1⟩ := getF X0 hx hZ hown (host := "") (Or.inl (hw _ (List.mem_of_getElem? (i := 22) rfl))) Via.refl e0 Fw (g := (mkF m 1 #[.val (.ref o), .val (.ref pa), .val (.int (0 : Int32)), .val (.long q), .second, .unset, .unset] [(.ref o)])) rfl rfl (hb hby own_dprog_21_method_6_code_1)
  refine own_st st1 ?_
  show own_Go p.tables e below RR (T1.setTop (mkF m 4 #[.val (.ref o), .val (.ref pa), .val (.int (0 : Int32)), .val (.long q), .second, .unset, .unset] [(.ref aw)]))
  refine own_st (fun _ k => XS.iloadN X1.here hx rfl (hb hby own_dprog_21_method_6_code_4) rfl k) ?_
  show own_Go p.tables e below RR (T1.setTop (mkF m 5 #[.val (.ref o), .val (.ref pa), .val (.int (0 : Int32)), .val (.long q), .second, .unset, .unset] [(.int (0 : Int32)), (.ref aw)]))
  obtain ⟨c2, A2, q2, s2, m2, H2, G2⟩ := id Vw
  have b2 := inb_of (j := (0 : Int32)) s2 ⟨by decide, by decide⟩
  refine own_st (fun _ k => X1.iaload hx (j := (0 : Int32)) (v := (.int wo0)) (by rw [e1]; exact A2.1) (State.isArrayOf_alike hZ.alike A2.2.1) A2.2.2 b2 (Has.at H2 b2 rfl) (g := (mkF m 5 #[.val (.ref o), .val (.ref pa), .val (.int (0 : Int32)), .val (.long q), .second, .unset, .unset] [(.int (0 : Int32)), (.ref aw)])) rfl rfl (hb hby own_dprog_21_method_6_code_5) _ (XS.istore X1.here hx rfl (hb hby own_dprog_21_method_6_code_6) rfl (l' := #[.val (.ref o), .val (.ref pa), .val (.int (0 : Int32)), .val (.long q), .second, .val (.int wo0), .unset]) rfl (XS.aloadN X1.here hx rfl (hb hby own_dprog_21_method_6_code_8) rfl rfl k))) ?_
  show own_Go p.tables e below RR (T1.setTop (mkF m 9 #[.val (.ref o), .val (.ref pa), .val (.int (0 : Int32)), .val (.long q), .second, .val (.int wo0), .unset] [(.ref o)]))
  obtain ⟨T3, X3, e3, st3⟩ := getF X1 hx hZ hown (host := "") (Or.inl (hw _ (List.mem_of_getElem? (i := 24) rfl))) Via.refl e1 Fs (g := (mkF m 9 #[.val (.ref o), .val (.ref pa), .val (.int (0 : Int32)), .val (.long q), .second, .val (.int wo0), .unset] [(.ref o)])) rfl rfl (hb hby own_dprog_21_method_6_code_9)
  refine own_st st3 ?_
  show own_Go p.tables e below RR (T3.setTop (mkF m 12 #[.val (.ref o), .val (.ref pa), .val (.int (0 : Int32)), .val (.long q), .second, .val (.int wo0), .unset] [(.ref as_)]))
  refine own_st (fun _ k => XS.iloadN X3.here hx rfl (hb hby own_dprog_21_method_6_code_12) rfl k) ?_
  show own_Go p.tables e below RR (T3.setTop (mkF m 13 #[.val (.ref o), .val (.ref pa), .val (.int (0 : Int32)), .val (.long q), .second, .val (.int wo0), .unset] [(.int (0 : Int32)), (.ref as_)]))
  obtain ⟨c4, A4, q4, s4, m4, H4, G4⟩ := id Vs
  have b4 := inb_of (j := (0 : Int32)) s4 ⟨by decide, by decide⟩
  refine own_st (fun _ k => X3.iaload hx (j := (0 : Int32)) (v := (.int sh0)) (by rw [e3]; exact A4.1) (State.isArrayOf_alike hZ.alike A4.2.1) A4.2.2 b4 (Has.at H4 b4 rfl) (g := (mkF m 13 #[.val (.ref o), .val (.ref pa), .val (.int (0 : Int32)), .val (.long q), .second, .val (.int wo0), .unset] [(.int (0 : Int32)), (.ref as_)])) rfl rfl (hb hby own_dprog_21_method_6_code_13) _ (XS.istore X3.here hx rfl (hb hby own_dprog_21_method_6_code_14) rfl (l' := #[.val (.ref o), .val (.ref pa), .val (.int (0 : Int32)), .val (.long q), .second, .val (.int wo0), .val (.int sh0)]) rfl (XS.aloadN X3.here hx rfl (hb hby own_dprog_21_method_6_code_16) rfl rfl (XS.iload X3.here hx rfl (hb hby own_dprog_21_method_6_code_17) rfl (XS.aloadN X3.here hx rfl (hb hby own_dprog_21_method_6_code_19) rfl rfl (XS.iload X3.here hx rfl (hb hby own_dprog_21_method_6_code_20) rfl k)))))) ?_
  show own_Go p.tables e below RR (T3.setTop (mkF m 22 #[.val (.ref o), .val (.ref pa), .val (.int (0 : Int32)), .val (.long q), .second, .val (.int wo0), .val (.int sh0)] [(.int wo0), (.ref pa), (.int wo0), (.ref pa)]))
  obtain ⟨c5, A5, q5, s5, m5, H5, G5⟩ := id Vp
  have b5 := inb_of (j := wo0) s5 hin
  refine own_st (fun _ k => X3.laload hx (j := wo0) (v := (.long (X.getD wo0.toNatClampNeg 0))) (by rw [e3]; exact A5.1) (State.isArrayOf_alike hZ.alike A5.2.1) A5.2.2 b5 (Has.at H5 b5 (own_map_getD Value.long)) (g := (mkF m 22 #[.val (.ref o), .val (.ref pa), .val (.int (0 : Int32)), .val (.long q), .second, .val (.int wo0), .val (.int sh0)] [(.int wo0), (.ref pa), (.int wo0), (.ref pa)])) rfl rfl (hb hby own_dprog_21_method_6_code_22) _ (XS.aloadN X3.here hx rfl (hb hby own_dprog_21_method_6_code_23) rfl rfl k)) ?_
  show own_Go p.tables e below RR (T3.setTop (mkF m 24 #[.val (.ref o), .val (.ref pa), .val (.int (0 : Int32)), .val (.long q), .second, .val (.int wo0), .val (.int sh0)] [(.ref o), (.long (X.getD wo0.toNatClampNeg 0)), (.int wo0), (.ref pa)]))
  obtain ⟨T6, X6, e6, st6⟩ := getF X3 hx hZ hown (host := "") (Or.inl (hw _ (List.mem_of_getElem? (i := 26) rfl))) Via.refl e3 Fm (g := (mkF m 24 #[.val (.ref o), .val (.ref pa), .val (.int (0 : Int32)), .val (.long q), .second, .val (.int wo0), .val (.int sh0)] [(.ref o), (.long (X.getD wo0.toNatClampNeg 0)), (.int wo0), (.ref pa)])) rfl rfl (hb hby own_dprog_21_method_6_code_24)
  refine own_st st6 ?_
  show own_Go p.tables e below RR (T6.setTop (mkF m 27 #[.val (.ref o), .val (.ref pa), .val (.int (0 : Int32)), .val (.long q), .second, .val (.int wo0), .val (.int sh0)] [(.ref am), (.long (X.getD wo0.toNatClampNeg 0)), (.int wo0), (.ref pa)]))
  refine own_st (fun _ k => XS.iloadN X6.here hx rfl (hb hby own_dprog_21_method_6_code_27) rfl k) ?_
  show own_Go p.tables e below RR (T6.setTop (mkF m 28 #[.val (.ref o), .val (.ref pa), .val (.int (0 : Int32)), .val (.long q), .second, .val (.int wo0), .val (.int sh0)] [(.int (0 : Int32)), (.ref am), (.long (X.getD wo0.toNatClampNeg 0)), (.int wo0), (.ref pa)]))
  obtain ⟨c7, A7, q7, s7, m7, H7, G7⟩ := id Vm
  have b7 := inb_of (j := (0 : Int32)) s7 ⟨by decide, by decide⟩
  refine own_st (fun _ k => X6.laload hx (j := (0 : Int32)) (v := (.long mk0)) (by rw [e6]; exact A7.1) (State.isArrayOf_alike hZ.alike A7.2.1) A7.2.2 b7 (Has.at H7 b7 rfl) (g := (mkF m 28 #[.val (.ref o), .val (.ref pa), .val (.int (0 : Int32)), .val (.long q), .second, .val (.int wo0), .val (.int sh0)] [(.int (0 : Int32)), (.ref am), (.long (X.getD wo0.toNatClampNeg 0)), (.int wo0), (.ref pa)])) rfl rfl (hb hby own_dprog_21_method_6_code_28) _ (XS.iload X6.here hx rfl (hb hby own_dprog_21_method_6_code_29) rfl (XS.lshl X6.here hx rfl (hb hby own_dprog_21_method_6_code_31) rfl (X6.ldc2Long hx hown (mvT hZ (hw _ (List.mem_of_getElem? (i := 55) rfl))) (g := (mkF m 32 #[.val (.ref o), .val (.ref pa), .val (.int (0 : Int32)), .val (.long q), .second, .val (.int wo0), .val (.int sh0)] [(.long (mk0 <<< (sh0 &&& 0x3f).toInt64)), (.long (X.getD wo0.toNatClampNeg 0)), (.int wo0), (.ref pa)])) rfl (hb hby own_dprog_21_method_6_code_32) _ (XS.lxor X6.here hx rfl (hb hby own_dprog_21_method_6_code_35) rfl (XS.land X6.here hx rfl (hb hby own_dprog_21_method_6_code_36) rfl (XS.lloadN X6.here hx rfl (hb hby own_dprog_21_method_6_code_37) rfl (XS.iload X6.here hx rfl (hb hby own_dprog_21_method_6_code_38) rfl k)))))))) ?_
  show own_Go p.tables e below RR (T6.setTop (mkF m 40 #[.val (.ref o), .val (.ref pa), .val (.int (0 : Int32)), .val (.long q), .second, .val (.int wo0), .val (.int sh0)] [(.int sh0), (.long q), (.long ((X.getD wo0.toNatClampNeg 0) &&& ((mk0 <<< (sh0 &&& 0x3f).toInt64) ^^^ (-1 : Int64)))), (.int wo0), (.ref pa)]))
  refine own_st (fun _ k => XS.lshl X6.here hx rfl (hb hby own_dprog_21_method_6_code_40) rfl (XS.lor X6.here hx rfl (hb hby own_dprog_21_method_6_code_41) rfl k)) ?_
  show own_Go p.tables e below RR (T6.setTop (mkF m 42 #[.val (.ref o), .val (.ref pa), .val (.int (0 : Int32)), .val (.long q), .second, .val (.int wo0), .val (.int sh0)] [(.long (((X.getD wo0.toNatClampNeg 0) &&& ((mk0 <<< (sh0 &&& 0x3f).toInt64) ^^^ (-1 : Int64))) ||| (q <<< (sh0 &&& 0x3f).toInt64))), (.int wo0), (.ref pa)]))
  obtain ⟨c8, A8, q8, s8, m8, H8, G8⟩ := id Vp
  obtain ⟨T9, h9, X9, e9, W9, st9⟩ := stJ X6 hx hZ e6 A8 (j := wo0) (inb_of s8 hin) (g := (mkF m 42 #[.val (.ref o), .val (.ref pa), .val (.int (0 : Int32)), .val (.long q), .second, .val (.int wo0), .val (.int sh0)] [(.long (((X.getD wo0.toNatClampNeg 0) &&& ((mk0 <<< (sh0 &&& 0x3f).toInt64) ^^^ (-1 : Int64))) ||| (q <<< (sh0 &&& 0x3f).toInt64))), (.int wo0), (.ref pa)])) rfl rfl (hb hby own_dprog_21_method_6_code_42)
  have V9 : Arv Z h9 pa kp .long (3 : Int32) ((own_P X wo0 sh0 mk0 q).map Value.long) (.long (0 : Int64)) := by
    unfold own_P
    rw [List.map_set]
    exact Arv.set A8 q8 s8 m8 H8 G8 rfl W9 _ rfl (by rw [List.length_map, hX]; exact (own_nlt hin).1)
  have N9 := Fr.snoc X9 N0 g_p
  refine own_st st9 ?_
  have z10 : n0 ≤ h9.size := Nat.le_trans Z0 (Keep.of_wr W9).1
  have kk11 : Keep h0 h9 [pa] := (Keep.refl h0 [pa]).wr W9 (Or.inl (List.mem_of_getElem? (i := 0) rfl))
  show own_Go p.tables e below RR (T9.setTop (mkF m 43 #[.val (.ref o), .val (.ref pa), .val (.int (0 : Int32)), .val (.long q), .second, .val (.int wo0), .val (.int sh0)] []))
  obtain ⟨fs, hrt_, hrun, hended, hW, hsame⟩ := X9.leave (v := none) (fun _ => rfl)
  refine own_fin (X9.returnOut hx Bd.returns (hb hby own_dprog_21_method_6_code_43) hrt_) (hRR _ ⟨_, hrun, hended, _, _, rfl, ?_, ⟨_, rfl⟩, hW, hsame.mono (by decide) (by decide)⟩)
  show own_QSL0 Z o pa kp X aw as_ am kw ks km wo0 wo1 wo2 sh0 sh1 sh2 mk0 mk1 mk2 q h0 n0 _ T9.heap _
  rw [e9]
  exact ⟨rfl, N9, kk11, V9⟩
theorem own_efTL1 (m : MethodId) (o : Addr) (pa : Addr) : entryFrame m #[(.ref o), (.ref pa), (.int (1 : Int32))] 3 = mkF m 0 #[.val (.ref o), .val (.ref pa), .val (.int (1 : Int32))] [] := by first | (simp [entryFrame, mkF, argsToLocals, Value.category]; done) | rfl
def own_QTL1 (Z : State) (o : Addr) (pa : Addr) (kp : ClassId) (X : List Int64) (aw : Addr) (as_ : Addr) (am : Addr) (kw : ClassId) (ks : ClassId) (km : ClassId) (wo0 : Int32) (wo1 : Int32) (wo2 : Int32) (sh0 : Int32) (sh1 : Int32) (sh2 : Int32) (mk0 : Int64) (mk1 : Int64) (mk2 : Int64) (h0 : Heap) (n0 : Nat) (rv__ : Option Value) (h : Heap) (rL__ : List Loc) : Prop := rv__ = some (.long (own_G X wo1 sh1 mk1)) ∧ Fr n0 rL__ ∧ h = h0
abbrev own_RTL1 : Room := { frames := 0, cells := 0, slots := 0, locals := 0 }
set_option maxRecDepth 65536 in
set_option maxHeartbeats 40000000 in
theorem own_rmTL1 (l : Launch) (Z : State) (a0 : Array Value) (hw : ∀ d ∈ tables_1, d.before a0 Z = true) (ws : List Jvm.Cond) (o : Addr) (pa : Addr) (kp : ClassId) (X : List Int64) (aw : Addr) (as_ : Addr) (am : Addr) (kw : ClassId) (ks : ClassId) (km : ClassId) (wo0 : Int32) (wo1 : Int32) (wo2 : Int32) (sh0 : Int32) (sh1 : Int32) (sh2 : Int32) (mk0 : Int64) (mk1 : Int64) (mk2 : Int64) (h0 : Heap) (n0 : Nat) (Z0 : n0 ≤ h0.size) (Fw : Fld Z h0 o "com/example/nesiph/nesiph/MarkingSet" "wordOf" "[I" (.ref aw)) (Fs : Fld Z h0 o "com/example/nesiph/nesiph/MarkingSet" "shiftOf" "[I" (.ref as_)) (Fm : Fld Z h0 o "com/example/nesiph/nesiph/MarkingSet" "maskOf" "[J" (.ref am)) (Vp : Arv Z h0 pa kp .long (3 : Int32) (X.map Value.long) (.long (0 : Int64))) (Vw : Arv Z h0 aw kw .int (3 : Int32) [(.int wo0), (.int wo1), (.int wo2)] (.int (0 : Int32))) (Vs : Arv Z h0 as_ ks .int (3 : Int32) [(.int sh0), (.int sh1), (.int sh2)] (.int (0 : Int32))) (Vm : Arv Z h0 am km .long (3 : Int32) [(.long mk0), (.long mk1), (.long mk2)] (.long (0 : Int64))) (hX : X.length = 3) (hin : ¬ wo1 < (0 : Int32) ∧ wo1 < (3 : Int32)) :
    MetFree l (⟨"com/example/nesiph/nesiph/MarkingSet", "tokens", "([JI)J"⟩ : MethodName) (head1 (Jvm.Cond.code (⟨"com/example/nesiph/nesiph/MarkingSet", "tokens", "([JI)J"⟩ : MethodName) prog_21_method_4_code 3 (some .long) :: ws) own_RTL1) (fun aa__ U => aa__ = #[(.ref o), (.ref pa), (.int (1 : Int32))] ∧ Z.Warmed39 U.vm ∧ U.heap = h0) (fun _ _ _ _ _ => True) (fun _ U oc_ U' => ∃ rv__ rL__, oc_ = .returned rv__ ∧ own_QTL1 Z o pa kp X aw as_ am kw ks km wo0 wo1 wo2 sh0 sh1 sh2 mk0 mk1 mk2 h0 n0 rv__ U'.heap rL__ ∧ FrameEnd U oc_ U' rL__ own_RTL1.cells own_RTL1.slots) := by
  refine MetFree.of_bodySF (plainFor_of_name own_pn_com_example_nesiph_nesiph_MarkingSet) hisR ?_
  intro p e s m args below meth c s₁ Bd hml0 hP hK
  obtain ⟨rfl, hZ, hh⟩ := hP
  have hx := Bd.exec
  have hby := Bd.bytes
  have hml : c.maxLocals = 3 := hml0
  have hown : s.vm.findClass "com/example/nesiph/nesiph/MarkingSet" = some m.cls := findClass_of_methodNamed Bd.named
  have hnm := (name_of_methodNamed Bd.named Bd.method).1
  have X0 : Stand p l e own_RTL1 s m #[(.ref o), (.ref pa), (.int (1 : Int32))] below meth c s₁ [] 0 0 := Stand.of_body Bd
  have e0 : s₁.heap = h0 := by rw [← hh, Bd.state]; rfl
  have N0 := Fr.nil n0
  refine own_in (fun _ k => castTop (own_efTL1 m o pa) k) ?_
  intro RR hRR
  show own_Go p.tables e below RR (s₁.setTop (mkF m 0 #[.val (.ref o), .val (.ref pa), .val (.int (1 : Int32))] []))
  refine own_st (fun _ k => XS.aloadN X0.here hx rfl (hb hby own_dprog_21_method_4_code_0) rfl rfl (XS.aloadN X0.here hx rfl (hb hby own_dprog_21_method_4_code_1) rfl rfl k)) ?_
  show own_Go p.tables e below RR (s₁.setTop (mkF m 2 #[.val (.ref o), .val (.ref pa), .val (.int (1 : Int32))] [(.ref o), (.ref pa)]))
  obtain ⟨T1, X1, e1, st1⟩ := getF X0 hx hZ hown (host := "") (Or.inl (hw _ (List.mem_of_getElem? (i := 22) rfl))) Via.refl e0 Fw (g := (mkF m 2 #[.val (.ref o), .val (.ref pa), .val (.int (1 : Int32))] [(.ref o), (.ref pa)])) rfl rfl (hb hby own_dprog_21_method_4_code_2)
  refine own_st st1 ?_
  show own_Go p.tables e below RR (T1.setTop (mkF m 5 #[.val (.ref o), .val (.ref pa), .val (.int (1 : Int32))] [(.ref aw), (.ref pa)]))
  refine own_st (fun _ k => XS.iloadN X1.here hx rfl (hb hby own_dprog_21_method_4_code_5) rfl k) ?_
  show own_Go p.tables e below RR (T1.setTop (mkF m 6 #[.val (.ref o), .val (.ref pa), .val (.int (1 : Int32))] [(.int (1 : Int32)), (.ref aw), (.ref pa)]))
  obtain ⟨c2, A2, q2, s2, m2, H2, G2⟩ := id Vw
  have b2 := inb_of (j := (1 : Int32)) s2 ⟨by decide, by decide⟩
  refine own_st (fun _ k => X1.iaload hx (j := (1 : Int32)) (v := (.int wo1)) (by rw [e1]; exact A2.1) (State.isArrayOf_alike hZ.alike A2.2.1) A2.2.2 b2 (Has.at H2 b2 rfl) (g := (mkF m 6 #[.val (.ref o), .val (.ref pa), .val (.int (1 : Int32))] [(.int (1 : Int32)), (.ref aw), (.ref pa)])) rfl rfl (hb hby own_dprog_21_method_4_code_6) _ k) ?_
  show own_Go p.tables e below RR (T1.setTop (mkF m 7 #[.val (.ref o), .val (.ref pa), .val (.int (1 : Int32))] [(.int wo1), (.ref pa)]))
  obtain ⟨c3, A3, q3, s3, m3, H3, G3⟩ := id Vp
  have b3 := inb_of (j := wo1) s3 hin
  refine own_st (fun _ k => X1.laload hx (j := wo1) (v := (.long (X.getD wo1.toNatClampNeg 0))) (by rw [e1]; exact A3.1) (State.isArrayOf_alike hZ.alike A3.2.1) A3.2.2 b3 (Has.at H3 b3 (own_map_getD Value.long)) (g := (mkF m 7 #[.val (.ref o), .val (.ref pa), .val (.int (1 : Int32))] [(.int wo1), (.ref pa)])) rfl rfl (hb hby own_dprog_21_method_4_code_7) _ (XS.aloadN X1.here hx rfl (hb hby own_dprog_21_method_4_code_8) rfl rfl k)) ?_
  show own_Go p.tables e below RR (T1.setTop (mkF m 9 #[.val (.ref o), .val (.ref pa), .val (.int (1 : Int32))] [(.ref o), (.long (X.getD wo1.toNatClampNeg 0))]))
  obtain ⟨T4, X4, e4, st4⟩ := getF X1 hx hZ hown (host := "") (Or.inl (hw _ (List.mem_of_getElem? (i := 24) rfl))) Via.refl e1 Fs (g := (mkF m 9 #[.val (.ref o), .val (.ref pa), .val (.int (1 : Int32))] [(.ref o), (.long (X.getD wo1.toNatClampNeg 0))])) rfl rfl (hb hby own_dprog_21_method_4_code_9)
  refine own_st st4 ?_
  show own_Go p.tables e below RR (T4.setTop (mkF m 12 #[.val (.ref o), .val (.ref pa), .val (.int (1 : Int32))] [(.ref as_), (.long (X.getD wo1.toNatClampNeg 0))]))
  refine own_st (fun _ k => XS.iloadN X4.here hx rfl (hb hby own_dprog_21_method_4_code_12) rfl k) ?_
  show own_Go p.tables e below RR (T4.setTop (mkF m 13 #[.val (.ref o), .val (.ref pa), .val (.int (1 : Int32))] [(.int (1 : Int32)), (.ref as_), (.long (X.getD wo1.toNatClampNeg 0))]))
  obtain ⟨c5, A5, q5, s5, m5, H5, G5⟩ := id Vs
  have b5 := inb_of (j := (1 : Int32)) s5 ⟨by decide, by decide⟩
  refine own_st (fun _ k => X4.iaload hx (j := (1 : Int32)) (v := (.int sh1)) (by rw [e4]; exact A5.1) (State.isArrayOf_alike hZ.alike A5.2.1) A5.2.2 b5 (Has.at H5 b5 rfl) (g := (mkF m 13 #[.val (.ref o), .val (.ref pa), .val (.int (1 : Int32))] [(.int (1 : Int32)), (.ref as_), (.long (X.getD wo1.toNatClampNeg 0))])) rfl rfl (hb hby own_dprog_21_method_4_code_13) _ (XS.lushr X4.here hx rfl (hb hby own_dprog_21_method_4_code_14) rfl (XS.aloadN X4.here hx rfl (hb hby own_dprog_21_method_4_code_15) rfl rfl k))) ?_
  show own_Go p.tables e below RR (T4.setTop (mkF m 16 #[.val (.ref o), .val (.ref pa), .val (.int (1 : Int32))] [(.ref o), (.long (((X.getD wo1.toNatClampNeg 0).toUInt64 >>> (sh1 &&& 0x3f).toInt64.toUInt64).toInt64))]))
  obtain ⟨T6, X6, e6, st6⟩ := getF X4 hx hZ hown (host := "") (Or.inl (hw _ (List.mem_of_getElem? (i := 26) rfl))) Via.refl e4 Fm (g := (mkF m 16 #[.val (.ref o), .val (.ref pa), .val (.int (1 : Int32))] [(.ref o), (.long (((X.getD wo1.toNatClampNeg 0).toUInt64 >>> (sh1 &&& 0x3f).toInt64.toUInt64).toInt64))])) rfl rfl (hb hby own_dprog_21_method_4_code_16)
  refine own_st st6 ?_
  show own_Go p.tables e below RR (T6.setTop (mkF m 19 #[.val (.ref o), .val (.ref pa), .val (.int (1 : Int32))] [(.ref am), (.long (((X.getD wo1.toNatClampNeg 0).toUInt64 >>> (sh1 &&& 0x3f).toInt64.toUInt64).toInt64))]))
  refine own_st (fun _ k => XS.iloadN X6.here hx rfl (hb hby own_dprog_21_method_4_code_19) rfl k) ?_
  show own_Go p.tables e below RR (T6.setTop (mkF m 20 #[.val (.ref o), .val (.ref pa), .val (.int (1 : Int32))] [(.int (1 : Int32)), (.ref am), (.long (((X.getD wo1.toNatClampNeg 0).toUInt64 >>> (sh1 &&& 0x3f).toInt64.toUInt64).toInt64))]))
  obtain ⟨c7, A7, q7, s7, m7, H7, G7⟩ := id Vm
  have b7 := inb_of (j := (1 : Int32)) s7 ⟨by decide, by decide⟩
  refine own_st (fun _ k => X6.laload hx (j := (1 : Int32)) (v := (.long mk1)) (by rw [e6]; exact A7.1) (State.isArrayOf_alike hZ.alike A7.2.1) A7.2.2 b7 (Has.at H7 b7 rfl) (g := (mkF m 20 #[.val (.ref o), .val (.ref pa), .val (.int (1 : Int32))] [(.int (1 : Int32)), (.ref am), (.long (((X.getD wo1.toNatClampNeg 0).toUInt64 >>> (sh1 &&& 0x3f).toInt64.toUInt64).toInt64))])) rfl rfl (hb hby own_dprog_21_method_4_code_20) _ (XS.land X6.here hx rfl (hb hby own_dprog_21_method_4_code_21) rfl k)) ?_
  show own_Go p.tables e below RR (T6.setTop (mkF m 22 #[.val (.ref o), .val (.ref pa), .val (.int (1 : Int32))] [(.long ((((X.getD wo1.toNatClampNeg 0).toUInt64 >>> (sh1 &&& 0x3f).toInt64.toUInt64).toInt64) &&& mk1))]))
  obtain ⟨fs, hrt_, hrun, hended, hW, hsame⟩ := X6.leave (v := some (.long ((((X.getD wo1.toNatClampNeg 0).toUInt64 >>> (sh1 &&& 0x3f).toInt64.toUInt64).toInt64) &&& mk1))) (fun h => by rw [Bd.returns] at h; cases h)
  refine own_fin (retOut X6 hx Bd.returns rfl (Or.inr (Or.inl ⟨rfl, rfl, _, rfl⟩)) (hb hby own_dprog_21_method_4_code_22) hrt_) (hRR _ ⟨_, hrun, hended, _, _, rfl, ?_, ⟨_, rfl⟩, hW, hsame.mono (by decide) (by decide)⟩)
  show own_QTL1 Z o pa kp X aw as_ am kw ks km wo0 wo1 wo2 sh0 sh1 sh2 mk0 mk1 mk2 h0 n0 _ T6.heap _
  rw [e6]
  exact ⟨rfl, N0, rfl⟩
theorem own_efSL1 (m : MethodId) (o : Addr) (pa : Addr) (q : Int64) : entryFrame m #[(.ref o), (.ref pa), (.int (1 : Int32)), (.long q)] 7 = mkF m 0 #[.val (.ref o), .val (.ref pa), .val (.int (1 : Int32)), .val (.long q), .second, .unset, .unset] [] := by first | (simp [entryFrame, mkF, argsToLocals, Value.category]; done) | rfl
def own_QSL1 (Z : State) (o : Addr) (pa : Addr) (kp : ClassId) (X : List Int64) (aw : Addr) (as_ : Addr) (am : Addr) (kw : ClassId) (ks : ClassId) (km : ClassId) (wo0 : Int32) (wo1 : Int32) (wo2 : Int32) (sh0 : Int32) (sh1 : Int32) (sh2 : Int32) (mk0 : Int64) (mk1 : Int64) (mk2 : Int64) (q : Int64) (h0 : Heap) (n0 : Nat) (rv__ : Option Value) (h : Heap) (rL__ : List Loc) : Prop := rv__ = none ∧ Fr n0 rL__ ∧ Keep h0 h [pa] ∧ Arv Z h pa kp .long (3 : Int32) ((own_P X wo1 sh1 mk1 q).map Value.long) (.long (0 : Int64))
abbrev own_RSL1 : Room := { frames := 0, cells := 0, slots := 0, locals := 0 }
set_option maxRecDepth 65536 in
set_option maxHeartbeats 40000000 in
theorem own_rmSL1 (l : Launch) (Z : State) (a0 : Array Value) (hw : ∀ d ∈ tables_1, d.before a0 Z = true) (ws : List Jvm.Cond) (o : Addr) (pa : Addr) (kp : ClassId) (X : List Int64) (aw : Addr) (as_ : Addr) (am : Addr) (kw : ClassId) (ks : ClassId) (km : ClassId) (wo0 : Int32) (wo1 : Int32) (wo2 : Int32) (sh0 : Int32) (sh1 : Int32) (sh2 : Int32) (mk0 : Int64) (mk1 : Int64) (mk2 : Int64) (q : Int64) (h0 : Heap) (n0 : Nat) (Z0 : n0 ≤ h0.size) (Fw : Fld Z h0 o "com/example/nesiph/nesiph/MarkingSet" "wordOf" "[I" (.ref aw)) (Fs : Fld Z h0 o "com/example/nesiph/nesiph/MarkingSet" "shiftOf" "[I" (.ref as_)) (Fm : Fld Z h0 o "com/example/nesiph/nesiph/MarkingSet" "maskOf" "[J" (.ref am)) (Vp : Arv Z h0 pa kp .long (3 : Int32) (X.map Value.long) (.long (0 : Int64))) (Vw : Arv Z h0 aw kw .int (3 : Int32) [(.int wo0), (.int wo1), (.int wo2)] (.int (0 : Int32))) (Vs : Arv Z h0 as_ ks .int (3 : Int32) [(.int sh0), (.int sh1), (.int sh2)] (.int (0 : Int32))) (Vm : Arv Z h0 am km .long (3 : Int32) [(.long mk0), (.long mk1), (.long mk2)] (.long (0 : Int64))) (hX : X.length = 3) (hin : ¬ wo1 < (0 : Int32) ∧ wo1 < (3 : Int32)) (g_p : n0 ≤ pa) :
    MetFree l (⟨"com/example/nesiph/nesiph/MarkingSet", "setTokens", "([JIJ)V"⟩ : MethodName) (head1 (Jvm.Cond.code (⟨"com/example/nesiph/nesiph/MarkingSet", "setTokens", "([JIJ)V"⟩ : MethodName) prog_21_method_6_code 7 none :: ws) own_RSL1) (fun aa__ U => aa__ = #[(.ref o), (.ref pa), (.int (1 : Int32)), (.long q)] ∧ Z.Warmed39 U.vm ∧ U.heap = h0) (fun _ _ _ _ _ => True) (fun _ U oc_ U' => ∃ rv__ rL__, oc_ = .returned rv__ ∧ own_QSL1 Z o pa kp X aw as_ am kw ks km wo0 wo1 wo2 sh0 sh1 sh2 mk0 mk1 mk2 q h0 n0 rv__ U'.heap rL__ ∧ FrameEnd U oc_ U' rL__ own_RSL1.cells own_RSL1.slots) := by
  refine MetFree.of_bodySF (plainFor_of_name own_pn_com_example_nesiph_nesiph_MarkingSet) hisR ?_
  intro p e s m args below meth c s₁ Bd hml0 hP hK
  obtain ⟨rfl, hZ, hh⟩ := hP
  have hx := Bd.exec
  have hby := Bd.bytes
  have hml : c.maxLocals = 7 := hml0
  have hown : s.vm.findClass "com/example/nesiph/nesiph/MarkingSet" = some m.cls := findClass_of_methodNamed Bd.named
  have hnm := (name_of_methodNamed Bd.named Bd.method).1
  have X0 : Stand p l e own_RSL1 s m #[(.ref o), (.ref pa), (.int (1 : Int32)), (.long q)] below meth c s₁ [] 0 0 := Stand.of_body Bd
  have e0 : s₁.heap = h0 := by rw [← hh, Bd.state]; rfl
  have N0 := Fr.nil n0
  refine own_in (fun _ k => castTop (own_efSL1 m o pa q) k) ?_
  intro RR hRR
  show own_Go p.tables e below RR (s₁.setTop (mkF m 0 #[.val (.ref o), .val (.ref pa), .val (.int (1 : Int32)), .val (.long q), .second, .unset, .unset] []))
  refine own_st (fun _ k => XS.aloadN X0.here hx rfl (hb hby own_dprog_21_method_6_code_0) rfl rfl k) ?_
  show own_Go p.tables e below RR (s₁.setTop (mkF m 1 #[.val (.ref o), .val (.ref pa), .val (.int (1 : Int32)), .val (.long q), .second, .unset, .unset] [(.ref o)]))
  obtain ⟨T1, X1, e1, st1⟩ := getF X0 hx hZ hown (host := "") (Or.inl (hw _ (List.mem_of_getElem? (i := 22) rfl))) Via.refl e0 Fw (g := (mkF m 1 #[.val (.ref o), .val (.ref pa), .val (.int (1 : Int32)), .val (.long q), .second, .unset, .unset] [(.ref o)])) rfl rfl (hb hby own_dprog_21_method_6_code_1)
  refine own_st st1 ?_
  show own_Go p.tables e below RR (T1.setTop (mkF m 4 #[.val (.ref o), .val (.ref pa), .val (.int (1 : Int32)), .val (.long q), .second, .unset, .unset] [(.ref aw)]))
  refine own_st (fun _ k => XS.iloadN X1.here hx rfl (hb hby own_dprog_21_method_6_code_4) rfl k) ?_
  show own_Go p.tables e below RR (T1.setTop (mkF m 5 #[.val (.ref o), .val (.ref pa), .val (.int (1 : Int32)), .val (.long q), .second, .unset, .unset] [(.int (1 : Int32)), (.ref aw)]))
  obtain ⟨c2, A2, q2, s2, m2, H2, G2⟩ := id Vw
  have b2 := inb_of (j := (1 : Int32)) s2 ⟨by decide, by decide⟩
  refine own_st (fun _ k => X1.iaload hx (j := (1 : Int32)) (v := (.int wo1)) (by rw [e1]; exact A2.1) (State.isArrayOf_alike hZ.alike A2.2.1) A2.2.2 b2 (Has.at H2 b2 rfl) (g := (mkF m 5 #[.val (.ref o), .val (.ref pa), .val (.int (1 : Int32)), .val (.long q), .second, .unset, .unset] [(.int (1 : Int32)), (.ref aw)])) rfl rfl (hb hby own_dprog_21_method_6_code_5) _ (XS.istore X1.here hx rfl (hb hby own_dprog_21_method_6_code_6) rfl (l' := #[.val (.ref o), .val (.ref pa), .val (.int (1 : Int32)), .val (.long q), .second, .val (.int wo1), .unset]) rfl (XS.aloadN X1.here hx rfl (hb hby own_dprog_21_method_6_code_8) rfl rfl k))) ?_
  show own_Go p.tables e below RR (T1.setTop (mkF m 9 #[.val (.ref o), .val (.ref pa), .val (.int (1 : Int32)), .val (.long q), .second, .val (.int wo1), .unset] [(.ref o)]))
  obtain ⟨T3, X3, e3, st3⟩ := getF X1 hx hZ hown (host := "") (Or.inl (hw _ (List.mem_of_getElem? (i := 24) rfl))) Via.refl e1 Fs (g := (mkF m 9 #[.val (.ref o), .val (.ref pa), .val (.int (1 : Int32)), .val (.long q), .second, .val (.int wo1), .unset] [(.ref o)])) rfl rfl (hb hby own_dprog_21_method_6_code_9)
  refine own_st st3 ?_
  show own_Go p.tables e below RR (T3.setTop (mkF m 12 #[.val (.ref o), .val (.ref pa), .val (.int (1 : Int32)), .val (.long q), .second, .val (.int wo1), .unset] [(.ref as_)]))
  refine own_st (fun _ k => XS.iloadN X3.here hx rfl (hb hby own_dprog_21_method_6_code_12) rfl k) ?_
  show own_Go p.tables e below RR (T3.setTop (mkF m 13 #[.val (.ref o), .val (.ref pa), .val (.int (1 : Int32)), .val (.long q), .second, .val (.int wo1), .unset] [(.int (1 : Int32)), (.ref as_)]))
  obtain ⟨c4, A4, q4, s4, m4, H4, G4⟩ := id Vs
  have b4 := inb_of (j := (1 : Int32)) s4 ⟨by decide, by decide⟩
  refine own_st (fun _ k => X3.iaload hx (j := (1 : Int32)) (v := (.int sh1)) (by rw [e3]; exact A4.1) (State.isArrayOf_alike hZ.alike A4.2.1) A4.2.2 b4 (Has.at H4 b4 rfl) (g := (mkF m 13 #[.val (.ref o), .val (.ref pa), .val (.int (1 : Int32)), .val (.long q), .second, .val (.int wo1), .unset] [(.int (1 : Int32)), (.ref as_)])) rfl rfl (hb hby own_dprog_21_method_6_code_13) _ (XS.istore X3.here hx rfl (hb hby own_dprog_21_method_6_code_14) rfl (l' := #[.val (.ref o), .val (.ref pa), .val (.int (1 : Int32)), .val (.long q), .second, .val (.int wo1), .val (.int sh1)]) rfl (XS.aloadN X3.here hx rfl (hb hby own_dprog_21_method_6_code_16) rfl rfl (XS.iload X3.here hx rfl (hb hby own_dprog_21_method_6_code_17) rfl (XS.aloadN X3.here hx rfl (hb hby own_dprog_21_method_6_code_19) rfl rfl (XS.iload X3.here hx rfl (hb hby own_dprog_21_method_6_code_20) rfl k)))))) ?_
  show own_Go p.tables e below RR (T3.setTop (mkF m 22 #[.val (.ref o), .val (.ref pa), .val (.int (1 : Int32)), .val (.long q), .second, .val (.int wo1), .val (.int sh1)] [(.int wo1), (.ref pa), (.int wo1), (.ref pa)]))
  obtain ⟨c5, A5, q5, s5, m5, H5, G5⟩ := id Vp
  have b5 := inb_of (j := wo1) s5 hin
  refine own_st (fun _ k => X3.laload hx (j := wo1) (v := (.long (X.getD wo1.toNatClampNeg 0))) (by rw [e3]; exact A5.1) (State.isArrayOf_alike hZ.alike A5.2.1) A5.2.2 b5 (Has.at H5 b5 (own_map_getD Value.long)) (g := (mkF m 22 #[.val (.ref o), .val (.ref pa), .val (.int (1 : Int32)), .val (.long q), .second, .val (.int wo1), .val (.int sh1)] [(.int wo1), (.ref pa), (.int wo1), (.ref pa)])) rfl rfl (hb hby own_dprog_21_method_6_code_22) _ (XS.aloadN X3.here hx rfl (hb hby own_dprog_21_method_6_code_23) rfl rfl k)) ?_
  show own_Go p.tables e below RR (T3.setTop (mkF m 24 #[.val (.ref o), .val (.ref pa), .val (.int (1 : Int32)), .val (.long q), .second, .val (.int wo1), .val (.int sh1)] [(.ref o), (.long (X.getD wo1.toNatClampNeg 0)), (.int wo1), (.ref pa)]))
  obtain ⟨T6, X6, e6, st6⟩ := getF X3 hx hZ hown (host := "") (Or.inl (hw _ (List.mem_of_getElem? (i := 26) rfl))) Via.refl e3 Fm (g := (mkF m 24 #[.val (.ref o), .val (.ref pa), .val (.int (1 : Int32)), .val (.long q), .second, .val (.int wo1), .val (.int sh1)] [(.ref o), (.long (X.getD wo1.toNatClampNeg 0)), (.int wo1), (.ref pa)])) rfl rfl (hb hby own_dprog_21_method_6_code_24)
  refine own_st st6 ?_
  show own_Go p.tables e below RR (T6.setTop (mkF m 27 #[.val (.ref o), .val (.ref pa), .val (.int (1 : Int32)), .val (.long q), .second, .val (.int wo1), .val (.int sh1)] [(.ref am), (.long (X.getD wo1.toNatClampNeg 0)), (.int wo1), (.ref pa)]))
  refine own_st (fun _ k => XS.iloadN X6.here hx rfl (hb hby own_dprog_21_method_6_code_27) rfl k) ?_
  show own_Go p.tables e below RR (T6.setTop (mkF m 28 #[.val (.ref o), .val (.ref pa), .val (.int (1 : Int32)), .val (.long q), .second, .val (.int wo1), .val (.int sh1)] [(.int (1 : Int32)), (.ref am), (.long (X.getD wo1.toNatClampNeg 0)), (.int wo1), (.ref pa)]))
  obtain ⟨c7, A7, q7, s7, m7, H7, G7⟩ := id Vm
  have b7 := inb_of (j := (1 : Int32)) s7 ⟨by decide, by decide⟩
  refine own_st (fun _ k => X6.laload hx (j := (1 : Int32)) (v := (.long mk1)) (by rw [e6]; exact A7.1) (State.isArrayOf_alike hZ.alike A7.2.1) A7.2.2 b7 (Has.at H7 b7 rfl) (g := (mkF m 28 #[.val (.ref o), .val (.ref pa), .val (.int (1 : Int32)), .val (.long q), .second, .val (.int wo1), .val (.int sh1)] [(.int (1 : Int32)), (.ref am), (.long (X.getD wo1.toNatClampNeg 0)), (.int wo1), (.ref pa)])) rfl rfl (hb hby own_dprog_21_method_6_code_28) _ (XS.iload X6.here hx rfl (hb hby own_dprog_21_method_6_code_29) rfl (XS.lshl X6.here hx rfl (hb hby own_dprog_21_method_6_code_31) rfl (X6.ldc2Long hx hown (mvT hZ (hw _ (List.mem_of_getElem? (i := 55) rfl))) (g := (mkF m 32 #[.val (.ref o), .val (.ref pa), .val (.int (1 : Int32)), .val (.long q), .second, .val (.int wo1), .val (.int sh1)] [(.long (mk1 <<< (sh1 &&& 0x3f).toInt64)), (.long (X.getD wo1.toNatClampNeg 0)), (.int wo1), (.ref pa)])) rfl (hb hby own_dprog_21_method_6_code_32) _ (XS.lxor X6.here hx rfl (hb hby own_dprog_21_method_6_code_35) rfl (XS.land X6.here hx rfl (hb hby own_dprog_21_method_6_code_36) rfl (XS.lloadN X6.here hx rfl (hb hby own_dprog_21_method_6_code_37) rfl (XS.iload X6.here hx rfl (hb hby own_dprog_21_method_6_code_38) rfl k)))))))) ?_
  show own_Go p.tables e below RR (T6.setTop (mkF m 40 #[.val (.ref o), .val (.ref pa), .val (.int (1 : Int32)), .val (.long q), .second, .val (.int wo1), .val (.int sh1)] [(.int sh1), (.long q), (.long ((X.getD wo1.toNatClampNeg 0) &&& ((mk1 <<< (sh1 &&& 0x3f).toInt64) ^^^ (-1 : Int64)))), (.int wo1), (.ref pa)]))
  refine own_st (fun _ k => XS.lshl X6.here hx rfl (hb hby own_dprog_21_method_6_code_40) rfl (XS.lor X6.here hx rfl (hb hby own_dprog_21_method_6_code_41) rfl k)) ?_
  show own_Go p.tables e below RR (T6.setTop (mkF m 42 #[.val (.ref o), .val (.ref pa), .val (.int (1 : Int32)), .val (.long q), .second, .val (.int wo1), .val (.int sh1)] [(.long (((X.getD wo1.toNatClampNeg 0) &&& ((mk1 <<< (sh1 &&& 0x3f).toInt64) ^^^ (-1 : Int64))) ||| (q <<< (sh1 &&& 0x3f).toInt64))), (.int wo1), (.ref pa)]))
  obtain ⟨c8, A8, q8, s8, m8, H8, G8⟩ := id Vp
  obtain ⟨T9, h9, X9, e9, W9, st9⟩ := stJ X6 hx hZ e6 A8 (j := wo1) (inb_of s8 hin) (g := (mkF m 42 #[.val (.ref o), .val (.ref pa), .val (.int (1 : Int32)), .val (.long q), .second, .val (.int wo1), .val (.int sh1)] [(.long (((X.getD wo1.toNatClampNeg 0) &&& ((mk1 <<< (sh1 &&& 0x3f).toInt64) ^^^ (-1 : Int64))) ||| (q <<< (sh1 &&& 0x3f).toInt64))), (.int wo1), (.ref pa)])) rfl rfl (hb hby own_dprog_21_method_6_code_42)
  have V9 : Arv Z h9 pa kp .long (3 : Int32) ((own_P X wo1 sh1 mk1 q).map Value.long) (.long (0 : Int64)) := by
    unfold own_P
    rw [List.map_set]
    exact Arv.set A8 q8 s8 m8 H8 G8 rfl W9 _ rfl (by rw [List.length_map, hX]; exact (own_nlt hin).1)
  have N9 := Fr.snoc X9 N0 g_p
  refine own_st st9 ?_
  have z10 : n0 ≤ h9.size := Nat.le_trans Z0 (Keep.of_wr W9).1
  have kk11 : Keep h0 h9 [pa] := (Keep.refl h0 [pa]).wr W9 (Or.inl (List.mem_of_getElem? (i := 0) rfl))
  show own_Go p.tables e below RR (T9.setTop (mkF m 43 #[.val (.ref o), .val (.ref pa), .val (.int (1 : Int32)), .val (.long q), .second, .val (.int wo1), .val (.int sh1)] []))
  obtain ⟨fs, hrt_, hrun, hended, hW, hsame⟩ := X9.leave (v := none) (fun _ => rfl)
  refine own_fin (X9.returnOut hx Bd.returns (hb hby own_dprog_21_method_6_code_43) hrt_) (hRR _ ⟨_, hrun, hended, _, _, rfl, ?_, ⟨_, rfl⟩, hW, hsame.mono (by decide) (by decide)⟩)
  show own_QSL1 Z o pa kp X aw as_ am kw ks km wo0 wo1 wo2 sh0 sh1 sh2 mk0 mk1 mk2 q h0 n0 _ T9.heap _
  rw [e9]
  exact ⟨rfl, N9, kk11, V9⟩
theorem own_efTL2 (m : MethodId) (o : Addr) (pa : Addr) : entryFrame m #[(.ref o), (.ref pa), (.int (2 : Int32))] 3 = mkF m 0 #[.val (.ref o), .val (.ref pa), .val (.int (2 : Int32))] [] := by first | (simp [entryFrame, mkF, argsToLocals, Value.category]; done) | rfl
def own_QTL2 (Z : State) (o : Addr) (pa : Addr) (kp : ClassId) (X : List Int64) (aw : Addr) (as_ : Addr) (am : Addr) (kw : ClassId) (ks : ClassId) (km : ClassId) (wo0 : Int32) (wo1 : Int32) (wo2 : Int32) (sh0 : Int32) (sh1 : Int32) (sh2 : Int32) (mk0 : Int64) (mk1 : Int64) (mk2 : Int64) (h0 : Heap) (n0 : Nat) (rv__ : Option Value) (h : Heap) (rL__ : List Loc) : Prop := rv__ = some (.long (own_G X wo2 sh2 mk2)) ∧ Fr n0 rL__ ∧ h = h0
abbrev own_RTL2 : Room := { frames := 0, cells := 0, slots := 0, locals := 0 }
set_option maxRecDepth 65536 in
set_option maxHeartbeats 40000000 in
theorem own_rmTL2 (l : Launch) (Z : State) (a0 : Array Value) (hw : ∀ d ∈ tables_1, d.before a0 Z = true) (ws : List Jvm.Cond) (o : Addr) (pa : Addr) (kp : ClassId) (X : List Int64) (aw : Addr) (as_ : Addr) (am : Addr) (kw : ClassId) (ks : ClassId) (km : ClassId) (wo0 : Int32) (wo1 : Int32) (wo2 : Int32) (sh0 : Int32) (sh1 : Int32) (sh2 : Int32) (mk0 : Int64) (mk1 : Int64) (mk2 : Int64) (h0 : Heap) (n0 : Nat) (Z0 : n0 ≤ h0.size) (Fw : Fld Z h0 o "com/example/nesiph/nesiph/MarkingSet" "wordOf" "[I" (.ref aw)) (Fs : Fld Z h0 o "com/example/nesiph/nesiph/MarkingSet" "shiftOf" "[I" (.ref as_)) (Fm : Fld Z h0 o "com/example/nesiph/nesiph/MarkingSet" "maskOf" "[J" (.ref am)) (Vp : Arv Z h0 pa kp .long (3 : Int32) (X.map Value.long) (.long (0 : Int64))) (Vw : Arv Z h0 aw kw .int (3 : Int32) [(.int wo0), (.int wo1), (.int wo2)] (.int (0 : Int32))) (Vs : Arv Z h0 as_ ks .int (3 : Int32) [(.int sh0), (.int sh1), (.int sh2)] (.int (0 : Int32))) (Vm : Arv Z h0 am km .long (3 : Int32) [(.long mk0), (.long mk1), (.long mk2)] (.long (0 : Int64))) (hX : X.length = 3) (hin : ¬ wo2 < (0 : Int32) ∧ wo2 < (3 : Int32)) :
    MetFree l (⟨"com/example/nesiph/nesiph/MarkingSet", "tokens", "([JI)J"⟩ : MethodName) (head1 (Jvm.Cond.code (⟨"com/example/nesiph/nesiph/MarkingSet", "tokens", "([JI)J"⟩ : MethodName) prog_21_method_4_code 3 (some .long) :: ws) own_RTL2) (fun aa__ U => aa__ = #[(.ref o), (.ref pa), (.int (2 : Int32))] ∧ Z.Warmed39 U.vm ∧ U.heap = h0) (fun _ _ _ _ _ => True) (fun _ U oc_ U' => ∃ rv__ rL__, oc_ = .returned rv__ ∧ own_QTL2 Z o pa kp X aw as_ am kw ks km wo0 wo1 wo2 sh0 sh1 sh2 mk0 mk1 mk2 h0 n0 rv__ U'.heap rL__ ∧ FrameEnd U oc_ U' rL__ own_RTL2.cells own_RTL2.slots) := by
  refine MetFree.of_bodySF (plainFor_of_name own_pn_com_example_nesiph_nesiph_MarkingSet) hisR ?_
  intro p e s m args below meth c s₁ Bd hml0 hP hK
  obtain ⟨rfl, hZ, hh⟩ := hP
  have hx := Bd.exec
  have hby := Bd.bytes
  have hml : c.maxLocals = 3 := hml0
  have hown : s.vm.findClass "com/example/nesiph/nesiph/MarkingSet" = some m.cls := findClass_of_methodNamed Bd.named
  have hnm := (name_of_methodNamed Bd.named Bd.method).1
  have X0 : Stand p l e own_RTL2 s m #[(.ref o), (.ref pa), (.int (2 : Int32))] below meth c s₁ [] 0 0 := Stand.of_body Bd
  have e0 : s₁.heap = h0 := by rw [← hh, Bd.state]; rfl
  have N0 := Fr.nil n0
  refine own_in (fun _ k => castTop (own_efTL2 m o pa) k) ?_
  intro RR hRR
  show own_Go p.tables e below RR (s₁.setTop (mkF m 0 #[.val (.ref o), .val (.ref pa), .val (.int (2 : Int32))] []))
  refine own_st (fun _ k => XS.aloadN X0.here hx rfl (hb hby own_dprog_21_method_4_code_0) rfl rfl (XS.aloadN X0.here hx rfl (hb hby own_dprog_21_method_4_code_1) rfl rfl k)) ?_
  show own_Go p.tables e below RR (s₁.setTop (mkF m 2 #[.val (.ref o), .val (.ref pa), .val (.int (2 : Int32))] [(.ref o), (.ref pa)]))
  obtain ⟨T1, X1, e1, st1⟩ := getF X0 hx hZ hown (host := "") (Or.inl (hw _ (List.mem_of_getElem? (i := 22) rfl))) Via.refl e0 Fw (g := (mkF m 2 #[.val (.ref o), .val (.ref pa), .val (.int (2 : Int32))] [(.ref o), (.ref pa)])) rfl rfl (hb hby own_dprog_21_method_4_code_2)
  refine own_st st1 ?_
  show own_Go p.tables e below RR (T1.setTop (mkF m 5 #[.val (.ref o), .val (.ref pa), .val (.int (2 : Int32))] [(.ref aw), (.ref pa)]))
  refine own_st (fun _ k => XS.iloadN X1.here hx rfl (hb hby own_dprog_21_method_4_code_5) rfl k) ?_
  show own_Go p.tables e below RR (T1.setTop (mkF m 6 #[.val (.ref o), .val (.ref pa), .val (.int (2 : Int32))] [(.int (2 : Int32)), (.ref aw), (.ref pa)]))
  obtain ⟨c2, A2, q2, s2, m2, H2, G2⟩ := id Vw
  have b2 := inb_of (j := (2 : Int32)) s2 ⟨by decide, by decide⟩
  refine own_st (fun _ k => X1.iaload hx (j := (2 : Int32)) (v := (.int wo2)) (by rw [e1]; exact A2.1) (State.isArrayOf_alike hZ.alike A2.2.1) A2.2.2 b2 (Has.at H2 b2 rfl) (g := (mkF m 6 #[.val (.ref o), .val (.ref pa), .val (.int (2 : Int32))] [(.int (2 : Int32)), (.ref aw), (.ref pa)])) rfl rfl (hb hby own_dprog_21_method_4_code_6) _ k) ?_
  show own_Go p.tables e below RR (T1.setTop (mkF m 7 #[.val (.ref o), .val (.ref pa), .val (.int (2 : Int32))] [(.int wo2), (.ref pa)]))
  obtain ⟨c3, A3, q3, s3, m3, H3, G3⟩ := id Vp
  have b3 := inb_of (j := wo2) s3 hin
  refine own_st (fun _ k => X1.laload hx (j := wo2) (v := (.long (X.getD wo2.toNatClampNeg 0))) (by rw [e1]; exact A3.1) (State.isArrayOf_alike hZ.alike A3.2.1) A3.2.2 b3 (Has.at H3 b3 (own_map_getD Value.long)) (g := (mkF m 7 #[.val (.ref o), .val (.ref pa), .val (.int (2 : Int32))] [(.int wo2), (.ref pa)])) rfl rfl (hb hby own_dprog_21_method_4_code_7) _ (XS.aloadN X1.here hx rfl (hb hby own_dprog_21_method_4_code_8) rfl rfl k)) ?_
  show own_Go p.tables e below RR (T1.setTop (mkF m 9 #[.val (.ref o), .val (.ref pa), .val (.int (2 : Int32))] [(.ref o), (.long (X.getD wo2.toNatClampNeg 0))]))
  obtain ⟨T4, X4, e4, st4⟩ := getF X1 hx hZ hown (host := "") (Or.inl (hw _ (List.mem_of_getElem? (i := 24) rfl))) Via.refl e1 Fs (g := (mkF m 9 #[.val (.ref o), .val (.ref pa), .val (.int (2 : Int32))] [(.ref o), (.long (X.getD wo2.toNatClampNeg 0))])) rfl rfl (hb hby own_dprog_21_method_4_code_9)
  refine own_st st4 ?_
  show own_Go p.tables e below RR (T4.setTop (mkF m 12 #[.val (.ref o), .val (.ref pa), .val (.int (2 : Int32))] [(.ref as_), (.long (X.getD wo2.toNatClampNeg 0))]))
  refine own_st (fun _ k => XS.iloadN X4.here hx rfl (hb hby own_dprog_21_method_4_code_12) rfl k) ?_
  show own_Go p.tables e below RR (T4.setTop (mkF m 13 #[.val (.ref o), .val (.ref pa), .val (.int (2 : Int32))] [(.int (2 : Int32)), (.ref as_), (.long (X.getD wo2.toNatClampNeg 0))]))
  obtain ⟨c5, A5, q5, s5, m5, H5, G5⟩ := id Vs
  have b5 := inb_of (j := (2 : Int32)) s5 ⟨by decide, by decide⟩
  refine own_st (fun _ k => X4.iaload hx (j := (2 : Int32)) (v := (.int sh2)) (by rw [e4]; exact A5.1) (State.isArrayOf_alike hZ.alike A5.2.1) A5.2.2 b5 (Has.at H5 b5 rfl) (g := (mkF m 13 #[.val (.ref o), .val (.ref pa), .val (.int (2 : Int32))] [(.int (2 : Int32)), (.ref as_), (.long (X.getD wo2.toNatClampNeg 0))])) rfl rfl (hb hby own_dprog_21_method_4_code_13) _ (XS.lushr X4.here hx rfl (hb hby own_dprog_21_method_4_code_14) rfl (XS.aloadN X4.here hx rfl (hb hby own_dprog_21_method_4_code_15) rfl rfl k))) ?_
  show own_Go p.tables e below RR (T4.setTop (mkF m 16 #[.val (.ref o), .val (.ref pa), .val (.int (2 : Int32))] [(.ref o), (.long (((X.getD wo2.toNatClampNeg 0).toUInt64 >>> (sh2 &&& 0x3f).toInt64.toUInt64).toInt64))]))
  obtain ⟨T6, X6, e6, st6⟩ := getF X4 hx hZ hown (host := "") (Or.inl (hw _ (List.mem_of_getElem? (i := 26) rfl))) Via.refl e4 Fm (g := (mkF m 16 #[.val (.ref o), .val (.ref pa), .val (.int (2 : Int32))] [(.ref o), (.long (((X.getD wo2.toNatClampNeg 0).toUInt64 >>> (sh2 &&& 0x3f).toInt64.toUInt64).toInt64))])) rfl rfl (hb hby own_dprog_21_method_4_code_16)
  refine own_st st6 ?_
  show own_Go p.tables e below RR (T6.setTop (mkF m 19 #[.val (.ref o), .val (.ref pa), .val (.int (2 : Int32))] [(.ref am), (.long (((X.getD wo2.toNatClampNeg 0).toUInt64 >>> (sh2 &&& 0x3f).toInt64.toUInt64).toInt64))]))
  refine own_st (fun _ k => XS.iloadN X6.here hx rfl (hb hby own_dprog_21_method_4_code_19) rfl k) ?_
  show own_Go p.tables e below RR (T6.setTop (mkF m 20 #[.val (.ref o), .val (.ref pa), .val (.int (2 : Int32))] [(.int (2 : Int32)), (.ref am), (.long (((X.getD wo2.toNatClampNeg 0).toUInt64 >>> (sh2 &&& 0x3f).toInt64.toUInt64).toInt64))]))
  obtain ⟨c7, A7, q7, s7, m7, H7, G7⟩ := id Vm
  have b7 := inb_of (j := (2 : Int32)) s7 ⟨by decide, by decide⟩
  refine own_st (fun _ k => X6.laload hx (j := (2 : Int32)) (v := (.long mk2)) (by rw [e6]; exact A7.1) (State.isArrayOf_alike hZ.alike A7.2.1) A7.2.2 b7 (Has.at H7 b7 rfl) (g := (mkF m 20 #[.val (.ref o), .val (.ref pa), .val (.int (2 : Int32))] [(.int (2 : Int32)), (.ref am), (.long (((X.getD wo2.toNatClampNeg 0).toUInt64 >>> (sh2 &&& 0x3f).toInt64.toUInt64).toInt64))])) rfl rfl (hb hby own_dprog_21_method_4_code_20) _ (XS.land X6.here hx rfl (hb hby own_dprog_21_method_4_code_21) rfl k)) ?_
  show own_Go p.tables e below RR (T6.setTop (mkF m 22 #[.val (.ref o), .val (.ref pa), .val (.int (2 : Int32))] [(.long ((((X.getD wo2.toNatClampNeg 0).toUInt64 >>> (sh2 &&& 0x3f).toInt64.toUInt64).toInt64) &&& mk2))]))
  obtain ⟨fs, hrt_, hrun, hended, hW, hsame⟩ := X6.leave (v := some (.long ((((X.getD wo2.toNatClampNeg 0).toUInt64 >>> (sh2 &&& 0x3f).toInt64.toUInt64).toInt64) &&& mk2))) (fun h => by rw [Bd.returns] at h; cases h)
  refine own_fin (retOut X6 hx Bd.returns rfl (Or.inr (Or.inl ⟨rfl, rfl, _, rfl⟩)) (hb hby own_dprog_21_method_4_code_22) hrt_) (hRR _ ⟨_, hrun, hended, _, _, rfl, ?_, ⟨_, rfl⟩, hW, hsame.mono (by decide) (by decide)⟩)
  show own_QTL2 Z o pa kp X aw as_ am kw ks km wo0 wo1 wo2 sh0 sh1 sh2 mk0 mk1 mk2 h0 n0 _ T6.heap _
  rw [e6]
  exact ⟨rfl, N0, rfl⟩
theorem own_efSL2 (m : MethodId) (o : Addr) (pa : Addr) (q : Int64) : entryFrame m #[(.ref o), (.ref pa), (.int (2 : Int32)), (.long q)] 7 = mkF m 0 #[.val (.ref o), .val (.ref pa), .val (.int (2 : Int32)), .val (.long q), .second, .unset, .unset] [] := by first | (simp [entryFrame, mkF, argsToLocals, Value.category]; done) | rfl
def own_QSL2 (Z : State) (o : Addr) (pa : Addr) (kp : ClassId) (X : List Int64) (aw : Addr) (as_ : Addr) (am : Addr) (kw : ClassId) (ks : ClassId) (km : ClassId) (wo0 : Int32) (wo1 : Int32) (wo2 : Int32) (sh0 : Int32) (sh1 : Int32) (sh2 : Int32) (mk0 : Int64) (mk1 : Int64) (mk2 : Int64) (q : Int64) (h0 : Heap) (n0 : Nat) (rv__ : Option Value) (h : Heap) (rL__ : List Loc) : Prop := rv__ = none ∧ Fr n0 rL__ ∧ Keep h0 h [pa] ∧ Arv Z h pa kp .long (3 : Int32) ((own_P X wo2 sh2 mk2 q).map Value.long) (.long (0 : Int64))
abbrev own_RSL2 : Room := { frames := 0, cells := 0, slots := 0, locals := 0 }
set_option maxRecDepth 65536 in
set_option maxHeartbeats 40000000 in
theorem own_rmSL2 (l : Launch) (Z : State) (a0 : Array Value) (hw : ∀ d ∈ tables_1, d.before a0 Z = true) (ws : List Jvm.Cond) (o : Addr) (pa : Addr) (kp : ClassId) (X : List Int64) (aw : Addr) (as_ : Addr) (am : Addr) (kw : ClassId) (ks : ClassId) (km : ClassId) (wo0 : Int32) (wo1 : Int32) (wo2 : Int32) (sh0 : Int32) (sh1 : Int32) (sh2 : Int32) (mk0 : Int64) (mk1 : Int64) (mk2 : Int64) (q : Int64) (h0 : Heap) (n0 : Nat) (Z0 : n0 ≤ h0.size) (Fw : Fld Z h0 o "com/example/nesiph/nesiph/MarkingSet" "wordOf" "[I" (.ref aw)) (Fs : Fld Z h0 o "com/example/nesiph/nesiph/MarkingSet" "shiftOf" "[I" (.ref as_)) (Fm : Fld Z h0 o "com/example/nesiph/nesiph/MarkingSet" "maskOf" "[J" (.ref am)) (Vp : Arv Z h0 pa kp .long (3 : Int32) (X.map Value.long) (.long (0 : Int64))) (Vw : Arv Z h0 aw kw .int (3 : Int32) [(.int wo0), (.int wo1), (.int wo2)] (.int (0 : Int32))) (Vs : Arv Z h0 as_ ks .int (3 : Int32) [(.int sh0), (.int sh1), (.int sh2)] (.int (0 : Int32))) (Vm : Arv Z h0 am km .long (3 : Int32) [(.long mk0), (.long mk1), (.long mk2)] (.long (0 : Int64))) (hX : X.length = 3) (hin : ¬ wo2 < (0 : Int32) ∧ wo2 < (3 : Int32)) (g_p : n0 ≤ pa) :
    MetFree l (⟨"com/example/nesiph/nesiph/MarkingSet", "setTokens", "([JIJ)V"⟩ : MethodName) (head1 (Jvm.Cond.code (⟨"com/example/nesiph/nesiph/MarkingSet", "setTokens", "([JIJ)V"⟩ : MethodName) prog_21_method_6_code 7 none :: ws) own_RSL2) (fun aa__ U => aa__ = #[(.ref o), (.ref pa), (.int (2 : Int32)), (.long q)] ∧ Z.Warmed39 U.vm ∧ U.heap = h0) (fun _ _ _ _ _ => True) (fun _ U oc_ U' => ∃ rv__ rL__, oc_ = .returned rv__ ∧ own_QSL2 Z o pa kp X aw as_ am kw ks km wo0 wo1 wo2 sh0 sh1 sh2 mk0 mk1 mk2 q h0 n0 rv__ U'.heap rL__ ∧ FrameEnd U oc_ U' rL__ own_RSL2.cells own_RSL2.slots) := by
  refine MetFree.of_bodySF (plainFor_of_name own_pn_com_example_nesiph_nesiph_MarkingSet) hisR ?_
  intro p e s m args below meth c s₁ Bd hml0 hP hK
  obtain ⟨rfl, hZ, hh⟩ := hP
  have hx := Bd.exec
  have hby := Bd.bytes
  have hml : c.maxLocals = 7 := hml0
  have hown : s.vm.findClass "com/example/nesiph/nesiph/MarkingSet" = some m.cls := findClass_of_methodNamed Bd.named
  have hnm := (name_of_methodNamed Bd.named Bd.method).1
  have X0 : Stand p l e own_RSL2 s m #[(.ref o), (.ref pa), (.int (2 : Int32)), (.long q)] below meth c s₁ [] 0 0 := Stand.of_body Bd
  have e0 : s₁.heap = h0 := by rw [← hh, Bd.state]; rfl
  have N0 := Fr.nil n0
  refine own_in (fun _ k => castTop (own_efSL2 m o pa q) k) ?_
  intro RR hRR
  show own_Go p.tables e below RR (s₁.setTop (mkF m 0 #[.val (.ref o), .val (.ref pa), .val (.int (2 : Int32)), .val (.long q), .second, .unset, .unset] []))
  refine own_st (fun _ k => XS.aloadN X0.here hx rfl (hb hby own_dprog_21_method_6_code_0) rfl rfl k) ?_
  show own_Go p.tables e below RR (s₁.setTop (mkF m 1 #[.val (.ref o), .val (.ref pa), .val (.int (2 : Int32)), .val (.long q), .second, .unset, .unset] [(.ref o)]))
  obtain ⟨T1, X1, e1, st1⟩ := getF X0 hx hZ hown (host := "") (Or.inl (hw _ (List.mem_of_getElem? (i := 22) rfl))) Via.refl e0 Fw (g := (mkF m 1 #[.val (.ref o), .val (.ref pa), .val (.int (2 : Int32)), .val (.long q), .second, .unset, .unset] [(.ref o)])) rfl rfl (hb hby own_dprog_21_method_6_code_1)
  refine own_st st1 ?_
  show own_Go p.tables e below RR (T1.setTop (mkF m 4 #[.val (.ref o), .val (.ref pa), .val (.int (2 : Int32)), .val (.long q), .second, .unset, .unset] [(.ref aw)]))
  refine own_st (fun _ k => XS.iloadN X1.here hx rfl (hb hby own_dprog_21_method_6_code_4) rfl k) ?_
  show own_Go p.tables e below RR (T1.setTop (mkF m 5 #[.val (.ref o), .val (.ref pa), .val (.int (2 : Int32)), .val (.long q), .second, .unset, .unset] [(.int (2 : Int32)), (.ref aw)]))
  obtain ⟨c2, A2, q2, s2, m2, H2, G2⟩ := id Vw
  have b2 := inb_of (j := (2 : Int32)) s2 ⟨by decide, by decide⟩
  refine own_st (fun _ k => X1.iaload hx (j := (2 : Int32)) (v := (.int wo2)) (by rw [e1]; exact A2.1) (State.isArrayOf_alike hZ.alike A2.2.1) A2.2.2 b2 (Has.at H2 b2 rfl) (g := (mkF m 5 #[.val (.ref o), .val (.ref pa), .val (.int (2 : Int32)), .val (.long q), .second, .unset, .unset] [(.int (2 : Int32)), (.ref aw)])) rfl rfl (hb hby own_dprog_21_method_6_code_5) _ (XS.istore X1.here hx rfl (hb hby own_dprog_21_method_6_code_6) rfl (l' := #[.val (.ref o), .val (.ref pa), .val (.int (2 : Int32)), .val (.long q), .second, .val (.int wo2), .unset]) rfl (XS.aloadN X1.here hx rfl (hb hby own_dprog_21_method_6_code_8) rfl rfl k))) ?_
  show own_Go p.tables e below RR (T1.setTop (mkF m 9 #[.val (.ref o), .val (.ref pa), .val (.int (2 : Int32)), .val (.long q), .second, .val (.int wo2), .unset] [(.ref o)]))
  obtain ⟨T3, X3, e3, st3⟩ := getF X1 hx hZ hown (host := "") (Or.inl (hw _ (List.mem_of_getElem? (i := 24) rfl))) Via.refl e1 Fs (g := (mkF m 9 #[.val (.ref o), .val (.ref pa), .val (.int (2 : Int32)), .val (.long q), .second, .val (.int wo2), .unset] [(.ref o)])) rfl rfl (hb hby own_dprog_21_method_6_code_9)
  refine own_st st3 ?_
  show own_Go p.tables e below RR (T3.setTop (mkF m 12 #[.val (.ref o), .val (.ref pa), .val (.int (2 : Int32)), .val (.long q), .second, .val (.int wo2), .unset] [(.ref as_)]))
  refine own_st (fun _ k => XS.iloadN X3.here hx rfl (hb hby own_dprog_21_method_6_code_12) rfl k) ?_
  show own_Go p.tables e below RR (T3.setTop (mkF m 13 #[.val (.ref o), .val (.ref pa), .val (.int (2 : Int32)), .val (.long q), .second, .val (.int wo2), .unset] [(.int (2 : Int32)), (.ref as_)]))
  obtain ⟨c4, A4, q4, s4, m4, H4, G4⟩ := id Vs
  have b4 := inb_of (j := (2 : Int32)) s4 ⟨by decide, by decide⟩
  refine own_st (fun _ k => X3.iaload hx (j := (2 : Int32)) (v := (.int sh2)) (by rw [e3]; exact A4.1) (State.isArrayOf_alike hZ.alike A4.2.1) A4.2.2 b4 (Has.at H4 b4 rfl) (g := (mkF m 13 #[.val (.ref o), .val (.ref pa), .val (.int (2 : Int32)), .val (.long q), .second, .val (.int wo2), .unset] [(.int (2 : Int32)), (.ref as_)])) rfl rfl (hb hby own_dprog_21_method_6_code_13) _ (XS.istore X3.here hx rfl (hb hby own_dprog_21_method_6_code_14) rfl (l' := #[.val (.ref o), .val (.ref pa), .val (.int (2 : Int32)), .val (.long q), .second, .val (.int wo2), .val (.int sh2)]) rfl (XS.aloadN X3.here hx rfl (hb hby own_dprog_21_method_6_code_16) rfl rfl (XS.iload X3.here hx rfl (hb hby own_dprog_21_method_6_code_17) rfl (XS.aloadN X3.here hx rfl (hb hby own_dprog_21_method_6_code_19) rfl rfl (XS.iload X3.here hx rfl (hb hby own_dprog_21_method_6_code_20) rfl k)))))) ?_
  show own_Go p.tables e below RR (T3.setTop (mkF m 22 #[.val (.ref o), .val (.ref pa), .val (.int (2 : Int32)), .val (.long q), .second, .val (.int wo2), .val (.int sh2)] [(.int wo2), (.ref pa), (.int wo2), (.ref pa)]))
  obtain ⟨c5, A5, q5, s5, m5, H5, G5⟩ := id Vp
  have b5 := inb_of (j := wo2) s5 hin
  refine own_st (fun _ k => X3.laload hx (j := wo2) (v := (.long (X.getD wo2.toNatClampNeg 0))) (by rw [e3]; exact A5.1) (State.isArrayOf_alike hZ.alike A5.2.1) A5.2.2 b5 (Has.at H5 b5 (own_map_getD Value.long)) (g := (mkF m 22 #[.val (.ref o), .val (.ref pa), .val (.int (2 : Int32)), .val (.long q), .second, .val (.int wo2), .val (.int sh2)] [(.int wo2), (.ref pa), (.int wo2), (.ref pa)])) rfl rfl (hb hby own_dprog_21_method_6_code_22) _ (XS.aloadN X3.here hx rfl (hb hby own_dprog_21_method_6_code_23) rfl rfl k)) ?_
  show own_Go p.tables e below RR (T3.setTop (mkF m 24 #[.val (.ref o), .val (.ref pa), .val (.int (2 : Int32)), .val (.long q), .second, .val (.int wo2), .val (.int sh2)] [(.ref o), (.long (X.getD wo2.toNatClampNeg 0)), (.int wo2), (.ref pa)]))
  obtain ⟨T6, X6, e6, st6⟩ := getF X3 hx hZ hown (host := "") (Or.inl (hw _ (List.mem_of_getElem? (i := 26) rfl))) Via.refl e3 Fm (g := (mkF m 24 #[.val (.ref o), .val (.ref pa), .val (.int (2 : Int32)), .val (.long q), .second, .val (.int wo2), .val (.int sh2)] [(.ref o), (.long (X.getD wo2.toNatClampNeg 0)), (.int wo2), (.ref pa)])) rfl rfl (hb hby own_dprog_21_method_6_code_24)
  refine own_st st6 ?_
  show own_Go p.tables e below RR (T6.setTop (mkF m 27 #[.val (.ref o), .val (.ref pa), .val (.int (2 : Int32)), .val (.long q), .second, .val (.int wo2), .val (.int sh2)] [(.ref am), (.long (X.getD wo2.toNatClampNeg 0)), (.int wo2), (.ref pa)]))
  refine own_st (fun _ k => XS.iloadN X6.here hx rfl (hb hby own_dprog_21_method_6_code_27) rfl k) ?_
  show own_Go p.tables e below RR (T6.setTop (mkF m 28 #[.val (.ref o), .val (.ref pa), .val (.int (2 : Int32)), .val (.long q), .second, .val (.int wo2), .val (.int sh2)] [(.int (2 : Int32)), (.ref am), (.long (X.getD wo2.toNatClampNeg 0)), (.int wo2), (.ref pa)]))
  obtain ⟨c7, A7, q7, s7, m7, H7, G7⟩ := id Vm
  have b7 := inb_of (j := (2 : Int32)) s7 ⟨by decide, by decide⟩
  refine own_st (fun _ k => X6.laload hx (j := (2 : Int32)) (v := (.long mk2)) (by rw [e6]; exact A7.1) (State.isArrayOf_alike hZ.alike A7.2.1) A7.2.2 b7 (Has.at H7 b7 rfl) (g := (mkF m 28 #[.val (.ref o), .val (.ref pa), .val (.int (2 : Int32)), .val (.long q), .second, .val (.int wo2), .val (.int sh2)] [(.int (2 : Int32)), (.ref am), (.long (X.getD wo2.toNatClampNeg 0)), (.int wo2), (.ref pa)])) rfl rfl (hb hby own_dprog_21_method_6_code_28) _ (XS.iload X6.here hx rfl (hb hby own_dprog_21_method_6_code_29) rfl (XS.lshl X6.here hx rfl (hb hby own_dprog_21_method_6_code_31) rfl (X6.ldc2Long hx hown (mvT hZ (hw _ (List.mem_of_getElem? (i := 55) rfl))) (g := (mkF m 32 #[.val (.ref o), .val (.ref pa), .val (.int (2 : Int32)), .val (.long q), .second, .val (.int wo2), .val (.int sh2)] [(.long (mk2 <<< (sh2 &&& 0x3f).toInt64)), (.long (X.getD wo2.toNatClampNeg 0)), (.int wo2), (.ref pa)])) rfl (hb hby own_dprog_21_method_6_code_32) _ (XS.lxor X6.here hx rfl (hb hby own_dprog_21_method_6_code_35) rfl (XS.land X6.here hx rfl (hb hby own_dprog_21_method_6_code_36) rfl (XS.lloadN X6.here hx rfl (hb hby own_dprog_21_method_6_code_37) rfl (XS.iload X6.here hx rfl (hb hby own_dprog_21_method_6_code_38) rfl k)))))))) ?_
  show own_Go p.tables e below RR (T6.setTop (mkF m 40 #[.val (.ref o), .val (.ref pa), .val (.int (2 : Int32)), .val (.long q), .second, .val (.int wo2), .val (.int sh2)] [(.int sh2), (.long q), (.long ((X.getD wo2.toNatClampNeg 0) &&& ((mk2 <<< (sh2 &&& 0x3f).toInt64) ^^^ (-1 : Int64)))), (.int wo2), (.ref pa)]))
  refine own_st (fun _ k => XS.lshl X6.here hx rfl (hb hby own_dprog_21_method_6_code_40) rfl (XS.lor X6.here hx rfl (hb hby own_dprog_21_method_6_code_41) rfl k)) ?_
  show own_Go p.tables e below RR (T6.setTop (mkF m 42 #[.val (.ref o), .val (.ref pa), .val (.int (2 : Int32)), .val (.long q), .second, .val (.int wo2), .val (.int sh2)] [(.long (((X.getD wo2.toNatClampNeg 0) &&& ((mk2 <<< (sh2 &&& 0x3f).toInt64) ^^^ (-1 : Int64))) ||| (q <<< (sh2 &&& 0x3f).toInt64))), (.int wo2), (.ref pa)]))
  obtain ⟨c8, A8, q8, s8, m8, H8, G8⟩ := id Vp
  obtain ⟨T9, h9, X9, e9, W9, st9⟩ := stJ X6 hx hZ e6 A8 (j := wo2) (inb_of s8 hin) (g := (mkF m 42 #[.val (.ref o), .val (.ref pa), .val (.int (2 : Int32)), .val (.long q), .second, .val (.int wo2), .val (.int sh2)] [(.long (((X.getD wo2.toNatClampNeg 0) &&& ((mk2 <<< (sh2 &&& 0x3f).toInt64) ^^^ (-1 : Int64))) ||| (q <<< (sh2 &&& 0x3f).toInt64))), (.int wo2), (.ref pa)])) rfl rfl (hb hby own_dprog_21_method_6_code_42)
  have V9 : Arv Z h9 pa kp .long (3 : Int32) ((own_P X wo2 sh2 mk2 q).map Value.long) (.long (0 : Int64)) := by
    unfold own_P
    rw [List.map_set]
    exact Arv.set A8 q8 s8 m8 H8 G8 rfl W9 _ rfl (by rw [List.length_map, hX]; exact (own_nlt hin).1)
  have N9 := Fr.snoc X9 N0 g_p
  refine own_st st9 ?_
  have z10 : n0 ≤ h9.size := Nat.le_trans Z0 (Keep.of_wr W9).1
  have kk11 : Keep h0 h9 [pa] := (Keep.refl h0 [pa]).wr W9 (Or.inl (List.mem_of_getElem? (i := 0) rfl))
  show own_Go p.tables e below RR (T9.setTop (mkF m 43 #[.val (.ref o), .val (.ref pa), .val (.int (2 : Int32)), .val (.long q), .second, .val (.int wo2), .val (.int sh2)] []))
  obtain ⟨fs, hrt_, hrun, hended, hW, hsame⟩ := X9.leave (v := none) (fun _ => rfl)
  refine own_fin (X9.returnOut hx Bd.returns (hb hby own_dprog_21_method_6_code_43) hrt_) (hRR _ ⟨_, hrun, hended, _, _, rfl, ?_, ⟨_, rfl⟩, hW, hsame.mono (by decide) (by decide)⟩)
  show own_QSL2 Z o pa kp X aw as_ am kw ks km wo0 wo1 wo2 sh0 sh1 sh2 mk0 mk1 mk2 q h0 n0 _ T9.heap _
  rw [e9]
  exact ⟨rfl, N9, kk11, V9⟩
theorem own_pd___J_V : parseMethodDescriptor "([J)V" = some ⟨[(.array .long)], none⟩ := by decide +kernel
theorem own_pd___JI_J : parseMethodDescriptor "([JI)J" = some ⟨[(.array .long), .int], some .long⟩ := by decide +kernel
theorem own_pd___JIJ_V : parseMethodDescriptor "([JIJ)V" = some ⟨[(.array .long), .int, .long], none⟩ := by decide +kernel
theorem own_ef0 (m : MethodId) (p1 : Int32) (p2 : Int32) (qp3 : Int64) (qp4 : Int64) (qp5 : Int64) (qp6 : Int64) : entryFrame m #[(.int p1), (.int p2), (.long qp3), (.long qp4), (.long qp5), (.long qp6)] maxLocals = mkF m 0 #[.val (.int p1), .val (.int p2), .val (.long qp3), .second, .val (.long qp4), .second, .val (.long qp5), .second, .val (.long qp6), .second, .unset, .unset, .unset, .unset, .unset, .unset, .unset, .unset, .unset, .unset, .unset, .unset, .unset, .unset, .unset, .unset, .unset, .unset, .unset, .unset, .unset] [] := by first | (simp [entryFrame, mkF, argsToLocals, Value.category, maxLocals]; done) | rfl
def own_Q0 (Z : State) (p1 : Int32) (p2 : Int32) (qp3 : Int64) (qp4 : Int64) (qp5 : Int64) (qp6 : Int64) (h0 : Heap) (n0 : Nat) (rv__ : Option Value) (h : Heap) (rL__ : List Loc) : Prop := rv__ = some (.int 1) ∧ Fr n0 rL__
set_option maxRecDepth 65536 in
set_option maxHeartbeats 40000000 in
theorem own_rm0 (l : Launch) (Z : State) (a0 : Array Value) (hw : ∀ d ∈ tables_1, d.before a0 Z = true) (ws : List Jvm.Cond) (p1 : Int32) (p2 : Int32) (qp3 : Int64) (qp4 : Int64) (qp5 : Int64) (qp6 : Int64) (h0 : Heap) (n0 : Nat) (Z0 : n0 ≤ h0.size)  :
    MetFree l x (head1 (Jvm.Cond.code x code maxLocals ret :: ws) room_1) (fun aa__ U => aa__ = #[(.int p1), (.int p2), (.long qp3), (.long qp4), (.long qp5), (.long qp6)] ∧ Z.Warmed39 U.vm ∧ U.heap = h0) (fun _ _ _ _ _ => True) (fun _ U oc_ U' => ∃ rv__ rL__, oc_ = .returned rv__ ∧ own_Q0 Z p1 p2 qp3 qp4 qp5 qp6 h0 n0 rv__ U'.heap rL__ ∧ FrameEnd U oc_ U' rL__ room_1.cells room_1.slots) := by
  refine MetFree.of_bodySF (plainFor_of_name own_pn_com_example_nesiph_nesiph_MarkingSetSetTokensPinLaw) hisR ?_
  intro p e s m args below meth c s₁ Bd hml0 hP hK
  obtain ⟨rfl, hZ, hh⟩ := hP
  have hx := Bd.exec
  have hby := Bd.bytes
  have hml : c.maxLocals = 31 := hml0
  have hown : s.vm.findClass "com/example/nesiph/nesiph/MarkingSetSetTokensPinLaw" = some m.cls := findClass_of_methodNamed Bd.named
  have hnm := (name_of_methodNamed Bd.named Bd.method).1
  have X0 : Stand p l e room_1 s m #[(.int p1), (.int p2), (.long qp3), (.long qp4), (.long qp5), (.long qp6)] below meth c s₁ [] 0 0 := Stand.of_body Bd
  have e0 : s₁.heap = h0 := by rw [← hh, Bd.state]; rfl
  have N0 := Fr.nil n0
  refine own_in (fun _ k => castTop (own_ef0 m p1 p2 qp3 qp4 qp5 qp6) k) ?_
  intro RR hRR
  show own_Go p.tables e below RR (s₁.setTop (mkF m 0 #[.val (.int p1), .val (.int p2), .val (.long qp3), .second, .val (.long qp4), .second, .val (.long qp5), .second, .val (.long qp6), .second, .unset, .unset, .unset, .unset, .unset, .unset, .unset, .unset, .unset, .unset, .unset, .unset, .unset, .unset, .unset, .unset, .unset, .unset, .unset, .unset, .unset] []))
  refine own_st (fun _ k => XS.iconst X0.here hx rfl (hb hby at_0) k) ?_
  show own_Go p.tables e below RR (s₁.setTop (mkF m 1 #[.val (.int p1), .val (.int p2), .val (.long qp3), .second, .val (.long qp4), .second, .val (.long qp5), .second, .val (.long qp6), .second, .unset, .unset, .unset, .unset, .unset, .unset, .unset, .unset, .unset, .unset, .unset, .unset, .unset, .unset, .unset, .unset, .unset, .unset, .unset, .unset, .unset] [(.int (3 : Int32))]))
  obtain ⟨T1, h1, k1, X1, e1, E1, A1, st1⟩ := newP X0 hx hZ (hw _ (List.mem_of_getElem? (i := 0) rfl)) e0 (g := (mkF m 1 #[.val (.int p1), .val (.int p2), .val (.long qp3), .second, .val (.long qp4), .second, .val (.long qp5), .second, .val (.long qp6), .second, .unset, .unset, .unset, .unset, .unset, .unset, .unset, .unset, .unset, .unset, .unset, .unset, .unset, .unset, .unset, .unset, .unset, .unset, .unset, .unset, .unset] [(.int (3 : Int32))])) rfl (hb hby at_1) rfl (by decide) (cap := 3) (by decide) (by decide) (by decide) (by decide)
  obtain ⟨b1, gb1⟩ : ∃ z, z = h0.size := ⟨_, rfl⟩
  rw [← gb1] at A1 st1
  have ge1 : n0 ≤ b1 := Nat.le_trans Z0 (Nat.le_of_eq gb1.symm)
  refine own_st st1 ?_
  have z2 : n0 ≤ h1.size := Nat.le_trans Z0 E1.1
  have V1 : Arv Z h1 b1 k1 .long (3 : Int32) [(.long (0 : Int64)), (.long (0 : Int64)), (.long (0 : Int64))] (.long (0 : Int64)) := (Arv.new A1 (by decide)).pad (pad_rep [] (.long (0 : Int64)) 3)
  show own_Go p.tables e below RR (T1.setTop (mkF m 3 #[.val (.int p1), .val (.int p2), .val (.long qp3), .second, .val (.long qp4), .second, .val (.long qp5), .second, .val (.long qp6), .second, .unset, .unset, .unset, .unset, .unset, .unset, .unset, .unset, .unset, .unset, .unset, .unset, .unset, .unset, .unset, .unset, .unset, .unset, .unset, .unset, .unset] [(.ref b1)]))
  refine own_st (fun _ k => XS.astore X1.here hx rfl (hb hby at_3) rfl rfl (l' := #[.val (.int p1), .val (.int p2), .val (.long qp3), .second, .val (.long qp4), .second, .val (.long qp5), .second, .val (.long qp6), .second, .val (.ref b1), .unset, .unset, .unset, .unset, .unset, .unset, .unset, .unset, .unset, .unset, .unset, .unset, .unset, .unset, .unset, .unset, .unset, .unset, .unset, .unset]) rfl (XS.aload X1.here hx rfl (hb hby at_5) rfl rfl (XS.iconst X1.here hx rfl (hb hby at_7) (XS.iloadN X1.here hx rfl (hb hby at_8) rfl k)))) ?_
  show own_Go p.tables e below RR (T1.setTop (mkF m 9 #[.val (.int p1), .val (.int p2), .val (.long qp3), .second, .val (.long qp4), .second, .val (.long qp5), .second, .val (.long qp6), .second, .val (.ref b1), .unset, .unset, .unset, .unset, .unset, .unset, .unset, .unset, .unset, .unset, .unset, .unset, .unset, .unset, .unset, .unset, .unset, .unset, .unset, .unset] [(.int p1), (.int (0 : Int32)), (.ref b1)]))
  obtain ⟨w0, hw0, hm0, hb0⟩ := own_mfx p1 (own_m63 _)
  obtain ⟨_, _, ⟨T3, L3, k3, n3⟩, -, X3, ⟨Lc3, hQ3, l3, y3, z3⟩, st3⟩ := Jvm.LawKit.callS X1 hx (y := (⟨"com/example/nesiph/nesiph/MarkingSetSetTokensPinLaw", "maxFor", "(I)J"⟩ : MethodName)) hown (mvT hZ (hw _ (List.mem_of_getElem? (i := 1) rfl))) (mvT hZ (hw _ (List.mem_of_getElem? (i := 2) rfl))) (mvT hZ (hw _ (List.mem_of_getElem? (i := 3) rfl))) (mvT hZ (hw _ (List.mem_of_getElem? (i := 4) rfl))) (by decide) (backOf (W := 2) (own_rmMF l Z a0 hw [] p1 (own_low w0) h1 n0 z2 hm0) hZ (hw _ (List.mem_of_getElem? (i := 4) rfl)) (hw _ (List.mem_of_getElem? (i := 3) rfl)) (by decide) (by decide)) (g := (mkF m 9 #[.val (.int p1), .val (.int p2), .val (.long qp3), .second, .val (.long qp4), .second, .val (.long qp5), .second, .val (.long qp6), .second, .val (.ref b1), .unset, .unset, .unset, .unset, .unset, .unset, .unset, .unset, .unset, .unset, .unset, .unset, .unset, .unset, .unset, .unset, .unset, .unset, .unset, .unset] [(.int p1), (.int (0 : Int32)), (.ref b1)])) rfl (by rw [hml]; rfl) (argsL := [(.int p1)]) (rest := [(.int (0 : Int32)), (.ref b1)]) (lenOf own_pd__I_J rfl) rfl (by show 2 * 0 + _ ≤ _; exact Nat.le_of_eq rfl) (hb hby at_9) (fun _ _ => ⟨rfl, e1, (by decide : 1 + 0 ≤ _), (by decide : 3 + 0 ≤ _)⟩)
  dsimp only [Pt.U, Pt.locs, Pt.cells, Pt.slots] at X3 l3 y3 z3 st3 hQ3
  subst l3 y3 z3
  obtain ⟨rfl, Nq3, eq3⟩ := hQ3
  have N3 := Fr.app N0 Nq3
  refine own_st st3 ?_
  show own_Go p.tables e below RR (T3.setTop (mkF m 12 #[.val (.int p1), .val (.int p2), .val (.long qp3), .second, .val (.long qp4), .second, .val (.long qp5), .second, .val (.long qp6), .second, .val (.ref b1), .unset, .unset, .unset, .unset, .unset, .unset, .unset, .unset, .unset, .unset, .unset, .unset, .unset, .unset, .unset, .unset, .unset, .unset, .unset, .unset] [(.long (own_low w0)), (.int (0 : Int32)), (.ref b1)]))
  obtain ⟨c4, A4, q4, s4, m4, H4, G4⟩ := id V1
  obtain ⟨T5, h5, X5, e5, W5, st5⟩ := stJ X3 hx hZ eq3 A4 (j := (0 : Int32)) (inb_of s4 ⟨by decide, by decide⟩) (g := (mkF m 12 #[.val (.int p1), .val (.int p2), .val (.long qp3), .second, .val (.long qp4), .second, .val (.long qp5), .second, .val (.long qp6), .second, .val (.ref b1), .unset, .unset, .unset, .unset, .unset, .unset, .unset, .unset, .unset, .unset, .unset, .unset, .unset, .unset, .unset, .unset, .unset, .unset, .unset, .unset] [(.long (own_low w0)), (.int (0 : Int32)), (.ref b1)])) rfl rfl (hb hby at_12)
  have V5 := Arv.set A4 q4 s4 m4 H4 G4 rfl W5 0 rfl (Nat.le_of_ble_eq_true rfl)
  have V5 : Arv Z h5 b1 k1 .long (3 : Int32) [(.long (own_low w0)), (.long (0 : Int64)), (.long (0 : Int64))] (.long (0 : Int64)) := V5
  have N5 := Fr.snoc X5 N3 ge1
  refine own_st st5 ?_
  have z6 : n0 ≤ h5.size := Nat.le_trans z2 (Keep.of_wr W5).1
  show own_Go p.tables e below RR (T5.setTop (mkF m 13 #[.val (.int p1), .val (.int p2), .val (.long qp3), .second, .val (.long qp4), .second, .val (.long qp5), .second, .val (.long qp6), .second, .val (.ref b1), .unset, .unset, .unset, .unset, .unset, .unset, .unset, .unset, .unset, .unset, .unset, .unset, .unset, .unset, .unset, .unset, .unset, .unset, .unset, .unset] []))
  refine own_st (fun _ k => XS.aload X5.here hx rfl (hb hby at_13) rfl rfl (XS.iconst X5.here hx rfl (hb hby at_15) (XS.iloadN X5.here hx rfl (hb hby at_16) rfl (XS.bipush X5.here hx rfl (hb hby at_17) (XS.iushr X5.here hx rfl (hb hby at_19) rfl k))))) ?_
  show own_Go p.tables e below RR (T5.setTop (mkF m 20 #[.val (.int p1), .val (.int p2), .val (.long qp3), .second, .val (.long qp4), .second, .val (.long qp5), .second, .val (.long qp6), .second, .val (.ref b1), .unset, .unset, .unset, .unset, .unset, .unset, .unset, .unset, .unset, .unset, .unset, .unset, .unset, .unset, .unset, .unset, .unset, .unset, .unset, .unset] [(.int ((p1.toUInt32 >>> ((6 : Int32) &&& 31).toUInt32).toInt32)), (.int (1 : Int32)), (.ref b1)]))
  obtain ⟨w1, hw1, hm1, hb1⟩ := own_mfx ((p1.toUInt32 >>> ((6 : Int32) &&& 31).toUInt32).toInt32) (own_m63 _)
  obtain ⟨_, _, ⟨T7, L7, k7, n7⟩, -, X7, ⟨Lc7, hQ7, l7, y7, z7⟩, st7⟩ := Jvm.LawKit.callS X5 hx (y := (⟨"com/example/nesiph/nesiph/MarkingSetSetTokensPinLaw", "maxFor", "(I)J"⟩ : MethodName)) hown (mvT hZ (hw _ (List.mem_of_getElem? (i := 1) rfl))) (mvT hZ (hw _ (List.mem_of_getElem? (i := 2) rfl))) (mvT hZ (hw _ (List.mem_of_getElem? (i := 3) rfl))) (mvT hZ (hw _ (List.mem_of_getElem? (i := 4) rfl))) (by decide) (backOf (W := 2) (own_rmMF l Z a0 hw [] ((p1.toUInt32 >>> ((6 : Int32) &&& 31).toUInt32).toInt32) (own_low w1) h5 n0 z6 hm1) hZ (hw _ (List.mem_of_getElem? (i := 4) rfl)) (hw _ (List.mem_of_getElem? (i := 3) rfl)) (by decide) (by decide)) (g := (mkF m 20 #[.val (.int p1), .val (.int p2), .val (.long qp3), .second, .val (.long qp4), .second, .val (.long qp5), .second, .val (.long qp6), .second, .val (.ref b1), .unset, .unset, .unset, .unset, .unset, .unset, .unset, .unset, .unset, .unset, .unset, .unset, .unset, .unset, .unset, .unset, .unset, .unset, .unset, .unset] [(.int ((p1.toUInt32 >>> ((6 : Int32) &&& 31).toUInt32).toInt32)), (.int (1 : Int32)), (.ref b1)])) rfl (by rw [hml]; rfl) (argsL := [(.int ((p1.toUInt32 >>> ((6 : Int32) &&& 31).toUInt32).toInt32))]) (rest := [(.int (1 : Int32)), (.ref b1)]) (lenOf own_pd__I_J rfl) rfl (by show 2 * 0 + _ ≤ _; exact Nat.le_of_eq rfl) (hb hby at_20) (fun _ _ => ⟨rfl, e5, (by decide : 1 + 0 ≤ _), (by decide : 3 + 0 ≤ _)⟩)
  dsimp only [Pt.U, Pt.locs, Pt.cells, Pt.slots] at X7 l7 y7 z7 st7 hQ7
  subst l7 y7 z7
  obtain ⟨rfl, Nq7, eq7⟩ := hQ7
  have N7 := Fr.app N5 Nq7
  refine own_st st7 ?_
  show own_Go p.tables e below RR (T7.setTop (mkF m 23 #[.val (.int p1), .val (.int p2), .val (.long qp3), .second, .val (.long qp4), .second, .val (.long qp5), .second, .val (.long qp6), .second, .val (.ref b1), .unset, .unset, .unset, .unset, .unset, .unset, .unset, .unset, .unset, .unset, .unset, .unset, .unset, .unset, .unset, .unset, .unset, .unset, .unset, .unset] [(.long (own_low w1)), (.int (1 : Int32)), (.ref b1)]))
  obtain ⟨c8, A8, q8, s8, m8, H8, G8⟩ := id V5
  obtain ⟨T9, h9, X9, e9, W9, st9⟩ := stJ X7 hx hZ eq7 A8 (j := (1 : Int32)) (inb_of s8 ⟨by decide, by decide⟩) (g := (mkF m 23 #[.val (.int p1), .val (.int p2), .val (.long qp3), .second, .val (.long qp4), .second, .val (.long qp5), .second, .val (.long qp6), .second, .val (.ref b1), .unset, .unset, .unset, .unset, .unset, .unset, .unset, .unset, .unset, .unset, .unset, .unset, .unset, .unset, .unset, .unset, .unset, .unset, .unset, .unset] [(.long (own_low w1)), (.int (1 : Int32)), (.ref b1)])) rfl rfl (hb hby at_23)
  have V9 := Arv.set A8 q8 s8 m8 H8 G8 rfl W9 1 rfl (Nat.le_of_ble_eq_true rfl)
  have V9 : Arv Z h9 b1 k1 .long (3 : Int32) [(.long (own_low w0)), (.long (own_low w1)), (.long (0 : Int64))] (.long (0 : Int64)) := V9
  have N9 := Fr.snoc X9 N7 ge1
  refine own_st st9 ?_
  have z10 : n0 ≤ h9.size := Nat.le_trans z6 (Keep.of_wr W9).1
  show own_Go p.tables e below RR (T9.setTop (mkF m 24 #[.val (.int p1), .val (.int p2), .val (.long qp3), .second, .val (.long qp4), .second, .val (.long qp5), .second, .val (.long qp6), .second, .val (.ref b1), .unset, .unset, .unset, .unset, .unset, .unset, .unset, .unset, .unset, .unset, .unset, .unset, .unset, .unset, .unset, .unset, .unset, .unset, .unset, .unset] []))
  refine own_st (fun _ k => XS.aload X9.here hx rfl (hb hby at_24) rfl rfl (XS.iconst X9.here hx rfl (hb hby at_26) (XS.iloadN X9.here hx rfl (hb hby at_27) rfl (XS.bipush X9.here hx rfl (hb hby at_28) (XS.iushr X9.here hx rfl (hb hby at_30) rfl k))))) ?_
  show own_Go p.tables e below RR (T9.setTop (mkF m 31 #[.val (.int p1), .val (.int p2), .val (.long qp3), .second, .val (.long qp4), .second, .val (.long qp5), .second, .val (.long qp6), .second, .val (.ref b1), .unset, .unset, .unset, .unset, .unset, .unset, .unset, .unset, .unset, .unset, .unset, .unset, .unset, .unset, .unset, .unset, .unset, .unset, .unset, .unset] [(.int ((p1.toUInt32 >>> ((12 : Int32) &&& 31).toUInt32).toInt32)), (.int (2 : Int32)), (.ref b1)]))
  obtain ⟨w2, hw2, hm2, hb2⟩ := own_mfx ((p1.toUInt32 >>> ((12 : Int32) &&& 31).toUInt32).toInt32) (own_m63 _)
  obtain ⟨_, _, ⟨T11, L11, k11, n11⟩, -, X11, ⟨Lc11, hQ11, l11, y11, z11⟩, st11⟩ := Jvm.LawKit.callS X9 hx (y := (⟨"com/example/nesiph/nesiph/MarkingSetSetTokensPinLaw", "maxFor", "(I)J"⟩ : MethodName)) hown (mvT hZ (hw _ (List.mem_of_getElem? (i := 1) rfl))) (mvT hZ (hw _ (List.mem_of_getElem? (i := 2) rfl))) (mvT hZ (hw _ (List.mem_of_getElem? (i := 3) rfl))) (mvT hZ (hw _ (List.mem_of_getElem? (i := 4) rfl))) (by decide) (backOf (W := 2) (own_rmMF l Z a0 hw [] ((p1.toUInt32 >>> ((12 : Int32) &&& 31).toUInt32).toInt32) (own_low w2) h9 n0 z10 hm2) hZ (hw _ (List.mem_of_getElem? (i := 4) rfl)) (hw _ (List.mem_of_getElem? (i := 3) rfl)) (by decide) (by decide)) (g := (mkF m 31 #[.val (.int p1), .val (.int p2), .val (.long qp3), .second, .val (.long qp4), .second, .val (.long qp5), .second, .val (.long qp6), .second, .val (.ref b1), .unset, .unset, .unset, .unset, .unset, .unset, .unset, .unset, .unset, .unset, .unset, .unset, .unset, .unset, .unset, .unset, .unset, .unset, .unset, .unset] [(.int ((p1.toUInt32 >>> ((12 : Int32) &&& 31).toUInt32).toInt32)), (.int (2 : Int32)), (.ref b1)])) rfl (by rw [hml]; rfl) (argsL := [(.int ((p1.toUInt32 >>> ((12 : Int32) &&& 31).toUInt32).toInt32))]) (rest := [(.int (2 : Int32)), (.ref b1)]) (lenOf own_pd__I_J rfl) rfl (by show 2 * 0 + _ ≤ _; exact Nat.le_of_eq rfl) (hb hby at_31) (fun _ _ => ⟨rfl, e9, (by decide : 1 + 0 ≤ _), (by decide : 3 + 0 ≤ _)⟩)
  dsimp only [Pt.U, Pt.locs, Pt.cells, Pt.slots] at X11 l11 y11 z11 st11 hQ11
  subst l11 y11 z11
  obtain ⟨rfl, Nq11, eq11⟩ := hQ11
  have N11 := Fr.app N9 Nq11
  refine own_st st11 ?_
  show own_Go p.tables e below RR (T11.setTop (mkF m 34 #[.val (.int p1), .val (.int p2), .val (.long qp3), .second, .val (.long qp4), .second, .val (.long qp5), .second, .val (.long qp6), .second, .val (.ref b1), .unset, .unset, .unset, .unset, .unset, .unset, .unset, .unset, .unset, .unset, .unset, .unset, .unset, .unset, .unset, .unset, .unset, .unset, .unset, .unset] [(.long (own_low w2)), (.int (2 : Int32)), (.ref b1)]))
  obtain ⟨c12, A12, q12, s12, m12, H12, G12⟩ := id V9
  obtain ⟨T13, h13, X13, e13, W13, st13⟩ := stJ X11 hx hZ eq11 A12 (j := (2 : Int32)) (inb_of s12 ⟨by decide, by decide⟩) (g := (mkF m 34 #[.val (.int p1), .val (.int p2), .val (.long qp3), .second, .val (.long qp4), .second, .val (.long qp5), .second, .val (.long qp6), .second, .val (.ref b1), .unset, .unset, .unset, .unset, .unset, .unset, .unset, .unset, .unset, .unset, .unset, .unset, .unset, .unset, .unset, .unset, .unset, .unset, .unset, .unset] [(.long (own_low w2)), (.int (2 : Int32)), (.ref b1)])) rfl rfl (hb hby at_34)
  have V13 := Arv.set A12 q12 s12 m12 H12 G12 rfl W13 2 rfl (Nat.le_of_ble_eq_true rfl)
  have V13 : Arv Z h13 b1 k1 .long (3 : Int32) [(.long (own_low w0)), (.long (own_low w1)), (.long (own_low w2))] (.long (0 : Int64)) := V13
  have N13 := Fr.snoc X13 N11 ge1
  refine own_st st13 ?_
  have z14 : n0 ≤ h13.size := Nat.le_trans z10 (Keep.of_wr W13).1
  show own_Go p.tables e below RR (T13.setTop (mkF m 35 #[.val (.int p1), .val (.int p2), .val (.long qp3), .second, .val (.long qp4), .second, .val (.long qp5), .second, .val (.long qp6), .second, .val (.ref b1), .unset, .unset, .unset, .unset, .unset, .unset, .unset, .unset, .unset, .unset, .unset, .unset, .unset, .unset, .unset, .unset, .unset, .unset, .unset, .unset] []))
  obtain ⟨T15, h15, X15, e15, E15, A15, D15, -, st15⟩ := newO X13 hx hZ hown (hw _ (List.mem_of_getElem? (i := 6) rfl)) (hw _ (List.mem_of_getElem? (i := 7) rfl)) (hw _ (List.mem_of_getElem? (i := 8) rfl)) e13 (g := (mkF m 35 #[.val (.int p1), .val (.int p2), .val (.long qp3), .second, .val (.long qp4), .second, .val (.long qp5), .second, .val (.long qp6), .second, .val (.ref b1), .unset, .unset, .unset, .unset, .unset, .unset, .unset, .unset, .unset, .unset, .unset, .unset, .unset, .unset, .unset, .unset, .unset, .unset, .unset, .unset] [])) rfl (hb hby at_35) (by decide) (by decide)
  obtain ⟨b15, gb15⟩ : ∃ z, z = h13.size := ⟨_, rfl⟩
  rw [← gb15] at A15 D15 st15
  have ge15 : n0 ≤ b15 := Nat.le_trans z14 (Nat.le_of_eq gb15.symm)
  refine own_st st15 ?_
  have z16 : n0 ≤ h15.size := Nat.le_trans z14 E15.1
  have F15_18 : Fld Z h15 b15 "com/example/nesiph/nesiph/MarkingSet" "pages" "[[J" .null := D15 (Or.inl (hw _ (List.mem_of_getElem? (i := 18) rfl))) (ty := (.array (.array .long))) (by decide)
  have F15_21 : Fld Z h15 b15 "com/example/nesiph/nesiph/MarkingSet" "widths" "[I" .null := D15 (Or.inr (hw _ (List.mem_of_getElem? (i := 21) rfl))) (ty := (.array .int)) (by decide)
  have F15_23 : Fld Z h15 b15 "com/example/nesiph/nesiph/MarkingSet" "wordOf" "[I" .null := D15 (Or.inr (hw _ (List.mem_of_getElem? (i := 23) rfl))) (ty := (.array .int)) (by decide)
  have F15_25 : Fld Z h15 b15 "com/example/nesiph/nesiph/MarkingSet" "shiftOf" "[I" .null := D15 (Or.inr (hw _ (List.mem_of_getElem? (i := 25) rfl))) (ty := (.array .int)) (by decide)
  have F15_27 : Fld Z h15 b15 "com/example/nesiph/nesiph/MarkingSet" "maskOf" "[J" .null := D15 (Or.inr (hw _ (List.mem_of_getElem? (i := 27) rfl))) (ty := (.array .long)) (by decide)
  have F15_52 : Fld Z h15 b15 "com/example/nesiph/nesiph/MarkingSet" "wordCount" "I" (.int (0 : Int32)) := D15 (Or.inl (hw _ (List.mem_of_getElem? (i := 52) rfl))) (ty := .int) (by decide)
  have F15_54 : Fld Z h15 b15 "com/example/nesiph/nesiph/MarkingSet" "slots" "[J" .null := D15 (Or.inl (hw _ (List.mem_of_getElem? (i := 54) rfl))) (ty := (.array .long)) (by decide)
  show own_Go p.tables e below RR (T15.setTop (mkF m 38 #[.val (.int p1), .val (.int p2), .val (.long qp3), .second, .val (.long qp4), .second, .val (.long qp5), .second, .val (.long qp6), .second, .val (.ref b1), .unset, .unset, .unset, .unset, .unset, .unset, .unset, .unset, .unset, .unset, .unset, .unset, .unset, .unset, .unset, .unset, .unset, .unset, .unset, .unset] [(.ref b15)]))
  refine own_st (fun _ k => XS.dup X15.here hx rfl (hb hby at_38) rfl rfl (XS.aload X15.here hx rfl (hb hby at_39) rfl rfl k)) ?_
  show own_Go p.tables e below RR (T15.setTop (mkF m 41 #[.val (.int p1), .val (.int p2), .val (.long qp3), .second, .val (.long qp4), .second, .val (.long qp5), .second, .val (.long qp6), .second, .val (.ref b1), .unset, .unset, .unset, .unset, .unset, .unset, .unset, .unset, .unset, .unset, .unset, .unset, .unset, .unset, .unset, .unset, .unset, .unset, .unset, .unset] [(.ref b1), (.ref b15), (.ref b15)]))
  have f17 := (V13.ext E15)
  have ne18 : b1 ≠ b15 := (Nat.ne_of_lt (Nat.lt_of_lt_of_le V13.lt (Nat.le_of_eq gb15.symm)))
  obtain ⟨_, _, ⟨T19, L19, k19, n19⟩, -, X19, ⟨Lc19, hQ19, l19, y19, z19⟩, st19⟩ := X15.specialBack hx (y := (⟨"com/example/nesiph/nesiph/MarkingSet", "<init>", "([J)V"⟩ : MethodName)) rfl hown (mvT hZ (hw _ (List.mem_of_getElem? (i := 9) rfl))) (mvT hZ (hw _ (List.mem_of_getElem? (i := 10) rfl))) (mvT hZ (hw _ (List.mem_of_getElem? (i := 11) rfl))) (by decide) (backOf (W := 1) (own_rmIN l Z a0 hw [] b15 b1 k1 (own_low w0) (own_low w1) (own_low w2) w0 w1 w2 h15 n0 z16 ge15 A15 (Ne.symm ne18) F15_18 F15_21 F15_23 F15_25 F15_27 F15_54 F15_52 f17 hb0 hb1 hb2 hw0 hw1 hw2) hZ (hw _ (List.mem_of_getElem? (i := 11) rfl)) (hw _ (List.mem_of_getElem? (i := 8) rfl)) (by decide) (by decide)) (g := (mkF m 41 #[.val (.int p1), .val (.int p2), .val (.long qp3), .second, .val (.long qp4), .second, .val (.long qp5), .second, .val (.long qp6), .second, .val (.ref b1), .unset, .unset, .unset, .unset, .unset, .unset, .unset, .unset, .unset, .unset, .unset, .unset, .unset, .unset, .unset, .unset, .unset, .unset, .unset, .unset] [(.ref b1), (.ref b15), (.ref b15)])) rfl (by rw [hml]; rfl) (Steps.refl _) (a := b15) (argsL := [(.ref b1)]) (rest := [(.ref b15)]) (lenOf own_pd___J_V rfl) rfl (by show 2 * 0 + _ ≤ _; exact Nat.le_of_eq rfl) (hb hby at_41) (fun _ _ => ⟨rfl, e15, (by decide : 2 + 6 ≤ _), (by decide : 11 + 29 ≤ _)⟩)
  dsimp only [Pt.U, Pt.locs, Pt.cells, Pt.slots] at X19 l19 y19 z19 st19 hQ19
  subst l19 y19 z19
  obtain ⟨rfl, Nq19, Kq19, Eq19, aw, as_, am, kw, ks, km, szw, szs, szm, Faw19, Fas_19, Fam19, Vaw19, Vas_19, Vam19⟩ := hQ19
  have N19 := Fr.app N13 Nq19
  refine own_st (fun _ k => st19.trans k) ?_
  have z20 : n0 ≤ T19.heap.size := Nat.le_trans z16 Kq19.1
  show own_Go p.tables e below RR (T19.setTop (mkF m 44 #[.val (.int p1), .val (.int p2), .val (.long qp3), .second, .val (.long qp4), .second, .val (.long qp5), .second, .val (.long qp6), .second, .val (.ref b1), .unset, .unset, .unset, .unset, .unset, .unset, .unset, .unset, .unset, .unset, .unset, .unset, .unset, .unset, .unset, .unset, .unset, .unset, .unset, .unset] [(.ref b15)]))
  refine own_st (fun _ k => XS.astore X19.here hx rfl (hb hby at_44) rfl rfl (l' := #[.val (.int p1), .val (.int p2), .val (.long qp3), .second, .val (.long qp4), .second, .val (.long qp5), .second, .val (.long qp6), .second, .val (.ref b1), .val (.ref b15), .unset, .unset, .unset, .unset, .unset, .unset, .unset, .unset, .unset, .unset, .unset, .unset, .unset, .unset, .unset, .unset, .unset, .unset, .unset]) rfl (XS.iconst X19.here hx rfl (hb hby at_46) k)) ?_
  show own_Go p.tables e below RR (T19.setTop (mkF m 47 #[.val (.int p1), .val (.int p2), .val (.long qp3), .second, .val (.long qp4), .second, .val (.long qp5), .second, .val (.long qp6), .second, .val (.ref b1), .val (.ref b15), .unset, .unset, .unset, .unset, .unset, .unset, .unset, .unset, .unset, .unset, .unset, .unset, .unset, .unset, .unset, .unset, .unset, .unset, .unset] [(.int (3 : Int32))]))
  obtain ⟨T21, h21, k21, X21, e21, E21, A21, st21⟩ := newP X19 hx hZ (hw _ (List.mem_of_getElem? (i := 0) rfl)) rfl (g := (mkF m 47 #[.val (.int p1), .val (.int p2), .val (.long qp3), .second, .val (.long qp4), .second, .val (.long qp5), .second, .val (.long qp6), .second, .val (.ref b1), .val (.ref b15), .unset, .unset, .unset, .unset, .unset, .unset, .unset, .unset, .unset, .unset, .unset, .unset, .unset, .unset, .unset, .unset, .unset, .unset, .unset] [(.int (3 : Int32))])) rfl (hb hby at_47) rfl (by decide) (cap := 3) (by decide) (by decide) (by decide) (by decide)
  obtain ⟨b21, gb21⟩ : ∃ z, z = T19.heap.size := ⟨_, rfl⟩
  rw [← gb21] at A21 st21
  have ge21 : n0 ≤ b21 := Nat.le_trans z20 (Nat.le_of_eq gb21.symm)
  refine own_st st21 ?_
  have z22 : n0 ≤ h21.size := Nat.le_trans z20 E21.1
  have V21 : Arv Z h21 b21 k21 .long (3 : Int32) [(.long (0 : Int64)), (.long (0 : Int64)), (.long (0 : Int64))] (.long (0 : Int64)) := (Arv.new A21 (by decide)).pad (pad_rep [] (.long (0 : Int64)) 3)
  show own_Go p.tables e below RR (T21.setTop (mkF m 49 #[.val (.int p1), .val (.int p2), .val (.long qp3), .second, .val (.long qp4), .second, .val (.long qp5), .second, .val (.long qp6), .second, .val (.ref b1), .val (.ref b15), .unset, .unset, .unset, .unset, .unset, .unset, .unset, .unset, .unset, .unset, .unset, .unset, .unset, .unset, .unset, .unset, .unset, .unset, .unset] [(.ref b21)]))
  refine own_st (fun _ k => XS.astore X21.here hx rfl (hb hby at_49) rfl rfl (l' := #[.val (.int p1), .val (.int p2), .val (.long qp3), .second, .val (.long qp4), .second, .val (.long qp5), .second, .val (.long qp6), .second, .val (.ref b1), .val (.ref b15), .val (.ref b21), .unset, .unset, .unset, .unset, .unset, .unset, .unset, .unset, .unset, .unset, .unset, .unset, .unset, .unset, .unset, .unset, .unset, .unset]) rfl (XS.aload X21.here hx rfl (hb hby at_51) rfl rfl (XS.iconst X21.here hx rfl (hb hby at_53) (XS.lloadN X21.here hx rfl (hb hby at_54) rfl k)))) ?_
  show own_Go p.tables e below RR (T21.setTop (mkF m 55 #[.val (.int p1), .val (.int p2), .val (.long qp3), .second, .val (.long qp4), .second, .val (.long qp5), .second, .val (.long qp6), .second, .val (.ref b1), .val (.ref b15), .val (.ref b21), .unset, .unset, .unset, .unset, .unset, .unset, .unset, .unset, .unset, .unset, .unset, .unset, .unset, .unset, .unset, .unset, .unset, .unset] [(.long qp3), (.int (0 : Int32)), (.ref b21)]))
  obtain ⟨c23, A23, q23, s23, m23, H23, G23⟩ := id V21
  obtain ⟨T24, h24, X24, e24, W24, st24⟩ := stJ X21 hx hZ e21 A23 (j := (0 : Int32)) (inb_of s23 ⟨by decide, by decide⟩) (g := (mkF m 55 #[.val (.int p1), .val (.int p2), .val (.long qp3), .second, .val (.long qp4), .second, .val (.long qp5), .second, .val (.long qp6), .second, .val (.ref b1), .val (.ref b15), .val (.ref b21), .unset, .unset, .unset, .unset, .unset, .unset, .unset, .unset, .unset, .unset, .unset, .unset, .unset, .unset, .unset, .unset, .unset, .unset] [(.long qp3), (.int (0 : Int32)), (.ref b21)])) rfl rfl (hb hby at_55)
  have V24 := Arv.set A23 q23 s23 m23 H23 G23 rfl W24 0 rfl (Nat.le_of_ble_eq_true rfl)
  have V24 : Arv Z h24 b21 k21 .long (3 : Int32) [(.long qp3), (.long (0 : Int64)), (.long (0 : Int64))] (.long (0 : Int64)) := V24
  have N24 := Fr.snoc X24 N19 ge21
  refine own_st st24 ?_
  have z25 : n0 ≤ h24.size := Nat.le_trans z22 (Keep.of_wr W24).1
  show own_Go p.tables e below RR (T24.setTop (mkF m 56 #[.val (.int p1), .val (.int p2), .val (.long qp3), .second, .val (.long qp4), .second, .val (.long qp5), .second, .val (.long qp6), .second, .val (.ref b1), .val (.ref b15), .val (.ref b21), .unset, .unset, .unset, .unset, .unset, .unset, .unset, .unset, .unset, .unset, .unset, .unset, .unset, .unset, .unset, .unset, .unset, .unset] []))
  refine own_st (fun _ k => XS.aload X24.here hx rfl (hb hby at_56) rfl rfl (XS.iconst X24.here hx rfl (hb hby at_58) (XS.lload X24.here hx rfl (hb hby at_59) rfl k))) ?_
  show own_Go p.tables e below RR (T24.setTop (mkF m 61 #[.val (.int p1), .val (.int p2), .val (.long qp3), .second, .val (.long qp4), .second, .val (.long qp5), .second, .val (.long qp6), .second, .val (.ref b1), .val (.ref b15), .val (.ref b21), .unset, .unset, .unset, .unset, .unset, .unset, .unset, .unset, .unset, .unset, .unset, .unset, .unset, .unset, .unset, .unset, .unset, .unset] [(.long qp4), (.int (1 : Int32)), (.ref b21)]))
  obtain ⟨c26, A26, q26, s26, m26, H26, G26⟩ := id V24
  obtain ⟨T27, h27, X27, e27, W27, st27⟩ := stJ X24 hx hZ e24 A26 (j := (1 : Int32)) (inb_of s26 ⟨by decide, by decide⟩) (g := (mkF m 61 #[.val (.int p1), .val (.int p2), .val (.long qp3), .second, .val (.long qp4), .second, .val (.long qp5), .second, .val (.long qp6), .second, .val (.ref b1), .val (.ref b15), .val (.ref b21), .unset, .unset, .unset, .unset, .unset, .unset, .unset, .unset, .unset, .unset, .unset, .unset, .unset, .unset, .unset, .unset, .unset, .unset] [(.long qp4), (.int (1 : Int32)), (.ref b21)])) rfl rfl (hb hby at_61)
  have V27 := Arv.set A26 q26 s26 m26 H26 G26 rfl W27 1 rfl (Nat.le_of_ble_eq_true rfl)
  have V27 : Arv Z h27 b21 k21 .long (3 : Int32) [(.long qp3), (.long qp4), (.long (0 : Int64))] (.long (0 : Int64)) := V27
  have N27 := Fr.snoc X27 N24 ge21
  refine own_st st27 ?_
  have z28 : n0 ≤ h27.size := Nat.le_trans z25 (Keep.of_wr W27).1
  show own_Go p.tables e below RR (T27.setTop (mkF m 62 #[.val (.int p1), .val (.int p2), .val (.long qp3), .second, .val (.long qp4), .second, .val (.long qp5), .second, .val (.long qp6), .second, .val (.ref b1), .val (.ref b15), .val (.ref b21), .unset, .unset, .unset, .unset, .unset, .unset, .unset, .unset, .unset, .unset, .unset, .unset, .unset, .unset, .unset, .unset, .unset, .unset] []))
  refine own_st (fun _ k => XS.aload X27.here hx rfl (hb hby at_62) rfl rfl (XS.iconst X27.here hx rfl (hb hby at_64) (XS.lload X27.here hx rfl (hb hby at_65) rfl k))) ?_
  show own_Go p.tables e below RR (T27.setTop (mkF m 67 #[.val (.int p1), .val (.int p2), .val (.long qp3), .second, .val (.long qp4), .second, .val (.long qp5), .second, .val (.long qp6), .second, .val (.ref b1), .val (.ref b15), .val (.ref b21), .unset, .unset, .unset, .unset, .unset, .unset, .unset, .unset, .unset, .unset, .unset, .unset, .unset, .unset, .unset, .unset, .unset, .unset] [(.long qp5), (.int (2 : Int32)), (.ref b21)]))
  obtain ⟨c29, A29, q29, s29, m29, H29, G29⟩ := id V27
  obtain ⟨T30, h30, X30, e30, W30, st30⟩ := stJ X27 hx hZ e27 A29 (j := (2 : Int32)) (inb_of s29 ⟨by decide, by decide⟩) (g := (mkF m 67 #[.val (.int p1), .val (.int p2), .val (.long qp3), .second, .val (.long qp4), .second, .val (.long qp5), .second, .val (.long qp6), .second, .val (.ref b1), .val (.ref b15), .val (.ref b21), .unset, .unset, .unset, .unset, .unset, .unset, .unset, .unset, .unset, .unset, .unset, .unset, .unset, .unset, .unset, .unset, .unset, .unset] [(.long qp5), (.int (2 : Int32)), (.ref b21)])) rfl rfl (hb hby at_67)
  have V30 := Arv.set A29 q29 s29 m29 H29 G29 rfl W30 2 rfl (Nat.le_of_ble_eq_true rfl)
  have V30 : Arv Z h30 b21 k21 .long (3 : Int32) [(.long qp3), (.long qp4), (.long qp5)] (.long (0 : Int64)) := V30
  have N30 := Fr.snoc X30 N27 ge21
  refine own_st st30 ?_
  have z31 : n0 ≤ h30.size := Nat.le_trans z28 (Keep.of_wr W30).1
  show own_Go p.tables e below RR (T30.setTop (mkF m 68 #[.val (.int p1), .val (.int p2), .val (.long qp3), .second, .val (.long qp4), .second, .val (.long qp5), .second, .val (.long qp6), .second, .val (.ref b1), .val (.ref b15), .val (.ref b21), .unset, .unset, .unset, .unset, .unset, .unset, .unset, .unset, .unset, .unset, .unset, .unset, .unset, .unset, .unset, .unset, .unset, .unset] []))
  refine own_st (fun _ k => XS.iloadN X30.here hx rfl (hb hby at_68) rfl (X30.ldcInt hx hown (mvT hZ (hw _ (List.mem_of_getElem? (i := 60) rfl))) (g := (mkF m 69 #[.val (.int p1), .val (.int p2), .val (.long qp3), .second, .val (.long qp4), .second, .val (.long qp5), .second, .val (.long qp6), .second, .val (.ref b1), .val (.ref b15), .val (.ref b21), .unset, .unset, .unset, .unset, .unset, .unset, .unset, .unset, .unset, .unset, .unset, .unset, .unset, .unset, .unset, .unset, .unset, .unset] [(.int p2)])) rfl (hb hby at_69) _ (XS.iand X30.here hx rfl (hb hby at_71) rfl (XS.iconst X30.here hx rfl (hb hby at_72) k)))) ?_
  show own_Go p.tables e below RR (T30.setTop (mkF m 73 #[.val (.int p1), .val (.int p2), .val (.long qp3), .second, .val (.long qp4), .second, .val (.long qp5), .second, .val (.long qp6), .second, .val (.ref b1), .val (.ref b15), .val (.ref b21), .unset, .unset, .unset, .unset, .unset, .unset, .unset, .unset, .unset, .unset, .unset, .unset, .unset, .unset, .unset, .unset, .unset, .unset] [(.int (3 : Int32)), (.int (p2 &&& (2147483647 : Int32)))]))
  refine own_st (fun _ k => XS.irem X30.here hx rfl (hb hby at_73) rfl (by decide) k) ?_
  show own_Go p.tables e below RR (T30.setTop (mkF m 74 #[.val (.int p1), .val (.int p2), .val (.long qp3), .second, .val (.long qp4), .second, .val (.long qp5), .second, .val (.long qp6), .second, .val (.ref b1), .val (.ref b15), .val (.ref b21), .unset, .unset, .unset, .unset, .unset, .unset, .unset, .unset, .unset, .unset, .unset, .unset, .unset, .unset, .unset, .unset, .unset, .unset] [(.int ((p2 &&& (2147483647 : Int32)) - ((p2 &&& (2147483647 : Int32)) / (3 : Int32)) * (3 : Int32)))]))
  rw [irem_eq_mod (p2 &&& (2147483647 : Int32)) (3 : Int32)]
  show own_Go p.tables e below RR (T30.setTop (mkF m 74 #[.val (.int p1), .val (.int p2), .val (.long qp3), .second, .val (.long qp4), .second, .val (.long qp5), .second, .val (.long qp6), .second, .val (.ref b1), .val (.ref b15), .val (.ref b21), .unset, .unset, .unset, .unset, .unset, .unset, .unset, .unset, .unset, .unset, .unset, .unset, .unset, .unset, .unset, .unset, .unset, .unset] [(.int ((p2 &&& (2147483647 : Int32)) % (3 : Int32)))]))
  generalize gv32 : ((p2 &&& (2147483647 : Int32)) % (3 : Int32)) = v32
  show own_Go p.tables e below RR (T30.setTop (mkF m 74 #[.val (.int p1), .val (.int p2), .val (.long qp3), .second, .val (.long qp4), .second, .val (.long qp5), .second, .val (.long qp6), .second, .val (.ref b1), .val (.ref b15), .val (.ref b21), .unset, .unset, .unset, .unset, .unset, .unset, .unset, .unset, .unset, .unset, .unset, .unset, .unset, .unset, .unset, .unset, .unset, .unset] [(.int v32)]))
  refine own_st (fun _ k => XS.istore X30.here hx rfl (hb hby at_74) rfl (l' := #[.val (.int p1), .val (.int p2), .val (.long qp3), .second, .val (.long qp4), .second, .val (.long qp5), .second, .val (.long qp6), .second, .val (.ref b1), .val (.ref b15), .val (.ref b21), .val (.int v32), .unset, .unset, .unset, .unset, .unset, .unset, .unset, .unset, .unset, .unset, .unset, .unset, .unset, .unset, .unset, .unset, .unset]) rfl k) ?_
  show own_Go p.tables e below RR (T30.setTop (mkF m 76 #[.val (.int p1), .val (.int p2), .val (.long qp3), .second, .val (.long qp4), .second, .val (.long qp5), .second, .val (.long qp6), .second, .val (.ref b1), .val (.ref b15), .val (.ref b21), .val (.int v32), .unset, .unset, .unset, .unset, .unset, .unset, .unset, .unset, .unset, .unset, .unset, .unset, .unset, .unset, .unset, .unset, .unset] []))
  show own_Go p.tables e below RR (T30.setTop (mkF m 76 #[.val (.int p1), .val (.int p2), .val (.long qp3), .second, .val (.long qp4), .second, .val (.long qp5), .second, .val (.long qp6), .second, .val (.ref b1), .val (.ref b15), .val (.ref b21), .val (.int v32), .unset, .unset, .unset, .unset, .unset, .unset, .unset, .unset, .unset, .unset, .unset, .unset, .unset, .unset, .unset, .unset, .unset] []))
  show own_Go p.tables e below RR (T30.setTop (mkF m 76 #[.val (.int p1), .val (.int p2), .val (.long qp3), .second, .val (.long qp4), .second, .val (.long qp5), .second, .val (.long qp6), .second, .val (.ref b1), .val (.ref b15), .val (.ref b21), .val (.int v32), .unset, .unset, .unset, .unset, .unset, .unset, .unset, .unset, .unset, .unset, .unset, .unset, .unset, .unset, .unset, .unset, .unset] []))
  rcases own_three gv32 with rfl | rfl | rfl
  · show own_Go p.tables e below RR (T30.setTop (mkF m 76 #[.val (.int p1), .val (.int p2), .val (.long qp3), .second, .val (.long qp4), .second, .val (.long qp5), .second, .val (.long qp6), .second, .val (.ref b1), .val (.ref b15), .val (.ref b21), .val (.int (0 : Int32)), .unset, .unset, .unset, .unset, .unset, .unset, .unset, .unset, .unset, .unset, .unset, .unset, .unset, .unset, .unset, .unset, .unset] []))
    show own_Go p.tables e below RR (T30.setTop (mkF m 76 #[.val (.int p1), .val (.int p2), .val (.long qp3), .second, .val (.long qp4), .second, .val (.long qp5), .second, .val (.long qp6), .second, .val (.ref b1), .val (.ref b15), .val (.ref b21), .val (.int (0 : Int32)), .unset, .unset, .unset, .unset, .unset, .unset, .unset, .unset, .unset, .unset, .unset, .unset, .unset, .unset, .unset, .unset, .unset] []))
    refine own_st (fun _ k => XS.lload X30.here hx rfl (hb hby at_76) rfl (XS.aload X30.here hx rfl (hb hby at_78) rfl rfl (XS.iload X30.here hx rfl (hb hby at_80) rfl k))) ?_
    show own_Go p.tables e below RR (T30.setTop (mkF m 82 #[.val (.int p1), .val (.int p2), .val (.long qp3), .second, .val (.long qp4), .second, .val (.long qp5), .second, .val (.long qp6), .second, .val (.ref b1), .val (.ref b15), .val (.ref b21), .val (.int (0 : Int32)), .unset, .unset, .unset, .unset, .unset, .unset, .unset, .unset, .unset, .unset, .unset, .unset, .unset, .unset, .unset, .unset, .unset] [(.int (0 : Int32)), (.ref b1), (.long qp6)]))
    have ne33 : b1 ≠ b21 := (Nat.ne_of_lt (Nat.lt_of_lt_of_le (f17.keep Kq19 (ninS ne18 nin0)).lt (Nat.le_of_eq gb21.symm)))
    have f34 := (((((f17.keep Kq19 (ninS ne18 nin0)).ext E21).other W24 ne33).other W27 ne33).other W30 ne33)
    obtain ⟨c35, A35, q35, s35, m35, H35, G35⟩ := id f34
    have b35 := inb_of (j := (0 : Int32)) s35 ⟨by decide, by decide⟩
    refine own_st (fun _ k => X30.laload hx (j := (0 : Int32)) (v := (.long (own_low w0))) (by rw [e30]; exact A35.1) (State.isArrayOf_alike hZ.alike A35.2.1) A35.2.2 b35 (Has.at H35 b35 rfl) (g := (mkF m 82 #[.val (.int p1), .val (.int p2), .val (.long qp3), .second, .val (.long qp4), .second, .val (.long qp5), .second, .val (.long qp6), .second, .val (.ref b1), .val (.ref b15), .val (.ref b21), .val (.int (0 : Int32)), .unset, .unset, .unset, .unset, .unset, .unset, .unset, .unset, .unset, .unset, .unset, .unset, .unset, .unset, .unset, .unset, .unset] [(.int (0 : Int32)), (.ref b1), (.long qp6)])) rfl rfl (hb hby at_82) _ (XS.land X30.here hx rfl (hb hby at_83) rfl (XS.lstore X30.here hx rfl (hb hby at_84) rfl (l' := #[.val (.int p1), .val (.int p2), .val (.long qp3), .second, .val (.long qp4), .second, .val (.long qp5), .second, .val (.long qp6), .second, .val (.ref b1), .val (.ref b15), .val (.ref b21), .val (.int (0 : Int32)), .val (.long (qp6 &&& (own_low w0))), .second, .unset, .unset, .unset, .unset, .unset, .unset, .unset, .unset, .unset, .unset, .unset, .unset, .unset, .unset, .unset]) rfl k))) ?_
    show own_Go p.tables e below RR (T30.setTop (mkF m 86 #[.val (.int p1), .val (.int p2), .val (.long qp3), .second, .val (.long qp4), .second, .val (.long qp5), .second, .val (.long qp6), .second, .val (.ref b1), .val (.ref b15), .val (.ref b21), .val (.int (0 : Int32)), .val (.long (qp6 &&& (own_low w0))), .second, .unset, .unset, .unset, .unset, .unset, .unset, .unset, .unset, .unset, .unset, .unset, .unset, .unset, .unset, .unset] []))
    have lay := own_layout hw0 hw1 hw2
    have Vl : Arv Z h30 b21 k21 .long (3 : Int32) ([qp3, qp4, qp5].map Value.long) (.long (0 : Int64)) := V30
    show own_Go p.tables e below RR (T30.setTop (mkF m 86 #[.val (.int p1), .val (.int p2), .val (.long qp3), .second, .val (.long qp4), .second, .val (.long qp5), .second, .val (.long qp6), .second, .val (.ref b1), .val (.ref b15), .val (.ref b21), .val (.int (0 : Int32)), .val (.long (qp6 &&& (own_low w0))), .second, .unset, .unset, .unset, .unset, .unset, .unset, .unset, .unset, .unset, .unset, .unset, .unset, .unset, .unset, .unset] []))
    refine own_st (fun _ k => XS.aload X30.here hx rfl (hb hby at_86) rfl rfl (XS.aload X30.here hx rfl (hb hby at_88) rfl rfl (XS.iconst X30.here hx rfl (hb hby at_90) k))) ?_
    show own_Go p.tables e below RR (T30.setTop (mkF m 91 #[.val (.int p1), .val (.int p2), .val (.long qp3), .second, .val (.long qp4), .second, .val (.long qp5), .second, .val (.long qp6), .second, .val (.ref b1), .val (.ref b15), .val (.ref b21), .val (.int (0 : Int32)), .val (.long (qp6 &&& (own_low w0))), .second, .unset, .unset, .unset, .unset, .unset, .unset, .unset, .unset, .unset, .unset, .unset, .unset, .unset, .unset, .unset] [(.int (0 : Int32)), (.ref b21), (.ref b15)]))
    have ne36 : aw ≠ b21 := (Nat.ne_of_lt (Nat.lt_of_lt_of_le Vaw19.lt (Nat.le_of_eq gb21.symm)))
    have f37 := ((((Vaw19.ext E21).other W24 ne36).other W27 ne36).other W30 ne36)
    have ne38 : as_ ≠ b21 := (Nat.ne_of_lt (Nat.lt_of_lt_of_le Vas_19.lt (Nat.le_of_eq gb21.symm)))
    have f39 := ((((Vas_19.ext E21).other W24 ne38).other W27 ne38).other W30 ne38)
    have ne40 : am ≠ b21 := (Nat.ne_of_lt (Nat.lt_of_lt_of_le Vam19.lt (Nat.le_of_eq gb21.symm)))
    have f41 := ((((Vam19.ext E21).other W24 ne40).other W27 ne40).other W30 ne40)
    have ne42 : b15 ≠ b21 := (Nat.ne_of_lt (Nat.lt_of_lt_of_le Eq19.lt (Nat.le_of_eq gb21.symm)))
    have f43 := ((((Faw19.ext E21).other W24 (Or.inl ne42)).other W27 (Or.inl ne42)).other W30 (Or.inl ne42))
    have f44 := ((((Fas_19.ext E21).other W24 (Or.inl ne42)).other W27 (Or.inl ne42)).other W30 (Or.inl ne42))
    have f45 := ((((Fam19.ext E21).other W24 (Or.inl ne42)).other W27 (Or.inl ne42)).other W30 (Or.inl ne42))
    have f47 := ((((Eq19.ext E21).wr W24).wr W27).wr W30)
    obtain ⟨cq46, kq46, q46a, q46b, q46c⟩ := isOf hZ e30 f47
    obtain ⟨_, _, ⟨T46, L46, k46, n46⟩, -, X46, ⟨Lc46, hQ46, l46, y46, z46⟩, st46⟩ := X30.virtualBack hx (y := (⟨"com/example/nesiph/nesiph/MarkingSet", "tokens", "([JI)J"⟩ : MethodName)) (z := (⟨"com/example/nesiph/nesiph/MarkingSet", "tokens", "([JI)J"⟩ : MethodName)) hown (mvT hZ (hw _ (List.mem_of_getElem? (i := 61) rfl))) (mvT hZ (hw _ (List.mem_of_getElem? (i := 62) rfl))) (notFace_of_selects (args := #[]) (mvT hZ (hw _ (List.mem_of_getElem? (i := 64) rfl)))) (mvT hZ (hw _ (List.mem_of_getElem? (i := 64) rfl))) (mvT hZ (hw _ (List.mem_of_getElem? (i := 63) rfl))) (by decide) (backOf (W := 0) (own_rmTL0 l Z a0 hw [] b15 b21 k21 [qp3, qp4, qp5] aw as_ am kw ks km (0 : Int32) (own_wo1 w0 w1) (own_wo2 w0 w1 w2) (0 : Int32) (own_sh1 w0 w1) (own_sh2 w0 w1 w2) (own_low w0) (own_low w1) (own_low w2) h30 n0 z31 f43 f44 f45 Vl f37 f39 f41 rfl ⟨by decide, by decide⟩) hZ (hw _ (List.mem_of_getElem? (i := 65) rfl)) (hw _ (List.mem_of_getElem? (i := 8) rfl)) (by decide) (by decide)) q46a q46c (g := (mkF m 91 #[.val (.int p1), .val (.int p2), .val (.long qp3), .second, .val (.long qp4), .second, .val (.long qp5), .second, .val (.long qp6), .second, .val (.ref b1), .val (.ref b15), .val (.ref b21), .val (.int (0 : Int32)), .val (.long (qp6 &&& (own_low w0))), .second, .unset, .unset, .unset, .unset, .unset, .unset, .unset, .unset, .unset, .unset, .unset, .unset, .unset, .unset, .unset] [(.int (0 : Int32)), (.ref b21), (.ref b15)])) rfl (by rw [hml]; rfl) (Steps.refl _) (argsL := [(.ref b21), (.int (0 : Int32))]) (rest := []) (lenOf own_pd___JI_J rfl) rfl (by show 2 * 0 + _ ≤ _; exact Nat.le_of_eq rfl) (hb hby at_91) (fun _ _ => ⟨rfl, e30, (by decide : 9 + 0 ≤ _), (by decide : 43 + 0 ≤ _)⟩)
    dsimp only [Pt.U, Pt.locs, Pt.cells, Pt.slots] at X46 l46 y46 z46 st46 hQ46
    subst l46 y46 z46
    obtain ⟨rfl, Nq46, eq46⟩ := hQ46
    have N46 := Fr.app N30 Nq46
    refine own_st (fun _ k => st46.trans k) ?_
    show own_Go p.tables e below RR (T46.setTop (mkF m 94 #[.val (.int p1), .val (.int p2), .val (.long qp3), .second, .val (.long qp4), .second, .val (.long qp5), .second, .val (.long qp6), .second, .val (.ref b1), .val (.ref b15), .val (.ref b21), .val (.int (0 : Int32)), .val (.long (qp6 &&& (own_low w0))), .second, .unset, .unset, .unset, .unset, .unset, .unset, .unset, .unset, .unset, .unset, .unset, .unset, .unset, .unset, .unset] [(.long (own_G [qp3, qp4, qp5] (0 : Int32) (0 : Int32) (own_low w0)))]))
    refine own_st (fun _ k => XS.lstore X46.here hx rfl (hb hby at_94) rfl (l' := #[.val (.int p1), .val (.int p2), .val (.long qp3), .second, .val (.long qp4), .second, .val (.long qp5), .second, .val (.long qp6), .second, .val (.ref b1), .val (.ref b15), .val (.ref b21), .val (.int (0 : Int32)), .val (.long (qp6 &&& (own_low w0))), .second, .val (.long (own_G [qp3, qp4, qp5] (0 : Int32) (0 : Int32) (own_low w0))), .second, .unset, .unset, .unset, .unset, .unset, .unset, .unset, .unset, .unset, .unset, .unset, .unset, .unset]) rfl (XS.aload X46.here hx rfl (hb hby at_96) rfl rfl (XS.aload X46.here hx rfl (hb hby at_98) rfl rfl (XS.iconst X46.here hx rfl (hb hby at_100) k)))) ?_
    show own_Go p.tables e below RR (T46.setTop (mkF m 101 #[.val (.int p1), .val (.int p2), .val (.long qp3), .second, .val (.long qp4), .second, .val (.long qp5), .second, .val (.long qp6), .second, .val (.ref b1), .val (.ref b15), .val (.ref b21), .val (.int (0 : Int32)), .val (.long (qp6 &&& (own_low w0))), .second, .val (.long (own_G [qp3, qp4, qp5] (0 : Int32) (0 : Int32) (own_low w0))), .second, .unset, .unset, .unset, .unset, .unset, .unset, .unset, .unset, .unset, .unset, .unset, .unset, .unset] [(.int (1 : Int32)), (.ref b21), (.ref b15)]))
    obtain ⟨cq48, kq48, q48a, q48b, q48c⟩ := isOf hZ eq46 f47
    obtain ⟨_, _, ⟨T48, L48, k48, n48⟩, -, X48, ⟨Lc48, hQ48, l48, y48, z48⟩, st48⟩ := X46.virtualBack hx (y := (⟨"com/example/nesiph/nesiph/MarkingSet", "tokens", "([JI)J"⟩ : MethodName)) (z := (⟨"com/example/nesiph/nesiph/MarkingSet", "tokens", "([JI)J"⟩ : MethodName)) hown (mvT hZ (hw _ (List.mem_of_getElem? (i := 61) rfl))) (mvT hZ (hw _ (List.mem_of_getElem? (i := 62) rfl))) (notFace_of_selects (args := #[]) (mvT hZ (hw _ (List.mem_of_getElem? (i := 64) rfl)))) (mvT hZ (hw _ (List.mem_of_getElem? (i := 64) rfl))) (mvT hZ (hw _ (List.mem_of_getElem? (i := 63) rfl))) (by decide) (backOf (W := 0) (own_rmTL1 l Z a0 hw [] b15 b21 k21 [qp3, qp4, qp5] aw as_ am kw ks km (0 : Int32) (own_wo1 w0 w1) (own_wo2 w0 w1 w2) (0 : Int32) (own_sh1 w0 w1) (own_sh2 w0 w1 w2) (own_low w0) (own_low w1) (own_low w2) h30 n0 z31 f43 f44 f45 Vl f37 f39 f41 rfl lay.1) hZ (hw _ (List.mem_of_getElem? (i := 65) rfl)) (hw _ (List.mem_of_getElem? (i := 8) rfl)) (by decide) (by decide)) q48a q48c (g := (mkF m 101 #[.val (.int p1), .val (.int p2), .val (.long qp3), .second, .val (.long qp4), .second, .val (.long qp5), .second, .val (.long qp6), .second, .val (.ref b1), .val (.ref b15), .val (.ref b21), .val (.int (0 : Int32)), .val (.long (qp6 &&& (own_low w0))), .second, .val (.long (own_G [qp3, qp4, qp5] (0 : Int32) (0 : Int32) (own_low w0))), .second, .unset, .unset, .unset, .unset, .unset, .unset, .unset, .unset, .unset, .unset, .unset, .unset, .unset] [(.int (1 : Int32)), (.ref b21), (.ref b15)])) rfl (by rw [hml]; rfl) (Steps.refl _) (argsL := [(.ref b21), (.int (1 : Int32))]) (rest := []) (lenOf own_pd___JI_J rfl) rfl (by show 2 * 0 + _ ≤ _; exact Nat.le_of_eq rfl) (hb hby at_101) (fun _ _ => ⟨rfl, eq46, (by decide : 9 + 0 ≤ _), (by decide : 43 + 0 ≤ _)⟩)
    dsimp only [Pt.U, Pt.locs, Pt.cells, Pt.slots] at X48 l48 y48 z48 st48 hQ48
    subst l48 y48 z48
    obtain ⟨rfl, Nq48, eq48⟩ := hQ48
    have N48 := Fr.app N46 Nq48
    refine own_st (fun _ k => st48.trans k) ?_
    show own_Go p.tables e below RR (T48.setTop (mkF m 104 #[.val (.int p1), .val (.int p2), .val (.long qp3), .second, .val (.long qp4), .second, .val (.long qp5), .second, .val (.long qp6), .second, .val (.ref b1), .val (.ref b15), .val (.ref b21), .val (.int (0 : Int32)), .val (.long (qp6 &&& (own_low w0))), .second, .val (.long (own_G [qp3, qp4, qp5] (0 : Int32) (0 : Int32) (own_low w0))), .second, .unset, .unset, .unset, .unset, .unset, .unset, .unset, .unset, .unset, .unset, .unset, .unset, .unset] [(.long (own_G [qp3, qp4, qp5] (own_wo1 w0 w1) (own_sh1 w0 w1) (own_low w1)))]))
    refine own_st (fun _ k => XS.lstore X48.here hx rfl (hb hby at_104) rfl (l' := #[.val (.int p1), .val (.int p2), .val (.long qp3), .second, .val (.long qp4), .second, .val (.long qp5), .second, .val (.long qp6), .second, .val (.ref b1), .val (.ref b15), .val (.ref b21), .val (.int (0 : Int32)), .val (.long (qp6 &&& (own_low w0))), .second, .val (.long (own_G [qp3, qp4, qp5] (0 : Int32) (0 : Int32) (own_low w0))), .second, .val (.long (own_G [qp3, qp4, qp5] (own_wo1 w0 w1) (own_sh1 w0 w1) (own_low w1))), .second, .unset, .unset, .unset, .unset, .unset, .unset, .unset, .unset, .unset, .unset, .unset]) rfl (XS.aload X48.here hx rfl (hb hby at_106) rfl rfl (XS.aload X48.here hx rfl (hb hby at_108) rfl rfl (XS.iconst X48.here hx rfl (hb hby at_110) k)))) ?_
    show own_Go p.tables e below RR (T48.setTop (mkF m 111 #[.val (.int p1), .val (.int p2), .val (.long qp3), .second, .val (.long qp4), .second, .val (.long qp5), .second, .val (.long qp6), .second, .val (.ref b1), .val (.ref b15), .val (.ref b21), .val (.int (0 : Int32)), .val (.long (qp6 &&& (own_low w0))), .second, .val (.long (own_G [qp3, qp4, qp5] (0 : Int32) (0 : Int32) (own_low w0))), .second, .val (.long (own_G [qp3, qp4, qp5] (own_wo1 w0 w1) (own_sh1 w0 w1) (own_low w1))), .second, .unset, .unset, .unset, .unset, .unset, .unset, .unset, .unset, .unset, .unset, .unset] [(.int (2 : Int32)), (.ref b21), (.ref b15)]))
    obtain ⟨cq49, kq49, q49a, q49b, q49c⟩ := isOf hZ eq48 f47
    obtain ⟨_, _, ⟨T49, L49, k49, n49⟩, -, X49, ⟨Lc49, hQ49, l49, y49, z49⟩, st49⟩ := X48.virtualBack hx (y := (⟨"com/example/nesiph/nesiph/MarkingSet", "tokens", "([JI)J"⟩ : MethodName)) (z := (⟨"com/example/nesiph/nesiph/MarkingSet", "tokens", "([JI)J"⟩ : MethodName)) hown (mvT hZ (hw _ (List.mem_of_getElem? (i := 61) rfl))) (mvT hZ (hw _ (List.mem_of_getElem? (i := 62) rfl))) (notFace_of_selects (args := #[]) (mvT hZ (hw _ (List.mem_of_getElem? (i := 64) rfl)))) (mvT hZ (hw _ (List.mem_of_getElem? (i := 64) rfl))) (mvT hZ (hw _ (List.mem_of_getElem? (i := 63) rfl))) (by decide) (backOf (W := 0) (own_rmTL2 l Z a0 hw [] b15 b21 k21 [qp3, qp4, qp5] aw as_ am kw ks km (0 : Int32) (own_wo1 w0 w1) (own_wo2 w0 w1 w2) (0 : Int32) (own_sh1 w0 w1) (own_sh2 w0 w1 w2) (own_low w0) (own_low w1) (own_low w2) h30 n0 z31 f43 f44 f45 Vl f37 f39 f41 rfl lay.2.1) hZ (hw _ (List.mem_of_getElem? (i := 65) rfl)) (hw _ (List.mem_of_getElem? (i := 8) rfl)) (by decide) (by decide)) q49a q49c (g := (mkF m 111 #[.val (.int p1), .val (.int p2), .val (.long qp3), .second, .val (.long qp4), .second, .val (.long qp5), .second, .val (.long qp6), .second, .val (.ref b1), .val (.ref b15), .val (.ref b21), .val (.int (0 : Int32)), .val (.long (qp6 &&& (own_low w0))), .second, .val (.long (own_G [qp3, qp4, qp5] (0 : Int32) (0 : Int32) (own_low w0))), .second, .val (.long (own_G [qp3, qp4, qp5] (own_wo1 w0 w1) (own_sh1 w0 w1) (own_low w1))), .second, .unset, .unset, .unset, .unset, .unset, .unset, .unset, .unset, .unset, .unset, .unset] [(.int (2 : Int32)), (.ref b21), (.ref b15)])) rfl (by rw [hml]; rfl) (Steps.refl _) (argsL := [(.ref b21), (.int (2 : Int32))]) (rest := []) (lenOf own_pd___JI_J rfl) rfl (by show 2 * 0 + _ ≤ _; exact Nat.le_of_eq rfl) (hb hby at_111) (fun _ _ => ⟨rfl, eq48, (by decide : 9 + 0 ≤ _), (by decide : 43 + 0 ≤ _)⟩)
    dsimp only [Pt.U, Pt.locs, Pt.cells, Pt.slots] at X49 l49 y49 z49 st49 hQ49
    subst l49 y49 z49
    obtain ⟨rfl, Nq49, eq49⟩ := hQ49
    have N49 := Fr.app N48 Nq49
    refine own_st (fun _ k => st49.trans k) ?_
    show own_Go p.tables e below RR (T49.setTop (mkF m 114 #[.val (.int p1), .val (.int p2), .val (.long qp3), .second, .val (.long qp4), .second, .val (.long qp5), .second, .val (.long qp6), .second, .val (.ref b1), .val (.ref b15), .val (.ref b21), .val (.int (0 : Int32)), .val (.long (qp6 &&& (own_low w0))), .second, .val (.long (own_G [qp3, qp4, qp5] (0 : Int32) (0 : Int32) (own_low w0))), .second, .val (.long (own_G [qp3, qp4, qp5] (own_wo1 w0 w1) (own_sh1 w0 w1) (own_low w1))), .second, .unset, .unset, .unset, .unset, .unset, .unset, .unset, .unset, .unset, .unset, .unset] [(.long (own_G [qp3, qp4, qp5] (own_wo2 w0 w1 w2) (own_sh2 w0 w1 w2) (own_low w2)))]))
    refine own_st (fun _ k => XS.lstore X49.here hx rfl (hb hby at_114) rfl (l' := #[.val (.int p1), .val (.int p2), .val (.long qp3), .second, .val (.long qp4), .second, .val (.long qp5), .second, .val (.long qp6), .second, .val (.ref b1), .val (.ref b15), .val (.ref b21), .val (.int (0 : Int32)), .val (.long (qp6 &&& (own_low w0))), .second, .val (.long (own_G [qp3, qp4, qp5] (0 : Int32) (0 : Int32) (own_low w0))), .second, .val (.long (own_G [qp3, qp4, qp5] (own_wo1 w0 w1) (own_sh1 w0 w1) (own_low w1))), .second, .val (.long (own_G [qp3, qp4, qp5] (own_wo2 w0 w1 w2) (own_sh2 w0 w1 w2) (own_low w2))), .second, .unset, .unset, .unset, .unset, .unset, .unset, .unset, .unset, .unset]) rfl (XS.iload X49.here hx rfl (hb hby at_116) rfl k)) ?_
    show own_Go p.tables e below RR (T49.setTop (mkF m 118 #[.val (.int p1), .val (.int p2), .val (.long qp3), .second, .val (.long qp4), .second, .val (.long qp5), .second, .val (.long qp6), .second, .val (.ref b1), .val (.ref b15), .val (.ref b21), .val (.int (0 : Int32)), .val (.long (qp6 &&& (own_low w0))), .second, .val (.long (own_G [qp3, qp4, qp5] (0 : Int32) (0 : Int32) (own_low w0))), .second, .val (.long (own_G [qp3, qp4, qp5] (own_wo1 w0 w1) (own_sh1 w0 w1) (own_low w1))), .second, .val (.long (own_G [qp3, qp4, qp5] (own_wo2 w0 w1 w2) (own_sh2 w0 w1 w2) (own_low w2))), .second, .unset, .unset, .unset, .unset, .unset, .unset, .unset, .unset, .unset] [(.int (0 : Int32))]))
    refine own_st (fun _ k => XS.ifNo X49.here hx rfl (hb hby at_118) rfl ((if0 _ _).trans (teq (by decide)).2) (XS.lload X49.here hx rfl (hb hby at_121) rfl (XS.goto X49.here hx rfl (pc0 := 123) (pc' := 139) rfl (hb hby at_123) (by decide) (by decide) (XS.lstore X49.here hx rfl (hb hby at_139) rfl (l' := #[.val (.int p1), .val (.int p2), .val (.long qp3), .second, .val (.long qp4), .second, .val (.long qp5), .second, .val (.long qp6), .second, .val (.ref b1), .val (.ref b15), .val (.ref b21), .val (.int (0 : Int32)), .val (.long (qp6 &&& (own_low w0))), .second, .val (.long (own_G [qp3, qp4, qp5] (0 : Int32) (0 : Int32) (own_low w0))), .second, .val (.long (own_G [qp3, qp4, qp5] (own_wo1 w0 w1) (own_sh1 w0 w1) (own_low w1))), .second, .val (.long (own_G [qp3, qp4, qp5] (own_wo2 w0 w1 w2) (own_sh2 w0 w1 w2) (own_low w2))), .second, .val (.long (own_G [qp3, qp4, qp5] (0 : Int32) (0 : Int32) (own_low w0))), .second, .unset, .unset, .unset, .unset, .unset, .unset, .unset]) rfl (XS.aload X49.here hx rfl (hb hby at_141) rfl rfl (XS.aload X49.here hx rfl (hb hby at_143) rfl rfl (XS.iload X49.here hx rfl (hb hby at_145) rfl (XS.lload X49.here hx rfl (hb hby at_147) rfl k)))))))) ?_
    show own_Go p.tables e below RR (T49.setTop (mkF m 149 #[.val (.int p1), .val (.int p2), .val (.long qp3), .second, .val (.long qp4), .second, .val (.long qp5), .second, .val (.long qp6), .second, .val (.ref b1), .val (.ref b15), .val (.ref b21), .val (.int (0 : Int32)), .val (.long (qp6 &&& (own_low w0))), .second, .val (.long (own_G [qp3, qp4, qp5] (0 : Int32) (0 : Int32) (own_low w0))), .second, .val (.long (own_G [qp3, qp4, qp5] (own_wo1 w0 w1) (own_sh1 w0 w1) (own_low w1))), .second, .val (.long (own_G [qp3, qp4, qp5] (own_wo2 w0 w1 w2) (own_sh2 w0 w1 w2) (own_low w2))), .second, .val (.long (own_G [qp3, qp4, qp5] (0 : Int32) (0 : Int32) (own_low w0))), .second, .unset, .unset, .unset, .unset, .unset, .unset, .unset] [(.long (qp6 &&& (own_low w0))), (.int (0 : Int32)), (.ref b21), (.ref b15)]))
    obtain ⟨cq50, kq50, q50a, q50b, q50c⟩ := isOf hZ eq49 f47
    obtain ⟨_, _, ⟨T50, L50, k50, n50⟩, -, X50, ⟨Lc50, hQ50, l50, y50, z50⟩, st50⟩ := X49.virtualBack hx (y := (⟨"com/example/nesiph/nesiph/MarkingSet", "setTokens", "([JIJ)V"⟩ : MethodName)) (z := (⟨"com/example/nesiph/nesiph/MarkingSet", "setTokens", "([JIJ)V"⟩ : MethodName)) hown (mvT hZ (hw _ (List.mem_of_getElem? (i := 66) rfl))) (mvT hZ (hw _ (List.mem_of_getElem? (i := 67) rfl))) (notFace_of_selects (args := #[]) (mvT hZ (hw _ (List.mem_of_getElem? (i := 69) rfl)))) (mvT hZ (hw _ (List.mem_of_getElem? (i := 69) rfl))) (mvT hZ (hw _ (List.mem_of_getElem? (i := 68) rfl))) (by decide) (backOf (W := 0) (own_rmSL0 l Z a0 hw [] b15 b21 k21 [qp3, qp4, qp5] aw as_ am kw ks km (0 : Int32) (own_wo1 w0 w1) (own_wo2 w0 w1 w2) (0 : Int32) (own_sh1 w0 w1) (own_sh2 w0 w1 w2) (own_low w0) (own_low w1) (own_low w2) (qp6 &&& (own_low w0)) h30 n0 z31 f43 f44 f45 Vl f37 f39 f41 rfl ⟨by decide, by decide⟩ ge21) hZ (hw _ (List.mem_of_getElem? (i := 70) rfl)) (hw _ (List.mem_of_getElem? (i := 8) rfl)) (by decide) (by decide)) q50a q50c (g := (mkF m 149 #[.val (.int p1), .val (.int p2), .val (.long qp3), .second, .val (.long qp4), .second, .val (.long qp5), .second, .val (.long qp6), .second, .val (.ref b1), .val (.ref b15), .val (.ref b21), .val (.int (0 : Int32)), .val (.long (qp6 &&& (own_low w0))), .second, .val (.long (own_G [qp3, qp4, qp5] (0 : Int32) (0 : Int32) (own_low w0))), .second, .val (.long (own_G [qp3, qp4, qp5] (own_wo1 w0 w1) (own_sh1 w0 w1) (own_low w1))), .second, .val (.long (own_G [qp3, qp4, qp5] (own_wo2 w0 w1 w2) (own_sh2 w0 w1 w2) (own_low w2))), .second, .val (.long (own_G [qp3, qp4, qp5] (0 : Int32) (0 : Int32) (own_low w0))), .second, .unset, .unset, .unset, .unset, .unset, .unset, .unset] [(.long (qp6 &&& (own_low w0))), (.int (0 : Int32)), (.ref b21), (.ref b15)])) rfl (by rw [hml]; rfl) (Steps.refl _) (argsL := [(.ref b21), (.int (0 : Int32)), (.long (qp6 &&& (own_low w0)))]) (rest := []) (lenOf own_pd___JIJ_V rfl) rfl (by show 2 * 0 + _ ≤ _; exact Nat.le_of_eq rfl) (hb hby at_149) (fun _ _ => ⟨rfl, eq49, (by decide : 9 + 0 ≤ _), (by decide : 43 + 0 ≤ _)⟩)
    dsimp only [Pt.U, Pt.locs, Pt.cells, Pt.slots] at X50 l50 y50 z50 st50 hQ50
    subst l50 y50 z50
    obtain ⟨rfl, Nq50, Kq50, Vq50⟩ := hQ50
    have N50 := Fr.app N49 Nq50
    refine own_st (fun _ k => st50.trans k) ?_
    have z51 : n0 ≤ T50.heap.size := Nat.le_trans z31 Kq50.1
    show own_Go p.tables e below RR (T50.setTop (mkF m 152 #[.val (.int p1), .val (.int p2), .val (.long qp3), .second, .val (.long qp4), .second, .val (.long qp5), .second, .val (.long qp6), .second, .val (.ref b1), .val (.ref b15), .val (.ref b21), .val (.int (0 : Int32)), .val (.long (qp6 &&& (own_low w0))), .second, .val (.long (own_G [qp3, qp4, qp5] (0 : Int32) (0 : Int32) (own_low w0))), .second, .val (.long (own_G [qp3, qp4, qp5] (own_wo1 w0 w1) (own_sh1 w0 w1) (own_low w1))), .second, .val (.long (own_G [qp3, qp4, qp5] (own_wo2 w0 w1 w2) (own_sh2 w0 w1 w2) (own_low w2))), .second, .val (.long (own_G [qp3, qp4, qp5] (0 : Int32) (0 : Int32) (own_low w0))), .second, .unset, .unset, .unset, .unset, .unset, .unset, .unset] []))
    refine own_st (fun _ k => XS.iload X50.here hx rfl (hb hby at_152) rfl k) ?_
    show own_Go p.tables e below RR (T50.setTop (mkF m 154 #[.val (.int p1), .val (.int p2), .val (.long qp3), .second, .val (.long qp4), .second, .val (.long qp5), .second, .val (.long qp6), .second, .val (.ref b1), .val (.ref b15), .val (.ref b21), .val (.int (0 : Int32)), .val (.long (qp6 &&& (own_low w0))), .second, .val (.long (own_G [qp3, qp4, qp5] (0 : Int32) (0 : Int32) (own_low w0))), .second, .val (.long (own_G [qp3, qp4, qp5] (own_wo1 w0 w1) (own_sh1 w0 w1) (own_low w1))), .second, .val (.long (own_G [qp3, qp4, qp5] (own_wo2 w0 w1 w2) (own_sh2 w0 w1 w2) (own_low w2))), .second, .val (.long (own_G [qp3, qp4, qp5] (0 : Int32) (0 : Int32) (own_low w0))), .second, .unset, .unset, .unset, .unset, .unset, .unset, .unset] [(.int (0 : Int32))]))
    refine own_st (fun _ k => XS.ifNo X50.here hx rfl (hb hby at_154) rfl ((if0 _ _).trans (teq (by decide)).2) (XS.lload X50.here hx rfl (hb hby at_157) rfl (XS.goto X50.here hx rfl (pc0 := 159) (pc' := 164) rfl (hb hby at_159) (by decide) (by decide) (XS.lstore X50.here hx rfl (hb hby at_164) rfl (l' := #[.val (.int p1), .val (.int p2), .val (.long qp3), .second, .val (.long qp4), .second, .val (.long qp5), .second, .val (.long qp6), .second, .val (.ref b1), .val (.ref b15), .val (.ref b21), .val (.int (0 : Int32)), .val (.long (qp6 &&& (own_low w0))), .second, .val (.long (own_G [qp3, qp4, qp5] (0 : Int32) (0 : Int32) (own_low w0))), .second, .val (.long (own_G [qp3, qp4, qp5] (own_wo1 w0 w1) (own_sh1 w0 w1) (own_low w1))), .second, .val (.long (own_G [qp3, qp4, qp5] (own_wo2 w0 w1 w2) (own_sh2 w0 w1 w2) (own_low w2))), .second, .val (.long (own_G [qp3, qp4, qp5] (0 : Int32) (0 : Int32) (own_low w0))), .second, .val (.long (qp6 &&& (own_low w0))), .second, .unset, .unset, .unset, .unset, .unset]) rfl (XS.iload X50.here hx rfl (hb hby at_166) rfl (XS.iconst X50.here hx rfl (hb hby at_168) k)))))) ?_
    show own_Go p.tables e below RR (T50.setTop (mkF m 169 #[.val (.int p1), .val (.int p2), .val (.long qp3), .second, .val (.long qp4), .second, .val (.long qp5), .second, .val (.long qp6), .second, .val (.ref b1), .val (.ref b15), .val (.ref b21), .val (.int (0 : Int32)), .val (.long (qp6 &&& (own_low w0))), .second, .val (.long (own_G [qp3, qp4, qp5] (0 : Int32) (0 : Int32) (own_low w0))), .second, .val (.long (own_G [qp3, qp4, qp5] (own_wo1 w0 w1) (own_sh1 w0 w1) (own_low w1))), .second, .val (.long (own_G [qp3, qp4, qp5] (own_wo2 w0 w1 w2) (own_sh2 w0 w1 w2) (own_low w2))), .second, .val (.long (own_G [qp3, qp4, qp5] (0 : Int32) (0 : Int32) (own_low w0))), .second, .val (.long (qp6 &&& (own_low w0))), .second, .unset, .unset, .unset, .unset, .unset] [(.int (1 : Int32)), (.int (0 : Int32))]))
    refine own_st (fun _ k => XS.icmpYes X50.here hx rfl (pc0 := 169) (pc' := 177) rfl (hb hby at_169) rfl (feq (by decide)).2 (by decide) (by decide) (XS.lload X50.here hx rfl (hb hby at_177) rfl (XS.lstore X50.here hx rfl (hb hby at_179) rfl (l' := #[.val (.int p1), .val (.int p2), .val (.long qp3), .second, .val (.long qp4), .second, .val (.long qp5), .second, .val (.long qp6), .second, .val (.ref b1), .val (.ref b15), .val (.ref b21), .val (.int (0 : Int32)), .val (.long (qp6 &&& (own_low w0))), .second, .val (.long (own_G [qp3, qp4, qp5] (0 : Int32) (0 : Int32) (own_low w0))), .second, .val (.long (own_G [qp3, qp4, qp5] (own_wo1 w0 w1) (own_sh1 w0 w1) (own_low w1))), .second, .val (.long (own_G [qp3, qp4, qp5] (own_wo2 w0 w1 w2) (own_sh2 w0 w1 w2) (own_low w2))), .second, .val (.long (own_G [qp3, qp4, qp5] (0 : Int32) (0 : Int32) (own_low w0))), .second, .val (.long (qp6 &&& (own_low w0))), .second, .val (.long (own_G [qp3, qp4, qp5] (own_wo1 w0 w1) (own_sh1 w0 w1) (own_low w1))), .second, .unset, .unset, .unset]) rfl (XS.iload X50.here hx rfl (hb hby at_181) rfl (XS.iconst X50.here hx rfl (hb hby at_183) k))))) ?_
    show own_Go p.tables e below RR (T50.setTop (mkF m 184 #[.val (.int p1), .val (.int p2), .val (.long qp3), .second, .val (.long qp4), .second, .val (.long qp5), .second, .val (.long qp6), .second, .val (.ref b1), .val (.ref b15), .val (.ref b21), .val (.int (0 : Int32)), .val (.long (qp6 &&& (own_low w0))), .second, .val (.long (own_G [qp3, qp4, qp5] (0 : Int32) (0 : Int32) (own_low w0))), .second, .val (.long (own_G [qp3, qp4, qp5] (own_wo1 w0 w1) (own_sh1 w0 w1) (own_low w1))), .second, .val (.long (own_G [qp3, qp4, qp5] (own_wo2 w0 w1 w2) (own_sh2 w0 w1 w2) (own_low w2))), .second, .val (.long (own_G [qp3, qp4, qp5] (0 : Int32) (0 : Int32) (own_low w0))), .second, .val (.long (qp6 &&& (own_low w0))), .second, .val (.long (own_G [qp3, qp4, qp5] (own_wo1 w0 w1) (own_sh1 w0 w1) (own_low w1))), .second, .unset, .unset, .unset] [(.int (2 : Int32)), (.int (0 : Int32))]))
    refine own_st (fun _ k => XS.icmpYes X50.here hx rfl (pc0 := 184) (pc' := 192) rfl (hb hby at_184) rfl (feq (by decide)).2 (by decide) (by decide) (XS.lload X50.here hx rfl (hb hby at_192) rfl (XS.lstore X50.here hx rfl (hb hby at_194) rfl (l' := #[.val (.int p1), .val (.int p2), .val (.long qp3), .second, .val (.long qp4), .second, .val (.long qp5), .second, .val (.long qp6), .second, .val (.ref b1), .val (.ref b15), .val (.ref b21), .val (.int (0 : Int32)), .val (.long (qp6 &&& (own_low w0))), .second, .val (.long (own_G [qp3, qp4, qp5] (0 : Int32) (0 : Int32) (own_low w0))), .second, .val (.long (own_G [qp3, qp4, qp5] (own_wo1 w0 w1) (own_sh1 w0 w1) (own_low w1))), .second, .val (.long (own_G [qp3, qp4, qp5] (own_wo2 w0 w1 w2) (own_sh2 w0 w1 w2) (own_low w2))), .second, .val (.long (own_G [qp3, qp4, qp5] (0 : Int32) (0 : Int32) (own_low w0))), .second, .val (.long (qp6 &&& (own_low w0))), .second, .val (.long (own_G [qp3, qp4, qp5] (own_wo1 w0 w1) (own_sh1 w0 w1) (own_low w1))), .second, .val (.long (own_G [qp3, qp4, qp5] (own_wo2 w0 w1 w2) (own_sh2 w0 w1 w2) (own_low w2))), .second, .unset]) rfl (XS.aload X50.here hx rfl (hb hby at_196) rfl rfl (XS.aload X50.here hx rfl (hb hby at_198) rfl rfl (XS.iconst X50.here hx rfl (hb hby at_200) k)))))) ?_
    show own_Go p.tables e below RR (T50.setTop (mkF m 201 #[.val (.int p1), .val (.int p2), .val (.long qp3), .second, .val (.long qp4), .second, .val (.long qp5), .second, .val (.long qp6), .second, .val (.ref b1), .val (.ref b15), .val (.ref b21), .val (.int (0 : Int32)), .val (.long (qp6 &&& (own_low w0))), .second, .val (.long (own_G [qp3, qp4, qp5] (0 : Int32) (0 : Int32) (own_low w0))), .second, .val (.long (own_G [qp3, qp4, qp5] (own_wo1 w0 w1) (own_sh1 w0 w1) (own_low w1))), .second, .val (.long (own_G [qp3, qp4, qp5] (own_wo2 w0 w1 w2) (own_sh2 w0 w1 w2) (own_low w2))), .second, .val (.long (own_G [qp3, qp4, qp5] (0 : Int32) (0 : Int32) (own_low w0))), .second, .val (.long (qp6 &&& (own_low w0))), .second, .val (.long (own_G [qp3, qp4, qp5] (own_wo1 w0 w1) (own_sh1 w0 w1) (own_low w1))), .second, .val (.long (own_G [qp3, qp4, qp5] (own_wo2 w0 w1 w2) (own_sh2 w0 w1 w2) (own_low w2))), .second, .unset] [(.int (0 : Int32)), (.ref b21), (.ref b15)]))
    have f52 := (f37.keep Kq50 (ninS ne36 nin0))
    have f53 := (f39.keep Kq50 (ninS ne38 nin0))
    have f54 := (f41.keep Kq50 (ninS ne40 nin0))
    have f55 := (f43.keep Kq50 (ninS ne42 nin0))
    have f56 := (f44.keep Kq50 (ninS ne42 nin0))
    have f57 := (f45.keep Kq50 (ninS ne42 nin0))
    have f59 := (f47.keep Kq50)
    obtain ⟨cq58, kq58, q58a, q58b, q58c⟩ := isOf hZ rfl f59
    obtain ⟨_, _, ⟨T58, L58, k58, n58⟩, -, X58, ⟨Lc58, hQ58, l58, y58, z58⟩, st58⟩ := X50.virtualBack hx (y := (⟨"com/example/nesiph/nesiph/MarkingSet", "tokens", "([JI)J"⟩ : MethodName)) (z := (⟨"com/example/nesiph/nesiph/MarkingSet", "tokens", "([JI)J"⟩ : MethodName)) hown (mvT hZ (hw _ (List.mem_of_getElem? (i := 61) rfl))) (mvT hZ (hw _ (List.mem_of_getElem? (i := 62) rfl))) (notFace_of_selects (args := #[]) (mvT hZ (hw _ (List.mem_of_getElem? (i := 64) rfl)))) (mvT hZ (hw _ (List.mem_of_getElem? (i := 64) rfl))) (mvT hZ (hw _ (List.mem_of_getElem? (i := 63) rfl))) (by decide) (backOf (W := 0) (own_rmTL0 l Z a0 hw [] b15 b21 k21 (own_P [qp3, qp4, qp5] (0 : Int32) (0 : Int32) (own_low w0) (qp6 &&& (own_low w0))) aw as_ am kw ks km (0 : Int32) (own_wo1 w0 w1) (own_wo2 w0 w1 w2) (0 : Int32) (own_sh1 w0 w1) (own_sh2 w0 w1 w2) (own_low w0) (own_low w1) (own_low w2) T50.heap n0 z51 f55 f56 f57 Vq50 f52 f53 f54 (own_P_len rfl) ⟨by decide, by decide⟩) hZ (hw _ (List.mem_of_getElem? (i := 65) rfl)) (hw _ (List.mem_of_getElem? (i := 8) rfl)) (by decide) (by decide)) q58a q58c (g := (mkF m 201 #[.val (.int p1), .val (.int p2), .val (.long qp3), .second, .val (.long qp4), .second, .val (.long qp5), .second, .val (.long qp6), .second, .val (.ref b1), .val (.ref b15), .val (.ref b21), .val (.int (0 : Int32)), .val (.long (qp6 &&& (own_low w0))), .second, .val (.long (own_G [qp3, qp4, qp5] (0 : Int32) (0 : Int32) (own_low w0))), .second, .val (.long (own_G [qp3, qp4, qp5] (own_wo1 w0 w1) (own_sh1 w0 w1) (own_low w1))), .second, .val (.long (own_G [qp3, qp4, qp5] (own_wo2 w0 w1 w2) (own_sh2 w0 w1 w2) (own_low w2))), .second, .val (.long (own_G [qp3, qp4, qp5] (0 : Int32) (0 : Int32) (own_low w0))), .second, .val (.long (qp6 &&& (own_low w0))), .second, .val (.long (own_G [qp3, qp4, qp5] (own_wo1 w0 w1) (own_sh1 w0 w1) (own_low w1))), .second, .val (.long (own_G [qp3, qp4, qp5] (own_wo2 w0 w1 w2) (own_sh2 w0 w1 w2) (own_low w2))), .second, .unset] [(.int (0 : Int32)), (.ref b21), (.ref b15)])) rfl (by rw [hml]; rfl) (Steps.refl _) (argsL := [(.ref b21), (.int (0 : Int32))]) (rest := []) (lenOf own_pd___JI_J rfl) rfl (by show 2 * 0 + _ ≤ _; exact Nat.le_of_eq rfl) (hb hby at_201) (fun _ _ => ⟨rfl, rfl, (by decide : 9 + 0 ≤ _), (by decide : 43 + 0 ≤ _)⟩)
    dsimp only [Pt.U, Pt.locs, Pt.cells, Pt.slots] at X58 l58 y58 z58 st58 hQ58
    subst l58 y58 z58
    obtain ⟨rfl, Nq58, eq58⟩ := hQ58
    have N58 := Fr.app N50 Nq58
    refine own_st (fun _ k => st58.trans k) ?_
    show own_Go p.tables e below RR (T58.setTop (mkF m 204 #[.val (.int p1), .val (.int p2), .val (.long qp3), .second, .val (.long qp4), .second, .val (.long qp5), .second, .val (.long qp6), .second, .val (.ref b1), .val (.ref b15), .val (.ref b21), .val (.int (0 : Int32)), .val (.long (qp6 &&& (own_low w0))), .second, .val (.long (own_G [qp3, qp4, qp5] (0 : Int32) (0 : Int32) (own_low w0))), .second, .val (.long (own_G [qp3, qp4, qp5] (own_wo1 w0 w1) (own_sh1 w0 w1) (own_low w1))), .second, .val (.long (own_G [qp3, qp4, qp5] (own_wo2 w0 w1 w2) (own_sh2 w0 w1 w2) (own_low w2))), .second, .val (.long (own_G [qp3, qp4, qp5] (0 : Int32) (0 : Int32) (own_low w0))), .second, .val (.long (qp6 &&& (own_low w0))), .second, .val (.long (own_G [qp3, qp4, qp5] (own_wo1 w0 w1) (own_sh1 w0 w1) (own_low w1))), .second, .val (.long (own_G [qp3, qp4, qp5] (own_wo2 w0 w1 w2) (own_sh2 w0 w1 w2) (own_low w2))), .second, .unset] [(.long (own_G (own_P [qp3, qp4, qp5] (0 : Int32) (0 : Int32) (own_low w0) (qp6 &&& (own_low w0))) (0 : Int32) (0 : Int32) (own_low w0)))]))
    refine own_st (fun _ k => XS.lload X58.here hx rfl (hb hby at_204) rfl (XS.lcmp X58.here hx rfl (hb hby at_206) rfl k)) ?_
    show own_Go p.tables e below RR (T58.setTop (mkF m 207 #[.val (.int p1), .val (.int p2), .val (.long qp3), .second, .val (.long qp4), .second, .val (.long qp5), .second, .val (.long qp6), .second, .val (.ref b1), .val (.ref b15), .val (.ref b21), .val (.int (0 : Int32)), .val (.long (qp6 &&& (own_low w0))), .second, .val (.long (own_G [qp3, qp4, qp5] (0 : Int32) (0 : Int32) (own_low w0))), .second, .val (.long (own_G [qp3, qp4, qp5] (own_wo1 w0 w1) (own_sh1 w0 w1) (own_low w1))), .second, .val (.long (own_G [qp3, qp4, qp5] (own_wo2 w0 w1 w2) (own_sh2 w0 w1 w2) (own_low w2))), .second, .val (.long (own_G [qp3, qp4, qp5] (0 : Int32) (0 : Int32) (own_low w0))), .second, .val (.long (qp6 &&& (own_low w0))), .second, .val (.long (own_G [qp3, qp4, qp5] (own_wo1 w0 w1) (own_sh1 w0 w1) (own_low w1))), .second, .val (.long (own_G [qp3, qp4, qp5] (own_wo2 w0 w1 w2) (own_sh2 w0 w1 w2) (own_low w2))), .second, .unset] [(.int (lcmpW (own_G (own_P [qp3, qp4, qp5] (0 : Int32) (0 : Int32) (own_low w0) (qp6 &&& (own_low w0))) (0 : Int32) (0 : Int32) (own_low w0)) (qp6 &&& (own_low w0))))]))
    have hc207_60 : (own_G (own_P [qp3, qp4, qp5] (0 : Int32) (0 : Int32) (own_low w0) (qp6 &&& (own_low w0))) (0 : Int32) (0 : Int32) (own_low w0)) = (qp6 &&& (own_low w0)) := own_A (X := [qp3, qp4, qp5]) rfl ⟨by decide, by decide⟩ (by decide) hw0 (by have e : (0 : Int32).toInt = 0 := (by decide); omega) (own_and_fit hw0)
    refine own_st (fun _ k => XS.ifNo X58.here hx rfl (hb hby at_207) rfl ((if0 _ _).trans (teq ((lw_eq _ _).mpr hc207_60)).2) (XS.aload X58.here hx rfl (hb hby at_210) rfl rfl (XS.aload X58.here hx rfl (hb hby at_212) rfl rfl (XS.iconst X58.here hx rfl (hb hby at_214) k)))) ?_
    show own_Go p.tables e below RR (T58.setTop (mkF m 215 #[.val (.int p1), .val (.int p2), .val (.long qp3), .second, .val (.long qp4), .second, .val (.long qp5), .second, .val (.long qp6), .second, .val (.ref b1), .val (.ref b15), .val (.ref b21), .val (.int (0 : Int32)), .val (.long (qp6 &&& (own_low w0))), .second, .val (.long (own_G [qp3, qp4, qp5] (0 : Int32) (0 : Int32) (own_low w0))), .second, .val (.long (own_G [qp3, qp4, qp5] (own_wo1 w0 w1) (own_sh1 w0 w1) (own_low w1))), .second, .val (.long (own_G [qp3, qp4, qp5] (own_wo2 w0 w1 w2) (own_sh2 w0 w1 w2) (own_low w2))), .second, .val (.long (own_G [qp3, qp4, qp5] (0 : Int32) (0 : Int32) (own_low w0))), .second, .val (.long (qp6 &&& (own_low w0))), .second, .val (.long (own_G [qp3, qp4, qp5] (own_wo1 w0 w1) (own_sh1 w0 w1) (own_low w1))), .second, .val (.long (own_G [qp3, qp4, qp5] (own_wo2 w0 w1 w2) (own_sh2 w0 w1 w2) (own_low w2))), .second, .unset] [(.int (1 : Int32)), (.ref b21), (.ref b15)]))
    obtain ⟨cq61, kq61, q61a, q61b, q61c⟩ := isOf hZ eq58 f59
    obtain ⟨_, _, ⟨T61, L61, k61, n61⟩, -, X61, ⟨Lc61, hQ61, l61, y61, z61⟩, st61⟩ := X58.virtualBack hx (y := (⟨"com/example/nesiph/nesiph/MarkingSet", "tokens", "([JI)J"⟩ : MethodName)) (z := (⟨"com/example/nesiph/nesiph/MarkingSet", "tokens", "([JI)J"⟩ : MethodName)) hown (mvT hZ (hw _ (List.mem_of_getElem? (i := 61) rfl))) (mvT hZ (hw _ (List.mem_of_getElem? (i := 62) rfl))) (notFace_of_selects (args := #[]) (mvT hZ (hw _ (List.mem_of_getElem? (i := 64) rfl)))) (mvT hZ (hw _ (List.mem_of_getElem? (i := 64) rfl))) (mvT hZ (hw _ (List.mem_of_getElem? (i := 63) rfl))) (by decide) (backOf (W := 0) (own_rmTL1 l Z a0 hw [] b15 b21 k21 (own_P [qp3, qp4, qp5] (0 : Int32) (0 : Int32) (own_low w0) (qp6 &&& (own_low w0))) aw as_ am kw ks km (0 : Int32) (own_wo1 w0 w1) (own_wo2 w0 w1 w2) (0 : Int32) (own_sh1 w0 w1) (own_sh2 w0 w1 w2) (own_low w0) (own_low w1) (own_low w2) T50.heap n0 z51 f55 f56 f57 Vq50 f52 f53 f54 (own_P_len rfl) lay.1) hZ (hw _ (List.mem_of_getElem? (i := 65) rfl)) (hw _ (List.mem_of_getElem? (i := 8) rfl)) (by decide) (by decide)) q61a q61c (g := (mkF m 215 #[.val (.int p1), .val (.int p2), .val (.long qp3), .second, .val (.long qp4), .second, .val (.long qp5), .second, .val (.long qp6), .second, .val (.ref b1), .val (.ref b15), .val (.ref b21), .val (.int (0 : Int32)), .val (.long (qp6 &&& (own_low w0))), .second, .val (.long (own_G [qp3, qp4, qp5] (0 : Int32) (0 : Int32) (own_low w0))), .second, .val (.long (own_G [qp3, qp4, qp5] (own_wo1 w0 w1) (own_sh1 w0 w1) (own_low w1))), .second, .val (.long (own_G [qp3, qp4, qp5] (own_wo2 w0 w1 w2) (own_sh2 w0 w1 w2) (own_low w2))), .second, .val (.long (own_G [qp3, qp4, qp5] (0 : Int32) (0 : Int32) (own_low w0))), .second, .val (.long (qp6 &&& (own_low w0))), .second, .val (.long (own_G [qp3, qp4, qp5] (own_wo1 w0 w1) (own_sh1 w0 w1) (own_low w1))), .second, .val (.long (own_G [qp3, qp4, qp5] (own_wo2 w0 w1 w2) (own_sh2 w0 w1 w2) (own_low w2))), .second, .unset] [(.int (1 : Int32)), (.ref b21), (.ref b15)])) rfl (by rw [hml]; rfl) (Steps.refl _) (argsL := [(.ref b21), (.int (1 : Int32))]) (rest := []) (lenOf own_pd___JI_J rfl) rfl (by show 2 * 0 + _ ≤ _; exact Nat.le_of_eq rfl) (hb hby at_215) (fun _ _ => ⟨rfl, eq58, (by decide : 9 + 0 ≤ _), (by decide : 43 + 0 ≤ _)⟩)
    dsimp only [Pt.U, Pt.locs, Pt.cells, Pt.slots] at X61 l61 y61 z61 st61 hQ61
    subst l61 y61 z61
    obtain ⟨rfl, Nq61, eq61⟩ := hQ61
    have N61 := Fr.app N58 Nq61
    refine own_st (fun _ k => st61.trans k) ?_
    show own_Go p.tables e below RR (T61.setTop (mkF m 218 #[.val (.int p1), .val (.int p2), .val (.long qp3), .second, .val (.long qp4), .second, .val (.long qp5), .second, .val (.long qp6), .second, .val (.ref b1), .val (.ref b15), .val (.ref b21), .val (.int (0 : Int32)), .val (.long (qp6 &&& (own_low w0))), .second, .val (.long (own_G [qp3, qp4, qp5] (0 : Int32) (0 : Int32) (own_low w0))), .second, .val (.long (own_G [qp3, qp4, qp5] (own_wo1 w0 w1) (own_sh1 w0 w1) (own_low w1))), .second, .val (.long (own_G [qp3, qp4, qp5] (own_wo2 w0 w1 w2) (own_sh2 w0 w1 w2) (own_low w2))), .second, .val (.long (own_G [qp3, qp4, qp5] (0 : Int32) (0 : Int32) (own_low w0))), .second, .val (.long (qp6 &&& (own_low w0))), .second, .val (.long (own_G [qp3, qp4, qp5] (own_wo1 w0 w1) (own_sh1 w0 w1) (own_low w1))), .second, .val (.long (own_G [qp3, qp4, qp5] (own_wo2 w0 w1 w2) (own_sh2 w0 w1 w2) (own_low w2))), .second, .unset] [(.long (own_G (own_P [qp3, qp4, qp5] (0 : Int32) (0 : Int32) (own_low w0) (qp6 &&& (own_low w0))) (own_wo1 w0 w1) (own_sh1 w0 w1) (own_low w1)))]))
    refine own_st (fun _ k => XS.lload X61.here hx rfl (hb hby at_218) rfl (XS.lcmp X61.here hx rfl (hb hby at_220) rfl k)) ?_
    show own_Go p.tables e below RR (T61.setTop (mkF m 221 #[.val (.int p1), .val (.int p2), .val (.long qp3), .second, .val (.long qp4), .second, .val (.long qp5), .second, .val (.long qp6), .second, .val (.ref b1), .val (.ref b15), .val (.ref b21), .val (.int (0 : Int32)), .val (.long (qp6 &&& (own_low w0))), .second, .val (.long (own_G [qp3, qp4, qp5] (0 : Int32) (0 : Int32) (own_low w0))), .second, .val (.long (own_G [qp3, qp4, qp5] (own_wo1 w0 w1) (own_sh1 w0 w1) (own_low w1))), .second, .val (.long (own_G [qp3, qp4, qp5] (own_wo2 w0 w1 w2) (own_sh2 w0 w1 w2) (own_low w2))), .second, .val (.long (own_G [qp3, qp4, qp5] (0 : Int32) (0 : Int32) (own_low w0))), .second, .val (.long (qp6 &&& (own_low w0))), .second, .val (.long (own_G [qp3, qp4, qp5] (own_wo1 w0 w1) (own_sh1 w0 w1) (own_low w1))), .second, .val (.long (own_G [qp3, qp4, qp5] (own_wo2 w0 w1 w2) (own_sh2 w0 w1 w2) (own_low w2))), .second, .unset] [(.int (lcmpW (own_G (own_P [qp3, qp4, qp5] (0 : Int32) (0 : Int32) (own_low w0) (qp6 &&& (own_low w0))) (own_wo1 w0 w1) (own_sh1 w0 w1) (own_low w1)) (own_G [qp3, qp4, qp5] (own_wo1 w0 w1) (own_sh1 w0 w1) (own_low w1))))]))
    have hc221_62 : (own_G (own_P [qp3, qp4, qp5] (0 : Int32) (0 : Int32) (own_low w0) (qp6 &&& (own_low w0))) (own_wo1 w0 w1) (own_sh1 w0 w1) (own_low w1)) = (own_G [qp3, qp4, qp5] (own_wo1 w0 w1) (own_sh1 w0 w1) (own_low w1)) := own_B (X := [qp3, qp4, qp5]) rfl ⟨by decide, by decide⟩ (by decide) hw0 (by have e : (0 : Int32).toInt = 0 := (by decide); omega) (own_and_fit hw0) lay.1 lay.2.2.1.1 hw1 lay.2.2.1.2 lay.2.2.2.2.1
    refine own_st (fun _ k => XS.ifNo X61.here hx rfl (hb hby at_221) rfl ((if0 _ _).trans (teq ((lw_eq _ _).mpr hc221_62)).2) (XS.aload X61.here hx rfl (hb hby at_224) rfl rfl (XS.aload X61.here hx rfl (hb hby at_226) rfl rfl (XS.iconst X61.here hx rfl (hb hby at_228) k)))) ?_
    show own_Go p.tables e below RR (T61.setTop (mkF m 229 #[.val (.int p1), .val (.int p2), .val (.long qp3), .second, .val (.long qp4), .second, .val (.long qp5), .second, .val (.long qp6), .second, .val (.ref b1), .val (.ref b15), .val (.ref b21), .val (.int (0 : Int32)), .val (.long (qp6 &&& (own_low w0))), .second, .val (.long (own_G [qp3, qp4, qp5] (0 : Int32) (0 : Int32) (own_low w0))), .second, .val (.long (own_G [qp3, qp4, qp5] (own_wo1 w0 w1) (own_sh1 w0 w1) (own_low w1))), .second, .val (.long (own_G [qp3, qp4, qp5] (own_wo2 w0 w1 w2) (own_sh2 w0 w1 w2) (own_low w2))), .second, .val (.long (own_G [qp3, qp4, qp5] (0 : Int32) (0 : Int32) (own_low w0))), .second, .val (.long (qp6 &&& (own_low w0))), .second, .val (.long (own_G [qp3, qp4, qp5] (own_wo1 w0 w1) (own_sh1 w0 w1) (own_low w1))), .second, .val (.long (own_G [qp3, qp4, qp5] (own_wo2 w0 w1 w2) (own_sh2 w0 w1 w2) (own_low w2))), .second, .unset] [(.int (2 : Int32)), (.ref b21), (.ref b15)]))
    obtain ⟨cq63, kq63, q63a, q63b, q63c⟩ := isOf hZ eq61 f59
    obtain ⟨_, _, ⟨T63, L63, k63, n63⟩, -, X63, ⟨Lc63, hQ63, l63, y63, z63⟩, st63⟩ := X61.virtualBack hx (y := (⟨"com/example/nesiph/nesiph/MarkingSet", "tokens", "([JI)J"⟩ : MethodName)) (z := (⟨"com/example/nesiph/nesiph/MarkingSet", "tokens", "([JI)J"⟩ : MethodName)) hown (mvT hZ (hw _ (List.mem_of_getElem? (i := 61) rfl))) (mvT hZ (hw _ (List.mem_of_getElem? (i := 62) rfl))) (notFace_of_selects (args := #[]) (mvT hZ (hw _ (List.mem_of_getElem? (i := 64) rfl)))) (mvT hZ (hw _ (List.mem_of_getElem? (i := 64) rfl))) (mvT hZ (hw _ (List.mem_of_getElem? (i := 63) rfl))) (by decide) (backOf (W := 0) (own_rmTL2 l Z a0 hw [] b15 b21 k21 (own_P [qp3, qp4, qp5] (0 : Int32) (0 : Int32) (own_low w0) (qp6 &&& (own_low w0))) aw as_ am kw ks km (0 : Int32) (own_wo1 w0 w1) (own_wo2 w0 w1 w2) (0 : Int32) (own_sh1 w0 w1) (own_sh2 w0 w1 w2) (own_low w0) (own_low w1) (own_low w2) T50.heap n0 z51 f55 f56 f57 Vq50 f52 f53 f54 (own_P_len rfl) lay.2.1) hZ (hw _ (List.mem_of_getElem? (i := 65) rfl)) (hw _ (List.mem_of_getElem? (i := 8) rfl)) (by decide) (by decide)) q63a q63c (g := (mkF m 229 #[.val (.int p1), .val (.int p2), .val (.long qp3), .second, .val (.long qp4), .second, .val (.long qp5), .second, .val (.long qp6), .second, .val (.ref b1), .val (.ref b15), .val (.ref b21), .val (.int (0 : Int32)), .val (.long (qp6 &&& (own_low w0))), .second, .val (.long (own_G [qp3, qp4, qp5] (0 : Int32) (0 : Int32) (own_low w0))), .second, .val (.long (own_G [qp3, qp4, qp5] (own_wo1 w0 w1) (own_sh1 w0 w1) (own_low w1))), .second, .val (.long (own_G [qp3, qp4, qp5] (own_wo2 w0 w1 w2) (own_sh2 w0 w1 w2) (own_low w2))), .second, .val (.long (own_G [qp3, qp4, qp5] (0 : Int32) (0 : Int32) (own_low w0))), .second, .val (.long (qp6 &&& (own_low w0))), .second, .val (.long (own_G [qp3, qp4, qp5] (own_wo1 w0 w1) (own_sh1 w0 w1) (own_low w1))), .second, .val (.long (own_G [qp3, qp4, qp5] (own_wo2 w0 w1 w2) (own_sh2 w0 w1 w2) (own_low w2))), .second, .unset] [(.int (2 : Int32)), (.ref b21), (.ref b15)])) rfl (by rw [hml]; rfl) (Steps.refl _) (argsL := [(.ref b21), (.int (2 : Int32))]) (rest := []) (lenOf own_pd___JI_J rfl) rfl (by show 2 * 0 + _ ≤ _; exact Nat.le_of_eq rfl) (hb hby at_229) (fun _ _ => ⟨rfl, eq61, (by decide : 9 + 0 ≤ _), (by decide : 43 + 0 ≤ _)⟩)
    dsimp only [Pt.U, Pt.locs, Pt.cells, Pt.slots] at X63 l63 y63 z63 st63 hQ63
    subst l63 y63 z63
    obtain ⟨rfl, Nq63, eq63⟩ := hQ63
    have N63 := Fr.app N61 Nq63
    refine own_st (fun _ k => st63.trans k) ?_
    show own_Go p.tables e below RR (T63.setTop (mkF m 232 #[.val (.int p1), .val (.int p2), .val (.long qp3), .second, .val (.long qp4), .second, .val (.long qp5), .second, .val (.long qp6), .second, .val (.ref b1), .val (.ref b15), .val (.ref b21), .val (.int (0 : Int32)), .val (.long (qp6 &&& (own_low w0))), .second, .val (.long (own_G [qp3, qp4, qp5] (0 : Int32) (0 : Int32) (own_low w0))), .second, .val (.long (own_G [qp3, qp4, qp5] (own_wo1 w0 w1) (own_sh1 w0 w1) (own_low w1))), .second, .val (.long (own_G [qp3, qp4, qp5] (own_wo2 w0 w1 w2) (own_sh2 w0 w1 w2) (own_low w2))), .second, .val (.long (own_G [qp3, qp4, qp5] (0 : Int32) (0 : Int32) (own_low w0))), .second, .val (.long (qp6 &&& (own_low w0))), .second, .val (.long (own_G [qp3, qp4, qp5] (own_wo1 w0 w1) (own_sh1 w0 w1) (own_low w1))), .second, .val (.long (own_G [qp3, qp4, qp5] (own_wo2 w0 w1 w2) (own_sh2 w0 w1 w2) (own_low w2))), .second, .unset] [(.long (own_G (own_P [qp3, qp4, qp5] (0 : Int32) (0 : Int32) (own_low w0) (qp6 &&& (own_low w0))) (own_wo2 w0 w1 w2) (own_sh2 w0 w1 w2) (own_low w2)))]))
    refine own_st (fun _ k => XS.lload X63.here hx rfl (hb hby at_232) rfl (XS.lcmp X63.here hx rfl (hb hby at_234) rfl k)) ?_
    show own_Go p.tables e below RR (T63.setTop (mkF m 235 #[.val (.int p1), .val (.int p2), .val (.long qp3), .second, .val (.long qp4), .second, .val (.long qp5), .second, .val (.long qp6), .second, .val (.ref b1), .val (.ref b15), .val (.ref b21), .val (.int (0 : Int32)), .val (.long (qp6 &&& (own_low w0))), .second, .val (.long (own_G [qp3, qp4, qp5] (0 : Int32) (0 : Int32) (own_low w0))), .second, .val (.long (own_G [qp3, qp4, qp5] (own_wo1 w0 w1) (own_sh1 w0 w1) (own_low w1))), .second, .val (.long (own_G [qp3, qp4, qp5] (own_wo2 w0 w1 w2) (own_sh2 w0 w1 w2) (own_low w2))), .second, .val (.long (own_G [qp3, qp4, qp5] (0 : Int32) (0 : Int32) (own_low w0))), .second, .val (.long (qp6 &&& (own_low w0))), .second, .val (.long (own_G [qp3, qp4, qp5] (own_wo1 w0 w1) (own_sh1 w0 w1) (own_low w1))), .second, .val (.long (own_G [qp3, qp4, qp5] (own_wo2 w0 w1 w2) (own_sh2 w0 w1 w2) (own_low w2))), .second, .unset] [(.int (lcmpW (own_G (own_P [qp3, qp4, qp5] (0 : Int32) (0 : Int32) (own_low w0) (qp6 &&& (own_low w0))) (own_wo2 w0 w1 w2) (own_sh2 w0 w1 w2) (own_low w2)) (own_G [qp3, qp4, qp5] (own_wo2 w0 w1 w2) (own_sh2 w0 w1 w2) (own_low w2))))]))
    have hc235_64 : (own_G (own_P [qp3, qp4, qp5] (0 : Int32) (0 : Int32) (own_low w0) (qp6 &&& (own_low w0))) (own_wo2 w0 w1 w2) (own_sh2 w0 w1 w2) (own_low w2)) = (own_G [qp3, qp4, qp5] (own_wo2 w0 w1 w2) (own_sh2 w0 w1 w2) (own_low w2)) := own_B (X := [qp3, qp4, qp5]) rfl ⟨by decide, by decide⟩ (by decide) hw0 (by have e : (0 : Int32).toInt = 0 := (by decide); omega) (own_and_fit hw0) lay.2.1 lay.2.2.2.1.1 hw2 lay.2.2.2.1.2 lay.2.2.2.2.2.1
    refine own_st (fun _ k => XS.ifNo X63.here hx rfl (hb hby at_235) rfl ((if0 _ _).trans (teq ((lw_eq _ _).mpr hc235_64)).2) (XS.iconst X63.here hx rfl (hb hby at_238) (XS.goto X63.here hx rfl (pc0 := 239) (pc' := 243) rfl (hb hby at_239) (by decide) (by decide) (XS.istore X63.here hx rfl (hb hby at_243) rfl (l' := #[.val (.int p1), .val (.int p2), .val (.long qp3), .second, .val (.long qp4), .second, .val (.long qp5), .second, .val (.long qp6), .second, .val (.ref b1), .val (.ref b15), .val (.ref b21), .val (.int (0 : Int32)), .val (.long (qp6 &&& (own_low w0))), .second, .val (.long (own_G [qp3, qp4, qp5] (0 : Int32) (0 : Int32) (own_low w0))), .second, .val (.long (own_G [qp3, qp4, qp5] (own_wo1 w0 w1) (own_sh1 w0 w1) (own_low w1))), .second, .val (.long (own_G [qp3, qp4, qp5] (own_wo2 w0 w1 w2) (own_sh2 w0 w1 w2) (own_low w2))), .second, .val (.long (own_G [qp3, qp4, qp5] (0 : Int32) (0 : Int32) (own_low w0))), .second, .val (.long (qp6 &&& (own_low w0))), .second, .val (.long (own_G [qp3, qp4, qp5] (own_wo1 w0 w1) (own_sh1 w0 w1) (own_low w1))), .second, .val (.long (own_G [qp3, qp4, qp5] (own_wo2 w0 w1 w2) (own_sh2 w0 w1 w2) (own_low w2))), .second, .val (.int (1 : Int32))]) rfl (XS.aload X63.here hx rfl (hb hby at_245) rfl rfl (XS.aload X63.here hx rfl (hb hby at_247) rfl rfl (XS.iload X63.here hx rfl (hb hby at_249) rfl (XS.lload X63.here hx rfl (hb hby at_251) rfl k)))))))) ?_
    show own_Go p.tables e below RR (T63.setTop (mkF m 253 #[.val (.int p1), .val (.int p2), .val (.long qp3), .second, .val (.long qp4), .second, .val (.long qp5), .second, .val (.long qp6), .second, .val (.ref b1), .val (.ref b15), .val (.ref b21), .val (.int (0 : Int32)), .val (.long (qp6 &&& (own_low w0))), .second, .val (.long (own_G [qp3, qp4, qp5] (0 : Int32) (0 : Int32) (own_low w0))), .second, .val (.long (own_G [qp3, qp4, qp5] (own_wo1 w0 w1) (own_sh1 w0 w1) (own_low w1))), .second, .val (.long (own_G [qp3, qp4, qp5] (own_wo2 w0 w1 w2) (own_sh2 w0 w1 w2) (own_low w2))), .second, .val (.long (own_G [qp3, qp4, qp5] (0 : Int32) (0 : Int32) (own_low w0))), .second, .val (.long (qp6 &&& (own_low w0))), .second, .val (.long (own_G [qp3, qp4, qp5] (own_wo1 w0 w1) (own_sh1 w0 w1) (own_low w1))), .second, .val (.long (own_G [qp3, qp4, qp5] (own_wo2 w0 w1 w2) (own_sh2 w0 w1 w2) (own_low w2))), .second, .val (.int (1 : Int32))] [(.long (own_G [qp3, qp4, qp5] (0 : Int32) (0 : Int32) (own_low w0))), (.int (0 : Int32)), (.ref b21), (.ref b15)]))
    obtain ⟨cq65, kq65, q65a, q65b, q65c⟩ := isOf hZ eq63 f59
    obtain ⟨_, _, ⟨T65, L65, k65, n65⟩, -, X65, ⟨Lc65, hQ65, l65, y65, z65⟩, st65⟩ := X63.virtualBack hx (y := (⟨"com/example/nesiph/nesiph/MarkingSet", "setTokens", "([JIJ)V"⟩ : MethodName)) (z := (⟨"com/example/nesiph/nesiph/MarkingSet", "setTokens", "([JIJ)V"⟩ : MethodName)) hown (mvT hZ (hw _ (List.mem_of_getElem? (i := 66) rfl))) (mvT hZ (hw _ (List.mem_of_getElem? (i := 67) rfl))) (notFace_of_selects (args := #[]) (mvT hZ (hw _ (List.mem_of_getElem? (i := 69) rfl)))) (mvT hZ (hw _ (List.mem_of_getElem? (i := 69) rfl))) (mvT hZ (hw _ (List.mem_of_getElem? (i := 68) rfl))) (by decide) (backOf (W := 0) (own_rmSL0 l Z a0 hw [] b15 b21 k21 (own_P [qp3, qp4, qp5] (0 : Int32) (0 : Int32) (own_low w0) (qp6 &&& (own_low w0))) aw as_ am kw ks km (0 : Int32) (own_wo1 w0 w1) (own_wo2 w0 w1 w2) (0 : Int32) (own_sh1 w0 w1) (own_sh2 w0 w1 w2) (own_low w0) (own_low w1) (own_low w2) (own_G [qp3, qp4, qp5] (0 : Int32) (0 : Int32) (own_low w0)) T50.heap n0 z51 f55 f56 f57 Vq50 f52 f53 f54 (own_P_len rfl) ⟨by decide, by decide⟩ ge21) hZ (hw _ (List.mem_of_getElem? (i := 70) rfl)) (hw _ (List.mem_of_getElem? (i := 8) rfl)) (by decide) (by decide)) q65a q65c (g := (mkF m 253 #[.val (.int p1), .val (.int p2), .val (.long qp3), .second, .val (.long qp4), .second, .val (.long qp5), .second, .val (.long qp6), .second, .val (.ref b1), .val (.ref b15), .val (.ref b21), .val (.int (0 : Int32)), .val (.long (qp6 &&& (own_low w0))), .second, .val (.long (own_G [qp3, qp4, qp5] (0 : Int32) (0 : Int32) (own_low w0))), .second, .val (.long (own_G [qp3, qp4, qp5] (own_wo1 w0 w1) (own_sh1 w0 w1) (own_low w1))), .second, .val (.long (own_G [qp3, qp4, qp5] (own_wo2 w0 w1 w2) (own_sh2 w0 w1 w2) (own_low w2))), .second, .val (.long (own_G [qp3, qp4, qp5] (0 : Int32) (0 : Int32) (own_low w0))), .second, .val (.long (qp6 &&& (own_low w0))), .second, .val (.long (own_G [qp3, qp4, qp5] (own_wo1 w0 w1) (own_sh1 w0 w1) (own_low w1))), .second, .val (.long (own_G [qp3, qp4, qp5] (own_wo2 w0 w1 w2) (own_sh2 w0 w1 w2) (own_low w2))), .second, .val (.int (1 : Int32))] [(.long (own_G [qp3, qp4, qp5] (0 : Int32) (0 : Int32) (own_low w0))), (.int (0 : Int32)), (.ref b21), (.ref b15)])) rfl (by rw [hml]; rfl) (Steps.refl _) (argsL := [(.ref b21), (.int (0 : Int32)), (.long (own_G [qp3, qp4, qp5] (0 : Int32) (0 : Int32) (own_low w0)))]) (rest := []) (lenOf own_pd___JIJ_V rfl) rfl (by show 2 * 0 + _ ≤ _; exact Nat.le_of_eq rfl) (hb hby at_253) (fun _ _ => ⟨rfl, eq63, (by decide : 9 + 0 ≤ _), (by decide : 43 + 0 ≤ _)⟩)
    dsimp only [Pt.U, Pt.locs, Pt.cells, Pt.slots] at X65 l65 y65 z65 st65 hQ65
    subst l65 y65 z65
    obtain ⟨rfl, Nq65, Kq65, Vq65⟩ := hQ65
    have N65 := Fr.app N63 Nq65
    refine own_st (fun _ k => st65.trans k) ?_
    have z66 : n0 ≤ T65.heap.size := Nat.le_trans z51 Kq65.1
    have Vz65 : Arv Z T65.heap b21 k21 .long (3 : Int32) [(.long qp3), (.long qp4), (.long qp5)] (.long (0 : Int64)) := by
      have e := own_C (X := [qp3, qp4, qp5]) (n := (0 : Int32)) (s := (0 : Int32)) (t := (qp6 &&& (own_low w0))) rfl ⟨by decide, by decide⟩ (by decide) hw0 (by have e : (0 : Int32).toInt = 0 := (by decide); omega) (own_and_fit hw0)
      rw [e] at Vq65
      exact Vq65
    show own_Go p.tables e below RR (T65.setTop (mkF m 256 #[.val (.int p1), .val (.int p2), .val (.long qp3), .second, .val (.long qp4), .second, .val (.long qp5), .second, .val (.long qp6), .second, .val (.ref b1), .val (.ref b15), .val (.ref b21), .val (.int (0 : Int32)), .val (.long (qp6 &&& (own_low w0))), .second, .val (.long (own_G [qp3, qp4, qp5] (0 : Int32) (0 : Int32) (own_low w0))), .second, .val (.long (own_G [qp3, qp4, qp5] (own_wo1 w0 w1) (own_sh1 w0 w1) (own_low w1))), .second, .val (.long (own_G [qp3, qp4, qp5] (own_wo2 w0 w1 w2) (own_sh2 w0 w1 w2) (own_low w2))), .second, .val (.long (own_G [qp3, qp4, qp5] (0 : Int32) (0 : Int32) (own_low w0))), .second, .val (.long (qp6 &&& (own_low w0))), .second, .val (.long (own_G [qp3, qp4, qp5] (own_wo1 w0 w1) (own_sh1 w0 w1) (own_low w1))), .second, .val (.long (own_G [qp3, qp4, qp5] (own_wo2 w0 w1 w2) (own_sh2 w0 w1 w2) (own_low w2))), .second, .val (.int (1 : Int32))] []))
    refine own_st (fun _ k => XS.iload X65.here hx rfl (hb hby at_256) rfl k) ?_
    show own_Go p.tables e below RR (T65.setTop (mkF m 258 #[.val (.int p1), .val (.int p2), .val (.long qp3), .second, .val (.long qp4), .second, .val (.long qp5), .second, .val (.long qp6), .second, .val (.ref b1), .val (.ref b15), .val (.ref b21), .val (.int (0 : Int32)), .val (.long (qp6 &&& (own_low w0))), .second, .val (.long (own_G [qp3, qp4, qp5] (0 : Int32) (0 : Int32) (own_low w0))), .second, .val (.long (own_G [qp3, qp4, qp5] (own_wo1 w0 w1) (own_sh1 w0 w1) (own_low w1))), .second, .val (.long (own_G [qp3, qp4, qp5] (own_wo2 w0 w1 w2) (own_sh2 w0 w1 w2) (own_low w2))), .second, .val (.long (own_G [qp3, qp4, qp5] (0 : Int32) (0 : Int32) (own_low w0))), .second, .val (.long (qp6 &&& (own_low w0))), .second, .val (.long (own_G [qp3, qp4, qp5] (own_wo1 w0 w1) (own_sh1 w0 w1) (own_low w1))), .second, .val (.long (own_G [qp3, qp4, qp5] (own_wo2 w0 w1 w2) (own_sh2 w0 w1 w2) (own_low w2))), .second, .val (.int (1 : Int32))] [(.int (1 : Int32))]))
    refine own_st (fun _ k => XS.ifNo X65.here hx rfl (hb hby at_258) rfl ((if0 _ _).trans (feq (by decide)).1) (XS.aload X65.here hx rfl (hb hby at_261) rfl rfl (XS.iconst X65.here hx rfl (hb hby at_263) k))) ?_
    show own_Go p.tables e below RR (T65.setTop (mkF m 264 #[.val (.int p1), .val (.int p2), .val (.long qp3), .second, .val (.long qp4), .second, .val (.long qp5), .second, .val (.long qp6), .second, .val (.ref b1), .val (.ref b15), .val (.ref b21), .val (.int (0 : Int32)), .val (.long (qp6 &&& (own_low w0))), .second, .val (.long (own_G [qp3, qp4, qp5] (0 : Int32) (0 : Int32) (own_low w0))), .second, .val (.long (own_G [qp3, qp4, qp5] (own_wo1 w0 w1) (own_sh1 w0 w1) (own_low w1))), .second, .val (.long (own_G [qp3, qp4, qp5] (own_wo2 w0 w1 w2) (own_sh2 w0 w1 w2) (own_low w2))), .second, .val (.long (own_G [qp3, qp4, qp5] (0 : Int32) (0 : Int32) (own_low w0))), .second, .val (.long (qp6 &&& (own_low w0))), .second, .val (.long (own_G [qp3, qp4, qp5] (own_wo1 w0 w1) (own_sh1 w0 w1) (own_low w1))), .second, .val (.long (own_G [qp3, qp4, qp5] (own_wo2 w0 w1 w2) (own_sh2 w0 w1 w2) (own_low w2))), .second, .val (.int (1 : Int32))] [(.int (0 : Int32)), (.ref b21)]))
    obtain ⟨c67, A67, q67, s67, m67, H67, G67⟩ := id Vz65
    have b67 := inb_of (j := (0 : Int32)) s67 ⟨by decide, by decide⟩
    refine own_st (fun _ k => X65.laload hx (j := (0 : Int32)) (v := (.long qp3)) (by exact A67.1) (State.isArrayOf_alike hZ.alike A67.2.1) A67.2.2 b67 (Has.at H67 b67 rfl) (g := (mkF m 264 #[.val (.int p1), .val (.int p2), .val (.long qp3), .second, .val (.long qp4), .second, .val (.long qp5), .second, .val (.long qp6), .second, .val (.ref b1), .val (.ref b15), .val (.ref b21), .val (.int (0 : Int32)), .val (.long (qp6 &&& (own_low w0))), .second, .val (.long (own_G [qp3, qp4, qp5] (0 : Int32) (0 : Int32) (own_low w0))), .second, .val (.long (own_G [qp3, qp4, qp5] (own_wo1 w0 w1) (own_sh1 w0 w1) (own_low w1))), .second, .val (.long (own_G [qp3, qp4, qp5] (own_wo2 w0 w1 w2) (own_sh2 w0 w1 w2) (own_low w2))), .second, .val (.long (own_G [qp3, qp4, qp5] (0 : Int32) (0 : Int32) (own_low w0))), .second, .val (.long (qp6 &&& (own_low w0))), .second, .val (.long (own_G [qp3, qp4, qp5] (own_wo1 w0 w1) (own_sh1 w0 w1) (own_low w1))), .second, .val (.long (own_G [qp3, qp4, qp5] (own_wo2 w0 w1 w2) (own_sh2 w0 w1 w2) (own_low w2))), .second, .val (.int (1 : Int32))] [(.int (0 : Int32)), (.ref b21)])) rfl rfl (hb hby at_264) _ (XS.lloadN X65.here hx rfl (hb hby at_265) rfl (XS.lcmp X65.here hx rfl (hb hby at_266) rfl k))) ?_
    show own_Go p.tables e below RR (T65.setTop (mkF m 267 #[.val (.int p1), .val (.int p2), .val (.long qp3), .second, .val (.long qp4), .second, .val (.long qp5), .second, .val (.long qp6), .second, .val (.ref b1), .val (.ref b15), .val (.ref b21), .val (.int (0 : Int32)), .val (.long (qp6 &&& (own_low w0))), .second, .val (.long (own_G [qp3, qp4, qp5] (0 : Int32) (0 : Int32) (own_low w0))), .second, .val (.long (own_G [qp3, qp4, qp5] (own_wo1 w0 w1) (own_sh1 w0 w1) (own_low w1))), .second, .val (.long (own_G [qp3, qp4, qp5] (own_wo2 w0 w1 w2) (own_sh2 w0 w1 w2) (own_low w2))), .second, .val (.long (own_G [qp3, qp4, qp5] (0 : Int32) (0 : Int32) (own_low w0))), .second, .val (.long (qp6 &&& (own_low w0))), .second, .val (.long (own_G [qp3, qp4, qp5] (own_wo1 w0 w1) (own_sh1 w0 w1) (own_low w1))), .second, .val (.long (own_G [qp3, qp4, qp5] (own_wo2 w0 w1 w2) (own_sh2 w0 w1 w2) (own_low w2))), .second, .val (.int (1 : Int32))] [(.int (lcmpW qp3 qp3))]))
    refine own_st (fun _ k => XS.ifNo X65.here hx rfl (hb hby at_267) rfl ((if0 _ _).trans (teq ((lw_eq _ _).mpr rfl)).2) (XS.aload X65.here hx rfl (hb hby at_270) rfl rfl (XS.iconst X65.here hx rfl (hb hby at_272) k))) ?_
    show own_Go p.tables e below RR (T65.setTop (mkF m 273 #[.val (.int p1), .val (.int p2), .val (.long qp3), .second, .val (.long qp4), .second, .val (.long qp5), .second, .val (.long qp6), .second, .val (.ref b1), .val (.ref b15), .val (.ref b21), .val (.int (0 : Int32)), .val (.long (qp6 &&& (own_low w0))), .second, .val (.long (own_G [qp3, qp4, qp5] (0 : Int32) (0 : Int32) (own_low w0))), .second, .val (.long (own_G [qp3, qp4, qp5] (own_wo1 w0 w1) (own_sh1 w0 w1) (own_low w1))), .second, .val (.long (own_G [qp3, qp4, qp5] (own_wo2 w0 w1 w2) (own_sh2 w0 w1 w2) (own_low w2))), .second, .val (.long (own_G [qp3, qp4, qp5] (0 : Int32) (0 : Int32) (own_low w0))), .second, .val (.long (qp6 &&& (own_low w0))), .second, .val (.long (own_G [qp3, qp4, qp5] (own_wo1 w0 w1) (own_sh1 w0 w1) (own_low w1))), .second, .val (.long (own_G [qp3, qp4, qp5] (own_wo2 w0 w1 w2) (own_sh2 w0 w1 w2) (own_low w2))), .second, .val (.int (1 : Int32))] [(.int (1 : Int32)), (.ref b21)]))
    obtain ⟨c68, A68, q68, s68, m68, H68, G68⟩ := id Vz65
    have b68 := inb_of (j := (1 : Int32)) s68 ⟨by decide, by decide⟩
    refine own_st (fun _ k => X65.laload hx (j := (1 : Int32)) (v := (.long qp4)) (by exact A68.1) (State.isArrayOf_alike hZ.alike A68.2.1) A68.2.2 b68 (Has.at H68 b68 rfl) (g := (mkF m 273 #[.val (.int p1), .val (.int p2), .val (.long qp3), .second, .val (.long qp4), .second, .val (.long qp5), .second, .val (.long qp6), .second, .val (.ref b1), .val (.ref b15), .val (.ref b21), .val (.int (0 : Int32)), .val (.long (qp6 &&& (own_low w0))), .second, .val (.long (own_G [qp3, qp4, qp5] (0 : Int32) (0 : Int32) (own_low w0))), .second, .val (.long (own_G [qp3, qp4, qp5] (own_wo1 w0 w1) (own_sh1 w0 w1) (own_low w1))), .second, .val (.long (own_G [qp3, qp4, qp5] (own_wo2 w0 w1 w2) (own_sh2 w0 w1 w2) (own_low w2))), .second, .val (.long (own_G [qp3, qp4, qp5] (0 : Int32) (0 : Int32) (own_low w0))), .second, .val (.long (qp6 &&& (own_low w0))), .second, .val (.long (own_G [qp3, qp4, qp5] (own_wo1 w0 w1) (own_sh1 w0 w1) (own_low w1))), .second, .val (.long (own_G [qp3, qp4, qp5] (own_wo2 w0 w1 w2) (own_sh2 w0 w1 w2) (own_low w2))), .second, .val (.int (1 : Int32))] [(.int (1 : Int32)), (.ref b21)])) rfl rfl (hb hby at_273) _ (XS.lload X65.here hx rfl (hb hby at_274) rfl (XS.lcmp X65.here hx rfl (hb hby at_276) rfl k))) ?_
    show own_Go p.tables e below RR (T65.setTop (mkF m 277 #[.val (.int p1), .val (.int p2), .val (.long qp3), .second, .val (.long qp4), .second, .val (.long qp5), .second, .val (.long qp6), .second, .val (.ref b1), .val (.ref b15), .val (.ref b21), .val (.int (0 : Int32)), .val (.long (qp6 &&& (own_low w0))), .second, .val (.long (own_G [qp3, qp4, qp5] (0 : Int32) (0 : Int32) (own_low w0))), .second, .val (.long (own_G [qp3, qp4, qp5] (own_wo1 w0 w1) (own_sh1 w0 w1) (own_low w1))), .second, .val (.long (own_G [qp3, qp4, qp5] (own_wo2 w0 w1 w2) (own_sh2 w0 w1 w2) (own_low w2))), .second, .val (.long (own_G [qp3, qp4, qp5] (0 : Int32) (0 : Int32) (own_low w0))), .second, .val (.long (qp6 &&& (own_low w0))), .second, .val (.long (own_G [qp3, qp4, qp5] (own_wo1 w0 w1) (own_sh1 w0 w1) (own_low w1))), .second, .val (.long (own_G [qp3, qp4, qp5] (own_wo2 w0 w1 w2) (own_sh2 w0 w1 w2) (own_low w2))), .second, .val (.int (1 : Int32))] [(.int (lcmpW qp4 qp4))]))
    refine own_st (fun _ k => XS.ifNo X65.here hx rfl (hb hby at_277) rfl ((if0 _ _).trans (teq ((lw_eq _ _).mpr rfl)).2) (XS.aload X65.here hx rfl (hb hby at_280) rfl rfl (XS.iconst X65.here hx rfl (hb hby at_282) k))) ?_
    show own_Go p.tables e below RR (T65.setTop (mkF m 283 #[.val (.int p1), .val (.int p2), .val (.long qp3), .second, .val (.long qp4), .second, .val (.long qp5), .second, .val (.long qp6), .second, .val (.ref b1), .val (.ref b15), .val (.ref b21), .val (.int (0 : Int32)), .val (.long (qp6 &&& (own_low w0))), .second, .val (.long (own_G [qp3, qp4, qp5] (0 : Int32) (0 : Int32) (own_low w0))), .second, .val (.long (own_G [qp3, qp4, qp5] (own_wo1 w0 w1) (own_sh1 w0 w1) (own_low w1))), .second, .val (.long (own_G [qp3, qp4, qp5] (own_wo2 w0 w1 w2) (own_sh2 w0 w1 w2) (own_low w2))), .second, .val (.long (own_G [qp3, qp4, qp5] (0 : Int32) (0 : Int32) (own_low w0))), .second, .val (.long (qp6 &&& (own_low w0))), .second, .val (.long (own_G [qp3, qp4, qp5] (own_wo1 w0 w1) (own_sh1 w0 w1) (own_low w1))), .second, .val (.long (own_G [qp3, qp4, qp5] (own_wo2 w0 w1 w2) (own_sh2 w0 w1 w2) (own_low w2))), .second, .val (.int (1 : Int32))] [(.int (2 : Int32)), (.ref b21)]))
    obtain ⟨c69, A69, q69, s69, m69, H69, G69⟩ := id Vz65
    have b69 := inb_of (j := (2 : Int32)) s69 ⟨by decide, by decide⟩
    refine own_st (fun _ k => X65.laload hx (j := (2 : Int32)) (v := (.long qp5)) (by exact A69.1) (State.isArrayOf_alike hZ.alike A69.2.1) A69.2.2 b69 (Has.at H69 b69 rfl) (g := (mkF m 283 #[.val (.int p1), .val (.int p2), .val (.long qp3), .second, .val (.long qp4), .second, .val (.long qp5), .second, .val (.long qp6), .second, .val (.ref b1), .val (.ref b15), .val (.ref b21), .val (.int (0 : Int32)), .val (.long (qp6 &&& (own_low w0))), .second, .val (.long (own_G [qp3, qp4, qp5] (0 : Int32) (0 : Int32) (own_low w0))), .second, .val (.long (own_G [qp3, qp4, qp5] (own_wo1 w0 w1) (own_sh1 w0 w1) (own_low w1))), .second, .val (.long (own_G [qp3, qp4, qp5] (own_wo2 w0 w1 w2) (own_sh2 w0 w1 w2) (own_low w2))), .second, .val (.long (own_G [qp3, qp4, qp5] (0 : Int32) (0 : Int32) (own_low w0))), .second, .val (.long (qp6 &&& (own_low w0))), .second, .val (.long (own_G [qp3, qp4, qp5] (own_wo1 w0 w1) (own_sh1 w0 w1) (own_low w1))), .second, .val (.long (own_G [qp3, qp4, qp5] (own_wo2 w0 w1 w2) (own_sh2 w0 w1 w2) (own_low w2))), .second, .val (.int (1 : Int32))] [(.int (2 : Int32)), (.ref b21)])) rfl rfl (hb hby at_283) _ (XS.lload X65.here hx rfl (hb hby at_284) rfl (XS.lcmp X65.here hx rfl (hb hby at_286) rfl k))) ?_
    show own_Go p.tables e below RR (T65.setTop (mkF m 287 #[.val (.int p1), .val (.int p2), .val (.long qp3), .second, .val (.long qp4), .second, .val (.long qp5), .second, .val (.long qp6), .second, .val (.ref b1), .val (.ref b15), .val (.ref b21), .val (.int (0 : Int32)), .val (.long (qp6 &&& (own_low w0))), .second, .val (.long (own_G [qp3, qp4, qp5] (0 : Int32) (0 : Int32) (own_low w0))), .second, .val (.long (own_G [qp3, qp4, qp5] (own_wo1 w0 w1) (own_sh1 w0 w1) (own_low w1))), .second, .val (.long (own_G [qp3, qp4, qp5] (own_wo2 w0 w1 w2) (own_sh2 w0 w1 w2) (own_low w2))), .second, .val (.long (own_G [qp3, qp4, qp5] (0 : Int32) (0 : Int32) (own_low w0))), .second, .val (.long (qp6 &&& (own_low w0))), .second, .val (.long (own_G [qp3, qp4, qp5] (own_wo1 w0 w1) (own_sh1 w0 w1) (own_low w1))), .second, .val (.long (own_G [qp3, qp4, qp5] (own_wo2 w0 w1 w2) (own_sh2 w0 w1 w2) (own_low w2))), .second, .val (.int (1 : Int32))] [(.int (lcmpW qp5 qp5))]))
    refine own_st (fun _ k => XS.ifNo X65.here hx rfl (hb hby at_287) rfl ((if0 _ _).trans (teq ((lw_eq _ _).mpr rfl)).2) (XS.iconst X65.here hx rfl (hb hby at_290) (XS.goto X65.here hx rfl (pc0 := 291) (pc' := 295) rfl (hb hby at_291) (by decide) (by decide) k))) ?_
    show own_Go p.tables e below RR (T65.setTop (mkF m 295 #[.val (.int p1), .val (.int p2), .val (.long qp3), .second, .val (.long qp4), .second, .val (.long qp5), .second, .val (.long qp6), .second, .val (.ref b1), .val (.ref b15), .val (.ref b21), .val (.int (0 : Int32)), .val (.long (qp6 &&& (own_low w0))), .second, .val (.long (own_G [qp3, qp4, qp5] (0 : Int32) (0 : Int32) (own_low w0))), .second, .val (.long (own_G [qp3, qp4, qp5] (own_wo1 w0 w1) (own_sh1 w0 w1) (own_low w1))), .second, .val (.long (own_G [qp3, qp4, qp5] (own_wo2 w0 w1 w2) (own_sh2 w0 w1 w2) (own_low w2))), .second, .val (.long (own_G [qp3, qp4, qp5] (0 : Int32) (0 : Int32) (own_low w0))), .second, .val (.long (qp6 &&& (own_low w0))), .second, .val (.long (own_G [qp3, qp4, qp5] (own_wo1 w0 w1) (own_sh1 w0 w1) (own_low w1))), .second, .val (.long (own_G [qp3, qp4, qp5] (own_wo2 w0 w1 w2) (own_sh2 w0 w1 w2) (own_low w2))), .second, .val (.int (1 : Int32))] [(.int (1 : Int32))]))
    obtain ⟨fs, hrt_, hrun, hended, hW, hsame⟩ := X65.leave (v := some (.int (1 : Int32))) (fun h => by rw [Bd.returns] at h; cases h)
    refine own_fin (retN X65 hx (t := .boolean) Bd.returns (by simp) (hb hby at_295) hrt_) (hRR _ ⟨_, hrun, hended, _, _, rfl, ?_, ⟨_, rfl⟩, hW, hsame.mono (by decide) (by decide)⟩)
    show own_Q0 Z p1 p2 qp3 qp4 qp5 qp6 h0 n0 _ T65.heap _
    exact ⟨rfl, N65⟩
  · show own_Go p.tables e below RR (T30.setTop (mkF m 76 #[.val (.int p1), .val (.int p2), .val (.long qp3), .second, .val (.long qp4), .second, .val (.long qp5), .second, .val (.long qp6), .second, .val (.ref b1), .val (.ref b15), .val (.ref b21), .val (.int (1 : Int32)), .unset, .unset, .unset, .unset, .unset, .unset, .unset, .unset, .unset, .unset, .unset, .unset, .unset, .unset, .unset, .unset, .unset] []))
    show own_Go p.tables e below RR (T30.setTop (mkF m 76 #[.val (.int p1), .val (.int p2), .val (.long qp3), .second, .val (.long qp4), .second, .val (.long qp5), .second, .val (.long qp6), .second, .val (.ref b1), .val (.ref b15), .val (.ref b21), .val (.int (1 : Int32)), .unset, .unset, .unset, .unset, .unset, .unset, .unset, .unset, .unset, .unset, .unset, .unset, .unset, .unset, .unset, .unset, .unset] []))
    refine own_st (fun _ k => XS.lload X30.here hx rfl (hb hby at_76) rfl (XS.aload X30.here hx rfl (hb hby at_78) rfl rfl (XS.iload X30.here hx rfl (hb hby at_80) rfl k))) ?_
    show own_Go p.tables e below RR (T30.setTop (mkF m 82 #[.val (.int p1), .val (.int p2), .val (.long qp3), .second, .val (.long qp4), .second, .val (.long qp5), .second, .val (.long qp6), .second, .val (.ref b1), .val (.ref b15), .val (.ref b21), .val (.int (1 : Int32)), .unset, .unset, .unset, .unset, .unset, .unset, .unset, .unset, .unset, .unset, .unset, .unset, .unset, .unset, .unset, .unset, .unset] [(.int (1 : Int32)), (.ref b1), (.long qp6)]))
    have ne70 : b1 ≠ b21 := (Nat.ne_of_lt (Nat.lt_of_lt_of_le (f17.keep Kq19 (ninS ne18 nin0)).lt (Nat.le_of_eq gb21.symm)))
    have f71 := (((((f17.keep Kq19 (ninS ne18 nin0)).ext E21).other W24 ne70).other W27 ne70).other W30 ne70)
    obtain ⟨c72, A72, q72, s72, m72, H72, G72⟩ := id f71
    have b72 := inb_of (j := (1 : Int32)) s72 ⟨by decide, by decide⟩
    refine own_st (fun _ k => X30.laload hx (j := (1 : Int32)) (v := (.long (own_low w1))) (by rw [e30]; exact A72.1) (State.isArrayOf_alike hZ.alike A72.2.1) A72.2.2 b72 (Has.at H72 b72 rfl) (g := (mkF m 82 #[.val (.int p1), .val (.int p2), .val (.long qp3), .second, .val (.long qp4), .second, .val (.long qp5), .second, .val (.long qp6), .second, .val (.ref b1), .val (.ref b15), .val (.ref b21), .val (.int (1 : Int32)), .unset, .unset, .unset, .unset, .unset, .unset, .unset, .unset, .unset, .unset, .unset, .unset, .unset, .unset, .unset, .unset, .unset] [(.int (1 : Int32)), (.ref b1), (.long qp6)])) rfl rfl (hb hby at_82) _ (XS.land X30.here hx rfl (hb hby at_83) rfl (XS.lstore X30.here hx rfl (hb hby at_84) rfl (l' := #[.val (.int p1), .val (.int p2), .val (.long qp3), .second, .val (.long qp4), .second, .val (.long qp5), .second, .val (.long qp6), .second, .val (.ref b1), .val (.ref b15), .val (.ref b21), .val (.int (1 : Int32)), .val (.long (qp6 &&& (own_low w1))), .second, .unset, .unset, .unset, .unset, .unset, .unset, .unset, .unset, .unset, .unset, .unset, .unset, .unset, .unset, .unset]) rfl k))) ?_
    show own_Go p.tables e below RR (T30.setTop (mkF m 86 #[.val (.int p1), .val (.int p2), .val (.long qp3), .second, .val (.long qp4), .second, .val (.long qp5), .second, .val (.long qp6), .second, .val (.ref b1), .val (.ref b15), .val (.ref b21), .val (.int (1 : Int32)), .val (.long (qp6 &&& (own_low w1))), .second, .unset, .unset, .unset, .unset, .unset, .unset, .unset, .unset, .unset, .unset, .unset, .unset, .unset, .unset, .unset] []))
    have lay := own_layout hw0 hw1 hw2
    have Vl : Arv Z h30 b21 k21 .long (3 : Int32) ([qp3, qp4, qp5].map Value.long) (.long (0 : Int64)) := V30
    show own_Go p.tables e below RR (T30.setTop (mkF m 86 #[.val (.int p1), .val (.int p2), .val (.long qp3), .second, .val (.long qp4), .second, .val (.long qp5), .second, .val (.long qp6), .second, .val (.ref b1), .val (.ref b15), .val (.ref b21), .val (.int (1 : Int32)), .val (.long (qp6 &&& (own_low w1))), .second, .unset, .unset, .unset, .unset, .unset, .unset, .unset, .unset, .unset, .unset, .unset, .unset, .unset, .unset, .unset] []))
    refine own_st (fun _ k => XS.aload X30.here hx rfl (hb hby at_86) rfl rfl (XS.aload X30.here hx rfl (hb hby at_88) rfl rfl (XS.iconst X30.here hx rfl (hb hby at_90) k))) ?_
    show own_Go p.tables e below RR (T30.setTop (mkF m 91 #[.val (.int p1), .val (.int p2), .val (.long qp3), .second, .val (.long qp4), .second, .val (.long qp5), .second, .val (.long qp6), .second, .val (.ref b1), .val (.ref b15), .val (.ref b21), .val (.int (1 : Int32)), .val (.long (qp6 &&& (own_low w1))), .second, .unset, .unset, .unset, .unset, .unset, .unset, .unset, .unset, .unset, .unset, .unset, .unset, .unset, .unset, .unset] [(.int (0 : Int32)), (.ref b21), (.ref b15)]))
    have ne73 : aw ≠ b21 := (Nat.ne_of_lt (Nat.lt_of_lt_of_le Vaw19.lt (Nat.le_of_eq gb21.symm)))
    have f74 := ((((Vaw19.ext E21).other W24 ne73).other W27 ne73).other W30 ne73)
    have ne75 : as_ ≠ b21 := (Nat.ne_of_lt (Nat.lt_of_lt_of_le Vas_19.lt (Nat.le_of_eq gb21.symm)))
    have f76 := ((((Vas_19.ext E21).other W24 ne75).other W27 ne75).other W30 ne75)
    have ne77 : am ≠ b21 := (Nat.ne_of_lt (Nat.lt_of_lt_of_le Vam19.lt (Nat.le_of_eq gb21.symm)))
    have f78 := ((((Vam19.ext E21).other W24 ne77).other W27 ne77).other W30 ne77)
    have ne79 : b15 ≠ b21 := (Nat.ne_of_lt (Nat.lt_of_lt_of_le Eq19.lt (Nat.le_of_eq gb21.symm)))
    have f80 := ((((Faw19.ext E21).other W24 (Or.inl ne79)).other W27 (Or.inl ne79)).other W30 (Or.inl ne79))
    have f81 := ((((Fas_19.ext E21).other W24 (Or.inl ne79)).other W27 (Or.inl ne79)).other W30 (Or.inl ne79))
    have f82 := ((((Fam19.ext E21).other W24 (Or.inl ne79)).other W27 (Or.inl ne79)).other W30 (Or.inl ne79))
    have f84 := ((((Eq19.ext E21).wr W24).wr W27).wr W30)
    obtain ⟨cq83, kq83, q83a, q83b, q83c⟩ := isOf hZ e30 f84
    obtain ⟨_, _, ⟨T83, L83, k83, n83⟩, -, X83, ⟨Lc83, hQ83, l83, y83, z83⟩, st83⟩ := X30.virtualBack hx (y := (⟨"com/example/nesiph/nesiph/MarkingSet", "tokens", "([JI)J"⟩ : MethodName)) (z := (⟨"com/example/nesiph/nesiph/MarkingSet", "tokens", "([JI)J"⟩ : MethodName)) hown (mvT hZ (hw _ (List.mem_of_getElem? (i := 61) rfl))) (mvT hZ (hw _ (List.mem_of_getElem? (i := 62) rfl))) (notFace_of_selects (args := #[]) (mvT hZ (hw _ (List.mem_of_getElem? (i := 64) rfl)))) (mvT hZ (hw _ (List.mem_of_getElem? (i := 64) rfl))) (mvT hZ (hw _ (List.mem_of_getElem? (i := 63) rfl))) (by decide) (backOf (W := 0) (own_rmTL0 l Z a0 hw [] b15 b21 k21 [qp3, qp4, qp5] aw as_ am kw ks km (0 : Int32) (own_wo1 w0 w1) (own_wo2 w0 w1 w2) (0 : Int32) (own_sh1 w0 w1) (own_sh2 w0 w1 w2) (own_low w0) (own_low w1) (own_low w2) h30 n0 z31 f80 f81 f82 Vl f74 f76 f78 rfl ⟨by decide, by decide⟩) hZ (hw _ (List.mem_of_getElem? (i := 65) rfl)) (hw _ (List.mem_of_getElem? (i := 8) rfl)) (by decide) (by decide)) q83a q83c (g := (mkF m 91 #[.val (.int p1), .val (.int p2), .val (.long qp3), .second, .val (.long qp4), .second, .val (.long qp5), .second, .val (.long qp6), .second, .val (.ref b1), .val (.ref b15), .val (.ref b21), .val (.int (1 : Int32)), .val (.long (qp6 &&& (own_low w1))), .second, .unset, .unset, .unset, .unset, .unset, .unset, .unset, .unset, .unset, .unset, .unset, .unset, .unset, .unset, .unset] [(.int (0 : Int32)), (.ref b21), (.ref b15)])) rfl (by rw [hml]; rfl) (Steps.refl _) (argsL := [(.ref b21), (.int (0 : Int32))]) (rest := []) (lenOf own_pd___JI_J rfl) rfl (by show 2 * 0 + _ ≤ _; exact Nat.le_of_eq rfl) (hb hby at_91) (fun _ _ => ⟨rfl, e30, (by decide : 9 + 0 ≤ _), (by decide : 43 + 0 ≤ _)⟩)
    dsimp only [Pt.U, Pt.locs, Pt.cells, Pt.slots] at X83 l83 y83 z83 st83 hQ83
    subst l83 y83 z83
    obtain ⟨rfl, Nq83, eq83⟩ := hQ83
    have N83 := Fr.app N30 Nq83
    refine own_st (fun _ k => st83.trans k) ?_
    show own_Go p.tables e below RR (T83.setTop (mkF m 94 #[.val (.int p1), .val (.int p2), .val (.long qp3), .second, .val (.long qp4), .second, .val (.long qp5), .second, .val (.long qp6), .second, .val (.ref b1), .val (.ref b15), .val (.ref b21), .val (.int (1 : Int32)), .val (.long (qp6 &&& (own_low w1))), .second, .unset, .unset, .unset, .unset, .unset, .unset, .unset, .unset, .unset, .unset, .unset, .unset, .unset, .unset, .unset] [(.long (own_G [qp3, qp4, qp5] (0 : Int32) (0 : Int32) (own_low w0)))]))
    refine own_st (fun _ k => XS.lstore X83.here hx rfl (hb hby at_94) rfl (l' := #[.val (.int p1), .val (.int p2), .val (.long qp3), .second, .val (.long qp4), .second, .val (.long qp5), .second, .val (.long qp6), .second, .val (.ref b1), .val (.ref b15), .val (.ref b21), .val (.int (1 : Int32)), .val (.long (qp6 &&& (own_low w1))), .second, .val (.long (own_G [qp3, qp4, qp5] (0 : Int32) (0 : Int32) (own_low w0))), .second, .unset, .unset, .unset, .unset, .unset, .unset, .unset, .unset, .unset, .unset, .unset, .unset, .unset]) rfl (XS.aload X83.here hx rfl (hb hby at_96) rfl rfl (XS.aload X83.here hx rfl (hb hby at_98) rfl rfl (XS.iconst X83.here hx rfl (hb hby at_100) k)))) ?_
    show own_Go p.tables e below RR (T83.setTop (mkF m 101 #[.val (.int p1), .val (.int p2), .val (.long qp3), .second, .val (.long qp4), .second, .val (.long qp5), .second, .val (.long qp6), .second, .val (.ref b1), .val (.ref b15), .val (.ref b21), .val (.int (1 : Int32)), .val (.long (qp6 &&& (own_low w1))), .second, .val (.long (own_G [qp3, qp4, qp5] (0 : Int32) (0 : Int32) (own_low w0))), .second, .unset, .unset, .unset, .unset, .unset, .unset, .unset, .unset, .unset, .unset, .unset, .unset, .unset] [(.int (1 : Int32)), (.ref b21), (.ref b15)]))
    obtain ⟨cq85, kq85, q85a, q85b, q85c⟩ := isOf hZ eq83 f84
    obtain ⟨_, _, ⟨T85, L85, k85, n85⟩, -, X85, ⟨Lc85, hQ85, l85, y85, z85⟩, st85⟩ := X83.virtualBack hx (y := (⟨"com/example/nesiph/nesiph/MarkingSet", "tokens", "([JI)J"⟩ : MethodName)) (z := (⟨"com/example/nesiph/nesiph/MarkingSet", "tokens", "([JI)J"⟩ : MethodName)) hown (mvT hZ (hw _ (List.mem_of_getElem? (i := 61) rfl))) (mvT hZ (hw _ (List.mem_of_getElem? (i := 62) rfl))) (notFace_of_selects (args := #[]) (mvT hZ (hw _ (List.mem_of_getElem? (i := 64) rfl)))) (mvT hZ (hw _ (List.mem_of_getElem? (i := 64) rfl))) (mvT hZ (hw _ (List.mem_of_getElem? (i := 63) rfl))) (by decide) (backOf (W := 0) (own_rmTL1 l Z a0 hw [] b15 b21 k21 [qp3, qp4, qp5] aw as_ am kw ks km (0 : Int32) (own_wo1 w0 w1) (own_wo2 w0 w1 w2) (0 : Int32) (own_sh1 w0 w1) (own_sh2 w0 w1 w2) (own_low w0) (own_low w1) (own_low w2) h30 n0 z31 f80 f81 f82 Vl f74 f76 f78 rfl lay.1) hZ (hw _ (List.mem_of_getElem? (i := 65) rfl)) (hw _ (List.mem_of_getElem? (i := 8) rfl)) (by decide) (by decide)) q85a q85c (g := (mkF m 101 #[.val (.int p1), .val (.int p2), .val (.long qp3), .second, .val (.long qp4), .second, .val (.long qp5), .second, .val (.long qp6), .second, .val (.ref b1), .val (.ref b15), .val (.ref b21), .val (.int (1 : Int32)), .val (.long (qp6 &&& (own_low w1))), .second, .val (.long (own_G [qp3, qp4, qp5] (0 : Int32) (0 : Int32) (own_low w0))), .second, .unset, .unset, .unset, .unset, .unset, .unset, .unset, .unset, .unset, .unset, .unset, .unset, .unset] [(.int (1 : Int32)), (.ref b21), (.ref b15)])) rfl (by rw [hml]; rfl) (Steps.refl _) (argsL := [(.ref b21), (.int (1 : Int32))]) (rest := []) (lenOf own_pd___JI_J rfl) rfl (by show 2 * 0 + _ ≤ _; exact Nat.le_of_eq rfl) (hb hby at_101) (fun _ _ => ⟨rfl, eq83, (by decide : 9 + 0 ≤ _), (by decide : 43 + 0 ≤ _)⟩)
    dsimp only [Pt.U, Pt.locs, Pt.cells, Pt.slots] at X85 l85 y85 z85 st85 hQ85
    subst l85 y85 z85
    obtain ⟨rfl, Nq85, eq85⟩ := hQ85
    have N85 := Fr.app N83 Nq85
    refine own_st (fun _ k => st85.trans k) ?_
    show own_Go p.tables e below RR (T85.setTop (mkF m 104 #[.val (.int p1), .val (.int p2), .val (.long qp3), .second, .val (.long qp4), .second, .val (.long qp5), .second, .val (.long qp6), .second, .val (.ref b1), .val (.ref b15), .val (.ref b21), .val (.int (1 : Int32)), .val (.long (qp6 &&& (own_low w1))), .second, .val (.long (own_G [qp3, qp4, qp5] (0 : Int32) (0 : Int32) (own_low w0))), .second, .unset, .unset, .unset, .unset, .unset, .unset, .unset, .unset, .unset, .unset, .unset, .unset, .unset] [(.long (own_G [qp3, qp4, qp5] (own_wo1 w0 w1) (own_sh1 w0 w1) (own_low w1)))]))
    refine own_st (fun _ k => XS.lstore X85.here hx rfl (hb hby at_104) rfl (l' := #[.val (.int p1), .val (.int p2), .val (.long qp3), .second, .val (.long qp4), .second, .val (.long qp5), .second, .val (.long qp6), .second, .val (.ref b1), .val (.ref b15), .val (.ref b21), .val (.int (1 : Int32)), .val (.long (qp6 &&& (own_low w1))), .second, .val (.long (own_G [qp3, qp4, qp5] (0 : Int32) (0 : Int32) (own_low w0))), .second, .val (.long (own_G [qp3, qp4, qp5] (own_wo1 w0 w1) (own_sh1 w0 w1) (own_low w1))), .second, .unset, .unset, .unset, .unset, .unset, .unset, .unset, .unset, .unset, .unset, .unset]) rfl (XS.aload X85.here hx rfl (hb hby at_106) rfl rfl (XS.aload X85.here hx rfl (hb hby at_108) rfl rfl (XS.iconst X85.here hx rfl (hb hby at_110) k)))) ?_
    show own_Go p.tables e below RR (T85.setTop (mkF m 111 #[.val (.int p1), .val (.int p2), .val (.long qp3), .second, .val (.long qp4), .second, .val (.long qp5), .second, .val (.long qp6), .second, .val (.ref b1), .val (.ref b15), .val (.ref b21), .val (.int (1 : Int32)), .val (.long (qp6 &&& (own_low w1))), .second, .val (.long (own_G [qp3, qp4, qp5] (0 : Int32) (0 : Int32) (own_low w0))), .second, .val (.long (own_G [qp3, qp4, qp5] (own_wo1 w0 w1) (own_sh1 w0 w1) (own_low w1))), .second, .unset, .unset, .unset, .unset, .unset, .unset, .unset, .unset, .unset, .unset, .unset] [(.int (2 : Int32)), (.ref b21), (.ref b15)]))
    obtain ⟨cq86, kq86, q86a, q86b, q86c⟩ := isOf hZ eq85 f84
    obtain ⟨_, _, ⟨T86, L86, k86, n86⟩, -, X86, ⟨Lc86, hQ86, l86, y86, z86⟩, st86⟩ := X85.virtualBack hx (y := (⟨"com/example/nesiph/nesiph/MarkingSet", "tokens", "([JI)J"⟩ : MethodName)) (z := (⟨"com/example/nesiph/nesiph/MarkingSet", "tokens", "([JI)J"⟩ : MethodName)) hown (mvT hZ (hw _ (List.mem_of_getElem? (i := 61) rfl))) (mvT hZ (hw _ (List.mem_of_getElem? (i := 62) rfl))) (notFace_of_selects (args := #[]) (mvT hZ (hw _ (List.mem_of_getElem? (i := 64) rfl)))) (mvT hZ (hw _ (List.mem_of_getElem? (i := 64) rfl))) (mvT hZ (hw _ (List.mem_of_getElem? (i := 63) rfl))) (by decide) (backOf (W := 0) (own_rmTL2 l Z a0 hw [] b15 b21 k21 [qp3, qp4, qp5] aw as_ am kw ks km (0 : Int32) (own_wo1 w0 w1) (own_wo2 w0 w1 w2) (0 : Int32) (own_sh1 w0 w1) (own_sh2 w0 w1 w2) (own_low w0) (own_low w1) (own_low w2) h30 n0 z31 f80 f81 f82 Vl f74 f76 f78 rfl lay.2.1) hZ (hw _ (List.mem_of_getElem? (i := 65) rfl)) (hw _ (List.mem_of_getElem? (i := 8) rfl)) (by decide) (by decide)) q86a q86c (g := (mkF m 111 #[.val (.int p1), .val (.int p2), .val (.long qp3), .second, .val (.long qp4), .second, .val (.long qp5), .second, .val (.long qp6), .second, .val (.ref b1), .val (.ref b15), .val (.ref b21), .val (.int (1 : Int32)), .val (.long (qp6 &&& (own_low w1))), .second, .val (.long (own_G [qp3, qp4, qp5] (0 : Int32) (0 : Int32) (own_low w0))), .second, .val (.long (own_G [qp3, qp4, qp5] (own_wo1 w0 w1) (own_sh1 w0 w1) (own_low w1))), .second, .unset, .unset, .unset, .unset, .unset, .unset, .unset, .unset, .unset, .unset, .unset] [(.int (2 : Int32)), (.ref b21), (.ref b15)])) rfl (by rw [hml]; rfl) (Steps.refl _) (argsL := [(.ref b21), (.int (2 : Int32))]) (rest := []) (lenOf own_pd___JI_J rfl) rfl (by show 2 * 0 + _ ≤ _; exact Nat.le_of_eq rfl) (hb hby at_111) (fun _ _ => ⟨rfl, eq85, (by decide : 9 + 0 ≤ _), (by decide : 43 + 0 ≤ _)⟩)
    dsimp only [Pt.U, Pt.locs, Pt.cells, Pt.slots] at X86 l86 y86 z86 st86 hQ86
    subst l86 y86 z86
    obtain ⟨rfl, Nq86, eq86⟩ := hQ86
    have N86 := Fr.app N85 Nq86
    refine own_st (fun _ k => st86.trans k) ?_
    show own_Go p.tables e below RR (T86.setTop (mkF m 114 #[.val (.int p1), .val (.int p2), .val (.long qp3), .second, .val (.long qp4), .second, .val (.long qp5), .second, .val (.long qp6), .second, .val (.ref b1), .val (.ref b15), .val (.ref b21), .val (.int (1 : Int32)), .val (.long (qp6 &&& (own_low w1))), .second, .val (.long (own_G [qp3, qp4, qp5] (0 : Int32) (0 : Int32) (own_low w0))), .second, .val (.long (own_G [qp3, qp4, qp5] (own_wo1 w0 w1) (own_sh1 w0 w1) (own_low w1))), .second, .unset, .unset, .unset, .unset, .unset, .unset, .unset, .unset, .unset, .unset, .unset] [(.long (own_G [qp3, qp4, qp5] (own_wo2 w0 w1 w2) (own_sh2 w0 w1 w2) (own_low w2)))]))
    refine own_st (fun _ k => XS.lstore X86.here hx rfl (hb hby at_114) rfl (l' := #[.val (.int p1), .val (.int p2), .val (.long qp3), .second, .val (.long qp4), .second, .val (.long qp5), .second, .val (.long qp6), .second, .val (.ref b1), .val (.ref b15), .val (.ref b21), .val (.int (1 : Int32)), .val (.long (qp6 &&& (own_low w1))), .second, .val (.long (own_G [qp3, qp4, qp5] (0 : Int32) (0 : Int32) (own_low w0))), .second, .val (.long (own_G [qp3, qp4, qp5] (own_wo1 w0 w1) (own_sh1 w0 w1) (own_low w1))), .second, .val (.long (own_G [qp3, qp4, qp5] (own_wo2 w0 w1 w2) (own_sh2 w0 w1 w2) (own_low w2))), .second, .unset, .unset, .unset, .unset, .unset, .unset, .unset, .unset, .unset]) rfl (XS.iload X86.here hx rfl (hb hby at_116) rfl k)) ?_
    show own_Go p.tables e below RR (T86.setTop (mkF m 118 #[.val (.int p1), .val (.int p2), .val (.long qp3), .second, .val (.long qp4), .second, .val (.long qp5), .second, .val (.long qp6), .second, .val (.ref b1), .val (.ref b15), .val (.ref b21), .val (.int (1 : Int32)), .val (.long (qp6 &&& (own_low w1))), .second, .val (.long (own_G [qp3, qp4, qp5] (0 : Int32) (0 : Int32) (own_low w0))), .second, .val (.long (own_G [qp3, qp4, qp5] (own_wo1 w0 w1) (own_sh1 w0 w1) (own_low w1))), .second, .val (.long (own_G [qp3, qp4, qp5] (own_wo2 w0 w1 w2) (own_sh2 w0 w1 w2) (own_low w2))), .second, .unset, .unset, .unset, .unset, .unset, .unset, .unset, .unset, .unset] [(.int (1 : Int32))]))
    refine own_st (fun _ k => XS.ifYes X86.here hx rfl (pc0 := 118) (pc' := 126) rfl (hb hby at_118) rfl ((if0 _ _).trans (feq (by decide)).2) (by decide) (by decide) (XS.iload X86.here hx rfl (hb hby at_126) rfl (XS.iconst X86.here hx rfl (hb hby at_128) k))) ?_
    show own_Go p.tables e below RR (T86.setTop (mkF m 129 #[.val (.int p1), .val (.int p2), .val (.long qp3), .second, .val (.long qp4), .second, .val (.long qp5), .second, .val (.long qp6), .second, .val (.ref b1), .val (.ref b15), .val (.ref b21), .val (.int (1 : Int32)), .val (.long (qp6 &&& (own_low w1))), .second, .val (.long (own_G [qp3, qp4, qp5] (0 : Int32) (0 : Int32) (own_low w0))), .second, .val (.long (own_G [qp3, qp4, qp5] (own_wo1 w0 w1) (own_sh1 w0 w1) (own_low w1))), .second, .val (.long (own_G [qp3, qp4, qp5] (own_wo2 w0 w1 w2) (own_sh2 w0 w1 w2) (own_low w2))), .second, .unset, .unset, .unset, .unset, .unset, .unset, .unset, .unset, .unset] [(.int (1 : Int32)), (.int (1 : Int32))]))
    refine own_st (fun _ k => XS.icmpNo X86.here hx rfl (hb hby at_129) rfl (teq (by decide)).2 (XS.lload X86.here hx rfl (hb hby at_132) rfl (XS.goto X86.here hx rfl (pc0 := 134) (pc' := 139) rfl (hb hby at_134) (by decide) (by decide) (XS.lstore X86.here hx rfl (hb hby at_139) rfl (l' := #[.val (.int p1), .val (.int p2), .val (.long qp3), .second, .val (.long qp4), .second, .val (.long qp5), .second, .val (.long qp6), .second, .val (.ref b1), .val (.ref b15), .val (.ref b21), .val (.int (1 : Int32)), .val (.long (qp6 &&& (own_low w1))), .second, .val (.long (own_G [qp3, qp4, qp5] (0 : Int32) (0 : Int32) (own_low w0))), .second, .val (.long (own_G [qp3, qp4, qp5] (own_wo1 w0 w1) (own_sh1 w0 w1) (own_low w1))), .second, .val (.long (own_G [qp3, qp4, qp5] (own_wo2 w0 w1 w2) (own_sh2 w0 w1 w2) (own_low w2))), .second, .val (.long (own_G [qp3, qp4, qp5] (own_wo1 w0 w1) (own_sh1 w0 w1) (own_low w1))), .second, .unset, .unset, .unset, .unset, .unset, .unset, .unset]) rfl (XS.aload X86.here hx rfl (hb hby at_141) rfl rfl (XS.aload X86.here hx rfl (hb hby at_143) rfl rfl (XS.iload X86.here hx rfl (hb hby at_145) rfl (XS.lload X86.here hx rfl (hb hby at_147) rfl k)))))))) ?_
    show own_Go p.tables e below RR (T86.setTop (mkF m 149 #[.val (.int p1), .val (.int p2), .val (.long qp3), .second, .val (.long qp4), .second, .val (.long qp5), .second, .val (.long qp6), .second, .val (.ref b1), .val (.ref b15), .val (.ref b21), .val (.int (1 : Int32)), .val (.long (qp6 &&& (own_low w1))), .second, .val (.long (own_G [qp3, qp4, qp5] (0 : Int32) (0 : Int32) (own_low w0))), .second, .val (.long (own_G [qp3, qp4, qp5] (own_wo1 w0 w1) (own_sh1 w0 w1) (own_low w1))), .second, .val (.long (own_G [qp3, qp4, qp5] (own_wo2 w0 w1 w2) (own_sh2 w0 w1 w2) (own_low w2))), .second, .val (.long (own_G [qp3, qp4, qp5] (own_wo1 w0 w1) (own_sh1 w0 w1) (own_low w1))), .second, .unset, .unset, .unset, .unset, .unset, .unset, .unset] [(.long (qp6 &&& (own_low w1))), (.int (1 : Int32)), (.ref b21), (.ref b15)]))
    obtain ⟨cq87, kq87, q87a, q87b, q87c⟩ := isOf hZ eq86 f84
    obtain ⟨_, _, ⟨T87, L87, k87, n87⟩, -, X87, ⟨Lc87, hQ87, l87, y87, z87⟩, st87⟩ := X86.virtualBack hx (y := (⟨"com/example/nesiph/nesiph/MarkingSet", "setTokens", "([JIJ)V"⟩ : MethodName)) (z := (⟨"com/example/nesiph/nesiph/MarkingSet", "setTokens", "([JIJ)V"⟩ : MethodName)) hown (mvT hZ (hw _ (List.mem_of_getElem? (i := 66) rfl))) (mvT hZ (hw _ (List.mem_of_getElem? (i := 67) rfl))) (notFace_of_selects (args := #[]) (mvT hZ (hw _ (List.mem_of_getElem? (i := 69) rfl)))) (mvT hZ (hw _ (List.mem_of_getElem? (i := 69) rfl))) (mvT hZ (hw _ (List.mem_of_getElem? (i := 68) rfl))) (by decide) (backOf (W := 0) (own_rmSL1 l Z a0 hw [] b15 b21 k21 [qp3, qp4, qp5] aw as_ am kw ks km (0 : Int32) (own_wo1 w0 w1) (own_wo2 w0 w1 w2) (0 : Int32) (own_sh1 w0 w1) (own_sh2 w0 w1 w2) (own_low w0) (own_low w1) (own_low w2) (qp6 &&& (own_low w1)) h30 n0 z31 f80 f81 f82 Vl f74 f76 f78 rfl lay.1 ge21) hZ (hw _ (List.mem_of_getElem? (i := 70) rfl)) (hw _ (List.mem_of_getElem? (i := 8) rfl)) (by decide) (by decide)) q87a q87c (g := (mkF m 149 #[.val (.int p1), .val (.int p2), .val (.long qp3), .second, .val (.long qp4), .second, .val (.long qp5), .second, .val (.long qp6), .second, .val (.ref b1), .val (.ref b15), .val (.ref b21), .val (.int (1 : Int32)), .val (.long (qp6 &&& (own_low w1))), .second, .val (.long (own_G [qp3, qp4, qp5] (0 : Int32) (0 : Int32) (own_low w0))), .second, .val (.long (own_G [qp3, qp4, qp5] (own_wo1 w0 w1) (own_sh1 w0 w1) (own_low w1))), .second, .val (.long (own_G [qp3, qp4, qp5] (own_wo2 w0 w1 w2) (own_sh2 w0 w1 w2) (own_low w2))), .second, .val (.long (own_G [qp3, qp4, qp5] (own_wo1 w0 w1) (own_sh1 w0 w1) (own_low w1))), .second, .unset, .unset, .unset, .unset, .unset, .unset, .unset] [(.long (qp6 &&& (own_low w1))), (.int (1 : Int32)), (.ref b21), (.ref b15)])) rfl (by rw [hml]; rfl) (Steps.refl _) (argsL := [(.ref b21), (.int (1 : Int32)), (.long (qp6 &&& (own_low w1)))]) (rest := []) (lenOf own_pd___JIJ_V rfl) rfl (by show 2 * 0 + _ ≤ _; exact Nat.le_of_eq rfl) (hb hby at_149) (fun _ _ => ⟨rfl, eq86, (by decide : 9 + 0 ≤ _), (by decide : 43 + 0 ≤ _)⟩)
    dsimp only [Pt.U, Pt.locs, Pt.cells, Pt.slots] at X87 l87 y87 z87 st87 hQ87
    subst l87 y87 z87
    obtain ⟨rfl, Nq87, Kq87, Vq87⟩ := hQ87
    have N87 := Fr.app N86 Nq87
    refine own_st (fun _ k => st87.trans k) ?_
    have z88 : n0 ≤ T87.heap.size := Nat.le_trans z31 Kq87.1
    show own_Go p.tables e below RR (T87.setTop (mkF m 152 #[.val (.int p1), .val (.int p2), .val (.long qp3), .second, .val (.long qp4), .second, .val (.long qp5), .second, .val (.long qp6), .second, .val (.ref b1), .val (.ref b15), .val (.ref b21), .val (.int (1 : Int32)), .val (.long (qp6 &&& (own_low w1))), .second, .val (.long (own_G [qp3, qp4, qp5] (0 : Int32) (0 : Int32) (own_low w0))), .second, .val (.long (own_G [qp3, qp4, qp5] (own_wo1 w0 w1) (own_sh1 w0 w1) (own_low w1))), .second, .val (.long (own_G [qp3, qp4, qp5] (own_wo2 w0 w1 w2) (own_sh2 w0 w1 w2) (own_low w2))), .second, .val (.long (own_G [qp3, qp4, qp5] (own_wo1 w0 w1) (own_sh1 w0 w1) (own_low w1))), .second, .unset, .unset, .unset, .unset, .unset, .unset, .unset] []))
    refine own_st (fun _ k => XS.iload X87.here hx rfl (hb hby at_152) rfl k) ?_
    show own_Go p.tables e below RR (T87.setTop (mkF m 154 #[.val (.int p1), .val (.int p2), .val (.long qp3), .second, .val (.long qp4), .second, .val (.long qp5), .second, .val (.long qp6), .second, .val (.ref b1), .val (.ref b15), .val (.ref b21), .val (.int (1 : Int32)), .val (.long (qp6 &&& (own_low w1))), .second, .val (.long (own_G [qp3, qp4, qp5] (0 : Int32) (0 : Int32) (own_low w0))), .second, .val (.long (own_G [qp3, qp4, qp5] (own_wo1 w0 w1) (own_sh1 w0 w1) (own_low w1))), .second, .val (.long (own_G [qp3, qp4, qp5] (own_wo2 w0 w1 w2) (own_sh2 w0 w1 w2) (own_low w2))), .second, .val (.long (own_G [qp3, qp4, qp5] (own_wo1 w0 w1) (own_sh1 w0 w1) (own_low w1))), .second, .unset, .unset, .unset, .unset, .unset, .unset, .unset] [(.int (1 : Int32))]))
    refine own_st (fun _ k => XS.ifYes X87.here hx rfl (pc0 := 154) (pc' := 162) rfl (hb hby at_154) rfl ((if0 _ _).trans (feq (by decide)).2) (by decide) (by decide) (XS.lload X87.here hx rfl (hb hby at_162) rfl (XS.lstore X87.here hx rfl (hb hby at_164) rfl (l' := #[.val (.int p1), .val (.int p2), .val (.long qp3), .second, .val (.long qp4), .second, .val (.long qp5), .second, .val (.long qp6), .second, .val (.ref b1), .val (.ref b15), .val (.ref b21), .val (.int (1 : Int32)), .val (.long (qp6 &&& (own_low w1))), .second, .val (.long (own_G [qp3, qp4, qp5] (0 : Int32) (0 : Int32) (own_low w0))), .second, .val (.long (own_G [qp3, qp4, qp5] (own_wo1 w0 w1) (own_sh1 w0 w1) (own_low w1))), .second, .val (.long (own_G [qp3, qp4, qp5] (own_wo2 w0 w1 w2) (own_sh2 w0 w1 w2) (own_low w2))), .second, .val (.long (own_G [qp3, qp4, qp5] (own_wo1 w0 w1) (own_sh1 w0 w1) (own_low w1))), .second, .val (.long (own_G [qp3, qp4, qp5] (0 : Int32) (0 : Int32) (own_low w0))), .second, .unset, .unset, .unset, .unset, .unset]) rfl (XS.iload X87.here hx rfl (hb hby at_166) rfl (XS.iconst X87.here hx rfl (hb hby at_168) k))))) ?_
    show own_Go p.tables e below RR (T87.setTop (mkF m 169 #[.val (.int p1), .val (.int p2), .val (.long qp3), .second, .val (.long qp4), .second, .val (.long qp5), .second, .val (.long qp6), .second, .val (.ref b1), .val (.ref b15), .val (.ref b21), .val (.int (1 : Int32)), .val (.long (qp6 &&& (own_low w1))), .second, .val (.long (own_G [qp3, qp4, qp5] (0 : Int32) (0 : Int32) (own_low w0))), .second, .val (.long (own_G [qp3, qp4, qp5] (own_wo1 w0 w1) (own_sh1 w0 w1) (own_low w1))), .second, .val (.long (own_G [qp3, qp4, qp5] (own_wo2 w0 w1 w2) (own_sh2 w0 w1 w2) (own_low w2))), .second, .val (.long (own_G [qp3, qp4, qp5] (own_wo1 w0 w1) (own_sh1 w0 w1) (own_low w1))), .second, .val (.long (own_G [qp3, qp4, qp5] (0 : Int32) (0 : Int32) (own_low w0))), .second, .unset, .unset, .unset, .unset, .unset] [(.int (1 : Int32)), (.int (1 : Int32))]))
    refine own_st (fun _ k => XS.icmpNo X87.here hx rfl (hb hby at_169) rfl (teq (by decide)).2 (XS.lload X87.here hx rfl (hb hby at_172) rfl (XS.goto X87.here hx rfl (pc0 := 174) (pc' := 179) rfl (hb hby at_174) (by decide) (by decide) (XS.lstore X87.here hx rfl (hb hby at_179) rfl (l' := #[.val (.int p1), .val (.int p2), .val (.long qp3), .second, .val (.long qp4), .second, .val (.long qp5), .second, .val (.long qp6), .second, .val (.ref b1), .val (.ref b15), .val (.ref b21), .val (.int (1 : Int32)), .val (.long (qp6 &&& (own_low w1))), .second, .val (.long (own_G [qp3, qp4, qp5] (0 : Int32) (0 : Int32) (own_low w0))), .second, .val (.long (own_G [qp3, qp4, qp5] (own_wo1 w0 w1) (own_sh1 w0 w1) (own_low w1))), .second, .val (.long (own_G [qp3, qp4, qp5] (own_wo2 w0 w1 w2) (own_sh2 w0 w1 w2) (own_low w2))), .second, .val (.long (own_G [qp3, qp4, qp5] (own_wo1 w0 w1) (own_sh1 w0 w1) (own_low w1))), .second, .val (.long (own_G [qp3, qp4, qp5] (0 : Int32) (0 : Int32) (own_low w0))), .second, .val (.long (qp6 &&& (own_low w1))), .second, .unset, .unset, .unset]) rfl (XS.iload X87.here hx rfl (hb hby at_181) rfl (XS.iconst X87.here hx rfl (hb hby at_183) k)))))) ?_
    show own_Go p.tables e below RR (T87.setTop (mkF m 184 #[.val (.int p1), .val (.int p2), .val (.long qp3), .second, .val (.long qp4), .second, .val (.long qp5), .second, .val (.long qp6), .second, .val (.ref b1), .val (.ref b15), .val (.ref b21), .val (.int (1 : Int32)), .val (.long (qp6 &&& (own_low w1))), .second, .val (.long (own_G [qp3, qp4, qp5] (0 : Int32) (0 : Int32) (own_low w0))), .second, .val (.long (own_G [qp3, qp4, qp5] (own_wo1 w0 w1) (own_sh1 w0 w1) (own_low w1))), .second, .val (.long (own_G [qp3, qp4, qp5] (own_wo2 w0 w1 w2) (own_sh2 w0 w1 w2) (own_low w2))), .second, .val (.long (own_G [qp3, qp4, qp5] (own_wo1 w0 w1) (own_sh1 w0 w1) (own_low w1))), .second, .val (.long (own_G [qp3, qp4, qp5] (0 : Int32) (0 : Int32) (own_low w0))), .second, .val (.long (qp6 &&& (own_low w1))), .second, .unset, .unset, .unset] [(.int (2 : Int32)), (.int (1 : Int32))]))
    refine own_st (fun _ k => XS.icmpYes X87.here hx rfl (pc0 := 184) (pc' := 192) rfl (hb hby at_184) rfl (feq (by decide)).2 (by decide) (by decide) (XS.lload X87.here hx rfl (hb hby at_192) rfl (XS.lstore X87.here hx rfl (hb hby at_194) rfl (l' := #[.val (.int p1), .val (.int p2), .val (.long qp3), .second, .val (.long qp4), .second, .val (.long qp5), .second, .val (.long qp6), .second, .val (.ref b1), .val (.ref b15), .val (.ref b21), .val (.int (1 : Int32)), .val (.long (qp6 &&& (own_low w1))), .second, .val (.long (own_G [qp3, qp4, qp5] (0 : Int32) (0 : Int32) (own_low w0))), .second, .val (.long (own_G [qp3, qp4, qp5] (own_wo1 w0 w1) (own_sh1 w0 w1) (own_low w1))), .second, .val (.long (own_G [qp3, qp4, qp5] (own_wo2 w0 w1 w2) (own_sh2 w0 w1 w2) (own_low w2))), .second, .val (.long (own_G [qp3, qp4, qp5] (own_wo1 w0 w1) (own_sh1 w0 w1) (own_low w1))), .second, .val (.long (own_G [qp3, qp4, qp5] (0 : Int32) (0 : Int32) (own_low w0))), .second, .val (.long (qp6 &&& (own_low w1))), .second, .val (.long (own_G [qp3, qp4, qp5] (own_wo2 w0 w1 w2) (own_sh2 w0 w1 w2) (own_low w2))), .second, .unset]) rfl (XS.aload X87.here hx rfl (hb hby at_196) rfl rfl (XS.aload X87.here hx rfl (hb hby at_198) rfl rfl (XS.iconst X87.here hx rfl (hb hby at_200) k)))))) ?_
    show own_Go p.tables e below RR (T87.setTop (mkF m 201 #[.val (.int p1), .val (.int p2), .val (.long qp3), .second, .val (.long qp4), .second, .val (.long qp5), .second, .val (.long qp6), .second, .val (.ref b1), .val (.ref b15), .val (.ref b21), .val (.int (1 : Int32)), .val (.long (qp6 &&& (own_low w1))), .second, .val (.long (own_G [qp3, qp4, qp5] (0 : Int32) (0 : Int32) (own_low w0))), .second, .val (.long (own_G [qp3, qp4, qp5] (own_wo1 w0 w1) (own_sh1 w0 w1) (own_low w1))), .second, .val (.long (own_G [qp3, qp4, qp5] (own_wo2 w0 w1 w2) (own_sh2 w0 w1 w2) (own_low w2))), .second, .val (.long (own_G [qp3, qp4, qp5] (own_wo1 w0 w1) (own_sh1 w0 w1) (own_low w1))), .second, .val (.long (own_G [qp3, qp4, qp5] (0 : Int32) (0 : Int32) (own_low w0))), .second, .val (.long (qp6 &&& (own_low w1))), .second, .val (.long (own_G [qp3, qp4, qp5] (own_wo2 w0 w1 w2) (own_sh2 w0 w1 w2) (own_low w2))), .second, .unset] [(.int (0 : Int32)), (.ref b21), (.ref b15)]))
    have f89 := (f74.keep Kq87 (ninS ne73 nin0))
    have f90 := (f76.keep Kq87 (ninS ne75 nin0))
    have f91 := (f78.keep Kq87 (ninS ne77 nin0))
    have f92 := (f80.keep Kq87 (ninS ne79 nin0))
    have f93 := (f81.keep Kq87 (ninS ne79 nin0))
    have f94 := (f82.keep Kq87 (ninS ne79 nin0))
    have f96 := (f84.keep Kq87)
    obtain ⟨cq95, kq95, q95a, q95b, q95c⟩ := isOf hZ rfl f96
    obtain ⟨_, _, ⟨T95, L95, k95, n95⟩, -, X95, ⟨Lc95, hQ95, l95, y95, z95⟩, st95⟩ := X87.virtualBack hx (y := (⟨"com/example/nesiph/nesiph/MarkingSet", "tokens", "([JI)J"⟩ : MethodName)) (z := (⟨"com/example/nesiph/nesiph/MarkingSet", "tokens", "([JI)J"⟩ : MethodName)) hown (mvT hZ (hw _ (List.mem_of_getElem? (i := 61) rfl))) (mvT hZ (hw _ (List.mem_of_getElem? (i := 62) rfl))) (notFace_of_selects (args := #[]) (mvT hZ (hw _ (List.mem_of_getElem? (i := 64) rfl)))) (mvT hZ (hw _ (List.mem_of_getElem? (i := 64) rfl))) (mvT hZ (hw _ (List.mem_of_getElem? (i := 63) rfl))) (by decide) (backOf (W := 0) (own_rmTL0 l Z a0 hw [] b15 b21 k21 (own_P [qp3, qp4, qp5] (own_wo1 w0 w1) (own_sh1 w0 w1) (own_low w1) (qp6 &&& (own_low w1))) aw as_ am kw ks km (0 : Int32) (own_wo1 w0 w1) (own_wo2 w0 w1 w2) (0 : Int32) (own_sh1 w0 w1) (own_sh2 w0 w1 w2) (own_low w0) (own_low w1) (own_low w2) T87.heap n0 z88 f92 f93 f94 Vq87 f89 f90 f91 (own_P_len rfl) ⟨by decide, by decide⟩) hZ (hw _ (List.mem_of_getElem? (i := 65) rfl)) (hw _ (List.mem_of_getElem? (i := 8) rfl)) (by decide) (by decide)) q95a q95c (g := (mkF m 201 #[.val (.int p1), .val (.int p2), .val (.long qp3), .second, .val (.long qp4), .second, .val (.long qp5), .second, .val (.long qp6), .second, .val (.ref b1), .val (.ref b15), .val (.ref b21), .val (.int (1 : Int32)), .val (.long (qp6 &&& (own_low w1))), .second, .val (.long (own_G [qp3, qp4, qp5] (0 : Int32) (0 : Int32) (own_low w0))), .second, .val (.long (own_G [qp3, qp4, qp5] (own_wo1 w0 w1) (own_sh1 w0 w1) (own_low w1))), .second, .val (.long (own_G [qp3, qp4, qp5] (own_wo2 w0 w1 w2) (own_sh2 w0 w1 w2) (own_low w2))), .second, .val (.long (own_G [qp3, qp4, qp5] (own_wo1 w0 w1) (own_sh1 w0 w1) (own_low w1))), .second, .val (.long (own_G [qp3, qp4, qp5] (0 : Int32) (0 : Int32) (own_low w0))), .second, .val (.long (qp6 &&& (own_low w1))), .second, .val (.long (own_G [qp3, qp4, qp5] (own_wo2 w0 w1 w2) (own_sh2 w0 w1 w2) (own_low w2))), .second, .unset] [(.int (0 : Int32)), (.ref b21), (.ref b15)])) rfl (by rw [hml]; rfl) (Steps.refl _) (argsL := [(.ref b21), (.int (0 : Int32))]) (rest := []) (lenOf own_pd___JI_J rfl) rfl (by show 2 * 0 + _ ≤ _; exact Nat.le_of_eq rfl) (hb hby at_201) (fun _ _ => ⟨rfl, rfl, (by decide : 9 + 0 ≤ _), (by decide : 43 + 0 ≤ _)⟩)
    dsimp only [Pt.U, Pt.locs, Pt.cells, Pt.slots] at X95 l95 y95 z95 st95 hQ95
    subst l95 y95 z95
    obtain ⟨rfl, Nq95, eq95⟩ := hQ95
    have N95 := Fr.app N87 Nq95
    refine own_st (fun _ k => st95.trans k) ?_
    show own_Go p.tables e below RR (T95.setTop (mkF m 204 #[.val (.int p1), .val (.int p2), .val (.long qp3), .second, .val (.long qp4), .second, .val (.long qp5), .second, .val (.long qp6), .second, .val (.ref b1), .val (.ref b15), .val (.ref b21), .val (.int (1 : Int32)), .val (.long (qp6 &&& (own_low w1))), .second, .val (.long (own_G [qp3, qp4, qp5] (0 : Int32) (0 : Int32) (own_low w0))), .second, .val (.long (own_G [qp3, qp4, qp5] (own_wo1 w0 w1) (own_sh1 w0 w1) (own_low w1))), .second, .val (.long (own_G [qp3, qp4, qp5] (own_wo2 w0 w1 w2) (own_sh2 w0 w1 w2) (own_low w2))), .second, .val (.long (own_G [qp3, qp4, qp5] (own_wo1 w0 w1) (own_sh1 w0 w1) (own_low w1))), .second, .val (.long (own_G [qp3, qp4, qp5] (0 : Int32) (0 : Int32) (own_low w0))), .second, .val (.long (qp6 &&& (own_low w1))), .second, .val (.long (own_G [qp3, qp4, qp5] (own_wo2 w0 w1 w2) (own_sh2 w0 w1 w2) (own_low w2))), .second, .unset] [(.long (own_G (own_P [qp3, qp4, qp5] (own_wo1 w0 w1) (own_sh1 w0 w1) (own_low w1) (qp6 &&& (own_low w1))) (0 : Int32) (0 : Int32) (own_low w0)))]))
    refine own_st (fun _ k => XS.lload X95.here hx rfl (hb hby at_204) rfl (XS.lcmp X95.here hx rfl (hb hby at_206) rfl k)) ?_
    show own_Go p.tables e below RR (T95.setTop (mkF m 207 #[.val (.int p1), .val (.int p2), .val (.long qp3), .second, .val (.long qp4), .second, .val (.long qp5), .second, .val (.long qp6), .second, .val (.ref b1), .val (.ref b15), .val (.ref b21), .val (.int (1 : Int32)), .val (.long (qp6 &&& (own_low w1))), .second, .val (.long (own_G [qp3, qp4, qp5] (0 : Int32) (0 : Int32) (own_low w0))), .second, .val (.long (own_G [qp3, qp4, qp5] (own_wo1 w0 w1) (own_sh1 w0 w1) (own_low w1))), .second, .val (.long (own_G [qp3, qp4, qp5] (own_wo2 w0 w1 w2) (own_sh2 w0 w1 w2) (own_low w2))), .second, .val (.long (own_G [qp3, qp4, qp5] (own_wo1 w0 w1) (own_sh1 w0 w1) (own_low w1))), .second, .val (.long (own_G [qp3, qp4, qp5] (0 : Int32) (0 : Int32) (own_low w0))), .second, .val (.long (qp6 &&& (own_low w1))), .second, .val (.long (own_G [qp3, qp4, qp5] (own_wo2 w0 w1 w2) (own_sh2 w0 w1 w2) (own_low w2))), .second, .unset] [(.int (lcmpW (own_G (own_P [qp3, qp4, qp5] (own_wo1 w0 w1) (own_sh1 w0 w1) (own_low w1) (qp6 &&& (own_low w1))) (0 : Int32) (0 : Int32) (own_low w0)) (own_G [qp3, qp4, qp5] (0 : Int32) (0 : Int32) (own_low w0))))]))
    have hc207_97 : (own_G (own_P [qp3, qp4, qp5] (own_wo1 w0 w1) (own_sh1 w0 w1) (own_low w1) (qp6 &&& (own_low w1))) (0 : Int32) (0 : Int32) (own_low w0)) = (own_G [qp3, qp4, qp5] (0 : Int32) (0 : Int32) (own_low w0)) := own_B (X := [qp3, qp4, qp5]) rfl lay.1 lay.2.2.1.1 hw1 lay.2.2.1.2 (own_and_fit hw1) ⟨by decide, by decide⟩ (by decide) hw0 (by have e : (0 : Int32).toInt = 0 := (by decide); omega) (own_D.symm lay.2.2.2.2.1)
    refine own_st (fun _ k => XS.ifNo X95.here hx rfl (hb hby at_207) rfl ((if0 _ _).trans (teq ((lw_eq _ _).mpr hc207_97)).2) (XS.aload X95.here hx rfl (hb hby at_210) rfl rfl (XS.aload X95.here hx rfl (hb hby at_212) rfl rfl (XS.iconst X95.here hx rfl (hb hby at_214) k)))) ?_
    show own_Go p.tables e below RR (T95.setTop (mkF m 215 #[.val (.int p1), .val (.int p2), .val (.long qp3), .second, .val (.long qp4), .second, .val (.long qp5), .second, .val (.long qp6), .second, .val (.ref b1), .val (.ref b15), .val (.ref b21), .val (.int (1 : Int32)), .val (.long (qp6 &&& (own_low w1))), .second, .val (.long (own_G [qp3, qp4, qp5] (0 : Int32) (0 : Int32) (own_low w0))), .second, .val (.long (own_G [qp3, qp4, qp5] (own_wo1 w0 w1) (own_sh1 w0 w1) (own_low w1))), .second, .val (.long (own_G [qp3, qp4, qp5] (own_wo2 w0 w1 w2) (own_sh2 w0 w1 w2) (own_low w2))), .second, .val (.long (own_G [qp3, qp4, qp5] (own_wo1 w0 w1) (own_sh1 w0 w1) (own_low w1))), .second, .val (.long (own_G [qp3, qp4, qp5] (0 : Int32) (0 : Int32) (own_low w0))), .second, .val (.long (qp6 &&& (own_low w1))), .second, .val (.long (own_G [qp3, qp4, qp5] (own_wo2 w0 w1 w2) (own_sh2 w0 w1 w2) (own_low w2))), .second, .unset] [(.int (1 : Int32)), (.ref b21), (.ref b15)]))
    obtain ⟨cq98, kq98, q98a, q98b, q98c⟩ := isOf hZ eq95 f96
    obtain ⟨_, _, ⟨T98, L98, k98, n98⟩, -, X98, ⟨Lc98, hQ98, l98, y98, z98⟩, st98⟩ := X95.virtualBack hx (y := (⟨"com/example/nesiph/nesiph/MarkingSet", "tokens", "([JI)J"⟩ : MethodName)) (z := (⟨"com/example/nesiph/nesiph/MarkingSet", "tokens", "([JI)J"⟩ : MethodName)) hown (mvT hZ (hw _ (List.mem_of_getElem? (i := 61) rfl))) (mvT hZ (hw _ (List.mem_of_getElem? (i := 62) rfl))) (notFace_of_selects (args := #[]) (mvT hZ (hw _ (List.mem_of_getElem? (i := 64) rfl)))) (mvT hZ (hw _ (List.mem_of_getElem? (i := 64) rfl))) (mvT hZ (hw _ (List.mem_of_getElem? (i := 63) rfl))) (by decide) (backOf (W := 0) (own_rmTL1 l Z a0 hw [] b15 b21 k21 (own_P [qp3, qp4, qp5] (own_wo1 w0 w1) (own_sh1 w0 w1) (own_low w1) (qp6 &&& (own_low w1))) aw as_ am kw ks km (0 : Int32) (own_wo1 w0 w1) (own_wo2 w0 w1 w2) (0 : Int32) (own_sh1 w0 w1) (own_sh2 w0 w1 w2) (own_low w0) (own_low w1) (own_low w2) T87.heap n0 z88 f92 f93 f94 Vq87 f89 f90 f91 (own_P_len rfl) lay.1) hZ (hw _ (List.mem_of_getElem? (i := 65) rfl)) (hw _ (List.mem_of_getElem? (i := 8) rfl)) (by decide) (by decide)) q98a q98c (g := (mkF m 215 #[.val (.int p1), .val (.int p2), .val (.long qp3), .second, .val (.long qp4), .second, .val (.long qp5), .second, .val (.long qp6), .second, .val (.ref b1), .val (.ref b15), .val (.ref b21), .val (.int (1 : Int32)), .val (.long (qp6 &&& (own_low w1))), .second, .val (.long (own_G [qp3, qp4, qp5] (0 : Int32) (0 : Int32) (own_low w0))), .second, .val (.long (own_G [qp3, qp4, qp5] (own_wo1 w0 w1) (own_sh1 w0 w1) (own_low w1))), .second, .val (.long (own_G [qp3, qp4, qp5] (own_wo2 w0 w1 w2) (own_sh2 w0 w1 w2) (own_low w2))), .second, .val (.long (own_G [qp3, qp4, qp5] (own_wo1 w0 w1) (own_sh1 w0 w1) (own_low w1))), .second, .val (.long (own_G [qp3, qp4, qp5] (0 : Int32) (0 : Int32) (own_low w0))), .second, .val (.long (qp6 &&& (own_low w1))), .second, .val (.long (own_G [qp3, qp4, qp5] (own_wo2 w0 w1 w2) (own_sh2 w0 w1 w2) (own_low w2))), .second, .unset] [(.int (1 : Int32)), (.ref b21), (.ref b15)])) rfl (by rw [hml]; rfl) (Steps.refl _) (argsL := [(.ref b21), (.int (1 : Int32))]) (rest := []) (lenOf own_pd___JI_J rfl) rfl (by show 2 * 0 + _ ≤ _; exact Nat.le_of_eq rfl) (hb hby at_215) (fun _ _ => ⟨rfl, eq95, (by decide : 9 + 0 ≤ _), (by decide : 43 + 0 ≤ _)⟩)
    dsimp only [Pt.U, Pt.locs, Pt.cells, Pt.slots] at X98 l98 y98 z98 st98 hQ98
    subst l98 y98 z98
    obtain ⟨rfl, Nq98, eq98⟩ := hQ98
    have N98 := Fr.app N95 Nq98
    refine own_st (fun _ k => st98.trans k) ?_
    show own_Go p.tables e below RR (T98.setTop (mkF m 218 #[.val (.int p1), .val (.int p2), .val (.long qp3), .second, .val (.long qp4), .second, .val (.long qp5), .second, .val (.long qp6), .second, .val (.ref b1), .val (.ref b15), .val (.ref b21), .val (.int (1 : Int32)), .val (.long (qp6 &&& (own_low w1))), .second, .val (.long (own_G [qp3, qp4, qp5] (0 : Int32) (0 : Int32) (own_low w0))), .second, .val (.long (own_G [qp3, qp4, qp5] (own_wo1 w0 w1) (own_sh1 w0 w1) (own_low w1))), .second, .val (.long (own_G [qp3, qp4, qp5] (own_wo2 w0 w1 w2) (own_sh2 w0 w1 w2) (own_low w2))), .second, .val (.long (own_G [qp3, qp4, qp5] (own_wo1 w0 w1) (own_sh1 w0 w1) (own_low w1))), .second, .val (.long (own_G [qp3, qp4, qp5] (0 : Int32) (0 : Int32) (own_low w0))), .second, .val (.long (qp6 &&& (own_low w1))), .second, .val (.long (own_G [qp3, qp4, qp5] (own_wo2 w0 w1 w2) (own_sh2 w0 w1 w2) (own_low w2))), .second, .unset] [(.long (own_G (own_P [qp3, qp4, qp5] (own_wo1 w0 w1) (own_sh1 w0 w1) (own_low w1) (qp6 &&& (own_low w1))) (own_wo1 w0 w1) (own_sh1 w0 w1) (own_low w1)))]))
    refine own_st (fun _ k => XS.lload X98.here hx rfl (hb hby at_218) rfl (XS.lcmp X98.here hx rfl (hb hby at_220) rfl k)) ?_
    show own_Go p.tables e below RR (T98.setTop (mkF m 221 #[.val (.int p1), .val (.int p2), .val (.long qp3), .second, .val (.long qp4), .second, .val (.long qp5), .second, .val (.long qp6), .second, .val (.ref b1), .val (.ref b15), .val (.ref b21), .val (.int (1 : Int32)), .val (.long (qp6 &&& (own_low w1))), .second, .val (.long (own_G [qp3, qp4, qp5] (0 : Int32) (0 : Int32) (own_low w0))), .second, .val (.long (own_G [qp3, qp4, qp5] (own_wo1 w0 w1) (own_sh1 w0 w1) (own_low w1))), .second, .val (.long (own_G [qp3, qp4, qp5] (own_wo2 w0 w1 w2) (own_sh2 w0 w1 w2) (own_low w2))), .second, .val (.long (own_G [qp3, qp4, qp5] (own_wo1 w0 w1) (own_sh1 w0 w1) (own_low w1))), .second, .val (.long (own_G [qp3, qp4, qp5] (0 : Int32) (0 : Int32) (own_low w0))), .second, .val (.long (qp6 &&& (own_low w1))), .second, .val (.long (own_G [qp3, qp4, qp5] (own_wo2 w0 w1 w2) (own_sh2 w0 w1 w2) (own_low w2))), .second, .unset] [(.int (lcmpW (own_G (own_P [qp3, qp4, qp5] (own_wo1 w0 w1) (own_sh1 w0 w1) (own_low w1) (qp6 &&& (own_low w1))) (own_wo1 w0 w1) (own_sh1 w0 w1) (own_low w1)) (qp6 &&& (own_low w1))))]))
    have hc221_99 : (own_G (own_P [qp3, qp4, qp5] (own_wo1 w0 w1) (own_sh1 w0 w1) (own_low w1) (qp6 &&& (own_low w1))) (own_wo1 w0 w1) (own_sh1 w0 w1) (own_low w1)) = (qp6 &&& (own_low w1)) := own_A (X := [qp3, qp4, qp5]) rfl lay.1 lay.2.2.1.1 hw1 lay.2.2.1.2 (own_and_fit hw1)
    refine own_st (fun _ k => XS.ifNo X98.here hx rfl (hb hby at_221) rfl ((if0 _ _).trans (teq ((lw_eq _ _).mpr hc221_99)).2) (XS.aload X98.here hx rfl (hb hby at_224) rfl rfl (XS.aload X98.here hx rfl (hb hby at_226) rfl rfl (XS.iconst X98.here hx rfl (hb hby at_228) k)))) ?_
    show own_Go p.tables e below RR (T98.setTop (mkF m 229 #[.val (.int p1), .val (.int p2), .val (.long qp3), .second, .val (.long qp4), .second, .val (.long qp5), .second, .val (.long qp6), .second, .val (.ref b1), .val (.ref b15), .val (.ref b21), .val (.int (1 : Int32)), .val (.long (qp6 &&& (own_low w1))), .second, .val (.long (own_G [qp3, qp4, qp5] (0 : Int32) (0 : Int32) (own_low w0))), .second, .val (.long (own_G [qp3, qp4, qp5] (own_wo1 w0 w1) (own_sh1 w0 w1) (own_low w1))), .second, .val (.long (own_G [qp3, qp4, qp5] (own_wo2 w0 w1 w2) (own_sh2 w0 w1 w2) (own_low w2))), .second, .val (.long (own_G [qp3, qp4, qp5] (own_wo1 w0 w1) (own_sh1 w0 w1) (own_low w1))), .second, .val (.long (own_G [qp3, qp4, qp5] (0 : Int32) (0 : Int32) (own_low w0))), .second, .val (.long (qp6 &&& (own_low w1))), .second, .val (.long (own_G [qp3, qp4, qp5] (own_wo2 w0 w1 w2) (own_sh2 w0 w1 w2) (own_low w2))), .second, .unset] [(.int (2 : Int32)), (.ref b21), (.ref b15)]))
    obtain ⟨cq100, kq100, q100a, q100b, q100c⟩ := isOf hZ eq98 f96
    obtain ⟨_, _, ⟨T100, L100, k100, n100⟩, -, X100, ⟨Lc100, hQ100, l100, y100, z100⟩, st100⟩ := X98.virtualBack hx (y := (⟨"com/example/nesiph/nesiph/MarkingSet", "tokens", "([JI)J"⟩ : MethodName)) (z := (⟨"com/example/nesiph/nesiph/MarkingSet", "tokens", "([JI)J"⟩ : MethodName)) hown (mvT hZ (hw _ (List.mem_of_getElem? (i := 61) rfl))) (mvT hZ (hw _ (List.mem_of_getElem? (i := 62) rfl))) (notFace_of_selects (args := #[]) (mvT hZ (hw _ (List.mem_of_getElem? (i := 64) rfl)))) (mvT hZ (hw _ (List.mem_of_getElem? (i := 64) rfl))) (mvT hZ (hw _ (List.mem_of_getElem? (i := 63) rfl))) (by decide) (backOf (W := 0) (own_rmTL2 l Z a0 hw [] b15 b21 k21 (own_P [qp3, qp4, qp5] (own_wo1 w0 w1) (own_sh1 w0 w1) (own_low w1) (qp6 &&& (own_low w1))) aw as_ am kw ks km (0 : Int32) (own_wo1 w0 w1) (own_wo2 w0 w1 w2) (0 : Int32) (own_sh1 w0 w1) (own_sh2 w0 w1 w2) (own_low w0) (own_low w1) (own_low w2) T87.heap n0 z88 f92 f93 f94 Vq87 f89 f90 f91 (own_P_len rfl) lay.2.1) hZ (hw _ (List.mem_of_getElem? (i := 65) rfl)) (hw _ (List.mem_of_getElem? (i := 8) rfl)) (by decide) (by decide)) q100a q100c (g := (mkF m 229 #[.val (.int p1), .val (.int p2), .val (.long qp3), .second, .val (.long qp4), .second, .val (.long qp5), .second, .val (.long qp6), .second, .val (.ref b1), .val (.ref b15), .val (.ref b21), .val (.int (1 : Int32)), .val (.long (qp6 &&& (own_low w1))), .second, .val (.long (own_G [qp3, qp4, qp5] (0 : Int32) (0 : Int32) (own_low w0))), .second, .val (.long (own_G [qp3, qp4, qp5] (own_wo1 w0 w1) (own_sh1 w0 w1) (own_low w1))), .second, .val (.long (own_G [qp3, qp4, qp5] (own_wo2 w0 w1 w2) (own_sh2 w0 w1 w2) (own_low w2))), .second, .val (.long (own_G [qp3, qp4, qp5] (own_wo1 w0 w1) (own_sh1 w0 w1) (own_low w1))), .second, .val (.long (own_G [qp3, qp4, qp5] (0 : Int32) (0 : Int32) (own_low w0))), .second, .val (.long (qp6 &&& (own_low w1))), .second, .val (.long (own_G [qp3, qp4, qp5] (own_wo2 w0 w1 w2) (own_sh2 w0 w1 w2) (own_low w2))), .second, .unset] [(.int (2 : Int32)), (.ref b21), (.ref b15)])) rfl (by rw [hml]; rfl) (Steps.refl _) (argsL := [(.ref b21), (.int (2 : Int32))]) (rest := []) (lenOf own_pd___JI_J rfl) rfl (by show 2 * 0 + _ ≤ _; exact Nat.le_of_eq rfl) (hb hby at_229) (fun _ _ => ⟨rfl, eq98, (by decide : 9 + 0 ≤ _), (by decide : 43 + 0 ≤ _)⟩)
    dsimp only [Pt.U, Pt.locs, Pt.cells, Pt.slots] at X100 l100 y100 z100 st100 hQ100
    subst l100 y100 z100
    obtain ⟨rfl, Nq100, eq100⟩ := hQ100
    have N100 := Fr.app N98 Nq100
    refine own_st (fun _ k => st100.trans k) ?_
    show own_Go p.tables e below RR (T100.setTop (mkF m 232 #[.val (.int p1), .val (.int p2), .val (.long qp3), .second, .val (.long qp4), .second, .val (.long qp5), .second, .val (.long qp6), .second, .val (.ref b1), .val (.ref b15), .val (.ref b21), .val (.int (1 : Int32)), .val (.long (qp6 &&& (own_low w1))), .second, .val (.long (own_G [qp3, qp4, qp5] (0 : Int32) (0 : Int32) (own_low w0))), .second, .val (.long (own_G [qp3, qp4, qp5] (own_wo1 w0 w1) (own_sh1 w0 w1) (own_low w1))), .second, .val (.long (own_G [qp3, qp4, qp5] (own_wo2 w0 w1 w2) (own_sh2 w0 w1 w2) (own_low w2))), .second, .val (.long (own_G [qp3, qp4, qp5] (own_wo1 w0 w1) (own_sh1 w0 w1) (own_low w1))), .second, .val (.long (own_G [qp3, qp4, qp5] (0 : Int32) (0 : Int32) (own_low w0))), .second, .val (.long (qp6 &&& (own_low w1))), .second, .val (.long (own_G [qp3, qp4, qp5] (own_wo2 w0 w1 w2) (own_sh2 w0 w1 w2) (own_low w2))), .second, .unset] [(.long (own_G (own_P [qp3, qp4, qp5] (own_wo1 w0 w1) (own_sh1 w0 w1) (own_low w1) (qp6 &&& (own_low w1))) (own_wo2 w0 w1 w2) (own_sh2 w0 w1 w2) (own_low w2)))]))
    refine own_st (fun _ k => XS.lload X100.here hx rfl (hb hby at_232) rfl (XS.lcmp X100.here hx rfl (hb hby at_234) rfl k)) ?_
    show own_Go p.tables e below RR (T100.setTop (mkF m 235 #[.val (.int p1), .val (.int p2), .val (.long qp3), .second, .val (.long qp4), .second, .val (.long qp5), .second, .val (.long qp6), .second, .val (.ref b1), .val (.ref b15), .val (.ref b21), .val (.int (1 : Int32)), .val (.long (qp6 &&& (own_low w1))), .second, .val (.long (own_G [qp3, qp4, qp5] (0 : Int32) (0 : Int32) (own_low w0))), .second, .val (.long (own_G [qp3, qp4, qp5] (own_wo1 w0 w1) (own_sh1 w0 w1) (own_low w1))), .second, .val (.long (own_G [qp3, qp4, qp5] (own_wo2 w0 w1 w2) (own_sh2 w0 w1 w2) (own_low w2))), .second, .val (.long (own_G [qp3, qp4, qp5] (own_wo1 w0 w1) (own_sh1 w0 w1) (own_low w1))), .second, .val (.long (own_G [qp3, qp4, qp5] (0 : Int32) (0 : Int32) (own_low w0))), .second, .val (.long (qp6 &&& (own_low w1))), .second, .val (.long (own_G [qp3, qp4, qp5] (own_wo2 w0 w1 w2) (own_sh2 w0 w1 w2) (own_low w2))), .second, .unset] [(.int (lcmpW (own_G (own_P [qp3, qp4, qp5] (own_wo1 w0 w1) (own_sh1 w0 w1) (own_low w1) (qp6 &&& (own_low w1))) (own_wo2 w0 w1 w2) (own_sh2 w0 w1 w2) (own_low w2)) (own_G [qp3, qp4, qp5] (own_wo2 w0 w1 w2) (own_sh2 w0 w1 w2) (own_low w2))))]))
    have hc235_101 : (own_G (own_P [qp3, qp4, qp5] (own_wo1 w0 w1) (own_sh1 w0 w1) (own_low w1) (qp6 &&& (own_low w1))) (own_wo2 w0 w1 w2) (own_sh2 w0 w1 w2) (own_low w2)) = (own_G [qp3, qp4, qp5] (own_wo2 w0 w1 w2) (own_sh2 w0 w1 w2) (own_low w2)) := own_B (X := [qp3, qp4, qp5]) rfl lay.1 lay.2.2.1.1 hw1 lay.2.2.1.2 (own_and_fit hw1) lay.2.1 lay.2.2.2.1.1 hw2 lay.2.2.2.1.2 lay.2.2.2.2.2.2
    refine own_st (fun _ k => XS.ifNo X100.here hx rfl (hb hby at_235) rfl ((if0 _ _).trans (teq ((lw_eq _ _).mpr hc235_101)).2) (XS.iconst X100.here hx rfl (hb hby at_238) (XS.goto X100.here hx rfl (pc0 := 239) (pc' := 243) rfl (hb hby at_239) (by decide) (by decide) (XS.istore X100.here hx rfl (hb hby at_243) rfl (l' := #[.val (.int p1), .val (.int p2), .val (.long qp3), .second, .val (.long qp4), .second, .val (.long qp5), .second, .val (.long qp6), .second, .val (.ref b1), .val (.ref b15), .val (.ref b21), .val (.int (1 : Int32)), .val (.long (qp6 &&& (own_low w1))), .second, .val (.long (own_G [qp3, qp4, qp5] (0 : Int32) (0 : Int32) (own_low w0))), .second, .val (.long (own_G [qp3, qp4, qp5] (own_wo1 w0 w1) (own_sh1 w0 w1) (own_low w1))), .second, .val (.long (own_G [qp3, qp4, qp5] (own_wo2 w0 w1 w2) (own_sh2 w0 w1 w2) (own_low w2))), .second, .val (.long (own_G [qp3, qp4, qp5] (own_wo1 w0 w1) (own_sh1 w0 w1) (own_low w1))), .second, .val (.long (own_G [qp3, qp4, qp5] (0 : Int32) (0 : Int32) (own_low w0))), .second, .val (.long (qp6 &&& (own_low w1))), .second, .val (.long (own_G [qp3, qp4, qp5] (own_wo2 w0 w1 w2) (own_sh2 w0 w1 w2) (own_low w2))), .second, .val (.int (1 : Int32))]) rfl (XS.aload X100.here hx rfl (hb hby at_245) rfl rfl (XS.aload X100.here hx rfl (hb hby at_247) rfl rfl (XS.iload X100.here hx rfl (hb hby at_249) rfl (XS.lload X100.here hx rfl (hb hby at_251) rfl k)))))))) ?_
    show own_Go p.tables e below RR (T100.setTop (mkF m 253 #[.val (.int p1), .val (.int p2), .val (.long qp3), .second, .val (.long qp4), .second, .val (.long qp5), .second, .val (.long qp6), .second, .val (.ref b1), .val (.ref b15), .val (.ref b21), .val (.int (1 : Int32)), .val (.long (qp6 &&& (own_low w1))), .second, .val (.long (own_G [qp3, qp4, qp5] (0 : Int32) (0 : Int32) (own_low w0))), .second, .val (.long (own_G [qp3, qp4, qp5] (own_wo1 w0 w1) (own_sh1 w0 w1) (own_low w1))), .second, .val (.long (own_G [qp3, qp4, qp5] (own_wo2 w0 w1 w2) (own_sh2 w0 w1 w2) (own_low w2))), .second, .val (.long (own_G [qp3, qp4, qp5] (own_wo1 w0 w1) (own_sh1 w0 w1) (own_low w1))), .second, .val (.long (own_G [qp3, qp4, qp5] (0 : Int32) (0 : Int32) (own_low w0))), .second, .val (.long (qp6 &&& (own_low w1))), .second, .val (.long (own_G [qp3, qp4, qp5] (own_wo2 w0 w1 w2) (own_sh2 w0 w1 w2) (own_low w2))), .second, .val (.int (1 : Int32))] [(.long (own_G [qp3, qp4, qp5] (own_wo1 w0 w1) (own_sh1 w0 w1) (own_low w1))), (.int (1 : Int32)), (.ref b21), (.ref b15)]))
    obtain ⟨cq102, kq102, q102a, q102b, q102c⟩ := isOf hZ eq100 f96
    obtain ⟨_, _, ⟨T102, L102, k102, n102⟩, -, X102, ⟨Lc102, hQ102, l102, y102, z102⟩, st102⟩ := X100.virtualBack hx (y := (⟨"com/example/nesiph/nesiph/MarkingSet", "setTokens", "([JIJ)V"⟩ : MethodName)) (z := (⟨"com/example/nesiph/nesiph/MarkingSet", "setTokens", "([JIJ)V"⟩ : MethodName)) hown (mvT hZ (hw _ (List.mem_of_getElem? (i := 66) rfl))) (mvT hZ (hw _ (List.mem_of_getElem? (i := 67) rfl))) (notFace_of_selects (args := #[]) (mvT hZ (hw _ (List.mem_of_getElem? (i := 69) rfl)))) (mvT hZ (hw _ (List.mem_of_getElem? (i := 69) rfl))) (mvT hZ (hw _ (List.mem_of_getElem? (i := 68) rfl))) (by decide) (backOf (W := 0) (own_rmSL1 l Z a0 hw [] b15 b21 k21 (own_P [qp3, qp4, qp5] (own_wo1 w0 w1) (own_sh1 w0 w1) (own_low w1) (qp6 &&& (own_low w1))) aw as_ am kw ks km (0 : Int32) (own_wo1 w0 w1) (own_wo2 w0 w1 w2) (0 : Int32) (own_sh1 w0 w1) (own_sh2 w0 w1 w2) (own_low w0) (own_low w1) (own_low w2) (own_G [qp3, qp4, qp5] (own_wo1 w0 w1) (own_sh1 w0 w1) (own_low w1)) T87.heap n0 z88 f92 f93 f94 Vq87 f89 f90 f91 (own_P_len rfl) lay.1 ge21) hZ (hw _ (List.mem_of_getElem? (i := 70) rfl)) (hw _ (List.mem_of_getElem? (i := 8) rfl)) (by decide) (by decide)) q102a q102c (g := (mkF m 253 #[.val (.int p1), .val (.int p2), .val (.long qp3), .second, .val (.long qp4), .second, .val (.long qp5), .second, .val (.long qp6), .second, .val (.ref b1), .val (.ref b15), .val (.ref b21), .val (.int (1 : Int32)), .val (.long (qp6 &&& (own_low w1))), .second, .val (.long (own_G [qp3, qp4, qp5] (0 : Int32) (0 : Int32) (own_low w0))), .second, .val (.long (own_G [qp3, qp4, qp5] (own_wo1 w0 w1) (own_sh1 w0 w1) (own_low w1))), .second, .val (.long (own_G [qp3, qp4, qp5] (own_wo2 w0 w1 w2) (own_sh2 w0 w1 w2) (own_low w2))), .second, .val (.long (own_G [qp3, qp4, qp5] (own_wo1 w0 w1) (own_sh1 w0 w1) (own_low w1))), .second, .val (.long (own_G [qp3, qp4, qp5] (0 : Int32) (0 : Int32) (own_low w0))), .second, .val (.long (qp6 &&& (own_low w1))), .second, .val (.long (own_G [qp3, qp4, qp5] (own_wo2 w0 w1 w2) (own_sh2 w0 w1 w2) (own_low w2))), .second, .val (.int (1 : Int32))] [(.long (own_G [qp3, qp4, qp5] (own_wo1 w0 w1) (own_sh1 w0 w1) (own_low w1))), (.int (1 : Int32)), (.ref b21), (.ref b15)])) rfl (by rw [hml]; rfl) (Steps.refl _) (argsL := [(.ref b21), (.int (1 : Int32)), (.long (own_G [qp3, qp4, qp5] (own_wo1 w0 w1) (own_sh1 w0 w1) (own_low w1)))]) (rest := []) (lenOf own_pd___JIJ_V rfl) rfl (by show 2 * 0 + _ ≤ _; exact Nat.le_of_eq rfl) (hb hby at_253) (fun _ _ => ⟨rfl, eq100, (by decide : 9 + 0 ≤ _), (by decide : 43 + 0 ≤ _)⟩)
    dsimp only [Pt.U, Pt.locs, Pt.cells, Pt.slots] at X102 l102 y102 z102 st102 hQ102
    subst l102 y102 z102
    obtain ⟨rfl, Nq102, Kq102, Vq102⟩ := hQ102
    have N102 := Fr.app N100 Nq102
    refine own_st (fun _ k => st102.trans k) ?_
    have z103 : n0 ≤ T102.heap.size := Nat.le_trans z88 Kq102.1
    have Vz102 : Arv Z T102.heap b21 k21 .long (3 : Int32) [(.long qp3), (.long qp4), (.long qp5)] (.long (0 : Int64)) := by
      have e := own_C (X := [qp3, qp4, qp5]) (n := (own_wo1 w0 w1)) (s := (own_sh1 w0 w1)) (t := (qp6 &&& (own_low w1))) rfl lay.1 lay.2.2.1.1 hw1 lay.2.2.1.2 (own_and_fit hw1)
      rw [e] at Vq102
      exact Vq102
    show own_Go p.tables e below RR (T102.setTop (mkF m 256 #[.val (.int p1), .val (.int p2), .val (.long qp3), .second, .val (.long qp4), .second, .val (.long qp5), .second, .val (.long qp6), .second, .val (.ref b1), .val (.ref b15), .val (.ref b21), .val (.int (1 : Int32)), .val (.long (qp6 &&& (own_low w1))), .second, .val (.long (own_G [qp3, qp4, qp5] (0 : Int32) (0 : Int32) (own_low w0))), .second, .val (.long (own_G [qp3, qp4, qp5] (own_wo1 w0 w1) (own_sh1 w0 w1) (own_low w1))), .second, .val (.long (own_G [qp3, qp4, qp5] (own_wo2 w0 w1 w2) (own_sh2 w0 w1 w2) (own_low w2))), .second, .val (.long (own_G [qp3, qp4, qp5] (own_wo1 w0 w1) (own_sh1 w0 w1) (own_low w1))), .second, .val (.long (own_G [qp3, qp4, qp5] (0 : Int32) (0 : Int32) (own_low w0))), .second, .val (.long (qp6 &&& (own_low w1))), .second, .val (.long (own_G [qp3, qp4, qp5] (own_wo2 w0 w1 w2) (own_sh2 w0 w1 w2) (own_low w2))), .second, .val (.int (1 : Int32))] []))
    refine own_st (fun _ k => XS.iload X102.here hx rfl (hb hby at_256) rfl k) ?_
    show own_Go p.tables e below RR (T102.setTop (mkF m 258 #[.val (.int p1), .val (.int p2), .val (.long qp3), .second, .val (.long qp4), .second, .val (.long qp5), .second, .val (.long qp6), .second, .val (.ref b1), .val (.ref b15), .val (.ref b21), .val (.int (1 : Int32)), .val (.long (qp6 &&& (own_low w1))), .second, .val (.long (own_G [qp3, qp4, qp5] (0 : Int32) (0 : Int32) (own_low w0))), .second, .val (.long (own_G [qp3, qp4, qp5] (own_wo1 w0 w1) (own_sh1 w0 w1) (own_low w1))), .second, .val (.long (own_G [qp3, qp4, qp5] (own_wo2 w0 w1 w2) (own_sh2 w0 w1 w2) (own_low w2))), .second, .val (.long (own_G [qp3, qp4, qp5] (own_wo1 w0 w1) (own_sh1 w0 w1) (own_low w1))), .second, .val (.long (own_G [qp3, qp4, qp5] (0 : Int32) (0 : Int32) (own_low w0))), .second, .val (.long (qp6 &&& (own_low w1))), .second, .val (.long (own_G [qp3, qp4, qp5] (own_wo2 w0 w1 w2) (own_sh2 w0 w1 w2) (own_low w2))), .second, .val (.int (1 : Int32))] [(.int (1 : Int32))]))
    refine own_st (fun _ k => XS.ifNo X102.here hx rfl (hb hby at_258) rfl ((if0 _ _).trans (feq (by decide)).1) (XS.aload X102.here hx rfl (hb hby at_261) rfl rfl (XS.iconst X102.here hx rfl (hb hby at_263) k))) ?_
    show own_Go p.tables e below RR (T102.setTop (mkF m 264 #[.val (.int p1), .val (.int p2), .val (.long qp3), .second, .val (.long qp4), .second, .val (.long qp5), .second, .val (.long qp6), .second, .val (.ref b1), .val (.ref b15), .val (.ref b21), .val (.int (1 : Int32)), .val (.long (qp6 &&& (own_low w1))), .second, .val (.long (own_G [qp3, qp4, qp5] (0 : Int32) (0 : Int32) (own_low w0))), .second, .val (.long (own_G [qp3, qp4, qp5] (own_wo1 w0 w1) (own_sh1 w0 w1) (own_low w1))), .second, .val (.long (own_G [qp3, qp4, qp5] (own_wo2 w0 w1 w2) (own_sh2 w0 w1 w2) (own_low w2))), .second, .val (.long (own_G [qp3, qp4, qp5] (own_wo1 w0 w1) (own_sh1 w0 w1) (own_low w1))), .second, .val (.long (own_G [qp3, qp4, qp5] (0 : Int32) (0 : Int32) (own_low w0))), .second, .val (.long (qp6 &&& (own_low w1))), .second, .val (.long (own_G [qp3, qp4, qp5] (own_wo2 w0 w1 w2) (own_sh2 w0 w1 w2) (own_low w2))), .second, .val (.int (1 : Int32))] [(.int (0 : Int32)), (.ref b21)]))
    obtain ⟨c104, A104, q104, s104, m104, H104, G104⟩ := id Vz102
    have b104 := inb_of (j := (0 : Int32)) s104 ⟨by decide, by decide⟩
    refine own_st (fun _ k => X102.laload hx (j := (0 : Int32)) (v := (.long qp3)) (by exact A104.1) (State.isArrayOf_alike hZ.alike A104.2.1) A104.2.2 b104 (Has.at H104 b104 rfl) (g := (mkF m 264 #[.val (.int p1), .val (.int p2), .val (.long qp3), .second, .val (.long qp4), .second, .val (.long qp5), .second, .val (.long qp6), .second, .val (.ref b1), .val (.ref b15), .val (.ref b21), .val (.int (1 : Int32)), .val (.long (qp6 &&& (own_low w1))), .second, .val (.long (own_G [qp3, qp4, qp5] (0 : Int32) (0 : Int32) (own_low w0))), .second, .val (.long (own_G [qp3, qp4, qp5] (own_wo1 w0 w1) (own_sh1 w0 w1) (own_low w1))), .second, .val (.long (own_G [qp3, qp4, qp5] (own_wo2 w0 w1 w2) (own_sh2 w0 w1 w2) (own_low w2))), .second, .val (.long (own_G [qp3, qp4, qp5] (own_wo1 w0 w1) (own_sh1 w0 w1) (own_low w1))), .second, .val (.long (own_G [qp3, qp4, qp5] (0 : Int32) (0 : Int32) (own_low w0))), .second, .val (.long (qp6 &&& (own_low w1))), .second, .val (.long (own_G [qp3, qp4, qp5] (own_wo2 w0 w1 w2) (own_sh2 w0 w1 w2) (own_low w2))), .second, .val (.int (1 : Int32))] [(.int (0 : Int32)), (.ref b21)])) rfl rfl (hb hby at_264) _ (XS.lloadN X102.here hx rfl (hb hby at_265) rfl (XS.lcmp X102.here hx rfl (hb hby at_266) rfl k))) ?_
    show own_Go p.tables e below RR (T102.setTop (mkF m 267 #[.val (.int p1), .val (.int p2), .val (.long qp3), .second, .val (.long qp4), .second, .val (.long qp5), .second, .val (.long qp6), .second, .val (.ref b1), .val (.ref b15), .val (.ref b21), .val (.int (1 : Int32)), .val (.long (qp6 &&& (own_low w1))), .second, .val (.long (own_G [qp3, qp4, qp5] (0 : Int32) (0 : Int32) (own_low w0))), .second, .val (.long (own_G [qp3, qp4, qp5] (own_wo1 w0 w1) (own_sh1 w0 w1) (own_low w1))), .second, .val (.long (own_G [qp3, qp4, qp5] (own_wo2 w0 w1 w2) (own_sh2 w0 w1 w2) (own_low w2))), .second, .val (.long (own_G [qp3, qp4, qp5] (own_wo1 w0 w1) (own_sh1 w0 w1) (own_low w1))), .second, .val (.long (own_G [qp3, qp4, qp5] (0 : Int32) (0 : Int32) (own_low w0))), .second, .val (.long (qp6 &&& (own_low w1))), .second, .val (.long (own_G [qp3, qp4, qp5] (own_wo2 w0 w1 w2) (own_sh2 w0 w1 w2) (own_low w2))), .second, .val (.int (1 : Int32))] [(.int (lcmpW qp3 qp3))]))
    refine own_st (fun _ k => XS.ifNo X102.here hx rfl (hb hby at_267) rfl ((if0 _ _).trans (teq ((lw_eq _ _).mpr rfl)).2) (XS.aload X102.here hx rfl (hb hby at_270) rfl rfl (XS.iconst X102.here hx rfl (hb hby at_272) k))) ?_
    show own_Go p.tables e below RR (T102.setTop (mkF m 273 #[.val (.int p1), .val (.int p2), .val (.long qp3), .second, .val (.long qp4), .second, .val (.long qp5), .second, .val (.long qp6), .second, .val (.ref b1), .val (.ref b15), .val (.ref b21), .val (.int (1 : Int32)), .val (.long (qp6 &&& (own_low w1))), .second, .val (.long (own_G [qp3, qp4, qp5] (0 : Int32) (0 : Int32) (own_low w0))), .second, .val (.long (own_G [qp3, qp4, qp5] (own_wo1 w0 w1) (own_sh1 w0 w1) (own_low w1))), .second, .val (.long (own_G [qp3, qp4, qp5] (own_wo2 w0 w1 w2) (own_sh2 w0 w1 w2) (own_low w2))), .second, .val (.long (own_G [qp3, qp4, qp5] (own_wo1 w0 w1) (own_sh1 w0 w1) (own_low w1))), .second, .val (.long (own_G [qp3, qp4, qp5] (0 : Int32) (0 : Int32) (own_low w0))), .second, .val (.long (qp6 &&& (own_low w1))), .second, .val (.long (own_G [qp3, qp4, qp5] (own_wo2 w0 w1 w2) (own_sh2 w0 w1 w2) (own_low w2))), .second, .val (.int (1 : Int32))] [(.int (1 : Int32)), (.ref b21)]))
    obtain ⟨c105, A105, q105, s105, m105, H105, G105⟩ := id Vz102
    have b105 := inb_of (j := (1 : Int32)) s105 ⟨by decide, by decide⟩
    refine own_st (fun _ k => X102.laload hx (j := (1 : Int32)) (v := (.long qp4)) (by exact A105.1) (State.isArrayOf_alike hZ.alike A105.2.1) A105.2.2 b105 (Has.at H105 b105 rfl) (g := (mkF m 273 #[.val (.int p1), .val (.int p2), .val (.long qp3), .second, .val (.long qp4), .second, .val (.long qp5), .second, .val (.long qp6), .second, .val (.ref b1), .val (.ref b15), .val (.ref b21), .val (.int (1 : Int32)), .val (.long (qp6 &&& (own_low w1))), .second, .val (.long (own_G [qp3, qp4, qp5] (0 : Int32) (0 : Int32) (own_low w0))), .second, .val (.long (own_G [qp3, qp4, qp5] (own_wo1 w0 w1) (own_sh1 w0 w1) (own_low w1))), .second, .val (.long (own_G [qp3, qp4, qp5] (own_wo2 w0 w1 w2) (own_sh2 w0 w1 w2) (own_low w2))), .second, .val (.long (own_G [qp3, qp4, qp5] (own_wo1 w0 w1) (own_sh1 w0 w1) (own_low w1))), .second, .val (.long (own_G [qp3, qp4, qp5] (0 : Int32) (0 : Int32) (own_low w0))), .second, .val (.long (qp6 &&& (own_low w1))), .second, .val (.long (own_G [qp3, qp4, qp5] (own_wo2 w0 w1 w2) (own_sh2 w0 w1 w2) (own_low w2))), .second, .val (.int (1 : Int32))] [(.int (1 : Int32)), (.ref b21)])) rfl rfl (hb hby at_273) _ (XS.lload X102.here hx rfl (hb hby at_274) rfl (XS.lcmp X102.here hx rfl (hb hby at_276) rfl k))) ?_
    show own_Go p.tables e below RR (T102.setTop (mkF m 277 #[.val (.int p1), .val (.int p2), .val (.long qp3), .second, .val (.long qp4), .second, .val (.long qp5), .second, .val (.long qp6), .second, .val (.ref b1), .val (.ref b15), .val (.ref b21), .val (.int (1 : Int32)), .val (.long (qp6 &&& (own_low w1))), .second, .val (.long (own_G [qp3, qp4, qp5] (0 : Int32) (0 : Int32) (own_low w0))), .second, .val (.long (own_G [qp3, qp4, qp5] (own_wo1 w0 w1) (own_sh1 w0 w1) (own_low w1))), .second, .val (.long (own_G [qp3, qp4, qp5] (own_wo2 w0 w1 w2) (own_sh2 w0 w1 w2) (own_low w2))), .second, .val (.long (own_G [qp3, qp4, qp5] (own_wo1 w0 w1) (own_sh1 w0 w1) (own_low w1))), .second, .val (.long (own_G [qp3, qp4, qp5] (0 : Int32) (0 : Int32) (own_low w0))), .second, .val (.long (qp6 &&& (own_low w1))), .second, .val (.long (own_G [qp3, qp4, qp5] (own_wo2 w0 w1 w2) (own_sh2 w0 w1 w2) (own_low w2))), .second, .val (.int (1 : Int32))] [(.int (lcmpW qp4 qp4))]))
    refine own_st (fun _ k => XS.ifNo X102.here hx rfl (hb hby at_277) rfl ((if0 _ _).trans (teq ((lw_eq _ _).mpr rfl)).2) (XS.aload X102.here hx rfl (hb hby at_280) rfl rfl (XS.iconst X102.here hx rfl (hb hby at_282) k))) ?_
    show own_Go p.tables e below RR (T102.setTop (mkF m 283 #[.val (.int p1), .val (.int p2), .val (.long qp3), .second, .val (.long qp4), .second, .val (.long qp5), .second, .val (.long qp6), .second, .val (.ref b1), .val (.ref b15), .val (.ref b21), .val (.int (1 : Int32)), .val (.long (qp6 &&& (own_low w1))), .second, .val (.long (own_G [qp3, qp4, qp5] (0 : Int32) (0 : Int32) (own_low w0))), .second, .val (.long (own_G [qp3, qp4, qp5] (own_wo1 w0 w1) (own_sh1 w0 w1) (own_low w1))), .second, .val (.long (own_G [qp3, qp4, qp5] (own_wo2 w0 w1 w2) (own_sh2 w0 w1 w2) (own_low w2))), .second, .val (.long (own_G [qp3, qp4, qp5] (own_wo1 w0 w1) (own_sh1 w0 w1) (own_low w1))), .second, .val (.long (own_G [qp3, qp4, qp5] (0 : Int32) (0 : Int32) (own_low w0))), .second, .val (.long (qp6 &&& (own_low w1))), .second, .val (.long (own_G [qp3, qp4, qp5] (own_wo2 w0 w1 w2) (own_sh2 w0 w1 w2) (own_low w2))), .second, .val (.int (1 : Int32))] [(.int (2 : Int32)), (.ref b21)]))
    obtain ⟨c106, A106, q106, s106, m106, H106, G106⟩ := id Vz102
    have b106 := inb_of (j := (2 : Int32)) s106 ⟨by decide, by decide⟩
    refine own_st (fun _ k => X102.laload hx (j := (2 : Int32)) (v := (.long qp5)) (by exact A106.1) (State.isArrayOf_alike hZ.alike A106.2.1) A106.2.2 b106 (Has.at H106 b106 rfl) (g := (mkF m 283 #[.val (.int p1), .val (.int p2), .val (.long qp3), .second, .val (.long qp4), .second, .val (.long qp5), .second, .val (.long qp6), .second, .val (.ref b1), .val (.ref b15), .val (.ref b21), .val (.int (1 : Int32)), .val (.long (qp6 &&& (own_low w1))), .second, .val (.long (own_G [qp3, qp4, qp5] (0 : Int32) (0 : Int32) (own_low w0))), .second, .val (.long (own_G [qp3, qp4, qp5] (own_wo1 w0 w1) (own_sh1 w0 w1) (own_low w1))), .second, .val (.long (own_G [qp3, qp4, qp5] (own_wo2 w0 w1 w2) (own_sh2 w0 w1 w2) (own_low w2))), .second, .val (.long (own_G [qp3, qp4, qp5] (own_wo1 w0 w1) (own_sh1 w0 w1) (own_low w1))), .second, .val (.long (own_G [qp3, qp4, qp5] (0 : Int32) (0 : Int32) (own_low w0))), .second, .val (.long (qp6 &&& (own_low w1))), .second, .val (.long (own_G [qp3, qp4, qp5] (own_wo2 w0 w1 w2) (own_sh2 w0 w1 w2) (own_low w2))), .second, .val (.int (1 : Int32))] [(.int (2 : Int32)), (.ref b21)])) rfl rfl (hb hby at_283) _ (XS.lload X102.here hx rfl (hb hby at_284) rfl (XS.lcmp X102.here hx rfl (hb hby at_286) rfl k))) ?_
    show own_Go p.tables e below RR (T102.setTop (mkF m 287 #[.val (.int p1), .val (.int p2), .val (.long qp3), .second, .val (.long qp4), .second, .val (.long qp5), .second, .val (.long qp6), .second, .val (.ref b1), .val (.ref b15), .val (.ref b21), .val (.int (1 : Int32)), .val (.long (qp6 &&& (own_low w1))), .second, .val (.long (own_G [qp3, qp4, qp5] (0 : Int32) (0 : Int32) (own_low w0))), .second, .val (.long (own_G [qp3, qp4, qp5] (own_wo1 w0 w1) (own_sh1 w0 w1) (own_low w1))), .second, .val (.long (own_G [qp3, qp4, qp5] (own_wo2 w0 w1 w2) (own_sh2 w0 w1 w2) (own_low w2))), .second, .val (.long (own_G [qp3, qp4, qp5] (own_wo1 w0 w1) (own_sh1 w0 w1) (own_low w1))), .second, .val (.long (own_G [qp3, qp4, qp5] (0 : Int32) (0 : Int32) (own_low w0))), .second, .val (.long (qp6 &&& (own_low w1))), .second, .val (.long (own_G [qp3, qp4, qp5] (own_wo2 w0 w1 w2) (own_sh2 w0 w1 w2) (own_low w2))), .second, .val (.int (1 : Int32))] [(.int (lcmpW qp5 qp5))]))
    refine own_st (fun _ k => XS.ifNo X102.here hx rfl (hb hby at_287) rfl ((if0 _ _).trans (teq ((lw_eq _ _).mpr rfl)).2) (XS.iconst X102.here hx rfl (hb hby at_290) (XS.goto X102.here hx rfl (pc0 := 291) (pc' := 295) rfl (hb hby at_291) (by decide) (by decide) k))) ?_
    show own_Go p.tables e below RR (T102.setTop (mkF m 295 #[.val (.int p1), .val (.int p2), .val (.long qp3), .second, .val (.long qp4), .second, .val (.long qp5), .second, .val (.long qp6), .second, .val (.ref b1), .val (.ref b15), .val (.ref b21), .val (.int (1 : Int32)), .val (.long (qp6 &&& (own_low w1))), .second, .val (.long (own_G [qp3, qp4, qp5] (0 : Int32) (0 : Int32) (own_low w0))), .second, .val (.long (own_G [qp3, qp4, qp5] (own_wo1 w0 w1) (own_sh1 w0 w1) (own_low w1))), .second, .val (.long (own_G [qp3, qp4, qp5] (own_wo2 w0 w1 w2) (own_sh2 w0 w1 w2) (own_low w2))), .second, .val (.long (own_G [qp3, qp4, qp5] (own_wo1 w0 w1) (own_sh1 w0 w1) (own_low w1))), .second, .val (.long (own_G [qp3, qp4, qp5] (0 : Int32) (0 : Int32) (own_low w0))), .second, .val (.long (qp6 &&& (own_low w1))), .second, .val (.long (own_G [qp3, qp4, qp5] (own_wo2 w0 w1 w2) (own_sh2 w0 w1 w2) (own_low w2))), .second, .val (.int (1 : Int32))] [(.int (1 : Int32))]))
    obtain ⟨fs, hrt_, hrun, hended, hW, hsame⟩ := X102.leave (v := some (.int (1 : Int32))) (fun h => by rw [Bd.returns] at h; cases h)
    refine own_fin (retN X102 hx (t := .boolean) Bd.returns (by simp) (hb hby at_295) hrt_) (hRR _ ⟨_, hrun, hended, _, _, rfl, ?_, ⟨_, rfl⟩, hW, hsame.mono (by decide) (by decide)⟩)
    show own_Q0 Z p1 p2 qp3 qp4 qp5 qp6 h0 n0 _ T102.heap _
    exact ⟨rfl, N102⟩
  · show own_Go p.tables e below RR (T30.setTop (mkF m 76 #[.val (.int p1), .val (.int p2), .val (.long qp3), .second, .val (.long qp4), .second, .val (.long qp5), .second, .val (.long qp6), .second, .val (.ref b1), .val (.ref b15), .val (.ref b21), .val (.int (2 : Int32)), .unset, .unset, .unset, .unset, .unset, .unset, .unset, .unset, .unset, .unset, .unset, .unset, .unset, .unset, .unset, .unset, .unset] []))
    show own_Go p.tables e below RR (T30.setTop (mkF m 76 #[.val (.int p1), .val (.int p2), .val (.long qp3), .second, .val (.long qp4), .second, .val (.long qp5), .second, .val (.long qp6), .second, .val (.ref b1), .val (.ref b15), .val (.ref b21), .val (.int (2 : Int32)), .unset, .unset, .unset, .unset, .unset, .unset, .unset, .unset, .unset, .unset, .unset, .unset, .unset, .unset, .unset, .unset, .unset] []))
    refine own_st (fun _ k => XS.lload X30.here hx rfl (hb hby at_76) rfl (XS.aload X30.here hx rfl (hb hby at_78) rfl rfl (XS.iload X30.here hx rfl (hb hby at_80) rfl k))) ?_
    show own_Go p.tables e below RR (T30.setTop (mkF m 82 #[.val (.int p1), .val (.int p2), .val (.long qp3), .second, .val (.long qp4), .second, .val (.long qp5), .second, .val (.long qp6), .second, .val (.ref b1), .val (.ref b15), .val (.ref b21), .val (.int (2 : Int32)), .unset, .unset, .unset, .unset, .unset, .unset, .unset, .unset, .unset, .unset, .unset, .unset, .unset, .unset, .unset, .unset, .unset] [(.int (2 : Int32)), (.ref b1), (.long qp6)]))
    have ne107 : b1 ≠ b21 := (Nat.ne_of_lt (Nat.lt_of_lt_of_le (f17.keep Kq19 (ninS ne18 nin0)).lt (Nat.le_of_eq gb21.symm)))
    have f108 := (((((f17.keep Kq19 (ninS ne18 nin0)).ext E21).other W24 ne107).other W27 ne107).other W30 ne107)
    obtain ⟨c109, A109, q109, s109, m109, H109, G109⟩ := id f108
    have b109 := inb_of (j := (2 : Int32)) s109 ⟨by decide, by decide⟩
    refine own_st (fun _ k => X30.laload hx (j := (2 : Int32)) (v := (.long (own_low w2))) (by rw [e30]; exact A109.1) (State.isArrayOf_alike hZ.alike A109.2.1) A109.2.2 b109 (Has.at H109 b109 rfl) (g := (mkF m 82 #[.val (.int p1), .val (.int p2), .val (.long qp3), .second, .val (.long qp4), .second, .val (.long qp5), .second, .val (.long qp6), .second, .val (.ref b1), .val (.ref b15), .val (.ref b21), .val (.int (2 : Int32)), .unset, .unset, .unset, .unset, .unset, .unset, .unset, .unset, .unset, .unset, .unset, .unset, .unset, .unset, .unset, .unset, .unset] [(.int (2 : Int32)), (.ref b1), (.long qp6)])) rfl rfl (hb hby at_82) _ (XS.land X30.here hx rfl (hb hby at_83) rfl (XS.lstore X30.here hx rfl (hb hby at_84) rfl (l' := #[.val (.int p1), .val (.int p2), .val (.long qp3), .second, .val (.long qp4), .second, .val (.long qp5), .second, .val (.long qp6), .second, .val (.ref b1), .val (.ref b15), .val (.ref b21), .val (.int (2 : Int32)), .val (.long (qp6 &&& (own_low w2))), .second, .unset, .unset, .unset, .unset, .unset, .unset, .unset, .unset, .unset, .unset, .unset, .unset, .unset, .unset, .unset]) rfl k))) ?_
    show own_Go p.tables e below RR (T30.setTop (mkF m 86 #[.val (.int p1), .val (.int p2), .val (.long qp3), .second, .val (.long qp4), .second, .val (.long qp5), .second, .val (.long qp6), .second, .val (.ref b1), .val (.ref b15), .val (.ref b21), .val (.int (2 : Int32)), .val (.long (qp6 &&& (own_low w2))), .second, .unset, .unset, .unset, .unset, .unset, .unset, .unset, .unset, .unset, .unset, .unset, .unset, .unset, .unset, .unset] []))
    have lay := own_layout hw0 hw1 hw2
    have Vl : Arv Z h30 b21 k21 .long (3 : Int32) ([qp3, qp4, qp5].map Value.long) (.long (0 : Int64)) := V30
    show own_Go p.tables e below RR (T30.setTop (mkF m 86 #[.val (.int p1), .val (.int p2), .val (.long qp3), .second, .val (.long qp4), .second, .val (.long qp5), .second, .val (.long qp6), .second, .val (.ref b1), .val (.ref b15), .val (.ref b21), .val (.int (2 : Int32)), .val (.long (qp6 &&& (own_low w2))), .second, .unset, .unset, .unset, .unset, .unset, .unset, .unset, .unset, .unset, .unset, .unset, .unset, .unset, .unset, .unset] []))
    refine own_st (fun _ k => XS.aload X30.here hx rfl (hb hby at_86) rfl rfl (XS.aload X30.here hx rfl (hb hby at_88) rfl rfl (XS.iconst X30.here hx rfl (hb hby at_90) k))) ?_
    show own_Go p.tables e below RR (T30.setTop (mkF m 91 #[.val (.int p1), .val (.int p2), .val (.long qp3), .second, .val (.long qp4), .second, .val (.long qp5), .second, .val (.long qp6), .second, .val (.ref b1), .val (.ref b15), .val (.ref b21), .val (.int (2 : Int32)), .val (.long (qp6 &&& (own_low w2))), .second, .unset, .unset, .unset, .unset, .unset, .unset, .unset, .unset, .unset, .unset, .unset, .unset, .unset, .unset, .unset] [(.int (0 : Int32)), (.ref b21), (.ref b15)]))
    have ne110 : aw ≠ b21 := (Nat.ne_of_lt (Nat.lt_of_lt_of_le Vaw19.lt (Nat.le_of_eq gb21.symm)))
    have f111 := ((((Vaw19.ext E21).other W24 ne110).other W27 ne110).other W30 ne110)
    have ne112 : as_ ≠ b21 := (Nat.ne_of_lt (Nat.lt_of_lt_of_le Vas_19.lt (Nat.le_of_eq gb21.symm)))
    have f113 := ((((Vas_19.ext E21).other W24 ne112).other W27 ne112).other W30 ne112)
    have ne114 : am ≠ b21 := (Nat.ne_of_lt (Nat.lt_of_lt_of_le Vam19.lt (Nat.le_of_eq gb21.symm)))
    have f115 := ((((Vam19.ext E21).other W24 ne114).other W27 ne114).other W30 ne114)
    have ne116 : b15 ≠ b21 := (Nat.ne_of_lt (Nat.lt_of_lt_of_le Eq19.lt (Nat.le_of_eq gb21.symm)))
    have f117 := ((((Faw19.ext E21).other W24 (Or.inl ne116)).other W27 (Or.inl ne116)).other W30 (Or.inl ne116))
    have f118 := ((((Fas_19.ext E21).other W24 (Or.inl ne116)).other W27 (Or.inl ne116)).other W30 (Or.inl ne116))
    have f119 := ((((Fam19.ext E21).other W24 (Or.inl ne116)).other W27 (Or.inl ne116)).other W30 (Or.inl ne116))
    have f121 := ((((Eq19.ext E21).wr W24).wr W27).wr W30)
    obtain ⟨cq120, kq120, q120a, q120b, q120c⟩ := isOf hZ e30 f121
    obtain ⟨_, _, ⟨T120, L120, k120, n120⟩, -, X120, ⟨Lc120, hQ120, l120, y120, z120⟩, st120⟩ := X30.virtualBack hx (y := (⟨"com/example/nesiph/nesiph/MarkingSet", "tokens", "([JI)J"⟩ : MethodName)) (z := (⟨"com/example/nesiph/nesiph/MarkingSet", "tokens", "([JI)J"⟩ : MethodName)) hown (mvT hZ (hw _ (List.mem_of_getElem? (i := 61) rfl))) (mvT hZ (hw _ (List.mem_of_getElem? (i := 62) rfl))) (notFace_of_selects (args := #[]) (mvT hZ (hw _ (List.mem_of_getElem? (i := 64) rfl)))) (mvT hZ (hw _ (List.mem_of_getElem? (i := 64) rfl))) (mvT hZ (hw _ (List.mem_of_getElem? (i := 63) rfl))) (by decide) (backOf (W := 0) (own_rmTL0 l Z a0 hw [] b15 b21 k21 [qp3, qp4, qp5] aw as_ am kw ks km (0 : Int32) (own_wo1 w0 w1) (own_wo2 w0 w1 w2) (0 : Int32) (own_sh1 w0 w1) (own_sh2 w0 w1 w2) (own_low w0) (own_low w1) (own_low w2) h30 n0 z31 f117 f118 f119 Vl f111 f113 f115 rfl ⟨by decide, by decide⟩) hZ (hw _ (List.mem_of_getElem? (i := 65) rfl)) (hw _ (List.mem_of_getElem? (i := 8) rfl)) (by decide) (by decide)) q120a q120c (g := (mkF m 91 #[.val (.int p1), .val (.int p2), .val (.long qp3), .second, .val (.long qp4), .second, .val (.long qp5), .second, .val (.long qp6), .second, .val (.ref b1), .val (.ref b15), .val (.ref b21), .val (.int (2 : Int32)), .val (.long (qp6 &&& (own_low w2))), .second, .unset, .unset, .unset, .unset, .unset, .unset, .unset, .unset, .unset, .unset, .unset, .unset, .unset, .unset, .unset] [(.int (0 : Int32)), (.ref b21), (.ref b15)])) rfl (by rw [hml]; rfl) (Steps.refl _) (argsL := [(.ref b21), (.int (0 : Int32))]) (rest := []) (lenOf own_pd___JI_J rfl) rfl (by show 2 * 0 + _ ≤ _; exact Nat.le_of_eq rfl) (hb hby at_91) (fun _ _ => ⟨rfl, e30, (by decide : 9 + 0 ≤ _), (by decide : 43 + 0 ≤ _)⟩)
    dsimp only [Pt.U, Pt.locs, Pt.cells, Pt.slots] at X120 l120 y120 z120 st120 hQ120
    subst l120 y120 z120
    obtain ⟨rfl, Nq120, eq120⟩ := hQ120
    have N120 := Fr.app N30 Nq120
    refine own_st (fun _ k => st120.trans k) ?_
    show own_Go p.tables e below RR (T120.setTop (mkF m 94 #[.val (.int p1), .val (.int p2), .val (.long qp3), .second, .val (.long qp4), .second, .val (.long qp5), .second, .val (.long qp6), .second, .val (.ref b1), .val (.ref b15), .val (.ref b21), .val (.int (2 : Int32)), .val (.long (qp6 &&& (own_low w2))), .second, .unset, .unset, .unset, .unset, .unset, .unset, .unset, .unset, .unset, .unset, .unset, .unset, .unset, .unset, .unset] [(.long (own_G [qp3, qp4, qp5] (0 : Int32) (0 : Int32) (own_low w0)))]))
    refine own_st (fun _ k => XS.lstore X120.here hx rfl (hb hby at_94) rfl (l' := #[.val (.int p1), .val (.int p2), .val (.long qp3), .second, .val (.long qp4), .second, .val (.long qp5), .second, .val (.long qp6), .second, .val (.ref b1), .val (.ref b15), .val (.ref b21), .val (.int (2 : Int32)), .val (.long (qp6 &&& (own_low w2))), .second, .val (.long (own_G [qp3, qp4, qp5] (0 : Int32) (0 : Int32) (own_low w0))), .second, .unset, .unset, .unset, .unset, .unset, .unset, .unset, .unset, .unset, .unset, .unset, .unset, .unset]) rfl (XS.aload X120.here hx rfl (hb hby at_96) rfl rfl (XS.aload X120.here hx rfl (hb hby at_98) rfl rfl (XS.iconst X120.here hx rfl (hb hby at_100) k)))) ?_
    show own_Go p.tables e below RR (T120.setTop (mkF m 101 #[.val (.int p1), .val (.int p2), .val (.long qp3), .second, .val (.long qp4), .second, .val (.long qp5), .second, .val (.long qp6), .second, .val (.ref b1), .val (.ref b15), .val (.ref b21), .val (.int (2 : Int32)), .val (.long (qp6 &&& (own_low w2))), .second, .val (.long (own_G [qp3, qp4, qp5] (0 : Int32) (0 : Int32) (own_low w0))), .second, .unset, .unset, .unset, .unset, .unset, .unset, .unset, .unset, .unset, .unset, .unset, .unset, .unset] [(.int (1 : Int32)), (.ref b21), (.ref b15)]))
    obtain ⟨cq122, kq122, q122a, q122b, q122c⟩ := isOf hZ eq120 f121
    obtain ⟨_, _, ⟨T122, L122, k122, n122⟩, -, X122, ⟨Lc122, hQ122, l122, y122, z122⟩, st122⟩ := X120.virtualBack hx (y := (⟨"com/example/nesiph/nesiph/MarkingSet", "tokens", "([JI)J"⟩ : MethodName)) (z := (⟨"com/example/nesiph/nesiph/MarkingSet", "tokens", "([JI)J"⟩ : MethodName)) hown (mvT hZ (hw _ (List.mem_of_getElem? (i := 61) rfl))) (mvT hZ (hw _ (List.mem_of_getElem? (i := 62) rfl))) (notFace_of_selects (args := #[]) (mvT hZ (hw _ (List.mem_of_getElem? (i := 64) rfl)))) (mvT hZ (hw _ (List.mem_of_getElem? (i := 64) rfl))) (mvT hZ (hw _ (List.mem_of_getElem? (i := 63) rfl))) (by decide) (backOf (W := 0) (own_rmTL1 l Z a0 hw [] b15 b21 k21 [qp3, qp4, qp5] aw as_ am kw ks km (0 : Int32) (own_wo1 w0 w1) (own_wo2 w0 w1 w2) (0 : Int32) (own_sh1 w0 w1) (own_sh2 w0 w1 w2) (own_low w0) (own_low w1) (own_low w2) h30 n0 z31 f117 f118 f119 Vl f111 f113 f115 rfl lay.1) hZ (hw _ (List.mem_of_getElem? (i := 65) rfl)) (hw _ (List.mem_of_getElem? (i := 8) rfl)) (by decide) (by decide)) q122a q122c (g := (mkF m 101 #[.val (.int p1), .val (.int p2), .val (.long qp3), .second, .val (.long qp4), .second, .val (.long qp5), .second, .val (.long qp6), .second, .val (.ref b1), .val (.ref b15), .val (.ref b21), .val (.int (2 : Int32)), .val (.long (qp6 &&& (own_low w2))), .second, .val (.long (own_G [qp3, qp4, qp5] (0 : Int32) (0 : Int32) (own_low w0))), .second, .unset, .unset, .unset, .unset, .unset, .unset, .unset, .unset, .unset, .unset, .unset, .unset, .unset] [(.int (1 : Int32)), (.ref b21), (.ref b15)])) rfl (by rw [hml]; rfl) (Steps.refl _) (argsL := [(.ref b21), (.int (1 : Int32))]) (rest := []) (lenOf own_pd___JI_J rfl) rfl (by show 2 * 0 + _ ≤ _; exact Nat.le_of_eq rfl) (hb hby at_101) (fun _ _ => ⟨rfl, eq120, (by decide : 9 + 0 ≤ _), (by decide : 43 + 0 ≤ _)⟩)
    dsimp only [Pt.U, Pt.locs, Pt.cells, Pt.slots] at X122 l122 y122 z122 st122 hQ122
    subst l122 y122 z122
    obtain ⟨rfl, Nq122, eq122⟩ := hQ122
    have N122 := Fr.app N120 Nq122
    refine own_st (fun _ k => st122.trans k) ?_
    show own_Go p.tables e below RR (T122.setTop (mkF m 104 #[.val (.int p1), .val (.int p2), .val (.long qp3), .second, .val (.long qp4), .second, .val (.long qp5), .second, .val (.long qp6), .second, .val (.ref b1), .val (.ref b15), .val (.ref b21), .val (.int (2 : Int32)), .val (.long (qp6 &&& (own_low w2))), .second, .val (.long (own_G [qp3, qp4, qp5] (0 : Int32) (0 : Int32) (own_low w0))), .second, .unset, .unset, .unset, .unset, .unset, .unset, .unset, .unset, .unset, .unset, .unset, .unset, .unset] [(.long (own_G [qp3, qp4, qp5] (own_wo1 w0 w1) (own_sh1 w0 w1) (own_low w1)))]))
    refine own_st (fun _ k => XS.lstore X122.here hx rfl (hb hby at_104) rfl (l' := #[.val (.int p1), .val (.int p2), .val (.long qp3), .second, .val (.long qp4), .second, .val (.long qp5), .second, .val (.long qp6), .second, .val (.ref b1), .val (.ref b15), .val (.ref b21), .val (.int (2 : Int32)), .val (.long (qp6 &&& (own_low w2))), .second, .val (.long (own_G [qp3, qp4, qp5] (0 : Int32) (0 : Int32) (own_low w0))), .second, .val (.long (own_G [qp3, qp4, qp5] (own_wo1 w0 w1) (own_sh1 w0 w1) (own_low w1))), .second, .unset, .unset, .unset, .unset, .unset, .unset, .unset, .unset, .unset, .unset, .unset]) rfl (XS.aload X122.here hx rfl (hb hby at_106) rfl rfl (XS.aload X122.here hx rfl (hb hby at_108) rfl rfl (XS.iconst X122.here hx rfl (hb hby at_110) k)))) ?_
    show own_Go p.tables e below RR (T122.setTop (mkF m 111 #[.val (.int p1), .val (.int p2), .val (.long qp3), .second, .val (.long qp4), .second, .val (.long qp5), .second, .val (.long qp6), .second, .val (.ref b1), .val (.ref b15), .val (.ref b21), .val (.int (2 : Int32)), .val (.long (qp6 &&& (own_low w2))), .second, .val (.long (own_G [qp3, qp4, qp5] (0 : Int32) (0 : Int32) (own_low w0))), .second, .val (.long (own_G [qp3, qp4, qp5] (own_wo1 w0 w1) (own_sh1 w0 w1) (own_low w1))), .second, .unset, .unset, .unset, .unset, .unset, .unset, .unset, .unset, .unset, .unset, .unset] [(.int (2 : Int32)), (.ref b21), (.ref b15)]))
    obtain ⟨cq123, kq123, q123a, q123b, q123c⟩ := isOf hZ eq122 f121
    obtain ⟨_, _, ⟨T123, L123, k123, n123⟩, -, X123, ⟨Lc123, hQ123, l123, y123, z123⟩, st123⟩ := X122.virtualBack hx (y := (⟨"com/example/nesiph/nesiph/MarkingSet", "tokens", "([JI)J"⟩ : MethodName)) (z := (⟨"com/example/nesiph/nesiph/MarkingSet", "tokens", "([JI)J"⟩ : MethodName)) hown (mvT hZ (hw _ (List.mem_of_getElem? (i := 61) rfl))) (mvT hZ (hw _ (List.mem_of_getElem? (i := 62) rfl))) (notFace_of_selects (args := #[]) (mvT hZ (hw _ (List.mem_of_getElem? (i := 64) rfl)))) (mvT hZ (hw _ (List.mem_of_getElem? (i := 64) rfl))) (mvT hZ (hw _ (List.mem_of_getElem? (i := 63) rfl))) (by decide) (backOf (W := 0) (own_rmTL2 l Z a0 hw [] b15 b21 k21 [qp3, qp4, qp5] aw as_ am kw ks km (0 : Int32) (own_wo1 w0 w1) (own_wo2 w0 w1 w2) (0 : Int32) (own_sh1 w0 w1) (own_sh2 w0 w1 w2) (own_low w0) (own_low w1) (own_low w2) h30 n0 z31 f117 f118 f119 Vl f111 f113 f115 rfl lay.2.1) hZ (hw _ (List.mem_of_getElem? (i := 65) rfl)) (hw _ (List.mem_of_getElem? (i := 8) rfl)) (by decide) (by decide)) q123a q123c (g := (mkF m 111 #[.val (.int p1), .val (.int p2), .val (.long qp3), .second, .val (.long qp4), .second, .val (.long qp5), .second, .val (.long qp6), .second, .val (.ref b1), .val (.ref b15), .val (.ref b21), .val (.int (2 : Int32)), .val (.long (qp6 &&& (own_low w2))), .second, .val (.long (own_G [qp3, qp4, qp5] (0 : Int32) (0 : Int32) (own_low w0))), .second, .val (.long (own_G [qp3, qp4, qp5] (own_wo1 w0 w1) (own_sh1 w0 w1) (own_low w1))), .second, .unset, .unset, .unset, .unset, .unset, .unset, .unset, .unset, .unset, .unset, .unset] [(.int (2 : Int32)), (.ref b21), (.ref b15)])) rfl (by rw [hml]; rfl) (Steps.refl _) (argsL := [(.ref b21), (.int (2 : Int32))]) (rest := []) (lenOf own_pd___JI_J rfl) rfl (by show 2 * 0 + _ ≤ _; exact Nat.le_of_eq rfl) (hb hby at_111) (fun _ _ => ⟨rfl, eq122, (by decide : 9 + 0 ≤ _), (by decide : 43 + 0 ≤ _)⟩)
    dsimp only [Pt.U, Pt.locs, Pt.cells, Pt.slots] at X123 l123 y123 z123 st123 hQ123
    subst l123 y123 z123
    obtain ⟨rfl, Nq123, eq123⟩ := hQ123
    have N123 := Fr.app N122 Nq123
    refine own_st (fun _ k => st123.trans k) ?_
    show own_Go p.tables e below RR (T123.setTop (mkF m 114 #[.val (.int p1), .val (.int p2), .val (.long qp3), .second, .val (.long qp4), .second, .val (.long qp5), .second, .val (.long qp6), .second, .val (.ref b1), .val (.ref b15), .val (.ref b21), .val (.int (2 : Int32)), .val (.long (qp6 &&& (own_low w2))), .second, .val (.long (own_G [qp3, qp4, qp5] (0 : Int32) (0 : Int32) (own_low w0))), .second, .val (.long (own_G [qp3, qp4, qp5] (own_wo1 w0 w1) (own_sh1 w0 w1) (own_low w1))), .second, .unset, .unset, .unset, .unset, .unset, .unset, .unset, .unset, .unset, .unset, .unset] [(.long (own_G [qp3, qp4, qp5] (own_wo2 w0 w1 w2) (own_sh2 w0 w1 w2) (own_low w2)))]))
    refine own_st (fun _ k => XS.lstore X123.here hx rfl (hb hby at_114) rfl (l' := #[.val (.int p1), .val (.int p2), .val (.long qp3), .second, .val (.long qp4), .second, .val (.long qp5), .second, .val (.long qp6), .second, .val (.ref b1), .val (.ref b15), .val (.ref b21), .val (.int (2 : Int32)), .val (.long (qp6 &&& (own_low w2))), .second, .val (.long (own_G [qp3, qp4, qp5] (0 : Int32) (0 : Int32) (own_low w0))), .second, .val (.long (own_G [qp3, qp4, qp5] (own_wo1 w0 w1) (own_sh1 w0 w1) (own_low w1))), .second, .val (.long (own_G [qp3, qp4, qp5] (own_wo2 w0 w1 w2) (own_sh2 w0 w1 w2) (own_low w2))), .second, .unset, .unset, .unset, .unset, .unset, .unset, .unset, .unset, .unset]) rfl (XS.iload X123.here hx rfl (hb hby at_116) rfl k)) ?_
    show own_Go p.tables e below RR (T123.setTop (mkF m 118 #[.val (.int p1), .val (.int p2), .val (.long qp3), .second, .val (.long qp4), .second, .val (.long qp5), .second, .val (.long qp6), .second, .val (.ref b1), .val (.ref b15), .val (.ref b21), .val (.int (2 : Int32)), .val (.long (qp6 &&& (own_low w2))), .second, .val (.long (own_G [qp3, qp4, qp5] (0 : Int32) (0 : Int32) (own_low w0))), .second, .val (.long (own_G [qp3, qp4, qp5] (own_wo1 w0 w1) (own_sh1 w0 w1) (own_low w1))), .second, .val (.long (own_G [qp3, qp4, qp5] (own_wo2 w0 w1 w2) (own_sh2 w0 w1 w2) (own_low w2))), .second, .unset, .unset, .unset, .unset, .unset, .unset, .unset, .unset, .unset] [(.int (2 : Int32))]))
    refine own_st (fun _ k => XS.ifYes X123.here hx rfl (pc0 := 118) (pc' := 126) rfl (hb hby at_118) rfl ((if0 _ _).trans (feq (by decide)).2) (by decide) (by decide) (XS.iload X123.here hx rfl (hb hby at_126) rfl (XS.iconst X123.here hx rfl (hb hby at_128) k))) ?_
    show own_Go p.tables e below RR (T123.setTop (mkF m 129 #[.val (.int p1), .val (.int p2), .val (.long qp3), .second, .val (.long qp4), .second, .val (.long qp5), .second, .val (.long qp6), .second, .val (.ref b1), .val (.ref b15), .val (.ref b21), .val (.int (2 : Int32)), .val (.long (qp6 &&& (own_low w2))), .second, .val (.long (own_G [qp3, qp4, qp5] (0 : Int32) (0 : Int32) (own_low w0))), .second, .val (.long (own_G [qp3, qp4, qp5] (own_wo1 w0 w1) (own_sh1 w0 w1) (own_low w1))), .second, .val (.long (own_G [qp3, qp4, qp5] (own_wo2 w0 w1 w2) (own_sh2 w0 w1 w2) (own_low w2))), .second, .unset, .unset, .unset, .unset, .unset, .unset, .unset, .unset, .unset] [(.int (1 : Int32)), (.int (2 : Int32))]))
    refine own_st (fun _ k => XS.icmpYes X123.here hx rfl (pc0 := 129) (pc' := 137) rfl (hb hby at_129) rfl (feq (by decide)).2 (by decide) (by decide) (XS.lload X123.here hx rfl (hb hby at_137) rfl (XS.lstore X123.here hx rfl (hb hby at_139) rfl (l' := #[.val (.int p1), .val (.int p2), .val (.long qp3), .second, .val (.long qp4), .second, .val (.long qp5), .second, .val (.long qp6), .second, .val (.ref b1), .val (.ref b15), .val (.ref b21), .val (.int (2 : Int32)), .val (.long (qp6 &&& (own_low w2))), .second, .val (.long (own_G [qp3, qp4, qp5] (0 : Int32) (0 : Int32) (own_low w0))), .second, .val (.long (own_G [qp3, qp4, qp5] (own_wo1 w0 w1) (own_sh1 w0 w1) (own_low w1))), .second, .val (.long (own_G [qp3, qp4, qp5] (own_wo2 w0 w1 w2) (own_sh2 w0 w1 w2) (own_low w2))), .second, .val (.long (own_G [qp3, qp4, qp5] (own_wo2 w0 w1 w2) (own_sh2 w0 w1 w2) (own_low w2))), .second, .unset, .unset, .unset, .unset, .unset, .unset, .unset]) rfl (XS.aload X123.here hx rfl (hb hby at_141) rfl rfl (XS.aload X123.here hx rfl (hb hby at_143) rfl rfl (XS.iload X123.here hx rfl (hb hby at_145) rfl (XS.lload X123.here hx rfl (hb hby at_147) rfl k))))))) ?_
    show own_Go p.tables e below RR (T123.setTop (mkF m 149 #[.val (.int p1), .val (.int p2), .val (.long qp3), .second, .val (.long qp4), .second, .val (.long qp5), .second, .val (.long qp6), .second, .val (.ref b1), .val (.ref b15), .val (.ref b21), .val (.int (2 : Int32)), .val (.long (qp6 &&& (own_low w2))), .second, .val (.long (own_G [qp3, qp4, qp5] (0 : Int32) (0 : Int32) (own_low w0))), .second, .val (.long (own_G [qp3, qp4, qp5] (own_wo1 w0 w1) (own_sh1 w0 w1) (own_low w1))), .second, .val (.long (own_G [qp3, qp4, qp5] (own_wo2 w0 w1 w2) (own_sh2 w0 w1 w2) (own_low w2))), .second, .val (.long (own_G [qp3, qp4, qp5] (own_wo2 w0 w1 w2) (own_sh2 w0 w1 w2) (own_low w2))), .second, .unset, .unset, .unset, .unset, .unset, .unset, .unset] [(.long (qp6 &&& (own_low w2))), (.int (2 : Int32)), (.ref b21), (.ref b15)]))
    obtain ⟨cq124, kq124, q124a, q124b, q124c⟩ := isOf hZ eq123 f121
    obtain ⟨_, _, ⟨T124, L124, k124, n124⟩, -, X124, ⟨Lc124, hQ124, l124, y124, z124⟩, st124⟩ := X123.virtualBack hx (y := (⟨"com/example/nesiph/nesiph/MarkingSet", "setTokens", "([JIJ)V"⟩ : MethodName)) (z := (⟨"com/example/nesiph/nesiph/MarkingSet", "setTokens", "([JIJ)V"⟩ : MethodName)) hown (mvT hZ (hw _ (List.mem_of_getElem? (i := 66) rfl))) (mvT hZ (hw _ (List.mem_of_getElem? (i := 67) rfl))) (notFace_of_selects (args := #[]) (mvT hZ (hw _ (List.mem_of_getElem? (i := 69) rfl)))) (mvT hZ (hw _ (List.mem_of_getElem? (i := 69) rfl))) (mvT hZ (hw _ (List.mem_of_getElem? (i := 68) rfl))) (by decide) (backOf (W := 0) (own_rmSL2 l Z a0 hw [] b15 b21 k21 [qp3, qp4, qp5] aw as_ am kw ks km (0 : Int32) (own_wo1 w0 w1) (own_wo2 w0 w1 w2) (0 : Int32) (own_sh1 w0 w1) (own_sh2 w0 w1 w2) (own_low w0) (own_low w1) (own_low w2) (qp6 &&& (own_low w2)) h30 n0 z31 f117 f118 f119 Vl f111 f113 f115 rfl lay.2.1 ge21) hZ (hw _ (List.mem_of_getElem? (i := 70) rfl)) (hw _ (List.mem_of_getElem? (i := 8) rfl)) (by decide) (by decide)) q124a q124c (g := (mkF m 149 #[.val (.int p1), .val (.int p2), .val (.long qp3), .second, .val (.long qp4), .second, .val (.long qp5), .second, .val (.long qp6), .second, .val (.ref b1), .val (.ref b15), .val (.ref b21), .val (.int (2 : Int32)), .val (.long (qp6 &&& (own_low w2))), .second, .val (.long (own_G [qp3, qp4, qp5] (0 : Int32) (0 : Int32) (own_low w0))), .second, .val (.long (own_G [qp3, qp4, qp5] (own_wo1 w0 w1) (own_sh1 w0 w1) (own_low w1))), .second, .val (.long (own_G [qp3, qp4, qp5] (own_wo2 w0 w1 w2) (own_sh2 w0 w1 w2) (own_low w2))), .second, .val (.long (own_G [qp3, qp4, qp5] (own_wo2 w0 w1 w2) (own_sh2 w0 w1 w2) (own_low w2))), .second, .unset, .unset, .unset, .unset, .unset, .unset, .unset] [(.long (qp6 &&& (own_low w2))), (.int (2 : Int32)), (.ref b21), (.ref b15)])) rfl (by rw [hml]; rfl) (Steps.refl _) (argsL := [(.ref b21), (.int (2 : Int32)), (.long (qp6 &&& (own_low w2)))]) (rest := []) (lenOf own_pd___JIJ_V rfl) rfl (by show 2 * 0 + _ ≤ _; exact Nat.le_of_eq rfl) (hb hby at_149) (fun _ _ => ⟨rfl, eq123, (by decide : 9 + 0 ≤ _), (by decide : 43 + 0 ≤ _)⟩)
    dsimp only [Pt.U, Pt.locs, Pt.cells, Pt.slots] at X124 l124 y124 z124 st124 hQ124
    subst l124 y124 z124
    obtain ⟨rfl, Nq124, Kq124, Vq124⟩ := hQ124
    have N124 := Fr.app N123 Nq124
    refine own_st (fun _ k => st124.trans k) ?_
    have z125 : n0 ≤ T124.heap.size := Nat.le_trans z31 Kq124.1
    show own_Go p.tables e below RR (T124.setTop (mkF m 152 #[.val (.int p1), .val (.int p2), .val (.long qp3), .second, .val (.long qp4), .second, .val (.long qp5), .second, .val (.long qp6), .second, .val (.ref b1), .val (.ref b15), .val (.ref b21), .val (.int (2 : Int32)), .val (.long (qp6 &&& (own_low w2))), .second, .val (.long (own_G [qp3, qp4, qp5] (0 : Int32) (0 : Int32) (own_low w0))), .second, .val (.long (own_G [qp3, qp4, qp5] (own_wo1 w0 w1) (own_sh1 w0 w1) (own_low w1))), .second, .val (.long (own_G [qp3, qp4, qp5] (own_wo2 w0 w1 w2) (own_sh2 w0 w1 w2) (own_low w2))), .second, .val (.long (own_G [qp3, qp4, qp5] (own_wo2 w0 w1 w2) (own_sh2 w0 w1 w2) (own_low w2))), .second, .unset, .unset, .unset, .unset, .unset, .unset, .unset] []))
    refine own_st (fun _ k => XS.iload X124.here hx rfl (hb hby at_152) rfl k) ?_
    show own_Go p.tables e below RR (T124.setTop (mkF m 154 #[.val (.int p1), .val (.int p2), .val (.long qp3), .second, .val (.long qp4), .second, .val (.long qp5), .second, .val (.long qp6), .second, .val (.ref b1), .val (.ref b15), .val (.ref b21), .val (.int (2 : Int32)), .val (.long (qp6 &&& (own_low w2))), .second, .val (.long (own_G [qp3, qp4, qp5] (0 : Int32) (0 : Int32) (own_low w0))), .second, .val (.long (own_G [qp3, qp4, qp5] (own_wo1 w0 w1) (own_sh1 w0 w1) (own_low w1))), .second, .val (.long (own_G [qp3, qp4, qp5] (own_wo2 w0 w1 w2) (own_sh2 w0 w1 w2) (own_low w2))), .second, .val (.long (own_G [qp3, qp4, qp5] (own_wo2 w0 w1 w2) (own_sh2 w0 w1 w2) (own_low w2))), .second, .unset, .unset, .unset, .unset, .unset, .unset, .unset] [(.int (2 : Int32))]))
    refine own_st (fun _ k => XS.ifYes X124.here hx rfl (pc0 := 154) (pc' := 162) rfl (hb hby at_154) rfl ((if0 _ _).trans (feq (by decide)).2) (by decide) (by decide) (XS.lload X124.here hx rfl (hb hby at_162) rfl (XS.lstore X124.here hx rfl (hb hby at_164) rfl (l' := #[.val (.int p1), .val (.int p2), .val (.long qp3), .second, .val (.long qp4), .second, .val (.long qp5), .second, .val (.long qp6), .second, .val (.ref b1), .val (.ref b15), .val (.ref b21), .val (.int (2 : Int32)), .val (.long (qp6 &&& (own_low w2))), .second, .val (.long (own_G [qp3, qp4, qp5] (0 : Int32) (0 : Int32) (own_low w0))), .second, .val (.long (own_G [qp3, qp4, qp5] (own_wo1 w0 w1) (own_sh1 w0 w1) (own_low w1))), .second, .val (.long (own_G [qp3, qp4, qp5] (own_wo2 w0 w1 w2) (own_sh2 w0 w1 w2) (own_low w2))), .second, .val (.long (own_G [qp3, qp4, qp5] (own_wo2 w0 w1 w2) (own_sh2 w0 w1 w2) (own_low w2))), .second, .val (.long (own_G [qp3, qp4, qp5] (0 : Int32) (0 : Int32) (own_low w0))), .second, .unset, .unset, .unset, .unset, .unset]) rfl (XS.iload X124.here hx rfl (hb hby at_166) rfl (XS.iconst X124.here hx rfl (hb hby at_168) k))))) ?_
    show own_Go p.tables e below RR (T124.setTop (mkF m 169 #[.val (.int p1), .val (.int p2), .val (.long qp3), .second, .val (.long qp4), .second, .val (.long qp5), .second, .val (.long qp6), .second, .val (.ref b1), .val (.ref b15), .val (.ref b21), .val (.int (2 : Int32)), .val (.long (qp6 &&& (own_low w2))), .second, .val (.long (own_G [qp3, qp4, qp5] (0 : Int32) (0 : Int32) (own_low w0))), .second, .val (.long (own_G [qp3, qp4, qp5] (own_wo1 w0 w1) (own_sh1 w0 w1) (own_low w1))), .second, .val (.long (own_G [qp3, qp4, qp5] (own_wo2 w0 w1 w2) (own_sh2 w0 w1 w2) (own_low w2))), .second, .val (.long (own_G [qp3, qp4, qp5] (own_wo2 w0 w1 w2) (own_sh2 w0 w1 w2) (own_low w2))), .second, .val (.long (own_G [qp3, qp4, qp5] (0 : Int32) (0 : Int32) (own_low w0))), .second, .unset, .unset, .unset, .unset, .unset] [(.int (1 : Int32)), (.int (2 : Int32))]))
    refine own_st (fun _ k => XS.icmpYes X124.here hx rfl (pc0 := 169) (pc' := 177) rfl (hb hby at_169) rfl (feq (by decide)).2 (by decide) (by decide) (XS.lload X124.here hx rfl (hb hby at_177) rfl (XS.lstore X124.here hx rfl (hb hby at_179) rfl (l' := #[.val (.int p1), .val (.int p2), .val (.long qp3), .second, .val (.long qp4), .second, .val (.long qp5), .second, .val (.long qp6), .second, .val (.ref b1), .val (.ref b15), .val (.ref b21), .val (.int (2 : Int32)), .val (.long (qp6 &&& (own_low w2))), .second, .val (.long (own_G [qp3, qp4, qp5] (0 : Int32) (0 : Int32) (own_low w0))), .second, .val (.long (own_G [qp3, qp4, qp5] (own_wo1 w0 w1) (own_sh1 w0 w1) (own_low w1))), .second, .val (.long (own_G [qp3, qp4, qp5] (own_wo2 w0 w1 w2) (own_sh2 w0 w1 w2) (own_low w2))), .second, .val (.long (own_G [qp3, qp4, qp5] (own_wo2 w0 w1 w2) (own_sh2 w0 w1 w2) (own_low w2))), .second, .val (.long (own_G [qp3, qp4, qp5] (0 : Int32) (0 : Int32) (own_low w0))), .second, .val (.long (own_G [qp3, qp4, qp5] (own_wo1 w0 w1) (own_sh1 w0 w1) (own_low w1))), .second, .unset, .unset, .unset]) rfl (XS.iload X124.here hx rfl (hb hby at_181) rfl (XS.iconst X124.here hx rfl (hb hby at_183) k))))) ?_
    show own_Go p.tables e below RR (T124.setTop (mkF m 184 #[.val (.int p1), .val (.int p2), .val (.long qp3), .second, .val (.long qp4), .second, .val (.long qp5), .second, .val (.long qp6), .second, .val (.ref b1), .val (.ref b15), .val (.ref b21), .val (.int (2 : Int32)), .val (.long (qp6 &&& (own_low w2))), .second, .val (.long (own_G [qp3, qp4, qp5] (0 : Int32) (0 : Int32) (own_low w0))), .second, .val (.long (own_G [qp3, qp4, qp5] (own_wo1 w0 w1) (own_sh1 w0 w1) (own_low w1))), .second, .val (.long (own_G [qp3, qp4, qp5] (own_wo2 w0 w1 w2) (own_sh2 w0 w1 w2) (own_low w2))), .second, .val (.long (own_G [qp3, qp4, qp5] (own_wo2 w0 w1 w2) (own_sh2 w0 w1 w2) (own_low w2))), .second, .val (.long (own_G [qp3, qp4, qp5] (0 : Int32) (0 : Int32) (own_low w0))), .second, .val (.long (own_G [qp3, qp4, qp5] (own_wo1 w0 w1) (own_sh1 w0 w1) (own_low w1))), .second, .unset, .unset, .unset] [(.int (2 : Int32)), (.int (2 : Int32))]))
    refine own_st (fun _ k => XS.icmpNo X124.here hx rfl (hb hby at_184) rfl (teq (by decide)).2 (XS.lload X124.here hx rfl (hb hby at_187) rfl (XS.goto X124.here hx rfl (pc0 := 189) (pc' := 194) rfl (hb hby at_189) (by decide) (by decide) (XS.lstore X124.here hx rfl (hb hby at_194) rfl (l' := #[.val (.int p1), .val (.int p2), .val (.long qp3), .second, .val (.long qp4), .second, .val (.long qp5), .second, .val (.long qp6), .second, .val (.ref b1), .val (.ref b15), .val (.ref b21), .val (.int (2 : Int32)), .val (.long (qp6 &&& (own_low w2))), .second, .val (.long (own_G [qp3, qp4, qp5] (0 : Int32) (0 : Int32) (own_low w0))), .second, .val (.long (own_G [qp3, qp4, qp5] (own_wo1 w0 w1) (own_sh1 w0 w1) (own_low w1))), .second, .val (.long (own_G [qp3, qp4, qp5] (own_wo2 w0 w1 w2) (own_sh2 w0 w1 w2) (own_low w2))), .second, .val (.long (own_G [qp3, qp4, qp5] (own_wo2 w0 w1 w2) (own_sh2 w0 w1 w2) (own_low w2))), .second, .val (.long (own_G [qp3, qp4, qp5] (0 : Int32) (0 : Int32) (own_low w0))), .second, .val (.long (own_G [qp3, qp4, qp5] (own_wo1 w0 w1) (own_sh1 w0 w1) (own_low w1))), .second, .val (.long (qp6 &&& (own_low w2))), .second, .unset]) rfl (XS.aload X124.here hx rfl (hb hby at_196) rfl rfl (XS.aload X124.here hx rfl (hb hby at_198) rfl rfl (XS.iconst X124.here hx rfl (hb hby at_200) k))))))) ?_
    show own_Go p.tables e below RR (T124.setTop (mkF m 201 #[.val (.int p1), .val (.int p2), .val (.long qp3), .second, .val (.long qp4), .second, .val (.long qp5), .second, .val (.long qp6), .second, .val (.ref b1), .val (.ref b15), .val (.ref b21), .val (.int (2 : Int32)), .val (.long (qp6 &&& (own_low w2))), .second, .val (.long (own_G [qp3, qp4, qp5] (0 : Int32) (0 : Int32) (own_low w0))), .second, .val (.long (own_G [qp3, qp4, qp5] (own_wo1 w0 w1) (own_sh1 w0 w1) (own_low w1))), .second, .val (.long (own_G [qp3, qp4, qp5] (own_wo2 w0 w1 w2) (own_sh2 w0 w1 w2) (own_low w2))), .second, .val (.long (own_G [qp3, qp4, qp5] (own_wo2 w0 w1 w2) (own_sh2 w0 w1 w2) (own_low w2))), .second, .val (.long (own_G [qp3, qp4, qp5] (0 : Int32) (0 : Int32) (own_low w0))), .second, .val (.long (own_G [qp3, qp4, qp5] (own_wo1 w0 w1) (own_sh1 w0 w1) (own_low w1))), .second, .val (.long (qp6 &&& (own_low w2))), .second, .unset] [(.int (0 : Int32)), (.ref b21), (.ref b15)]))
    have f126 := (f111.keep Kq124 (ninS ne110 nin0))
    have f127 := (f113.keep Kq124 (ninS ne112 nin0))
    have f128 := (f115.keep Kq124 (ninS ne114 nin0))
    have f129 := (f117.keep Kq124 (ninS ne116 nin0))
    have f130 := (f118.keep Kq124 (ninS ne116 nin0))
    have f131 := (f119.keep Kq124 (ninS ne116 nin0))
    have f133 := (f121.keep Kq124)
    obtain ⟨cq132, kq132, q132a, q132b, q132c⟩ := isOf hZ rfl f133
    obtain ⟨_, _, ⟨T132, L132, k132, n132⟩, -, X132, ⟨Lc132, hQ132, l132, y132, z132⟩, st132⟩ := X124.virtualBack hx (y := (⟨"com/example/nesiph/nesiph/MarkingSet", "tokens", "([JI)J"⟩ : MethodName)) (z := (⟨"com/example/nesiph/nesiph/MarkingSet", "tokens", "([JI)J"⟩ : MethodName)) hown (mvT hZ (hw _ (List.mem_of_getElem? (i := 61) rfl))) (mvT hZ (hw _ (List.mem_of_getElem? (i := 62) rfl))) (notFace_of_selects (args := #[]) (mvT hZ (hw _ (List.mem_of_getElem? (i := 64) rfl)))) (mvT hZ (hw _ (List.mem_of_getElem? (i := 64) rfl))) (mvT hZ (hw _ (List.mem_of_getElem? (i := 63) rfl))) (by decide) (backOf (W := 0) (own_rmTL0 l Z a0 hw [] b15 b21 k21 (own_P [qp3, qp4, qp5] (own_wo2 w0 w1 w2) (own_sh2 w0 w1 w2) (own_low w2) (qp6 &&& (own_low w2))) aw as_ am kw ks km (0 : Int32) (own_wo1 w0 w1) (own_wo2 w0 w1 w2) (0 : Int32) (own_sh1 w0 w1) (own_sh2 w0 w1 w2) (own_low w0) (own_low w1) (own_low w2) T124.heap n0 z125 f129 f130 f131 Vq124 f126 f127 f128 (own_P_len rfl) ⟨by decide, by decide⟩) hZ (hw _ (List.mem_of_getElem? (i := 65) rfl)) (hw _ (List.mem_of_getElem? (i := 8) rfl)) (by decide) (by decide)) q132a q132c (g := (mkF m 201 #[.val (.int p1), .val (.int p2), .val (.long qp3), .second, .val (.long qp4), .second, .val (.long qp5), .second, .val (.long qp6), .second, .val (.ref b1), .val (.ref b15), .val (.ref b21), .val (.int (2 : Int32)), .val (.long (qp6 &&& (own_low w2))), .second, .val (.long (own_G [qp3, qp4, qp5] (0 : Int32) (0 : Int32) (own_low w0))), .second, .val (.long (own_G [qp3, qp4, qp5] (own_wo1 w0 w1) (own_sh1 w0 w1) (own_low w1))), .second, .val (.long (own_G [qp3, qp4, qp5] (own_wo2 w0 w1 w2) (own_sh2 w0 w1 w2) (own_low w2))), .second, .val (.long (own_G [qp3, qp4, qp5] (own_wo2 w0 w1 w2) (own_sh2 w0 w1 w2) (own_low w2))), .second, .val (.long (own_G [qp3, qp4, qp5] (0 : Int32) (0 : Int32) (own_low w0))), .second, .val (.long (own_G [qp3, qp4, qp5] (own_wo1 w0 w1) (own_sh1 w0 w1) (own_low w1))), .second, .val (.long (qp6 &&& (own_low w2))), .second, .unset] [(.int (0 : Int32)), (.ref b21), (.ref b15)])) rfl (by rw [hml]; rfl) (Steps.refl _) (argsL := [(.ref b21), (.int (0 : Int32))]) (rest := []) (lenOf own_pd___JI_J rfl) rfl (by show 2 * 0 + _ ≤ _; exact Nat.le_of_eq rfl) (hb hby at_201) (fun _ _ => ⟨rfl, rfl, (by decide : 9 + 0 ≤ _), (by decide : 43 + 0 ≤ _)⟩)
    dsimp only [Pt.U, Pt.locs, Pt.cells, Pt.slots] at X132 l132 y132 z132 st132 hQ132
    subst l132 y132 z132
    obtain ⟨rfl, Nq132, eq132⟩ := hQ132
    have N132 := Fr.app N124 Nq132
    refine own_st (fun _ k => st132.trans k) ?_
    show own_Go p.tables e below RR (T132.setTop (mkF m 204 #[.val (.int p1), .val (.int p2), .val (.long qp3), .second, .val (.long qp4), .second, .val (.long qp5), .second, .val (.long qp6), .second, .val (.ref b1), .val (.ref b15), .val (.ref b21), .val (.int (2 : Int32)), .val (.long (qp6 &&& (own_low w2))), .second, .val (.long (own_G [qp3, qp4, qp5] (0 : Int32) (0 : Int32) (own_low w0))), .second, .val (.long (own_G [qp3, qp4, qp5] (own_wo1 w0 w1) (own_sh1 w0 w1) (own_low w1))), .second, .val (.long (own_G [qp3, qp4, qp5] (own_wo2 w0 w1 w2) (own_sh2 w0 w1 w2) (own_low w2))), .second, .val (.long (own_G [qp3, qp4, qp5] (own_wo2 w0 w1 w2) (own_sh2 w0 w1 w2) (own_low w2))), .second, .val (.long (own_G [qp3, qp4, qp5] (0 : Int32) (0 : Int32) (own_low w0))), .second, .val (.long (own_G [qp3, qp4, qp5] (own_wo1 w0 w1) (own_sh1 w0 w1) (own_low w1))), .second, .val (.long (qp6 &&& (own_low w2))), .second, .unset] [(.long (own_G (own_P [qp3, qp4, qp5] (own_wo2 w0 w1 w2) (own_sh2 w0 w1 w2) (own_low w2) (qp6 &&& (own_low w2))) (0 : Int32) (0 : Int32) (own_low w0)))]))
    refine own_st (fun _ k => XS.lload X132.here hx rfl (hb hby at_204) rfl (XS.lcmp X132.here hx rfl (hb hby at_206) rfl k)) ?_
    show own_Go p.tables e below RR (T132.setTop (mkF m 207 #[.val (.int p1), .val (.int p2), .val (.long qp3), .second, .val (.long qp4), .second, .val (.long qp5), .second, .val (.long qp6), .second, .val (.ref b1), .val (.ref b15), .val (.ref b21), .val (.int (2 : Int32)), .val (.long (qp6 &&& (own_low w2))), .second, .val (.long (own_G [qp3, qp4, qp5] (0 : Int32) (0 : Int32) (own_low w0))), .second, .val (.long (own_G [qp3, qp4, qp5] (own_wo1 w0 w1) (own_sh1 w0 w1) (own_low w1))), .second, .val (.long (own_G [qp3, qp4, qp5] (own_wo2 w0 w1 w2) (own_sh2 w0 w1 w2) (own_low w2))), .second, .val (.long (own_G [qp3, qp4, qp5] (own_wo2 w0 w1 w2) (own_sh2 w0 w1 w2) (own_low w2))), .second, .val (.long (own_G [qp3, qp4, qp5] (0 : Int32) (0 : Int32) (own_low w0))), .second, .val (.long (own_G [qp3, qp4, qp5] (own_wo1 w0 w1) (own_sh1 w0 w1) (own_low w1))), .second, .val (.long (qp6 &&& (own_low w2))), .second, .unset] [(.int (lcmpW (own_G (own_P [qp3, qp4, qp5] (own_wo2 w0 w1 w2) (own_sh2 w0 w1 w2) (own_low w2) (qp6 &&& (own_low w2))) (0 : Int32) (0 : Int32) (own_low w0)) (own_G [qp3, qp4, qp5] (0 : Int32) (0 : Int32) (own_low w0))))]))
    have hc207_134 : (own_G (own_P [qp3, qp4, qp5] (own_wo2 w0 w1 w2) (own_sh2 w0 w1 w2) (own_low w2) (qp6 &&& (own_low w2))) (0 : Int32) (0 : Int32) (own_low w0)) = (own_G [qp3, qp4, qp5] (0 : Int32) (0 : Int32) (own_low w0)) := own_B (X := [qp3, qp4, qp5]) rfl lay.2.1 lay.2.2.2.1.1 hw2 lay.2.2.2.1.2 (own_and_fit hw2) ⟨by decide, by decide⟩ (by decide) hw0 (by have e : (0 : Int32).toInt = 0 := (by decide); omega) (own_D.symm lay.2.2.2.2.2.1)
    refine own_st (fun _ k => XS.ifNo X132.here hx rfl (hb hby at_207) rfl ((if0 _ _).trans (teq ((lw_eq _ _).mpr hc207_134)).2) (XS.aload X132.here hx rfl (hb hby at_210) rfl rfl (XS.aload X132.here hx rfl (hb hby at_212) rfl rfl (XS.iconst X132.here hx rfl (hb hby at_214) k)))) ?_
    show own_Go p.tables e below RR (T132.setTop (mkF m 215 #[.val (.int p1), .val (.int p2), .val (.long qp3), .second, .val (.long qp4), .second, .val (.long qp5), .second, .val (.long qp6), .second, .val (.ref b1), .val (.ref b15), .val (.ref b21), .val (.int (2 : Int32)), .val (.long (qp6 &&& (own_low w2))), .second, .val (.long (own_G [qp3, qp4, qp5] (0 : Int32) (0 : Int32) (own_low w0))), .second, .val (.long (own_G [qp3, qp4, qp5] (own_wo1 w0 w1) (own_sh1 w0 w1) (own_low w1))), .second, .val (.long (own_G [qp3, qp4, qp5] (own_wo2 w0 w1 w2) (own_sh2 w0 w1 w2) (own_low w2))), .second, .val (.long (own_G [qp3, qp4, qp5] (own_wo2 w0 w1 w2) (own_sh2 w0 w1 w2) (own_low w2))), .second, .val (.long (own_G [qp3, qp4, qp5] (0 : Int32) (0 : Int32) (own_low w0))), .second, .val (.long (own_G [qp3, qp4, qp5] (own_wo1 w0 w1) (own_sh1 w0 w1) (own_low w1))), .second, .val (.long (qp6 &&& (own_low w2))), .second, .unset] [(.int (1 : Int32)), (.ref b21), (.ref b15)]))
    obtain ⟨cq135, kq135, q135a, q135b, q135c⟩ := isOf hZ eq132 f133
    obtain ⟨_, _, ⟨T135, L135, k135, n135⟩, -, X135, ⟨Lc135, hQ135, l135, y135, z135⟩, st135⟩ := X132.virtualBack hx (y := (⟨"com/example/nesiph/nesiph/MarkingSet", "tokens", "([JI)J"⟩ : MethodName)) (z := (⟨"com/example/nesiph/nesiph/MarkingSet", "tokens", "([JI)J"⟩ : MethodName)) hown (mvT hZ (hw _ (List.mem_of_getElem? (i := 61) rfl))) (mvT hZ (hw _ (List.mem_of_getElem? (i := 62) rfl))) (notFace_of_selects (args := #[]) (mvT hZ (hw _ (List.mem_of_getElem? (i := 64) rfl)))) (mvT hZ (hw _ (List.mem_of_getElem? (i := 64) rfl))) (mvT hZ (hw _ (List.mem_of_getElem? (i := 63) rfl))) (by decide) (backOf (W := 0) (own_rmTL1 l Z a0 hw [] b15 b21 k21 (own_P [qp3, qp4, qp5] (own_wo2 w0 w1 w2) (own_sh2 w0 w1 w2) (own_low w2) (qp6 &&& (own_low w2))) aw as_ am kw ks km (0 : Int32) (own_wo1 w0 w1) (own_wo2 w0 w1 w2) (0 : Int32) (own_sh1 w0 w1) (own_sh2 w0 w1 w2) (own_low w0) (own_low w1) (own_low w2) T124.heap n0 z125 f129 f130 f131 Vq124 f126 f127 f128 (own_P_len rfl) lay.1) hZ (hw _ (List.mem_of_getElem? (i := 65) rfl)) (hw _ (List.mem_of_getElem? (i := 8) rfl)) (by decide) (by decide)) q135a q135c (g := (mkF m 215 #[.val (.int p1), .val (.int p2), .val (.long qp3), .second, .val (.long qp4), .second, .val (.long qp5), .second, .val (.long qp6), .second, .val (.ref b1), .val (.ref b15), .val (.ref b21), .val (.int (2 : Int32)), .val (.long (qp6 &&& (own_low w2))), .second, .val (.long (own_G [qp3, qp4, qp5] (0 : Int32) (0 : Int32) (own_low w0))), .second, .val (.long (own_G [qp3, qp4, qp5] (own_wo1 w0 w1) (own_sh1 w0 w1) (own_low w1))), .second, .val (.long (own_G [qp3, qp4, qp5] (own_wo2 w0 w1 w2) (own_sh2 w0 w1 w2) (own_low w2))), .second, .val (.long (own_G [qp3, qp4, qp5] (own_wo2 w0 w1 w2) (own_sh2 w0 w1 w2) (own_low w2))), .second, .val (.long (own_G [qp3, qp4, qp5] (0 : Int32) (0 : Int32) (own_low w0))), .second, .val (.long (own_G [qp3, qp4, qp5] (own_wo1 w0 w1) (own_sh1 w0 w1) (own_low w1))), .second, .val (.long (qp6 &&& (own_low w2))), .second, .unset] [(.int (1 : Int32)), (.ref b21), (.ref b15)])) rfl (by rw [hml]; rfl) (Steps.refl _) (argsL := [(.ref b21), (.int (1 : Int32))]) (rest := []) (lenOf own_pd___JI_J rfl) rfl (by show 2 * 0 + _ ≤ _; exact Nat.le_of_eq rfl) (hb hby at_215) (fun _ _ => ⟨rfl, eq132, (by decide : 9 + 0 ≤ _), (by decide : 43 + 0 ≤ _)⟩)
    dsimp only [Pt.U, Pt.locs, Pt.cells, Pt.slots] at X135 l135 y135 z135 st135 hQ135
    subst l135 y135 z135
    obtain ⟨rfl, Nq135, eq135⟩ := hQ135
    have N135 := Fr.app N132 Nq135
    refine own_st (fun _ k => st135.trans k) ?_
    show own_Go p.tables e below RR (T135.setTop (mkF m 218 #[.val (.int p1), .val (.int p2), .val (.long qp3), .second, .val (.long qp4), .second, .val (.long qp5), .second, .val (.long qp6), .second, .val (.ref b1), .val (.ref b15), .val (.ref b21), .val (.int (2 : Int32)), .val (.long (qp6 &&& (own_low w2))), .second, .val (.long (own_G [qp3, qp4, qp5] (0 : Int32) (0 : Int32) (own_low w0))), .second, .val (.long (own_G [qp3, qp4, qp5] (own_wo1 w0 w1) (own_sh1 w0 w1) (own_low w1))), .second, .val (.long (own_G [qp3, qp4, qp5] (own_wo2 w0 w1 w2) (own_sh2 w0 w1 w2) (own_low w2))), .second, .val (.long (own_G [qp3, qp4, qp5] (own_wo2 w0 w1 w2) (own_sh2 w0 w1 w2) (own_low w2))), .second, .val (.long (own_G [qp3, qp4, qp5] (0 : Int32) (0 : Int32) (own_low w0))), .second, .val (.long (own_G [qp3, qp4, qp5] (own_wo1 w0 w1) (own_sh1 w0 w1) (own_low w1))), .second, .val (.long (qp6 &&& (own_low w2))), .second, .unset] [(.long (own_G (own_P [qp3, qp4, qp5] (own_wo2 w0 w1 w2) (own_sh2 w0 w1 w2) (own_low w2) (qp6 &&& (own_low w2))) (own_wo1 w0 w1) (own_sh1 w0 w1) (own_low w1)))]))
    refine own_st (fun _ k => XS.lload X135.here hx rfl (hb hby at_218) rfl (XS.lcmp X135.here hx rfl (hb hby at_220) rfl k)) ?_
    show own_Go p.tables e below RR (T135.setTop (mkF m 221 #[.val (.int p1), .val (.int p2), .val (.long qp3), .second, .val (.long qp4), .second, .val (.long qp5), .second, .val (.long qp6), .second, .val (.ref b1), .val (.ref b15), .val (.ref b21), .val (.int (2 : Int32)), .val (.long (qp6 &&& (own_low w2))), .second, .val (.long (own_G [qp3, qp4, qp5] (0 : Int32) (0 : Int32) (own_low w0))), .second, .val (.long (own_G [qp3, qp4, qp5] (own_wo1 w0 w1) (own_sh1 w0 w1) (own_low w1))), .second, .val (.long (own_G [qp3, qp4, qp5] (own_wo2 w0 w1 w2) (own_sh2 w0 w1 w2) (own_low w2))), .second, .val (.long (own_G [qp3, qp4, qp5] (own_wo2 w0 w1 w2) (own_sh2 w0 w1 w2) (own_low w2))), .second, .val (.long (own_G [qp3, qp4, qp5] (0 : Int32) (0 : Int32) (own_low w0))), .second, .val (.long (own_G [qp3, qp4, qp5] (own_wo1 w0 w1) (own_sh1 w0 w1) (own_low w1))), .second, .val (.long (qp6 &&& (own_low w2))), .second, .unset] [(.int (lcmpW (own_G (own_P [qp3, qp4, qp5] (own_wo2 w0 w1 w2) (own_sh2 w0 w1 w2) (own_low w2) (qp6 &&& (own_low w2))) (own_wo1 w0 w1) (own_sh1 w0 w1) (own_low w1)) (own_G [qp3, qp4, qp5] (own_wo1 w0 w1) (own_sh1 w0 w1) (own_low w1))))]))
    have hc221_136 : (own_G (own_P [qp3, qp4, qp5] (own_wo2 w0 w1 w2) (own_sh2 w0 w1 w2) (own_low w2) (qp6 &&& (own_low w2))) (own_wo1 w0 w1) (own_sh1 w0 w1) (own_low w1)) = (own_G [qp3, qp4, qp5] (own_wo1 w0 w1) (own_sh1 w0 w1) (own_low w1)) := own_B (X := [qp3, qp4, qp5]) rfl lay.2.1 lay.2.2.2.1.1 hw2 lay.2.2.2.1.2 (own_and_fit hw2) lay.1 lay.2.2.1.1 hw1 lay.2.2.1.2 (own_D.symm lay.2.2.2.2.2.2)
    refine own_st (fun _ k => XS.ifNo X135.here hx rfl (hb hby at_221) rfl ((if0 _ _).trans (teq ((lw_eq _ _).mpr hc221_136)).2) (XS.aload X135.here hx rfl (hb hby at_224) rfl rfl (XS.aload X135.here hx rfl (hb hby at_226) rfl rfl (XS.iconst X135.here hx rfl (hb hby at_228) k)))) ?_
    show own_Go p.tables e below RR (T135.setTop (mkF m 229 #[.val (.int p1), .val (.int p2), .val (.long qp3), .second, .val (.long qp4), .second, .val (.long qp5), .second, .val (.long qp6), .second, .val (.ref b1), .val (.ref b15), .val (.ref b21), .val (.int (2 : Int32)), .val (.long (qp6 &&& (own_low w2))), .second, .val (.long (own_G [qp3, qp4, qp5] (0 : Int32) (0 : Int32) (own_low w0))), .second, .val (.long (own_G [qp3, qp4, qp5] (own_wo1 w0 w1) (own_sh1 w0 w1) (own_low w1))), .second, .val (.long (own_G [qp3, qp4, qp5] (own_wo2 w0 w1 w2) (own_sh2 w0 w1 w2) (own_low w2))), .second, .val (.long (own_G [qp3, qp4, qp5] (own_wo2 w0 w1 w2) (own_sh2 w0 w1 w2) (own_low w2))), .second, .val (.long (own_G [qp3, qp4, qp5] (0 : Int32) (0 : Int32) (own_low w0))), .second, .val (.long (own_G [qp3, qp4, qp5] (own_wo1 w0 w1) (own_sh1 w0 w1) (own_low w1))), .second, .val (.long (qp6 &&& (own_low w2))), .second, .unset] [(.int (2 : Int32)), (.ref b21), (.ref b15)]))
    obtain ⟨cq137, kq137, q137a, q137b, q137c⟩ := isOf hZ eq135 f133
    obtain ⟨_, _, ⟨T137, L137, k137, n137⟩, -, X137, ⟨Lc137, hQ137, l137, y137, z137⟩, st137⟩ := X135.virtualBack hx (y := (⟨"com/example/nesiph/nesiph/MarkingSet", "tokens", "([JI)J"⟩ : MethodName)) (z := (⟨"com/example/nesiph/nesiph/MarkingSet", "tokens", "([JI)J"⟩ : MethodName)) hown (mvT hZ (hw _ (List.mem_of_getElem? (i := 61) rfl))) (mvT hZ (hw _ (List.mem_of_getElem? (i := 62) rfl))) (notFace_of_selects (args := #[]) (mvT hZ (hw _ (List.mem_of_getElem? (i := 64) rfl)))) (mvT hZ (hw _ (List.mem_of_getElem? (i := 64) rfl))) (mvT hZ (hw _ (List.mem_of_getElem? (i := 63) rfl))) (by decide) (backOf (W := 0) (own_rmTL2 l Z a0 hw [] b15 b21 k21 (own_P [qp3, qp4, qp5] (own_wo2 w0 w1 w2) (own_sh2 w0 w1 w2) (own_low w2) (qp6 &&& (own_low w2))) aw as_ am kw ks km (0 : Int32) (own_wo1 w0 w1) (own_wo2 w0 w1 w2) (0 : Int32) (own_sh1 w0 w1) (own_sh2 w0 w1 w2) (own_low w0) (own_low w1) (own_low w2) T124.heap n0 z125 f129 f130 f131 Vq124 f126 f127 f128 (own_P_len rfl) lay.2.1) hZ (hw _ (List.mem_of_getElem? (i := 65) rfl)) (hw _ (List.mem_of_getElem? (i := 8) rfl)) (by decide) (by decide)) q137a q137c (g := (mkF m 229 #[.val (.int p1), .val (.int p2), .val (.long qp3), .second, .val (.long qp4), .second, .val (.long qp5), .second, .val (.long qp6), .second, .val (.ref b1), .val (.ref b15), .val (.ref b21), .val (.int (2 : Int32)), .val (.long (qp6 &&& (own_low w2))), .second, .val (.long (own_G [qp3, qp4, qp5] (0 : Int32) (0 : Int32) (own_low w0))), .second, .val (.long (own_G [qp3, qp4, qp5] (own_wo1 w0 w1) (own_sh1 w0 w1) (own_low w1))), .second, .val (.long (own_G [qp3, qp4, qp5] (own_wo2 w0 w1 w2) (own_sh2 w0 w1 w2) (own_low w2))), .second, .val (.long (own_G [qp3, qp4, qp5] (own_wo2 w0 w1 w2) (own_sh2 w0 w1 w2) (own_low w2))), .second, .val (.long (own_G [qp3, qp4, qp5] (0 : Int32) (0 : Int32) (own_low w0))), .second, .val (.long (own_G [qp3, qp4, qp5] (own_wo1 w0 w1) (own_sh1 w0 w1) (own_low w1))), .second, .val (.long (qp6 &&& (own_low w2))), .second, .unset] [(.int (2 : Int32)), (.ref b21), (.ref b15)])) rfl (by rw [hml]; rfl) (Steps.refl _) (argsL := [(.ref b21), (.int (2 : Int32))]) (rest := []) (lenOf own_pd___JI_J rfl) rfl (by show 2 * 0 + _ ≤ _; exact Nat.le_of_eq rfl) (hb hby at_229) (fun _ _ => ⟨rfl, eq135, (by decide : 9 + 0 ≤ _), (by decide : 43 + 0 ≤ _)⟩)
    dsimp only [Pt.U, Pt.locs, Pt.cells, Pt.slots] at X137 l137 y137 z137 st137 hQ137
    subst l137 y137 z137
    obtain ⟨rfl, Nq137, eq137⟩ := hQ137
    have N137 := Fr.app N135 Nq137
    refine own_st (fun _ k => st137.trans k) ?_
    show own_Go p.tables e below RR (T137.setTop (mkF m 232 #[.val (.int p1), .val (.int p2), .val (.long qp3), .second, .val (.long qp4), .second, .val (.long qp5), .second, .val (.long qp6), .second, .val (.ref b1), .val (.ref b15), .val (.ref b21), .val (.int (2 : Int32)), .val (.long (qp6 &&& (own_low w2))), .second, .val (.long (own_G [qp3, qp4, qp5] (0 : Int32) (0 : Int32) (own_low w0))), .second, .val (.long (own_G [qp3, qp4, qp5] (own_wo1 w0 w1) (own_sh1 w0 w1) (own_low w1))), .second, .val (.long (own_G [qp3, qp4, qp5] (own_wo2 w0 w1 w2) (own_sh2 w0 w1 w2) (own_low w2))), .second, .val (.long (own_G [qp3, qp4, qp5] (own_wo2 w0 w1 w2) (own_sh2 w0 w1 w2) (own_low w2))), .second, .val (.long (own_G [qp3, qp4, qp5] (0 : Int32) (0 : Int32) (own_low w0))), .second, .val (.long (own_G [qp3, qp4, qp5] (own_wo1 w0 w1) (own_sh1 w0 w1) (own_low w1))), .second, .val (.long (qp6 &&& (own_low w2))), .second, .unset] [(.long (own_G (own_P [qp3, qp4, qp5] (own_wo2 w0 w1 w2) (own_sh2 w0 w1 w2) (own_low w2) (qp6 &&& (own_low w2))) (own_wo2 w0 w1 w2) (own_sh2 w0 w1 w2) (own_low w2)))]))
    refine own_st (fun _ k => XS.lload X137.here hx rfl (hb hby at_232) rfl (XS.lcmp X137.here hx rfl (hb hby at_234) rfl k)) ?_
    show own_Go p.tables e below RR (T137.setTop (mkF m 235 #[.val (.int p1), .val (.int p2), .val (.long qp3), .second, .val (.long qp4), .second, .val (.long qp5), .second, .val (.long qp6), .second, .val (.ref b1), .val (.ref b15), .val (.ref b21), .val (.int (2 : Int32)), .val (.long (qp6 &&& (own_low w2))), .second, .val (.long (own_G [qp3, qp4, qp5] (0 : Int32) (0 : Int32) (own_low w0))), .second, .val (.long (own_G [qp3, qp4, qp5] (own_wo1 w0 w1) (own_sh1 w0 w1) (own_low w1))), .second, .val (.long (own_G [qp3, qp4, qp5] (own_wo2 w0 w1 w2) (own_sh2 w0 w1 w2) (own_low w2))), .second, .val (.long (own_G [qp3, qp4, qp5] (own_wo2 w0 w1 w2) (own_sh2 w0 w1 w2) (own_low w2))), .second, .val (.long (own_G [qp3, qp4, qp5] (0 : Int32) (0 : Int32) (own_low w0))), .second, .val (.long (own_G [qp3, qp4, qp5] (own_wo1 w0 w1) (own_sh1 w0 w1) (own_low w1))), .second, .val (.long (qp6 &&& (own_low w2))), .second, .unset] [(.int (lcmpW (own_G (own_P [qp3, qp4, qp5] (own_wo2 w0 w1 w2) (own_sh2 w0 w1 w2) (own_low w2) (qp6 &&& (own_low w2))) (own_wo2 w0 w1 w2) (own_sh2 w0 w1 w2) (own_low w2)) (qp6 &&& (own_low w2))))]))
    have hc235_138 : (own_G (own_P [qp3, qp4, qp5] (own_wo2 w0 w1 w2) (own_sh2 w0 w1 w2) (own_low w2) (qp6 &&& (own_low w2))) (own_wo2 w0 w1 w2) (own_sh2 w0 w1 w2) (own_low w2)) = (qp6 &&& (own_low w2)) := own_A (X := [qp3, qp4, qp5]) rfl lay.2.1 lay.2.2.2.1.1 hw2 lay.2.2.2.1.2 (own_and_fit hw2)
    refine own_st (fun _ k => XS.ifNo X137.here hx rfl (hb hby at_235) rfl ((if0 _ _).trans (teq ((lw_eq _ _).mpr hc235_138)).2) (XS.iconst X137.here hx rfl (hb hby at_238) (XS.goto X137.here hx rfl (pc0 := 239) (pc' := 243) rfl (hb hby at_239) (by decide) (by decide) (XS.istore X137.here hx rfl (hb hby at_243) rfl (l' := #[.val (.int p1), .val (.int p2), .val (.long qp3), .second, .val (.long qp4), .second, .val (.long qp5), .second, .val (.long qp6), .second, .val (.ref b1), .val (.ref b15), .val (.ref b21), .val (.int (2 : Int32)), .val (.long (qp6 &&& (own_low w2))), .second, .val (.long (own_G [qp3, qp4, qp5] (0 : Int32) (0 : Int32) (own_low w0))), .second, .val (.long (own_G [qp3, qp4, qp5] (own_wo1 w0 w1) (own_sh1 w0 w1) (own_low w1))), .second, .val (.long (own_G [qp3, qp4, qp5] (own_wo2 w0 w1 w2) (own_sh2 w0 w1 w2) (own_low w2))), .second, .val (.long (own_G [qp3, qp4, qp5] (own_wo2 w0 w1 w2) (own_sh2 w0 w1 w2) (own_low w2))), .second, .val (.long (own_G [qp3, qp4, qp5] (0 : Int32) (0 : Int32) (own_low w0))), .second, .val (.long (own_G [qp3, qp4, qp5] (own_wo1 w0 w1) (own_sh1 w0 w1) (own_low w1))), .second, .val (.long (qp6 &&& (own_low w2))), .second, .val (.int (1 : Int32))]) rfl (XS.aload X137.here hx rfl (hb hby at_245) rfl rfl (XS.aload X137.here hx rfl (hb hby at_247) rfl rfl (XS.iload X137.here hx rfl (hb hby at_249) rfl (XS.lload X137.here hx rfl (hb hby at_251) rfl k)))))))) ?_
    show own_Go p.tables e below RR (T137.setTop (mkF m 253 #[.val (.int p1), .val (.int p2), .val (.long qp3), .second, .val (.long qp4), .second, .val (.long qp5), .second, .val (.long qp6), .second, .val (.ref b1), .val (.ref b15), .val (.ref b21), .val (.int (2 : Int32)), .val (.long (qp6 &&& (own_low w2))), .second, .val (.long (own_G [qp3, qp4, qp5] (0 : Int32) (0 : Int32) (own_low w0))), .second, .val (.long (own_G [qp3, qp4, qp5] (own_wo1 w0 w1) (own_sh1 w0 w1) (own_low w1))), .second, .val (.long (own_G [qp3, qp4, qp5] (own_wo2 w0 w1 w2) (own_sh2 w0 w1 w2) (own_low w2))), .second, .val (.long (own_G [qp3, qp4, qp5] (own_wo2 w0 w1 w2) (own_sh2 w0 w1 w2) (own_low w2))), .second, .val (.long (own_G [qp3, qp4, qp5] (0 : Int32) (0 : Int32) (own_low w0))), .second, .val (.long (own_G [qp3, qp4, qp5] (own_wo1 w0 w1) (own_sh1 w0 w1) (own_low w1))), .second, .val (.long (qp6 &&& (own_low w2))), .second, .val (.int (1 : Int32))] [(.long (own_G [qp3, qp4, qp5] (own_wo2 w0 w1 w2) (own_sh2 w0 w1 w2) (own_low w2))), (.int (2 : Int32)), (.ref b21), (.ref b15)]))
    obtain ⟨cq139, kq139, q139a, q139b, q139c⟩ := isOf hZ eq137 f133
    obtain ⟨_, _, ⟨T139, L139, k139, n139⟩, -, X139, ⟨Lc139, hQ139, l139, y139, z139⟩, st139⟩ := X137.virtualBack hx (y := (⟨"com/example/nesiph/nesiph/MarkingSet", "setTokens", "([JIJ)V"⟩ : MethodName)) (z := (⟨"com/example/nesiph/nesiph/MarkingSet", "setTokens", "([JIJ)V"⟩ : MethodName)) hown (mvT hZ (hw _ (List.mem_of_getElem? (i := 66) rfl))) (mvT hZ (hw _ (List.mem_of_getElem? (i := 67) rfl))) (notFace_of_selects (args := #[]) (mvT hZ (hw _ (List.mem_of_getElem? (i := 69) rfl)))) (mvT hZ (hw _ (List.mem_of_getElem? (i := 69) rfl))) (mvT hZ (hw _ (List.mem_of_getElem? (i := 68) rfl))) (by decide) (backOf (W := 0) (own_rmSL2 l Z a0 hw [] b15 b21 k21 (own_P [qp3, qp4, qp5] (own_wo2 w0 w1 w2) (own_sh2 w0 w1 w2) (own_low w2) (qp6 &&& (own_low w2))) aw as_ am kw ks km (0 : Int32) (own_wo1 w0 w1) (own_wo2 w0 w1 w2) (0 : Int32) (own_sh1 w0 w1) (own_sh2 w0 w1 w2) (own_low w0) (own_low w1) (own_low w2) (own_G [qp3, qp4, qp5] (own_wo2 w0 w1 w2) (own_sh2 w0 w1 w2) (own_low w2)) T124.heap n0 z125 f129 f130 f131 Vq124 f126 f127 f128 (own_P_len rfl) lay.2.1 ge21) hZ (hw _ (List.mem_of_getElem? (i := 70) rfl)) (hw _ (List.mem_of_getElem? (i := 8) rfl)) (by decide) (by decide)) q139a q139c (g := (mkF m 253 #[.val (.int p1), .val (.int p2), .val (.long qp3), .second, .val (.long qp4), .second, .val (.long qp5), .second, .val (.long qp6), .second, .val (.ref b1), .val (.ref b15), .val (.ref b21), .val (.int (2 : Int32)), .val (.long (qp6 &&& (own_low w2))), .second, .val (.long (own_G [qp3, qp4, qp5] (0 : Int32) (0 : Int32) (own_low w0))), .second, .val (.long (own_G [qp3, qp4, qp5] (own_wo1 w0 w1) (own_sh1 w0 w1) (own_low w1))), .second, .val (.long (own_G [qp3, qp4, qp5] (own_wo2 w0 w1 w2) (own_sh2 w0 w1 w2) (own_low w2))), .second, .val (.long (own_G [qp3, qp4, qp5] (own_wo2 w0 w1 w2) (own_sh2 w0 w1 w2) (own_low w2))), .second, .val (.long (own_G [qp3, qp4, qp5] (0 : Int32) (0 : Int32) (own_low w0))), .second, .val (.long (own_G [qp3, qp4, qp5] (own_wo1 w0 w1) (own_sh1 w0 w1) (own_low w1))), .second, .val (.long (qp6 &&& (own_low w2))), .second, .val (.int (1 : Int32))] [(.long (own_G [qp3, qp4, qp5] (own_wo2 w0 w1 w2) (own_sh2 w0 w1 w2) (own_low w2))), (.int (2 : Int32)), (.ref b21), (.ref b15)])) rfl (by rw [hml]; rfl) (Steps.refl _) (argsL := [(.ref b21), (.int (2 : Int32)), (.long (own_G [qp3, qp4, qp5] (own_wo2 w0 w1 w2) (own_sh2 w0 w1 w2) (own_low w2)))]) (rest := []) (lenOf own_pd___JIJ_V rfl) rfl (by show 2 * 0 + _ ≤ _; exact Nat.le_of_eq rfl) (hb hby at_253) (fun _ _ => ⟨rfl, eq137, (by decide : 9 + 0 ≤ _), (by decide : 43 + 0 ≤ _)⟩)
    dsimp only [Pt.U, Pt.locs, Pt.cells, Pt.slots] at X139 l139 y139 z139 st139 hQ139
    subst l139 y139 z139
    obtain ⟨rfl, Nq139, Kq139, Vq139⟩ := hQ139
    have N139 := Fr.app N137 Nq139
    refine own_st (fun _ k => st139.trans k) ?_
    have z140 : n0 ≤ T139.heap.size := Nat.le_trans z125 Kq139.1
    have Vz139 : Arv Z T139.heap b21 k21 .long (3 : Int32) [(.long qp3), (.long qp4), (.long qp5)] (.long (0 : Int64)) := by
      have e := own_C (X := [qp3, qp4, qp5]) (n := (own_wo2 w0 w1 w2)) (s := (own_sh2 w0 w1 w2)) (t := (qp6 &&& (own_low w2))) rfl lay.2.1 lay.2.2.2.1.1 hw2 lay.2.2.2.1.2 (own_and_fit hw2)
      rw [e] at Vq139
      exact Vq139
    show own_Go p.tables e below RR (T139.setTop (mkF m 256 #[.val (.int p1), .val (.int p2), .val (.long qp3), .second, .val (.long qp4), .second, .val (.long qp5), .second, .val (.long qp6), .second, .val (.ref b1), .val (.ref b15), .val (.ref b21), .val (.int (2 : Int32)), .val (.long (qp6 &&& (own_low w2))), .second, .val (.long (own_G [qp3, qp4, qp5] (0 : Int32) (0 : Int32) (own_low w0))), .second, .val (.long (own_G [qp3, qp4, qp5] (own_wo1 w0 w1) (own_sh1 w0 w1) (own_low w1))), .second, .val (.long (own_G [qp3, qp4, qp5] (own_wo2 w0 w1 w2) (own_sh2 w0 w1 w2) (own_low w2))), .second, .val (.long (own_G [qp3, qp4, qp5] (own_wo2 w0 w1 w2) (own_sh2 w0 w1 w2) (own_low w2))), .second, .val (.long (own_G [qp3, qp4, qp5] (0 : Int32) (0 : Int32) (own_low w0))), .second, .val (.long (own_G [qp3, qp4, qp5] (own_wo1 w0 w1) (own_sh1 w0 w1) (own_low w1))), .second, .val (.long (qp6 &&& (own_low w2))), .second, .val (.int (1 : Int32))] []))
    refine own_st (fun _ k => XS.iload X139.here hx rfl (hb hby at_256) rfl k) ?_
    show own_Go p.tables e below RR (T139.setTop (mkF m 258 #[.val (.int p1), .val (.int p2), .val (.long qp3), .second, .val (.long qp4), .second, .val (.long qp5), .second, .val (.long qp6), .second, .val (.ref b1), .val (.ref b15), .val (.ref b21), .val (.int (2 : Int32)), .val (.long (qp6 &&& (own_low w2))), .second, .val (.long (own_G [qp3, qp4, qp5] (0 : Int32) (0 : Int32) (own_low w0))), .second, .val (.long (own_G [qp3, qp4, qp5] (own_wo1 w0 w1) (own_sh1 w0 w1) (own_low w1))), .second, .val (.long (own_G [qp3, qp4, qp5] (own_wo2 w0 w1 w2) (own_sh2 w0 w1 w2) (own_low w2))), .second, .val (.long (own_G [qp3, qp4, qp5] (own_wo2 w0 w1 w2) (own_sh2 w0 w1 w2) (own_low w2))), .second, .val (.long (own_G [qp3, qp4, qp5] (0 : Int32) (0 : Int32) (own_low w0))), .second, .val (.long (own_G [qp3, qp4, qp5] (own_wo1 w0 w1) (own_sh1 w0 w1) (own_low w1))), .second, .val (.long (qp6 &&& (own_low w2))), .second, .val (.int (1 : Int32))] [(.int (1 : Int32))]))
    refine own_st (fun _ k => XS.ifNo X139.here hx rfl (hb hby at_258) rfl ((if0 _ _).trans (feq (by decide)).1) (XS.aload X139.here hx rfl (hb hby at_261) rfl rfl (XS.iconst X139.here hx rfl (hb hby at_263) k))) ?_
    show own_Go p.tables e below RR (T139.setTop (mkF m 264 #[.val (.int p1), .val (.int p2), .val (.long qp3), .second, .val (.long qp4), .second, .val (.long qp5), .second, .val (.long qp6), .second, .val (.ref b1), .val (.ref b15), .val (.ref b21), .val (.int (2 : Int32)), .val (.long (qp6 &&& (own_low w2))), .second, .val (.long (own_G [qp3, qp4, qp5] (0 : Int32) (0 : Int32) (own_low w0))), .second, .val (.long (own_G [qp3, qp4, qp5] (own_wo1 w0 w1) (own_sh1 w0 w1) (own_low w1))), .second, .val (.long (own_G [qp3, qp4, qp5] (own_wo2 w0 w1 w2) (own_sh2 w0 w1 w2) (own_low w2))), .second, .val (.long (own_G [qp3, qp4, qp5] (own_wo2 w0 w1 w2) (own_sh2 w0 w1 w2) (own_low w2))), .second, .val (.long (own_G [qp3, qp4, qp5] (0 : Int32) (0 : Int32) (own_low w0))), .second, .val (.long (own_G [qp3, qp4, qp5] (own_wo1 w0 w1) (own_sh1 w0 w1) (own_low w1))), .second, .val (.long (qp6 &&& (own_low w2))), .second, .val (.int (1 : Int32))] [(.int (0 : Int32)), (.ref b21)]))
    obtain ⟨c141, A141, q141, s141, m141, H141, G141⟩ := id Vz139
    have b141 := inb_of (j := (0 : Int32)) s141 ⟨by decide, by decide⟩
    refine own_st (fun _ k => X139.laload hx (j := (0 : Int32)) (v := (.long qp3)) (by exact A141.1) (State.isArrayOf_alike hZ.alike A141.2.1) A141.2.2 b141 (Has.at H141 b141 rfl) (g := (mkF m 264 #[.val (.int p1), .val (.int p2), .val (.long qp3), .second, .val (.long qp4), .second, .val (.long qp5), .second, .val (.long qp6), .second, .val (.ref b1), .val (.ref b15), .val (.ref b21), .val (.int (2 : Int32)), .val (.long (qp6 &&& (own_low w2))), .second, .val (.long (own_G [qp3, qp4, qp5] (0 : Int32) (0 : Int32) (own_low w0))), .second, .val (.long (own_G [qp3, qp4, qp5] (own_wo1 w0 w1) (own_sh1 w0 w1) (own_low w1))), .second, .val (.long (own_G [qp3, qp4, qp5] (own_wo2 w0 w1 w2) (own_sh2 w0 w1 w2) (own_low w2))), .second, .val (.long (own_G [qp3, qp4, qp5] (own_wo2 w0 w1 w2) (own_sh2 w0 w1 w2) (own_low w2))), .second, .val (.long (own_G [qp3, qp4, qp5] (0 : Int32) (0 : Int32) (own_low w0))), .second, .val (.long (own_G [qp3, qp4, qp5] (own_wo1 w0 w1) (own_sh1 w0 w1) (own_low w1))), .second, .val (.long (qp6 &&& (own_low w2))), .second, .val (.int (1 : Int32))] [(.int (0 : Int32)), (.ref b21)])) rfl rfl (hb hby at_264) _ (XS.lloadN X139.here hx rfl (hb hby at_265) rfl (XS.lcmp X139.here hx rfl (hb hby at_266) rfl k))) ?_
    show own_Go p.tables e below RR (T139.setTop (mkF m 267 #[.val (.int p1), .val (.int p2), .val (.long qp3), .second, .val (.long qp4), .second, .val (.long qp5), .second, .val (.long qp6), .second, .val (.ref b1), .val (.ref b15), .val (.ref b21), .val (.int (2 : Int32)), .val (.long (qp6 &&& (own_low w2))), .second, .val (.long (own_G [qp3, qp4, qp5] (0 : Int32) (0 : Int32) (own_low w0))), .second, .val (.long (own_G [qp3, qp4, qp5] (own_wo1 w0 w1) (own_sh1 w0 w1) (own_low w1))), .second, .val (.long (own_G [qp3, qp4, qp5] (own_wo2 w0 w1 w2) (own_sh2 w0 w1 w2) (own_low w2))), .second, .val (.long (own_G [qp3, qp4, qp5] (own_wo2 w0 w1 w2) (own_sh2 w0 w1 w2) (own_low w2))), .second, .val (.long (own_G [qp3, qp4, qp5] (0 : Int32) (0 : Int32) (own_low w0))), .second, .val (.long (own_G [qp3, qp4, qp5] (own_wo1 w0 w1) (own_sh1 w0 w1) (own_low w1))), .second, .val (.long (qp6 &&& (own_low w2))), .second, .val (.int (1 : Int32))] [(.int (lcmpW qp3 qp3))]))
    refine own_st (fun _ k => XS.ifNo X139.here hx rfl (hb hby at_267) rfl ((if0 _ _).trans (teq ((lw_eq _ _).mpr rfl)).2) (XS.aload X139.here hx rfl (hb hby at_270) rfl rfl (XS.iconst X139.here hx rfl (hb hby at_272) k))) ?_
    show own_Go p.tables e below RR (T139.setTop (mkF m 273 #[.val (.int p1), .val (.int p2), .val (.long qp3), .second, .val (.long qp4), .second, .val (.long qp5), .second, .val (.long qp6), .second, .val (.ref b1), .val (.ref b15), .val (.ref b21), .val (.int (2 : Int32)), .val (.long (qp6 &&& (own_low w2))), .second, .val (.long (own_G [qp3, qp4, qp5] (0 : Int32) (0 : Int32) (own_low w0))), .second, .val (.long (own_G [qp3, qp4, qp5] (own_wo1 w0 w1) (own_sh1 w0 w1) (own_low w1))), .second, .val (.long (own_G [qp3, qp4, qp5] (own_wo2 w0 w1 w2) (own_sh2 w0 w1 w2) (own_low w2))), .second, .val (.long (own_G [qp3, qp4, qp5] (own_wo2 w0 w1 w2) (own_sh2 w0 w1 w2) (own_low w2))), .second, .val (.long (own_G [qp3, qp4, qp5] (0 : Int32) (0 : Int32) (own_low w0))), .second, .val (.long (own_G [qp3, qp4, qp5] (own_wo1 w0 w1) (own_sh1 w0 w1) (own_low w1))), .second, .val (.long (qp6 &&& (own_low w2))), .second, .val (.int (1 : Int32))] [(.int (1 : Int32)), (.ref b21)]))
    obtain ⟨c142, A142, q142, s142, m142, H142, G142⟩ := id Vz139
    have b142 := inb_of (j := (1 : Int32)) s142 ⟨by decide, by decide⟩
    refine own_st (fun _ k => X139.laload hx (j := (1 : Int32)) (v := (.long qp4)) (by exact A142.1) (State.isArrayOf_alike hZ.alike A142.2.1) A142.2.2 b142 (Has.at H142 b142 rfl) (g := (mkF m 273 #[.val (.int p1), .val (.int p2), .val (.long qp3), .second, .val (.long qp4), .second, .val (.long qp5), .second, .val (.long qp6), .second, .val (.ref b1), .val (.ref b15), .val (.ref b21), .val (.int (2 : Int32)), .val (.long (qp6 &&& (own_low w2))), .second, .val (.long (own_G [qp3, qp4, qp5] (0 : Int32) (0 : Int32) (own_low w0))), .second, .val (.long (own_G [qp3, qp4, qp5] (own_wo1 w0 w1) (own_sh1 w0 w1) (own_low w1))), .second, .val (.long (own_G [qp3, qp4, qp5] (own_wo2 w0 w1 w2) (own_sh2 w0 w1 w2) (own_low w2))), .second, .val (.long (own_G [qp3, qp4, qp5] (own_wo2 w0 w1 w2) (own_sh2 w0 w1 w2) (own_low w2))), .second, .val (.long (own_G [qp3, qp4, qp5] (0 : Int32) (0 : Int32) (own_low w0))), .second, .val (.long (own_G [qp3, qp4, qp5] (own_wo1 w0 w1) (own_sh1 w0 w1) (own_low w1))), .second, .val (.long (qp6 &&& (own_low w2))), .second, .val (.int (1 : Int32))] [(.int (1 : Int32)), (.ref b21)])) rfl rfl (hb hby at_273) _ (XS.lload X139.here hx rfl (hb hby at_274) rfl (XS.lcmp X139.here hx rfl (hb hby at_276) rfl k))) ?_
    show own_Go p.tables e below RR (T139.setTop (mkF m 277 #[.val (.int p1), .val (.int p2), .val (.long qp3), .second, .val (.long qp4), .second, .val (.long qp5), .second, .val (.long qp6), .second, .val (.ref b1), .val (.ref b15), .val (.ref b21), .val (.int (2 : Int32)), .val (.long (qp6 &&& (own_low w2))), .second, .val (.long (own_G [qp3, qp4, qp5] (0 : Int32) (0 : Int32) (own_low w0))), .second, .val (.long (own_G [qp3, qp4, qp5] (own_wo1 w0 w1) (own_sh1 w0 w1) (own_low w1))), .second, .val (.long (own_G [qp3, qp4, qp5] (own_wo2 w0 w1 w2) (own_sh2 w0 w1 w2) (own_low w2))), .second, .val (.long (own_G [qp3, qp4, qp5] (own_wo2 w0 w1 w2) (own_sh2 w0 w1 w2) (own_low w2))), .second, .val (.long (own_G [qp3, qp4, qp5] (0 : Int32) (0 : Int32) (own_low w0))), .second, .val (.long (own_G [qp3, qp4, qp5] (own_wo1 w0 w1) (own_sh1 w0 w1) (own_low w1))), .second, .val (.long (qp6 &&& (own_low w2))), .second, .val (.int (1 : Int32))] [(.int (lcmpW qp4 qp4))]))
    refine own_st (fun _ k => XS.ifNo X139.here hx rfl (hb hby at_277) rfl ((if0 _ _).trans (teq ((lw_eq _ _).mpr rfl)).2) (XS.aload X139.here hx rfl (hb hby at_280) rfl rfl (XS.iconst X139.here hx rfl (hb hby at_282) k))) ?_
    show own_Go p.tables e below RR (T139.setTop (mkF m 283 #[.val (.int p1), .val (.int p2), .val (.long qp3), .second, .val (.long qp4), .second, .val (.long qp5), .second, .val (.long qp6), .second, .val (.ref b1), .val (.ref b15), .val (.ref b21), .val (.int (2 : Int32)), .val (.long (qp6 &&& (own_low w2))), .second, .val (.long (own_G [qp3, qp4, qp5] (0 : Int32) (0 : Int32) (own_low w0))), .second, .val (.long (own_G [qp3, qp4, qp5] (own_wo1 w0 w1) (own_sh1 w0 w1) (own_low w1))), .second, .val (.long (own_G [qp3, qp4, qp5] (own_wo2 w0 w1 w2) (own_sh2 w0 w1 w2) (own_low w2))), .second, .val (.long (own_G [qp3, qp4, qp5] (own_wo2 w0 w1 w2) (own_sh2 w0 w1 w2) (own_low w2))), .second, .val (.long (own_G [qp3, qp4, qp5] (0 : Int32) (0 : Int32) (own_low w0))), .second, .val (.long (own_G [qp3, qp4, qp5] (own_wo1 w0 w1) (own_sh1 w0 w1) (own_low w1))), .second, .val (.long (qp6 &&& (own_low w2))), .second, .val (.int (1 : Int32))] [(.int (2 : Int32)), (.ref b21)]))
    obtain ⟨c143, A143, q143, s143, m143, H143, G143⟩ := id Vz139
    have b143 := inb_of (j := (2 : Int32)) s143 ⟨by decide, by decide⟩
    refine own_st (fun _ k => X139.laload hx (j := (2 : Int32)) (v := (.long qp5)) (by exact A143.1) (State.isArrayOf_alike hZ.alike A143.2.1) A143.2.2 b143 (Has.at H143 b143 rfl) (g := (mkF m 283 #[.val (.int p1), .val (.int p2), .val (.long qp3), .second, .val (.long qp4), .second, .val (.long qp5), .second, .val (.long qp6), .second, .val (.ref b1), .val (.ref b15), .val (.ref b21), .val (.int (2 : Int32)), .val (.long (qp6 &&& (own_low w2))), .second, .val (.long (own_G [qp3, qp4, qp5] (0 : Int32) (0 : Int32) (own_low w0))), .second, .val (.long (own_G [qp3, qp4, qp5] (own_wo1 w0 w1) (own_sh1 w0 w1) (own_low w1))), .second, .val (.long (own_G [qp3, qp4, qp5] (own_wo2 w0 w1 w2) (own_sh2 w0 w1 w2) (own_low w2))), .second, .val (.long (own_G [qp3, qp4, qp5] (own_wo2 w0 w1 w2) (own_sh2 w0 w1 w2) (own_low w2))), .second, .val (.long (own_G [qp3, qp4, qp5] (0 : Int32) (0 : Int32) (own_low w0))), .second, .val (.long (own_G [qp3, qp4, qp5] (own_wo1 w0 w1) (own_sh1 w0 w1) (own_low w1))), .second, .val (.long (qp6 &&& (own_low w2))), .second, .val (.int (1 : Int32))] [(.int (2 : Int32)), (.ref b21)])) rfl rfl (hb hby at_283) _ (XS.lload X139.here hx rfl (hb hby at_284) rfl (XS.lcmp X139.here hx rfl (hb hby at_286) rfl k))) ?_
    show own_Go p.tables e below RR (T139.setTop (mkF m 287 #[.val (.int p1), .val (.int p2), .val (.long qp3), .second, .val (.long qp4), .second, .val (.long qp5), .second, .val (.long qp6), .second, .val (.ref b1), .val (.ref b15), .val (.ref b21), .val (.int (2 : Int32)), .val (.long (qp6 &&& (own_low w2))), .second, .val (.long (own_G [qp3, qp4, qp5] (0 : Int32) (0 : Int32) (own_low w0))), .second, .val (.long (own_G [qp3, qp4, qp5] (own_wo1 w0 w1) (own_sh1 w0 w1) (own_low w1))), .second, .val (.long (own_G [qp3, qp4, qp5] (own_wo2 w0 w1 w2) (own_sh2 w0 w1 w2) (own_low w2))), .second, .val (.long (own_G [qp3, qp4, qp5] (own_wo2 w0 w1 w2) (own_sh2 w0 w1 w2) (own_low w2))), .second, .val (.long (own_G [qp3, qp4, qp5] (0 : Int32) (0 : Int32) (own_low w0))), .second, .val (.long (own_G [qp3, qp4, qp5] (own_wo1 w0 w1) (own_sh1 w0 w1) (own_low w1))), .second, .val (.long (qp6 &&& (own_low w2))), .second, .val (.int (1 : Int32))] [(.int (lcmpW qp5 qp5))]))
    refine own_st (fun _ k => XS.ifNo X139.here hx rfl (hb hby at_287) rfl ((if0 _ _).trans (teq ((lw_eq _ _).mpr rfl)).2) (XS.iconst X139.here hx rfl (hb hby at_290) (XS.goto X139.here hx rfl (pc0 := 291) (pc' := 295) rfl (hb hby at_291) (by decide) (by decide) k))) ?_
    show own_Go p.tables e below RR (T139.setTop (mkF m 295 #[.val (.int p1), .val (.int p2), .val (.long qp3), .second, .val (.long qp4), .second, .val (.long qp5), .second, .val (.long qp6), .second, .val (.ref b1), .val (.ref b15), .val (.ref b21), .val (.int (2 : Int32)), .val (.long (qp6 &&& (own_low w2))), .second, .val (.long (own_G [qp3, qp4, qp5] (0 : Int32) (0 : Int32) (own_low w0))), .second, .val (.long (own_G [qp3, qp4, qp5] (own_wo1 w0 w1) (own_sh1 w0 w1) (own_low w1))), .second, .val (.long (own_G [qp3, qp4, qp5] (own_wo2 w0 w1 w2) (own_sh2 w0 w1 w2) (own_low w2))), .second, .val (.long (own_G [qp3, qp4, qp5] (own_wo2 w0 w1 w2) (own_sh2 w0 w1 w2) (own_low w2))), .second, .val (.long (own_G [qp3, qp4, qp5] (0 : Int32) (0 : Int32) (own_low w0))), .second, .val (.long (own_G [qp3, qp4, qp5] (own_wo1 w0 w1) (own_sh1 w0 w1) (own_low w1))), .second, .val (.long (qp6 &&& (own_low w2))), .second, .val (.int (1 : Int32))] [(.int (1 : Int32))]))
    obtain ⟨fs, hrt_, hrun, hended, hW, hsame⟩ := X139.leave (v := some (.int (1 : Int32))) (fun h => by rw [Bd.returns] at h; cases h)
    refine own_fin (retN X139 hx (t := .boolean) Bd.returns (by simp) (hb hby at_295) hrt_) (hRR _ ⟨_, hrun, hended, _, _, rfl, ?_, ⟨_, rfl⟩, hW, hsame.mono (by decide) (by decide)⟩)
    show own_Q0 Z p1 p2 qp3 qp4 qp5 qp6 h0 n0 _ T139.heap _
    exact ⟨rfl, N139⟩
set_option maxRecDepth 65536 in
set_option maxHeartbeats 40000000 in
theorem own_comes {Post : Tables → Env → Array Value → State → Outcome → State → Prop} (hpost : ∀ tb e args s v u, (limb_1_1.after args s (.returned v) u = true ∧ limb_1_2.after args s (.returned v) u = true ∧ True) → FrameEnd s (.returned v) u (Jvm.fieldLocs frame_1_writes args s ++ Jvm.arrayLocs frame_1_arrays args s ++ Jvm.staticLocs frame_1_statics s) 32 192 → Post tb e args s (.returned v) u) :
    ArmFor flags0 classFile x code maxLocals ret World_1 tables_1 room_1 Calls_1 rest_1 Pre_1 Post := by
  intro l hfl _ _ p e ha hc hk s m args below hf hA hF happ hP
  obtain ⟨hcalls, hrest, hpre⟩ := hP
  obtain ⟨-, -, -, hnamed, -, -, -, hat⟩ := (Spec.applies_iff hf).mp happ
  obtain ⟨hg, hn⟩ := and_e (Cond.before_iff.mp (show (Jvm.Cond.and given_1 narrow_1).before args s = true from hpre))
  obtain ⟨u1a, u1b⟩ := and_e hg
  obtain ⟨u2a, u2b⟩ := and_e u1b
  obtain ⟨u3a, u3b⟩ := and_e u2b
  obtain ⟨u4a, u4b⟩ := and_e u3b
  obtain ⟨u5a, u5b⟩ := and_e u4b
  obtain ⟨u6a, u6b⟩ := and_e u5b
  obtain ⟨w0, w1, w2, w3, w4, w5, rfl⟩ : ∃ w0 w1 w2 w3 w4 w5 : Value, args = #[w0, w1, w2, w3, w4, w5] := by
    have hs : args.size = 6 := by simpa [Cond.value, given_1] using u1a
    obtain ⟨L⟩ := args
    match L, hs with
    | [w0, w1, w2, w3, w4, w5], _ => exact ⟨w0, w1, w2, w3, w4, w5, rfl⟩
  have hw := fun d (hd : d ∈ tables_1) => atoms_spec (ws := Jvm.Cond.code x code maxLocals ret :: tables_1) hat d (List.mem_cons_of_mem _ hd)
  have hfit : Fit s := fun {y c} hc i hi => by
    obtain ⟨ha, rfl⟩ := Array.getElem?_eq_some_iff.mp hc
    have q := List.all_eq_true.mp ((Array.all_eq_true_iff_forall_mem.mp hF) _ (Array.getElem_mem ha)) i (List.mem_range.mpr hi)
    simpa [Array.getElem?_eq_getElem hi] using q
  obtain ⟨i0, ei0⟩ := is_v u2a
  obtain rfl : w0 = (.int i0) := Option.some.inj ei0
  obtain ⟨i1, ei1⟩ := is_v u3a
  obtain rfl : w1 = (.int i1) := Option.some.inj ei1
  obtain ⟨i2, ei2⟩ := isL_v u4a
  obtain rfl : w2 = (.long i2) := Option.some.inj ei2
  obtain ⟨i3, ei3⟩ := isL_v u5a
  obtain rfl : w3 = (.long i3) := Option.some.inj ei3
  obtain ⟨i4, ei4⟩ := isL_v u6a
  obtain rfl : w4 = (.long i4) := Option.some.inj ei4
  obtain ⟨i5, ei5⟩ := isL_v u6b
  obtain rfl : w5 = (.long i5) := Option.some.inj ei5
  obtain ⟨n, o, h1, h2, h3, _, L, rfl, ⟨rfl, N⟩, hq⟩ := own_rm0 l s _ hw tables_1 i0 i1 i2 i3 i4 i5 s.heap s.heap.size (Nat.le_refl _)  p e ha hc hk s m _ below hf ((Spec.applies_iff_loose hf).mp happ).1 ⟨rfl, State.Warmed39.refl s, rfl⟩ trivial
  refine ⟨n, _, h1, h2, h3, hpost _ _ _ _ _ _ ⟨Cond.after_iff.mpr rfl, Cond.after_iff.mpr (eq_i res_at (Term.int_eval (1)) rfl), trivial⟩ ⟨hq.1, hq.2.1, (hq.2.2.sift fun y hy => Or.inr (N y hy)).mono (by decide) (by decide)⟩⟩
theorem main_1_1 : Claimed_1_1 := own_comes fun _ _ _ _ _ _ h hF => ⟨h.1, hF⟩
theorem main_1_2 : Claimed_1_2 := own_comes fun _ _ _ _ _ _ h hF => ⟨h.2.1, hF⟩
end Jvm.Pilot.@@N@@
namespace Jvm.Pilot.@@N@@
open Jvm Jvm.ClassFile Sem Op Lib Jvm.Free Jvm.Stand Jvm.Pilot.@@N@@.Jvm.D
/-! MADE BY PROGRAM (witnessworld.py) out of the Statement's table words and the real class files: 19 classes; the members and pool entries that the words name. The judged class is class 1, her method 1. -/
namespace start1
open Jvm.ClassFile
def u (s : String) : CpInfo := .utf8 (stringToUtf16 s)
/-- a pool by its gaps: so many unusable entries, then the entry; so many at the end -/
def gap : Nat → List CpInfo → List CpInfo
  | 0, r => r
  | n + 1, r => .unusable :: gap n r
def poolList (es : List (Nat × CpInfo)) (last : Nat) : List CpInfo := es.foldr (fun e r => gap e.1 (e.2 :: r)) (gap last [])
def pool (es : List (Nat × CpInfo)) (last : Nat) : Array CpInfo := ⟨poolList es last⟩
def fileOf (pool : Array CpInfo) (this : Nat) (attrs : Array Attribute := #[]) (ms : Array MethodInfo := #[]) (fl : Nat := 33) (sup : Nat := 0) (ifs : Array Nat := #[]) (fds : Array FieldInfo := #[]) : ClassFile where
  minorVersion := 0
  majorVersion := 65
  constantPool := pool
  accessFlags := fl
  thisClass := this
  superClass := sup
  interfaces := ifs
  fields := fds
  methods := ms
  attributes := attrs
def plain (name : String) (sup : Option ClassId) : Class where
  name := name
  kind := .ordinary
  loader := none
  accessFlags := 33
  super := sup
  interfaces := #[]
  cf := none
  fields := #[]
  methods := #[]
  instanceTypes := #[]
  staticTypes := #[]
  resolved := #[]
  callSites := []
  init := .initialized
  statics := none
  mirror := none

def pool0 : Array CpInfo := pool [(5, u "<init>"), (0, u "()V"), (1, .class_ 10), (1, u "java/lang/Object")] 113

def k0c0 : Code := { maxStack := 0, maxLocals := 1, code := object_method_1_code, exceptionTable := #[], attributes := #[] }
def k0m0 : Method := { name := "<init>", desc := "()V", sig := { parameters := [], returnType := none }, accessFlags := 1, code := some k0c0 }
/-- java/lang/Object -/
def k0 : Class := { plain "java/lang/Object" none with
  accessFlags := 33
  interfaces := #[]
  cf := some (fileOf pool0 8 #[] #[{ accessFlags := 1, nameIndex := 5, descriptorIndex := 6, attributes := #[] }] 33 0 #[] #[])
  fields := #[]
  methods := #[k0m0]
  instanceTypes := #[]
  staticTypes := #[]
  resolved := Array.replicate 124 none
  statics := none }

def pool1 : Array CpInfo := pool [(2, .class_ 4), (1, u "java/lang/Object"), (0, u "<init>"), (0, u "()V"), (0, .methodref 8 9), (0, .class_ 10), (0, .nameAndType 11 12), (0, u "com/example/nesiph/nesiph/MarkingSetSetTokensPinLaw"), (0, u "maxFor"), (0, u "(I)J"), (0, .class_ 14), (0, u "com/example/nesiph/nesiph/MarkingSet"), (0, .methodref 13 16), (0, .nameAndType 5 17), (0, u "([J)V"), (0, .integer 2147483647), (0, .methodref 13 20), (0, .nameAndType 21 22), (0, u "tokens"), (0, u "([JI)J"), (0, .methodref 13 24), (0, .nameAndType 25 26), (0, u "setTokens"), (0, u "([JIJ)V"), (0, .long 18446744073709551615), (3, u "law"), (0, u "(IIJJJJ)Z")] 5

def k1m0 : Method := { name := "<init>", desc := "()V", sig := { parameters := [], returnType := none }, accessFlags := 1, code := none }
def k1c1 : Code := { maxStack := 5, maxLocals := 31, code := code, exceptionTable := #[], attributes := #[] }
def k1m1 : Method := { name := "law", desc := "(IIJJJJ)Z", sig := { parameters := [.int, .int, .long, .long, .long, .long], returnType := some .boolean }, accessFlags := 9, code := some k1c1 }
def k1c2 : Code := { maxStack := 5, maxLocals := 1, code := method_3_code, exceptionTable := #[], attributes := #[] }
def k1m2 : Method := { name := "maxFor", desc := "(I)J", sig := { parameters := [.int], returnType := some .long }, accessFlags := 10, code := some k1c2 }
/-- com/example/nesiph/nesiph/MarkingSetSetTokensPinLaw -/
def k1 : Class := { plain "com/example/nesiph/nesiph/MarkingSetSetTokensPinLaw" (some 0) with
  accessFlags := 49
  interfaces := #[]
  cf := some (fileOf pool1 8 #[] #[{ accessFlags := 1, nameIndex := 5, descriptorIndex := 6, attributes := #[] }, { accessFlags := 9, nameIndex := 31, descriptorIndex := 32, attributes := #[] }, { accessFlags := 10, nameIndex := 11, descriptorIndex := 12, attributes := #[] }] 49 2 #[] #[])
  fields := #[]
  methods := #[k1m0, k1m1, k1m2]
  instanceTypes := #[]
  staticTypes := #[]
  resolved := Array.replicate 38 none
  statics := none }

def pool2 : Array CpInfo := pool [(3, .methodref 4 5), (0, .class_ 6), (0, .nameAndType 7 8), (0, u "java/lang/Object"), (0, u "<init>"), (0, u "()V"), (0, .class_ 10), (0, u "[J"), (0, .fieldref 12 13), (0, .class_ 14), (0, .nameAndType 15 16), (0, u "com/example/nesiph/nesiph/MarkingSet"), (0, u "pages"), (0, u "[[J"), (0, .fieldref 12 18), (0, .nameAndType 19 20), (0, u "widths"), (0, u "[I"), (0, .fieldref 12 22), (0, .nameAndType 23 20), (0, u "wordOf"), (0, .fieldref 12 25), (0, .nameAndType 26 20), (0, u "shiftOf"), (0, .fieldref 12 28), (0, .nameAndType 29 10), (0, u "maskOf"), (0, .methodref 12 31), (0, .nameAndType 32 33), (0, u "bitsFor"), (0, u "(J)I"), (0, .class_ 35), (0, u "java/lang/Long"), (0, .methodref 12 37), (0, .nameAndType 38 39), (0, u "placeField"), (0, u "(IIII)V"), (0, .fieldref 12 41), (0, .nameAndType 42 43), (0, u "wordCount"), (0, u "I"), (0, .fieldref 12 45), (0, .nameAndType 46 10), (0, u "slots"), (0, .long 18446744073709551615), (1, .methodref 50 51), (0, .class_ 52), (0, .nameAndType 53 54), (0, u "java/util/Arrays"), (0, u "fill"), (0, u "([JJ)V"), (2, u "size"), (5, u "setTokens"), (0, u "([JIJ)V"), (13, u "([JI)J"), (20, .methodref 12 100), (0, .nameAndType 101 102), (0, u "lowBits"), (0, u "(I)J"), (10, .methodref 114 115), (0, .class_ 116), (0, .nameAndType 117 118), (0, u "java/lang/Math"), (0, u "max"), (0, u "(II)I"), (22, .methodref 34 142), (0, .nameAndType 143 33), (0, u "numberOfLeadingZeros"), (0, u "PAGE_MARKINGS"), (2, u "FEWEST_SLOTS"), (1, u "MOST_SLOTS"), (0, u "NO_MARKING"), (0, u "J"), (0, u "FINGERPRINT"), (0, u "([J)V"), (4, u "tokens")] 13

def k2c0 : Code := { maxStack := 5, maxLocals := 7, code := prog_21_method_1_code, exceptionTable := #[], attributes := #[] }
def k2m0 : Method := { name := "<init>", desc := "([J)V", sig := { parameters := [(.array .long)], returnType := none }, accessFlags := 0, code := some k2c0 }
def k2c1 : Code := { maxStack := 4, maxLocals := 3, code := prog_21_method_4_code, exceptionTable := #[], attributes := #[] }
def k2m1 : Method := { name := "tokens", desc := "([JI)J", sig := { parameters := [(.array .long), .int], returnType := some .long }, accessFlags := 0, code := some k2c1 }
def k2c2 : Code := { maxStack := 8, maxLocals := 7, code := prog_21_method_6_code, exceptionTable := #[], attributes := #[] }
def k2m2 : Method := { name := "setTokens", desc := "([JIJ)V", sig := { parameters := [(.array .long), .int, .long], returnType := none }, accessFlags := 0, code := some k2c2 }
def k2c3 : Code := { maxStack := 4, maxLocals := 5, code := prog_21_method_15_code, exceptionTable := #[], attributes := #[] }
def k2m3 : Method := { name := "placeField", desc := "(IIII)V", sig := { parameters := [.int, .int, .int, .int], returnType := none }, accessFlags := 2, code := some k2c3 }
def k2c4 : Code := { maxStack := 4, maxLocals := 1, code := prog_21_method_23_code, exceptionTable := #[], attributes := #[] }
def k2m4 : Method := { name := "lowBits", desc := "(I)J", sig := { parameters := [.int], returnType := some .long }, accessFlags := 10, code := some k2c4 }
def k2c5 : Code := { maxStack := 4, maxLocals := 2, code := prog_21_method_24_code, exceptionTable := #[], attributes := #[] }
def k2m5 : Method := { name := "bitsFor", desc := "(J)I", sig := { parameters := [.long], returnType := some .int }, accessFlags := 10, code := some k2c5 }
/-- com/example/nesiph/nesiph/MarkingSet -/
def k2 : Class := { plain "com/example/nesiph/nesiph/MarkingSet" (some 0) with
  accessFlags := 48
  interfaces := #[]
  cf := some (fileOf pool2 12 #[] #[{ accessFlags := 0, nameIndex := 7, descriptorIndex := 153, attributes := #[] }, { accessFlags := 0, nameIndex := 158, descriptorIndex := 78, attributes := #[] }, { accessFlags := 0, nameIndex := 63, descriptorIndex := 64, attributes := #[] }, { accessFlags := 2, nameIndex := 38, descriptorIndex := 39, attributes := #[] }, { accessFlags := 10, nameIndex := 101, descriptorIndex := 102, attributes := #[] }, { accessFlags := 10, nameIndex := 32, descriptorIndex := 33, attributes := #[] }] 48 4 #[] #[{ accessFlags := 26, nameIndex := 144, descriptorIndex := 43, attributes := #[] }, { accessFlags := 26, nameIndex := 147, descriptorIndex := 43, attributes := #[] }, { accessFlags := 26, nameIndex := 149, descriptorIndex := 43, attributes := #[] }, { accessFlags := 26, nameIndex := 150, descriptorIndex := 151, attributes := #[] }, { accessFlags := 26, nameIndex := 152, descriptorIndex := 151, attributes := #[] }, { accessFlags := 18, nameIndex := 19, descriptorIndex := 20, attributes := #[] }, { accessFlags := 18, nameIndex := 23, descriptorIndex := 20, attributes := #[] }, { accessFlags := 18, nameIndex := 26, descriptorIndex := 20, attributes := #[] }, { accessFlags := 18, nameIndex := 29, descriptorIndex := 10, attributes := #[] }, { accessFlags := 2, nameIndex := 42, descriptorIndex := 43, attributes := #[] }, { accessFlags := 2, nameIndex := 15, descriptorIndex := 16, attributes := #[] }, { accessFlags := 2, nameIndex := 46, descriptorIndex := 10, attributes := #[] }, { accessFlags := 2, nameIndex := 57, descriptorIndex := 43, attributes := #[] }])
  fields := #[{ name := "PAGE_MARKINGS", type := .int, accessFlags := 26, slot := 0, constantValue := 0 }, { name := "FEWEST_SLOTS", type := .int, accessFlags := 26, slot := 1, constantValue := 0 }, { name := "MOST_SLOTS", type := .int, accessFlags := 26, slot := 2, constantValue := 0 }, { name := "NO_MARKING", type := .long, accessFlags := 26, slot := 3, constantValue := 0 }, { name := "FINGERPRINT", type := .long, accessFlags := 26, slot := 4, constantValue := 0 }, { name := "widths", type := (.array .int), accessFlags := 18, slot := 0, constantValue := 0 }, { name := "wordOf", type := (.array .int), accessFlags := 18, slot := 1, constantValue := 0 }, { name := "shiftOf", type := (.array .int), accessFlags := 18, slot := 2, constantValue := 0 }, { name := "maskOf", type := (.array .long), accessFlags := 18, slot := 3, constantValue := 0 }, { name := "wordCount", type := .int, accessFlags := 2, slot := 4, constantValue := 0 }, { name := "pages", type := (.array (.array .long)), accessFlags := 2, slot := 5, constantValue := 0 }, { name := "slots", type := (.array .long), accessFlags := 2, slot := 6, constantValue := 0 }, { name := "size", type := .int, accessFlags := 2, slot := 7, constantValue := 0 }]
  methods := #[k2m0, k2m1, k2m2, k2m3, k2m4, k2m5]
  instanceTypes := #[(.array .int), (.array .int), (.array .int), (.array .long), .int, (.array (.array .long)), (.array .long), .int]
  staticTypes := #[.int, .int, .int, .long, .long]
  resolved := Array.replicate 172 none
  statics := none }

def pool3 : Array CpInfo := pool [(1, .class_ 2), (0, u "java/io/Serializable"), (0, .class_ 4), (0, u "java/lang/Object")] 2

/-- java/io/Serializable -/
def k3 : Class := { plain "java/io/Serializable" (some 0) with
  accessFlags := 1537
  interfaces := #[]
  cf := some (fileOf pool3 1 #[] #[] 1537 3 #[] #[])
  fields := #[]
  methods := #[]
  instanceTypes := #[]
  staticTypes := #[]
  resolved := Array.replicate 7 none
  statics := none }

def pool4 : Array CpInfo := pool [(2, .class_ 4), (1, u "java/lang/Object"), (0, u "<init>"), (0, u "()V"), (1, .class_ 10), (1, u "java/lang/Number"), (2, .class_ 14), (0, u "java/io/Serializable"), (0, u "serialVersionUID"), (0, u "J")] 20

def k4m0 : Method := { name := "<init>", desc := "()V", sig := { parameters := [], returnType := none }, accessFlags := 1, code := none }
/-- java/lang/Number -/
def k4 : Class := { plain "java/lang/Number" (some 0) with
  accessFlags := 1057
  interfaces := #[3]
  cf := some (fileOf pool4 8 #[] #[{ accessFlags := 1, nameIndex := 5, descriptorIndex := 6, attributes := #[] }] 1057 2 #[13] #[{ accessFlags := 26, nameIndex := 15, descriptorIndex := 16, attributes := #[] }])
  fields := #[{ name := "serialVersionUID", type := .long, accessFlags := 26, slot := 0, constantValue := 0 }]
  methods := #[k4m0]
  instanceTypes := #[]
  staticTypes := #[.long]
  resolved := Array.replicate 37 none
  statics := none }

def pool5 : Array CpInfo := pool [(1, .class_ 2), (0, u "java/lang/Comparable"), (0, .class_ 4), (0, u "java/lang/Object")] 7

/-- java/lang/Comparable -/
def k5 : Class := { plain "java/lang/Comparable" (some 0) with
  accessFlags := 1537
  interfaces := #[]
  cf := some (fileOf pool5 1 #[] #[] 1537 3 #[] #[])
  fields := #[]
  methods := #[]
  instanceTypes := #[]
  staticTypes := #[]
  resolved := Array.replicate 12 none
  statics := none }

def pool6 : Array CpInfo := pool [(1, .class_ 2), (0, u "java/lang/constant/Constable"), (0, .class_ 4), (0, u "java/lang/Object")] 6

/-- java/lang/constant/Constable -/
def k6 : Class := { plain "java/lang/constant/Constable" (some 0) with
  accessFlags := 1537
  interfaces := #[]
  cf := some (fileOf pool6 1 #[] #[] 1537 3 #[] #[])
  fields := #[]
  methods := #[]
  instanceTypes := #[]
  staticTypes := #[]
  resolved := Array.replicate 11 none
  statics := none }

def pool7 : Array CpInfo := pool [(1, .class_ 2), (0, u "java/lang/constant/ConstantDesc"), (0, .class_ 4), (0, u "java/lang/Object")] 32

/-- java/lang/constant/ConstantDesc -/
def k7 : Class := { plain "java/lang/constant/ConstantDesc" (some 0) with
  accessFlags := 1537
  interfaces := #[]
  cf := some (fileOf pool7 1 #[] #[] 1537 3 #[] #[])
  fields := #[]
  methods := #[]
  instanceTypes := #[]
  staticTypes := #[]
  resolved := Array.replicate 37 none
  statics := none }

def pool8 : Array CpInfo := pool [(1, .class_ 2), (0, u "java/lang/Long"), (15, .class_ 20), (1, u "java/lang/Integer"), (79, u "numberOfLeadingZeros"), (0, u "(J)I"), (133, .class_ 237), (1, u "java/lang/Long$LongCache"), (33, .class_ 272), (0, u "java/lang/Number"), (2, u "value"), (0, u "J"), (31, .methodref 18 309), (0, .nameAndType 100 310), (0, u "(I)I"), (50, u "TYPE"), (0, u "Ljava/lang/Class;"), (0, .class_ 364), (0, u "java/lang/Comparable"), (0, .class_ 366), (0, u "java/lang/constant/Constable"), (0, .class_ 368), (0, u "java/lang/constant/ConstantDesc"), (0, u "MIN_VALUE"), (1, u "MAX_VALUE"), (4, u "SIZE"), (0, u "I"), (1, u "BYTES"), (1, u "serialVersionUID")] 142

def k8c0 : Code := { maxStack := 3, maxLocals := 3, code := jdk_35_method_48_code, exceptionTable := #[], attributes := #[] }
def k8m0 : Method := { name := "numberOfLeadingZeros", desc := "(J)I", sig := { parameters := [.long], returnType := some .int }, accessFlags := 9, code := some k8c0 }
/-- java/lang/Long -/
def k8 : Class := { plain "java/lang/Long" (some 4) with
  accessFlags := 49
  interfaces := #[5, 6, 7]
  cf := some (fileOf pool8 1 #[.nestMembers #[235]] #[{ accessFlags := 9, nameIndex := 100, descriptorIndex := 101, attributes := #[] }] 49 271 #[363, 365, 367] #[{ accessFlags := 25, nameIndex := 369, descriptorIndex := 276, attributes := #[] }, { accessFlags := 25, nameIndex := 371, descriptorIndex := 276, attributes := #[] }, { accessFlags := 25, nameIndex := 361, descriptorIndex := 362, attributes := #[] }, { accessFlags := 18, nameIndex := 275, descriptorIndex := 276, attributes := #[] }, { accessFlags := 25, nameIndex := 376, descriptorIndex := 377, attributes := #[] }, { accessFlags := 25, nameIndex := 379, descriptorIndex := 377, attributes := #[] }, { accessFlags := 26, nameIndex := 381, descriptorIndex := 276, attributes := #[] }])
  fields := #[{ name := "MIN_VALUE", type := .long, accessFlags := 25, slot := 0, constantValue := 0 }, { name := "MAX_VALUE", type := .long, accessFlags := 25, slot := 1, constantValue := 0 }, { name := "TYPE", type := (.object "java/lang/Class"), accessFlags := 25, slot := 2, constantValue := 0 }, { name := "value", type := .long, accessFlags := 18, slot := 0, constantValue := 0 }, { name := "SIZE", type := .int, accessFlags := 25, slot := 3, constantValue := 0 }, { name := "BYTES", type := .int, accessFlags := 25, slot := 4, constantValue := 0 }, { name := "serialVersionUID", type := .long, accessFlags := 26, slot := 5, constantValue := 0 }]
  methods := #[k8m0]
  instanceTypes := #[.long]
  staticTypes := #[.long, .long, (.object "java/lang/Class"), .int, .int, .long]
  resolved := Array.replicate 524 none
  statics := none }

def pool9 : Array CpInfo := pool [(1, .class_ 2), (0, u "java/lang/Integer"), (16, u "digits"), (0, u "[C"), (32, u "numberOfLeadingZeros"), (0, u "(I)I"), (30, u "DigitOnes"), (0, u "[B"), (2, u "DigitTens"), (99, .class_ 190), (0, u "java/lang/Integer$IntegerCache"), (3, u "I"), (8, .class_ 204), (0, u "java/lang/Number"), (2, u "value"), (56, .integer 65536), (37, u "TYPE"), (0, u "Ljava/lang/Class;"), (0, .class_ 305), (0, u "java/lang/Comparable"), (0, .class_ 307), (0, u "java/lang/constant/Constable"), (0, .class_ 309), (0, u "java/lang/constant/ConstantDesc"), (0, u "MIN_VALUE"), (1, u "MAX_VALUE"), (3, u "SIZE"), (1, u "BYTES"), (1, u "serialVersionUID"), (0, u "J")] 131

def k9c0 : Code := { maxStack := 3, maxLocals := 2, code := jdk_33_method_47_code, exceptionTable := #[], attributes := #[] }
def k9m0 : Method := { name := "numberOfLeadingZeros", desc := "(I)I", sig := { parameters := [.int], returnType := some .int }, accessFlags := 9, code := some k9c0 }
/-- java/lang/Integer -/
def k9 : Class := { plain "java/lang/Integer" (some 4) with
  accessFlags := 49
  interfaces := #[5, 6, 7]
  cf := some (fileOf pool9 1 #[.nestMembers #[189]] #[{ accessFlags := 9, nameIndex := 53, descriptorIndex := 54, attributes := #[] }] 49 203 #[304, 306, 308] #[{ accessFlags := 25, nameIndex := 310, descriptorIndex := 194, attributes := #[] }, { accessFlags := 25, nameIndex := 312, descriptorIndex := 194, attributes := #[] }, { accessFlags := 25, nameIndex := 302, descriptorIndex := 303, attributes := #[] }, { accessFlags := 24, nameIndex := 19, descriptorIndex := 20, attributes := #[] }, { accessFlags := 24, nameIndex := 89, descriptorIndex := 86, attributes := #[] }, { accessFlags := 24, nameIndex := 85, descriptorIndex := 86, attributes := #[] }, { accessFlags := 18, nameIndex := 207, descriptorIndex := 194, attributes := #[] }, { accessFlags := 25, nameIndex := 316, descriptorIndex := 194, attributes := #[] }, { accessFlags := 25, nameIndex := 318, descriptorIndex := 194, attributes := #[] }, { accessFlags := 26, nameIndex := 320, descriptorIndex := 321, attributes := #[] }])
  fields := #[{ name := "MIN_VALUE", type := .int, accessFlags := 25, slot := 0, constantValue := 0 }, { name := "MAX_VALUE", type := .int, accessFlags := 25, slot := 1, constantValue := 0 }, { name := "TYPE", type := (.object "java/lang/Class"), accessFlags := 25, slot := 2, constantValue := 0 }, { name := "digits", type := (.array .char), accessFlags := 24, slot := 3, constantValue := 0 }, { name := "DigitTens", type := (.array .byte), accessFlags := 24, slot := 4, constantValue := 0 }, { name := "DigitOnes", type := (.array .byte), accessFlags := 24, slot := 5, constantValue := 0 }, { name := "value", type := .int, accessFlags := 18, slot := 0, constantValue := 0 }, { name := "SIZE", type := .int, accessFlags := 25, slot := 6, constantValue := 0 }, { name := "BYTES", type := .int, accessFlags := 25, slot := 7, constantValue := 0 }, { name := "serialVersionUID", type := .long, accessFlags := 26, slot := 8, constantValue := 0 }]
  methods := #[k9m0]
  instanceTypes := #[.int]
  staticTypes := #[.int, .int, (.object "java/lang/Class"), (.array .char), (.array .byte), (.array .byte), .int, .int, .long]
  resolved := Array.replicate 453 none
  statics := none }

def pool10 : Array CpInfo := pool [(1, .class_ 2), (0, u "java/lang/Math"), (1, .class_ 6), (1, u "java/lang/Object"), (0, u "<init>"), (0, u "()V"), (89, .class_ 100), (1, u "java/lang/Math$RandomNumberGeneratorHolder"), (71, u "negativeZeroFloatBits"), (0, u "J"), (2, u "negativeZeroDoubleBits"), (21, u "max"), (46, u "$assertionsDisabled"), (0, u "Z"), (88, u "(II)I"), (2, u "twoToTheDoubleScaleDown"), (0, u "D"), (4, u "twoToTheDoubleScaleUp"), (9, u "E"), (3, u "PI"), (2, u "TAU"), (2, u "DEGREES_TO_RADIANS"), (0, u "RADIANS_TO_DEGREES")] 94

def k10m0 : Method := { name := "<init>", desc := "()V", sig := { parameters := [], returnType := none }, accessFlags := 2, code := none }
def k10c1 : Code := { maxStack := 2, maxLocals := 2, code := jdk_29_method_65_code, exceptionTable := #[], attributes := #[] }
def k10m1 : Method := { name := "max", desc := "(II)I", sig := { parameters := [.int, .int], returnType := some .int }, accessFlags := 9, code := some k10c1 }
/-- java/lang/Math -/
def k10 : Class := { plain "java/lang/Math" (some 0) with
  accessFlags := 49
  interfaces := #[]
  cf := some (fileOf pool10 1 #[.nestMembers #[98]] #[{ accessFlags := 2, nameIndex := 7, descriptorIndex := 8, attributes := #[] }, { accessFlags := 9, nameIndex := 198, descriptorIndex := 335, attributes := #[] }] 49 4 #[] #[{ accessFlags := 25, nameIndex := 354, descriptorIndex := 339, attributes := #[] }, { accessFlags := 25, nameIndex := 358, descriptorIndex := 339, attributes := #[] }, { accessFlags := 25, nameIndex := 361, descriptorIndex := 339, attributes := #[] }, { accessFlags := 26, nameIndex := 364, descriptorIndex := 339, attributes := #[] }, { accessFlags := 26, nameIndex := 365, descriptorIndex := 339, attributes := #[] }, { accessFlags := 26, nameIndex := 172, descriptorIndex := 173, attributes := #[] }, { accessFlags := 26, nameIndex := 176, descriptorIndex := 173, attributes := #[] }, { accessFlags := 8, nameIndex := 344, descriptorIndex := 339, attributes := #[] }, { accessFlags := 8, nameIndex := 338, descriptorIndex := 339, attributes := #[] }, { accessFlags := 4120, nameIndex := 245, descriptorIndex := 246, attributes := #[] }])
  fields := #[{ name := "E", type := .double, accessFlags := 25, slot := 0, constantValue := 0 }, { name := "PI", type := .double, accessFlags := 25, slot := 1, constantValue := 0 }, { name := "TAU", type := .double, accessFlags := 25, slot := 2, constantValue := 0 }, { name := "DEGREES_TO_RADIANS", type := .double, accessFlags := 26, slot := 3, constantValue := 0 }, { name := "RADIANS_TO_DEGREES", type := .double, accessFlags := 26, slot := 4, constantValue := 0 }, { name := "negativeZeroFloatBits", type := .long, accessFlags := 26, slot := 5, constantValue := 0 }, { name := "negativeZeroDoubleBits", type := .long, accessFlags := 26, slot := 6, constantValue := 0 }, { name := "twoToTheDoubleScaleUp", type := .double, accessFlags := 8, slot := 7, constantValue := 0 }, { name := "twoToTheDoubleScaleDown", type := .double, accessFlags := 8, slot := 8, constantValue := 0 }, { name := "$assertionsDisabled", type := .boolean, accessFlags := 4120, slot := 9, constantValue := 0 }]
  methods := #[k10m0, k10m1]
  instanceTypes := #[]
  staticTypes := #[.double, .double, .double, .double, .double, .long, .long, .double, .double, .boolean]
  resolved := Array.replicate 460 none
  statics := none }

def pool11 : Array CpInfo := pool [(2, .class_ 4), (1, u "java/lang/Object"), (0, u "<init>"), (0, u "()V"), (7, .class_ 16), (1, u "java/util/Arrays"), (57, .class_ 76), (1, u "java/util/Arrays$NaturalOrder"), (36, .class_ 115), (1, u "java/util/Arrays$LegacyMergeSort"), (1, u "Z"), (257, .class_ 376), (0, u "java/util/Arrays$ArrayList"), (68, u "$assertionsDisabled"), (269, u "MIN_ARRAY_SORT_GRAN"), (0, u "I"), (2, u "INSERTIONSORT_THRESHOLD"), (120, u "fill"), (0, u "([JJ)V"), (133, .class_ 976), (0, u "java/util/Arrays$ArrayItr")] 52

def k11m0 : Method := { name := "<init>", desc := "()V", sig := { parameters := [], returnType := none }, accessFlags := 2, code := none }
def k11c1 : Code := { maxStack := 4, maxLocals := 5, code := jdk_65_method_101_code, exceptionTable := #[], attributes := #[] }
def k11m1 : Method := { name := "fill", desc := "([JJ)V", sig := { parameters := [(.array .long), .long], returnType := none }, accessFlags := 9, code := some k11c1 }
/-- java/util/Arrays -/
def k11 : Class := { plain "java/util/Arrays" (some 0) with
  accessFlags := 49
  interfaces := #[]
  cf := some (fileOf pool11 14 #[.nestMembers #[975, 375, 113, 74]] #[{ accessFlags := 2, nameIndex := 5, descriptorIndex := 6, attributes := #[] }, { accessFlags := 9, nameIndex := 840, descriptorIndex := 841, attributes := #[] }] 49 2 #[] #[{ accessFlags := 26, nameIndex := 715, descriptorIndex := 716, attributes := #[] }, { accessFlags := 26, nameIndex := 719, descriptorIndex := 716, attributes := #[] }, { accessFlags := 4120, nameIndex := 445, descriptorIndex := 117, attributes := #[] }])
  fields := #[{ name := "MIN_ARRAY_SORT_GRAN", type := .int, accessFlags := 26, slot := 0, constantValue := 0 }, { name := "INSERTIONSORT_THRESHOLD", type := .int, accessFlags := 26, slot := 1, constantValue := 0 }, { name := "$assertionsDisabled", type := .boolean, accessFlags := 4120, slot := 2, constantValue := 0 }]
  methods := #[k11m0, k11m1]
  instanceTypes := #[]
  staticTypes := #[.int, .int, .boolean]
  resolved := Array.replicate 1029 none
  statics := none }

def pool12 : Array CpInfo := pool [(1, u "java/lang/Cloneable"), (0, .class_ 1), (0, u "java/lang/Object"), (0, .class_ 3)] 3

/-- java/lang/Cloneable -/
def k12 : Class := { plain "java/lang/Cloneable" (some 0) with
  accessFlags := 1537
  interfaces := #[]
  cf := some (fileOf pool12 2 #[] #[] 1537 4 #[] #[])
  fields := #[]
  methods := #[]
  instanceTypes := #[]
  staticTypes := #[]
  resolved := Array.replicate 8 none
  statics := none }

/-- the primitive byte -/
def k13 : Class := { plain "byte" none with kind := .primitive 'B', accessFlags := 0x411 }
/-- [B -/
def k14 : Class := { plain "[B" (some 0) with kind := .array 13 .byte, interfaces := #[12, 3], accessFlags := 1041 }

/-- the primitive int -/
def k15 : Class := { plain "int" none with kind := .primitive 'I', accessFlags := 0x411 }
/-- [I -/
def k16 : Class := { plain "[I" (some 0) with kind := .array 15 .int, interfaces := #[12, 3], accessFlags := 1041 }

/-- the primitive long -/
def k17 : Class := { plain "long" none with kind := .primitive 'J', accessFlags := 0x411 }
/-- [J -/
def k18 : Class := { plain "[J" (some 0) with kind := .array 17 .long, interfaces := #[12, 3], accessFlags := 1041 }

def heap : Heap := #[]
/-- [[J -/
def k19 : Class := { plain "[[J" (some 0) with kind := .array 18 (.array .long), interfaces := #[12, 3], accessFlags := 1041 }
def classes : Array Class := #[k0, k1, k2, k3, k4, k5, k6, k7, k8, k9, k10, k11, k12, k13, k14, k15, k16, k17, k18, k19]
def interned : List (Array UInt16 × Addr) := []
def slotsUsed : Nat := 0
def theMethod : MethodId := ⟨1, 1⟩
def args0 : Array Value := #[.int 3, .int 4, .long 5, .long 7, .long 9, .long 11]
def aboutOver (below : List Frame) : State where
  vm := { classes := classes, interned := interned.toArray }
  heap := heap
  slotsUsed := slotsUsed
  threads := #[{ frames := .invoking theMethod args0 :: below }]
def below0 : List Frame := [.native { method := ⟨0, 0⟩, args := #[] }]
def about1 : State := aboutOver below0
def p0 : Program := .bare "" "" ""
def e0 : Env := launch0.env 0 0 0
theorem w_frames : about1.frames = Frame.invoking theMethod args0 :: below0 := rfl
set_option maxRecDepth 65536 in
theorem w_args : argsFit about1.vm theMethod args0 = true := by decide +kernel
set_option maxRecDepth 65536 in
theorem w_heap : heapFits about1 = true := by decide +kernel
set_option maxRecDepth 65536 in
theorem w_runnable : about1.curStatus? = some .runnable := by decide +kernel
set_option maxRecDepth 65536 in
theorem w_alone : about1.alone = true := by decide +kernel
set_option maxRecDepth 65536 in
theorem w_named : about1.methodNamed? x = some theMethod := by decide +kernel
set_option maxRecDepth 65536 in
theorem w_hears : about1.hears theMethod below0 = true := by decide +kernel
set_option maxRecDepth 65536 in
theorem w_ripe : about1.ripe theMethod args0 below0 = true := by decide +kernel
theorem w_running : about1.status = .running := rfl
set_option maxRecDepth 65536 in
theorem w_room : about1.hasRoom e0.platform room_1 = true :=
  launch0.hasRoom_least _ room_1 (by decide +kernel) (by decide +kernel) (by decide +kernel) (by decide +kernel) (by decide +kernel) (by decide +kernel)
theorem allAtoms_all (ts : List Jvm.Cond) (a : Array Jvm.Value) (st : Jvm.State) : (allAtoms ts).before a st = ts.all (fun c => c.before a st) := by
  induction ts with
  | nil => rfl
  | cons c t ih =>
    show (Jvm.Cond.and c (allAtoms t)).before a st = _
    rw [Jvm.Cond.before_and, ih, List.all_cons]
def words1 : List Jvm.Cond := Jvm.Cond.code x code maxLocals ret :: tables_1
/-- a 'code' word, met by the world's own term for the bytes: nothing is compared byte by byte -/
theorem code_word {y : MethodName} {bytes : ByteArray} {mx : Nat} {rt : Option FieldType} {a : Array Value} {s : State} {m : MethodId} {meth : Method} {c : Code} (h1 : s.methodNamed? y = some m) (h2 : s.vm.method? m = some meth) (h3 : meth.code = some c) (h4 : c.code = bytes)
    (h5 : (c.maxLocals == mx && c.exceptionTable.isEmpty && decide (c.maxStack ≤ mostOperands) && decide (meth.sig.returnType = rt) && !meth.locks && decide (parseMethodDescriptor y.desc = some meth.sig)) = true) : (Jvm.Cond.code y bytes mx rt).before a s = true := by
  simp only [Bool.and_eq_true, beq_iff_eq, Bool.not_eq_true', decide_eq_true_eq] at h5
  obtain ⟨⟨⟨⟨⟨g1, g2⟩, g3⟩, g4⟩, g5⟩, g6⟩ := h5
  simp [Cond.before, Cond.holds, Cond.value, h1, h2, h3, h4, g1, g2, g3, g4, g5, g6]
def isCode : Jvm.Cond → Bool
  | .code _ _ _ _ => true
  | _ => false
theorem all_split {L : List Jvm.Cond} {P : Jvm.Cond → Bool} (h1 : L.all (fun c => isCode c || P c) = true) (h2 : ∀ c ∈ L.filter isCode, P c = true) : L.all P = true := by
  refine List.all_eq_true.mpr fun c hc => ?_
  have h := List.all_eq_true.mp h1 c hc
  rcases Bool.eq_false_or_eq_true (isCode c) with hi | hi
  · exact h2 c (List.mem_filter.mpr ⟨hc, hi⟩)
  · simpa [hi] using h
set_option maxRecDepth 65536 in
theorem w_c0 : (Jvm.Cond.code x code maxLocals ret).before args0 about1 = true := code_word (m := ⟨1, 1⟩) (meth := k1m1) (c := k1c1) (by decide +kernel) rfl rfl rfl (by decide +kernel)
set_option maxRecDepth 65536 in
theorem w_c1 : (Jvm.Cond.code ({ cls := "com/example/nesiph/nesiph/MarkingSetSetTokensPinLaw", name := "maxFor", desc := "(I)J" } : Jvm.MethodName) method_3_code (1 : Nat) (Option.some Jvm.ClassFile.FieldType.long)).before args0 about1 = true := code_word (m := ⟨1, 2⟩) (meth := k1m2) (c := k1c2) (by decide +kernel) rfl rfl rfl (by decide +kernel)
set_option maxRecDepth 65536 in
theorem w_c2 : (Jvm.Cond.code ({ cls := "com/example/nesiph/nesiph/MarkingSet", name := "<init>", desc := "([J)V" } : Jvm.MethodName) prog_21_method_1_code (7 : Nat) (Option.none : Option Jvm.ClassFile.FieldType)).before args0 about1 = true := code_word (m := ⟨2, 0⟩) (meth := k2m0) (c := k2c0) (by decide +kernel) rfl rfl rfl (by decide +kernel)
set_option maxRecDepth 65536 in
theorem w_c3 : (Jvm.Cond.code ({ cls := "java/lang/Object", name := "<init>", desc := "()V" } : Jvm.MethodName) object_method_1_code (1 : Nat) (Option.none : Option Jvm.ClassFile.FieldType)).before args0 about1 = true := code_word (m := ⟨0, 0⟩) (meth := k0m0) (c := k0c0) (by decide +kernel) rfl rfl rfl (by decide +kernel)
set_option maxRecDepth 65536 in
theorem w_c4 : (Jvm.Cond.code ({ cls := "com/example/nesiph/nesiph/MarkingSet", name := "bitsFor", desc := "(J)I" } : Jvm.MethodName) prog_21_method_24_code (2 : Nat) (Option.some Jvm.ClassFile.FieldType.int)).before args0 about1 = true := code_word (m := ⟨2, 5⟩) (meth := k2m5) (c := k2c5) (by decide +kernel) rfl rfl rfl (by decide +kernel)
set_option maxRecDepth 65536 in
theorem w_c5 : (Jvm.Cond.code ({ cls := "java/lang/Long", name := "numberOfLeadingZeros", desc := "(J)I" } : Jvm.MethodName) jdk_35_method_48_code (3 : Nat) (Option.some Jvm.ClassFile.FieldType.int)).before args0 about1 = true := code_word (m := ⟨8, 0⟩) (meth := k8m0) (c := k8c0) (by decide +kernel) rfl rfl rfl (by decide +kernel)
set_option maxRecDepth 65536 in
theorem w_c6 : (Jvm.Cond.code ({ cls := "java/lang/Integer", name := "numberOfLeadingZeros", desc := "(I)I" } : Jvm.MethodName) jdk_33_method_47_code (2 : Nat) (Option.some Jvm.ClassFile.FieldType.int)).before args0 about1 = true := code_word (m := ⟨9, 0⟩) (meth := k9m0) (c := k9c0) (by decide +kernel) rfl rfl rfl (by decide +kernel)
set_option maxRecDepth 65536 in
theorem w_c7 : (Jvm.Cond.code ({ cls := "java/lang/Math", name := "max", desc := "(II)I" } : Jvm.MethodName) jdk_29_method_65_code (2 : Nat) (Option.some Jvm.ClassFile.FieldType.int)).before args0 about1 = true := code_word (m := ⟨10, 1⟩) (meth := k10m1) (c := k10c1) (by decide +kernel) rfl rfl rfl (by decide +kernel)
set_option maxRecDepth 65536 in
theorem w_c8 : (Jvm.Cond.code ({ cls := "com/example/nesiph/nesiph/MarkingSet", name := "placeField", desc := "(IIII)V" } : Jvm.MethodName) prog_21_method_15_code (5 : Nat) (Option.none : Option Jvm.ClassFile.FieldType)).before args0 about1 = true := code_word (m := ⟨2, 3⟩) (meth := k2m3) (c := k2c3) (by decide +kernel) rfl rfl rfl (by decide +kernel)
set_option maxRecDepth 65536 in
theorem w_c9 : (Jvm.Cond.code ({ cls := "com/example/nesiph/nesiph/MarkingSet", name := "lowBits", desc := "(I)J" } : Jvm.MethodName) prog_21_method_23_code (1 : Nat) (Option.some Jvm.ClassFile.FieldType.long)).before args0 about1 = true := code_word (m := ⟨2, 4⟩) (meth := k2m4) (c := k2c4) (by decide +kernel) rfl rfl rfl (by decide +kernel)
set_option maxRecDepth 65536 in
theorem w_c10 : (Jvm.Cond.code ({ cls := "java/util/Arrays", name := "fill", desc := "([JJ)V" } : Jvm.MethodName) jdk_65_method_101_code (5 : Nat) (Option.none : Option Jvm.ClassFile.FieldType)).before args0 about1 = true := code_word (m := ⟨11, 1⟩) (meth := k11m1) (c := k11c1) (by decide +kernel) rfl rfl rfl (by decide +kernel)
set_option maxRecDepth 65536 in
theorem w_c11 : (Jvm.Cond.code ({ cls := "com/example/nesiph/nesiph/MarkingSet", name := "tokens", desc := "([JI)J" } : Jvm.MethodName) prog_21_method_4_code (3 : Nat) (Option.some Jvm.ClassFile.FieldType.long)).before args0 about1 = true := code_word (m := ⟨2, 1⟩) (meth := k2m1) (c := k2c1) (by decide +kernel) rfl rfl rfl (by decide +kernel)
set_option maxRecDepth 65536 in
theorem w_c12 : (Jvm.Cond.code ({ cls := "com/example/nesiph/nesiph/MarkingSet", name := "setTokens", desc := "([JIJ)V" } : Jvm.MethodName) prog_21_method_6_code (7 : Nat) (Option.none : Option Jvm.ClassFile.FieldType)).before args0 about1 = true := code_word (m := ⟨2, 2⟩) (meth := k2m2) (c := k2c2) (by decide +kernel) rfl rfl rfl (by decide +kernel)
def codes1 : List Jvm.Cond := [Jvm.Cond.code x code maxLocals ret, Jvm.Cond.code ({ cls := "com/example/nesiph/nesiph/MarkingSetSetTokensPinLaw", name := "maxFor", desc := "(I)J" } : Jvm.MethodName) method_3_code (1 : Nat) (Option.some Jvm.ClassFile.FieldType.long), Jvm.Cond.code ({ cls := "com/example/nesiph/nesiph/MarkingSet", name := "<init>", desc := "([J)V" } : Jvm.MethodName) prog_21_method_1_code (7 : Nat) (Option.none : Option Jvm.ClassFile.FieldType), Jvm.Cond.code ({ cls := "java/lang/Object", name := "<init>", desc := "()V" } : Jvm.MethodName) object_method_1_code (1 : Nat) (Option.none : Option Jvm.ClassFile.FieldType), Jvm.Cond.code ({ cls := "com/example/nesiph/nesiph/MarkingSet", name := "bitsFor", desc := "(J)I" } : Jvm.MethodName) prog_21_method_24_code (2 : Nat) (Option.some Jvm.ClassFile.FieldType.int), Jvm.Cond.code ({ cls := "java/lang/Long", name := "numberOfLeadingZeros", desc := "(J)I" } : Jvm.MethodName) jdk_35_method_48_code (3 : Nat) (Option.some Jvm.ClassFile.FieldType.int), Jvm.Cond.code ({ cls := "java/lang/Integer", name := "numberOfLeadingZeros", desc := "(I)I" } : Jvm.MethodName) jdk_33_method_47_code (2 : Nat) (Option.some Jvm.ClassFile.FieldType.int), Jvm.Cond.code ({ cls := "java/lang/Math", name := "max", desc := "(II)I" } : Jvm.MethodName) jdk_29_method_65_code (2 : Nat) (Option.some Jvm.ClassFile.FieldType.int), Jvm.Cond.code ({ cls := "com/example/nesiph/nesiph/MarkingSet", name := "placeField", desc := "(IIII)V" } : Jvm.MethodName) prog_21_method_15_code (5 : Nat) (Option.none : Option Jvm.ClassFile.FieldType), Jvm.Cond.code ({ cls := "com/example/nesiph/nesiph/MarkingSet", name := "lowBits", desc := "(I)J" } : Jvm.MethodName) prog_21_method_23_code (1 : Nat) (Option.some Jvm.ClassFile.FieldType.long), Jvm.Cond.code ({ cls := "java/util/Arrays", name := "fill", desc := "([JJ)V" } : Jvm.MethodName) jdk_65_method_101_code (5 : Nat) (Option.none : Option Jvm.ClassFile.FieldType), Jvm.Cond.code ({ cls := "com/example/nesiph/nesiph/MarkingSet", name := "tokens", desc := "([JI)J" } : Jvm.MethodName) prog_21_method_4_code (3 : Nat) (Option.some Jvm.ClassFile.FieldType.long), Jvm.Cond.code ({ cls := "com/example/nesiph/nesiph/MarkingSet", name := "setTokens", desc := "([JIJ)V" } : Jvm.MethodName) prog_21_method_6_code (7 : Nat) (Option.none : Option Jvm.ClassFile.FieldType)]
set_option maxRecDepth 65536 in
theorem codes_eq : words1.filter isCode = codes1 := rfl
theorem w_codes : ∀ c ∈ words1.filter isCode, c.before args0 about1 = true := by
  rw [codes_eq]
  intro c hc
  simp only [codes1, List.mem_cons, List.not_mem_nil, or_false] at hc
  rcases hc with rfl | rfl | rfl | rfl | rfl | rfl | rfl | rfl | rfl | rfl | rfl | rfl | rfl
  · exact w_c0
  · exact w_c1
  · exact w_c2
  · exact w_c3
  · exact w_c4
  · exact w_c5
  · exact w_c6
  · exact w_c7
  · exact w_c8
  · exact w_c9
  · exact w_c10
  · exact w_c11
  · exact w_c12
set_option maxRecDepth 65536 in
theorem w_t1 : (words1.take 24).all (fun c => isCode c || c.before args0 about1) = true := by decide +kernel
set_option maxRecDepth 65536 in
theorem w_t2 : ((words1.drop 24).take 24).all (fun c => isCode c || c.before args0 about1) = true := by decide +kernel
set_option maxRecDepth 65536 in
theorem w_t3 : ((words1.drop 24).drop 24).all (fun c => isCode c || c.before args0 about1) = true := by decide +kernel
theorem w_tables : (allAtoms (Jvm.Cond.code x code maxLocals ret :: tables_1)).before args0 about1 = true := by
  rw [allAtoms_all]
  show words1.all (fun c => c.before args0 about1) = true
  refine all_split ?_ w_codes
  rw [← List.take_append_drop 24 words1, List.all_append, w_t1, ← List.take_append_drop 24 (words1.drop 24), List.all_append, w_t2, w_t3]
  rfl
set_option maxRecDepth 65536 in
theorem w_case : (Jvm.Cond.and given_1 narrow_1).before args0 about1 = true := by decide +kernel
theorem w_applies : (headSpec (Jvm.Cond.code x code maxLocals ret :: tables_1) room_1).applies x e0.platform about1 = true :=
  (Spec.applies_iff w_frames).mpr ⟨w_running, w_runnable, w_alone, w_named, w_hears, w_ripe, w_room, w_tables⟩
theorem atStart : AtStart classFile x code maxLocals ret World_1 tables_1 room_1 Calls_1 rest_1 Pre_1 launch0 p0 e0 about1 theMethod args0 below0 :=
  ⟨lists_1, trivial, launch0.admits_env _ _ _, launch0.least_env, fairChoices_fair.cas, fairChoices_fair.clock, w_frames, w_args, w_heap, w_applies, trivial, trivial, w_case⟩
end start1
theorem witness_1 : WitnessClaimed_1 := ⟨start1.p0, start1.e0, start1.about1, start1.theMethod, start1.args0, start1.below0, start1.atStart⟩
end Jvm.Pilot.@@N@@
