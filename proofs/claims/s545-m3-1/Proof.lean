import JvmDerived
import JvmDerived.Pilot.@@N@@Statement
import JvmDerived.Pilot.@@N@@Code
set_option linter.unusedVariables false
set_option linter.unusedSimpArgs false
namespace Jvm.RoadKit
open Sem ClassFile Op Lib Jvm.Stand Jvm.Free Jvm.LawKit
section Own
/-- from u a state is reached where R holds -/
def own_Go (tb : Tables) (e : Env) (below : List Frame) (R : State → Prop) (u : State) : Prop := ∃ t, Steps tb e below u t ∧ R t
theorem own_st {tb : Tables} {e : Env} {below : List Frame} {R : State → Prop} {u v : State} (h : ∀ t, Steps tb e below v t → Steps tb e below u t) (g : own_Go tb e below R v) : own_Go tb e below R u := by
  obtain ⟨t, h1, h2⟩ := g
  exact ⟨t, h t h1, h2⟩
theorem own_fin {tb : Tables} {e : Env} {below : List Frame} {R : State → Prop} {u t : State} (h : Steps tb e below u t) (r : R t) : own_Go tb e below R u := ⟨t, h, r⟩
theorem own_in {tb : Tables} {e : Env} {below : List Frame} {u v : State} {P : State → Outcome → Prop} (h : ∀ t, Steps tb e below v t → Steps tb e below u t)
    (g : ∀ RR : State → Prop, (∀ t, (∃ o, t.status = .running ∧ P t o) → RR t) → own_Go tb e below RR v) : ∃ t o, Steps tb e below u t ∧ t.status = .running ∧ P t o := by
  obtain ⟨t, h1, o, h2, h3⟩ := g (fun t => ∃ o, t.status = .running ∧ P t o) fun _ q => q
  exact ⟨t, o, h t h1, h2, h3⟩
theorem own_ri {x y : Int32} (h : x = y) : some (Value.int x) = some (Value.int y) := h ▸ rfl
theorem own_rj {x y : Int64} (h : x = y) : some (Value.long x) = some (Value.long y) := h ▸ rfl
theorem own_rr {x y : Addr} (h : x = y) : some (Value.ref x) = some (Value.ref y) := h ▸ rfl
theorem own_eq_int {args : Array Value} {first s : State} {o : Option Outcome} {idx : List Nat} {a : Term} {k : Int32} (h : (Cond.eq a (.int k)).value args first o s idx = some true) : a.eval args first o idx s = some (.int k) := by
  simp only [Cond.value, Term.eval] at h
  cases ht : a.eval args first o idx s with
  | none => simp [ht] at h
  | some x => cases x <;> simp [ht] at h ⊢; exact h
theorem own_eq_long {args : Array Value} {first s : State} {o : Option Outcome} {idx : List Nat} {a : Term} {k : Int64} (h : (Cond.eq a (.long k)).value args first o s idx = some true) : a.eval args first o idx s = some (.long k) := by
  simp only [Cond.value, Term.eval] at h
  cases ht : a.eval args first o idx s with
  | none => simp [ht] at h
  | some x => cases x <;> simp [ht] at h ⊢; exact h
theorem own_staK {Z : State} {h h' : Heap} {C n d : String} {w : Value} {ws : List Addr} (F : Sta Z h C n d w) (K : Keep h h' ws) (q : ∀ x ∈ ws, ∀ cell : Cell, h[x]? = some cell → cell.vm.isStatics = false) : Sta Z h' C n d w := by
  obtain ⟨cf, i, k, f, st, cell, h1, h2, h3, h4, h5, h6, h7⟩ := F
  exact ⟨cf, i, k, f, st, cell, h1, h2, h3, h4, K.2.1 st cell h5 (fun m => by have := q st m cell h5; rw [h6] at this; cases this), h6, h7⟩
theorem own_selP {s : State} {args : Array Value} {y : MethodName} {n : Nat} (wi : (Cond.instantiable y.cls n).before args s = true) (hp : s.PrivateAt y) (hi : (Cond.instanceMethod y).before args s = true) (hy : y.cls ≠ "java/lang/invoke/MethodHandle" ∧ y.cls ≠ "java/lang/invoke/VarHandle") : (Cond.selects y.cls y y).before args s = true := by
  obtain ⟨c, k, h1, h2, -, h4, -⟩ := Cond.instantiable_spec wi
  exact selects_self_of_private h1 h2 (Bool.or_eq_false_iff.mp h4).1 hp hi hy
variable {p : Program} {l : Launch} {e : Env} {R : Room} {s : State} {m : MethodId} {args : Array Value} {below : List Frame} {meth : Method} {c : Code} {T : State} {locs : List Loc} {cells slots : Nat} {Z : State} {h : Heap}
theorem retI (X : Stand p l e R s m args below meth c T locs cells slots) (hx : p.tables.exec = Jvm.exec) {pc : Nat} {Ls : Array Slot} {z : Int32} {rest : List Value} (hret : meth.sig.returnType = some .int) (hd : decode c.code pc = .ok (.ireturn, 1)) {fs : List Frame}
    (hl : ∀ (f : JFrame) (acts : List Action), f.method = m → f.locked = none → f.entered = [] → (doReturn e (T.setTop f) acts (some (.int z))).1 = T.setFrames fs) : Steps p.tables e below (T.setTop (mkF m pc Ls (.int z :: rest))) (T.setFrames fs) :=
  retOut X hx hret rfl (Or.inl ⟨rfl, Or.inl rfl, z, rfl⟩) hd hl
theorem own_len (X : Stand p l e R s m args below meth c T locs cells slots) (hx : p.tables.exec = Jvm.exec) (hZ : Z.Warmed39 s.vm) (eT : T.heap = h) {a : Addr} {cl : Cell} {ty : FieldType} (A : Arr Z h a cl ty) {z : Int32} (S : cl.slots.size = z.toNatClampNeg) (N : ¬ z < 0)
    {g : JFrame} (hg : g.method = m) {rest : List Value} (hs : g.stack = .ref a :: rest) (hd : decode c.code g.pc = .ok (.arraylength, 1)) {target : State}
    (k : Steps p.tables e below (T.setTop { g with pc := g.pc + 1, stack := .int z :: rest }) target) : Steps p.tables e below (T.setTop g) target :=
  X.arraylength hx (by rw [eT]; exact A.1) (State.isArrayOf_alike hZ.alike A.2.1) hg hs hd target (by rw [len_of S N]; exact k)
end Own
end Jvm.RoadKit
namespace Jvm.RoadKit
open Sem ClassFile Op Lib Jvm.Stand Jvm.Free Jvm.LawKit
section OwnS
variable {Z s : State} {vm vm1 : Vm} {h h' : Heap} {a0 : Array Value}
/-- the literal "" of java/lang/String: not loaded since the case's start, or booked and known -/
def own_Bk (Z : State) (vm : Vm) (h : Heap) : Prop := IB Z vm [] ∨ ∃ (a b : Addr) (k : ClassId), Lit (Z.setVm vm) "java/lang/String" 7 a ∧ Exa Z h a "java/lang/String" ∧ Fld Z h a "java/lang/String" "coder" "B" (.int (0 : Int32)) ∧ Fld Z h a "java/lang/String" "value" "[B" (.ref b) ∧ Arv Z h b k .byte (0 : Int32) [] (.int (0 : Int32))
theorem own_Bk_ext (B : own_Bk Z vm h) (E : Ext h h') : own_Bk Z vm h' := by
  rcases B with I | ⟨a, b, k, L, E1, F1, F2, V⟩
  · exact Or.inl I
  · exact Or.inr ⟨a, b, k, L, E1.ext E, F1.ext E, F2.ext E, V.ext E⟩
theorem own_Bk_warm (B : own_Bk Z s.vm h) (hW : s.WarmedH vm1) : own_Bk Z vm1 h := by
  rcases B with I | ⟨a, b, k, L, r⟩
  · left
    obtain ⟨more, e1, e2⟩ := I
    exact ⟨more, hW.interned_eq.trans e1, e2⟩
  · right
    have L2 : Lit (s.setVm s.vm) "java/lang/String" 7 a := L
    exact ⟨a, b, k, Lit.stays L2 hW.wide, r⟩
theorem own_Bk_keep {ws : List Addr} (B : own_Bk Z vm h) (K : Keep h h' ws) (q : ∀ (a : Addr), (∃ b : Addr, Fld Z h a "java/lang/String" "value" "[B" (.ref b)) → Exa Z h a "java/lang/String" → a ∉ ws) (q2 : ∀ (b : Addr) (k : ClassId), Arv Z h b k .byte (0 : Int32) [] (.int (0 : Int32)) → b ∉ ws) : own_Bk Z vm h' := by
  rcases B with I | ⟨a, b, k, L, E1, F1, F2, V⟩
  · exact Or.inl I
  · exact Or.inr ⟨a, b, k, L, E1.keep K, F1.keep K (q a ⟨b, F2⟩ E1), F2.keep K (q a ⟨b, F2⟩ E1), V.keep K (q2 b k V)⟩
theorem own_nin1 {x y : Addr} (q : x ≠ y) : x ∉ [y] := ninS q nin0
/-- over a write into another class's object -/
theorem own_Bk_C {o : Addr} {C : String} {n : Nat} (B : own_Bk Z vm h) (K : Keep h h' [o]) (E : Exa Z h o C) (hC : "java/lang/String" ≠ C) (w : (Cond.instantiable C n).before a0 Z = true) : own_Bk Z vm h' :=
  own_Bk_keep B K (fun a _ Ea => own_nin1 (Exa.ne Ea E hC)) (fun b k V => own_nin1 (Ne.symm (Exa.neArv E V w)))
/-- over a write into an array that isn't empty -/
theorem own_Bk_A {o : Addr} {k : ClassId} {ty : FieldType} {z : Int32} {vs : List Value} {d : Value} {n : Nat} (B : own_Bk Z vm h) (K : Keep h h' [o]) (A : Arv Z h o k ty z vs d) (hz : (0 : Int32).toNatClampNeg ≠ z.toNatClampNeg) (w : (Cond.instantiable "java/lang/String" n).before a0 Z = true) : own_Bk Z vm h' :=
  own_Bk_keep B K (fun a _ Ea => own_nin1 (Exa.neArv Ea A w)) (fun b k' V => own_nin1 (fun e => by
    subst e
    obtain ⟨c, A1, -, s1, -⟩ := V
    obtain ⟨c', A2, -, s2, -⟩ := A
    cases A1.1.symm.trans A2.1
    exact hz (s1.symm.trans s2)))
/-- over the making of a String whose value is still null -/
theorem own_Bk_S {o : Addr} {n : Nat} (B : own_Bk Z vm h) (K : Keep h h' [o]) (E : Exa Z h o "java/lang/String") (F : Fld Z h o "java/lang/String" "value" "[B" .null) (w : (Cond.instantiable "java/lang/String" n).before a0 Z = true) : own_Bk Z vm h' :=
  own_Bk_keep B K (fun a ⟨b, Fa⟩ _ => own_nin1 (Fld.ne Fa F (fun q => by cases q))) (fun b k V => own_nin1 (Ne.symm (Exa.neArv E V w)))
theorem own_backS {p : Program} {l : Launch} {e : Env} {R : Room} {args : Array Value} {below : List Frame} {y : MethodName} {bytes : ByteArray} {maxL : Nat} {ret : Option FieldType} {rm : Room} {len W : Nat} {as' : Array Value} {Q : Option Value → Heap → Vm → List Loc → Prop}
    (hM : MetFree l y (head1 [Cond.code y bytes maxL ret] rm) (fun a U => a = as' ∧ Z.Warmed39 U.vm ∧ U.heap = h ∧ own_Bk Z U.vm h) (fun _ _ _ _ _ => True) (fun _ U o U' => ∃ v L, o = .returned v ∧ Q v U'.heap U'.vm L ∧ ReturnedEndW U o U' L rm.cells rm.slots))
    (hZ : Z.Warmed39 s.vm) (hB : own_Bk Z s.vm h) (wc : (Cond.code y bytes maxL ret).before a0 Z = true) (wz : (Cond.initialized y.cls).before a0 Z = true) (hf : rm.frames + 1 ≤ R.frames) (hl : W + (maxL + 11) + rm.locals ≤ R.locals) :
    BackS l R p e below s args y len W (fun A a => a = as' ∧ A.U.heap = h ∧ A.cells + rm.cells ≤ R.cells ∧ A.slots + rm.slots ≤ R.slots)
      (fun A _ v B => ∃ L, Q v B.U.heap B.U.vm L ∧ B.locs = A.locs ++ L ∧ B.cells = A.cells + rm.cells ∧ B.slots = A.slots + rm.slots) :=
  BackS.of_freeW (bytes := bytes) (maxL := maxL) (ret := ret) (E := fun _ _ o t L k n => k = rm.cells ∧ n = rm.slots ∧ ∃ v, o = .returned v ∧ Q v t.heap t.vm L) hM hf hl
    (fun m meth c A a Y hp => have hU : Z.Warmed39 A.U.vm := wtrans hZ Y.warmed
      ⟨by show (Cond.and _ .tt).before a A.U = true; rw [Cond.before_and, mv hU wc]; rfl, mv hU wc, mv hU wz, hp.2.2.1, hp.2.2.2⟩)
    (fun m meth c A a g mk Y hp => ⟨hp.1, wtrans hZ Y.warmed, hp.2.1, own_Bk_warm hB Y.warmed⟩) (fun _ _ _ _ _ _ _ _ _ => trivial)
    (fun _ _ _ _ ⟨v, L, h1, h2, h3⟩ => ⟨L, _, _, h3, rfl, rfl, v, h1, h2⟩)
    (fun m meth c A a g mk v t L k n Y hp _ _ ⟨e1, e2, v', e3, e4⟩ => by cases e3; subst e1 e2; exact ⟨L, e4, rfl, rfl, rfl⟩)
end OwnS
end Jvm.RoadKit
namespace Jvm.Pilot.@@N@@
open Jvm Jvm.ClassFile Sem Op Lib Jvm.Free Jvm.Stand Jvm.LawKit Jvm.RoadKit Bundle Jvm.Pilot.@@N@@.Jvm.D
def own_b (u : Int32) : Int32 := (u.toInt8.toInt32).toInt8.toInt32
def own_u (x : Int32) : Int32 := nar .char (x.toUInt32.toUInt16.toUInt32.toInt32)
def own_c (x : Int32) : Int32 := nar .char (own_u x)
theorem own_uI {x : Int32} (h : 0 ≤ x.toInt ∧ x.toInt < 256) : (own_u x).toInt = x.toInt := by
  have h1 := c_i2c x
  have h2 := c_i2c (x.toUInt32.toUInt16.toUInt32.toInt32)
  show (x.toUInt32.toUInt16.toUInt32.toInt32).toUInt32.toUInt16.toUInt32.toInt32.toInt = x.toInt
  omega
theorem own_cI {x : Int32} (h : 0 ≤ x.toInt ∧ x.toInt < 256) : (own_c x).toInt = x.toInt := by
  have h1 := own_uI h
  have h2 := c_i2c (own_u x)
  show (own_u x).toUInt32.toUInt16.toUInt32.toInt32.toInt = x.toInt
  omega
theorem own_255 (x : Int32) : 0 ≤ (x &&& (255 : Int32)).toInt ∧ (x &&& (255 : Int32)).toInt < 256 := by
  have h := c_mask x 255 8 (by decide) (by decide)
  omega
theorem own_un {x : Int32} (h : 0 ≤ x.toInt ∧ x.toInt < 256) : ¬ (255 : Int32) < own_c x := by
  rw [Int32.lt_iff_toInt_lt, own_cI h]
  have e : (255 : Int32).toInt = 255 := by decide
  omega
theorem own_bI {u : Int32} : ((own_b u).toInt - u.toInt) % 256 = 0 := by
  have h1 := c_i2b u
  have h2 := c_i2b u.toInt8.toInt32
  show ((u.toInt8.toInt32).toInt8.toInt32.toInt - u.toInt) % 256 = 0
  omega
theorem own_ueq {x y : Int32} (hx : 0 ≤ x.toInt ∧ x.toInt < 256) (hy : 0 ≤ y.toInt ∧ y.toInt < 256) : own_u x = own_u y ↔ x = y := by
  constructor
  · intro h
    apply Int32.toInt_inj.mp
    rw [← own_uI hx, ← own_uI hy, h]
  · intro h
    rw [h]
theorem own_beq {x y : Int32} (hx : 0 ≤ x.toInt ∧ x.toInt < 256) (hy : 0 ≤ y.toInt ∧ y.toInt < 256) : own_b (own_c x) = own_b (own_c y) ↔ x = y := by
  constructor
  · intro h
    have h1 := own_bI (u := own_c x)
    have h2 := own_bI (u := own_c y)
    rw [h] at h1
    rw [own_cI hx] at h1
    rw [own_cI hy] at h2
    apply Int32.toInt_inj.mp
    omega
  · intro h
    rw [h]
def own_tx (x : Int32) : Nat → List Value
  | 0 => []
  | 1 => [.int (own_b (own_c (((x.toUInt32 >>> ((2 : Int32) &&& 31).toUInt32).toInt32) &&& (255 : Int32))))]
  | 2 => [.int (own_b (own_c (((x.toUInt32 >>> ((2 : Int32) &&& 31).toUInt32).toInt32) &&& (255 : Int32)))), .int (own_b (own_c (((x.toUInt32 >>> ((10 : Int32) &&& 31).toUInt32).toInt32) &&& (255 : Int32))))]
  | _ => [.int (own_b (own_c (((x.toUInt32 >>> ((2 : Int32) &&& 31).toUInt32).toInt32) &&& (255 : Int32)))), .int (own_b (own_c (((x.toUInt32 >>> ((10 : Int32) &&& 31).toUInt32).toInt32) &&& (255 : Int32)))), .int (own_b (own_c (((x.toUInt32 >>> ((18 : Int32) &&& 31).toUInt32).toInt32) &&& (255 : Int32))))]
abbrev own_P (x : Int32) (n : Nat) (y : Int32) (m : Nat) : Prop := n = m ∧ (1 ≤ n → (((x.toUInt32 >>> ((2 : Int32) &&& 31).toUInt32).toInt32) &&& (255 : Int32)) = (((y.toUInt32 >>> ((2 : Int32) &&& 31).toUInt32).toInt32) &&& (255 : Int32))) ∧ (2 ≤ n → (((x.toUInt32 >>> ((10 : Int32) &&& 31).toUInt32).toInt32) &&& (255 : Int32)) = (((y.toUInt32 >>> ((10 : Int32) &&& 31).toUInt32).toInt32) &&& (255 : Int32))) ∧ (3 ≤ n → (((x.toUInt32 >>> ((18 : Int32) &&& 31).toUInt32).toInt32) &&& (255 : Int32)) = (((y.toUInt32 >>> ((18 : Int32) &&& 31).toUInt32).toInt32) &&& (255 : Int32)))
def own_same (x : Int32) (n : Nat) (y : Int32) (m : Nat) : Int32 := if own_P x n y m then 1 else 0
theorem own_sY {x y : Int32} {n m : Nat} (h : own_P x n y m) : own_same x n y m = 1 := if_pos h
theorem own_sN {x y : Int32} {n m : Nat} (h : ¬ own_P x n y m) : own_same x n y m = 0 := if_neg h
theorem own_s01 (x : Int32) (n : Nat) (y : Int32) (m : Nat) : own_same x n y m = 0 ∨ own_same x n y m = 1 := by
  by_cases h : own_P x n y m
  · exact Or.inr (own_sY h)
  · exact Or.inl (own_sN h)
theorem own_Ps {x y : Int32} {n m : Nat} (h : own_P x n y m) : own_P y m x n := by
  obtain ⟨h0, h1, h2, h3⟩ := h
  subst h0
  exact ⟨rfl, fun q => (h1 q).symm, fun q => (h2 q).symm, fun q => (h3 q).symm⟩
theorem own_sym (x : Int32) (n : Nat) (y : Int32) (m : Nat) : own_same x n y m = own_same y m x n := by
  by_cases h : own_P x n y m
  · rw [own_sY h, own_sY (own_Ps h)]
  · rw [own_sN h, own_sN (fun q => h (own_Ps q))]
def own_ln (l : Int32) (n : Nat) : Prop := (l = 0 ∧ n = 0) ∨ (l = 1 ∧ n = 1) ∨ (l = 2 ∧ n = 2) ∨ (l = 3 ∧ n = 3)
theorem own_l4 (x : Int32) : ∃ n, own_ln (x &&& (3 : Int32)) n := by
  have h1 := c_mask x 3 2 (by decide) (by decide)
  have e : (x &&& (3 : Int32)).toInt = 0 ∨ (x &&& (3 : Int32)).toInt = 1 ∨ (x &&& (3 : Int32)).toInt = 2 ∨ (x &&& (3 : Int32)).toInt = 3 := by omega
  have e0 : (0 : Int32).toInt = 0 := by decide
  have e1 : (1 : Int32).toInt = 1 := by decide
  have e2 : (2 : Int32).toInt = 2 := by decide
  have e3 : (3 : Int32).toInt = 3 := by decide
  rcases e with q | q | q | q
  · exact ⟨0, Or.inl ⟨Int32.toInt_inj.mp (q.trans e0.symm), rfl⟩⟩
  · exact ⟨1, Or.inr (Or.inl ⟨Int32.toInt_inj.mp (q.trans e1.symm), rfl⟩)⟩
  · exact ⟨2, Or.inr (Or.inr (Or.inl ⟨Int32.toInt_inj.mp (q.trans e2.symm), rfl⟩))⟩
  · exact ⟨3, Or.inr (Or.inr (Or.inr ⟨Int32.toInt_inj.mp (q.trans e3.symm), rfl⟩))⟩
def own_an (a b : Int32) : Int32 := if a = 0 then 0 else if b = 0 then 0 else 1
theorem own_an0 {a b : Int32} (h : a = 0) : own_an a b = 0 := by
  unfold own_an
  rw [if_pos h]
theorem own_an1 {a b : Int32} (h : ¬ a = 0) (h2 : b = 0) : own_an a b = 0 := by
  unfold own_an
  rw [if_neg h, if_pos h2]
theorem own_an2 {a b : Int32} (h : ¬ a = 0) (h2 : ¬ b = 0) : own_an a b = 1 := by
  unfold own_an
  rw [if_neg h, if_neg h2]
theorem own_ansym (x : Int32) (n : Nat) (y : Int32) (m : Nat) (z : Int32) (i : Nat) (w : Int32) (j : Nat) : own_an (own_same y m x n) (own_same w j z i) = own_an (own_same x n y m) (own_same z i w j) := by
  rw [own_sym y m x n, own_sym w j z i]
theorem own_nz0 {t : Term} {args : Array Value} {s : State} {x : Int32} (h : (Cond.not (Cond.eq t (.int 0))).value args s none s [] = some true) (e : t.eval args s none [] s = some (.int x)) : ¬ x = (0 : Int32) := fun q => by
  subst q
  have := not_v h
  rw [eq_i e (Term.int_eval 0) rfl] at this
  cases this
theorem own_NSroot {Z : State} {a0 : Array Value} {O K : String} {n : Nat} (w : (Cond.noSuperclass O).before a0 Z = true) (wk : (Cond.instantiable K n).before a0 Z = true) (hn : O ≠ K) : NS Z O K := by
  obtain ⟨c, k, h1, h2, h3, -, -⟩ := Cond.noSuperclass_spec w
  obtain ⟨t, kt, g1, -⟩ := Cond.instantiable_spec wk
  have ne := ids_ne h1 g1 hn
  refine ⟨c, t, h1, g1, fun fuel => ?_⟩
  cases fuel with
  | zero => rfl
  | succ f => simp [Vm.isSubclassAux, ne, h2, h3]
theorem own_NSno {Z : State} {a0 : Array Value} {C S K : String} {n : Nat} (w : (Cond.superclass C S).before a0 Z = true) (wk : (Cond.instantiable K n).before a0 Z = true) (q : NS Z C K) (hn : C ≠ K) : ∃ c t, Z.vm.findClass C = some c ∧ Z.vm.findClass K = some t ∧ Z.vm.assignable c t = false := by
  obtain ⟨c, t, h0, g0, n3⟩ := q
  obtain ⟨p, k, kp, h1, h2, h3, h4, h5, -, h7⟩ := Cond.superclass_spec h0 w
  obtain ⟨t', kt, g1, g2, g5, g7, -⟩ := Cond.instantiable_spec wk
  cases g0.symm.trans g1
  have g8 := (Bool.or_eq_false_iff.mp g7).1
  have ne := ids_ne h0 g0 hn
  refine ⟨c, t, h0, g0, ?_⟩
  show Z.vm.assignableAux (255 + 1) c t = false
  simp [Vm.assignableAux, ne, h2, g2, h5, g5, g8, Vm.isSubclass, n3]
theorem own_sub : ∀ a ∈ Bundle.stringAtoms, a ∈ tables_1 := by
  intro a ha
  simp only [Bundle.stringAtoms, Bundle.sN, List.mem_cons, List.not_mem_nil, or_false] at ha
  rcases ha with rfl | rfl | rfl | rfl | rfl | rfl | rfl
  · exact List.mem_of_getElem? (i := 9) rfl
  · exact List.mem_of_getElem? (i := 8) rfl
  · exact List.mem_of_getElem? (i := 22) rfl
  · exact List.mem_of_getElem? (i := 23) rfl
  · exact List.mem_of_getElem? (i := 24) rfl
  · exact List.mem_of_getElem? (i := 25) rfl
  · exact List.mem_of_getElem? (i := 26) rfl
theorem own_pn_java_lang_StringUTF16 : plainName "java/lang/StringUTF16" = true := by first | (simp [plainName, overriddenIn]; done) | decide +kernel
theorem own_djdk_52_method_21_code_0 : decode jdk_52_method_21_code 0 = .ok (.iconst 0, 1) := by decide +kernel
theorem own_djdk_52_method_21_code_1 : decode jdk_52_method_21_code 1 = .ok (.istore 5, 2) := by decide +kernel
theorem own_djdk_52_method_21_code_3 : decode jdk_52_method_21_code 3 = .ok (.iload 5, 2) := by decide +kernel
theorem own_djdk_52_method_21_code_5 : decode jdk_52_method_21_code 5 = .ok (.iload 4, 2) := by decide +kernel
theorem own_djdk_52_method_21_code_7 : decode jdk_52_method_21_code 7 = .ok (.if_icmp .ge 37, 3) := by decide +kernel
theorem own_djdk_52_method_21_code_10 : decode jdk_52_method_21_code 10 = .ok (.aload_n 0, 1) := by decide +kernel
theorem own_djdk_52_method_21_code_11 : decode jdk_52_method_21_code 11 = .ok (.iload_n 1, 1) := by decide +kernel
theorem own_djdk_52_method_21_code_12 : decode jdk_52_method_21_code 12 = .ok (.caload, 1) := by decide +kernel
theorem own_djdk_52_method_21_code_13 : decode jdk_52_method_21_code 13 = .ok (.istore 6, 2) := by decide +kernel
theorem own_djdk_52_method_21_code_15 : decode jdk_52_method_21_code 15 = .ok (.iload 6, 2) := by decide +kernel
theorem own_djdk_52_method_21_code_17 : decode jdk_52_method_21_code 17 = .ok (.sipush 255, 3) := by decide +kernel
theorem own_djdk_52_method_21_code_20 : decode jdk_52_method_21_code 20 = .ok (.if_icmp .le 6, 3) := by decide +kernel
theorem own_djdk_52_method_21_code_26 : decode jdk_52_method_21_code 26 = .ok (.aload_n 2, 1) := by decide +kernel
theorem own_djdk_52_method_21_code_27 : decode jdk_52_method_21_code 27 = .ok (.iload_n 3, 1) := by decide +kernel
theorem own_djdk_52_method_21_code_28 : decode jdk_52_method_21_code 28 = .ok (.iload 6, 2) := by decide +kernel
theorem own_djdk_52_method_21_code_30 : decode jdk_52_method_21_code 30 = .ok (.i2b, 1) := by decide +kernel
theorem own_djdk_52_method_21_code_31 : decode jdk_52_method_21_code 31 = .ok (.bastore, 1) := by decide +kernel
theorem own_djdk_52_method_21_code_32 : decode jdk_52_method_21_code 32 = .ok (.iinc 1 1, 3) := by decide +kernel
theorem own_djdk_52_method_21_code_35 : decode jdk_52_method_21_code 35 = .ok (.iinc 3 1, 3) := by decide +kernel
theorem own_djdk_52_method_21_code_38 : decode jdk_52_method_21_code 38 = .ok (.iinc 5 1, 3) := by decide +kernel
theorem own_djdk_52_method_21_code_41 : decode jdk_52_method_21_code 41 = .ok (.goto (-38), 3) := by decide +kernel
theorem own_djdk_52_method_21_code_44 : decode jdk_52_method_21_code 44 = .ok (.iload 4, 2) := by decide +kernel
theorem own_djdk_52_method_21_code_46 : decode jdk_52_method_21_code 46 = .ok (.ireturn, 1) := by decide +kernel
theorem own_efCI1 (m : MethodId) (ca : Addr) (ba : Addr) : entryFrame m #[(.ref ca), (.int (0 : Int32)), (.ref ba), (.int (0 : Int32)), (.int (1 : Int32))] 7 = mkF m 0 #[.val (.ref ca), .val (.int (0 : Int32)), .val (.ref ba), .val (.int (0 : Int32)), .val (.int (1 : Int32)), .unset, .unset] [] := by first | (simp [entryFrame, mkF, argsToLocals, Value.category]; done) | rfl
def own_QCI1 (Z : State) (ca : Addr) (kc : ClassId) (ba : Addr) (kb : ClassId) (u0 : Int32) (h0 : Heap) (n0 : Nat) (rv__ : Option Value) (h : Heap) (rL__ : List Loc) : Prop := rv__ = some (.int (1 : Int32)) ∧ Fr n0 rL__ ∧ Keep h0 h [ba] ∧ Arv Z h ba kb .byte (1 : Int32) [(.int (own_b u0))] (.int (0 : Int32))
abbrev own_RCI1 : Room := { frames := 0, cells := 0, slots := 0, locals := 0 }
set_option maxRecDepth 65536 in
set_option maxHeartbeats 40000000 in
theorem own_rmCI1 (l : Launch) (Z : State) (a0 : Array Value) (hw : ∀ d ∈ tables_1, d.before a0 Z = true) (ws : List Jvm.Cond) (ca : Addr) (kc : ClassId) (ba : Addr) (kb : ClassId) (u0 : Int32) (h0 : Heap) (n0 : Nat) (Z0 : n0 ≤ h0.size) (g_b : n0 ≤ ba) (Vc : Arv Z h0 ca kc .char (1 : Int32) [(.int u0)] (.int (0 : Int32))) (Vb : Arv Z h0 ba kb .byte (1 : Int32) [(.int (0 : Int32))] (.int (0 : Int32))) (nec : ca ≠ ba) (hu0 : ¬ (255 : Int32) < u0) :
    MetFree l (⟨"java/lang/StringUTF16", "compress", "([CI[BII)I"⟩ : MethodName) (head1 (Jvm.Cond.code (⟨"java/lang/StringUTF16", "compress", "([CI[BII)I"⟩ : MethodName) jdk_52_method_21_code 7 (some .int) :: ws) own_RCI1) (fun aa__ U => aa__ = #[(.ref ca), (.int (0 : Int32)), (.ref ba), (.int (0 : Int32)), (.int (1 : Int32))] ∧ Z.Warmed39 U.vm ∧ U.heap = h0) (fun _ _ _ _ _ => True) (fun _ U oc_ U' => ∃ rv__ rL__, oc_ = .returned rv__ ∧ own_QCI1 Z ca kc ba kb u0 h0 n0 rv__ U'.heap rL__ ∧ FrameEnd U oc_ U' rL__ own_RCI1.cells own_RCI1.slots) := by
  refine MetFree.of_bodySF (plainFor_of_name own_pn_java_lang_StringUTF16) hisR ?_
  intro p e s m args below meth c s₁ Bd hml0 hP hK
  obtain ⟨rfl, hZ, hh⟩ := hP
  have hx := Bd.exec
  have hby := Bd.bytes
  have hml : c.maxLocals = 7 := hml0
  have hown : s.vm.findClass "java/lang/StringUTF16" = some m.cls := findClass_of_methodNamed Bd.named
  have hnm := (name_of_methodNamed Bd.named Bd.method).1
  have X0 : Stand p l e own_RCI1 s m #[(.ref ca), (.int (0 : Int32)), (.ref ba), (.int (0 : Int32)), (.int (1 : Int32))] below meth c s₁ [] 0 0 := Stand.of_body Bd
  have e0 : s₁.heap = h0 := by rw [← hh, Bd.state]; rfl
  have N0 := Fr.nil n0
  refine own_in (fun _ k => castTop (own_efCI1 m ca ba) k) ?_
  intro RR hRR
  show own_Go p.tables e below RR (s₁.setTop (mkF m 0 #[.val (.ref ca), .val (.int (0 : Int32)), .val (.ref ba), .val (.int (0 : Int32)), .val (.int (1 : Int32)), .unset, .unset] []))
  refine own_st (fun _ k => XS.iconst X0.here hx rfl (hb hby own_djdk_52_method_21_code_0) (XS.istore X0.here hx rfl (hb hby own_djdk_52_method_21_code_1) rfl (l' := #[.val (.ref ca), .val (.int (0 : Int32)), .val (.ref ba), .val (.int (0 : Int32)), .val (.int (1 : Int32)), .val (.int (0 : Int32)), .unset]) rfl (XS.iload X0.here hx rfl (hb hby own_djdk_52_method_21_code_3) rfl (XS.iload X0.here hx rfl (hb hby own_djdk_52_method_21_code_5) rfl k)))) ?_
  show own_Go p.tables e below RR (s₁.setTop (mkF m 7 #[.val (.ref ca), .val (.int (0 : Int32)), .val (.ref ba), .val (.int (0 : Int32)), .val (.int (1 : Int32)), .val (.int (0 : Int32)), .unset] [(.int (1 : Int32)), (.int (0 : Int32))]))
  refine own_st (fun _ k => XS.icmpNo X0.here hx rfl (hb hby own_djdk_52_method_21_code_7) rfl (tlt (by decide)).2.1 (XS.aloadN X0.here hx rfl (hb hby own_djdk_52_method_21_code_10) rfl rfl (XS.iloadN X0.here hx rfl (hb hby own_djdk_52_method_21_code_11) rfl k))) ?_
  show own_Go p.tables e below RR (s₁.setTop (mkF m 12 #[.val (.ref ca), .val (.int (0 : Int32)), .val (.ref ba), .val (.int (0 : Int32)), .val (.int (1 : Int32)), .val (.int (0 : Int32)), .unset] [(.int (0 : Int32)), (.ref ca)]))
  obtain ⟨c1, A1, q1, s1, m1, H1, G1⟩ := id Vc
  have b1 := inb_of (j := (0 : Int32)) s1 ⟨by decide, by decide⟩
  refine own_st (fun _ k => X0.caload hx (j := (0 : Int32)) (v := (.int u0)) (by rw [e0]; exact A1.1) (State.isArrayOf_alike hZ.alike A1.2.1) A1.2.2 b1 (Has.at H1 b1 rfl) (g := (mkF m 12 #[.val (.ref ca), .val (.int (0 : Int32)), .val (.ref ba), .val (.int (0 : Int32)), .val (.int (1 : Int32)), .val (.int (0 : Int32)), .unset] [(.int (0 : Int32)), (.ref ca)])) rfl rfl (hb hby own_djdk_52_method_21_code_12) _ (XS.istore X0.here hx rfl (hb hby own_djdk_52_method_21_code_13) rfl (l' := #[.val (.ref ca), .val (.int (0 : Int32)), .val (.ref ba), .val (.int (0 : Int32)), .val (.int (1 : Int32)), .val (.int (0 : Int32)), .val (.int u0)]) rfl (XS.iload X0.here hx rfl (hb hby own_djdk_52_method_21_code_15) rfl (XS.sipush X0.here hx rfl (hb hby own_djdk_52_method_21_code_17) k)))) ?_
  show own_Go p.tables e below RR (s₁.setTop (mkF m 20 #[.val (.ref ca), .val (.int (0 : Int32)), .val (.ref ba), .val (.int (0 : Int32)), .val (.int (1 : Int32)), .val (.int (0 : Int32)), .val (.int u0)] [(.int (255 : Int32)), (.int u0)]))
  have hc20_2 : ¬ ((255 : Int32) < u0) := hu0
  refine own_st (fun _ k => XS.icmpYes X0.here hx rfl (pc0 := 20) (pc' := 26) rfl (hb hby own_djdk_52_method_21_code_20) rfl (flt hc20_2).2.2.2 (by decide) (by decide) (XS.aloadN X0.here hx rfl (hb hby own_djdk_52_method_21_code_26) rfl rfl (XS.iloadN X0.here hx rfl (hb hby own_djdk_52_method_21_code_27) rfl (XS.iload X0.here hx rfl (hb hby own_djdk_52_method_21_code_28) rfl (XS.i2b X0.here hx rfl (hb hby own_djdk_52_method_21_code_30) rfl k))))) ?_
  show own_Go p.tables e below RR (s₁.setTop (mkF m 31 #[.val (.ref ca), .val (.int (0 : Int32)), .val (.ref ba), .val (.int (0 : Int32)), .val (.int (1 : Int32)), .val (.int (0 : Int32)), .val (.int u0)] [(.int (u0.toInt8.toInt32)), (.int (0 : Int32)), (.ref ba)]))
  obtain ⟨c3, A3, q3, s3, m3, H3, G3⟩ := id Vb
  obtain ⟨T4, h4, X4, e4, W4, st4⟩ := stB X0 hx hZ e0 A3 (j := (0 : Int32)) (inb_of s3 ⟨by decide, by decide⟩) (g := (mkF m 31 #[.val (.ref ca), .val (.int (0 : Int32)), .val (.ref ba), .val (.int (0 : Int32)), .val (.int (1 : Int32)), .val (.int (0 : Int32)), .val (.int u0)] [(.int (u0.toInt8.toInt32)), (.int (0 : Int32)), (.ref ba)])) rfl rfl (hb hby own_djdk_52_method_21_code_31)
  have V4 := Arv.set A3 q3 s3 m3 H3 G3 (fits_nar_byte _) W4 0 rfl (Nat.le_of_ble_eq_true rfl)
  have V4 : Arv Z h4 ba kb .byte (1 : Int32) [(.int (u0.toInt8.toInt32).toInt8.toInt32)] (.int (0 : Int32)) := V4
  have N4 := Fr.snoc X4 N0 g_b
  refine own_st st4 ?_
  have z5 : n0 ≤ h4.size := Nat.le_trans Z0 (Keep.of_wr W4).1
  have kk6 : Keep h0 h4 [ba] := (Keep.refl h0 [ba]).wr W4 (Or.inl (List.mem_of_getElem? (i := 0) rfl))
  show own_Go p.tables e below RR (T4.setTop (mkF m 32 #[.val (.ref ca), .val (.int (0 : Int32)), .val (.ref ba), .val (.int (0 : Int32)), .val (.int (1 : Int32)), .val (.int (0 : Int32)), .val (.int u0)] []))
  refine own_st (fun _ k => XS.iinc X4.here hx rfl (hb hby own_djdk_52_method_21_code_32) rfl (l' := #[.val (.ref ca), .val (.int (1 : Int32)), .val (.ref ba), .val (.int (0 : Int32)), .val (.int (1 : Int32)), .val (.int (0 : Int32)), .val (.int u0)]) rfl (XS.iinc X4.here hx rfl (hb hby own_djdk_52_method_21_code_35) rfl (l' := #[.val (.ref ca), .val (.int (1 : Int32)), .val (.ref ba), .val (.int (1 : Int32)), .val (.int (1 : Int32)), .val (.int (0 : Int32)), .val (.int u0)]) rfl (XS.iinc X4.here hx rfl (hb hby own_djdk_52_method_21_code_38) rfl (l' := #[.val (.ref ca), .val (.int (1 : Int32)), .val (.ref ba), .val (.int (1 : Int32)), .val (.int (1 : Int32)), .val (.int (1 : Int32)), .val (.int u0)]) rfl (XS.goto X4.here hx rfl (pc0 := 41) (pc' := 3) rfl (hb hby own_djdk_52_method_21_code_41) (by decide) (by decide) (XS.iload X4.here hx rfl (hb hby own_djdk_52_method_21_code_3) rfl (XS.iload X4.here hx rfl (hb hby own_djdk_52_method_21_code_5) rfl k)))))) ?_
  show own_Go p.tables e below RR (T4.setTop (mkF m 7 #[.val (.ref ca), .val (.int (1 : Int32)), .val (.ref ba), .val (.int (1 : Int32)), .val (.int (1 : Int32)), .val (.int (1 : Int32)), .val (.int u0)] [(.int (1 : Int32)), (.int (1 : Int32))]))
  refine own_st (fun _ k => XS.icmpYes X4.here hx rfl (pc0 := 7) (pc' := 44) rfl (hb hby own_djdk_52_method_21_code_7) rfl (flt (by decide)).2.1 (by decide) (by decide) (XS.iload X4.here hx rfl (hb hby own_djdk_52_method_21_code_44) rfl k)) ?_
  show own_Go p.tables e below RR (T4.setTop (mkF m 46 #[.val (.ref ca), .val (.int (1 : Int32)), .val (.ref ba), .val (.int (1 : Int32)), .val (.int (1 : Int32)), .val (.int (1 : Int32)), .val (.int u0)] [(.int (1 : Int32))]))
  obtain ⟨fs, hrt_, hrun, hended, hW, hsame⟩ := X4.leave (v := some (.int (1 : Int32))) (fun h => by rw [Bd.returns] at h; cases h)
  refine own_fin (retI X4 hx Bd.returns (hb hby own_djdk_52_method_21_code_46) hrt_) (hRR _ ⟨_, hrun, hended, _, _, rfl, ?_, ⟨_, rfl⟩, hW, hsame.mono (by decide) (by decide)⟩)
  show own_QCI1 Z ca kc ba kb u0 h0 n0 _ T4.heap _
  rw [e4]
  exact ⟨rfl, N4, kk6, V4⟩
theorem own_djdk_52_method_16_code_0 : decode jdk_52_method_16_code 0 = .ok (.iload_n 2, 1) := by decide +kernel
theorem own_djdk_52_method_16_code_1 : decode jdk_52_method_16_code 1 = .ok (.newarray .byte, 2) := by decide +kernel
theorem own_djdk_52_method_16_code_3 : decode jdk_52_method_16_code 3 = .ok (.astore_n 3, 1) := by decide +kernel
theorem own_djdk_52_method_16_code_4 : decode jdk_52_method_16_code 4 = .ok (.aload_n 0, 1) := by decide +kernel
theorem own_djdk_52_method_16_code_5 : decode jdk_52_method_16_code 5 = .ok (.iload_n 1, 1) := by decide +kernel
theorem own_djdk_52_method_16_code_6 : decode jdk_52_method_16_code 6 = .ok (.aload_n 3, 1) := by decide +kernel
theorem own_djdk_52_method_16_code_7 : decode jdk_52_method_16_code 7 = .ok (.iconst 0, 1) := by decide +kernel
theorem own_djdk_52_method_16_code_8 : decode jdk_52_method_16_code 8 = .ok (.iload_n 2, 1) := by decide +kernel
theorem own_pd___CI_BII_I : parseMethodDescriptor "([CI[BII)I" = some ⟨[(.array .char), .int, (.array .byte), .int, .int], some .int⟩ := by decide +kernel
theorem own_djdk_52_method_16_code_9 : decode jdk_52_method_16_code 9 = .ok (.invokestatic 115, 3) := by decide +kernel
theorem own_djdk_52_method_16_code_12 : decode jdk_52_method_16_code 12 = .ok (.istore 4, 2) := by decide +kernel
theorem own_djdk_52_method_16_code_14 : decode jdk_52_method_16_code 14 = .ok (.iload 4, 2) := by decide +kernel
theorem own_djdk_52_method_16_code_16 : decode jdk_52_method_16_code 16 = .ok (.iload_n 2, 1) := by decide +kernel
theorem own_djdk_52_method_16_code_17 : decode jdk_52_method_16_code 17 = .ok (.if_icmp .eq 40, 3) := by decide +kernel
theorem own_djdk_52_method_16_code_57 : decode jdk_52_method_16_code 57 = .ok (.aload_n 3, 1) := by decide +kernel
theorem own_djdk_52_method_16_code_58 : decode jdk_52_method_16_code 58 = .ok (.areturn, 1) := by decide +kernel
theorem own_efCO1 (m : MethodId) (ca : Addr) : entryFrame m #[(.ref ca), (.int (0 : Int32)), (.int (1 : Int32))] 6 = mkF m 0 #[.val (.ref ca), .val (.int (0 : Int32)), .val (.int (1 : Int32)), .unset, .unset, .unset] [] := by first | (simp [entryFrame, mkF, argsToLocals, Value.category]; done) | rfl
def own_QCO1 (Z : State) (ca : Addr) (kc : ClassId) (u0 : Int32) (h0 : Heap) (n0 : Nat) (rv__ : Option Value) (h : Heap) (rL__ : List Loc) : Prop := ∃ r__ : Addr, rv__ = some (.ref r__) ∧ Fr n0 rL__ ∧ Keep h0 h [] ∧ h0.size ≤ r__ ∧ ∃ kb : ClassId, Arv Z h r__ kb .byte (1 : Int32) [(.int (own_b u0))] (.int (0 : Int32))
abbrev own_RCO1 : Room := { frames := 1, cells := 1, slots := 1, locals := 18 }
set_option maxRecDepth 65536 in
set_option maxHeartbeats 40000000 in
theorem own_rmCO1 (l : Launch) (Z : State) (a0 : Array Value) (hw : ∀ d ∈ tables_1, d.before a0 Z = true) (ws : List Jvm.Cond) (ca : Addr) (kc : ClassId) (u0 : Int32) (h0 : Heap) (n0 : Nat) (Z0 : n0 ≤ h0.size) (Vc : Arv Z h0 ca kc .char (1 : Int32) [(.int u0)] (.int (0 : Int32))) (hu0 : ¬ (255 : Int32) < u0) :
    MetFree l (⟨"java/lang/StringUTF16", "compress", "([CII)[B"⟩ : MethodName) (head1 (Jvm.Cond.code (⟨"java/lang/StringUTF16", "compress", "([CII)[B"⟩ : MethodName) jdk_52_method_16_code 6 (some (.array .byte)) :: ws) own_RCO1) (fun aa__ U => aa__ = #[(.ref ca), (.int (0 : Int32)), (.int (1 : Int32))] ∧ Z.Warmed39 U.vm ∧ U.heap = h0) (fun _ _ _ _ _ => True) (fun _ U oc_ U' => ∃ rv__ rL__, oc_ = .returned rv__ ∧ own_QCO1 Z ca kc u0 h0 n0 rv__ U'.heap rL__ ∧ FrameEnd U oc_ U' rL__ own_RCO1.cells own_RCO1.slots) := by
  refine MetFree.of_bodySF (plainFor_of_name own_pn_java_lang_StringUTF16) hisR ?_
  intro p e s m args below meth c s₁ Bd hml0 hP hK
  obtain ⟨rfl, hZ, hh⟩ := hP
  have hx := Bd.exec
  have hby := Bd.bytes
  have hml : c.maxLocals = 6 := hml0
  have hown : s.vm.findClass "java/lang/StringUTF16" = some m.cls := findClass_of_methodNamed Bd.named
  have hnm := (name_of_methodNamed Bd.named Bd.method).1
  have X0 : Stand p l e own_RCO1 s m #[(.ref ca), (.int (0 : Int32)), (.int (1 : Int32))] below meth c s₁ [] 0 0 := Stand.of_body Bd
  have e0 : s₁.heap = h0 := by rw [← hh, Bd.state]; rfl
  have N0 := Fr.nil n0
  refine own_in (fun _ k => castTop (own_efCO1 m ca) k) ?_
  intro RR hRR
  show own_Go p.tables e below RR (s₁.setTop (mkF m 0 #[.val (.ref ca), .val (.int (0 : Int32)), .val (.int (1 : Int32)), .unset, .unset, .unset] []))
  refine own_st (fun _ k => XS.iloadN X0.here hx rfl (hb hby own_djdk_52_method_16_code_0) rfl k) ?_
  show own_Go p.tables e below RR (s₁.setTop (mkF m 1 #[.val (.ref ca), .val (.int (0 : Int32)), .val (.int (1 : Int32)), .unset, .unset, .unset] [(.int (1 : Int32))]))
  obtain ⟨T1, h1, k1, X1, e1, E1, A1, st1⟩ := newP X0 hx hZ (hw _ (List.mem_of_getElem? (i := 22) rfl)) e0 (g := (mkF m 1 #[.val (.ref ca), .val (.int (0 : Int32)), .val (.int (1 : Int32)), .unset, .unset, .unset] [(.int (1 : Int32))])) rfl (hb hby own_djdk_52_method_16_code_1) rfl (by decide) (cap := 1) (by decide) (by decide) (by decide) (by decide)
  obtain ⟨b1, gb1⟩ : ∃ z, z = h0.size := ⟨_, rfl⟩
  rw [← gb1] at A1 st1
  have ge1 : n0 ≤ b1 := Nat.le_trans Z0 (Nat.le_of_eq gb1.symm)
  have sz1 : h0.size ≤ b1 := Nat.le_trans (Keep.refl h0 []).1 (Nat.le_of_eq gb1.symm)
  refine own_st st1 ?_
  have z2 : n0 ≤ h1.size := Nat.le_trans Z0 E1.1
  have kk3 : Keep h0 h1 [] := (Keep.refl h0 []).ext E1
  have V1 : Arv Z h1 b1 k1 .byte (1 : Int32) [(.int (0 : Int32))] (.int (0 : Int32)) := (Arv.new A1 (by decide)).pad (pad_rep [] (.int (0 : Int32)) 1)
  show own_Go p.tables e below RR (T1.setTop (mkF m 3 #[.val (.ref ca), .val (.int (0 : Int32)), .val (.int (1 : Int32)), .unset, .unset, .unset] [(.ref b1)]))
  refine own_st (fun _ k => XS.astoreN X1.here hx rfl (hb hby own_djdk_52_method_16_code_3) rfl rfl (l' := #[.val (.ref ca), .val (.int (0 : Int32)), .val (.int (1 : Int32)), .val (.ref b1), .unset, .unset]) rfl (XS.aloadN X1.here hx rfl (hb hby own_djdk_52_method_16_code_4) rfl rfl (XS.iloadN X1.here hx rfl (hb hby own_djdk_52_method_16_code_5) rfl (XS.aloadN X1.here hx rfl (hb hby own_djdk_52_method_16_code_6) rfl rfl (XS.iconst X1.here hx rfl (hb hby own_djdk_52_method_16_code_7) (XS.iloadN X1.here hx rfl (hb hby own_djdk_52_method_16_code_8) rfl k)))))) ?_
  show own_Go p.tables e below RR (T1.setTop (mkF m 9 #[.val (.ref ca), .val (.int (0 : Int32)), .val (.int (1 : Int32)), .val (.ref b1), .unset, .unset] [(.int (1 : Int32)), (.int (0 : Int32)), (.ref b1), (.int (0 : Int32)), (.ref ca)]))
  have f4 := (Vc.ext E1)
  have ne5 : ca ≠ b1 := (Nat.ne_of_lt (Nat.lt_of_lt_of_le Vc.lt (Nat.le_of_eq gb1.symm)))
  obtain ⟨_, _, ⟨T6, L6, k6, n6⟩, -, X6, ⟨Lc6, hQ6, l6, y6, z6⟩, st6⟩ := Jvm.LawKit.callS X1 hx (y := (⟨"java/lang/StringUTF16", "compress", "([CI[BII)I"⟩ : MethodName)) hown (mvT hZ (hw _ (List.mem_of_getElem? (i := 37) rfl))) (mvT hZ (hw _ (List.mem_of_getElem? (i := 38) rfl))) (mvT hZ (hw _ (List.mem_of_getElem? (i := 35) rfl))) (mvT hZ (hw _ (List.mem_of_getElem? (i := 39) rfl))) (by decide) (backOf (W := 0) (own_rmCI1 l Z a0 hw [] ca kc b1 k1 u0 h1 n0 z2 ge1 f4 V1 ne5 hu0) hZ (hw _ (List.mem_of_getElem? (i := 39) rfl)) (hw _ (List.mem_of_getElem? (i := 35) rfl)) (by decide) (by decide)) (g := (mkF m 9 #[.val (.ref ca), .val (.int (0 : Int32)), .val (.int (1 : Int32)), .val (.ref b1), .unset, .unset] [(.int (1 : Int32)), (.int (0 : Int32)), (.ref b1), (.int (0 : Int32)), (.ref ca)])) rfl (by rw [hml]; rfl) (argsL := [(.ref ca), (.int (0 : Int32)), (.ref b1), (.int (0 : Int32)), (.int (1 : Int32))]) (rest := []) (lenOf own_pd___CI_BII_I rfl) rfl (by show 2 * 0 + _ ≤ _; exact Nat.le_of_eq rfl) (hb hby own_djdk_52_method_16_code_9) (fun _ _ => ⟨rfl, e1, (by decide : 1 + 0 ≤ _), (by decide : 1 + 0 ≤ _)⟩)
  dsimp only [Pt.U, Pt.locs, Pt.cells, Pt.slots] at X6 l6 y6 z6 st6 hQ6
  subst l6 y6 z6
  obtain ⟨rfl, Nq6, Kq6, Vq6⟩ := hQ6
  have N6 := Fr.app N0 Nq6
  refine own_st st6 ?_
  have z7 : n0 ≤ T6.heap.size := Nat.le_trans z2 Kq6.1
  have kk8 : Keep h0 T6.heap [] := kk3.trans Kq6 (allS (Or.inr sz1) all0)
  show own_Go p.tables e below RR (T6.setTop (mkF m 12 #[.val (.ref ca), .val (.int (0 : Int32)), .val (.int (1 : Int32)), .val (.ref b1), .unset, .unset] [(.int (1 : Int32))]))
  refine own_st (fun _ k => XS.istore X6.here hx rfl (hb hby own_djdk_52_method_16_code_12) rfl (l' := #[.val (.ref ca), .val (.int (0 : Int32)), .val (.int (1 : Int32)), .val (.ref b1), .val (.int (1 : Int32)), .unset]) rfl (XS.iload X6.here hx rfl (hb hby own_djdk_52_method_16_code_14) rfl (XS.iloadN X6.here hx rfl (hb hby own_djdk_52_method_16_code_16) rfl k))) ?_
  show own_Go p.tables e below RR (T6.setTop (mkF m 17 #[.val (.ref ca), .val (.int (0 : Int32)), .val (.int (1 : Int32)), .val (.ref b1), .val (.int (1 : Int32)), .unset] [(.int (1 : Int32)), (.int (1 : Int32))]))
  refine own_st (fun _ k => XS.icmpYes X6.here hx rfl (pc0 := 17) (pc' := 57) rfl (hb hby own_djdk_52_method_16_code_17) rfl (teq (by decide)).1 (by decide) (by decide) (XS.aloadN X6.here hx rfl (hb hby own_djdk_52_method_16_code_57) rfl rfl k)) ?_
  show own_Go p.tables e below RR (T6.setTop (mkF m 58 #[.val (.ref ca), .val (.int (0 : Int32)), .val (.int (1 : Int32)), .val (.ref b1), .val (.int (1 : Int32)), .unset] [(.ref b1)]))
  obtain ⟨fs, hrt_, hrun, hended, hW, hsame⟩ := X6.leave (v := some (.ref b1)) (fun h => by rw [Bd.returns] at h; cases h)
  refine own_fin (retOut X6 hx Bd.returns rfl (Or.inr (Or.inr (Or.inr (Or.inr ⟨rfl, rfl, rfl⟩)))) (hb hby own_djdk_52_method_16_code_58) hrt_) (hRR _ ⟨_, hrun, hended, _, _, rfl, ?_, ⟨_, rfl⟩, hW, hsame.mono (by decide) (by decide)⟩)
  show own_QCO1 Z ca kc u0 h0 n0 _ T6.heap _
  exact ⟨_, rfl, N6, kk8, sz1, _, Vq6⟩
theorem own_djdk_52_method_15_code_0 : decode jdk_52_method_15_code 0 = .ok (.iload_n 1, 1) := by decide +kernel
theorem own_djdk_52_method_15_code_1 : decode jdk_52_method_15_code 1 = .ok (.aload_n 0, 1) := by decide +kernel
theorem own_djdk_52_method_15_code_2 : decode jdk_52_method_15_code 2 = .ok (.arraylength, 1) := by decide +kernel
theorem own_djdk_52_method_15_code_3 : decode jdk_52_method_15_code 3 = .ok (.isub, 1) := by decide +kernel
theorem own_djdk_52_method_15_code_4 : decode jdk_52_method_15_code 4 = .ok (.bipush 31, 2) := by decide +kernel
theorem own_djdk_52_method_15_code_6 : decode jdk_52_method_15_code 6 = .ok (.iushr, 1) := by decide +kernel
theorem own_djdk_52_method_15_code_7 : decode jdk_52_method_15_code 7 = .ok (.i2b, 1) := by decide +kernel
theorem own_djdk_52_method_15_code_8 : decode jdk_52_method_15_code 8 = .ok (.ireturn, 1) := by decide +kernel
theorem own_efCF1 (m : MethodId) (ba : Addr) : entryFrame m #[(.ref ba), (.int (1 : Int32))] 2 = mkF m 0 #[.val (.ref ba), .val (.int (1 : Int32))] [] := by first | (simp [entryFrame, mkF, argsToLocals, Value.category]; done) | rfl
def own_QCF1 (Z : State) (ba : Addr) (kb : ClassId) (bl : List Value) (h0 : Heap) (n0 : Nat) (rv__ : Option Value) (h : Heap) (rL__ : List Loc) : Prop := rv__ = some (.int (0 : Int32)) ∧ Fr n0 rL__ ∧ h = h0
abbrev own_RCF1 : Room := { frames := 0, cells := 0, slots := 0, locals := 0 }
set_option maxRecDepth 65536 in
set_option maxHeartbeats 40000000 in
theorem own_rmCF1 (l : Launch) (Z : State) (a0 : Array Value) (hw : ∀ d ∈ tables_1, d.before a0 Z = true) (ws : List Jvm.Cond) (ba : Addr) (kb : ClassId) (bl : List Value) (h0 : Heap) (n0 : Nat) (Z0 : n0 ≤ h0.size) (Vb : Arv Z h0 ba kb .byte (1 : Int32) bl (.int (0 : Int32))) :
    MetFree l (⟨"java/lang/StringUTF16", "coderFromArrayLen", "([BI)B"⟩ : MethodName) (head1 (Jvm.Cond.code (⟨"java/lang/StringUTF16", "coderFromArrayLen", "([BI)B"⟩ : MethodName) jdk_52_method_15_code 2 (some .byte) :: ws) own_RCF1) (fun aa__ U => aa__ = #[(.ref ba), (.int (1 : Int32))] ∧ Z.Warmed39 U.vm ∧ U.heap = h0) (fun _ _ _ _ _ => True) (fun _ U oc_ U' => ∃ rv__ rL__, oc_ = .returned rv__ ∧ own_QCF1 Z ba kb bl h0 n0 rv__ U'.heap rL__ ∧ FrameEnd U oc_ U' rL__ own_RCF1.cells own_RCF1.slots) := by
  refine MetFree.of_bodySF (plainFor_of_name own_pn_java_lang_StringUTF16) hisR ?_
  intro p e s m args below meth c s₁ Bd hml0 hP hK
  obtain ⟨rfl, hZ, hh⟩ := hP
  have hx := Bd.exec
  have hby := Bd.bytes
  have hml : c.maxLocals = 2 := hml0
  have hown : s.vm.findClass "java/lang/StringUTF16" = some m.cls := findClass_of_methodNamed Bd.named
  have hnm := (name_of_methodNamed Bd.named Bd.method).1
  have X0 : Stand p l e own_RCF1 s m #[(.ref ba), (.int (1 : Int32))] below meth c s₁ [] 0 0 := Stand.of_body Bd
  have e0 : s₁.heap = h0 := by rw [← hh, Bd.state]; rfl
  have N0 := Fr.nil n0
  refine own_in (fun _ k => castTop (own_efCF1 m ba) k) ?_
  intro RR hRR
  show own_Go p.tables e below RR (s₁.setTop (mkF m 0 #[.val (.ref ba), .val (.int (1 : Int32))] []))
  refine own_st (fun _ k => XS.iloadN X0.here hx rfl (hb hby own_djdk_52_method_15_code_0) rfl (XS.aloadN X0.here hx rfl (hb hby own_djdk_52_method_15_code_1) rfl rfl k)) ?_
  show own_Go p.tables e below RR (s₁.setTop (mkF m 2 #[.val (.ref ba), .val (.int (1 : Int32))] [(.ref ba), (.int (1 : Int32))]))
  obtain ⟨c1, A1, -, s1, m1, -, -⟩ := id Vb
  refine own_st (fun _ k => own_len X0 hx hZ e0 A1 s1 m1 (g := (mkF m 2 #[.val (.ref ba), .val (.int (1 : Int32))] [(.ref ba), (.int (1 : Int32))])) rfl rfl (hb hby own_djdk_52_method_15_code_2) (XS.isub X0.here hx rfl (hb hby own_djdk_52_method_15_code_3) rfl (XS.bipush X0.here hx rfl (hb hby own_djdk_52_method_15_code_4) (XS.iushr X0.here hx rfl (hb hby own_djdk_52_method_15_code_6) rfl k)))) ?_
  show own_Go p.tables e below RR (s₁.setTop (mkF m 7 #[.val (.ref ba), .val (.int (1 : Int32))] [(.int (((0 : Int32).toUInt32 >>> ((31 : Int32) &&& 31).toUInt32).toInt32))]))
  rw [show (((0 : Int32).toUInt32 >>> ((31 : Int32) &&& 31).toUInt32).toInt32) = (0 : Int32) from by decide]
  show own_Go p.tables e below RR (s₁.setTop (mkF m 7 #[.val (.ref ba), .val (.int (1 : Int32))] [(.int (0 : Int32))]))
  refine own_st (fun _ k => XS.i2b X0.here hx rfl (hb hby own_djdk_52_method_15_code_7) rfl k) ?_
  show own_Go p.tables e below RR (s₁.setTop (mkF m 8 #[.val (.ref ba), .val (.int (1 : Int32))] [(.int ((0 : Int32).toInt8.toInt32))]))
  obtain ⟨fs, hrt_, hrun, hended, hW, hsame⟩ := X0.leave (v := some (.int (nar .byte ((0 : Int32).toInt8.toInt32)))) (fun h => by rw [Bd.returns] at h; cases h)
  refine own_fin (retN X0 hx (t := .byte) Bd.returns (by simp) (hb hby own_djdk_52_method_15_code_8) hrt_) (hRR _ ⟨_, hrun, hended, _, _, rfl, ?_, ⟨_, rfl⟩, hW, hsame.mono (by decide) (by decide)⟩)
  show own_QCF1 Z ba kb bl h0 n0 _ s₁.heap _
  rw [e0]
  exact ⟨rfl, N0, rfl⟩
theorem own_pn_java_lang_String : plainName "java/lang/String" = true := by first | (simp [plainName, overriddenIn]; done) | decide +kernel
theorem own_djdk_42_method_149_code_0 : decode jdk_42_method_149_code 0 = .ok (.aload_n 0, 1) := by decide +kernel
theorem own_djdk_42_method_149_code_1 : decode jdk_42_method_149_code 1 = .ok (.invokespecial 1, 3) := by decide +kernel
theorem own_djdk_42_method_149_code_4 : decode jdk_42_method_149_code 4 = .ok (.iload_n 3, 1) := by decide +kernel
theorem own_djdk_42_method_149_code_5 : decode jdk_42_method_149_code 5 = .ok (.ifCond .ne 22, 3) := by decide +kernel
theorem own_djdk_42_method_149_code_27 : decode jdk_42_method_149_code 27 = .ok (.getstatic 38, 3) := by decide +kernel
theorem own_djdk_42_method_149_code_30 : decode jdk_42_method_149_code 30 = .ok (.ifCond .eq 28, 3) := by decide +kernel
theorem own_djdk_42_method_149_code_33 : decode jdk_42_method_149_code 33 = .ok (.aload_n 1, 1) := by decide +kernel
theorem own_djdk_42_method_149_code_34 : decode jdk_42_method_149_code 34 = .ok (.iload_n 2, 1) := by decide +kernel
theorem own_djdk_42_method_149_code_35 : decode jdk_42_method_149_code 35 = .ok (.iload_n 3, 1) := by decide +kernel
theorem own_pd___CII__B : parseMethodDescriptor "([CII)[B" = some ⟨[(.array .char), .int, .int], some (.array .byte)⟩ := by decide +kernel
theorem own_djdk_42_method_149_code_36 : decode jdk_42_method_149_code 36 = .ok (.invokestatic 177, 3) := by decide +kernel
theorem own_djdk_42_method_149_code_39 : decode jdk_42_method_149_code 39 = .ok (.astore 5, 2) := by decide +kernel
theorem own_djdk_42_method_149_code_41 : decode jdk_42_method_149_code 41 = .ok (.aload_n 0, 1) := by decide +kernel
theorem own_djdk_42_method_149_code_42 : decode jdk_42_method_149_code 42 = .ok (.aload 5, 2) := by decide +kernel
theorem own_djdk_42_method_149_code_44 : decode jdk_42_method_149_code 44 = .ok (.iload_n 3, 1) := by decide +kernel
theorem own_pd___BI_B : parseMethodDescriptor "([BI)B" = some ⟨[(.array .byte), .int], some .byte⟩ := by decide +kernel
theorem own_djdk_42_method_149_code_45 : decode jdk_42_method_149_code 45 = .ok (.invokestatic 47, 3) := by decide +kernel
theorem own_djdk_42_method_149_code_48 : decode jdk_42_method_149_code 48 = .ok (.putfield 15, 3) := by decide +kernel
theorem own_djdk_42_method_149_code_51 : decode jdk_42_method_149_code 51 = .ok (.aload_n 0, 1) := by decide +kernel
theorem own_djdk_42_method_149_code_52 : decode jdk_42_method_149_code 52 = .ok (.aload 5, 2) := by decide +kernel
theorem own_djdk_42_method_149_code_54 : decode jdk_42_method_149_code 54 = .ok (.putfield 9, 3) := by decide +kernel
theorem own_djdk_42_method_149_code_57 : decode jdk_42_method_149_code 57 = .ok (.return_, 1) := by decide +kernel
theorem own_efSI1 (m : MethodId) (o : Addr) (ca : Addr) : entryFrame m #[(.ref o), (.ref ca), (.int (0 : Int32)), (.int (1 : Int32)), .null] 6 = mkF m 0 #[.val (.ref o), .val (.ref ca), .val (.int (0 : Int32)), .val (.int (1 : Int32)), .val .null, .unset] [] := by first | (simp [entryFrame, mkF, argsToLocals, Value.category]; done) | rfl
def own_QSI1 (Z : State) (o : Addr) (ca : Addr) (kc : ClassId) (u0 : Int32) (cs : Int32) (h0 : Heap) (n0 : Nat) (rv__ : Option Value) (h : Heap) (rL__ : List Loc) : Prop := rv__ = none ∧ Fr n0 rL__ ∧ Keep h0 h [o] ∧ Exa Z h o "java/lang/String" ∧ Fld Z h o "java/lang/String" "coder" "B" (.int (0 : Int32)) ∧ ∃ (b : Addr) (kb : ClassId), Fld Z h o "java/lang/String" "value" "[B" (.ref b) ∧ Arv Z h b kb .byte (1 : Int32) [(.int (own_b u0))] (.int (0 : Int32))
abbrev own_RSI1 : Room := { frames := 2, cells := 1, slots := 1, locals := 35 }
set_option maxRecDepth 65536 in
set_option maxHeartbeats 40000000 in
theorem own_rmSI1 (l : Launch) (Z : State) (a0 : Array Value) (hw : ∀ d ∈ tables_1, d.before a0 Z = true) (ws : List Jvm.Cond) (o : Addr) (ca : Addr) (kc : ClassId) (u0 : Int32) (cs : Int32) (h0 : Heap) (n0 : Nat) (Z0 : n0 ≤ h0.size) (g_o : n0 ≤ o) (E : Exa Z h0 o "java/lang/String") (Fv : Fld Z h0 o "java/lang/String" "value" "[B" .null) (Fc : Fld Z h0 o "java/lang/String" "coder" "B" (.int (0 : Int32))) (Vc : Arv Z h0 ca kc .char (1 : Int32) [(.int u0)] (.int (0 : Int32))) (hu0 : ¬ (255 : Int32) < u0) (S0 : Sta Z h0 "java/lang/String" "COMPACT_STRINGS" "Z" (.int cs)) (hcs : ¬ cs = (0 : Int32)) :
    MetFree l (⟨"java/lang/String", "<init>", "([CIILjava/lang/Void;)V"⟩ : MethodName) (head1 (Jvm.Cond.code (⟨"java/lang/String", "<init>", "([CIILjava/lang/Void;)V"⟩ : MethodName) jdk_42_method_149_code 6 none :: ws) own_RSI1) (fun aa__ U => aa__ = #[(.ref o), (.ref ca), (.int (0 : Int32)), (.int (1 : Int32)), .null] ∧ Z.Warmed39 U.vm ∧ U.heap = h0) (fun _ _ _ _ _ => True) (fun _ U oc_ U' => ∃ rv__ rL__, oc_ = .returned rv__ ∧ own_QSI1 Z o ca kc u0 cs h0 n0 rv__ U'.heap rL__ ∧ FrameEnd U oc_ U' rL__ own_RSI1.cells own_RSI1.slots) := by
  refine MetFree.of_bodySF (plainFor_of_name own_pn_java_lang_String) hisR ?_
  intro p e s m args below meth c s₁ Bd hml0 hP hK
  obtain ⟨rfl, hZ, hh⟩ := hP
  have hx := Bd.exec
  have hby := Bd.bytes
  have hml : c.maxLocals = 6 := hml0
  have hown : s.vm.findClass "java/lang/String" = some m.cls := findClass_of_methodNamed Bd.named
  have hnm := (name_of_methodNamed Bd.named Bd.method).1
  have X0 : Stand p l e own_RSI1 s m #[(.ref o), (.ref ca), (.int (0 : Int32)), (.int (1 : Int32)), .null] below meth c s₁ [] 0 0 := Stand.of_body Bd
  have e0 : s₁.heap = h0 := by rw [← hh, Bd.state]; rfl
  have N0 := Fr.nil n0
  refine own_in (fun _ k => castTop (own_efSI1 m o ca) k) ?_
  intro RR hRR
  show own_Go p.tables e below RR (s₁.setTop (mkF m 0 #[.val (.ref o), .val (.ref ca), .val (.int (0 : Int32)), .val (.int (1 : Int32)), .val .null, .unset] []))
  refine own_st (fun _ k => XS.aloadN X0.here hx rfl (hb hby own_djdk_42_method_149_code_0) rfl rfl k) ?_
  show own_Go p.tables e below RR (s₁.setTop (mkF m 1 #[.val (.ref o), .val (.ref ca), .val (.int (0 : Int32)), .val (.int (1 : Int32)), .val .null, .unset] [(.ref o)]))
  obtain ⟨T1, X1, e1, st1⟩ := initO X0 hx hZ hown (hw _ (List.mem_of_getElem? (i := 18) rfl)) (hw _ (List.mem_of_getElem? (i := 19) rfl)) (hw _ (List.mem_of_getElem? (i := 20) rfl)) e0 (g := (mkF m 1 #[.val (.ref o), .val (.ref ca), .val (.int (0 : Int32)), .val (.int (1 : Int32)), .val .null, .unset] [(.ref o)])) rfl (by rw [hml]; rfl) rfl (hb hby own_djdk_42_method_149_code_1) (by decide) (W := 0) (by show 2 * 0 + _ ≤ _; exact Nat.le_of_eq rfl) (by decide)
  refine own_st st1 ?_
  show own_Go p.tables e below RR (T1.setTop (mkF m 4 #[.val (.ref o), .val (.ref ca), .val (.int (0 : Int32)), .val (.int (1 : Int32)), .val .null, .unset] []))
  refine own_st (fun _ k => XS.iloadN X1.here hx rfl (hb hby own_djdk_42_method_149_code_4) rfl k) ?_
  show own_Go p.tables e below RR (T1.setTop (mkF m 5 #[.val (.ref o), .val (.ref ca), .val (.int (0 : Int32)), .val (.int (1 : Int32)), .val .null, .unset] [(.int (1 : Int32))]))
  refine own_st (fun _ k => XS.ifYes X1.here hx rfl (pc0 := 5) (pc' := 27) rfl (hb hby own_djdk_42_method_149_code_5) rfl ((if0 _ _).trans (feq (by decide)).2) (by decide) (by decide) k) ?_
  show own_Go p.tables e below RR (T1.setTop (mkF m 27 #[.val (.ref o), .val (.ref ca), .val (.int (0 : Int32)), .val (.int (1 : Int32)), .val .null, .unset] []))
  obtain ⟨T2, X2, e2, st2⟩ := getS2 X1 hx hZ hown (host := "") (Or.inl (hw _ (List.mem_of_getElem? (i := 32) rfl))) Via.refl e1 S0 (g := (mkF m 27 #[.val (.ref o), .val (.ref ca), .val (.int (0 : Int32)), .val (.int (1 : Int32)), .val .null, .unset] [])) rfl (hb hby own_djdk_42_method_149_code_27)
  refine own_st st2 ?_
  show own_Go p.tables e below RR (T2.setTop (mkF m 30 #[.val (.ref o), .val (.ref ca), .val (.int (0 : Int32)), .val (.int (1 : Int32)), .val .null, .unset] [(.int cs)]))
  have hc30_3 : ¬ (cs = (0 : Int32)) := hcs
  refine own_st (fun _ k => XS.ifNo X2.here hx rfl (hb hby own_djdk_42_method_149_code_30) rfl ((if0 _ _).trans (feq hc30_3).1) (XS.aloadN X2.here hx rfl (hb hby own_djdk_42_method_149_code_33) rfl rfl (XS.iloadN X2.here hx rfl (hb hby own_djdk_42_method_149_code_34) rfl (XS.iloadN X2.here hx rfl (hb hby own_djdk_42_method_149_code_35) rfl k)))) ?_
  show own_Go p.tables e below RR (T2.setTop (mkF m 36 #[.val (.ref o), .val (.ref ca), .val (.int (0 : Int32)), .val (.int (1 : Int32)), .val .null, .unset] [(.int (1 : Int32)), (.int (0 : Int32)), (.ref ca)]))
  obtain ⟨_, _, ⟨T4, L4, k4, n4⟩, -, X4, ⟨Lc4, hQ4, l4, y4, z4⟩, st4⟩ := Jvm.LawKit.callS X2 hx (y := (⟨"java/lang/StringUTF16", "compress", "([CII)[B"⟩ : MethodName)) hown (mvT hZ (hw _ (List.mem_of_getElem? (i := 33) rfl))) (mvT hZ (hw _ (List.mem_of_getElem? (i := 34) rfl))) (mvT hZ (hw _ (List.mem_of_getElem? (i := 35) rfl))) (mvT hZ (hw _ (List.mem_of_getElem? (i := 36) rfl))) (by decide) (backOf (W := 0) (own_rmCO1 l Z a0 hw [] ca kc u0 h0 n0 Z0 Vc hu0) hZ (hw _ (List.mem_of_getElem? (i := 36) rfl)) (hw _ (List.mem_of_getElem? (i := 35) rfl)) (by decide) (by decide)) (g := (mkF m 36 #[.val (.ref o), .val (.ref ca), .val (.int (0 : Int32)), .val (.int (1 : Int32)), .val .null, .unset] [(.int (1 : Int32)), (.int (0 : Int32)), (.ref ca)])) rfl (by rw [hml]; rfl) (argsL := [(.ref ca), (.int (0 : Int32)), (.int (1 : Int32))]) (rest := []) (lenOf own_pd___CII__B rfl) rfl (by show 2 * 0 + _ ≤ _; exact Nat.le_of_eq rfl) (hb hby own_djdk_42_method_149_code_36) (fun _ _ => ⟨rfl, e2, (by decide : 0 + 1 ≤ _), (by decide : 0 + 1 ≤ _)⟩)
  dsimp only [Pt.U, Pt.locs, Pt.cells, Pt.slots] at X4 l4 y4 z4 st4 hQ4
  subst l4 y4 z4
  obtain ⟨rx4, rfl, Nq4, Kq4, hz4, kb4, Vq4⟩ := hQ4
  have N4 := Fr.app N0 Nq4
  refine own_st st4 ?_
  have neob4 : o ≠ rx4 := Nat.ne_of_lt (Nat.lt_of_lt_of_le E.lt hz4)
  have z5 : n0 ≤ T4.heap.size := Nat.le_trans Z0 Kq4.1
  have kk6 : Keep h0 T4.heap [o] := (Keep.refl h0 [o]).trans Kq4 all0
  show own_Go p.tables e below RR (T4.setTop (mkF m 39 #[.val (.ref o), .val (.ref ca), .val (.int (0 : Int32)), .val (.int (1 : Int32)), .val .null, .unset] [(.ref rx4)]))
  refine own_st (fun _ k => XS.astore X4.here hx rfl (hb hby own_djdk_42_method_149_code_39) rfl rfl (l' := #[.val (.ref o), .val (.ref ca), .val (.int (0 : Int32)), .val (.int (1 : Int32)), .val .null, .val (.ref rx4)]) rfl (XS.aloadN X4.here hx rfl (hb hby own_djdk_42_method_149_code_41) rfl rfl (XS.aload X4.here hx rfl (hb hby own_djdk_42_method_149_code_42) rfl rfl (XS.iloadN X4.here hx rfl (hb hby own_djdk_42_method_149_code_44) rfl k)))) ?_
  show own_Go p.tables e below RR (T4.setTop (mkF m 45 #[.val (.ref o), .val (.ref ca), .val (.int (0 : Int32)), .val (.int (1 : Int32)), .val .null, .val (.ref rx4)] [(.int (1 : Int32)), (.ref rx4), (.ref o)]))
  obtain ⟨_, _, ⟨T7, L7, k7, n7⟩, -, X7, ⟨Lc7, hQ7, l7, y7, z7⟩, st7⟩ := Jvm.LawKit.callS X4 hx (y := (⟨"java/lang/StringUTF16", "coderFromArrayLen", "([BI)B"⟩ : MethodName)) hown (mvT hZ (hw _ (List.mem_of_getElem? (i := 40) rfl))) (mvT hZ (hw _ (List.mem_of_getElem? (i := 41) rfl))) (mvT hZ (hw _ (List.mem_of_getElem? (i := 35) rfl))) (mvT hZ (hw _ (List.mem_of_getElem? (i := 42) rfl))) (by decide) (backOf (W := 1) (own_rmCF1 l Z a0 hw [] rx4 kb4 [(.int (own_b u0))] T4.heap n0 z5 Vq4) hZ (hw _ (List.mem_of_getElem? (i := 42) rfl)) (hw _ (List.mem_of_getElem? (i := 35) rfl)) (by decide) (by decide)) (g := (mkF m 45 #[.val (.ref o), .val (.ref ca), .val (.int (0 : Int32)), .val (.int (1 : Int32)), .val .null, .val (.ref rx4)] [(.int (1 : Int32)), (.ref rx4), (.ref o)])) rfl (by rw [hml]; rfl) (argsL := [(.ref rx4), (.int (1 : Int32))]) (rest := [(.ref o)]) (lenOf own_pd___BI_B rfl) rfl (by show 2 * 0 + _ ≤ _; exact Nat.le_of_eq rfl) (hb hby own_djdk_42_method_149_code_45) (fun _ _ => ⟨rfl, rfl, (by decide : 1 + 0 ≤ _), (by decide : 1 + 0 ≤ _)⟩)
  dsimp only [Pt.U, Pt.locs, Pt.cells, Pt.slots] at X7 l7 y7 z7 st7 hQ7
  subst l7 y7 z7
  obtain ⟨rfl, Nq7, eq7⟩ := hQ7
  have N7 := Fr.app N4 Nq7
  refine own_st st7 ?_
  show own_Go p.tables e below RR (T7.setTop (mkF m 48 #[.val (.ref o), .val (.ref ca), .val (.int (0 : Int32)), .val (.int (1 : Int32)), .val .null, .val (.ref rx4)] [(.int (0 : Int32)), (.ref o)]))
  have f8 := (Fc.keep Kq4 nin0)
  have f9 := (E.keep Kq4)
  obtain ⟨T10, h10, X10, e10, W10, st10⟩ := putFN X7 hx hZ hown (hw _ (List.mem_of_getElem? (i := 28) rfl)) Via.refl eq7 f8 f9 (Or.inr ⟨(hw _ (List.mem_of_getElem? (i := 24) rfl)), rfl, hnm⟩) (hw _ (List.mem_of_getElem? (i := 8) rfl)) (ty := .byte) (v' := (.int (0 : Int32))) (by decide) rfl rfl (g := (mkF m 48 #[.val (.ref o), .val (.ref ca), .val (.int (0 : Int32)), .val (.int (1 : Int32)), .val .null, .val (.ref rx4)] [(.int (0 : Int32)), (.ref o)])) rfl rfl (hb hby own_djdk_42_method_149_code_48)
  have Fw10 := f8.same W10
  have N10 := Fr.snoc X10 N7 g_o
  refine own_st st10 ?_
  have z11 : n0 ≤ h10.size := Nat.le_trans z5 (Keep.of_wr W10).1
  have kk12 : Keep h0 h10 [o] := kk6.wr W10 (Or.inl (List.mem_of_getElem? (i := 0) rfl))
  show own_Go p.tables e below RR (T10.setTop (mkF m 51 #[.val (.ref o), .val (.ref ca), .val (.int (0 : Int32)), .val (.int (1 : Int32)), .val .null, .val (.ref rx4)] []))
  refine own_st (fun _ k => XS.aloadN X10.here hx rfl (hb hby own_djdk_42_method_149_code_51) rfl rfl (XS.aload X10.here hx rfl (hb hby own_djdk_42_method_149_code_52) rfl rfl k)) ?_
  show own_Go p.tables e below RR (T10.setTop (mkF m 54 #[.val (.ref o), .val (.ref ca), .val (.int (0 : Int32)), .val (.int (1 : Int32)), .val .null, .val (.ref rx4)] [(.ref rx4), (.ref o)]))
  have f13 := ((Fv.keep Kq4 nin0).other W10 (Or.inr (slot_ne (Or.inr (hw _ (List.mem_of_getElem? (i := 23) rfl))) (Or.inr (hw _ (List.mem_of_getElem? (i := 24) rfl))) (by decide) (t := (.array .byte)) (t' := .byte) (by decide) (by decide))))
  have f14 := (f9.wr W10)
  obtain ⟨T15, h15, X15, e15, W15, st15⟩ := putF X10 hx hZ hown (host := "") (Or.inl (hw _ (List.mem_of_getElem? (i := 27) rfl))) Via.refl e10 f13 f14 (Or.inr ⟨(hw _ (List.mem_of_getElem? (i := 23) rfl)), rfl, hnm⟩) (hw _ (List.mem_of_getElem? (i := 8) rfl)) (ty := (.array .byte)) (by decide) rfl rfl (g := (mkF m 54 #[.val (.ref o), .val (.ref ca), .val (.int (0 : Int32)), .val (.int (1 : Int32)), .val .null, .val (.ref rx4)] [(.ref rx4), (.ref o)])) rfl rfl (hb hby own_djdk_42_method_149_code_54)
  have Fw15 := f13.same W15
  have N15 := Fr.snoc X15 N10 g_o
  refine own_st st15 ?_
  have z16 : n0 ≤ h15.size := Nat.le_trans z11 (Keep.of_wr W15).1
  have kk17 : Keep h0 h15 [o] := kk12.wr W15 (Or.inl (List.mem_of_getElem? (i := 0) rfl))
  show own_Go p.tables e below RR (T15.setTop (mkF m 57 #[.val (.ref o), .val (.ref ca), .val (.int (0 : Int32)), .val (.int (1 : Int32)), .val .null, .val (.ref rx4)] []))
  obtain ⟨fs, hrt_, hrun, hended, hW, hsame⟩ := X15.leave (v := none) (fun _ => rfl)
  refine own_fin (X15.returnOut hx Bd.returns (hb hby own_djdk_42_method_149_code_57) hrt_) (hRR _ ⟨_, hrun, hended, _, _, rfl, ?_, ⟨_, rfl⟩, hW, hsame.mono (by decide) (by decide)⟩)
  show own_QSI1 Z o ca kc u0 cs h0 n0 _ T15.heap _
  rw [e15]
  have f18 := (f14.wr W15)
  have f19 := (Fw10.other W15 (Or.inr (slot_ne (Or.inr (hw _ (List.mem_of_getElem? (i := 24) rfl))) (Or.inr (hw _ (List.mem_of_getElem? (i := 23) rfl))) (by decide) (t := .byte) (t' := (.array .byte)) (by decide) (by decide))))
  have f20 := ((Vq4.other W10 (Ne.symm neob4)).other W15 (Ne.symm neob4))
  exact ⟨rfl, N15, kk17, f18, f19, _, _, Fw15, f20⟩
theorem own_djdk_42_method_3_code_0 : decode jdk_42_method_3_code 0 = .ok (.aload_n 0, 1) := by decide +kernel
theorem own_djdk_42_method_3_code_1 : decode jdk_42_method_3_code 1 = .ok (.aload_n 1, 1) := by decide +kernel
theorem own_djdk_42_method_3_code_2 : decode jdk_42_method_3_code 2 = .ok (.iconst 0, 1) := by decide +kernel
theorem own_djdk_42_method_3_code_3 : decode jdk_42_method_3_code 3 = .ok (.aload_n 1, 1) := by decide +kernel
theorem own_djdk_42_method_3_code_4 : decode jdk_42_method_3_code 4 = .ok (.arraylength, 1) := by decide +kernel
theorem own_djdk_42_method_3_code_5 : decode jdk_42_method_3_code 5 = .ok (.aconst_null, 1) := by decide +kernel
theorem own_pd___CIILjava_lang_Void__V : parseMethodDescriptor "([CIILjava/lang/Void;)V" = some ⟨[(.array .char), .int, .int, (.object "java/lang/Void")], none⟩ := by decide +kernel
theorem own_djdk_42_method_3_code_6 : decode jdk_42_method_3_code 6 = .ok (.invokespecial 27, 3) := by decide +kernel
theorem own_djdk_42_method_3_code_9 : decode jdk_42_method_3_code 9 = .ok (.return_, 1) := by decide +kernel
theorem own_efST1 (m : MethodId) (o : Addr) (ca : Addr) : entryFrame m #[(.ref o), (.ref ca)] 2 = mkF m 0 #[.val (.ref o), .val (.ref ca)] [] := by first | (simp [entryFrame, mkF, argsToLocals, Value.category]; done) | rfl
def own_QST1 (Z : State) (o : Addr) (ca : Addr) (kc : ClassId) (u0 : Int32) (cs : Int32) (h0 : Heap) (n0 : Nat) (rv__ : Option Value) (h : Heap) (rL__ : List Loc) : Prop := rv__ = none ∧ Fr n0 rL__ ∧ Keep h0 h [o] ∧ Exa Z h o "java/lang/String" ∧ Fld Z h o "java/lang/String" "coder" "B" (.int (0 : Int32)) ∧ ∃ (b : Addr) (kb : ClassId), Fld Z h o "java/lang/String" "value" "[B" (.ref b) ∧ Arv Z h b kb .byte (1 : Int32) [(.int (own_b u0))] (.int (0 : Int32))
abbrev own_RST1 : Room := { frames := 3, cells := 1, slots := 1, locals := 52 }
set_option maxRecDepth 65536 in
set_option maxHeartbeats 40000000 in
theorem own_rmST1 (l : Launch) (Z : State) (a0 : Array Value) (hw : ∀ d ∈ tables_1, d.before a0 Z = true) (ws : List Jvm.Cond) (o : Addr) (ca : Addr) (kc : ClassId) (u0 : Int32) (cs : Int32) (h0 : Heap) (n0 : Nat) (Z0 : n0 ≤ h0.size) (g_o : n0 ≤ o) (E : Exa Z h0 o "java/lang/String") (Fv : Fld Z h0 o "java/lang/String" "value" "[B" .null) (Fc : Fld Z h0 o "java/lang/String" "coder" "B" (.int (0 : Int32))) (Vc : Arv Z h0 ca kc .char (1 : Int32) [(.int u0)] (.int (0 : Int32))) (hu0 : ¬ (255 : Int32) < u0) (S0 : Sta Z h0 "java/lang/String" "COMPACT_STRINGS" "Z" (.int cs)) (hcs : ¬ cs = (0 : Int32)) :
    MetFree l (⟨"java/lang/String", "<init>", "([C)V"⟩ : MethodName) (head1 (Jvm.Cond.code (⟨"java/lang/String", "<init>", "([C)V"⟩ : MethodName) jdk_42_method_3_code 2 none :: ws) own_RST1) (fun aa__ U => aa__ = #[(.ref o), (.ref ca)] ∧ Z.Warmed39 U.vm ∧ U.heap = h0) (fun _ _ _ _ _ => True) (fun _ U oc_ U' => ∃ rv__ rL__, oc_ = .returned rv__ ∧ own_QST1 Z o ca kc u0 cs h0 n0 rv__ U'.heap rL__ ∧ FrameEnd U oc_ U' rL__ own_RST1.cells own_RST1.slots) := by
  refine MetFree.of_bodySF (plainFor_of_name own_pn_java_lang_String) hisR ?_
  intro p e s m args below meth c s₁ Bd hml0 hP hK
  obtain ⟨rfl, hZ, hh⟩ := hP
  have hx := Bd.exec
  have hby := Bd.bytes
  have hml : c.maxLocals = 2 := hml0
  have hown : s.vm.findClass "java/lang/String" = some m.cls := findClass_of_methodNamed Bd.named
  have hnm := (name_of_methodNamed Bd.named Bd.method).1
  have X0 : Stand p l e own_RST1 s m #[(.ref o), (.ref ca)] below meth c s₁ [] 0 0 := Stand.of_body Bd
  have e0 : s₁.heap = h0 := by rw [← hh, Bd.state]; rfl
  have N0 := Fr.nil n0
  refine own_in (fun _ k => castTop (own_efST1 m o ca) k) ?_
  intro RR hRR
  show own_Go p.tables e below RR (s₁.setTop (mkF m 0 #[.val (.ref o), .val (.ref ca)] []))
  refine own_st (fun _ k => XS.aloadN X0.here hx rfl (hb hby own_djdk_42_method_3_code_0) rfl rfl (XS.aloadN X0.here hx rfl (hb hby own_djdk_42_method_3_code_1) rfl rfl (XS.iconst X0.here hx rfl (hb hby own_djdk_42_method_3_code_2) (XS.aloadN X0.here hx rfl (hb hby own_djdk_42_method_3_code_3) rfl rfl k)))) ?_
  show own_Go p.tables e below RR (s₁.setTop (mkF m 4 #[.val (.ref o), .val (.ref ca)] [(.ref ca), (.int (0 : Int32)), (.ref ca), (.ref o)]))
  obtain ⟨c1, A1, -, s1, m1, -, -⟩ := id Vc
  refine own_st (fun _ k => own_len X0 hx hZ e0 A1 s1 m1 (g := (mkF m 4 #[.val (.ref o), .val (.ref ca)] [(.ref ca), (.int (0 : Int32)), (.ref ca), (.ref o)])) rfl rfl (hb hby own_djdk_42_method_3_code_4) (XS.aconstNull X0.here hx rfl (hb hby own_djdk_42_method_3_code_5) k)) ?_
  show own_Go p.tables e below RR (s₁.setTop (mkF m 6 #[.val (.ref o), .val (.ref ca)] [.null, (.int (1 : Int32)), (.int (0 : Int32)), (.ref ca), (.ref o)]))
  obtain ⟨_, _, ⟨T2, L2, k2, n2⟩, -, X2, ⟨Lc2, hQ2, l2, y2, z2⟩, st2⟩ := X0.specialBack hx (y := (⟨"java/lang/String", "<init>", "([CIILjava/lang/Void;)V"⟩ : MethodName)) rfl hown (mvT hZ (hw _ (List.mem_of_getElem? (i := 14) rfl))) (mvT hZ (hw _ (List.mem_of_getElem? (i := 15) rfl))) (mvT hZ (hw _ (List.mem_of_getElem? (i := 17) rfl))) (by decide) (backOf (W := 0) (own_rmSI1 l Z a0 hw [] o ca kc u0 cs h0 n0 Z0 g_o E Fv Fc Vc hu0 S0 hcs) hZ (hw _ (List.mem_of_getElem? (i := 17) rfl)) (hw _ (List.mem_of_getElem? (i := 9) rfl)) (by decide) (by decide)) (g := (mkF m 6 #[.val (.ref o), .val (.ref ca)] [.null, (.int (1 : Int32)), (.int (0 : Int32)), (.ref ca), (.ref o)])) rfl (by rw [hml]; rfl) (Steps.refl _) (a := o) (argsL := [(.ref ca), (.int (0 : Int32)), (.int (1 : Int32)), .null]) (rest := []) (lenOf own_pd___CIILjava_lang_Void__V rfl) rfl (by show 2 * 0 + _ ≤ _; exact Nat.le_of_eq rfl) (hb hby own_djdk_42_method_3_code_6) (fun _ _ => ⟨rfl, e0, (by decide : 0 + 1 ≤ _), (by decide : 0 + 1 ≤ _)⟩)
  dsimp only [Pt.U, Pt.locs, Pt.cells, Pt.slots] at X2 l2 y2 z2 st2 hQ2
  subst l2 y2 z2
  obtain ⟨rfl, Nq2, Kq2, Eq2, Fq2, bq2, kbq2, Fvq2, Vq2⟩ := hQ2
  have N2 := Fr.app N0 Nq2
  refine own_st (fun _ k => st2.trans k) ?_
  have z3 : n0 ≤ T2.heap.size := Nat.le_trans Z0 Kq2.1
  have kk4 : Keep h0 T2.heap [o] := (Keep.refl h0 [o]).trans Kq2 (allS (Or.inl (List.mem_of_getElem? (i := 0) rfl)) all0)
  show own_Go p.tables e below RR (T2.setTop (mkF m 9 #[.val (.ref o), .val (.ref ca)] []))
  obtain ⟨fs, hrt_, hrun, hended, hW, hsame⟩ := X2.leave (v := none) (fun _ => rfl)
  refine own_fin (X2.returnOut hx Bd.returns (hb hby own_djdk_42_method_3_code_9) hrt_) (hRR _ ⟨_, hrun, hended, _, _, rfl, ?_, ⟨_, rfl⟩, hW, hsame.mono (by decide) (by decide)⟩)
  show own_QST1 Z o ca kc u0 cs h0 n0 _ T2.heap _
  exact ⟨rfl, N2, kk4, Eq2, Fq2, _, _, Fvq2, Vq2⟩
theorem own_efCI2 (m : MethodId) (ca : Addr) (ba : Addr) : entryFrame m #[(.ref ca), (.int (0 : Int32)), (.ref ba), (.int (0 : Int32)), (.int (2 : Int32))] 7 = mkF m 0 #[.val (.ref ca), .val (.int (0 : Int32)), .val (.ref ba), .val (.int (0 : Int32)), .val (.int (2 : Int32)), .unset, .unset] [] := by first | (simp [entryFrame, mkF, argsToLocals, Value.category]; done) | rfl
def own_QCI2 (Z : State) (ca : Addr) (kc : ClassId) (ba : Addr) (kb : ClassId) (u0 : Int32) (u1 : Int32) (h0 : Heap) (n0 : Nat) (rv__ : Option Value) (h : Heap) (rL__ : List Loc) : Prop := rv__ = some (.int (2 : Int32)) ∧ Fr n0 rL__ ∧ Keep h0 h [ba] ∧ Arv Z h ba kb .byte (2 : Int32) [(.int (own_b u0)), (.int (own_b u1))] (.int (0 : Int32))
abbrev own_RCI2 : Room := { frames := 0, cells := 0, slots := 0, locals := 0 }
set_option maxRecDepth 65536 in
set_option maxHeartbeats 40000000 in
theorem own_rmCI2 (l : Launch) (Z : State) (a0 : Array Value) (hw : ∀ d ∈ tables_1, d.before a0 Z = true) (ws : List Jvm.Cond) (ca : Addr) (kc : ClassId) (ba : Addr) (kb : ClassId) (u0 : Int32) (u1 : Int32) (h0 : Heap) (n0 : Nat) (Z0 : n0 ≤ h0.size) (g_b : n0 ≤ ba) (Vc : Arv Z h0 ca kc .char (2 : Int32) [(.int u0), (.int u1)] (.int (0 : Int32))) (Vb : Arv Z h0 ba kb .byte (2 : Int32) [(.int (0 : Int32)), (.int (0 : Int32))] (.int (0 : Int32))) (nec : ca ≠ ba) (hu0 : ¬ (255 : Int32) < u0) (hu1 : ¬ (255 : Int32) < u1) :
    MetFree l (⟨"java/lang/StringUTF16", "compress", "([CI[BII)I"⟩ : MethodName) (head1 (Jvm.Cond.code (⟨"java/lang/StringUTF16", "compress", "([CI[BII)I"⟩ : MethodName) jdk_52_method_21_code 7 (some .int) :: ws) own_RCI2) (fun aa__ U => aa__ = #[(.ref ca), (.int (0 : Int32)), (.ref ba), (.int (0 : Int32)), (.int (2 : Int32))] ∧ Z.Warmed39 U.vm ∧ U.heap = h0) (fun _ _ _ _ _ => True) (fun _ U oc_ U' => ∃ rv__ rL__, oc_ = .returned rv__ ∧ own_QCI2 Z ca kc ba kb u0 u1 h0 n0 rv__ U'.heap rL__ ∧ FrameEnd U oc_ U' rL__ own_RCI2.cells own_RCI2.slots) := by
  refine MetFree.of_bodySF (plainFor_of_name own_pn_java_lang_StringUTF16) hisR ?_
  intro p e s m args below meth c s₁ Bd hml0 hP hK
  obtain ⟨rfl, hZ, hh⟩ := hP
  have hx := Bd.exec
  have hby := Bd.bytes
  have hml : c.maxLocals = 7 := hml0
  have hown : s.vm.findClass "java/lang/StringUTF16" = some m.cls := findClass_of_methodNamed Bd.named
  have hnm := (name_of_methodNamed Bd.named Bd.method).1
  have X0 : Stand p l e own_RCI2 s m #[(.ref ca), (.int (0 : Int32)), (.ref ba), (.int (0 : Int32)), (.int (2 : Int32))] below meth c s₁ [] 0 0 := Stand.of_body Bd
  have e0 : s₁.heap = h0 := by rw [← hh, Bd.state]; rfl
  have N0 := Fr.nil n0
  refine own_in (fun _ k => castTop (own_efCI2 m ca ba) k) ?_
  intro RR hRR
  show own_Go p.tables e below RR (s₁.setTop (mkF m 0 #[.val (.ref ca), .val (.int (0 : Int32)), .val (.ref ba), .val (.int (0 : Int32)), .val (.int (2 : Int32)), .unset, .unset] []))
  refine own_st (fun _ k => XS.iconst X0.here hx rfl (hb hby own_djdk_52_method_21_code_0) (XS.istore X0.here hx rfl (hb hby own_djdk_52_method_21_code_1) rfl (l' := #[.val (.ref ca), .val (.int (0 : Int32)), .val (.ref ba), .val (.int (0 : Int32)), .val (.int (2 : Int32)), .val (.int (0 : Int32)), .unset]) rfl (XS.iload X0.here hx rfl (hb hby own_djdk_52_method_21_code_3) rfl (XS.iload X0.here hx rfl (hb hby own_djdk_52_method_21_code_5) rfl k)))) ?_
  show own_Go p.tables e below RR (s₁.setTop (mkF m 7 #[.val (.ref ca), .val (.int (0 : Int32)), .val (.ref ba), .val (.int (0 : Int32)), .val (.int (2 : Int32)), .val (.int (0 : Int32)), .unset] [(.int (2 : Int32)), (.int (0 : Int32))]))
  refine own_st (fun _ k => XS.icmpNo X0.here hx rfl (hb hby own_djdk_52_method_21_code_7) rfl (tlt (by decide)).2.1 (XS.aloadN X0.here hx rfl (hb hby own_djdk_52_method_21_code_10) rfl rfl (XS.iloadN X0.here hx rfl (hb hby own_djdk_52_method_21_code_11) rfl k))) ?_
  show own_Go p.tables e below RR (s₁.setTop (mkF m 12 #[.val (.ref ca), .val (.int (0 : Int32)), .val (.ref ba), .val (.int (0 : Int32)), .val (.int (2 : Int32)), .val (.int (0 : Int32)), .unset] [(.int (0 : Int32)), (.ref ca)]))
  obtain ⟨c1, A1, q1, s1, m1, H1, G1⟩ := id Vc
  have b1 := inb_of (j := (0 : Int32)) s1 ⟨by decide, by decide⟩
  refine own_st (fun _ k => X0.caload hx (j := (0 : Int32)) (v := (.int u0)) (by rw [e0]; exact A1.1) (State.isArrayOf_alike hZ.alike A1.2.1) A1.2.2 b1 (Has.at H1 b1 rfl) (g := (mkF m 12 #[.val (.ref ca), .val (.int (0 : Int32)), .val (.ref ba), .val (.int (0 : Int32)), .val (.int (2 : Int32)), .val (.int (0 : Int32)), .unset] [(.int (0 : Int32)), (.ref ca)])) rfl rfl (hb hby own_djdk_52_method_21_code_12) _ (XS.istore X0.here hx rfl (hb hby own_djdk_52_method_21_code_13) rfl (l' := #[.val (.ref ca), .val (.int (0 : Int32)), .val (.ref ba), .val (.int (0 : Int32)), .val (.int (2 : Int32)), .val (.int (0 : Int32)), .val (.int u0)]) rfl (XS.iload X0.here hx rfl (hb hby own_djdk_52_method_21_code_15) rfl (XS.sipush X0.here hx rfl (hb hby own_djdk_52_method_21_code_17) k)))) ?_
  show own_Go p.tables e below RR (s₁.setTop (mkF m 20 #[.val (.ref ca), .val (.int (0 : Int32)), .val (.ref ba), .val (.int (0 : Int32)), .val (.int (2 : Int32)), .val (.int (0 : Int32)), .val (.int u0)] [(.int (255 : Int32)), (.int u0)]))
  have hc20_2 : ¬ ((255 : Int32) < u0) := hu0
  refine own_st (fun _ k => XS.icmpYes X0.here hx rfl (pc0 := 20) (pc' := 26) rfl (hb hby own_djdk_52_method_21_code_20) rfl (flt hc20_2).2.2.2 (by decide) (by decide) (XS.aloadN X0.here hx rfl (hb hby own_djdk_52_method_21_code_26) rfl rfl (XS.iloadN X0.here hx rfl (hb hby own_djdk_52_method_21_code_27) rfl (XS.iload X0.here hx rfl (hb hby own_djdk_52_method_21_code_28) rfl (XS.i2b X0.here hx rfl (hb hby own_djdk_52_method_21_code_30) rfl k))))) ?_
  show own_Go p.tables e below RR (s₁.setTop (mkF m 31 #[.val (.ref ca), .val (.int (0 : Int32)), .val (.ref ba), .val (.int (0 : Int32)), .val (.int (2 : Int32)), .val (.int (0 : Int32)), .val (.int u0)] [(.int (u0.toInt8.toInt32)), (.int (0 : Int32)), (.ref ba)]))
  obtain ⟨c3, A3, q3, s3, m3, H3, G3⟩ := id Vb
  obtain ⟨T4, h4, X4, e4, W4, st4⟩ := stB X0 hx hZ e0 A3 (j := (0 : Int32)) (inb_of s3 ⟨by decide, by decide⟩) (g := (mkF m 31 #[.val (.ref ca), .val (.int (0 : Int32)), .val (.ref ba), .val (.int (0 : Int32)), .val (.int (2 : Int32)), .val (.int (0 : Int32)), .val (.int u0)] [(.int (u0.toInt8.toInt32)), (.int (0 : Int32)), (.ref ba)])) rfl rfl (hb hby own_djdk_52_method_21_code_31)
  have V4 := Arv.set A3 q3 s3 m3 H3 G3 (fits_nar_byte _) W4 0 rfl (Nat.le_of_ble_eq_true rfl)
  have V4 : Arv Z h4 ba kb .byte (2 : Int32) [(.int (u0.toInt8.toInt32).toInt8.toInt32), (.int (0 : Int32))] (.int (0 : Int32)) := V4
  have N4 := Fr.snoc X4 N0 g_b
  refine own_st st4 ?_
  have z5 : n0 ≤ h4.size := Nat.le_trans Z0 (Keep.of_wr W4).1
  have kk6 : Keep h0 h4 [ba] := (Keep.refl h0 [ba]).wr W4 (Or.inl (List.mem_of_getElem? (i := 0) rfl))
  show own_Go p.tables e below RR (T4.setTop (mkF m 32 #[.val (.ref ca), .val (.int (0 : Int32)), .val (.ref ba), .val (.int (0 : Int32)), .val (.int (2 : Int32)), .val (.int (0 : Int32)), .val (.int u0)] []))
  refine own_st (fun _ k => XS.iinc X4.here hx rfl (hb hby own_djdk_52_method_21_code_32) rfl (l' := #[.val (.ref ca), .val (.int (1 : Int32)), .val (.ref ba), .val (.int (0 : Int32)), .val (.int (2 : Int32)), .val (.int (0 : Int32)), .val (.int u0)]) rfl (XS.iinc X4.here hx rfl (hb hby own_djdk_52_method_21_code_35) rfl (l' := #[.val (.ref ca), .val (.int (1 : Int32)), .val (.ref ba), .val (.int (1 : Int32)), .val (.int (2 : Int32)), .val (.int (0 : Int32)), .val (.int u0)]) rfl (XS.iinc X4.here hx rfl (hb hby own_djdk_52_method_21_code_38) rfl (l' := #[.val (.ref ca), .val (.int (1 : Int32)), .val (.ref ba), .val (.int (1 : Int32)), .val (.int (2 : Int32)), .val (.int (1 : Int32)), .val (.int u0)]) rfl (XS.goto X4.here hx rfl (pc0 := 41) (pc' := 3) rfl (hb hby own_djdk_52_method_21_code_41) (by decide) (by decide) (XS.iload X4.here hx rfl (hb hby own_djdk_52_method_21_code_3) rfl (XS.iload X4.here hx rfl (hb hby own_djdk_52_method_21_code_5) rfl k)))))) ?_
  show own_Go p.tables e below RR (T4.setTop (mkF m 7 #[.val (.ref ca), .val (.int (1 : Int32)), .val (.ref ba), .val (.int (1 : Int32)), .val (.int (2 : Int32)), .val (.int (1 : Int32)), .val (.int u0)] [(.int (2 : Int32)), (.int (1 : Int32))]))
  refine own_st (fun _ k => XS.icmpNo X4.here hx rfl (hb hby own_djdk_52_method_21_code_7) rfl (tlt (by decide)).2.1 (XS.aloadN X4.here hx rfl (hb hby own_djdk_52_method_21_code_10) rfl rfl (XS.iloadN X4.here hx rfl (hb hby own_djdk_52_method_21_code_11) rfl k))) ?_
  show own_Go p.tables e below RR (T4.setTop (mkF m 12 #[.val (.ref ca), .val (.int (1 : Int32)), .val (.ref ba), .val (.int (1 : Int32)), .val (.int (2 : Int32)), .val (.int (1 : Int32)), .val (.int u0)] [(.int (1 : Int32)), (.ref ca)]))
  have f7 := (Vc.other W4 nec)
  obtain ⟨c8, A8, q8, s8, m8, H8, G8⟩ := id f7
  have b8 := inb_of (j := (1 : Int32)) s8 ⟨by decide, by decide⟩
  refine own_st (fun _ k => X4.caload hx (j := (1 : Int32)) (v := (.int u1)) (by rw [e4]; exact A8.1) (State.isArrayOf_alike hZ.alike A8.2.1) A8.2.2 b8 (Has.at H8 b8 rfl) (g := (mkF m 12 #[.val (.ref ca), .val (.int (1 : Int32)), .val (.ref ba), .val (.int (1 : Int32)), .val (.int (2 : Int32)), .val (.int (1 : Int32)), .val (.int u0)] [(.int (1 : Int32)), (.ref ca)])) rfl rfl (hb hby own_djdk_52_method_21_code_12) _ (XS.istore X4.here hx rfl (hb hby own_djdk_52_method_21_code_13) rfl (l' := #[.val (.ref ca), .val (.int (1 : Int32)), .val (.ref ba), .val (.int (1 : Int32)), .val (.int (2 : Int32)), .val (.int (1 : Int32)), .val (.int u1)]) rfl (XS.iload X4.here hx rfl (hb hby own_djdk_52_method_21_code_15) rfl (XS.sipush X4.here hx rfl (hb hby own_djdk_52_method_21_code_17) k)))) ?_
  show own_Go p.tables e below RR (T4.setTop (mkF m 20 #[.val (.ref ca), .val (.int (1 : Int32)), .val (.ref ba), .val (.int (1 : Int32)), .val (.int (2 : Int32)), .val (.int (1 : Int32)), .val (.int u1)] [(.int (255 : Int32)), (.int u1)]))
  have hc20_9 : ¬ ((255 : Int32) < u1) := hu1
  refine own_st (fun _ k => XS.icmpYes X4.here hx rfl (pc0 := 20) (pc' := 26) rfl (hb hby own_djdk_52_method_21_code_20) rfl (flt hc20_9).2.2.2 (by decide) (by decide) (XS.aloadN X4.here hx rfl (hb hby own_djdk_52_method_21_code_26) rfl rfl (XS.iloadN X4.here hx rfl (hb hby own_djdk_52_method_21_code_27) rfl (XS.iload X4.here hx rfl (hb hby own_djdk_52_method_21_code_28) rfl (XS.i2b X4.here hx rfl (hb hby own_djdk_52_method_21_code_30) rfl k))))) ?_
  show own_Go p.tables e below RR (T4.setTop (mkF m 31 #[.val (.ref ca), .val (.int (1 : Int32)), .val (.ref ba), .val (.int (1 : Int32)), .val (.int (2 : Int32)), .val (.int (1 : Int32)), .val (.int u1)] [(.int (u1.toInt8.toInt32)), (.int (1 : Int32)), (.ref ba)]))
  obtain ⟨c10, A10, q10, s10, m10, H10, G10⟩ := id V4
  obtain ⟨T11, h11, X11, e11, W11, st11⟩ := stB X4 hx hZ e4 A10 (j := (1 : Int32)) (inb_of s10 ⟨by decide, by decide⟩) (g := (mkF m 31 #[.val (.ref ca), .val (.int (1 : Int32)), .val (.ref ba), .val (.int (1 : Int32)), .val (.int (2 : Int32)), .val (.int (1 : Int32)), .val (.int u1)] [(.int (u1.toInt8.toInt32)), (.int (1 : Int32)), (.ref ba)])) rfl rfl (hb hby own_djdk_52_method_21_code_31)
  have V11 := Arv.set A10 q10 s10 m10 H10 G10 (fits_nar_byte _) W11 1 rfl (Nat.le_of_ble_eq_true rfl)
  have V11 : Arv Z h11 ba kb .byte (2 : Int32) [(.int (u0.toInt8.toInt32).toInt8.toInt32), (.int (u1.toInt8.toInt32).toInt8.toInt32)] (.int (0 : Int32)) := V11
  have N11 := Fr.snoc X11 N4 g_b
  refine own_st st11 ?_
  have z12 : n0 ≤ h11.size := Nat.le_trans z5 (Keep.of_wr W11).1
  have kk13 : Keep h0 h11 [ba] := kk6.wr W11 (Or.inl (List.mem_of_getElem? (i := 0) rfl))
  show own_Go p.tables e below RR (T11.setTop (mkF m 32 #[.val (.ref ca), .val (.int (1 : Int32)), .val (.ref ba), .val (.int (1 : Int32)), .val (.int (2 : Int32)), .val (.int (1 : Int32)), .val (.int u1)] []))
  refine own_st (fun _ k => XS.iinc X11.here hx rfl (hb hby own_djdk_52_method_21_code_32) rfl (l' := #[.val (.ref ca), .val (.int (2 : Int32)), .val (.ref ba), .val (.int (1 : Int32)), .val (.int (2 : Int32)), .val (.int (1 : Int32)), .val (.int u1)]) rfl (XS.iinc X11.here hx rfl (hb hby own_djdk_52_method_21_code_35) rfl (l' := #[.val (.ref ca), .val (.int (2 : Int32)), .val (.ref ba), .val (.int (2 : Int32)), .val (.int (2 : Int32)), .val (.int (1 : Int32)), .val (.int u1)]) rfl (XS.iinc X11.here hx rfl (hb hby own_djdk_52_method_21_code_38) rfl (l' := #[.val (.ref ca), .val (.int (2 : Int32)), .val (.ref ba), .val (.int (2 : Int32)), .val (.int (2 : Int32)), .val (.int (2 : Int32)), .val (.int u1)]) rfl (XS.goto X11.here hx rfl (pc0 := 41) (pc' := 3) rfl (hb hby own_djdk_52_method_21_code_41) (by decide) (by decide) (XS.iload X11.here hx rfl (hb hby own_djdk_52_method_21_code_3) rfl (XS.iload X11.here hx rfl (hb hby own_djdk_52_method_21_code_5) rfl k)))))) ?_
  show own_Go p.tables e below RR (T11.setTop (mkF m 7 #[.val (.ref ca), .val (.int (2 : Int32)), .val (.ref ba), .val (.int (2 : Int32)), .val (.int (2 : Int32)), .val (.int (2 : Int32)), .val (.int u1)] [(.int (2 : Int32)), (.int (2 : Int32))]))
  refine own_st (fun _ k => XS.icmpYes X11.here hx rfl (pc0 := 7) (pc' := 44) rfl (hb hby own_djdk_52_method_21_code_7) rfl (flt (by decide)).2.1 (by decide) (by decide) (XS.iload X11.here hx rfl (hb hby own_djdk_52_method_21_code_44) rfl k)) ?_
  show own_Go p.tables e below RR (T11.setTop (mkF m 46 #[.val (.ref ca), .val (.int (2 : Int32)), .val (.ref ba), .val (.int (2 : Int32)), .val (.int (2 : Int32)), .val (.int (2 : Int32)), .val (.int u1)] [(.int (2 : Int32))]))
  obtain ⟨fs, hrt_, hrun, hended, hW, hsame⟩ := X11.leave (v := some (.int (2 : Int32))) (fun h => by rw [Bd.returns] at h; cases h)
  refine own_fin (retI X11 hx Bd.returns (hb hby own_djdk_52_method_21_code_46) hrt_) (hRR _ ⟨_, hrun, hended, _, _, rfl, ?_, ⟨_, rfl⟩, hW, hsame.mono (by decide) (by decide)⟩)
  show own_QCI2 Z ca kc ba kb u0 u1 h0 n0 _ T11.heap _
  rw [e11]
  exact ⟨rfl, N11, kk13, V11⟩
theorem own_efCO2 (m : MethodId) (ca : Addr) : entryFrame m #[(.ref ca), (.int (0 : Int32)), (.int (2 : Int32))] 6 = mkF m 0 #[.val (.ref ca), .val (.int (0 : Int32)), .val (.int (2 : Int32)), .unset, .unset, .unset] [] := by first | (simp [entryFrame, mkF, argsToLocals, Value.category]; done) | rfl
def own_QCO2 (Z : State) (ca : Addr) (kc : ClassId) (u0 : Int32) (u1 : Int32) (h0 : Heap) (n0 : Nat) (rv__ : Option Value) (h : Heap) (rL__ : List Loc) : Prop := ∃ r__ : Addr, rv__ = some (.ref r__) ∧ Fr n0 rL__ ∧ Keep h0 h [] ∧ h0.size ≤ r__ ∧ ∃ kb : ClassId, Arv Z h r__ kb .byte (2 : Int32) [(.int (own_b u0)), (.int (own_b u1))] (.int (0 : Int32))
abbrev own_RCO2 : Room := { frames := 1, cells := 1, slots := 2, locals := 18 }
set_option maxRecDepth 65536 in
set_option maxHeartbeats 40000000 in
theorem own_rmCO2 (l : Launch) (Z : State) (a0 : Array Value) (hw : ∀ d ∈ tables_1, d.before a0 Z = true) (ws : List Jvm.Cond) (ca : Addr) (kc : ClassId) (u0 : Int32) (u1 : Int32) (h0 : Heap) (n0 : Nat) (Z0 : n0 ≤ h0.size) (Vc : Arv Z h0 ca kc .char (2 : Int32) [(.int u0), (.int u1)] (.int (0 : Int32))) (hu0 : ¬ (255 : Int32) < u0) (hu1 : ¬ (255 : Int32) < u1) :
    MetFree l (⟨"java/lang/StringUTF16", "compress", "([CII)[B"⟩ : MethodName) (head1 (Jvm.Cond.code (⟨"java/lang/StringUTF16", "compress", "([CII)[B"⟩ : MethodName) jdk_52_method_16_code 6 (some (.array .byte)) :: ws) own_RCO2) (fun aa__ U => aa__ = #[(.ref ca), (.int (0 : Int32)), (.int (2 : Int32))] ∧ Z.Warmed39 U.vm ∧ U.heap = h0) (fun _ _ _ _ _ => True) (fun _ U oc_ U' => ∃ rv__ rL__, oc_ = .returned rv__ ∧ own_QCO2 Z ca kc u0 u1 h0 n0 rv__ U'.heap rL__ ∧ FrameEnd U oc_ U' rL__ own_RCO2.cells own_RCO2.slots) := by
  refine MetFree.of_bodySF (plainFor_of_name own_pn_java_lang_StringUTF16) hisR ?_
  intro p e s m args below meth c s₁ Bd hml0 hP hK
  obtain ⟨rfl, hZ, hh⟩ := hP
  have hx := Bd.exec
  have hby := Bd.bytes
  have hml : c.maxLocals = 6 := hml0
  have hown : s.vm.findClass "java/lang/StringUTF16" = some m.cls := findClass_of_methodNamed Bd.named
  have hnm := (name_of_methodNamed Bd.named Bd.method).1
  have X0 : Stand p l e own_RCO2 s m #[(.ref ca), (.int (0 : Int32)), (.int (2 : Int32))] below meth c s₁ [] 0 0 := Stand.of_body Bd
  have e0 : s₁.heap = h0 := by rw [← hh, Bd.state]; rfl
  have N0 := Fr.nil n0
  refine own_in (fun _ k => castTop (own_efCO2 m ca) k) ?_
  intro RR hRR
  show own_Go p.tables e below RR (s₁.setTop (mkF m 0 #[.val (.ref ca), .val (.int (0 : Int32)), .val (.int (2 : Int32)), .unset, .unset, .unset] []))
  refine own_st (fun _ k => XS.iloadN X0.here hx rfl (hb hby own_djdk_52_method_16_code_0) rfl k) ?_
  show own_Go p.tables e below RR (s₁.setTop (mkF m 1 #[.val (.ref ca), .val (.int (0 : Int32)), .val (.int (2 : Int32)), .unset, .unset, .unset] [(.int (2 : Int32))]))
  obtain ⟨T1, h1, k1, X1, e1, E1, A1, st1⟩ := newP X0 hx hZ (hw _ (List.mem_of_getElem? (i := 22) rfl)) e0 (g := (mkF m 1 #[.val (.ref ca), .val (.int (0 : Int32)), .val (.int (2 : Int32)), .unset, .unset, .unset] [(.int (2 : Int32))])) rfl (hb hby own_djdk_52_method_16_code_1) rfl (by decide) (cap := 2) (by decide) (by decide) (by decide) (by decide)
  obtain ⟨b1, gb1⟩ : ∃ z, z = h0.size := ⟨_, rfl⟩
  rw [← gb1] at A1 st1
  have ge1 : n0 ≤ b1 := Nat.le_trans Z0 (Nat.le_of_eq gb1.symm)
  have sz1 : h0.size ≤ b1 := Nat.le_trans (Keep.refl h0 []).1 (Nat.le_of_eq gb1.symm)
  refine own_st st1 ?_
  have z2 : n0 ≤ h1.size := Nat.le_trans Z0 E1.1
  have kk3 : Keep h0 h1 [] := (Keep.refl h0 []).ext E1
  have V1 : Arv Z h1 b1 k1 .byte (2 : Int32) [(.int (0 : Int32)), (.int (0 : Int32))] (.int (0 : Int32)) := (Arv.new A1 (by decide)).pad (pad_rep [] (.int (0 : Int32)) 2)
  show own_Go p.tables e below RR (T1.setTop (mkF m 3 #[.val (.ref ca), .val (.int (0 : Int32)), .val (.int (2 : Int32)), .unset, .unset, .unset] [(.ref b1)]))
  refine own_st (fun _ k => XS.astoreN X1.here hx rfl (hb hby own_djdk_52_method_16_code_3) rfl rfl (l' := #[.val (.ref ca), .val (.int (0 : Int32)), .val (.int (2 : Int32)), .val (.ref b1), .unset, .unset]) rfl (XS.aloadN X1.here hx rfl (hb hby own_djdk_52_method_16_code_4) rfl rfl (XS.iloadN X1.here hx rfl (hb hby own_djdk_52_method_16_code_5) rfl (XS.aloadN X1.here hx rfl (hb hby own_djdk_52_method_16_code_6) rfl rfl (XS.iconst X1.here hx rfl (hb hby own_djdk_52_method_16_code_7) (XS.iloadN X1.here hx rfl (hb hby own_djdk_52_method_16_code_8) rfl k)))))) ?_
  show own_Go p.tables e below RR (T1.setTop (mkF m 9 #[.val (.ref ca), .val (.int (0 : Int32)), .val (.int (2 : Int32)), .val (.ref b1), .unset, .unset] [(.int (2 : Int32)), (.int (0 : Int32)), (.ref b1), (.int (0 : Int32)), (.ref ca)]))
  have f4 := (Vc.ext E1)
  have ne5 : ca ≠ b1 := (Nat.ne_of_lt (Nat.lt_of_lt_of_le Vc.lt (Nat.le_of_eq gb1.symm)))
  obtain ⟨_, _, ⟨T6, L6, k6, n6⟩, -, X6, ⟨Lc6, hQ6, l6, y6, z6⟩, st6⟩ := Jvm.LawKit.callS X1 hx (y := (⟨"java/lang/StringUTF16", "compress", "([CI[BII)I"⟩ : MethodName)) hown (mvT hZ (hw _ (List.mem_of_getElem? (i := 37) rfl))) (mvT hZ (hw _ (List.mem_of_getElem? (i := 38) rfl))) (mvT hZ (hw _ (List.mem_of_getElem? (i := 35) rfl))) (mvT hZ (hw _ (List.mem_of_getElem? (i := 39) rfl))) (by decide) (backOf (W := 0) (own_rmCI2 l Z a0 hw [] ca kc b1 k1 u0 u1 h1 n0 z2 ge1 f4 V1 ne5 hu0 hu1) hZ (hw _ (List.mem_of_getElem? (i := 39) rfl)) (hw _ (List.mem_of_getElem? (i := 35) rfl)) (by decide) (by decide)) (g := (mkF m 9 #[.val (.ref ca), .val (.int (0 : Int32)), .val (.int (2 : Int32)), .val (.ref b1), .unset, .unset] [(.int (2 : Int32)), (.int (0 : Int32)), (.ref b1), (.int (0 : Int32)), (.ref ca)])) rfl (by rw [hml]; rfl) (argsL := [(.ref ca), (.int (0 : Int32)), (.ref b1), (.int (0 : Int32)), (.int (2 : Int32))]) (rest := []) (lenOf own_pd___CI_BII_I rfl) rfl (by show 2 * 0 + _ ≤ _; exact Nat.le_of_eq rfl) (hb hby own_djdk_52_method_16_code_9) (fun _ _ => ⟨rfl, e1, (by decide : 1 + 0 ≤ _), (by decide : 2 + 0 ≤ _)⟩)
  dsimp only [Pt.U, Pt.locs, Pt.cells, Pt.slots] at X6 l6 y6 z6 st6 hQ6
  subst l6 y6 z6
  obtain ⟨rfl, Nq6, Kq6, Vq6⟩ := hQ6
  have N6 := Fr.app N0 Nq6
  refine own_st st6 ?_
  have z7 : n0 ≤ T6.heap.size := Nat.le_trans z2 Kq6.1
  have kk8 : Keep h0 T6.heap [] := kk3.trans Kq6 (allS (Or.inr sz1) all0)
  show own_Go p.tables e below RR (T6.setTop (mkF m 12 #[.val (.ref ca), .val (.int (0 : Int32)), .val (.int (2 : Int32)), .val (.ref b1), .unset, .unset] [(.int (2 : Int32))]))
  refine own_st (fun _ k => XS.istore X6.here hx rfl (hb hby own_djdk_52_method_16_code_12) rfl (l' := #[.val (.ref ca), .val (.int (0 : Int32)), .val (.int (2 : Int32)), .val (.ref b1), .val (.int (2 : Int32)), .unset]) rfl (XS.iload X6.here hx rfl (hb hby own_djdk_52_method_16_code_14) rfl (XS.iloadN X6.here hx rfl (hb hby own_djdk_52_method_16_code_16) rfl k))) ?_
  show own_Go p.tables e below RR (T6.setTop (mkF m 17 #[.val (.ref ca), .val (.int (0 : Int32)), .val (.int (2 : Int32)), .val (.ref b1), .val (.int (2 : Int32)), .unset] [(.int (2 : Int32)), (.int (2 : Int32))]))
  refine own_st (fun _ k => XS.icmpYes X6.here hx rfl (pc0 := 17) (pc' := 57) rfl (hb hby own_djdk_52_method_16_code_17) rfl (teq (by decide)).1 (by decide) (by decide) (XS.aloadN X6.here hx rfl (hb hby own_djdk_52_method_16_code_57) rfl rfl k)) ?_
  show own_Go p.tables e below RR (T6.setTop (mkF m 58 #[.val (.ref ca), .val (.int (0 : Int32)), .val (.int (2 : Int32)), .val (.ref b1), .val (.int (2 : Int32)), .unset] [(.ref b1)]))
  obtain ⟨fs, hrt_, hrun, hended, hW, hsame⟩ := X6.leave (v := some (.ref b1)) (fun h => by rw [Bd.returns] at h; cases h)
  refine own_fin (retOut X6 hx Bd.returns rfl (Or.inr (Or.inr (Or.inr (Or.inr ⟨rfl, rfl, rfl⟩)))) (hb hby own_djdk_52_method_16_code_58) hrt_) (hRR _ ⟨_, hrun, hended, _, _, rfl, ?_, ⟨_, rfl⟩, hW, hsame.mono (by decide) (by decide)⟩)
  show own_QCO2 Z ca kc u0 u1 h0 n0 _ T6.heap _
  exact ⟨_, rfl, N6, kk8, sz1, _, Vq6⟩
theorem own_efCF2 (m : MethodId) (ba : Addr) : entryFrame m #[(.ref ba), (.int (2 : Int32))] 2 = mkF m 0 #[.val (.ref ba), .val (.int (2 : Int32))] [] := by first | (simp [entryFrame, mkF, argsToLocals, Value.category]; done) | rfl
def own_QCF2 (Z : State) (ba : Addr) (kb : ClassId) (bl : List Value) (h0 : Heap) (n0 : Nat) (rv__ : Option Value) (h : Heap) (rL__ : List Loc) : Prop := rv__ = some (.int (0 : Int32)) ∧ Fr n0 rL__ ∧ h = h0
abbrev own_RCF2 : Room := { frames := 0, cells := 0, slots := 0, locals := 0 }
set_option maxRecDepth 65536 in
set_option maxHeartbeats 40000000 in
theorem own_rmCF2 (l : Launch) (Z : State) (a0 : Array Value) (hw : ∀ d ∈ tables_1, d.before a0 Z = true) (ws : List Jvm.Cond) (ba : Addr) (kb : ClassId) (bl : List Value) (h0 : Heap) (n0 : Nat) (Z0 : n0 ≤ h0.size) (Vb : Arv Z h0 ba kb .byte (2 : Int32) bl (.int (0 : Int32))) :
    MetFree l (⟨"java/lang/StringUTF16", "coderFromArrayLen", "([BI)B"⟩ : MethodName) (head1 (Jvm.Cond.code (⟨"java/lang/StringUTF16", "coderFromArrayLen", "([BI)B"⟩ : MethodName) jdk_52_method_15_code 2 (some .byte) :: ws) own_RCF2) (fun aa__ U => aa__ = #[(.ref ba), (.int (2 : Int32))] ∧ Z.Warmed39 U.vm ∧ U.heap = h0) (fun _ _ _ _ _ => True) (fun _ U oc_ U' => ∃ rv__ rL__, oc_ = .returned rv__ ∧ own_QCF2 Z ba kb bl h0 n0 rv__ U'.heap rL__ ∧ FrameEnd U oc_ U' rL__ own_RCF2.cells own_RCF2.slots) := by
  refine MetFree.of_bodySF (plainFor_of_name own_pn_java_lang_StringUTF16) hisR ?_
  intro p e s m args below meth c s₁ Bd hml0 hP hK
  obtain ⟨rfl, hZ, hh⟩ := hP
  have hx := Bd.exec
  have hby := Bd.bytes
  have hml : c.maxLocals = 2 := hml0
  have hown : s.vm.findClass "java/lang/StringUTF16" = some m.cls := findClass_of_methodNamed Bd.named
  have hnm := (name_of_methodNamed Bd.named Bd.method).1
  have X0 : Stand p l e own_RCF2 s m #[(.ref ba), (.int (2 : Int32))] below meth c s₁ [] 0 0 := Stand.of_body Bd
  have e0 : s₁.heap = h0 := by rw [← hh, Bd.state]; rfl
  have N0 := Fr.nil n0
  refine own_in (fun _ k => castTop (own_efCF2 m ba) k) ?_
  intro RR hRR
  show own_Go p.tables e below RR (s₁.setTop (mkF m 0 #[.val (.ref ba), .val (.int (2 : Int32))] []))
  refine own_st (fun _ k => XS.iloadN X0.here hx rfl (hb hby own_djdk_52_method_15_code_0) rfl (XS.aloadN X0.here hx rfl (hb hby own_djdk_52_method_15_code_1) rfl rfl k)) ?_
  show own_Go p.tables e below RR (s₁.setTop (mkF m 2 #[.val (.ref ba), .val (.int (2 : Int32))] [(.ref ba), (.int (2 : Int32))]))
  obtain ⟨c1, A1, -, s1, m1, -, -⟩ := id Vb
  refine own_st (fun _ k => own_len X0 hx hZ e0 A1 s1 m1 (g := (mkF m 2 #[.val (.ref ba), .val (.int (2 : Int32))] [(.ref ba), (.int (2 : Int32))])) rfl rfl (hb hby own_djdk_52_method_15_code_2) (XS.isub X0.here hx rfl (hb hby own_djdk_52_method_15_code_3) rfl (XS.bipush X0.here hx rfl (hb hby own_djdk_52_method_15_code_4) (XS.iushr X0.here hx rfl (hb hby own_djdk_52_method_15_code_6) rfl k)))) ?_
  show own_Go p.tables e below RR (s₁.setTop (mkF m 7 #[.val (.ref ba), .val (.int (2 : Int32))] [(.int (((0 : Int32).toUInt32 >>> ((31 : Int32) &&& 31).toUInt32).toInt32))]))
  rw [show (((0 : Int32).toUInt32 >>> ((31 : Int32) &&& 31).toUInt32).toInt32) = (0 : Int32) from by decide]
  show own_Go p.tables e below RR (s₁.setTop (mkF m 7 #[.val (.ref ba), .val (.int (2 : Int32))] [(.int (0 : Int32))]))
  refine own_st (fun _ k => XS.i2b X0.here hx rfl (hb hby own_djdk_52_method_15_code_7) rfl k) ?_
  show own_Go p.tables e below RR (s₁.setTop (mkF m 8 #[.val (.ref ba), .val (.int (2 : Int32))] [(.int ((0 : Int32).toInt8.toInt32))]))
  obtain ⟨fs, hrt_, hrun, hended, hW, hsame⟩ := X0.leave (v := some (.int (nar .byte ((0 : Int32).toInt8.toInt32)))) (fun h => by rw [Bd.returns] at h; cases h)
  refine own_fin (retN X0 hx (t := .byte) Bd.returns (by simp) (hb hby own_djdk_52_method_15_code_8) hrt_) (hRR _ ⟨_, hrun, hended, _, _, rfl, ?_, ⟨_, rfl⟩, hW, hsame.mono (by decide) (by decide)⟩)
  show own_QCF2 Z ba kb bl h0 n0 _ s₁.heap _
  rw [e0]
  exact ⟨rfl, N0, rfl⟩
theorem own_efSI2 (m : MethodId) (o : Addr) (ca : Addr) : entryFrame m #[(.ref o), (.ref ca), (.int (0 : Int32)), (.int (2 : Int32)), .null] 6 = mkF m 0 #[.val (.ref o), .val (.ref ca), .val (.int (0 : Int32)), .val (.int (2 : Int32)), .val .null, .unset] [] := by first | (simp [entryFrame, mkF, argsToLocals, Value.category]; done) | rfl
def own_QSI2 (Z : State) (o : Addr) (ca : Addr) (kc : ClassId) (u0 : Int32) (u1 : Int32) (cs : Int32) (h0 : Heap) (n0 : Nat) (rv__ : Option Value) (h : Heap) (rL__ : List Loc) : Prop := rv__ = none ∧ Fr n0 rL__ ∧ Keep h0 h [o] ∧ Exa Z h o "java/lang/String" ∧ Fld Z h o "java/lang/String" "coder" "B" (.int (0 : Int32)) ∧ ∃ (b : Addr) (kb : ClassId), Fld Z h o "java/lang/String" "value" "[B" (.ref b) ∧ Arv Z h b kb .byte (2 : Int32) [(.int (own_b u0)), (.int (own_b u1))] (.int (0 : Int32))
abbrev own_RSI2 : Room := { frames := 2, cells := 1, slots := 2, locals := 35 }
set_option maxRecDepth 65536 in
set_option maxHeartbeats 40000000 in
theorem own_rmSI2 (l : Launch) (Z : State) (a0 : Array Value) (hw : ∀ d ∈ tables_1, d.before a0 Z = true) (ws : List Jvm.Cond) (o : Addr) (ca : Addr) (kc : ClassId) (u0 : Int32) (u1 : Int32) (cs : Int32) (h0 : Heap) (n0 : Nat) (Z0 : n0 ≤ h0.size) (g_o : n0 ≤ o) (E : Exa Z h0 o "java/lang/String") (Fv : Fld Z h0 o "java/lang/String" "value" "[B" .null) (Fc : Fld Z h0 o "java/lang/String" "coder" "B" (.int (0 : Int32))) (Vc : Arv Z h0 ca kc .char (2 : Int32) [(.int u0), (.int u1)] (.int (0 : Int32))) (hu0 : ¬ (255 : Int32) < u0) (hu1 : ¬ (255 : Int32) < u1) (S0 : Sta Z h0 "java/lang/String" "COMPACT_STRINGS" "Z" (.int cs)) (hcs : ¬ cs = (0 : Int32)) :
    MetFree l (⟨"java/lang/String", "<init>", "([CIILjava/lang/Void;)V"⟩ : MethodName) (head1 (Jvm.Cond.code (⟨"java/lang/String", "<init>", "([CIILjava/lang/Void;)V"⟩ : MethodName) jdk_42_method_149_code 6 none :: ws) own_RSI2) (fun aa__ U => aa__ = #[(.ref o), (.ref ca), (.int (0 : Int32)), (.int (2 : Int32)), .null] ∧ Z.Warmed39 U.vm ∧ U.heap = h0) (fun _ _ _ _ _ => True) (fun _ U oc_ U' => ∃ rv__ rL__, oc_ = .returned rv__ ∧ own_QSI2 Z o ca kc u0 u1 cs h0 n0 rv__ U'.heap rL__ ∧ FrameEnd U oc_ U' rL__ own_RSI2.cells own_RSI2.slots) := by
  refine MetFree.of_bodySF (plainFor_of_name own_pn_java_lang_String) hisR ?_
  intro p e s m args below meth c s₁ Bd hml0 hP hK
  obtain ⟨rfl, hZ, hh⟩ := hP
  have hx := Bd.exec
  have hby := Bd.bytes
  have hml : c.maxLocals = 6 := hml0
  have hown : s.vm.findClass "java/lang/String" = some m.cls := findClass_of_methodNamed Bd.named
  have hnm := (name_of_methodNamed Bd.named Bd.method).1
  have X0 : Stand p l e own_RSI2 s m #[(.ref o), (.ref ca), (.int (0 : Int32)), (.int (2 : Int32)), .null] below meth c s₁ [] 0 0 := Stand.of_body Bd
  have e0 : s₁.heap = h0 := by rw [← hh, Bd.state]; rfl
  have N0 := Fr.nil n0
  refine own_in (fun _ k => castTop (own_efSI2 m o ca) k) ?_
  intro RR hRR
  show own_Go p.tables e below RR (s₁.setTop (mkF m 0 #[.val (.ref o), .val (.ref ca), .val (.int (0 : Int32)), .val (.int (2 : Int32)), .val .null, .unset] []))
  refine own_st (fun _ k => XS.aloadN X0.here hx rfl (hb hby own_djdk_42_method_149_code_0) rfl rfl k) ?_
  show own_Go p.tables e below RR (s₁.setTop (mkF m 1 #[.val (.ref o), .val (.ref ca), .val (.int (0 : Int32)), .val (.int (2 : Int32)), .val .null, .unset] [(.ref o)]))
  obtain ⟨T1, X1, e1, st1⟩ := initO X0 hx hZ hown (hw _ (List.mem_of_getElem? (i := 18) rfl)) (hw _ (List.mem_of_getElem? (i := 19) rfl)) (hw _ (List.mem_of_getElem? (i := 20) rfl)) e0 (g := (mkF m 1 #[.val (.ref o), .val (.ref ca), .val (.int (0 : Int32)), .val (.int (2 : Int32)), .val .null, .unset] [(.ref o)])) rfl (by rw [hml]; rfl) rfl (hb hby own_djdk_42_method_149_code_1) (by decide) (W := 0) (by show 2 * 0 + _ ≤ _; exact Nat.le_of_eq rfl) (by decide)
  refine own_st st1 ?_
  show own_Go p.tables e below RR (T1.setTop (mkF m 4 #[.val (.ref o), .val (.ref ca), .val (.int (0 : Int32)), .val (.int (2 : Int32)), .val .null, .unset] []))
  refine own_st (fun _ k => XS.iloadN X1.here hx rfl (hb hby own_djdk_42_method_149_code_4) rfl k) ?_
  show own_Go p.tables e below RR (T1.setTop (mkF m 5 #[.val (.ref o), .val (.ref ca), .val (.int (0 : Int32)), .val (.int (2 : Int32)), .val .null, .unset] [(.int (2 : Int32))]))
  refine own_st (fun _ k => XS.ifYes X1.here hx rfl (pc0 := 5) (pc' := 27) rfl (hb hby own_djdk_42_method_149_code_5) rfl ((if0 _ _).trans (feq (by decide)).2) (by decide) (by decide) k) ?_
  show own_Go p.tables e below RR (T1.setTop (mkF m 27 #[.val (.ref o), .val (.ref ca), .val (.int (0 : Int32)), .val (.int (2 : Int32)), .val .null, .unset] []))
  obtain ⟨T2, X2, e2, st2⟩ := getS2 X1 hx hZ hown (host := "") (Or.inl (hw _ (List.mem_of_getElem? (i := 32) rfl))) Via.refl e1 S0 (g := (mkF m 27 #[.val (.ref o), .val (.ref ca), .val (.int (0 : Int32)), .val (.int (2 : Int32)), .val .null, .unset] [])) rfl (hb hby own_djdk_42_method_149_code_27)
  refine own_st st2 ?_
  show own_Go p.tables e below RR (T2.setTop (mkF m 30 #[.val (.ref o), .val (.ref ca), .val (.int (0 : Int32)), .val (.int (2 : Int32)), .val .null, .unset] [(.int cs)]))
  have hc30_3 : ¬ (cs = (0 : Int32)) := hcs
  refine own_st (fun _ k => XS.ifNo X2.here hx rfl (hb hby own_djdk_42_method_149_code_30) rfl ((if0 _ _).trans (feq hc30_3).1) (XS.aloadN X2.here hx rfl (hb hby own_djdk_42_method_149_code_33) rfl rfl (XS.iloadN X2.here hx rfl (hb hby own_djdk_42_method_149_code_34) rfl (XS.iloadN X2.here hx rfl (hb hby own_djdk_42_method_149_code_35) rfl k)))) ?_
  show own_Go p.tables e below RR (T2.setTop (mkF m 36 #[.val (.ref o), .val (.ref ca), .val (.int (0 : Int32)), .val (.int (2 : Int32)), .val .null, .unset] [(.int (2 : Int32)), (.int (0 : Int32)), (.ref ca)]))
  obtain ⟨_, _, ⟨T4, L4, k4, n4⟩, -, X4, ⟨Lc4, hQ4, l4, y4, z4⟩, st4⟩ := Jvm.LawKit.callS X2 hx (y := (⟨"java/lang/StringUTF16", "compress", "([CII)[B"⟩ : MethodName)) hown (mvT hZ (hw _ (List.mem_of_getElem? (i := 33) rfl))) (mvT hZ (hw _ (List.mem_of_getElem? (i := 34) rfl))) (mvT hZ (hw _ (List.mem_of_getElem? (i := 35) rfl))) (mvT hZ (hw _ (List.mem_of_getElem? (i := 36) rfl))) (by decide) (backOf (W := 0) (own_rmCO2 l Z a0 hw [] ca kc u0 u1 h0 n0 Z0 Vc hu0 hu1) hZ (hw _ (List.mem_of_getElem? (i := 36) rfl)) (hw _ (List.mem_of_getElem? (i := 35) rfl)) (by decide) (by decide)) (g := (mkF m 36 #[.val (.ref o), .val (.ref ca), .val (.int (0 : Int32)), .val (.int (2 : Int32)), .val .null, .unset] [(.int (2 : Int32)), (.int (0 : Int32)), (.ref ca)])) rfl (by rw [hml]; rfl) (argsL := [(.ref ca), (.int (0 : Int32)), (.int (2 : Int32))]) (rest := []) (lenOf own_pd___CII__B rfl) rfl (by show 2 * 0 + _ ≤ _; exact Nat.le_of_eq rfl) (hb hby own_djdk_42_method_149_code_36) (fun _ _ => ⟨rfl, e2, (by decide : 0 + 1 ≤ _), (by decide : 0 + 2 ≤ _)⟩)
  dsimp only [Pt.U, Pt.locs, Pt.cells, Pt.slots] at X4 l4 y4 z4 st4 hQ4
  subst l4 y4 z4
  obtain ⟨rx4, rfl, Nq4, Kq4, hz4, kb4, Vq4⟩ := hQ4
  have N4 := Fr.app N0 Nq4
  refine own_st st4 ?_
  have neob4 : o ≠ rx4 := Nat.ne_of_lt (Nat.lt_of_lt_of_le E.lt hz4)
  have z5 : n0 ≤ T4.heap.size := Nat.le_trans Z0 Kq4.1
  have kk6 : Keep h0 T4.heap [o] := (Keep.refl h0 [o]).trans Kq4 all0
  show own_Go p.tables e below RR (T4.setTop (mkF m 39 #[.val (.ref o), .val (.ref ca), .val (.int (0 : Int32)), .val (.int (2 : Int32)), .val .null, .unset] [(.ref rx4)]))
  refine own_st (fun _ k => XS.astore X4.here hx rfl (hb hby own_djdk_42_method_149_code_39) rfl rfl (l' := #[.val (.ref o), .val (.ref ca), .val (.int (0 : Int32)), .val (.int (2 : Int32)), .val .null, .val (.ref rx4)]) rfl (XS.aloadN X4.here hx rfl (hb hby own_djdk_42_method_149_code_41) rfl rfl (XS.aload X4.here hx rfl (hb hby own_djdk_42_method_149_code_42) rfl rfl (XS.iloadN X4.here hx rfl (hb hby own_djdk_42_method_149_code_44) rfl k)))) ?_
  show own_Go p.tables e below RR (T4.setTop (mkF m 45 #[.val (.ref o), .val (.ref ca), .val (.int (0 : Int32)), .val (.int (2 : Int32)), .val .null, .val (.ref rx4)] [(.int (2 : Int32)), (.ref rx4), (.ref o)]))
  obtain ⟨_, _, ⟨T7, L7, k7, n7⟩, -, X7, ⟨Lc7, hQ7, l7, y7, z7⟩, st7⟩ := Jvm.LawKit.callS X4 hx (y := (⟨"java/lang/StringUTF16", "coderFromArrayLen", "([BI)B"⟩ : MethodName)) hown (mvT hZ (hw _ (List.mem_of_getElem? (i := 40) rfl))) (mvT hZ (hw _ (List.mem_of_getElem? (i := 41) rfl))) (mvT hZ (hw _ (List.mem_of_getElem? (i := 35) rfl))) (mvT hZ (hw _ (List.mem_of_getElem? (i := 42) rfl))) (by decide) (backOf (W := 1) (own_rmCF2 l Z a0 hw [] rx4 kb4 [(.int (own_b u0)), (.int (own_b u1))] T4.heap n0 z5 Vq4) hZ (hw _ (List.mem_of_getElem? (i := 42) rfl)) (hw _ (List.mem_of_getElem? (i := 35) rfl)) (by decide) (by decide)) (g := (mkF m 45 #[.val (.ref o), .val (.ref ca), .val (.int (0 : Int32)), .val (.int (2 : Int32)), .val .null, .val (.ref rx4)] [(.int (2 : Int32)), (.ref rx4), (.ref o)])) rfl (by rw [hml]; rfl) (argsL := [(.ref rx4), (.int (2 : Int32))]) (rest := [(.ref o)]) (lenOf own_pd___BI_B rfl) rfl (by show 2 * 0 + _ ≤ _; exact Nat.le_of_eq rfl) (hb hby own_djdk_42_method_149_code_45) (fun _ _ => ⟨rfl, rfl, (by decide : 1 + 0 ≤ _), (by decide : 2 + 0 ≤ _)⟩)
  dsimp only [Pt.U, Pt.locs, Pt.cells, Pt.slots] at X7 l7 y7 z7 st7 hQ7
  subst l7 y7 z7
  obtain ⟨rfl, Nq7, eq7⟩ := hQ7
  have N7 := Fr.app N4 Nq7
  refine own_st st7 ?_
  show own_Go p.tables e below RR (T7.setTop (mkF m 48 #[.val (.ref o), .val (.ref ca), .val (.int (0 : Int32)), .val (.int (2 : Int32)), .val .null, .val (.ref rx4)] [(.int (0 : Int32)), (.ref o)]))
  have f8 := (Fc.keep Kq4 nin0)
  have f9 := (E.keep Kq4)
  obtain ⟨T10, h10, X10, e10, W10, st10⟩ := putFN X7 hx hZ hown (hw _ (List.mem_of_getElem? (i := 28) rfl)) Via.refl eq7 f8 f9 (Or.inr ⟨(hw _ (List.mem_of_getElem? (i := 24) rfl)), rfl, hnm⟩) (hw _ (List.mem_of_getElem? (i := 8) rfl)) (ty := .byte) (v' := (.int (0 : Int32))) (by decide) rfl rfl (g := (mkF m 48 #[.val (.ref o), .val (.ref ca), .val (.int (0 : Int32)), .val (.int (2 : Int32)), .val .null, .val (.ref rx4)] [(.int (0 : Int32)), (.ref o)])) rfl rfl (hb hby own_djdk_42_method_149_code_48)
  have Fw10 := f8.same W10
  have N10 := Fr.snoc X10 N7 g_o
  refine own_st st10 ?_
  have z11 : n0 ≤ h10.size := Nat.le_trans z5 (Keep.of_wr W10).1
  have kk12 : Keep h0 h10 [o] := kk6.wr W10 (Or.inl (List.mem_of_getElem? (i := 0) rfl))
  show own_Go p.tables e below RR (T10.setTop (mkF m 51 #[.val (.ref o), .val (.ref ca), .val (.int (0 : Int32)), .val (.int (2 : Int32)), .val .null, .val (.ref rx4)] []))
  refine own_st (fun _ k => XS.aloadN X10.here hx rfl (hb hby own_djdk_42_method_149_code_51) rfl rfl (XS.aload X10.here hx rfl (hb hby own_djdk_42_method_149_code_52) rfl rfl k)) ?_
  show own_Go p.tables e below RR (T10.setTop (mkF m 54 #[.val (.ref o), .val (.ref ca), .val (.int (0 : Int32)), .val (.int (2 : Int32)), .val .null, .val (.ref rx4)] [(.ref rx4), (.ref o)]))
  have f13 := ((Fv.keep Kq4 nin0).other W10 (Or.inr (slot_ne (Or.inr (hw _ (List.mem_of_getElem? (i := 23) rfl))) (Or.inr (hw _ (List.mem_of_getElem? (i := 24) rfl))) (by decide) (t := (.array .byte)) (t' := .byte) (by decide) (by decide))))
  have f14 := (f9.wr W10)
  obtain ⟨T15, h15, X15, e15, W15, st15⟩ := putF X10 hx hZ hown (host := "") (Or.inl (hw _ (List.mem_of_getElem? (i := 27) rfl))) Via.refl e10 f13 f14 (Or.inr ⟨(hw _ (List.mem_of_getElem? (i := 23) rfl)), rfl, hnm⟩) (hw _ (List.mem_of_getElem? (i := 8) rfl)) (ty := (.array .byte)) (by decide) rfl rfl (g := (mkF m 54 #[.val (.ref o), .val (.ref ca), .val (.int (0 : Int32)), .val (.int (2 : Int32)), .val .null, .val (.ref rx4)] [(.ref rx4), (.ref o)])) rfl rfl (hb hby own_djdk_42_method_149_code_54)
  have Fw15 := f13.same W15
  have N15 := Fr.snoc X15 N10 g_o
  refine own_st st15 ?_
  have z16 : n0 ≤ h15.size := Nat.le_trans z11 (Keep.of_wr W15).1
  have kk17 : Keep h0 h15 [o] := kk12.wr W15 (Or.inl (List.mem_of_getElem? (i := 0) rfl))
  show own_Go p.tables e below RR (T15.setTop (mkF m 57 #[.val (.ref o), .val (.ref ca), .val (.int (0 : Int32)), .val (.int (2 : Int32)), .val .null, .val (.ref rx4)] []))
  obtain ⟨fs, hrt_, hrun, hended, hW, hsame⟩ := X15.leave (v := none) (fun _ => rfl)
  refine own_fin (X15.returnOut hx Bd.returns (hb hby own_djdk_42_method_149_code_57) hrt_) (hRR _ ⟨_, hrun, hended, _, _, rfl, ?_, ⟨_, rfl⟩, hW, hsame.mono (by decide) (by decide)⟩)
  show own_QSI2 Z o ca kc u0 u1 cs h0 n0 _ T15.heap _
  rw [e15]
  have f18 := (f14.wr W15)
  have f19 := (Fw10.other W15 (Or.inr (slot_ne (Or.inr (hw _ (List.mem_of_getElem? (i := 24) rfl))) (Or.inr (hw _ (List.mem_of_getElem? (i := 23) rfl))) (by decide) (t := .byte) (t' := (.array .byte)) (by decide) (by decide))))
  have f20 := ((Vq4.other W10 (Ne.symm neob4)).other W15 (Ne.symm neob4))
  exact ⟨rfl, N15, kk17, f18, f19, _, _, Fw15, f20⟩
theorem own_efST2 (m : MethodId) (o : Addr) (ca : Addr) : entryFrame m #[(.ref o), (.ref ca)] 2 = mkF m 0 #[.val (.ref o), .val (.ref ca)] [] := by first | (simp [entryFrame, mkF, argsToLocals, Value.category]; done) | rfl
def own_QST2 (Z : State) (o : Addr) (ca : Addr) (kc : ClassId) (u0 : Int32) (u1 : Int32) (cs : Int32) (h0 : Heap) (n0 : Nat) (rv__ : Option Value) (h : Heap) (rL__ : List Loc) : Prop := rv__ = none ∧ Fr n0 rL__ ∧ Keep h0 h [o] ∧ Exa Z h o "java/lang/String" ∧ Fld Z h o "java/lang/String" "coder" "B" (.int (0 : Int32)) ∧ ∃ (b : Addr) (kb : ClassId), Fld Z h o "java/lang/String" "value" "[B" (.ref b) ∧ Arv Z h b kb .byte (2 : Int32) [(.int (own_b u0)), (.int (own_b u1))] (.int (0 : Int32))
abbrev own_RST2 : Room := { frames := 3, cells := 1, slots := 2, locals := 52 }
set_option maxRecDepth 65536 in
set_option maxHeartbeats 40000000 in
theorem own_rmST2 (l : Launch) (Z : State) (a0 : Array Value) (hw : ∀ d ∈ tables_1, d.before a0 Z = true) (ws : List Jvm.Cond) (o : Addr) (ca : Addr) (kc : ClassId) (u0 : Int32) (u1 : Int32) (cs : Int32) (h0 : Heap) (n0 : Nat) (Z0 : n0 ≤ h0.size) (g_o : n0 ≤ o) (E : Exa Z h0 o "java/lang/String") (Fv : Fld Z h0 o "java/lang/String" "value" "[B" .null) (Fc : Fld Z h0 o "java/lang/String" "coder" "B" (.int (0 : Int32))) (Vc : Arv Z h0 ca kc .char (2 : Int32) [(.int u0), (.int u1)] (.int (0 : Int32))) (hu0 : ¬ (255 : Int32) < u0) (hu1 : ¬ (255 : Int32) < u1) (S0 : Sta Z h0 "java/lang/String" "COMPACT_STRINGS" "Z" (.int cs)) (hcs : ¬ cs = (0 : Int32)) :
    MetFree l (⟨"java/lang/String", "<init>", "([C)V"⟩ : MethodName) (head1 (Jvm.Cond.code (⟨"java/lang/String", "<init>", "([C)V"⟩ : MethodName) jdk_42_method_3_code 2 none :: ws) own_RST2) (fun aa__ U => aa__ = #[(.ref o), (.ref ca)] ∧ Z.Warmed39 U.vm ∧ U.heap = h0) (fun _ _ _ _ _ => True) (fun _ U oc_ U' => ∃ rv__ rL__, oc_ = .returned rv__ ∧ own_QST2 Z o ca kc u0 u1 cs h0 n0 rv__ U'.heap rL__ ∧ FrameEnd U oc_ U' rL__ own_RST2.cells own_RST2.slots) := by
  refine MetFree.of_bodySF (plainFor_of_name own_pn_java_lang_String) hisR ?_
  intro p e s m args below meth c s₁ Bd hml0 hP hK
  obtain ⟨rfl, hZ, hh⟩ := hP
  have hx := Bd.exec
  have hby := Bd.bytes
  have hml : c.maxLocals = 2 := hml0
  have hown : s.vm.findClass "java/lang/String" = some m.cls := findClass_of_methodNamed Bd.named
  have hnm := (name_of_methodNamed Bd.named Bd.method).1
  have X0 : Stand p l e own_RST2 s m #[(.ref o), (.ref ca)] below meth c s₁ [] 0 0 := Stand.of_body Bd
  have e0 : s₁.heap = h0 := by rw [← hh, Bd.state]; rfl
  have N0 := Fr.nil n0
  refine own_in (fun _ k => castTop (own_efST2 m o ca) k) ?_
  intro RR hRR
  show own_Go p.tables e below RR (s₁.setTop (mkF m 0 #[.val (.ref o), .val (.ref ca)] []))
  refine own_st (fun _ k => XS.aloadN X0.here hx rfl (hb hby own_djdk_42_method_3_code_0) rfl rfl (XS.aloadN X0.here hx rfl (hb hby own_djdk_42_method_3_code_1) rfl rfl (XS.iconst X0.here hx rfl (hb hby own_djdk_42_method_3_code_2) (XS.aloadN X0.here hx rfl (hb hby own_djdk_42_method_3_code_3) rfl rfl k)))) ?_
  show own_Go p.tables e below RR (s₁.setTop (mkF m 4 #[.val (.ref o), .val (.ref ca)] [(.ref ca), (.int (0 : Int32)), (.ref ca), (.ref o)]))
  obtain ⟨c1, A1, -, s1, m1, -, -⟩ := id Vc
  refine own_st (fun _ k => own_len X0 hx hZ e0 A1 s1 m1 (g := (mkF m 4 #[.val (.ref o), .val (.ref ca)] [(.ref ca), (.int (0 : Int32)), (.ref ca), (.ref o)])) rfl rfl (hb hby own_djdk_42_method_3_code_4) (XS.aconstNull X0.here hx rfl (hb hby own_djdk_42_method_3_code_5) k)) ?_
  show own_Go p.tables e below RR (s₁.setTop (mkF m 6 #[.val (.ref o), .val (.ref ca)] [.null, (.int (2 : Int32)), (.int (0 : Int32)), (.ref ca), (.ref o)]))
  obtain ⟨_, _, ⟨T2, L2, k2, n2⟩, -, X2, ⟨Lc2, hQ2, l2, y2, z2⟩, st2⟩ := X0.specialBack hx (y := (⟨"java/lang/String", "<init>", "([CIILjava/lang/Void;)V"⟩ : MethodName)) rfl hown (mvT hZ (hw _ (List.mem_of_getElem? (i := 14) rfl))) (mvT hZ (hw _ (List.mem_of_getElem? (i := 15) rfl))) (mvT hZ (hw _ (List.mem_of_getElem? (i := 17) rfl))) (by decide) (backOf (W := 0) (own_rmSI2 l Z a0 hw [] o ca kc u0 u1 cs h0 n0 Z0 g_o E Fv Fc Vc hu0 hu1 S0 hcs) hZ (hw _ (List.mem_of_getElem? (i := 17) rfl)) (hw _ (List.mem_of_getElem? (i := 9) rfl)) (by decide) (by decide)) (g := (mkF m 6 #[.val (.ref o), .val (.ref ca)] [.null, (.int (2 : Int32)), (.int (0 : Int32)), (.ref ca), (.ref o)])) rfl (by rw [hml]; rfl) (Steps.refl _) (a := o) (argsL := [(.ref ca), (.int (0 : Int32)), (.int (2 : Int32)), .null]) (rest := []) (lenOf own_pd___CIILjava_lang_Void__V rfl) rfl (by show 2 * 0 + _ ≤ _; exact Nat.le_of_eq rfl) (hb hby own_djdk_42_method_3_code_6) (fun _ _ => ⟨rfl, e0, (by decide : 0 + 1 ≤ _), (by decide : 0 + 2 ≤ _)⟩)
  dsimp only [Pt.U, Pt.locs, Pt.cells, Pt.slots] at X2 l2 y2 z2 st2 hQ2
  subst l2 y2 z2
  obtain ⟨rfl, Nq2, Kq2, Eq2, Fq2, bq2, kbq2, Fvq2, Vq2⟩ := hQ2
  have N2 := Fr.app N0 Nq2
  refine own_st (fun _ k => st2.trans k) ?_
  have z3 : n0 ≤ T2.heap.size := Nat.le_trans Z0 Kq2.1
  have kk4 : Keep h0 T2.heap [o] := (Keep.refl h0 [o]).trans Kq2 (allS (Or.inl (List.mem_of_getElem? (i := 0) rfl)) all0)
  show own_Go p.tables e below RR (T2.setTop (mkF m 9 #[.val (.ref o), .val (.ref ca)] []))
  obtain ⟨fs, hrt_, hrun, hended, hW, hsame⟩ := X2.leave (v := none) (fun _ => rfl)
  refine own_fin (X2.returnOut hx Bd.returns (hb hby own_djdk_42_method_3_code_9) hrt_) (hRR _ ⟨_, hrun, hended, _, _, rfl, ?_, ⟨_, rfl⟩, hW, hsame.mono (by decide) (by decide)⟩)
  show own_QST2 Z o ca kc u0 u1 cs h0 n0 _ T2.heap _
  exact ⟨rfl, N2, kk4, Eq2, Fq2, _, _, Fvq2, Vq2⟩
theorem own_efCI3 (m : MethodId) (ca : Addr) (ba : Addr) : entryFrame m #[(.ref ca), (.int (0 : Int32)), (.ref ba), (.int (0 : Int32)), (.int (3 : Int32))] 7 = mkF m 0 #[.val (.ref ca), .val (.int (0 : Int32)), .val (.ref ba), .val (.int (0 : Int32)), .val (.int (3 : Int32)), .unset, .unset] [] := by first | (simp [entryFrame, mkF, argsToLocals, Value.category]; done) | rfl
def own_QCI3 (Z : State) (ca : Addr) (kc : ClassId) (ba : Addr) (kb : ClassId) (u0 : Int32) (u1 : Int32) (u2 : Int32) (h0 : Heap) (n0 : Nat) (rv__ : Option Value) (h : Heap) (rL__ : List Loc) : Prop := rv__ = some (.int (3 : Int32)) ∧ Fr n0 rL__ ∧ Keep h0 h [ba] ∧ Arv Z h ba kb .byte (3 : Int32) [(.int (own_b u0)), (.int (own_b u1)), (.int (own_b u2))] (.int (0 : Int32))
abbrev own_RCI3 : Room := { frames := 0, cells := 0, slots := 0, locals := 0 }
set_option maxRecDepth 65536 in
set_option maxHeartbeats 40000000 in
theorem own_rmCI3 (l : Launch) (Z : State) (a0 : Array Value) (hw : ∀ d ∈ tables_1, d.before a0 Z = true) (ws : List Jvm.Cond) (ca : Addr) (kc : ClassId) (ba : Addr) (kb : ClassId) (u0 : Int32) (u1 : Int32) (u2 : Int32) (h0 : Heap) (n0 : Nat) (Z0 : n0 ≤ h0.size) (g_b : n0 ≤ ba) (Vc : Arv Z h0 ca kc .char (3 : Int32) [(.int u0), (.int u1), (.int u2)] (.int (0 : Int32))) (Vb : Arv Z h0 ba kb .byte (3 : Int32) [(.int (0 : Int32)), (.int (0 : Int32)), (.int (0 : Int32))] (.int (0 : Int32))) (nec : ca ≠ ba) (hu0 : ¬ (255 : Int32) < u0) (hu1 : ¬ (255 : Int32) < u1) (hu2 : ¬ (255 : Int32) < u2) :
    MetFree l (⟨"java/lang/StringUTF16", "compress", "([CI[BII)I"⟩ : MethodName) (head1 (Jvm.Cond.code (⟨"java/lang/StringUTF16", "compress", "([CI[BII)I"⟩ : MethodName) jdk_52_method_21_code 7 (some .int) :: ws) own_RCI3) (fun aa__ U => aa__ = #[(.ref ca), (.int (0 : Int32)), (.ref ba), (.int (0 : Int32)), (.int (3 : Int32))] ∧ Z.Warmed39 U.vm ∧ U.heap = h0) (fun _ _ _ _ _ => True) (fun _ U oc_ U' => ∃ rv__ rL__, oc_ = .returned rv__ ∧ own_QCI3 Z ca kc ba kb u0 u1 u2 h0 n0 rv__ U'.heap rL__ ∧ FrameEnd U oc_ U' rL__ own_RCI3.cells own_RCI3.slots) := by
  refine MetFree.of_bodySF (plainFor_of_name own_pn_java_lang_StringUTF16) hisR ?_
  intro p e s m args below meth c s₁ Bd hml0 hP hK
  obtain ⟨rfl, hZ, hh⟩ := hP
  have hx := Bd.exec
  have hby := Bd.bytes
  have hml : c.maxLocals = 7 := hml0
  have hown : s.vm.findClass "java/lang/StringUTF16" = some m.cls := findClass_of_methodNamed Bd.named
  have hnm := (name_of_methodNamed Bd.named Bd.method).1
  have X0 : Stand p l e own_RCI3 s m #[(.ref ca), (.int (0 : Int32)), (.ref ba), (.int (0 : Int32)), (.int (3 : Int32))] below meth c s₁ [] 0 0 := Stand.of_body Bd
  have e0 : s₁.heap = h0 := by rw [← hh, Bd.state]; rfl
  have N0 := Fr.nil n0
  refine own_in (fun _ k => castTop (own_efCI3 m ca ba) k) ?_
  intro RR hRR
  show own_Go p.tables e below RR (s₁.setTop (mkF m 0 #[.val (.ref ca), .val (.int (0 : Int32)), .val (.ref ba), .val (.int (0 : Int32)), .val (.int (3 : Int32)), .unset, .unset] []))
  refine own_st (fun _ k => XS.iconst X0.here hx rfl (hb hby own_djdk_52_method_21_code_0) (XS.istore X0.here hx rfl (hb hby own_djdk_52_method_21_code_1) rfl (l' := #[.val (.ref ca), .val (.int (0 : Int32)), .val (.ref ba), .val (.int (0 : Int32)), .val (.int (3 : Int32)), .val (.int (0 : Int32)), .unset]) rfl (XS.iload X0.here hx rfl (hb hby own_djdk_52_method_21_code_3) rfl (XS.iload X0.here hx rfl (hb hby own_djdk_52_method_21_code_5) rfl k)))) ?_
  show own_Go p.tables e below RR (s₁.setTop (mkF m 7 #[.val (.ref ca), .val (.int (0 : Int32)), .val (.ref ba), .val (.int (0 : Int32)), .val (.int (3 : Int32)), .val (.int (0 : Int32)), .unset] [(.int (3 : Int32)), (.int (0 : Int32))]))
  refine own_st (fun _ k => XS.icmpNo X0.here hx rfl (hb hby own_djdk_52_method_21_code_7) rfl (tlt (by decide)).2.1 (XS.aloadN X0.here hx rfl (hb hby own_djdk_52_method_21_code_10) rfl rfl (XS.iloadN X0.here hx rfl (hb hby own_djdk_52_method_21_code_11) rfl k))) ?_
  show own_Go p.tables e below RR (s₁.setTop (mkF m 12 #[.val (.ref ca), .val (.int (0 : Int32)), .val (.ref ba), .val (.int (0 : Int32)), .val (.int (3 : Int32)), .val (.int (0 : Int32)), .unset] [(.int (0 : Int32)), (.ref ca)]))
  obtain ⟨c1, A1, q1, s1, m1, H1, G1⟩ := id Vc
  have b1 := inb_of (j := (0 : Int32)) s1 ⟨by decide, by decide⟩
  refine own_st (fun _ k => X0.caload hx (j := (0 : Int32)) (v := (.int u0)) (by rw [e0]; exact A1.1) (State.isArrayOf_alike hZ.alike A1.2.1) A1.2.2 b1 (Has.at H1 b1 rfl) (g := (mkF m 12 #[.val (.ref ca), .val (.int (0 : Int32)), .val (.ref ba), .val (.int (0 : Int32)), .val (.int (3 : Int32)), .val (.int (0 : Int32)), .unset] [(.int (0 : Int32)), (.ref ca)])) rfl rfl (hb hby own_djdk_52_method_21_code_12) _ (XS.istore X0.here hx rfl (hb hby own_djdk_52_method_21_code_13) rfl (l' := #[.val (.ref ca), .val (.int (0 : Int32)), .val (.ref ba), .val (.int (0 : Int32)), .val (.int (3 : Int32)), .val (.int (0 : Int32)), .val (.int u0)]) rfl (XS.iload X0.here hx rfl (hb hby own_djdk_52_method_21_code_15) rfl (XS.sipush X0.here hx rfl (hb hby own_djdk_52_method_21_code_17) k)))) ?_
  show own_Go p.tables e below RR (s₁.setTop (mkF m 20 #[.val (.ref ca), .val (.int (0 : Int32)), .val (.ref ba), .val (.int (0 : Int32)), .val (.int (3 : Int32)), .val (.int (0 : Int32)), .val (.int u0)] [(.int (255 : Int32)), (.int u0)]))
  have hc20_2 : ¬ ((255 : Int32) < u0) := hu0
  refine own_st (fun _ k => XS.icmpYes X0.here hx rfl (pc0 := 20) (pc' := 26) rfl (hb hby own_djdk_52_method_21_code_20) rfl (flt hc20_2).2.2.2 (by decide) (by decide) (XS.aloadN X0.here hx rfl (hb hby own_djdk_52_method_21_code_26) rfl rfl (XS.iloadN X0.here hx rfl (hb hby own_djdk_52_method_21_code_27) rfl (XS.iload X0.here hx rfl (hb hby own_djdk_52_method_21_code_28) rfl (XS.i2b X0.here hx rfl (hb hby own_djdk_52_method_21_code_30) rfl k))))) ?_
  show own_Go p.tables e below RR (s₁.setTop (mkF m 31 #[.val (.ref ca), .val (.int (0 : Int32)), .val (.ref ba), .val (.int (0 : Int32)), .val (.int (3 : Int32)), .val (.int (0 : Int32)), .val (.int u0)] [(.int (u0.toInt8.toInt32)), (.int (0 : Int32)), (.ref ba)]))
  obtain ⟨c3, A3, q3, s3, m3, H3, G3⟩ := id Vb
  obtain ⟨T4, h4, X4, e4, W4, st4⟩ := stB X0 hx hZ e0 A3 (j := (0 : Int32)) (inb_of s3 ⟨by decide, by decide⟩) (g := (mkF m 31 #[.val (.ref ca), .val (.int (0 : Int32)), .val (.ref ba), .val (.int (0 : Int32)), .val (.int (3 : Int32)), .val (.int (0 : Int32)), .val (.int u0)] [(.int (u0.toInt8.toInt32)), (.int (0 : Int32)), (.ref ba)])) rfl rfl (hb hby own_djdk_52_method_21_code_31)
  have V4 := Arv.set A3 q3 s3 m3 H3 G3 (fits_nar_byte _) W4 0 rfl (Nat.le_of_ble_eq_true rfl)
  have V4 : Arv Z h4 ba kb .byte (3 : Int32) [(.int (u0.toInt8.toInt32).toInt8.toInt32), (.int (0 : Int32)), (.int (0 : Int32))] (.int (0 : Int32)) := V4
  have N4 := Fr.snoc X4 N0 g_b
  refine own_st st4 ?_
  have z5 : n0 ≤ h4.size := Nat.le_trans Z0 (Keep.of_wr W4).1
  have kk6 : Keep h0 h4 [ba] := (Keep.refl h0 [ba]).wr W4 (Or.inl (List.mem_of_getElem? (i := 0) rfl))
  show own_Go p.tables e below RR (T4.setTop (mkF m 32 #[.val (.ref ca), .val (.int (0 : Int32)), .val (.ref ba), .val (.int (0 : Int32)), .val (.int (3 : Int32)), .val (.int (0 : Int32)), .val (.int u0)] []))
  refine own_st (fun _ k => XS.iinc X4.here hx rfl (hb hby own_djdk_52_method_21_code_32) rfl (l' := #[.val (.ref ca), .val (.int (1 : Int32)), .val (.ref ba), .val (.int (0 : Int32)), .val (.int (3 : Int32)), .val (.int (0 : Int32)), .val (.int u0)]) rfl (XS.iinc X4.here hx rfl (hb hby own_djdk_52_method_21_code_35) rfl (l' := #[.val (.ref ca), .val (.int (1 : Int32)), .val (.ref ba), .val (.int (1 : Int32)), .val (.int (3 : Int32)), .val (.int (0 : Int32)), .val (.int u0)]) rfl (XS.iinc X4.here hx rfl (hb hby own_djdk_52_method_21_code_38) rfl (l' := #[.val (.ref ca), .val (.int (1 : Int32)), .val (.ref ba), .val (.int (1 : Int32)), .val (.int (3 : Int32)), .val (.int (1 : Int32)), .val (.int u0)]) rfl (XS.goto X4.here hx rfl (pc0 := 41) (pc' := 3) rfl (hb hby own_djdk_52_method_21_code_41) (by decide) (by decide) (XS.iload X4.here hx rfl (hb hby own_djdk_52_method_21_code_3) rfl (XS.iload X4.here hx rfl (hb hby own_djdk_52_method_21_code_5) rfl k)))))) ?_
  show own_Go p.tables e below RR (T4.setTop (mkF m 7 #[.val (.ref ca), .val (.int (1 : Int32)), .val (.ref ba), .val (.int (1 : Int32)), .val (.int (3 : Int32)), .val (.int (1 : Int32)), .val (.int u0)] [(.int (3 : Int32)), (.int (1 : Int32))]))
  refine own_st (fun _ k => XS.icmpNo X4.here hx rfl (hb hby own_djdk_52_method_21_code_7) rfl (tlt (by decide)).2.1 (XS.aloadN X4.here hx rfl (hb hby own_djdk_52_method_21_code_10) rfl rfl (XS.iloadN X4.here hx rfl (hb hby own_djdk_52_method_21_code_11) rfl k))) ?_
  show own_Go p.tables e below RR (T4.setTop (mkF m 12 #[.val (.ref ca), .val (.int (1 : Int32)), .val (.ref ba), .val (.int (1 : Int32)), .val (.int (3 : Int32)), .val (.int (1 : Int32)), .val (.int u0)] [(.int (1 : Int32)), (.ref ca)]))
  have f7 := (Vc.other W4 nec)
  obtain ⟨c8, A8, q8, s8, m8, H8, G8⟩ := id f7
  have b8 := inb_of (j := (1 : Int32)) s8 ⟨by decide, by decide⟩
  refine own_st (fun _ k => X4.caload hx (j := (1 : Int32)) (v := (.int u1)) (by rw [e4]; exact A8.1) (State.isArrayOf_alike hZ.alike A8.2.1) A8.2.2 b8 (Has.at H8 b8 rfl) (g := (mkF m 12 #[.val (.ref ca), .val (.int (1 : Int32)), .val (.ref ba), .val (.int (1 : Int32)), .val (.int (3 : Int32)), .val (.int (1 : Int32)), .val (.int u0)] [(.int (1 : Int32)), (.ref ca)])) rfl rfl (hb hby own_djdk_52_method_21_code_12) _ (XS.istore X4.here hx rfl (hb hby own_djdk_52_method_21_code_13) rfl (l' := #[.val (.ref ca), .val (.int (1 : Int32)), .val (.ref ba), .val (.int (1 : Int32)), .val (.int (3 : Int32)), .val (.int (1 : Int32)), .val (.int u1)]) rfl (XS.iload X4.here hx rfl (hb hby own_djdk_52_method_21_code_15) rfl (XS.sipush X4.here hx rfl (hb hby own_djdk_52_method_21_code_17) k)))) ?_
  show own_Go p.tables e below RR (T4.setTop (mkF m 20 #[.val (.ref ca), .val (.int (1 : Int32)), .val (.ref ba), .val (.int (1 : Int32)), .val (.int (3 : Int32)), .val (.int (1 : Int32)), .val (.int u1)] [(.int (255 : Int32)), (.int u1)]))
  have hc20_9 : ¬ ((255 : Int32) < u1) := hu1
  refine own_st (fun _ k => XS.icmpYes X4.here hx rfl (pc0 := 20) (pc' := 26) rfl (hb hby own_djdk_52_method_21_code_20) rfl (flt hc20_9).2.2.2 (by decide) (by decide) (XS.aloadN X4.here hx rfl (hb hby own_djdk_52_method_21_code_26) rfl rfl (XS.iloadN X4.here hx rfl (hb hby own_djdk_52_method_21_code_27) rfl (XS.iload X4.here hx rfl (hb hby own_djdk_52_method_21_code_28) rfl (XS.i2b X4.here hx rfl (hb hby own_djdk_52_method_21_code_30) rfl k))))) ?_
  show own_Go p.tables e below RR (T4.setTop (mkF m 31 #[.val (.ref ca), .val (.int (1 : Int32)), .val (.ref ba), .val (.int (1 : Int32)), .val (.int (3 : Int32)), .val (.int (1 : Int32)), .val (.int u1)] [(.int (u1.toInt8.toInt32)), (.int (1 : Int32)), (.ref ba)]))
  obtain ⟨c10, A10, q10, s10, m10, H10, G10⟩ := id V4
  obtain ⟨T11, h11, X11, e11, W11, st11⟩ := stB X4 hx hZ e4 A10 (j := (1 : Int32)) (inb_of s10 ⟨by decide, by decide⟩) (g := (mkF m 31 #[.val (.ref ca), .val (.int (1 : Int32)), .val (.ref ba), .val (.int (1 : Int32)), .val (.int (3 : Int32)), .val (.int (1 : Int32)), .val (.int u1)] [(.int (u1.toInt8.toInt32)), (.int (1 : Int32)), (.ref ba)])) rfl rfl (hb hby own_djdk_52_method_21_code_31)
  have V11 := Arv.set A10 q10 s10 m10 H10 G10 (fits_nar_byte _) W11 1 rfl (Nat.le_of_ble_eq_true rfl)
  have V11 : Arv Z h11 ba kb .byte (3 : Int32) [(.int (u0.toInt8.toInt32).toInt8.toInt32), (.int (u1.toInt8.toInt32).toInt8.toInt32), (.int (0 : Int32))] (.int (0 : Int32)) := V11
  have N11 := Fr.snoc X11 N4 g_b
  refine own_st st11 ?_
  have z12 : n0 ≤ h11.size := Nat.le_trans z5 (Keep.of_wr W11).1
  have kk13 : Keep h0 h11 [ba] := kk6.wr W11 (Or.inl (List.mem_of_getElem? (i := 0) rfl))
  show own_Go p.tables e below RR (T11.setTop (mkF m 32 #[.val (.ref ca), .val (.int (1 : Int32)), .val (.ref ba), .val (.int (1 : Int32)), .val (.int (3 : Int32)), .val (.int (1 : Int32)), .val (.int u1)] []))
  refine own_st (fun _ k => XS.iinc X11.here hx rfl (hb hby own_djdk_52_method_21_code_32) rfl (l' := #[.val (.ref ca), .val (.int (2 : Int32)), .val (.ref ba), .val (.int (1 : Int32)), .val (.int (3 : Int32)), .val (.int (1 : Int32)), .val (.int u1)]) rfl (XS.iinc X11.here hx rfl (hb hby own_djdk_52_method_21_code_35) rfl (l' := #[.val (.ref ca), .val (.int (2 : Int32)), .val (.ref ba), .val (.int (2 : Int32)), .val (.int (3 : Int32)), .val (.int (1 : Int32)), .val (.int u1)]) rfl (XS.iinc X11.here hx rfl (hb hby own_djdk_52_method_21_code_38) rfl (l' := #[.val (.ref ca), .val (.int (2 : Int32)), .val (.ref ba), .val (.int (2 : Int32)), .val (.int (3 : Int32)), .val (.int (2 : Int32)), .val (.int u1)]) rfl (XS.goto X11.here hx rfl (pc0 := 41) (pc' := 3) rfl (hb hby own_djdk_52_method_21_code_41) (by decide) (by decide) (XS.iload X11.here hx rfl (hb hby own_djdk_52_method_21_code_3) rfl (XS.iload X11.here hx rfl (hb hby own_djdk_52_method_21_code_5) rfl k)))))) ?_
  show own_Go p.tables e below RR (T11.setTop (mkF m 7 #[.val (.ref ca), .val (.int (2 : Int32)), .val (.ref ba), .val (.int (2 : Int32)), .val (.int (3 : Int32)), .val (.int (2 : Int32)), .val (.int u1)] [(.int (3 : Int32)), (.int (2 : Int32))]))
  refine own_st (fun _ k => XS.icmpNo X11.here hx rfl (hb hby own_djdk_52_method_21_code_7) rfl (tlt (by decide)).2.1 (XS.aloadN X11.here hx rfl (hb hby own_djdk_52_method_21_code_10) rfl rfl (XS.iloadN X11.here hx rfl (hb hby own_djdk_52_method_21_code_11) rfl k))) ?_
  show own_Go p.tables e below RR (T11.setTop (mkF m 12 #[.val (.ref ca), .val (.int (2 : Int32)), .val (.ref ba), .val (.int (2 : Int32)), .val (.int (3 : Int32)), .val (.int (2 : Int32)), .val (.int u1)] [(.int (2 : Int32)), (.ref ca)]))
  have f14 := (f7.other W11 nec)
  obtain ⟨c15, A15, q15, s15, m15, H15, G15⟩ := id f14
  have b15 := inb_of (j := (2 : Int32)) s15 ⟨by decide, by decide⟩
  refine own_st (fun _ k => X11.caload hx (j := (2 : Int32)) (v := (.int u2)) (by rw [e11]; exact A15.1) (State.isArrayOf_alike hZ.alike A15.2.1) A15.2.2 b15 (Has.at H15 b15 rfl) (g := (mkF m 12 #[.val (.ref ca), .val (.int (2 : Int32)), .val (.ref ba), .val (.int (2 : Int32)), .val (.int (3 : Int32)), .val (.int (2 : Int32)), .val (.int u1)] [(.int (2 : Int32)), (.ref ca)])) rfl rfl (hb hby own_djdk_52_method_21_code_12) _ (XS.istore X11.here hx rfl (hb hby own_djdk_52_method_21_code_13) rfl (l' := #[.val (.ref ca), .val (.int (2 : Int32)), .val (.ref ba), .val (.int (2 : Int32)), .val (.int (3 : Int32)), .val (.int (2 : Int32)), .val (.int u2)]) rfl (XS.iload X11.here hx rfl (hb hby own_djdk_52_method_21_code_15) rfl (XS.sipush X11.here hx rfl (hb hby own_djdk_52_method_21_code_17) k)))) ?_
  show own_Go p.tables e below RR (T11.setTop (mkF m 20 #[.val (.ref ca), .val (.int (2 : Int32)), .val (.ref ba), .val (.int (2 : Int32)), .val (.int (3 : Int32)), .val (.int (2 : Int32)), .val (.int u2)] [(.int (255 : Int32)), (.int u2)]))
  have hc20_16 : ¬ ((255 : Int32) < u2) := hu2
  refine own_st (fun _ k => XS.icmpYes X11.here hx rfl (pc0 := 20) (pc' := 26) rfl (hb hby own_djdk_52_method_21_code_20) rfl (flt hc20_16).2.2.2 (by decide) (by decide) (XS.aloadN X11.here hx rfl (hb hby own_djdk_52_method_21_code_26) rfl rfl (XS.iloadN X11.here hx rfl (hb hby own_djdk_52_method_21_code_27) rfl (XS.iload X11.here hx rfl (hb hby own_djdk_52_method_21_code_28) rfl (XS.i2b X11.here hx rfl (hb hby own_djdk_52_method_21_code_30) rfl k))))) ?_
  show own_Go p.tables e below RR (T11.setTop (mkF m 31 #[.val (.ref ca), .val (.int (2 : Int32)), .val (.ref ba), .val (.int (2 : Int32)), .val (.int (3 : Int32)), .val (.int (2 : Int32)), .val (.int u2)] [(.int (u2.toInt8.toInt32)), (.int (2 : Int32)), (.ref ba)]))
  obtain ⟨c17, A17, q17, s17, m17, H17, G17⟩ := id V11
  obtain ⟨T18, h18, X18, e18, W18, st18⟩ := stB X11 hx hZ e11 A17 (j := (2 : Int32)) (inb_of s17 ⟨by decide, by decide⟩) (g := (mkF m 31 #[.val (.ref ca), .val (.int (2 : Int32)), .val (.ref ba), .val (.int (2 : Int32)), .val (.int (3 : Int32)), .val (.int (2 : Int32)), .val (.int u2)] [(.int (u2.toInt8.toInt32)), (.int (2 : Int32)), (.ref ba)])) rfl rfl (hb hby own_djdk_52_method_21_code_31)
  have V18 := Arv.set A17 q17 s17 m17 H17 G17 (fits_nar_byte _) W18 2 rfl (Nat.le_of_ble_eq_true rfl)
  have V18 : Arv Z h18 ba kb .byte (3 : Int32) [(.int (u0.toInt8.toInt32).toInt8.toInt32), (.int (u1.toInt8.toInt32).toInt8.toInt32), (.int (u2.toInt8.toInt32).toInt8.toInt32)] (.int (0 : Int32)) := V18
  have N18 := Fr.snoc X18 N11 g_b
  refine own_st st18 ?_
  have z19 : n0 ≤ h18.size := Nat.le_trans z12 (Keep.of_wr W18).1
  have kk20 : Keep h0 h18 [ba] := kk13.wr W18 (Or.inl (List.mem_of_getElem? (i := 0) rfl))
  show own_Go p.tables e below RR (T18.setTop (mkF m 32 #[.val (.ref ca), .val (.int (2 : Int32)), .val (.ref ba), .val (.int (2 : Int32)), .val (.int (3 : Int32)), .val (.int (2 : Int32)), .val (.int u2)] []))
  refine own_st (fun _ k => XS.iinc X18.here hx rfl (hb hby own_djdk_52_method_21_code_32) rfl (l' := #[.val (.ref ca), .val (.int (3 : Int32)), .val (.ref ba), .val (.int (2 : Int32)), .val (.int (3 : Int32)), .val (.int (2 : Int32)), .val (.int u2)]) rfl (XS.iinc X18.here hx rfl (hb hby own_djdk_52_method_21_code_35) rfl (l' := #[.val (.ref ca), .val (.int (3 : Int32)), .val (.ref ba), .val (.int (3 : Int32)), .val (.int (3 : Int32)), .val (.int (2 : Int32)), .val (.int u2)]) rfl (XS.iinc X18.here hx rfl (hb hby own_djdk_52_method_21_code_38) rfl (l' := #[.val (.ref ca), .val (.int (3 : Int32)), .val (.ref ba), .val (.int (3 : Int32)), .val (.int (3 : Int32)), .val (.int (3 : Int32)), .val (.int u2)]) rfl (XS.goto X18.here hx rfl (pc0 := 41) (pc' := 3) rfl (hb hby own_djdk_52_method_21_code_41) (by decide) (by decide) (XS.iload X18.here hx rfl (hb hby own_djdk_52_method_21_code_3) rfl (XS.iload X18.here hx rfl (hb hby own_djdk_52_method_21_code_5) rfl k)))))) ?_
  show own_Go p.tables e below RR (T18.setTop (mkF m 7 #[.val (.ref ca), .val (.int (3 : Int32)), .val (.ref ba), .val (.int (3 : Int32)), .val (.int (3 : Int32)), .val (.int (3 : Int32)), .val (.int u2)] [(.int (3 : Int32)), (.int (3 : Int32))]))
  refine own_st (fun _ k => XS.icmpYes X18.here hx rfl (pc0 := 7) (pc' := 44) rfl (hb hby own_djdk_52_method_21_code_7) rfl (flt (by decide)).2.1 (by decide) (by decide) (XS.iload X18.here hx rfl (hb hby own_djdk_52_method_21_code_44) rfl k)) ?_
  show own_Go p.tables e below RR (T18.setTop (mkF m 46 #[.val (.ref ca), .val (.int (3 : Int32)), .val (.ref ba), .val (.int (3 : Int32)), .val (.int (3 : Int32)), .val (.int (3 : Int32)), .val (.int u2)] [(.int (3 : Int32))]))
  obtain ⟨fs, hrt_, hrun, hended, hW, hsame⟩ := X18.leave (v := some (.int (3 : Int32))) (fun h => by rw [Bd.returns] at h; cases h)
  refine own_fin (retI X18 hx Bd.returns (hb hby own_djdk_52_method_21_code_46) hrt_) (hRR _ ⟨_, hrun, hended, _, _, rfl, ?_, ⟨_, rfl⟩, hW, hsame.mono (by decide) (by decide)⟩)
  show own_QCI3 Z ca kc ba kb u0 u1 u2 h0 n0 _ T18.heap _
  rw [e18]
  exact ⟨rfl, N18, kk20, V18⟩
theorem own_efCO3 (m : MethodId) (ca : Addr) : entryFrame m #[(.ref ca), (.int (0 : Int32)), (.int (3 : Int32))] 6 = mkF m 0 #[.val (.ref ca), .val (.int (0 : Int32)), .val (.int (3 : Int32)), .unset, .unset, .unset] [] := by first | (simp [entryFrame, mkF, argsToLocals, Value.category]; done) | rfl
def own_QCO3 (Z : State) (ca : Addr) (kc : ClassId) (u0 : Int32) (u1 : Int32) (u2 : Int32) (h0 : Heap) (n0 : Nat) (rv__ : Option Value) (h : Heap) (rL__ : List Loc) : Prop := ∃ r__ : Addr, rv__ = some (.ref r__) ∧ Fr n0 rL__ ∧ Keep h0 h [] ∧ h0.size ≤ r__ ∧ ∃ kb : ClassId, Arv Z h r__ kb .byte (3 : Int32) [(.int (own_b u0)), (.int (own_b u1)), (.int (own_b u2))] (.int (0 : Int32))
abbrev own_RCO3 : Room := { frames := 1, cells := 1, slots := 3, locals := 18 }
set_option maxRecDepth 65536 in
set_option maxHeartbeats 40000000 in
theorem own_rmCO3 (l : Launch) (Z : State) (a0 : Array Value) (hw : ∀ d ∈ tables_1, d.before a0 Z = true) (ws : List Jvm.Cond) (ca : Addr) (kc : ClassId) (u0 : Int32) (u1 : Int32) (u2 : Int32) (h0 : Heap) (n0 : Nat) (Z0 : n0 ≤ h0.size) (Vc : Arv Z h0 ca kc .char (3 : Int32) [(.int u0), (.int u1), (.int u2)] (.int (0 : Int32))) (hu0 : ¬ (255 : Int32) < u0) (hu1 : ¬ (255 : Int32) < u1) (hu2 : ¬ (255 : Int32) < u2) :
    MetFree l (⟨"java/lang/StringUTF16", "compress", "([CII)[B"⟩ : MethodName) (head1 (Jvm.Cond.code (⟨"java/lang/StringUTF16", "compress", "([CII)[B"⟩ : MethodName) jdk_52_method_16_code 6 (some (.array .byte)) :: ws) own_RCO3) (fun aa__ U => aa__ = #[(.ref ca), (.int (0 : Int32)), (.int (3 : Int32))] ∧ Z.Warmed39 U.vm ∧ U.heap = h0) (fun _ _ _ _ _ => True) (fun _ U oc_ U' => ∃ rv__ rL__, oc_ = .returned rv__ ∧ own_QCO3 Z ca kc u0 u1 u2 h0 n0 rv__ U'.heap rL__ ∧ FrameEnd U oc_ U' rL__ own_RCO3.cells own_RCO3.slots) := by
  refine MetFree.of_bodySF (plainFor_of_name own_pn_java_lang_StringUTF16) hisR ?_
  intro p e s m args below meth c s₁ Bd hml0 hP hK
  obtain ⟨rfl, hZ, hh⟩ := hP
  have hx := Bd.exec
  have hby := Bd.bytes
  have hml : c.maxLocals = 6 := hml0
  have hown : s.vm.findClass "java/lang/StringUTF16" = some m.cls := findClass_of_methodNamed Bd.named
  have hnm := (name_of_methodNamed Bd.named Bd.method).1
  have X0 : Stand p l e own_RCO3 s m #[(.ref ca), (.int (0 : Int32)), (.int (3 : Int32))] below meth c s₁ [] 0 0 := Stand.of_body Bd
  have e0 : s₁.heap = h0 := by rw [← hh, Bd.state]; rfl
  have N0 := Fr.nil n0
  refine own_in (fun _ k => castTop (own_efCO3 m ca) k) ?_
  intro RR hRR
  show own_Go p.tables e below RR (s₁.setTop (mkF m 0 #[.val (.ref ca), .val (.int (0 : Int32)), .val (.int (3 : Int32)), .unset, .unset, .unset] []))
  refine own_st (fun _ k => XS.iloadN X0.here hx rfl (hb hby own_djdk_52_method_16_code_0) rfl k) ?_
  show own_Go p.tables e below RR (s₁.setTop (mkF m 1 #[.val (.ref ca), .val (.int (0 : Int32)), .val (.int (3 : Int32)), .unset, .unset, .unset] [(.int (3 : Int32))]))
  obtain ⟨T1, h1, k1, X1, e1, E1, A1, st1⟩ := newP X0 hx hZ (hw _ (List.mem_of_getElem? (i := 22) rfl)) e0 (g := (mkF m 1 #[.val (.ref ca), .val (.int (0 : Int32)), .val (.int (3 : Int32)), .unset, .unset, .unset] [(.int (3 : Int32))])) rfl (hb hby own_djdk_52_method_16_code_1) rfl (by decide) (cap := 3) (by decide) (by decide) (by decide) (by decide)
  obtain ⟨b1, gb1⟩ : ∃ z, z = h0.size := ⟨_, rfl⟩
  rw [← gb1] at A1 st1
  have ge1 : n0 ≤ b1 := Nat.le_trans Z0 (Nat.le_of_eq gb1.symm)
  have sz1 : h0.size ≤ b1 := Nat.le_trans (Keep.refl h0 []).1 (Nat.le_of_eq gb1.symm)
  refine own_st st1 ?_
  have z2 : n0 ≤ h1.size := Nat.le_trans Z0 E1.1
  have kk3 : Keep h0 h1 [] := (Keep.refl h0 []).ext E1
  have V1 : Arv Z h1 b1 k1 .byte (3 : Int32) [(.int (0 : Int32)), (.int (0 : Int32)), (.int (0 : Int32))] (.int (0 : Int32)) := (Arv.new A1 (by decide)).pad (pad_rep [] (.int (0 : Int32)) 3)
  show own_Go p.tables e below RR (T1.setTop (mkF m 3 #[.val (.ref ca), .val (.int (0 : Int32)), .val (.int (3 : Int32)), .unset, .unset, .unset] [(.ref b1)]))
  refine own_st (fun _ k => XS.astoreN X1.here hx rfl (hb hby own_djdk_52_method_16_code_3) rfl rfl (l' := #[.val (.ref ca), .val (.int (0 : Int32)), .val (.int (3 : Int32)), .val (.ref b1), .unset, .unset]) rfl (XS.aloadN X1.here hx rfl (hb hby own_djdk_52_method_16_code_4) rfl rfl (XS.iloadN X1.here hx rfl (hb hby own_djdk_52_method_16_code_5) rfl (XS.aloadN X1.here hx rfl (hb hby own_djdk_52_method_16_code_6) rfl rfl (XS.iconst X1.here hx rfl (hb hby own_djdk_52_method_16_code_7) (XS.iloadN X1.here hx rfl (hb hby own_djdk_52_method_16_code_8) rfl k)))))) ?_
  show own_Go p.tables e below RR (T1.setTop (mkF m 9 #[.val (.ref ca), .val (.int (0 : Int32)), .val (.int (3 : Int32)), .val (.ref b1), .unset, .unset] [(.int (3 : Int32)), (.int (0 : Int32)), (.ref b1), (.int (0 : Int32)), (.ref ca)]))
  have f4 := (Vc.ext E1)
  have ne5 : ca ≠ b1 := (Nat.ne_of_lt (Nat.lt_of_lt_of_le Vc.lt (Nat.le_of_eq gb1.symm)))
  obtain ⟨_, _, ⟨T6, L6, k6, n6⟩, -, X6, ⟨Lc6, hQ6, l6, y6, z6⟩, st6⟩ := Jvm.LawKit.callS X1 hx (y := (⟨"java/lang/StringUTF16", "compress", "([CI[BII)I"⟩ : MethodName)) hown (mvT hZ (hw _ (List.mem_of_getElem? (i := 37) rfl))) (mvT hZ (hw _ (List.mem_of_getElem? (i := 38) rfl))) (mvT hZ (hw _ (List.mem_of_getElem? (i := 35) rfl))) (mvT hZ (hw _ (List.mem_of_getElem? (i := 39) rfl))) (by decide) (backOf (W := 0) (own_rmCI3 l Z a0 hw [] ca kc b1 k1 u0 u1 u2 h1 n0 z2 ge1 f4 V1 ne5 hu0 hu1 hu2) hZ (hw _ (List.mem_of_getElem? (i := 39) rfl)) (hw _ (List.mem_of_getElem? (i := 35) rfl)) (by decide) (by decide)) (g := (mkF m 9 #[.val (.ref ca), .val (.int (0 : Int32)), .val (.int (3 : Int32)), .val (.ref b1), .unset, .unset] [(.int (3 : Int32)), (.int (0 : Int32)), (.ref b1), (.int (0 : Int32)), (.ref ca)])) rfl (by rw [hml]; rfl) (argsL := [(.ref ca), (.int (0 : Int32)), (.ref b1), (.int (0 : Int32)), (.int (3 : Int32))]) (rest := []) (lenOf own_pd___CI_BII_I rfl) rfl (by show 2 * 0 + _ ≤ _; exact Nat.le_of_eq rfl) (hb hby own_djdk_52_method_16_code_9) (fun _ _ => ⟨rfl, e1, (by decide : 1 + 0 ≤ _), (by decide : 3 + 0 ≤ _)⟩)
  dsimp only [Pt.U, Pt.locs, Pt.cells, Pt.slots] at X6 l6 y6 z6 st6 hQ6
  subst l6 y6 z6
  obtain ⟨rfl, Nq6, Kq6, Vq6⟩ := hQ6
  have N6 := Fr.app N0 Nq6
  refine own_st st6 ?_
  have z7 : n0 ≤ T6.heap.size := Nat.le_trans z2 Kq6.1
  have kk8 : Keep h0 T6.heap [] := kk3.trans Kq6 (allS (Or.inr sz1) all0)
  show own_Go p.tables e below RR (T6.setTop (mkF m 12 #[.val (.ref ca), .val (.int (0 : Int32)), .val (.int (3 : Int32)), .val (.ref b1), .unset, .unset] [(.int (3 : Int32))]))
  refine own_st (fun _ k => XS.istore X6.here hx rfl (hb hby own_djdk_52_method_16_code_12) rfl (l' := #[.val (.ref ca), .val (.int (0 : Int32)), .val (.int (3 : Int32)), .val (.ref b1), .val (.int (3 : Int32)), .unset]) rfl (XS.iload X6.here hx rfl (hb hby own_djdk_52_method_16_code_14) rfl (XS.iloadN X6.here hx rfl (hb hby own_djdk_52_method_16_code_16) rfl k))) ?_
  show own_Go p.tables e below RR (T6.setTop (mkF m 17 #[.val (.ref ca), .val (.int (0 : Int32)), .val (.int (3 : Int32)), .val (.ref b1), .val (.int (3 : Int32)), .unset] [(.int (3 : Int32)), (.int (3 : Int32))]))
  refine own_st (fun _ k => XS.icmpYes X6.here hx rfl (pc0 := 17) (pc' := 57) rfl (hb hby own_djdk_52_method_16_code_17) rfl (teq (by decide)).1 (by decide) (by decide) (XS.aloadN X6.here hx rfl (hb hby own_djdk_52_method_16_code_57) rfl rfl k)) ?_
  show own_Go p.tables e below RR (T6.setTop (mkF m 58 #[.val (.ref ca), .val (.int (0 : Int32)), .val (.int (3 : Int32)), .val (.ref b1), .val (.int (3 : Int32)), .unset] [(.ref b1)]))
  obtain ⟨fs, hrt_, hrun, hended, hW, hsame⟩ := X6.leave (v := some (.ref b1)) (fun h => by rw [Bd.returns] at h; cases h)
  refine own_fin (retOut X6 hx Bd.returns rfl (Or.inr (Or.inr (Or.inr (Or.inr ⟨rfl, rfl, rfl⟩)))) (hb hby own_djdk_52_method_16_code_58) hrt_) (hRR _ ⟨_, hrun, hended, _, _, rfl, ?_, ⟨_, rfl⟩, hW, hsame.mono (by decide) (by decide)⟩)
  show own_QCO3 Z ca kc u0 u1 u2 h0 n0 _ T6.heap _
  exact ⟨_, rfl, N6, kk8, sz1, _, Vq6⟩
theorem own_efCF3 (m : MethodId) (ba : Addr) : entryFrame m #[(.ref ba), (.int (3 : Int32))] 2 = mkF m 0 #[.val (.ref ba), .val (.int (3 : Int32))] [] := by first | (simp [entryFrame, mkF, argsToLocals, Value.category]; done) | rfl
def own_QCF3 (Z : State) (ba : Addr) (kb : ClassId) (bl : List Value) (h0 : Heap) (n0 : Nat) (rv__ : Option Value) (h : Heap) (rL__ : List Loc) : Prop := rv__ = some (.int (0 : Int32)) ∧ Fr n0 rL__ ∧ h = h0
abbrev own_RCF3 : Room := { frames := 0, cells := 0, slots := 0, locals := 0 }
set_option maxRecDepth 65536 in
set_option maxHeartbeats 40000000 in
theorem own_rmCF3 (l : Launch) (Z : State) (a0 : Array Value) (hw : ∀ d ∈ tables_1, d.before a0 Z = true) (ws : List Jvm.Cond) (ba : Addr) (kb : ClassId) (bl : List Value) (h0 : Heap) (n0 : Nat) (Z0 : n0 ≤ h0.size) (Vb : Arv Z h0 ba kb .byte (3 : Int32) bl (.int (0 : Int32))) :
    MetFree l (⟨"java/lang/StringUTF16", "coderFromArrayLen", "([BI)B"⟩ : MethodName) (head1 (Jvm.Cond.code (⟨"java/lang/StringUTF16", "coderFromArrayLen", "([BI)B"⟩ : MethodName) jdk_52_method_15_code 2 (some .byte) :: ws) own_RCF3) (fun aa__ U => aa__ = #[(.ref ba), (.int (3 : Int32))] ∧ Z.Warmed39 U.vm ∧ U.heap = h0) (fun _ _ _ _ _ => True) (fun _ U oc_ U' => ∃ rv__ rL__, oc_ = .returned rv__ ∧ own_QCF3 Z ba kb bl h0 n0 rv__ U'.heap rL__ ∧ FrameEnd U oc_ U' rL__ own_RCF3.cells own_RCF3.slots) := by
  refine MetFree.of_bodySF (plainFor_of_name own_pn_java_lang_StringUTF16) hisR ?_
  intro p e s m args below meth c s₁ Bd hml0 hP hK
  obtain ⟨rfl, hZ, hh⟩ := hP
  have hx := Bd.exec
  have hby := Bd.bytes
  have hml : c.maxLocals = 2 := hml0
  have hown : s.vm.findClass "java/lang/StringUTF16" = some m.cls := findClass_of_methodNamed Bd.named
  have hnm := (name_of_methodNamed Bd.named Bd.method).1
  have X0 : Stand p l e own_RCF3 s m #[(.ref ba), (.int (3 : Int32))] below meth c s₁ [] 0 0 := Stand.of_body Bd
  have e0 : s₁.heap = h0 := by rw [← hh, Bd.state]; rfl
  have N0 := Fr.nil n0
  refine own_in (fun _ k => castTop (own_efCF3 m ba) k) ?_
  intro RR hRR
  show own_Go p.tables e below RR (s₁.setTop (mkF m 0 #[.val (.ref ba), .val (.int (3 : Int32))] []))
  refine own_st (fun _ k => XS.iloadN X0.here hx rfl (hb hby own_djdk_52_method_15_code_0) rfl (XS.aloadN X0.here hx rfl (hb hby own_djdk_52_method_15_code_1) rfl rfl k)) ?_
  show own_Go p.tables e below RR (s₁.setTop (mkF m 2 #[.val (.ref ba), .val (.int (3 : Int32))] [(.ref ba), (.int (3 : Int32))]))
  obtain ⟨c1, A1, -, s1, m1, -, -⟩ := id Vb
  refine own_st (fun _ k => own_len X0 hx hZ e0 A1 s1 m1 (g := (mkF m 2 #[.val (.ref ba), .val (.int (3 : Int32))] [(.ref ba), (.int (3 : Int32))])) rfl rfl (hb hby own_djdk_52_method_15_code_2) (XS.isub X0.here hx rfl (hb hby own_djdk_52_method_15_code_3) rfl (XS.bipush X0.here hx rfl (hb hby own_djdk_52_method_15_code_4) (XS.iushr X0.here hx rfl (hb hby own_djdk_52_method_15_code_6) rfl k)))) ?_
  show own_Go p.tables e below RR (s₁.setTop (mkF m 7 #[.val (.ref ba), .val (.int (3 : Int32))] [(.int (((0 : Int32).toUInt32 >>> ((31 : Int32) &&& 31).toUInt32).toInt32))]))
  rw [show (((0 : Int32).toUInt32 >>> ((31 : Int32) &&& 31).toUInt32).toInt32) = (0 : Int32) from by decide]
  show own_Go p.tables e below RR (s₁.setTop (mkF m 7 #[.val (.ref ba), .val (.int (3 : Int32))] [(.int (0 : Int32))]))
  refine own_st (fun _ k => XS.i2b X0.here hx rfl (hb hby own_djdk_52_method_15_code_7) rfl k) ?_
  show own_Go p.tables e below RR (s₁.setTop (mkF m 8 #[.val (.ref ba), .val (.int (3 : Int32))] [(.int ((0 : Int32).toInt8.toInt32))]))
  obtain ⟨fs, hrt_, hrun, hended, hW, hsame⟩ := X0.leave (v := some (.int (nar .byte ((0 : Int32).toInt8.toInt32)))) (fun h => by rw [Bd.returns] at h; cases h)
  refine own_fin (retN X0 hx (t := .byte) Bd.returns (by simp) (hb hby own_djdk_52_method_15_code_8) hrt_) (hRR _ ⟨_, hrun, hended, _, _, rfl, ?_, ⟨_, rfl⟩, hW, hsame.mono (by decide) (by decide)⟩)
  show own_QCF3 Z ba kb bl h0 n0 _ s₁.heap _
  rw [e0]
  exact ⟨rfl, N0, rfl⟩
theorem own_efSI3 (m : MethodId) (o : Addr) (ca : Addr) : entryFrame m #[(.ref o), (.ref ca), (.int (0 : Int32)), (.int (3 : Int32)), .null] 6 = mkF m 0 #[.val (.ref o), .val (.ref ca), .val (.int (0 : Int32)), .val (.int (3 : Int32)), .val .null, .unset] [] := by first | (simp [entryFrame, mkF, argsToLocals, Value.category]; done) | rfl
def own_QSI3 (Z : State) (o : Addr) (ca : Addr) (kc : ClassId) (u0 : Int32) (u1 : Int32) (u2 : Int32) (cs : Int32) (h0 : Heap) (n0 : Nat) (rv__ : Option Value) (h : Heap) (rL__ : List Loc) : Prop := rv__ = none ∧ Fr n0 rL__ ∧ Keep h0 h [o] ∧ Exa Z h o "java/lang/String" ∧ Fld Z h o "java/lang/String" "coder" "B" (.int (0 : Int32)) ∧ ∃ (b : Addr) (kb : ClassId), Fld Z h o "java/lang/String" "value" "[B" (.ref b) ∧ Arv Z h b kb .byte (3 : Int32) [(.int (own_b u0)), (.int (own_b u1)), (.int (own_b u2))] (.int (0 : Int32))
abbrev own_RSI3 : Room := { frames := 2, cells := 1, slots := 3, locals := 35 }
set_option maxRecDepth 65536 in
set_option maxHeartbeats 40000000 in
theorem own_rmSI3 (l : Launch) (Z : State) (a0 : Array Value) (hw : ∀ d ∈ tables_1, d.before a0 Z = true) (ws : List Jvm.Cond) (o : Addr) (ca : Addr) (kc : ClassId) (u0 : Int32) (u1 : Int32) (u2 : Int32) (cs : Int32) (h0 : Heap) (n0 : Nat) (Z0 : n0 ≤ h0.size) (g_o : n0 ≤ o) (E : Exa Z h0 o "java/lang/String") (Fv : Fld Z h0 o "java/lang/String" "value" "[B" .null) (Fc : Fld Z h0 o "java/lang/String" "coder" "B" (.int (0 : Int32))) (Vc : Arv Z h0 ca kc .char (3 : Int32) [(.int u0), (.int u1), (.int u2)] (.int (0 : Int32))) (hu0 : ¬ (255 : Int32) < u0) (hu1 : ¬ (255 : Int32) < u1) (hu2 : ¬ (255 : Int32) < u2) (S0 : Sta Z h0 "java/lang/String" "COMPACT_STRINGS" "Z" (.int cs)) (hcs : ¬ cs = (0 : Int32)) :
    MetFree l (⟨"java/lang/String", "<init>", "([CIILjava/lang/Void;)V"⟩ : MethodName) (head1 (Jvm.Cond.code (⟨"java/lang/String", "<init>", "([CIILjava/lang/Void;)V"⟩ : MethodName) jdk_42_method_149_code 6 none :: ws) own_RSI3) (fun aa__ U => aa__ = #[(.ref o), (.ref ca), (.int (0 : Int32)), (.int (3 : Int32)), .null] ∧ Z.Warmed39 U.vm ∧ U.heap = h0) (fun _ _ _ _ _ => True) (fun _ U oc_ U' => ∃ rv__ rL__, oc_ = .returned rv__ ∧ own_QSI3 Z o ca kc u0 u1 u2 cs h0 n0 rv__ U'.heap rL__ ∧ FrameEnd U oc_ U' rL__ own_RSI3.cells own_RSI3.slots) := by
  refine MetFree.of_bodySF (plainFor_of_name own_pn_java_lang_String) hisR ?_
  intro p e s m args below meth c s₁ Bd hml0 hP hK
  obtain ⟨rfl, hZ, hh⟩ := hP
  have hx := Bd.exec
  have hby := Bd.bytes
  have hml : c.maxLocals = 6 := hml0
  have hown : s.vm.findClass "java/lang/String" = some m.cls := findClass_of_methodNamed Bd.named
  have hnm := (name_of_methodNamed Bd.named Bd.method).1
  have X0 : Stand p l e own_RSI3 s m #[(.ref o), (.ref ca), (.int (0 : Int32)), (.int (3 : Int32)), .null] below meth c s₁ [] 0 0 := Stand.of_body Bd
  have e0 : s₁.heap = h0 := by rw [← hh, Bd.state]; rfl
  have N0 := Fr.nil n0
  refine own_in (fun _ k => castTop (own_efSI3 m o ca) k) ?_
  intro RR hRR
  show own_Go p.tables e below RR (s₁.setTop (mkF m 0 #[.val (.ref o), .val (.ref ca), .val (.int (0 : Int32)), .val (.int (3 : Int32)), .val .null, .unset] []))
  refine own_st (fun _ k => XS.aloadN X0.here hx rfl (hb hby own_djdk_42_method_149_code_0) rfl rfl k) ?_
  show own_Go p.tables e below RR (s₁.setTop (mkF m 1 #[.val (.ref o), .val (.ref ca), .val (.int (0 : Int32)), .val (.int (3 : Int32)), .val .null, .unset] [(.ref o)]))
  obtain ⟨T1, X1, e1, st1⟩ := initO X0 hx hZ hown (hw _ (List.mem_of_getElem? (i := 18) rfl)) (hw _ (List.mem_of_getElem? (i := 19) rfl)) (hw _ (List.mem_of_getElem? (i := 20) rfl)) e0 (g := (mkF m 1 #[.val (.ref o), .val (.ref ca), .val (.int (0 : Int32)), .val (.int (3 : Int32)), .val .null, .unset] [(.ref o)])) rfl (by rw [hml]; rfl) rfl (hb hby own_djdk_42_method_149_code_1) (by decide) (W := 0) (by show 2 * 0 + _ ≤ _; exact Nat.le_of_eq rfl) (by decide)
  refine own_st st1 ?_
  show own_Go p.tables e below RR (T1.setTop (mkF m 4 #[.val (.ref o), .val (.ref ca), .val (.int (0 : Int32)), .val (.int (3 : Int32)), .val .null, .unset] []))
  refine own_st (fun _ k => XS.iloadN X1.here hx rfl (hb hby own_djdk_42_method_149_code_4) rfl k) ?_
  show own_Go p.tables e below RR (T1.setTop (mkF m 5 #[.val (.ref o), .val (.ref ca), .val (.int (0 : Int32)), .val (.int (3 : Int32)), .val .null, .unset] [(.int (3 : Int32))]))
  refine own_st (fun _ k => XS.ifYes X1.here hx rfl (pc0 := 5) (pc' := 27) rfl (hb hby own_djdk_42_method_149_code_5) rfl ((if0 _ _).trans (feq (by decide)).2) (by decide) (by decide) k) ?_
  show own_Go p.tables e below RR (T1.setTop (mkF m 27 #[.val (.ref o), .val (.ref ca), .val (.int (0 : Int32)), .val (.int (3 : Int32)), .val .null, .unset] []))
  obtain ⟨T2, X2, e2, st2⟩ := getS2 X1 hx hZ hown (host := "") (Or.inl (hw _ (List.mem_of_getElem? (i := 32) rfl))) Via.refl e1 S0 (g := (mkF m 27 #[.val (.ref o), .val (.ref ca), .val (.int (0 : Int32)), .val (.int (3 : Int32)), .val .null, .unset] [])) rfl (hb hby own_djdk_42_method_149_code_27)
  refine own_st st2 ?_
  show own_Go p.tables e below RR (T2.setTop (mkF m 30 #[.val (.ref o), .val (.ref ca), .val (.int (0 : Int32)), .val (.int (3 : Int32)), .val .null, .unset] [(.int cs)]))
  have hc30_3 : ¬ (cs = (0 : Int32)) := hcs
  refine own_st (fun _ k => XS.ifNo X2.here hx rfl (hb hby own_djdk_42_method_149_code_30) rfl ((if0 _ _).trans (feq hc30_3).1) (XS.aloadN X2.here hx rfl (hb hby own_djdk_42_method_149_code_33) rfl rfl (XS.iloadN X2.here hx rfl (hb hby own_djdk_42_method_149_code_34) rfl (XS.iloadN X2.here hx rfl (hb hby own_djdk_42_method_149_code_35) rfl k)))) ?_
  show own_Go p.tables e below RR (T2.setTop (mkF m 36 #[.val (.ref o), .val (.ref ca), .val (.int (0 : Int32)), .val (.int (3 : Int32)), .val .null, .unset] [(.int (3 : Int32)), (.int (0 : Int32)), (.ref ca)]))
  obtain ⟨_, _, ⟨T4, L4, k4, n4⟩, -, X4, ⟨Lc4, hQ4, l4, y4, z4⟩, st4⟩ := Jvm.LawKit.callS X2 hx (y := (⟨"java/lang/StringUTF16", "compress", "([CII)[B"⟩ : MethodName)) hown (mvT hZ (hw _ (List.mem_of_getElem? (i := 33) rfl))) (mvT hZ (hw _ (List.mem_of_getElem? (i := 34) rfl))) (mvT hZ (hw _ (List.mem_of_getElem? (i := 35) rfl))) (mvT hZ (hw _ (List.mem_of_getElem? (i := 36) rfl))) (by decide) (backOf (W := 0) (own_rmCO3 l Z a0 hw [] ca kc u0 u1 u2 h0 n0 Z0 Vc hu0 hu1 hu2) hZ (hw _ (List.mem_of_getElem? (i := 36) rfl)) (hw _ (List.mem_of_getElem? (i := 35) rfl)) (by decide) (by decide)) (g := (mkF m 36 #[.val (.ref o), .val (.ref ca), .val (.int (0 : Int32)), .val (.int (3 : Int32)), .val .null, .unset] [(.int (3 : Int32)), (.int (0 : Int32)), (.ref ca)])) rfl (by rw [hml]; rfl) (argsL := [(.ref ca), (.int (0 : Int32)), (.int (3 : Int32))]) (rest := []) (lenOf own_pd___CII__B rfl) rfl (by show 2 * 0 + _ ≤ _; exact Nat.le_of_eq rfl) (hb hby own_djdk_42_method_149_code_36) (fun _ _ => ⟨rfl, e2, (by decide : 0 + 1 ≤ _), (by decide : 0 + 3 ≤ _)⟩)
  dsimp only [Pt.U, Pt.locs, Pt.cells, Pt.slots] at X4 l4 y4 z4 st4 hQ4
  subst l4 y4 z4
  obtain ⟨rx4, rfl, Nq4, Kq4, hz4, kb4, Vq4⟩ := hQ4
  have N4 := Fr.app N0 Nq4
  refine own_st st4 ?_
  have neob4 : o ≠ rx4 := Nat.ne_of_lt (Nat.lt_of_lt_of_le E.lt hz4)
  have z5 : n0 ≤ T4.heap.size := Nat.le_trans Z0 Kq4.1
  have kk6 : Keep h0 T4.heap [o] := (Keep.refl h0 [o]).trans Kq4 all0
  show own_Go p.tables e below RR (T4.setTop (mkF m 39 #[.val (.ref o), .val (.ref ca), .val (.int (0 : Int32)), .val (.int (3 : Int32)), .val .null, .unset] [(.ref rx4)]))
  refine own_st (fun _ k => XS.astore X4.here hx rfl (hb hby own_djdk_42_method_149_code_39) rfl rfl (l' := #[.val (.ref o), .val (.ref ca), .val (.int (0 : Int32)), .val (.int (3 : Int32)), .val .null, .val (.ref rx4)]) rfl (XS.aloadN X4.here hx rfl (hb hby own_djdk_42_method_149_code_41) rfl rfl (XS.aload X4.here hx rfl (hb hby own_djdk_42_method_149_code_42) rfl rfl (XS.iloadN X4.here hx rfl (hb hby own_djdk_42_method_149_code_44) rfl k)))) ?_
  show own_Go p.tables e below RR (T4.setTop (mkF m 45 #[.val (.ref o), .val (.ref ca), .val (.int (0 : Int32)), .val (.int (3 : Int32)), .val .null, .val (.ref rx4)] [(.int (3 : Int32)), (.ref rx4), (.ref o)]))
  obtain ⟨_, _, ⟨T7, L7, k7, n7⟩, -, X7, ⟨Lc7, hQ7, l7, y7, z7⟩, st7⟩ := Jvm.LawKit.callS X4 hx (y := (⟨"java/lang/StringUTF16", "coderFromArrayLen", "([BI)B"⟩ : MethodName)) hown (mvT hZ (hw _ (List.mem_of_getElem? (i := 40) rfl))) (mvT hZ (hw _ (List.mem_of_getElem? (i := 41) rfl))) (mvT hZ (hw _ (List.mem_of_getElem? (i := 35) rfl))) (mvT hZ (hw _ (List.mem_of_getElem? (i := 42) rfl))) (by decide) (backOf (W := 1) (own_rmCF3 l Z a0 hw [] rx4 kb4 [(.int (own_b u0)), (.int (own_b u1)), (.int (own_b u2))] T4.heap n0 z5 Vq4) hZ (hw _ (List.mem_of_getElem? (i := 42) rfl)) (hw _ (List.mem_of_getElem? (i := 35) rfl)) (by decide) (by decide)) (g := (mkF m 45 #[.val (.ref o), .val (.ref ca), .val (.int (0 : Int32)), .val (.int (3 : Int32)), .val .null, .val (.ref rx4)] [(.int (3 : Int32)), (.ref rx4), (.ref o)])) rfl (by rw [hml]; rfl) (argsL := [(.ref rx4), (.int (3 : Int32))]) (rest := [(.ref o)]) (lenOf own_pd___BI_B rfl) rfl (by show 2 * 0 + _ ≤ _; exact Nat.le_of_eq rfl) (hb hby own_djdk_42_method_149_code_45) (fun _ _ => ⟨rfl, rfl, (by decide : 1 + 0 ≤ _), (by decide : 3 + 0 ≤ _)⟩)
  dsimp only [Pt.U, Pt.locs, Pt.cells, Pt.slots] at X7 l7 y7 z7 st7 hQ7
  subst l7 y7 z7
  obtain ⟨rfl, Nq7, eq7⟩ := hQ7
  have N7 := Fr.app N4 Nq7
  refine own_st st7 ?_
  show own_Go p.tables e below RR (T7.setTop (mkF m 48 #[.val (.ref o), .val (.ref ca), .val (.int (0 : Int32)), .val (.int (3 : Int32)), .val .null, .val (.ref rx4)] [(.int (0 : Int32)), (.ref o)]))
  have f8 := (Fc.keep Kq4 nin0)
  have f9 := (E.keep Kq4)
  obtain ⟨T10, h10, X10, e10, W10, st10⟩ := putFN X7 hx hZ hown (hw _ (List.mem_of_getElem? (i := 28) rfl)) Via.refl eq7 f8 f9 (Or.inr ⟨(hw _ (List.mem_of_getElem? (i := 24) rfl)), rfl, hnm⟩) (hw _ (List.mem_of_getElem? (i := 8) rfl)) (ty := .byte) (v' := (.int (0 : Int32))) (by decide) rfl rfl (g := (mkF m 48 #[.val (.ref o), .val (.ref ca), .val (.int (0 : Int32)), .val (.int (3 : Int32)), .val .null, .val (.ref rx4)] [(.int (0 : Int32)), (.ref o)])) rfl rfl (hb hby own_djdk_42_method_149_code_48)
  have Fw10 := f8.same W10
  have N10 := Fr.snoc X10 N7 g_o
  refine own_st st10 ?_
  have z11 : n0 ≤ h10.size := Nat.le_trans z5 (Keep.of_wr W10).1
  have kk12 : Keep h0 h10 [o] := kk6.wr W10 (Or.inl (List.mem_of_getElem? (i := 0) rfl))
  show own_Go p.tables e below RR (T10.setTop (mkF m 51 #[.val (.ref o), .val (.ref ca), .val (.int (0 : Int32)), .val (.int (3 : Int32)), .val .null, .val (.ref rx4)] []))
  refine own_st (fun _ k => XS.aloadN X10.here hx rfl (hb hby own_djdk_42_method_149_code_51) rfl rfl (XS.aload X10.here hx rfl (hb hby own_djdk_42_method_149_code_52) rfl rfl k)) ?_
  show own_Go p.tables e below RR (T10.setTop (mkF m 54 #[.val (.ref o), .val (.ref ca), .val (.int (0 : Int32)), .val (.int (3 : Int32)), .val .null, .val (.ref rx4)] [(.ref rx4), (.ref o)]))
  have f13 := ((Fv.keep Kq4 nin0).other W10 (Or.inr (slot_ne (Or.inr (hw _ (List.mem_of_getElem? (i := 23) rfl))) (Or.inr (hw _ (List.mem_of_getElem? (i := 24) rfl))) (by decide) (t := (.array .byte)) (t' := .byte) (by decide) (by decide))))
  have f14 := (f9.wr W10)
  obtain ⟨T15, h15, X15, e15, W15, st15⟩ := putF X10 hx hZ hown (host := "") (Or.inl (hw _ (List.mem_of_getElem? (i := 27) rfl))) Via.refl e10 f13 f14 (Or.inr ⟨(hw _ (List.mem_of_getElem? (i := 23) rfl)), rfl, hnm⟩) (hw _ (List.mem_of_getElem? (i := 8) rfl)) (ty := (.array .byte)) (by decide) rfl rfl (g := (mkF m 54 #[.val (.ref o), .val (.ref ca), .val (.int (0 : Int32)), .val (.int (3 : Int32)), .val .null, .val (.ref rx4)] [(.ref rx4), (.ref o)])) rfl rfl (hb hby own_djdk_42_method_149_code_54)
  have Fw15 := f13.same W15
  have N15 := Fr.snoc X15 N10 g_o
  refine own_st st15 ?_
  have z16 : n0 ≤ h15.size := Nat.le_trans z11 (Keep.of_wr W15).1
  have kk17 : Keep h0 h15 [o] := kk12.wr W15 (Or.inl (List.mem_of_getElem? (i := 0) rfl))
  show own_Go p.tables e below RR (T15.setTop (mkF m 57 #[.val (.ref o), .val (.ref ca), .val (.int (0 : Int32)), .val (.int (3 : Int32)), .val .null, .val (.ref rx4)] []))
  obtain ⟨fs, hrt_, hrun, hended, hW, hsame⟩ := X15.leave (v := none) (fun _ => rfl)
  refine own_fin (X15.returnOut hx Bd.returns (hb hby own_djdk_42_method_149_code_57) hrt_) (hRR _ ⟨_, hrun, hended, _, _, rfl, ?_, ⟨_, rfl⟩, hW, hsame.mono (by decide) (by decide)⟩)
  show own_QSI3 Z o ca kc u0 u1 u2 cs h0 n0 _ T15.heap _
  rw [e15]
  have f18 := (f14.wr W15)
  have f19 := (Fw10.other W15 (Or.inr (slot_ne (Or.inr (hw _ (List.mem_of_getElem? (i := 24) rfl))) (Or.inr (hw _ (List.mem_of_getElem? (i := 23) rfl))) (by decide) (t := .byte) (t' := (.array .byte)) (by decide) (by decide))))
  have f20 := ((Vq4.other W10 (Ne.symm neob4)).other W15 (Ne.symm neob4))
  exact ⟨rfl, N15, kk17, f18, f19, _, _, Fw15, f20⟩
theorem own_efST3 (m : MethodId) (o : Addr) (ca : Addr) : entryFrame m #[(.ref o), (.ref ca)] 2 = mkF m 0 #[.val (.ref o), .val (.ref ca)] [] := by first | (simp [entryFrame, mkF, argsToLocals, Value.category]; done) | rfl
def own_QST3 (Z : State) (o : Addr) (ca : Addr) (kc : ClassId) (u0 : Int32) (u1 : Int32) (u2 : Int32) (cs : Int32) (h0 : Heap) (n0 : Nat) (rv__ : Option Value) (h : Heap) (rL__ : List Loc) : Prop := rv__ = none ∧ Fr n0 rL__ ∧ Keep h0 h [o] ∧ Exa Z h o "java/lang/String" ∧ Fld Z h o "java/lang/String" "coder" "B" (.int (0 : Int32)) ∧ ∃ (b : Addr) (kb : ClassId), Fld Z h o "java/lang/String" "value" "[B" (.ref b) ∧ Arv Z h b kb .byte (3 : Int32) [(.int (own_b u0)), (.int (own_b u1)), (.int (own_b u2))] (.int (0 : Int32))
abbrev own_RST3 : Room := { frames := 3, cells := 1, slots := 3, locals := 52 }
set_option maxRecDepth 65536 in
set_option maxHeartbeats 40000000 in
theorem own_rmST3 (l : Launch) (Z : State) (a0 : Array Value) (hw : ∀ d ∈ tables_1, d.before a0 Z = true) (ws : List Jvm.Cond) (o : Addr) (ca : Addr) (kc : ClassId) (u0 : Int32) (u1 : Int32) (u2 : Int32) (cs : Int32) (h0 : Heap) (n0 : Nat) (Z0 : n0 ≤ h0.size) (g_o : n0 ≤ o) (E : Exa Z h0 o "java/lang/String") (Fv : Fld Z h0 o "java/lang/String" "value" "[B" .null) (Fc : Fld Z h0 o "java/lang/String" "coder" "B" (.int (0 : Int32))) (Vc : Arv Z h0 ca kc .char (3 : Int32) [(.int u0), (.int u1), (.int u2)] (.int (0 : Int32))) (hu0 : ¬ (255 : Int32) < u0) (hu1 : ¬ (255 : Int32) < u1) (hu2 : ¬ (255 : Int32) < u2) (S0 : Sta Z h0 "java/lang/String" "COMPACT_STRINGS" "Z" (.int cs)) (hcs : ¬ cs = (0 : Int32)) :
    MetFree l (⟨"java/lang/String", "<init>", "([C)V"⟩ : MethodName) (head1 (Jvm.Cond.code (⟨"java/lang/String", "<init>", "([C)V"⟩ : MethodName) jdk_42_method_3_code 2 none :: ws) own_RST3) (fun aa__ U => aa__ = #[(.ref o), (.ref ca)] ∧ Z.Warmed39 U.vm ∧ U.heap = h0) (fun _ _ _ _ _ => True) (fun _ U oc_ U' => ∃ rv__ rL__, oc_ = .returned rv__ ∧ own_QST3 Z o ca kc u0 u1 u2 cs h0 n0 rv__ U'.heap rL__ ∧ FrameEnd U oc_ U' rL__ own_RST3.cells own_RST3.slots) := by
  refine MetFree.of_bodySF (plainFor_of_name own_pn_java_lang_String) hisR ?_
  intro p e s m args below meth c s₁ Bd hml0 hP hK
  obtain ⟨rfl, hZ, hh⟩ := hP
  have hx := Bd.exec
  have hby := Bd.bytes
  have hml : c.maxLocals = 2 := hml0
  have hown : s.vm.findClass "java/lang/String" = some m.cls := findClass_of_methodNamed Bd.named
  have hnm := (name_of_methodNamed Bd.named Bd.method).1
  have X0 : Stand p l e own_RST3 s m #[(.ref o), (.ref ca)] below meth c s₁ [] 0 0 := Stand.of_body Bd
  have e0 : s₁.heap = h0 := by rw [← hh, Bd.state]; rfl
  have N0 := Fr.nil n0
  refine own_in (fun _ k => castTop (own_efST3 m o ca) k) ?_
  intro RR hRR
  show own_Go p.tables e below RR (s₁.setTop (mkF m 0 #[.val (.ref o), .val (.ref ca)] []))
  refine own_st (fun _ k => XS.aloadN X0.here hx rfl (hb hby own_djdk_42_method_3_code_0) rfl rfl (XS.aloadN X0.here hx rfl (hb hby own_djdk_42_method_3_code_1) rfl rfl (XS.iconst X0.here hx rfl (hb hby own_djdk_42_method_3_code_2) (XS.aloadN X0.here hx rfl (hb hby own_djdk_42_method_3_code_3) rfl rfl k)))) ?_
  show own_Go p.tables e below RR (s₁.setTop (mkF m 4 #[.val (.ref o), .val (.ref ca)] [(.ref ca), (.int (0 : Int32)), (.ref ca), (.ref o)]))
  obtain ⟨c1, A1, -, s1, m1, -, -⟩ := id Vc
  refine own_st (fun _ k => own_len X0 hx hZ e0 A1 s1 m1 (g := (mkF m 4 #[.val (.ref o), .val (.ref ca)] [(.ref ca), (.int (0 : Int32)), (.ref ca), (.ref o)])) rfl rfl (hb hby own_djdk_42_method_3_code_4) (XS.aconstNull X0.here hx rfl (hb hby own_djdk_42_method_3_code_5) k)) ?_
  show own_Go p.tables e below RR (s₁.setTop (mkF m 6 #[.val (.ref o), .val (.ref ca)] [.null, (.int (3 : Int32)), (.int (0 : Int32)), (.ref ca), (.ref o)]))
  obtain ⟨_, _, ⟨T2, L2, k2, n2⟩, -, X2, ⟨Lc2, hQ2, l2, y2, z2⟩, st2⟩ := X0.specialBack hx (y := (⟨"java/lang/String", "<init>", "([CIILjava/lang/Void;)V"⟩ : MethodName)) rfl hown (mvT hZ (hw _ (List.mem_of_getElem? (i := 14) rfl))) (mvT hZ (hw _ (List.mem_of_getElem? (i := 15) rfl))) (mvT hZ (hw _ (List.mem_of_getElem? (i := 17) rfl))) (by decide) (backOf (W := 0) (own_rmSI3 l Z a0 hw [] o ca kc u0 u1 u2 cs h0 n0 Z0 g_o E Fv Fc Vc hu0 hu1 hu2 S0 hcs) hZ (hw _ (List.mem_of_getElem? (i := 17) rfl)) (hw _ (List.mem_of_getElem? (i := 9) rfl)) (by decide) (by decide)) (g := (mkF m 6 #[.val (.ref o), .val (.ref ca)] [.null, (.int (3 : Int32)), (.int (0 : Int32)), (.ref ca), (.ref o)])) rfl (by rw [hml]; rfl) (Steps.refl _) (a := o) (argsL := [(.ref ca), (.int (0 : Int32)), (.int (3 : Int32)), .null]) (rest := []) (lenOf own_pd___CIILjava_lang_Void__V rfl) rfl (by show 2 * 0 + _ ≤ _; exact Nat.le_of_eq rfl) (hb hby own_djdk_42_method_3_code_6) (fun _ _ => ⟨rfl, e0, (by decide : 0 + 1 ≤ _), (by decide : 0 + 3 ≤ _)⟩)
  dsimp only [Pt.U, Pt.locs, Pt.cells, Pt.slots] at X2 l2 y2 z2 st2 hQ2
  subst l2 y2 z2
  obtain ⟨rfl, Nq2, Kq2, Eq2, Fq2, bq2, kbq2, Fvq2, Vq2⟩ := hQ2
  have N2 := Fr.app N0 Nq2
  refine own_st (fun _ k => st2.trans k) ?_
  have z3 : n0 ≤ T2.heap.size := Nat.le_trans Z0 Kq2.1
  have kk4 : Keep h0 T2.heap [o] := (Keep.refl h0 [o]).trans Kq2 (allS (Or.inl (List.mem_of_getElem? (i := 0) rfl)) all0)
  show own_Go p.tables e below RR (T2.setTop (mkF m 9 #[.val (.ref o), .val (.ref ca)] []))
  obtain ⟨fs, hrt_, hrun, hended, hW, hsame⟩ := X2.leave (v := none) (fun _ => rfl)
  refine own_fin (X2.returnOut hx Bd.returns (hb hby own_djdk_42_method_3_code_9) hrt_) (hRR _ ⟨_, hrun, hended, _, _, rfl, ?_, ⟨_, rfl⟩, hW, hsame.mono (by decide) (by decide)⟩)
  show own_QST3 Z o ca kc u0 u1 u2 cs h0 n0 _ T2.heap _
  exact ⟨rfl, N2, kk4, Eq2, Fq2, _, _, Fvq2, Vq2⟩
theorem own_djdk_42_method_149_code_8 : decode jdk_42_method_149_code 8 = .ok (.aload_n 0, 1) := by decide +kernel
theorem own_djdk_42_method_149_code_9 : decode jdk_42_method_149_code 9 = .ok (.ldc 7, 2) := by decide +kernel
theorem own_djdk_42_method_149_code_11 : decode jdk_42_method_149_code 11 = .ok (.getfield 9, 3) := by decide +kernel
theorem own_djdk_42_method_149_code_14 : decode jdk_42_method_149_code 14 = .ok (.putfield 9, 3) := by decide +kernel
theorem own_djdk_42_method_149_code_17 : decode jdk_42_method_149_code 17 = .ok (.aload_n 0, 1) := by decide +kernel
theorem own_djdk_42_method_149_code_18 : decode jdk_42_method_149_code 18 = .ok (.ldc 7, 2) := by decide +kernel
theorem own_djdk_42_method_149_code_20 : decode jdk_42_method_149_code 20 = .ok (.getfield 15, 3) := by decide +kernel
theorem own_djdk_42_method_149_code_23 : decode jdk_42_method_149_code 23 = .ok (.putfield 15, 3) := by decide +kernel
theorem own_djdk_42_method_149_code_26 : decode jdk_42_method_149_code 26 = .ok (.return_, 1) := by decide +kernel
theorem own_efSE (m : MethodId) (o : Addr) (ca : Addr) : entryFrame m #[(.ref o), (.ref ca), (.int (0 : Int32)), (.int (0 : Int32)), .null] 6 = mkF m 0 #[.val (.ref o), .val (.ref ca), .val (.int (0 : Int32)), .val (.int (0 : Int32)), .val .null, .unset] [] := by first | (simp [entryFrame, mkF, argsToLocals, Value.category]; done) | rfl
def own_QSE (Z : State) (o : Addr) (ca : Addr) (h0 : Heap) (n0 : Nat) (rv__ : Option Value) (h : Heap) (vm : Vm) (rL__ : List Loc) : Prop := rv__ = none ∧ Fr n0 rL__ ∧ Keep h0 h [o] ∧ Exa Z h o "java/lang/String" ∧ Fld Z h o "java/lang/String" "coder" "B" (.int (0 : Int32)) ∧ (∃ (b : Addr) (kb : ClassId), Fld Z h o "java/lang/String" "value" "[B" (.ref b) ∧ Arv Z h b kb .byte (0 : Int32) [] (.int (0 : Int32))) ∧ own_Bk Z vm h
abbrev own_RSE : Room := { frames := 1, cells := 2, slots := 4, locals := 12 }
set_option maxRecDepth 65536 in
set_option maxHeartbeats 40000000 in
theorem own_rmSE (l : Launch) (Z : State) (a0 : Array Value) (hw : ∀ d ∈ tables_1, d.before a0 Z = true) (ws : List Jvm.Cond) (o : Addr) (ca : Addr) (h0 : Heap) (n0 : Nat) (Z0 : n0 ≤ h0.size) (g_o : n0 ≤ o) (E : Exa Z h0 o "java/lang/String") (Fv : Fld Z h0 o "java/lang/String" "value" "[B" .null) (Fc : Fld Z h0 o "java/lang/String" "coder" "B" (.int (0 : Int32))) (hkp : ∀ (b : Addr) (cl : Cell), Z.heap[b]? = some cl → h0[b]? = some cl) (hcon : Jvm.Lit.constHeld Z "java/lang/String" 7) (hcw : Jvm.Lit.compactW.before a0 Z = true) :
    MetFree l (⟨"java/lang/String", "<init>", "([CIILjava/lang/Void;)V"⟩ : MethodName) (head1 (Jvm.Cond.code (⟨"java/lang/String", "<init>", "([CIILjava/lang/Void;)V"⟩ : MethodName) jdk_42_method_149_code 6 none :: ws) own_RSE) (fun aa__ U => aa__ = #[(.ref o), (.ref ca), (.int (0 : Int32)), (.int (0 : Int32)), .null] ∧ Z.Warmed39 U.vm ∧ U.heap = h0 ∧ own_Bk Z U.vm h0) (fun _ _ _ _ _ => True) (fun _ U oc_ U' => ∃ rv__ rL__, oc_ = .returned rv__ ∧ own_QSE Z o ca h0 n0 rv__ U'.heap U'.vm rL__ ∧ ReturnedEndW U oc_ U' rL__ own_RSE.cells own_RSE.slots) := by
  refine MetFree.of_bodySF (plainFor_of_name own_pn_java_lang_String) hisR ?_
  intro p e s m args below meth c s₁ Bd hml0 hP hK
  obtain ⟨rfl, hZ, hh, hBk⟩ := hP
  have hx := Bd.exec
  have hby := Bd.bytes
  have hml : c.maxLocals = 6 := hml0
  have hown : s.vm.findClass "java/lang/String" = some m.cls := findClass_of_methodNamed Bd.named
  have hnm := (name_of_methodNamed Bd.named Bd.method).1
  have X0 : Stand p l e own_RSE s m #[(.ref o), (.ref ca), (.int (0 : Int32)), (.int (0 : Int32)), .null] below meth c s₁ [] 0 0 := Stand.of_body Bd
  have e0 : s₁.heap = h0 := by rw [← hh, Bd.state]; rfl
  have N0 := Fr.nil n0
  refine own_in (fun _ k => castTop (own_efSE m o ca) k) ?_
  intro RR hRR
  have own_wS : ∀ a ∈ Bundle.stringAtoms, a.before a0 Z = true := fun a ha => hw a (own_sub a ha)
  show own_Go p.tables e below RR (s₁.setTop (mkF m 0 #[.val (.ref o), .val (.ref ca), .val (.int (0 : Int32)), .val (.int (0 : Int32)), .val .null, .unset] []))
  refine own_st (fun _ k => XS.aloadN X0.here hx rfl (hb hby own_djdk_42_method_149_code_0) rfl rfl k) ?_
  show own_Go p.tables e below RR (s₁.setTop (mkF m 1 #[.val (.ref o), .val (.ref ca), .val (.int (0 : Int32)), .val (.int (0 : Int32)), .val .null, .unset] [(.ref o)]))
  obtain ⟨T1, X1, e1, st1⟩ := initO X0 hx hZ hown (hw _ (List.mem_of_getElem? (i := 18) rfl)) (hw _ (List.mem_of_getElem? (i := 19) rfl)) (hw _ (List.mem_of_getElem? (i := 20) rfl)) e0 (g := (mkF m 1 #[.val (.ref o), .val (.ref ca), .val (.int (0 : Int32)), .val (.int (0 : Int32)), .val .null, .unset] [(.ref o)])) rfl (by rw [hml]; rfl) rfl (hb hby own_djdk_42_method_149_code_1) (by decide) (W := 0) (by show 2 * 0 + _ ≤ _; exact Nat.le_of_eq rfl) (by decide)
  refine own_st st1 ?_
  show own_Go p.tables e below RR (T1.setTop (mkF m 4 #[.val (.ref o), .val (.ref ca), .val (.int (0 : Int32)), .val (.int (0 : Int32)), .val .null, .unset] []))
  refine own_st (fun _ k => XS.iloadN X1.here hx rfl (hb hby own_djdk_42_method_149_code_4) rfl k) ?_
  show own_Go p.tables e below RR (T1.setTop (mkF m 5 #[.val (.ref o), .val (.ref ca), .val (.int (0 : Int32)), .val (.int (0 : Int32)), .val .null, .unset] [(.int (0 : Int32))]))
  refine own_st (fun _ k => XS.ifNo X1.here hx rfl (hb hby own_djdk_42_method_149_code_5) rfl ((if0 _ _).trans (teq (by decide)).2) (XS.aloadN X1.here hx rfl (hb hby own_djdk_42_method_149_code_8) rfl rfl k)) ?_
  show own_Go p.tables e below RR (T1.setTop (mkF m 9 #[.val (.ref o), .val (.ref ca), .val (.int (0 : Int32)), .val (.int (0 : Int32)), .val .null, .unset] [(.ref o)]))
  rcases id hBk with Ib2 | ⟨a2, b2, kb2, Lt2, Es2, Fc2, Fv2, V2⟩
  · obtain ⟨a2, T2, h2, k2, b2, kb2, X2, e2, E2, hS2, hk2, hZ, hown, Es2, Fc2, Fv2, V2, la2, lb2, ib2, Lt2, st2⟩ := ldcSVL (s := s) (vm0 := s.vm) X1 hx hZ hown (hw _ (List.mem_of_getElem? (i := 21) rfl)) own_wS e1 ((State.WarmedH.refl s).since 0) (Nat.zero_le _) (Fr.nil _) (fun b cl q => by rw [hh]; exact hkp b cl q) Ib2 (by decide) hcon hcw (vs := []) (z := (0 : Int32)) ⟨by decide, rfl⟩ (by decide) rfl (g := (mkF m 9 #[.val (.ref o), .val (.ref ca), .val (.int (0 : Int32)), .val (.int (0 : Int32)), .val .null, .unset] [(.ref o)])) rfl (hb hby own_djdk_42_method_149_code_9) (n := 0) (by decide) (by decide) (by decide) (by decide)
    refine own_st st2 ?_
    have z3 : n0 ≤ h2.size := Nat.le_trans Z0 E2.1
    have kk4 : Keep h0 h2 [o] := (Keep.refl h0 [o]).ext E2
    have f5 := (Fv.ext E2)
    have nea2 : a2 ≠ o := Fld.ne Fv2 f5 (fun q => by cases q)
    have f6 := (E.ext E2)
    have neb2 : o ≠ b2 := Exa.neArv f6 V2 (hw _ (List.mem_of_getElem? (i := 8) rfl))
    show own_Go p.tables e below RR (T2.setTop (mkF m 11 #[.val (.ref o), .val (.ref ca), .val (.int (0 : Int32)), .val (.int (0 : Int32)), .val .null, .unset] [(.ref a2), (.ref o)]))
    obtain ⟨T7, X7, e7, st7⟩ := getF X2 hx hZ hown (host := "") (Or.inl (hw _ (List.mem_of_getElem? (i := 27) rfl))) Via.refl e2 Fv2 (g := (mkF m 11 #[.val (.ref o), .val (.ref ca), .val (.int (0 : Int32)), .val (.int (0 : Int32)), .val .null, .unset] [(.ref a2), (.ref o)])) rfl rfl (hb hby own_djdk_42_method_149_code_11)
    refine own_st st7 ?_
    show own_Go p.tables e below RR (T7.setTop (mkF m 14 #[.val (.ref o), .val (.ref ca), .val (.int (0 : Int32)), .val (.int (0 : Int32)), .val .null, .unset] [(.ref b2), (.ref o)]))
    obtain ⟨T8, h8, X8, e8, W8, st8⟩ := putF X7 hx hZ hown (host := "") (Or.inl (hw _ (List.mem_of_getElem? (i := 27) rfl))) Via.refl e7 f5 f6 (Or.inr ⟨(hw _ (List.mem_of_getElem? (i := 23) rfl)), rfl, hnm⟩) (hw _ (List.mem_of_getElem? (i := 8) rfl)) (ty := (.array .byte)) (by decide) rfl rfl (g := (mkF m 14 #[.val (.ref o), .val (.ref ca), .val (.int (0 : Int32)), .val (.int (0 : Int32)), .val .null, .unset] [(.ref b2), (.ref o)])) rfl rfl (hb hby own_djdk_42_method_149_code_14)
    have Fw8 := f5.same W8
    have N8 := Fr.snoc X8 N0 g_o
    refine own_st st8 ?_
    have z9 : n0 ≤ h8.size := Nat.le_trans z3 (Keep.of_wr W8).1
    have hk9 := Nat.le_trans hk2 (Keep.of_wr W8).1
    have kk10 : Keep h0 h8 [o] := kk4.wr W8 (Or.inl (List.mem_of_getElem? (i := 0) rfl))
    show own_Go p.tables e below RR (T8.setTop (mkF m 17 #[.val (.ref o), .val (.ref ca), .val (.int (0 : Int32)), .val (.int (0 : Int32)), .val .null, .unset] []))
    refine own_st (fun _ k => XS.aloadN X8.here hx rfl (hb hby own_djdk_42_method_149_code_17) rfl rfl k) ?_
    show own_Go p.tables e below RR (T8.setTop (mkF m 18 #[.val (.ref o), .val (.ref ca), .val (.int (0 : Int32)), .val (.int (0 : Int32)), .val .null, .unset] [(.ref o)]))
    show own_Go p.tables e below RR (T8.setTop (mkF m 18 #[.val (.ref o), .val (.ref ca), .val (.int (0 : Int32)), .val (.int (0 : Int32)), .val .null, .unset] [(.ref o)]))
    refine own_st (fun _ k => ldcAgain (s := s) (vm0 := T2.vm) X8 hx hZ hown (hw _ (List.mem_of_getElem? (i := 21) rfl)) Lt2 (g := (mkF m 18 #[.val (.ref o), .val (.ref ca), .val (.int (0 : Int32)), .val (.int (0 : Int32)), .val .null, .unset] [(.ref o)])) rfl (hb hby own_djdk_42_method_149_code_18) _ k) ?_
    show own_Go p.tables e below RR (T8.setTop (mkF m 20 #[.val (.ref o), .val (.ref ca), .val (.int (0 : Int32)), .val (.int (0 : Int32)), .val .null, .unset] [(.ref a2), (.ref o)]))
    have f11 := (Fc2.other W8 (Or.inl nea2))
    obtain ⟨T12, X12, e12, st12⟩ := getF X8 hx hZ hown (host := "") (Or.inl (hw _ (List.mem_of_getElem? (i := 28) rfl))) Via.refl e8 f11 (g := (mkF m 20 #[.val (.ref o), .val (.ref ca), .val (.int (0 : Int32)), .val (.int (0 : Int32)), .val .null, .unset] [(.ref a2), (.ref o)])) rfl rfl (hb hby own_djdk_42_method_149_code_20)
    refine own_st st12 ?_
    show own_Go p.tables e below RR (T12.setTop (mkF m 23 #[.val (.ref o), .val (.ref ca), .val (.int (0 : Int32)), .val (.int (0 : Int32)), .val .null, .unset] [(.int (0 : Int32)), (.ref o)]))
    have f13 := ((Fc.ext E2).other W8 (Or.inr (slot_ne (Or.inr (hw _ (List.mem_of_getElem? (i := 24) rfl))) (Or.inr (hw _ (List.mem_of_getElem? (i := 23) rfl))) (by decide) (t := .byte) (t' := (.array .byte)) (by decide) (by decide))))
    have f14 := (f6.wr W8)
    obtain ⟨T15, h15, X15, e15, W15, st15⟩ := putFN X12 hx hZ hown (hw _ (List.mem_of_getElem? (i := 28) rfl)) Via.refl e12 f13 f14 (Or.inr ⟨(hw _ (List.mem_of_getElem? (i := 24) rfl)), rfl, hnm⟩) (hw _ (List.mem_of_getElem? (i := 8) rfl)) (ty := .byte) (v' := (.int (0 : Int32))) (by decide) rfl rfl (g := (mkF m 23 #[.val (.ref o), .val (.ref ca), .val (.int (0 : Int32)), .val (.int (0 : Int32)), .val .null, .unset] [(.int (0 : Int32)), (.ref o)])) rfl rfl (hb hby own_djdk_42_method_149_code_23)
    have Fw15 := f13.same W15
    have N15 := Fr.snoc X15 N8 g_o
    refine own_st st15 ?_
    have z16 : n0 ≤ h15.size := Nat.le_trans z9 (Keep.of_wr W15).1
    have hk16 := Nat.le_trans hk9 (Keep.of_wr W15).1
    have kk17 : Keep h0 h15 [o] := kk10.wr W15 (Or.inl (List.mem_of_getElem? (i := 0) rfl))
    show own_Go p.tables e below RR (T15.setTop (mkF m 26 #[.val (.ref o), .val (.ref ca), .val (.int (0 : Int32)), .val (.int (0 : Int32)), .val .null, .unset] []))
    have f18 := ((Es2.wr W8).wr W15)
    have f19 := (f11.other W15 (Or.inl nea2))
    have f20 := ((Fv2.other W8 (Or.inl nea2)).other W15 (Or.inl nea2))
    have f21 := ((V2.other W8 (Ne.symm neb2)).other W15 (Ne.symm neb2))
    have Bz2 : own_Bk Z T2.vm h15 := Or.inr ⟨a2, b2, kb2, Lt2, f18, f19, f20, f21⟩
    show own_Go p.tables e below RR (T15.setTop (mkF m 26 #[.val (.ref o), .val (.ref ca), .val (.int (0 : Int32)), .val (.int (0 : Int32)), .val .null, .unset] []))
    obtain ⟨fs, hrt_, hrun, hended, hRE⟩ := X15.leaveW hS2 (by rw [e15]; exact hk16) (v := none) (fun _ => rfl)
    refine own_fin (X15.returnOut hx Bd.returns (hb hby own_djdk_42_method_149_code_26) hrt_) (hRR _ ⟨_, hrun, hended, _, _, rfl, ?_, hRE.1, hRE.2.1, hRE.2.2.1, hRE.2.2.2.mono (by decide) (by decide)⟩)
    have bkE := own_Bk_warm (s := s.setVm T2.vm) Bz2 X15.warmed
    show own_QSE Z o ca h0 n0 _ T15.heap T15.vm _
    rw [e15]
    have f22 := (f14.wr W15)
    have f23 := (Fw8.other W15 (Or.inr (slot_ne (Or.inr (hw _ (List.mem_of_getElem? (i := 23) rfl))) (Or.inr (hw _ (List.mem_of_getElem? (i := 24) rfl))) (by decide) (t := (.array .byte)) (t' := .byte) (by decide) (by decide))))
    exact ⟨rfl, N15, kk17, f22, Fw15, ⟨_, _, f23, f21⟩, bkE⟩
  · refine own_st (ldcAgain (s := s) (vm0 := s.vm) X1 hx hZ hown (hw _ (List.mem_of_getElem? (i := 21) rfl)) Lt2 (g := (mkF m 9 #[.val (.ref o), .val (.ref ca), .val (.int (0 : Int32)), .val (.int (0 : Int32)), .val .null, .unset] [(.ref o)])) rfl (hb hby own_djdk_42_method_149_code_9)) ?_
    have nea2 : a2 ≠ o := Fld.ne Fv2 Fv (fun q => by cases q)
    have neb2 : o ≠ b2 := Exa.neArv E V2 (hw _ (List.mem_of_getElem? (i := 8) rfl))
    show own_Go p.tables e below RR (T1.setTop (mkF m 11 #[.val (.ref o), .val (.ref ca), .val (.int (0 : Int32)), .val (.int (0 : Int32)), .val .null, .unset] [(.ref a2), (.ref o)]))
    obtain ⟨T24, X24, e24, st24⟩ := getF X1 hx hZ hown (host := "") (Or.inl (hw _ (List.mem_of_getElem? (i := 27) rfl))) Via.refl e1 Fv2 (g := (mkF m 11 #[.val (.ref o), .val (.ref ca), .val (.int (0 : Int32)), .val (.int (0 : Int32)), .val .null, .unset] [(.ref a2), (.ref o)])) rfl rfl (hb hby own_djdk_42_method_149_code_11)
    refine own_st st24 ?_
    show own_Go p.tables e below RR (T24.setTop (mkF m 14 #[.val (.ref o), .val (.ref ca), .val (.int (0 : Int32)), .val (.int (0 : Int32)), .val .null, .unset] [(.ref b2), (.ref o)]))
    obtain ⟨T25, h25, X25, e25, W25, st25⟩ := putF X24 hx hZ hown (host := "") (Or.inl (hw _ (List.mem_of_getElem? (i := 27) rfl))) Via.refl e24 Fv E (Or.inr ⟨(hw _ (List.mem_of_getElem? (i := 23) rfl)), rfl, hnm⟩) (hw _ (List.mem_of_getElem? (i := 8) rfl)) (ty := (.array .byte)) (by decide) rfl rfl (g := (mkF m 14 #[.val (.ref o), .val (.ref ca), .val (.int (0 : Int32)), .val (.int (0 : Int32)), .val .null, .unset] [(.ref b2), (.ref o)])) rfl rfl (hb hby own_djdk_42_method_149_code_14)
    have Fw25 := Fv.same W25
    have N25 := Fr.snoc X25 N0 g_o
    refine own_st st25 ?_
    have z26 : n0 ≤ h25.size := Nat.le_trans Z0 (Keep.of_wr W25).1
    have kk27 : Keep h0 h25 [o] := (Keep.refl h0 [o]).wr W25 (Or.inl (List.mem_of_getElem? (i := 0) rfl))
    show own_Go p.tables e below RR (T25.setTop (mkF m 17 #[.val (.ref o), .val (.ref ca), .val (.int (0 : Int32)), .val (.int (0 : Int32)), .val .null, .unset] []))
    refine own_st (fun _ k => XS.aloadN X25.here hx rfl (hb hby own_djdk_42_method_149_code_17) rfl rfl k) ?_
    show own_Go p.tables e below RR (T25.setTop (mkF m 18 #[.val (.ref o), .val (.ref ca), .val (.int (0 : Int32)), .val (.int (0 : Int32)), .val .null, .unset] [(.ref o)]))
    show own_Go p.tables e below RR (T25.setTop (mkF m 18 #[.val (.ref o), .val (.ref ca), .val (.int (0 : Int32)), .val (.int (0 : Int32)), .val .null, .unset] [(.ref o)]))
    refine own_st (fun _ k => ldcAgain (s := s) (vm0 := s.vm) X25 hx hZ hown (hw _ (List.mem_of_getElem? (i := 21) rfl)) Lt2 (g := (mkF m 18 #[.val (.ref o), .val (.ref ca), .val (.int (0 : Int32)), .val (.int (0 : Int32)), .val .null, .unset] [(.ref o)])) rfl (hb hby own_djdk_42_method_149_code_18) _ k) ?_
    show own_Go p.tables e below RR (T25.setTop (mkF m 20 #[.val (.ref o), .val (.ref ca), .val (.int (0 : Int32)), .val (.int (0 : Int32)), .val .null, .unset] [(.ref a2), (.ref o)]))
    have f28 := (Fc2.other W25 (Or.inl nea2))
    obtain ⟨T29, X29, e29, st29⟩ := getF X25 hx hZ hown (host := "") (Or.inl (hw _ (List.mem_of_getElem? (i := 28) rfl))) Via.refl e25 f28 (g := (mkF m 20 #[.val (.ref o), .val (.ref ca), .val (.int (0 : Int32)), .val (.int (0 : Int32)), .val .null, .unset] [(.ref a2), (.ref o)])) rfl rfl (hb hby own_djdk_42_method_149_code_20)
    refine own_st st29 ?_
    show own_Go p.tables e below RR (T29.setTop (mkF m 23 #[.val (.ref o), .val (.ref ca), .val (.int (0 : Int32)), .val (.int (0 : Int32)), .val .null, .unset] [(.int (0 : Int32)), (.ref o)]))
    have f30 := (Fc.other W25 (Or.inr (slot_ne (Or.inr (hw _ (List.mem_of_getElem? (i := 24) rfl))) (Or.inr (hw _ (List.mem_of_getElem? (i := 23) rfl))) (by decide) (t := .byte) (t' := (.array .byte)) (by decide) (by decide))))
    have f31 := (E.wr W25)
    obtain ⟨T32, h32, X32, e32, W32, st32⟩ := putFN X29 hx hZ hown (hw _ (List.mem_of_getElem? (i := 28) rfl)) Via.refl e29 f30 f31 (Or.inr ⟨(hw _ (List.mem_of_getElem? (i := 24) rfl)), rfl, hnm⟩) (hw _ (List.mem_of_getElem? (i := 8) rfl)) (ty := .byte) (v' := (.int (0 : Int32))) (by decide) rfl rfl (g := (mkF m 23 #[.val (.ref o), .val (.ref ca), .val (.int (0 : Int32)), .val (.int (0 : Int32)), .val .null, .unset] [(.int (0 : Int32)), (.ref o)])) rfl rfl (hb hby own_djdk_42_method_149_code_23)
    have Fw32 := f30.same W32
    have N32 := Fr.snoc X32 N25 g_o
    refine own_st st32 ?_
    have z33 : n0 ≤ h32.size := Nat.le_trans z26 (Keep.of_wr W32).1
    have kk34 : Keep h0 h32 [o] := kk27.wr W32 (Or.inl (List.mem_of_getElem? (i := 0) rfl))
    show own_Go p.tables e below RR (T32.setTop (mkF m 26 #[.val (.ref o), .val (.ref ca), .val (.int (0 : Int32)), .val (.int (0 : Int32)), .val .null, .unset] []))
    have f35 := ((Es2.wr W25).wr W32)
    have f36 := (f28.other W32 (Or.inl nea2))
    have f37 := ((Fv2.other W25 (Or.inl nea2)).other W32 (Or.inl nea2))
    have f38 := ((V2.other W25 (Ne.symm neb2)).other W32 (Ne.symm neb2))
    have Bz2 : own_Bk Z s.vm h32 := Or.inr ⟨a2, b2, kb2, Lt2, f35, f36, f37, f38⟩
    show own_Go p.tables e below RR (T32.setTop (mkF m 26 #[.val (.ref o), .val (.ref ca), .val (.int (0 : Int32)), .val (.int (0 : Int32)), .val .null, .unset] []))
    obtain ⟨fs, hrt_, hrun, hended, hW, hsame⟩ := X32.leave (v := none) (fun _ => rfl)
    refine own_fin (X32.returnOut hx Bd.returns (hb hby own_djdk_42_method_149_code_26) hrt_) (hRR _ ⟨_, hrun, hended, _, _, rfl, ?_, ReturnedEndW.of_narrow ⟨_, rfl⟩ hW (hsame.mono (by decide) (by decide))⟩)
    have bkE := own_Bk_warm (s := s.setVm s.vm) Bz2 X32.warmed
    show own_QSE Z o ca h0 n0 _ T32.heap T32.vm _
    rw [e32]
    have f39 := (f31.wr W32)
    have f40 := (Fw25.other W32 (Or.inr (slot_ne (Or.inr (hw _ (List.mem_of_getElem? (i := 23) rfl))) (Or.inr (hw _ (List.mem_of_getElem? (i := 24) rfl))) (by decide) (t := (.array .byte)) (t' := .byte) (by decide) (by decide))))
    exact ⟨rfl, N32, kk34, f39, Fw32, ⟨_, _, f40, f38⟩, bkE⟩
theorem own_efSTE (m : MethodId) (o : Addr) (ca : Addr) : entryFrame m #[(.ref o), (.ref ca)] 2 = mkF m 0 #[.val (.ref o), .val (.ref ca)] [] := by first | (simp [entryFrame, mkF, argsToLocals, Value.category]; done) | rfl
def own_QSTE (Z : State) (o : Addr) (ca : Addr) (kc : ClassId) (h0 : Heap) (n0 : Nat) (rv__ : Option Value) (h : Heap) (vm : Vm) (rL__ : List Loc) : Prop := rv__ = none ∧ Fr n0 rL__ ∧ Keep h0 h [o] ∧ Exa Z h o "java/lang/String" ∧ Fld Z h o "java/lang/String" "coder" "B" (.int (0 : Int32)) ∧ (∃ (b : Addr) (kb : ClassId), Fld Z h o "java/lang/String" "value" "[B" (.ref b) ∧ Arv Z h b kb .byte (0 : Int32) [] (.int (0 : Int32))) ∧ own_Bk Z vm h
abbrev own_RSTE : Room := { frames := 2, cells := 2, slots := 4, locals := 29 }
set_option maxRecDepth 65536 in
set_option maxHeartbeats 40000000 in
theorem own_rmSTE (l : Launch) (Z : State) (a0 : Array Value) (hw : ∀ d ∈ tables_1, d.before a0 Z = true) (ws : List Jvm.Cond) (o : Addr) (ca : Addr) (kc : ClassId) (h0 : Heap) (n0 : Nat) (Z0 : n0 ≤ h0.size) (g_o : n0 ≤ o) (E : Exa Z h0 o "java/lang/String") (Fv : Fld Z h0 o "java/lang/String" "value" "[B" .null) (Fc : Fld Z h0 o "java/lang/String" "coder" "B" (.int (0 : Int32))) (Vc : Arv Z h0 ca kc .char (0 : Int32) [] (.int (0 : Int32))) (hkp : ∀ (b : Addr) (cl : Cell), Z.heap[b]? = some cl → h0[b]? = some cl) (hcon : Jvm.Lit.constHeld Z "java/lang/String" 7) (hcw : Jvm.Lit.compactW.before a0 Z = true) :
    MetFree l (⟨"java/lang/String", "<init>", "([C)V"⟩ : MethodName) (head1 (Jvm.Cond.code (⟨"java/lang/String", "<init>", "([C)V"⟩ : MethodName) jdk_42_method_3_code 2 none :: ws) own_RSTE) (fun aa__ U => aa__ = #[(.ref o), (.ref ca)] ∧ Z.Warmed39 U.vm ∧ U.heap = h0 ∧ own_Bk Z U.vm h0) (fun _ _ _ _ _ => True) (fun _ U oc_ U' => ∃ rv__ rL__, oc_ = .returned rv__ ∧ own_QSTE Z o ca kc h0 n0 rv__ U'.heap U'.vm rL__ ∧ ReturnedEndW U oc_ U' rL__ own_RSTE.cells own_RSTE.slots) := by
  refine MetFree.of_bodySF (plainFor_of_name own_pn_java_lang_String) hisR ?_
  intro p e s m args below meth c s₁ Bd hml0 hP hK
  obtain ⟨rfl, hZ, hh, hBk⟩ := hP
  have hx := Bd.exec
  have hby := Bd.bytes
  have hml : c.maxLocals = 2 := hml0
  have hown : s.vm.findClass "java/lang/String" = some m.cls := findClass_of_methodNamed Bd.named
  have hnm := (name_of_methodNamed Bd.named Bd.method).1
  have X0 : Stand p l e own_RSTE s m #[(.ref o), (.ref ca)] below meth c s₁ [] 0 0 := Stand.of_body Bd
  have e0 : s₁.heap = h0 := by rw [← hh, Bd.state]; rfl
  have N0 := Fr.nil n0
  refine own_in (fun _ k => castTop (own_efSTE m o ca) k) ?_
  intro RR hRR
  show own_Go p.tables e below RR (s₁.setTop (mkF m 0 #[.val (.ref o), .val (.ref ca)] []))
  refine own_st (fun _ k => XS.aloadN X0.here hx rfl (hb hby own_djdk_42_method_3_code_0) rfl rfl (XS.aloadN X0.here hx rfl (hb hby own_djdk_42_method_3_code_1) rfl rfl (XS.iconst X0.here hx rfl (hb hby own_djdk_42_method_3_code_2) (XS.aloadN X0.here hx rfl (hb hby own_djdk_42_method_3_code_3) rfl rfl k)))) ?_
  show own_Go p.tables e below RR (s₁.setTop (mkF m 4 #[.val (.ref o), .val (.ref ca)] [(.ref ca), (.int (0 : Int32)), (.ref ca), (.ref o)]))
  obtain ⟨c1, A1, -, s1, m1, -, -⟩ := id Vc
  refine own_st (fun _ k => own_len X0 hx hZ e0 A1 s1 m1 (g := (mkF m 4 #[.val (.ref o), .val (.ref ca)] [(.ref ca), (.int (0 : Int32)), (.ref ca), (.ref o)])) rfl rfl (hb hby own_djdk_42_method_3_code_4) (XS.aconstNull X0.here hx rfl (hb hby own_djdk_42_method_3_code_5) k)) ?_
  show own_Go p.tables e below RR (s₁.setTop (mkF m 6 #[.val (.ref o), .val (.ref ca)] [.null, (.int (0 : Int32)), (.int (0 : Int32)), (.ref ca), (.ref o)]))
  obtain ⟨_, _, ⟨T2, L2, k2, n2⟩, -, X2a, hs2, g2, ⟨Lc2, hQ2, l2, y2, z2⟩, st2⟩ := Stand.specialBackS (s := s.setVm s.vm) X0 hx (y := (⟨"java/lang/String", "<init>", "([CIILjava/lang/Void;)V"⟩ : MethodName)) rfl hown (mvT hZ (hw _ (List.mem_of_getElem? (i := 14) rfl))) (mvT hZ (hw _ (List.mem_of_getElem? (i := 15) rfl))) (mvT hZ (hw _ (List.mem_of_getElem? (i := 17) rfl))) (by decide) (own_backS (W := 0) (own_rmSE l Z a0 hw [] o ca h0 n0 Z0 g_o E Fv Fc hkp hcon hcw) hZ hBk (hw _ (List.mem_of_getElem? (i := 17) rfl)) (hw _ (List.mem_of_getElem? (i := 9) rfl)) (by decide) (by decide)) (g := (mkF m 6 #[.val (.ref o), .val (.ref ca)] [.null, (.int (0 : Int32)), (.int (0 : Int32)), (.ref ca), (.ref o)])) rfl (by rw [hml]; rfl) (Steps.refl _) (a := o) (argsL := [(.ref ca), (.int (0 : Int32)), (.int (0 : Int32)), .null]) (rest := []) (lenOf own_pd___CIILjava_lang_Void__V rfl) rfl (by show 2 * 0 + _ ≤ _; exact Nat.le_of_eq rfl) (hb hby own_djdk_42_method_3_code_6) (fun _ _ => ⟨rfl, e0, (by decide : 0 + 2 ≤ _), (by decide : 0 + 4 ≤ _)⟩)
  dsimp only [Pt.U, Pt.locs, Pt.cells, Pt.slots] at X2a hs2 g2 l2 y2 z2 st2 hQ2
  subst l2 y2 z2
  obtain ⟨X2, hS2, hZ, hown⟩ := rebS ((State.WarmedH.refl s).since 0) (by rw [e0]; exact (Nat.zero_le _)) X2a hs2 g2 hZ hown
  obtain ⟨rfl, Nq2, Kq2, Eq2, Fq2, ⟨bq2, kbq2, Fvq2, Vq2⟩, Bq2⟩ := hQ2
  have N2 := Fr.app N0 Nq2
  refine own_st (fun _ k => st2.trans k) ?_
  have z3 : n0 ≤ T2.heap.size := Nat.le_trans Z0 Kq2.1
  have kk4 : Keep h0 T2.heap [o] := (Keep.refl h0 [o]).trans Kq2 (allS (Or.inl (List.mem_of_getElem? (i := 0) rfl)) all0)
  show own_Go p.tables e below RR (T2.setTop (mkF m 9 #[.val (.ref o), .val (.ref ca)] []))
  obtain ⟨fs, hrt_, hrun, hended, hRE⟩ := X2.leaveW hS2 (by exact (Nat.le_refl _)) (v := none) (fun _ => rfl)
  refine own_fin (X2.returnOut hx Bd.returns (hb hby own_djdk_42_method_3_code_9) hrt_) (hRR _ ⟨_, hrun, hended, _, _, rfl, ?_, hRE.1, hRE.2.1, hRE.2.2.1, hRE.2.2.2.mono (by decide) (by decide)⟩)
  have bkE := own_Bk_warm (s := s.setVm T2.vm) Bq2 X2.warmed
  show own_QSTE Z o ca kc h0 n0 _ T2.heap T2.vm _
  exact ⟨rfl, N2, kk4, Eq2, Fq2, ⟨_, _, Fvq2, Vq2⟩, bkE⟩
theorem own_pn_java_lang_StringLatin1 : plainName "java/lang/StringLatin1" = true := by first | (simp [plainName, overriddenIn]; done) | decide +kernel
theorem own_djdk_43_method_13_code_0 : decode jdk_43_method_13_code 0 = .ok (.aload_n 0, 1) := by decide +kernel
theorem own_djdk_43_method_13_code_1 : decode jdk_43_method_13_code 1 = .ok (.arraylength, 1) := by decide +kernel
theorem own_djdk_43_method_13_code_2 : decode jdk_43_method_13_code 2 = .ok (.aload_n 1, 1) := by decide +kernel
theorem own_djdk_43_method_13_code_3 : decode jdk_43_method_13_code 3 = .ok (.arraylength, 1) := by decide +kernel
theorem own_djdk_43_method_13_code_4 : decode jdk_43_method_13_code 4 = .ok (.if_icmp .ne 30, 3) := by decide +kernel
theorem own_djdk_43_method_13_code_7 : decode jdk_43_method_13_code 7 = .ok (.iconst 0, 1) := by decide +kernel
theorem own_djdk_43_method_13_code_8 : decode jdk_43_method_13_code 8 = .ok (.istore_n 2, 1) := by decide +kernel
theorem own_djdk_43_method_13_code_9 : decode jdk_43_method_13_code 9 = .ok (.iload_n 2, 1) := by decide +kernel
theorem own_djdk_43_method_13_code_10 : decode jdk_43_method_13_code 10 = .ok (.aload_n 0, 1) := by decide +kernel
theorem own_djdk_43_method_13_code_11 : decode jdk_43_method_13_code 11 = .ok (.arraylength, 1) := by decide +kernel
theorem own_djdk_43_method_13_code_12 : decode jdk_43_method_13_code 12 = .ok (.if_icmp .ge 20, 3) := by decide +kernel
theorem own_djdk_43_method_13_code_32 : decode jdk_43_method_13_code 32 = .ok (.iconst 1, 1) := by decide +kernel
theorem own_djdk_43_method_13_code_33 : decode jdk_43_method_13_code 33 = .ok (.ireturn, 1) := by decide +kernel
theorem own_djdk_43_method_13_code_34 : decode jdk_43_method_13_code 34 = .ok (.iconst 0, 1) := by decide +kernel
theorem own_djdk_43_method_13_code_35 : decode jdk_43_method_13_code 35 = .ok (.ireturn, 1) := by decide +kernel
theorem own_djdk_43_method_13_code_15 : decode jdk_43_method_13_code 15 = .ok (.aload_n 0, 1) := by decide +kernel
theorem own_djdk_43_method_13_code_16 : decode jdk_43_method_13_code 16 = .ok (.iload_n 2, 1) := by decide +kernel
theorem own_djdk_43_method_13_code_17 : decode jdk_43_method_13_code 17 = .ok (.baload, 1) := by decide +kernel
theorem own_djdk_43_method_13_code_18 : decode jdk_43_method_13_code 18 = .ok (.aload_n 1, 1) := by decide +kernel
theorem own_djdk_43_method_13_code_19 : decode jdk_43_method_13_code 19 = .ok (.iload_n 2, 1) := by decide +kernel
theorem own_djdk_43_method_13_code_20 : decode jdk_43_method_13_code 20 = .ok (.baload, 1) := by decide +kernel
theorem own_djdk_43_method_13_code_21 : decode jdk_43_method_13_code 21 = .ok (.if_icmp .eq 5, 3) := by decide +kernel
theorem own_djdk_43_method_13_code_26 : decode jdk_43_method_13_code 26 = .ok (.iinc 2 1, 3) := by decide +kernel
theorem own_djdk_43_method_13_code_29 : decode jdk_43_method_13_code 29 = .ok (.goto (-20), 3) := by decide +kernel
theorem own_djdk_43_method_13_code_24 : decode jdk_43_method_13_code 24 = .ok (.iconst 0, 1) := by decide +kernel
theorem own_djdk_43_method_13_code_25 : decode jdk_43_method_13_code 25 = .ok (.ireturn, 1) := by decide +kernel
theorem own_efLE (m : MethodId) (b1 : Addr) (b2 : Addr) : entryFrame m #[(.ref b1), (.ref b2)] 3 = mkF m 0 #[.val (.ref b1), .val (.ref b2), .unset] [] := by first | (simp [entryFrame, mkF, argsToLocals, Value.category]; done) | rfl
def own_QLE (Z : State) (b1 : Addr) (b2 : Addr) (k1 : ClassId) (k2 : ClassId) (xb : Int32) (xl : Int32) (xn : Nat) (yb : Int32) (yl : Int32) (yn : Nat) (h0 : Heap) (n0 : Nat) (rv__ : Option Value) (h : Heap) (rL__ : List Loc) : Prop := rv__ = some (.int (own_same xb xn yb yn)) ∧ Fr n0 rL__ ∧ h = h0
abbrev own_RLE : Room := { frames := 0, cells := 0, slots := 0, locals := 0 }
set_option maxRecDepth 65536 in
set_option maxHeartbeats 40000000 in
theorem own_rmLE (l : Launch) (Z : State) (a0 : Array Value) (hw : ∀ d ∈ tables_1, d.before a0 Z = true) (ws : List Jvm.Cond) (b1 : Addr) (b2 : Addr) (k1 : ClassId) (k2 : ClassId) (xb : Int32) (xl : Int32) (xn : Nat) (yb : Int32) (yl : Int32) (yn : Nat) (h0 : Heap) (n0 : Nat) (Z0 : n0 ≤ h0.size) (hxl : own_ln xl xn) (hyl : own_ln yl yn) (AA1 : Arv Z h0 b1 k1 .byte xl (own_tx xb xn) (.int (0 : Int32))) (AA2 : Arv Z h0 b2 k2 .byte yl (own_tx yb yn) (.int (0 : Int32))) :
    MetFree l (⟨"java/lang/StringLatin1", "equals", "([B[B)Z"⟩ : MethodName) (head1 (Jvm.Cond.code (⟨"java/lang/StringLatin1", "equals", "([B[B)Z"⟩ : MethodName) jdk_43_method_13_code 3 (some .boolean) :: ws) own_RLE) (fun aa__ U => aa__ = #[(.ref b1), (.ref b2)] ∧ Z.Warmed39 U.vm ∧ U.heap = h0) (fun _ _ _ _ _ => True) (fun _ U oc_ U' => ∃ rv__ rL__, oc_ = .returned rv__ ∧ own_QLE Z b1 b2 k1 k2 xb xl xn yb yl yn h0 n0 rv__ U'.heap rL__ ∧ FrameEnd U oc_ U' rL__ own_RLE.cells own_RLE.slots) := by
  refine MetFree.of_bodySF (plainFor_of_name own_pn_java_lang_StringLatin1) hisR ?_
  intro p e s m args below meth c s₁ Bd hml0 hP hK
  obtain ⟨rfl, hZ, hh⟩ := hP
  have hx := Bd.exec
  have hby := Bd.bytes
  have hml : c.maxLocals = 3 := hml0
  have hown : s.vm.findClass "java/lang/StringLatin1" = some m.cls := findClass_of_methodNamed Bd.named
  have hnm := (name_of_methodNamed Bd.named Bd.method).1
  have X0 : Stand p l e own_RLE s m #[(.ref b1), (.ref b2)] below meth c s₁ [] 0 0 := Stand.of_body Bd
  have e0 : s₁.heap = h0 := by rw [← hh, Bd.state]; rfl
  have N0 := Fr.nil n0
  refine own_in (fun _ k => castTop (own_efLE m b1 b2) k) ?_
  intro RR hRR
  rcases hxl with ⟨rfl, rfl⟩ | ⟨rfl, rfl⟩ | ⟨rfl, rfl⟩ | ⟨rfl, rfl⟩
  · rcases hyl with ⟨rfl, rfl⟩ | ⟨rfl, rfl⟩ | ⟨rfl, rfl⟩ | ⟨rfl, rfl⟩
    · have AA1c : Arv Z h0 b1 k1 .byte (0 : Int32) [] (.int (0 : Int32)) := AA1
      have AA2c : Arv Z h0 b2 k2 .byte (0 : Int32) [] (.int (0 : Int32)) := AA2
      show own_Go p.tables e below RR (s₁.setTop (mkF m 0 #[.val (.ref b1), .val (.ref b2), .unset] []))
      refine own_st (fun _ k => XS.aloadN X0.here hx rfl (hb hby own_djdk_43_method_13_code_0) rfl rfl k) ?_
      show own_Go p.tables e below RR (s₁.setTop (mkF m 1 #[.val (.ref b1), .val (.ref b2), .unset] [(.ref b1)]))
      obtain ⟨c1, A1, -, s1, m1, -, -⟩ := id AA1c
      refine own_st (fun _ k => own_len X0 hx hZ e0 A1 s1 m1 (g := (mkF m 1 #[.val (.ref b1), .val (.ref b2), .unset] [(.ref b1)])) rfl rfl (hb hby own_djdk_43_method_13_code_1) (XS.aloadN X0.here hx rfl (hb hby own_djdk_43_method_13_code_2) rfl rfl k)) ?_
      show own_Go p.tables e below RR (s₁.setTop (mkF m 3 #[.val (.ref b1), .val (.ref b2), .unset] [(.ref b2), (.int (0 : Int32))]))
      obtain ⟨c2, A2, -, s2, m2, -, -⟩ := id AA2c
      refine own_st (fun _ k => own_len X0 hx hZ e0 A2 s2 m2 (g := (mkF m 3 #[.val (.ref b1), .val (.ref b2), .unset] [(.ref b2), (.int (0 : Int32))])) rfl rfl (hb hby own_djdk_43_method_13_code_3) k) ?_
      show own_Go p.tables e below RR (s₁.setTop (mkF m 4 #[.val (.ref b1), .val (.ref b2), .unset] [(.int (0 : Int32)), (.int (0 : Int32))]))
      refine own_st (fun _ k => XS.icmpNo X0.here hx rfl (hb hby own_djdk_43_method_13_code_4) rfl (teq (by decide)).2 (XS.iconst X0.here hx rfl (hb hby own_djdk_43_method_13_code_7) (XS.istoreN X0.here hx rfl (hb hby own_djdk_43_method_13_code_8) rfl (l' := #[.val (.ref b1), .val (.ref b2), .val (.int (0 : Int32))]) rfl (XS.iloadN X0.here hx rfl (hb hby own_djdk_43_method_13_code_9) rfl (XS.aloadN X0.here hx rfl (hb hby own_djdk_43_method_13_code_10) rfl rfl k))))) ?_
      show own_Go p.tables e below RR (s₁.setTop (mkF m 11 #[.val (.ref b1), .val (.ref b2), .val (.int (0 : Int32))] [(.ref b1), (.int (0 : Int32))]))
      obtain ⟨c3, A3, -, s3, m3, -, -⟩ := id AA1c
      refine own_st (fun _ k => own_len X0 hx hZ e0 A3 s3 m3 (g := (mkF m 11 #[.val (.ref b1), .val (.ref b2), .val (.int (0 : Int32))] [(.ref b1), (.int (0 : Int32))])) rfl rfl (hb hby own_djdk_43_method_13_code_11) k) ?_
      show own_Go p.tables e below RR (s₁.setTop (mkF m 12 #[.val (.ref b1), .val (.ref b2), .val (.int (0 : Int32))] [(.int (0 : Int32)), (.int (0 : Int32))]))
      refine own_st (fun _ k => XS.icmpYes X0.here hx rfl (pc0 := 12) (pc' := 32) rfl (hb hby own_djdk_43_method_13_code_12) rfl (flt (by decide)).2.1 (by decide) (by decide) (XS.iconst X0.here hx rfl (hb hby own_djdk_43_method_13_code_32) k)) ?_
      show own_Go p.tables e below RR (s₁.setTop (mkF m 33 #[.val (.ref b1), .val (.ref b2), .val (.int (0 : Int32))] [(.int (1 : Int32))]))
      obtain ⟨fs, hrt_, hrun, hended, hW, hsame⟩ := X0.leave (v := some (.int (1 : Int32))) (fun h => by rw [Bd.returns] at h; cases h)
      refine own_fin (retN X0 hx (t := .boolean) Bd.returns (by simp) (hb hby own_djdk_43_method_13_code_33) hrt_) (hRR _ ⟨_, hrun, hended, _, _, rfl, ?_, ⟨_, rfl⟩, hW, hsame.mono (by decide) (by decide)⟩)
      show own_QLE Z b1 b2 k1 k2 xb (0 : Int32) 0 yb (0 : Int32) 0 h0 n0 _ s₁.heap _
      rw [e0]
      exact ⟨own_ri ((own_sY ⟨rfl, fun z_ => absurd z_ (by decide), fun z_ => absurd z_ (by decide), fun z_ => absurd z_ (by decide)⟩).symm), N0, rfl⟩
    · have AA1c : Arv Z h0 b1 k1 .byte (0 : Int32) [] (.int (0 : Int32)) := AA1
      have AA2c : Arv Z h0 b2 k2 .byte (1 : Int32) [(.int (own_b (own_c (((yb.toUInt32 >>> ((2 : Int32) &&& 31).toUInt32).toInt32) &&& (255 : Int32)))))] (.int (0 : Int32)) := AA2
      show own_Go p.tables e below RR (s₁.setTop (mkF m 0 #[.val (.ref b1), .val (.ref b2), .unset] []))
      refine own_st (fun _ k => XS.aloadN X0.here hx rfl (hb hby own_djdk_43_method_13_code_0) rfl rfl k) ?_
      show own_Go p.tables e below RR (s₁.setTop (mkF m 1 #[.val (.ref b1), .val (.ref b2), .unset] [(.ref b1)]))
      obtain ⟨c4, A4, -, s4, m4, -, -⟩ := id AA1c
      refine own_st (fun _ k => own_len X0 hx hZ e0 A4 s4 m4 (g := (mkF m 1 #[.val (.ref b1), .val (.ref b2), .unset] [(.ref b1)])) rfl rfl (hb hby own_djdk_43_method_13_code_1) (XS.aloadN X0.here hx rfl (hb hby own_djdk_43_method_13_code_2) rfl rfl k)) ?_
      show own_Go p.tables e below RR (s₁.setTop (mkF m 3 #[.val (.ref b1), .val (.ref b2), .unset] [(.ref b2), (.int (0 : Int32))]))
      obtain ⟨c5, A5, -, s5, m5, -, -⟩ := id AA2c
      refine own_st (fun _ k => own_len X0 hx hZ e0 A5 s5 m5 (g := (mkF m 3 #[.val (.ref b1), .val (.ref b2), .unset] [(.ref b2), (.int (0 : Int32))])) rfl rfl (hb hby own_djdk_43_method_13_code_3) k) ?_
      show own_Go p.tables e below RR (s₁.setTop (mkF m 4 #[.val (.ref b1), .val (.ref b2), .unset] [(.int (1 : Int32)), (.int (0 : Int32))]))
      refine own_st (fun _ k => XS.icmpYes X0.here hx rfl (pc0 := 4) (pc' := 34) rfl (hb hby own_djdk_43_method_13_code_4) rfl (feq (by decide)).2 (by decide) (by decide) (XS.iconst X0.here hx rfl (hb hby own_djdk_43_method_13_code_34) k)) ?_
      show own_Go p.tables e below RR (s₁.setTop (mkF m 35 #[.val (.ref b1), .val (.ref b2), .unset] [(.int (0 : Int32))]))
      obtain ⟨fs, hrt_, hrun, hended, hW, hsame⟩ := X0.leave (v := some (.int (0 : Int32))) (fun h => by rw [Bd.returns] at h; cases h)
      refine own_fin (retN X0 hx (t := .boolean) Bd.returns (by simp) (hb hby own_djdk_43_method_13_code_35) hrt_) (hRR _ ⟨_, hrun, hended, _, _, rfl, ?_, ⟨_, rfl⟩, hW, hsame.mono (by decide) (by decide)⟩)
      show own_QLE Z b1 b2 k1 k2 xb (0 : Int32) 0 yb (1 : Int32) 1 h0 n0 _ s₁.heap _
      rw [e0]
      exact ⟨own_ri ((own_sN (fun q_ => absurd q_.1 (by decide))).symm), N0, rfl⟩
    · have AA1c : Arv Z h0 b1 k1 .byte (0 : Int32) [] (.int (0 : Int32)) := AA1
      have AA2c : Arv Z h0 b2 k2 .byte (2 : Int32) [(.int (own_b (own_c (((yb.toUInt32 >>> ((2 : Int32) &&& 31).toUInt32).toInt32) &&& (255 : Int32))))), (.int (own_b (own_c (((yb.toUInt32 >>> ((10 : Int32) &&& 31).toUInt32).toInt32) &&& (255 : Int32)))))] (.int (0 : Int32)) := AA2
      show own_Go p.tables e below RR (s₁.setTop (mkF m 0 #[.val (.ref b1), .val (.ref b2), .unset] []))
      refine own_st (fun _ k => XS.aloadN X0.here hx rfl (hb hby own_djdk_43_method_13_code_0) rfl rfl k) ?_
      show own_Go p.tables e below RR (s₁.setTop (mkF m 1 #[.val (.ref b1), .val (.ref b2), .unset] [(.ref b1)]))
      obtain ⟨c6, A6, -, s6, m6, -, -⟩ := id AA1c
      refine own_st (fun _ k => own_len X0 hx hZ e0 A6 s6 m6 (g := (mkF m 1 #[.val (.ref b1), .val (.ref b2), .unset] [(.ref b1)])) rfl rfl (hb hby own_djdk_43_method_13_code_1) (XS.aloadN X0.here hx rfl (hb hby own_djdk_43_method_13_code_2) rfl rfl k)) ?_
      show own_Go p.tables e below RR (s₁.setTop (mkF m 3 #[.val (.ref b1), .val (.ref b2), .unset] [(.ref b2), (.int (0 : Int32))]))
      obtain ⟨c7, A7, -, s7, m7, -, -⟩ := id AA2c
      refine own_st (fun _ k => own_len X0 hx hZ e0 A7 s7 m7 (g := (mkF m 3 #[.val (.ref b1), .val (.ref b2), .unset] [(.ref b2), (.int (0 : Int32))])) rfl rfl (hb hby own_djdk_43_method_13_code_3) k) ?_
      show own_Go p.tables e below RR (s₁.setTop (mkF m 4 #[.val (.ref b1), .val (.ref b2), .unset] [(.int (2 : Int32)), (.int (0 : Int32))]))
      refine own_st (fun _ k => XS.icmpYes X0.here hx rfl (pc0 := 4) (pc' := 34) rfl (hb hby own_djdk_43_method_13_code_4) rfl (feq (by decide)).2 (by decide) (by decide) (XS.iconst X0.here hx rfl (hb hby own_djdk_43_method_13_code_34) k)) ?_
      show own_Go p.tables e below RR (s₁.setTop (mkF m 35 #[.val (.ref b1), .val (.ref b2), .unset] [(.int (0 : Int32))]))
      obtain ⟨fs, hrt_, hrun, hended, hW, hsame⟩ := X0.leave (v := some (.int (0 : Int32))) (fun h => by rw [Bd.returns] at h; cases h)
      refine own_fin (retN X0 hx (t := .boolean) Bd.returns (by simp) (hb hby own_djdk_43_method_13_code_35) hrt_) (hRR _ ⟨_, hrun, hended, _, _, rfl, ?_, ⟨_, rfl⟩, hW, hsame.mono (by decide) (by decide)⟩)
      show own_QLE Z b1 b2 k1 k2 xb (0 : Int32) 0 yb (2 : Int32) 2 h0 n0 _ s₁.heap _
      rw [e0]
      exact ⟨own_ri ((own_sN (fun q_ => absurd q_.1 (by decide))).symm), N0, rfl⟩
    · have AA1c : Arv Z h0 b1 k1 .byte (0 : Int32) [] (.int (0 : Int32)) := AA1
      have AA2c : Arv Z h0 b2 k2 .byte (3 : Int32) [(.int (own_b (own_c (((yb.toUInt32 >>> ((2 : Int32) &&& 31).toUInt32).toInt32) &&& (255 : Int32))))), (.int (own_b (own_c (((yb.toUInt32 >>> ((10 : Int32) &&& 31).toUInt32).toInt32) &&& (255 : Int32))))), (.int (own_b (own_c (((yb.toUInt32 >>> ((18 : Int32) &&& 31).toUInt32).toInt32) &&& (255 : Int32)))))] (.int (0 : Int32)) := AA2
      show own_Go p.tables e below RR (s₁.setTop (mkF m 0 #[.val (.ref b1), .val (.ref b2), .unset] []))
      refine own_st (fun _ k => XS.aloadN X0.here hx rfl (hb hby own_djdk_43_method_13_code_0) rfl rfl k) ?_
      show own_Go p.tables e below RR (s₁.setTop (mkF m 1 #[.val (.ref b1), .val (.ref b2), .unset] [(.ref b1)]))
      obtain ⟨c8, A8, -, s8, m8, -, -⟩ := id AA1c
      refine own_st (fun _ k => own_len X0 hx hZ e0 A8 s8 m8 (g := (mkF m 1 #[.val (.ref b1), .val (.ref b2), .unset] [(.ref b1)])) rfl rfl (hb hby own_djdk_43_method_13_code_1) (XS.aloadN X0.here hx rfl (hb hby own_djdk_43_method_13_code_2) rfl rfl k)) ?_
      show own_Go p.tables e below RR (s₁.setTop (mkF m 3 #[.val (.ref b1), .val (.ref b2), .unset] [(.ref b2), (.int (0 : Int32))]))
      obtain ⟨c9, A9, -, s9, m9, -, -⟩ := id AA2c
      refine own_st (fun _ k => own_len X0 hx hZ e0 A9 s9 m9 (g := (mkF m 3 #[.val (.ref b1), .val (.ref b2), .unset] [(.ref b2), (.int (0 : Int32))])) rfl rfl (hb hby own_djdk_43_method_13_code_3) k) ?_
      show own_Go p.tables e below RR (s₁.setTop (mkF m 4 #[.val (.ref b1), .val (.ref b2), .unset] [(.int (3 : Int32)), (.int (0 : Int32))]))
      refine own_st (fun _ k => XS.icmpYes X0.here hx rfl (pc0 := 4) (pc' := 34) rfl (hb hby own_djdk_43_method_13_code_4) rfl (feq (by decide)).2 (by decide) (by decide) (XS.iconst X0.here hx rfl (hb hby own_djdk_43_method_13_code_34) k)) ?_
      show own_Go p.tables e below RR (s₁.setTop (mkF m 35 #[.val (.ref b1), .val (.ref b2), .unset] [(.int (0 : Int32))]))
      obtain ⟨fs, hrt_, hrun, hended, hW, hsame⟩ := X0.leave (v := some (.int (0 : Int32))) (fun h => by rw [Bd.returns] at h; cases h)
      refine own_fin (retN X0 hx (t := .boolean) Bd.returns (by simp) (hb hby own_djdk_43_method_13_code_35) hrt_) (hRR _ ⟨_, hrun, hended, _, _, rfl, ?_, ⟨_, rfl⟩, hW, hsame.mono (by decide) (by decide)⟩)
      show own_QLE Z b1 b2 k1 k2 xb (0 : Int32) 0 yb (3 : Int32) 3 h0 n0 _ s₁.heap _
      rw [e0]
      exact ⟨own_ri ((own_sN (fun q_ => absurd q_.1 (by decide))).symm), N0, rfl⟩
  · rcases hyl with ⟨rfl, rfl⟩ | ⟨rfl, rfl⟩ | ⟨rfl, rfl⟩ | ⟨rfl, rfl⟩
    · have AA1c : Arv Z h0 b1 k1 .byte (1 : Int32) [(.int (own_b (own_c (((xb.toUInt32 >>> ((2 : Int32) &&& 31).toUInt32).toInt32) &&& (255 : Int32)))))] (.int (0 : Int32)) := AA1
      have AA2c : Arv Z h0 b2 k2 .byte (0 : Int32) [] (.int (0 : Int32)) := AA2
      show own_Go p.tables e below RR (s₁.setTop (mkF m 0 #[.val (.ref b1), .val (.ref b2), .unset] []))
      refine own_st (fun _ k => XS.aloadN X0.here hx rfl (hb hby own_djdk_43_method_13_code_0) rfl rfl k) ?_
      show own_Go p.tables e below RR (s₁.setTop (mkF m 1 #[.val (.ref b1), .val (.ref b2), .unset] [(.ref b1)]))
      obtain ⟨c10, A10, -, s10, m10, -, -⟩ := id AA1c
      refine own_st (fun _ k => own_len X0 hx hZ e0 A10 s10 m10 (g := (mkF m 1 #[.val (.ref b1), .val (.ref b2), .unset] [(.ref b1)])) rfl rfl (hb hby own_djdk_43_method_13_code_1) (XS.aloadN X0.here hx rfl (hb hby own_djdk_43_method_13_code_2) rfl rfl k)) ?_
      show own_Go p.tables e below RR (s₁.setTop (mkF m 3 #[.val (.ref b1), .val (.ref b2), .unset] [(.ref b2), (.int (1 : Int32))]))
      obtain ⟨c11, A11, -, s11, m11, -, -⟩ := id AA2c
      refine own_st (fun _ k => own_len X0 hx hZ e0 A11 s11 m11 (g := (mkF m 3 #[.val (.ref b1), .val (.ref b2), .unset] [(.ref b2), (.int (1 : Int32))])) rfl rfl (hb hby own_djdk_43_method_13_code_3) k) ?_
      show own_Go p.tables e below RR (s₁.setTop (mkF m 4 #[.val (.ref b1), .val (.ref b2), .unset] [(.int (0 : Int32)), (.int (1 : Int32))]))
      refine own_st (fun _ k => XS.icmpYes X0.here hx rfl (pc0 := 4) (pc' := 34) rfl (hb hby own_djdk_43_method_13_code_4) rfl (feq (by decide)).2 (by decide) (by decide) (XS.iconst X0.here hx rfl (hb hby own_djdk_43_method_13_code_34) k)) ?_
      show own_Go p.tables e below RR (s₁.setTop (mkF m 35 #[.val (.ref b1), .val (.ref b2), .unset] [(.int (0 : Int32))]))
      obtain ⟨fs, hrt_, hrun, hended, hW, hsame⟩ := X0.leave (v := some (.int (0 : Int32))) (fun h => by rw [Bd.returns] at h; cases h)
      refine own_fin (retN X0 hx (t := .boolean) Bd.returns (by simp) (hb hby own_djdk_43_method_13_code_35) hrt_) (hRR _ ⟨_, hrun, hended, _, _, rfl, ?_, ⟨_, rfl⟩, hW, hsame.mono (by decide) (by decide)⟩)
      show own_QLE Z b1 b2 k1 k2 xb (1 : Int32) 1 yb (0 : Int32) 0 h0 n0 _ s₁.heap _
      rw [e0]
      exact ⟨own_ri ((own_sN (fun q_ => absurd q_.1 (by decide))).symm), N0, rfl⟩
    · have AA1c : Arv Z h0 b1 k1 .byte (1 : Int32) [(.int (own_b (own_c (((xb.toUInt32 >>> ((2 : Int32) &&& 31).toUInt32).toInt32) &&& (255 : Int32)))))] (.int (0 : Int32)) := AA1
      have AA2c : Arv Z h0 b2 k2 .byte (1 : Int32) [(.int (own_b (own_c (((yb.toUInt32 >>> ((2 : Int32) &&& 31).toUInt32).toInt32) &&& (255 : Int32)))))] (.int (0 : Int32)) := AA2
      show own_Go p.tables e below RR (s₁.setTop (mkF m 0 #[.val (.ref b1), .val (.ref b2), .unset] []))
      refine own_st (fun _ k => XS.aloadN X0.here hx rfl (hb hby own_djdk_43_method_13_code_0) rfl rfl k) ?_
      show own_Go p.tables e below RR (s₁.setTop (mkF m 1 #[.val (.ref b1), .val (.ref b2), .unset] [(.ref b1)]))
      obtain ⟨c12, A12, -, s12, m12, -, -⟩ := id AA1c
      refine own_st (fun _ k => own_len X0 hx hZ e0 A12 s12 m12 (g := (mkF m 1 #[.val (.ref b1), .val (.ref b2), .unset] [(.ref b1)])) rfl rfl (hb hby own_djdk_43_method_13_code_1) (XS.aloadN X0.here hx rfl (hb hby own_djdk_43_method_13_code_2) rfl rfl k)) ?_
      show own_Go p.tables e below RR (s₁.setTop (mkF m 3 #[.val (.ref b1), .val (.ref b2), .unset] [(.ref b2), (.int (1 : Int32))]))
      obtain ⟨c13, A13, -, s13, m13, -, -⟩ := id AA2c
      refine own_st (fun _ k => own_len X0 hx hZ e0 A13 s13 m13 (g := (mkF m 3 #[.val (.ref b1), .val (.ref b2), .unset] [(.ref b2), (.int (1 : Int32))])) rfl rfl (hb hby own_djdk_43_method_13_code_3) k) ?_
      show own_Go p.tables e below RR (s₁.setTop (mkF m 4 #[.val (.ref b1), .val (.ref b2), .unset] [(.int (1 : Int32)), (.int (1 : Int32))]))
      refine own_st (fun _ k => XS.icmpNo X0.here hx rfl (hb hby own_djdk_43_method_13_code_4) rfl (teq (by decide)).2 (XS.iconst X0.here hx rfl (hb hby own_djdk_43_method_13_code_7) (XS.istoreN X0.here hx rfl (hb hby own_djdk_43_method_13_code_8) rfl (l' := #[.val (.ref b1), .val (.ref b2), .val (.int (0 : Int32))]) rfl (XS.iloadN X0.here hx rfl (hb hby own_djdk_43_method_13_code_9) rfl (XS.aloadN X0.here hx rfl (hb hby own_djdk_43_method_13_code_10) rfl rfl k))))) ?_
      show own_Go p.tables e below RR (s₁.setTop (mkF m 11 #[.val (.ref b1), .val (.ref b2), .val (.int (0 : Int32))] [(.ref b1), (.int (0 : Int32))]))
      obtain ⟨c14, A14, -, s14, m14, -, -⟩ := id AA1c
      refine own_st (fun _ k => own_len X0 hx hZ e0 A14 s14 m14 (g := (mkF m 11 #[.val (.ref b1), .val (.ref b2), .val (.int (0 : Int32))] [(.ref b1), (.int (0 : Int32))])) rfl rfl (hb hby own_djdk_43_method_13_code_11) k) ?_
      show own_Go p.tables e below RR (s₁.setTop (mkF m 12 #[.val (.ref b1), .val (.ref b2), .val (.int (0 : Int32))] [(.int (1 : Int32)), (.int (0 : Int32))]))
      refine own_st (fun _ k => XS.icmpNo X0.here hx rfl (hb hby own_djdk_43_method_13_code_12) rfl (tlt (by decide)).2.1 (XS.aloadN X0.here hx rfl (hb hby own_djdk_43_method_13_code_15) rfl rfl (XS.iloadN X0.here hx rfl (hb hby own_djdk_43_method_13_code_16) rfl k))) ?_
      show own_Go p.tables e below RR (s₁.setTop (mkF m 17 #[.val (.ref b1), .val (.ref b2), .val (.int (0 : Int32))] [(.int (0 : Int32)), (.ref b1)]))
      obtain ⟨c15, A15, q15, s15, m15, H15, G15⟩ := id AA1c
      have b15 := inb_of (j := (0 : Int32)) s15 ⟨by decide, by decide⟩
      refine own_st (fun _ k => X0.baloadBytes hx (j := (0 : Int32)) (v := (.int (own_b (own_c (((xb.toUInt32 >>> ((2 : Int32) &&& 31).toUInt32).toInt32) &&& (255 : Int32)))))) (by rw [e0]; exact A15.1) (State.isArrayOf_alike hZ.alike A15.2.1) A15.2.2 b15 (Has.at H15 b15 rfl) (g := (mkF m 17 #[.val (.ref b1), .val (.ref b2), .val (.int (0 : Int32))] [(.int (0 : Int32)), (.ref b1)])) rfl rfl (hb hby own_djdk_43_method_13_code_17) _ (XS.aloadN X0.here hx rfl (hb hby own_djdk_43_method_13_code_18) rfl rfl (XS.iloadN X0.here hx rfl (hb hby own_djdk_43_method_13_code_19) rfl k))) ?_
      show own_Go p.tables e below RR (s₁.setTop (mkF m 20 #[.val (.ref b1), .val (.ref b2), .val (.int (0 : Int32))] [(.int (0 : Int32)), (.ref b2), (.int (own_b (own_c (((xb.toUInt32 >>> ((2 : Int32) &&& 31).toUInt32).toInt32) &&& (255 : Int32)))))]))
      obtain ⟨c16, A16, q16, s16, m16, H16, G16⟩ := id AA2c
      have b16 := inb_of (j := (0 : Int32)) s16 ⟨by decide, by decide⟩
      refine own_st (fun _ k => X0.baloadBytes hx (j := (0 : Int32)) (v := (.int (own_b (own_c (((yb.toUInt32 >>> ((2 : Int32) &&& 31).toUInt32).toInt32) &&& (255 : Int32)))))) (by rw [e0]; exact A16.1) (State.isArrayOf_alike hZ.alike A16.2.1) A16.2.2 b16 (Has.at H16 b16 rfl) (g := (mkF m 20 #[.val (.ref b1), .val (.ref b2), .val (.int (0 : Int32))] [(.int (0 : Int32)), (.ref b2), (.int (own_b (own_c (((xb.toUInt32 >>> ((2 : Int32) &&& 31).toUInt32).toInt32) &&& (255 : Int32)))))])) rfl rfl (hb hby own_djdk_43_method_13_code_20) _ k) ?_
      show own_Go p.tables e below RR (s₁.setTop (mkF m 21 #[.val (.ref b1), .val (.ref b2), .val (.int (0 : Int32))] [(.int (own_b (own_c (((yb.toUInt32 >>> ((2 : Int32) &&& 31).toUInt32).toInt32) &&& (255 : Int32))))), (.int (own_b (own_c (((xb.toUInt32 >>> ((2 : Int32) &&& 31).toUInt32).toInt32) &&& (255 : Int32)))))]))
      by_cases hc21_17 : (own_b (own_c (((xb.toUInt32 >>> ((2 : Int32) &&& 31).toUInt32).toInt32) &&& (255 : Int32)))) = (own_b (own_c (((yb.toUInt32 >>> ((2 : Int32) &&& 31).toUInt32).toInt32) &&& (255 : Int32))))
      · refine own_st (fun _ k => XS.icmpYes X0.here hx rfl (pc0 := 21) (pc' := 26) rfl (hb hby own_djdk_43_method_13_code_21) rfl (teq hc21_17).1 (by decide) (by decide) (XS.iinc X0.here hx rfl (hb hby own_djdk_43_method_13_code_26) rfl (l' := #[.val (.ref b1), .val (.ref b2), .val (.int (1 : Int32))]) rfl (XS.goto X0.here hx rfl (pc0 := 29) (pc' := 9) rfl (hb hby own_djdk_43_method_13_code_29) (by decide) (by decide) (XS.iloadN X0.here hx rfl (hb hby own_djdk_43_method_13_code_9) rfl (XS.aloadN X0.here hx rfl (hb hby own_djdk_43_method_13_code_10) rfl rfl k))))) ?_
        show own_Go p.tables e below RR (s₁.setTop (mkF m 11 #[.val (.ref b1), .val (.ref b2), .val (.int (1 : Int32))] [(.ref b1), (.int (1 : Int32))]))
        obtain ⟨c18, A18, -, s18, m18, -, -⟩ := id AA1c
        refine own_st (fun _ k => own_len X0 hx hZ e0 A18 s18 m18 (g := (mkF m 11 #[.val (.ref b1), .val (.ref b2), .val (.int (1 : Int32))] [(.ref b1), (.int (1 : Int32))])) rfl rfl (hb hby own_djdk_43_method_13_code_11) k) ?_
        show own_Go p.tables e below RR (s₁.setTop (mkF m 12 #[.val (.ref b1), .val (.ref b2), .val (.int (1 : Int32))] [(.int (1 : Int32)), (.int (1 : Int32))]))
        refine own_st (fun _ k => XS.icmpYes X0.here hx rfl (pc0 := 12) (pc' := 32) rfl (hb hby own_djdk_43_method_13_code_12) rfl (flt (by decide)).2.1 (by decide) (by decide) (XS.iconst X0.here hx rfl (hb hby own_djdk_43_method_13_code_32) k)) ?_
        show own_Go p.tables e below RR (s₁.setTop (mkF m 33 #[.val (.ref b1), .val (.ref b2), .val (.int (1 : Int32))] [(.int (1 : Int32))]))
        obtain ⟨fs, hrt_, hrun, hended, hW, hsame⟩ := X0.leave (v := some (.int (1 : Int32))) (fun h => by rw [Bd.returns] at h; cases h)
        refine own_fin (retN X0 hx (t := .boolean) Bd.returns (by simp) (hb hby own_djdk_43_method_13_code_33) hrt_) (hRR _ ⟨_, hrun, hended, _, _, rfl, ?_, ⟨_, rfl⟩, hW, hsame.mono (by decide) (by decide)⟩)
        show own_QLE Z b1 b2 k1 k2 xb (1 : Int32) 1 yb (1 : Int32) 1 h0 n0 _ s₁.heap _
        rw [e0]
        exact ⟨own_ri ((own_sY ⟨rfl, fun _ => ((own_beq (own_255 _) (own_255 _)).mp hc21_17), fun z_ => absurd z_ (by decide), fun z_ => absurd z_ (by decide)⟩).symm), N0, rfl⟩
      · refine own_st (fun _ k => XS.icmpNo X0.here hx rfl (hb hby own_djdk_43_method_13_code_21) rfl (feq hc21_17).1 (XS.iconst X0.here hx rfl (hb hby own_djdk_43_method_13_code_24) k)) ?_
        show own_Go p.tables e below RR (s₁.setTop (mkF m 25 #[.val (.ref b1), .val (.ref b2), .val (.int (0 : Int32))] [(.int (0 : Int32))]))
        obtain ⟨fs, hrt_, hrun, hended, hW, hsame⟩ := X0.leave (v := some (.int (0 : Int32))) (fun h => by rw [Bd.returns] at h; cases h)
        refine own_fin (retN X0 hx (t := .boolean) Bd.returns (by simp) (hb hby own_djdk_43_method_13_code_25) hrt_) (hRR _ ⟨_, hrun, hended, _, _, rfl, ?_, ⟨_, rfl⟩, hW, hsame.mono (by decide) (by decide)⟩)
        show own_QLE Z b1 b2 k1 k2 xb (1 : Int32) 1 yb (1 : Int32) 1 h0 n0 _ s₁.heap _
        rw [e0]
        exact ⟨own_ri ((own_sN (fun q_ => (fun z_ => hc21_17 ((own_beq (own_255 _) (own_255 _)).mpr z_)) (q_.2.1 (by decide)))).symm), N0, rfl⟩
    · have AA1c : Arv Z h0 b1 k1 .byte (1 : Int32) [(.int (own_b (own_c (((xb.toUInt32 >>> ((2 : Int32) &&& 31).toUInt32).toInt32) &&& (255 : Int32)))))] (.int (0 : Int32)) := AA1
      have AA2c : Arv Z h0 b2 k2 .byte (2 : Int32) [(.int (own_b (own_c (((yb.toUInt32 >>> ((2 : Int32) &&& 31).toUInt32).toInt32) &&& (255 : Int32))))), (.int (own_b (own_c (((yb.toUInt32 >>> ((10 : Int32) &&& 31).toUInt32).toInt32) &&& (255 : Int32)))))] (.int (0 : Int32)) := AA2
      show own_Go p.tables e below RR (s₁.setTop (mkF m 0 #[.val (.ref b1), .val (.ref b2), .unset] []))
      refine own_st (fun _ k => XS.aloadN X0.here hx rfl (hb hby own_djdk_43_method_13_code_0) rfl rfl k) ?_
      show own_Go p.tables e below RR (s₁.setTop (mkF m 1 #[.val (.ref b1), .val (.ref b2), .unset] [(.ref b1)]))
      obtain ⟨c19, A19, -, s19, m19, -, -⟩ := id AA1c
      refine own_st (fun _ k => own_len X0 hx hZ e0 A19 s19 m19 (g := (mkF m 1 #[.val (.ref b1), .val (.ref b2), .unset] [(.ref b1)])) rfl rfl (hb hby own_djdk_43_method_13_code_1) (XS.aloadN X0.here hx rfl (hb hby own_djdk_43_method_13_code_2) rfl rfl k)) ?_
      show own_Go p.tables e below RR (s₁.setTop (mkF m 3 #[.val (.ref b1), .val (.ref b2), .unset] [(.ref b2), (.int (1 : Int32))]))
      obtain ⟨c20, A20, -, s20, m20, -, -⟩ := id AA2c
      refine own_st (fun _ k => own_len X0 hx hZ e0 A20 s20 m20 (g := (mkF m 3 #[.val (.ref b1), .val (.ref b2), .unset] [(.ref b2), (.int (1 : Int32))])) rfl rfl (hb hby own_djdk_43_method_13_code_3) k) ?_
      show own_Go p.tables e below RR (s₁.setTop (mkF m 4 #[.val (.ref b1), .val (.ref b2), .unset] [(.int (2 : Int32)), (.int (1 : Int32))]))
      refine own_st (fun _ k => XS.icmpYes X0.here hx rfl (pc0 := 4) (pc' := 34) rfl (hb hby own_djdk_43_method_13_code_4) rfl (feq (by decide)).2 (by decide) (by decide) (XS.iconst X0.here hx rfl (hb hby own_djdk_43_method_13_code_34) k)) ?_
      show own_Go p.tables e below RR (s₁.setTop (mkF m 35 #[.val (.ref b1), .val (.ref b2), .unset] [(.int (0 : Int32))]))
      obtain ⟨fs, hrt_, hrun, hended, hW, hsame⟩ := X0.leave (v := some (.int (0 : Int32))) (fun h => by rw [Bd.returns] at h; cases h)
      refine own_fin (retN X0 hx (t := .boolean) Bd.returns (by simp) (hb hby own_djdk_43_method_13_code_35) hrt_) (hRR _ ⟨_, hrun, hended, _, _, rfl, ?_, ⟨_, rfl⟩, hW, hsame.mono (by decide) (by decide)⟩)
      show own_QLE Z b1 b2 k1 k2 xb (1 : Int32) 1 yb (2 : Int32) 2 h0 n0 _ s₁.heap _
      rw [e0]
      exact ⟨own_ri ((own_sN (fun q_ => absurd q_.1 (by decide))).symm), N0, rfl⟩
    · have AA1c : Arv Z h0 b1 k1 .byte (1 : Int32) [(.int (own_b (own_c (((xb.toUInt32 >>> ((2 : Int32) &&& 31).toUInt32).toInt32) &&& (255 : Int32)))))] (.int (0 : Int32)) := AA1
      have AA2c : Arv Z h0 b2 k2 .byte (3 : Int32) [(.int (own_b (own_c (((yb.toUInt32 >>> ((2 : Int32) &&& 31).toUInt32).toInt32) &&& (255 : Int32))))), (.int (own_b (own_c (((yb.toUInt32 >>> ((10 : Int32) &&& 31).toUInt32).toInt32) &&& (255 : Int32))))), (.int (own_b (own_c (((yb.toUInt32 >>> ((18 : Int32) &&& 31).toUInt32).toInt32) &&& (255 : Int32)))))] (.int (0 : Int32)) := AA2
      show own_Go p.tables e below RR (s₁.setTop (mkF m 0 #[.val (.ref b1), .val (.ref b2), .unset] []))
      refine own_st (fun _ k => XS.aloadN X0.here hx rfl (hb hby own_djdk_43_method_13_code_0) rfl rfl k) ?_
      show own_Go p.tables e below RR (s₁.setTop (mkF m 1 #[.val (.ref b1), .val (.ref b2), .unset] [(.ref b1)]))
      obtain ⟨c21, A21, -, s21, m21, -, -⟩ := id AA1c
      refine own_st (fun _ k => own_len X0 hx hZ e0 A21 s21 m21 (g := (mkF m 1 #[.val (.ref b1), .val (.ref b2), .unset] [(.ref b1)])) rfl rfl (hb hby own_djdk_43_method_13_code_1) (XS.aloadN X0.here hx rfl (hb hby own_djdk_43_method_13_code_2) rfl rfl k)) ?_
      show own_Go p.tables e below RR (s₁.setTop (mkF m 3 #[.val (.ref b1), .val (.ref b2), .unset] [(.ref b2), (.int (1 : Int32))]))
      obtain ⟨c22, A22, -, s22, m22, -, -⟩ := id AA2c
      refine own_st (fun _ k => own_len X0 hx hZ e0 A22 s22 m22 (g := (mkF m 3 #[.val (.ref b1), .val (.ref b2), .unset] [(.ref b2), (.int (1 : Int32))])) rfl rfl (hb hby own_djdk_43_method_13_code_3) k) ?_
      show own_Go p.tables e below RR (s₁.setTop (mkF m 4 #[.val (.ref b1), .val (.ref b2), .unset] [(.int (3 : Int32)), (.int (1 : Int32))]))
      refine own_st (fun _ k => XS.icmpYes X0.here hx rfl (pc0 := 4) (pc' := 34) rfl (hb hby own_djdk_43_method_13_code_4) rfl (feq (by decide)).2 (by decide) (by decide) (XS.iconst X0.here hx rfl (hb hby own_djdk_43_method_13_code_34) k)) ?_
      show own_Go p.tables e below RR (s₁.setTop (mkF m 35 #[.val (.ref b1), .val (.ref b2), .unset] [(.int (0 : Int32))]))
      obtain ⟨fs, hrt_, hrun, hended, hW, hsame⟩ := X0.leave (v := some (.int (0 : Int32))) (fun h => by rw [Bd.returns] at h; cases h)
      refine own_fin (retN X0 hx (t := .boolean) Bd.returns (by simp) (hb hby own_djdk_43_method_13_code_35) hrt_) (hRR _ ⟨_, hrun, hended, _, _, rfl, ?_, ⟨_, rfl⟩, hW, hsame.mono (by decide) (by decide)⟩)
      show own_QLE Z b1 b2 k1 k2 xb (1 : Int32) 1 yb (3 : Int32) 3 h0 n0 _ s₁.heap _
      rw [e0]
      exact ⟨own_ri ((own_sN (fun q_ => absurd q_.1 (by decide))).symm), N0, rfl⟩
  · rcases hyl with ⟨rfl, rfl⟩ | ⟨rfl, rfl⟩ | ⟨rfl, rfl⟩ | ⟨rfl, rfl⟩
    · have AA1c : Arv Z h0 b1 k1 .byte (2 : Int32) [(.int (own_b (own_c (((xb.toUInt32 >>> ((2 : Int32) &&& 31).toUInt32).toInt32) &&& (255 : Int32))))), (.int (own_b (own_c (((xb.toUInt32 >>> ((10 : Int32) &&& 31).toUInt32).toInt32) &&& (255 : Int32)))))] (.int (0 : Int32)) := AA1
      have AA2c : Arv Z h0 b2 k2 .byte (0 : Int32) [] (.int (0 : Int32)) := AA2
      show own_Go p.tables e below RR (s₁.setTop (mkF m 0 #[.val (.ref b1), .val (.ref b2), .unset] []))
      refine own_st (fun _ k => XS.aloadN X0.here hx rfl (hb hby own_djdk_43_method_13_code_0) rfl rfl k) ?_
      show own_Go p.tables e below RR (s₁.setTop (mkF m 1 #[.val (.ref b1), .val (.ref b2), .unset] [(.ref b1)]))
      obtain ⟨c23, A23, -, s23, m23, -, -⟩ := id AA1c
      refine own_st (fun _ k => own_len X0 hx hZ e0 A23 s23 m23 (g := (mkF m 1 #[.val (.ref b1), .val (.ref b2), .unset] [(.ref b1)])) rfl rfl (hb hby own_djdk_43_method_13_code_1) (XS.aloadN X0.here hx rfl (hb hby own_djdk_43_method_13_code_2) rfl rfl k)) ?_
      show own_Go p.tables e below RR (s₁.setTop (mkF m 3 #[.val (.ref b1), .val (.ref b2), .unset] [(.ref b2), (.int (2 : Int32))]))
      obtain ⟨c24, A24, -, s24, m24, -, -⟩ := id AA2c
      refine own_st (fun _ k => own_len X0 hx hZ e0 A24 s24 m24 (g := (mkF m 3 #[.val (.ref b1), .val (.ref b2), .unset] [(.ref b2), (.int (2 : Int32))])) rfl rfl (hb hby own_djdk_43_method_13_code_3) k) ?_
      show own_Go p.tables e below RR (s₁.setTop (mkF m 4 #[.val (.ref b1), .val (.ref b2), .unset] [(.int (0 : Int32)), (.int (2 : Int32))]))
      refine own_st (fun _ k => XS.icmpYes X0.here hx rfl (pc0 := 4) (pc' := 34) rfl (hb hby own_djdk_43_method_13_code_4) rfl (feq (by decide)).2 (by decide) (by decide) (XS.iconst X0.here hx rfl (hb hby own_djdk_43_method_13_code_34) k)) ?_
      show own_Go p.tables e below RR (s₁.setTop (mkF m 35 #[.val (.ref b1), .val (.ref b2), .unset] [(.int (0 : Int32))]))
      obtain ⟨fs, hrt_, hrun, hended, hW, hsame⟩ := X0.leave (v := some (.int (0 : Int32))) (fun h => by rw [Bd.returns] at h; cases h)
      refine own_fin (retN X0 hx (t := .boolean) Bd.returns (by simp) (hb hby own_djdk_43_method_13_code_35) hrt_) (hRR _ ⟨_, hrun, hended, _, _, rfl, ?_, ⟨_, rfl⟩, hW, hsame.mono (by decide) (by decide)⟩)
      show own_QLE Z b1 b2 k1 k2 xb (2 : Int32) 2 yb (0 : Int32) 0 h0 n0 _ s₁.heap _
      rw [e0]
      exact ⟨own_ri ((own_sN (fun q_ => absurd q_.1 (by decide))).symm), N0, rfl⟩
    · have AA1c : Arv Z h0 b1 k1 .byte (2 : Int32) [(.int (own_b (own_c (((xb.toUInt32 >>> ((2 : Int32) &&& 31).toUInt32).toInt32) &&& (255 : Int32))))), (.int (own_b (own_c (((xb.toUInt32 >>> ((10 : Int32) &&& 31).toUInt32).toInt32) &&& (255 : Int32)))))] (.int (0 : Int32)) := AA1
      have AA2c : Arv Z h0 b2 k2 .byte (1 : Int32) [(.int (own_b (own_c (((yb.toUInt32 >>> ((2 : Int32) &&& 31).toUInt32).toInt32) &&& (255 : Int32)))))] (.int (0 : Int32)) := AA2
      show own_Go p.tables e below RR (s₁.setTop (mkF m 0 #[.val (.ref b1), .val (.ref b2), .unset] []))
      refine own_st (fun _ k => XS.aloadN X0.here hx rfl (hb hby own_djdk_43_method_13_code_0) rfl rfl k) ?_
      show own_Go p.tables e below RR (s₁.setTop (mkF m 1 #[.val (.ref b1), .val (.ref b2), .unset] [(.ref b1)]))
      obtain ⟨c25, A25, -, s25, m25, -, -⟩ := id AA1c
      refine own_st (fun _ k => own_len X0 hx hZ e0 A25 s25 m25 (g := (mkF m 1 #[.val (.ref b1), .val (.ref b2), .unset] [(.ref b1)])) rfl rfl (hb hby own_djdk_43_method_13_code_1) (XS.aloadN X0.here hx rfl (hb hby own_djdk_43_method_13_code_2) rfl rfl k)) ?_
      show own_Go p.tables e below RR (s₁.setTop (mkF m 3 #[.val (.ref b1), .val (.ref b2), .unset] [(.ref b2), (.int (2 : Int32))]))
      obtain ⟨c26, A26, -, s26, m26, -, -⟩ := id AA2c
      refine own_st (fun _ k => own_len X0 hx hZ e0 A26 s26 m26 (g := (mkF m 3 #[.val (.ref b1), .val (.ref b2), .unset] [(.ref b2), (.int (2 : Int32))])) rfl rfl (hb hby own_djdk_43_method_13_code_3) k) ?_
      show own_Go p.tables e below RR (s₁.setTop (mkF m 4 #[.val (.ref b1), .val (.ref b2), .unset] [(.int (1 : Int32)), (.int (2 : Int32))]))
      refine own_st (fun _ k => XS.icmpYes X0.here hx rfl (pc0 := 4) (pc' := 34) rfl (hb hby own_djdk_43_method_13_code_4) rfl (feq (by decide)).2 (by decide) (by decide) (XS.iconst X0.here hx rfl (hb hby own_djdk_43_method_13_code_34) k)) ?_
      show own_Go p.tables e below RR (s₁.setTop (mkF m 35 #[.val (.ref b1), .val (.ref b2), .unset] [(.int (0 : Int32))]))
      obtain ⟨fs, hrt_, hrun, hended, hW, hsame⟩ := X0.leave (v := some (.int (0 : Int32))) (fun h => by rw [Bd.returns] at h; cases h)
      refine own_fin (retN X0 hx (t := .boolean) Bd.returns (by simp) (hb hby own_djdk_43_method_13_code_35) hrt_) (hRR _ ⟨_, hrun, hended, _, _, rfl, ?_, ⟨_, rfl⟩, hW, hsame.mono (by decide) (by decide)⟩)
      show own_QLE Z b1 b2 k1 k2 xb (2 : Int32) 2 yb (1 : Int32) 1 h0 n0 _ s₁.heap _
      rw [e0]
      exact ⟨own_ri ((own_sN (fun q_ => absurd q_.1 (by decide))).symm), N0, rfl⟩
    · have AA1c : Arv Z h0 b1 k1 .byte (2 : Int32) [(.int (own_b (own_c (((xb.toUInt32 >>> ((2 : Int32) &&& 31).toUInt32).toInt32) &&& (255 : Int32))))), (.int (own_b (own_c (((xb.toUInt32 >>> ((10 : Int32) &&& 31).toUInt32).toInt32) &&& (255 : Int32)))))] (.int (0 : Int32)) := AA1
      have AA2c : Arv Z h0 b2 k2 .byte (2 : Int32) [(.int (own_b (own_c (((yb.toUInt32 >>> ((2 : Int32) &&& 31).toUInt32).toInt32) &&& (255 : Int32))))), (.int (own_b (own_c (((yb.toUInt32 >>> ((10 : Int32) &&& 31).toUInt32).toInt32) &&& (255 : Int32)))))] (.int (0 : Int32)) := AA2
      show own_Go p.tables e below RR (s₁.setTop (mkF m 0 #[.val (.ref b1), .val (.ref b2), .unset] []))
      refine own_st (fun _ k => XS.aloadN X0.here hx rfl (hb hby own_djdk_43_method_13_code_0) rfl rfl k) ?_
      show own_Go p.tables e below RR (s₁.setTop (mkF m 1 #[.val (.ref b1), .val (.ref b2), .unset] [(.ref b1)]))
      obtain ⟨c27, A27, -, s27, m27, -, -⟩ := id AA1c
      refine own_st (fun _ k => own_len X0 hx hZ e0 A27 s27 m27 (g := (mkF m 1 #[.val (.ref b1), .val (.ref b2), .unset] [(.ref b1)])) rfl rfl (hb hby own_djdk_43_method_13_code_1) (XS.aloadN X0.here hx rfl (hb hby own_djdk_43_method_13_code_2) rfl rfl k)) ?_
      show own_Go p.tables e below RR (s₁.setTop (mkF m 3 #[.val (.ref b1), .val (.ref b2), .unset] [(.ref b2), (.int (2 : Int32))]))
      obtain ⟨c28, A28, -, s28, m28, -, -⟩ := id AA2c
      refine own_st (fun _ k => own_len X0 hx hZ e0 A28 s28 m28 (g := (mkF m 3 #[.val (.ref b1), .val (.ref b2), .unset] [(.ref b2), (.int (2 : Int32))])) rfl rfl (hb hby own_djdk_43_method_13_code_3) k) ?_
      show own_Go p.tables e below RR (s₁.setTop (mkF m 4 #[.val (.ref b1), .val (.ref b2), .unset] [(.int (2 : Int32)), (.int (2 : Int32))]))
      refine own_st (fun _ k => XS.icmpNo X0.here hx rfl (hb hby own_djdk_43_method_13_code_4) rfl (teq (by decide)).2 (XS.iconst X0.here hx rfl (hb hby own_djdk_43_method_13_code_7) (XS.istoreN X0.here hx rfl (hb hby own_djdk_43_method_13_code_8) rfl (l' := #[.val (.ref b1), .val (.ref b2), .val (.int (0 : Int32))]) rfl (XS.iloadN X0.here hx rfl (hb hby own_djdk_43_method_13_code_9) rfl (XS.aloadN X0.here hx rfl (hb hby own_djdk_43_method_13_code_10) rfl rfl k))))) ?_
      show own_Go p.tables e below RR (s₁.setTop (mkF m 11 #[.val (.ref b1), .val (.ref b2), .val (.int (0 : Int32))] [(.ref b1), (.int (0 : Int32))]))
      obtain ⟨c29, A29, -, s29, m29, -, -⟩ := id AA1c
      refine own_st (fun _ k => own_len X0 hx hZ e0 A29 s29 m29 (g := (mkF m 11 #[.val (.ref b1), .val (.ref b2), .val (.int (0 : Int32))] [(.ref b1), (.int (0 : Int32))])) rfl rfl (hb hby own_djdk_43_method_13_code_11) k) ?_
      show own_Go p.tables e below RR (s₁.setTop (mkF m 12 #[.val (.ref b1), .val (.ref b2), .val (.int (0 : Int32))] [(.int (2 : Int32)), (.int (0 : Int32))]))
      refine own_st (fun _ k => XS.icmpNo X0.here hx rfl (hb hby own_djdk_43_method_13_code_12) rfl (tlt (by decide)).2.1 (XS.aloadN X0.here hx rfl (hb hby own_djdk_43_method_13_code_15) rfl rfl (XS.iloadN X0.here hx rfl (hb hby own_djdk_43_method_13_code_16) rfl k))) ?_
      show own_Go p.tables e below RR (s₁.setTop (mkF m 17 #[.val (.ref b1), .val (.ref b2), .val (.int (0 : Int32))] [(.int (0 : Int32)), (.ref b1)]))
      obtain ⟨c30, A30, q30, s30, m30, H30, G30⟩ := id AA1c
      have b30 := inb_of (j := (0 : Int32)) s30 ⟨by decide, by decide⟩
      refine own_st (fun _ k => X0.baloadBytes hx (j := (0 : Int32)) (v := (.int (own_b (own_c (((xb.toUInt32 >>> ((2 : Int32) &&& 31).toUInt32).toInt32) &&& (255 : Int32)))))) (by rw [e0]; exact A30.1) (State.isArrayOf_alike hZ.alike A30.2.1) A30.2.2 b30 (Has.at H30 b30 rfl) (g := (mkF m 17 #[.val (.ref b1), .val (.ref b2), .val (.int (0 : Int32))] [(.int (0 : Int32)), (.ref b1)])) rfl rfl (hb hby own_djdk_43_method_13_code_17) _ (XS.aloadN X0.here hx rfl (hb hby own_djdk_43_method_13_code_18) rfl rfl (XS.iloadN X0.here hx rfl (hb hby own_djdk_43_method_13_code_19) rfl k))) ?_
      show own_Go p.tables e below RR (s₁.setTop (mkF m 20 #[.val (.ref b1), .val (.ref b2), .val (.int (0 : Int32))] [(.int (0 : Int32)), (.ref b2), (.int (own_b (own_c (((xb.toUInt32 >>> ((2 : Int32) &&& 31).toUInt32).toInt32) &&& (255 : Int32)))))]))
      obtain ⟨c31, A31, q31, s31, m31, H31, G31⟩ := id AA2c
      have b31 := inb_of (j := (0 : Int32)) s31 ⟨by decide, by decide⟩
      refine own_st (fun _ k => X0.baloadBytes hx (j := (0 : Int32)) (v := (.int (own_b (own_c (((yb.toUInt32 >>> ((2 : Int32) &&& 31).toUInt32).toInt32) &&& (255 : Int32)))))) (by rw [e0]; exact A31.1) (State.isArrayOf_alike hZ.alike A31.2.1) A31.2.2 b31 (Has.at H31 b31 rfl) (g := (mkF m 20 #[.val (.ref b1), .val (.ref b2), .val (.int (0 : Int32))] [(.int (0 : Int32)), (.ref b2), (.int (own_b (own_c (((xb.toUInt32 >>> ((2 : Int32) &&& 31).toUInt32).toInt32) &&& (255 : Int32)))))])) rfl rfl (hb hby own_djdk_43_method_13_code_20) _ k) ?_
      show own_Go p.tables e below RR (s₁.setTop (mkF m 21 #[.val (.ref b1), .val (.ref b2), .val (.int (0 : Int32))] [(.int (own_b (own_c (((yb.toUInt32 >>> ((2 : Int32) &&& 31).toUInt32).toInt32) &&& (255 : Int32))))), (.int (own_b (own_c (((xb.toUInt32 >>> ((2 : Int32) &&& 31).toUInt32).toInt32) &&& (255 : Int32)))))]))
      by_cases hc21_32 : (own_b (own_c (((xb.toUInt32 >>> ((2 : Int32) &&& 31).toUInt32).toInt32) &&& (255 : Int32)))) = (own_b (own_c (((yb.toUInt32 >>> ((2 : Int32) &&& 31).toUInt32).toInt32) &&& (255 : Int32))))
      · refine own_st (fun _ k => XS.icmpYes X0.here hx rfl (pc0 := 21) (pc' := 26) rfl (hb hby own_djdk_43_method_13_code_21) rfl (teq hc21_32).1 (by decide) (by decide) (XS.iinc X0.here hx rfl (hb hby own_djdk_43_method_13_code_26) rfl (l' := #[.val (.ref b1), .val (.ref b2), .val (.int (1 : Int32))]) rfl (XS.goto X0.here hx rfl (pc0 := 29) (pc' := 9) rfl (hb hby own_djdk_43_method_13_code_29) (by decide) (by decide) (XS.iloadN X0.here hx rfl (hb hby own_djdk_43_method_13_code_9) rfl (XS.aloadN X0.here hx rfl (hb hby own_djdk_43_method_13_code_10) rfl rfl k))))) ?_
        show own_Go p.tables e below RR (s₁.setTop (mkF m 11 #[.val (.ref b1), .val (.ref b2), .val (.int (1 : Int32))] [(.ref b1), (.int (1 : Int32))]))
        obtain ⟨c33, A33, -, s33, m33, -, -⟩ := id AA1c
        refine own_st (fun _ k => own_len X0 hx hZ e0 A33 s33 m33 (g := (mkF m 11 #[.val (.ref b1), .val (.ref b2), .val (.int (1 : Int32))] [(.ref b1), (.int (1 : Int32))])) rfl rfl (hb hby own_djdk_43_method_13_code_11) k) ?_
        show own_Go p.tables e below RR (s₁.setTop (mkF m 12 #[.val (.ref b1), .val (.ref b2), .val (.int (1 : Int32))] [(.int (2 : Int32)), (.int (1 : Int32))]))
        refine own_st (fun _ k => XS.icmpNo X0.here hx rfl (hb hby own_djdk_43_method_13_code_12) rfl (tlt (by decide)).2.1 (XS.aloadN X0.here hx rfl (hb hby own_djdk_43_method_13_code_15) rfl rfl (XS.iloadN X0.here hx rfl (hb hby own_djdk_43_method_13_code_16) rfl k))) ?_
        show own_Go p.tables e below RR (s₁.setTop (mkF m 17 #[.val (.ref b1), .val (.ref b2), .val (.int (1 : Int32))] [(.int (1 : Int32)), (.ref b1)]))
        obtain ⟨c34, A34, q34, s34, m34, H34, G34⟩ := id AA1c
        have b34 := inb_of (j := (1 : Int32)) s34 ⟨by decide, by decide⟩
        refine own_st (fun _ k => X0.baloadBytes hx (j := (1 : Int32)) (v := (.int (own_b (own_c (((xb.toUInt32 >>> ((10 : Int32) &&& 31).toUInt32).toInt32) &&& (255 : Int32)))))) (by rw [e0]; exact A34.1) (State.isArrayOf_alike hZ.alike A34.2.1) A34.2.2 b34 (Has.at H34 b34 rfl) (g := (mkF m 17 #[.val (.ref b1), .val (.ref b2), .val (.int (1 : Int32))] [(.int (1 : Int32)), (.ref b1)])) rfl rfl (hb hby own_djdk_43_method_13_code_17) _ (XS.aloadN X0.here hx rfl (hb hby own_djdk_43_method_13_code_18) rfl rfl (XS.iloadN X0.here hx rfl (hb hby own_djdk_43_method_13_code_19) rfl k))) ?_
        show own_Go p.tables e below RR (s₁.setTop (mkF m 20 #[.val (.ref b1), .val (.ref b2), .val (.int (1 : Int32))] [(.int (1 : Int32)), (.ref b2), (.int (own_b (own_c (((xb.toUInt32 >>> ((10 : Int32) &&& 31).toUInt32).toInt32) &&& (255 : Int32)))))]))
        obtain ⟨c35, A35, q35, s35, m35, H35, G35⟩ := id AA2c
        have b35 := inb_of (j := (1 : Int32)) s35 ⟨by decide, by decide⟩
        refine own_st (fun _ k => X0.baloadBytes hx (j := (1 : Int32)) (v := (.int (own_b (own_c (((yb.toUInt32 >>> ((10 : Int32) &&& 31).toUInt32).toInt32) &&& (255 : Int32)))))) (by rw [e0]; exact A35.1) (State.isArrayOf_alike hZ.alike A35.2.1) A35.2.2 b35 (Has.at H35 b35 rfl) (g := (mkF m 20 #[.val (.ref b1), .val (.ref b2), .val (.int (1 : Int32))] [(.int (1 : Int32)), (.ref b2), (.int (own_b (own_c (((xb.toUInt32 >>> ((10 : Int32) &&& 31).toUInt32).toInt32) &&& (255 : Int32)))))])) rfl rfl (hb hby own_djdk_43_method_13_code_20) _ k) ?_
        show own_Go p.tables e below RR (s₁.setTop (mkF m 21 #[.val (.ref b1), .val (.ref b2), .val (.int (1 : Int32))] [(.int (own_b (own_c (((yb.toUInt32 >>> ((10 : Int32) &&& 31).toUInt32).toInt32) &&& (255 : Int32))))), (.int (own_b (own_c (((xb.toUInt32 >>> ((10 : Int32) &&& 31).toUInt32).toInt32) &&& (255 : Int32)))))]))
        by_cases hc21_36 : (own_b (own_c (((xb.toUInt32 >>> ((10 : Int32) &&& 31).toUInt32).toInt32) &&& (255 : Int32)))) = (own_b (own_c (((yb.toUInt32 >>> ((10 : Int32) &&& 31).toUInt32).toInt32) &&& (255 : Int32))))
        · refine own_st (fun _ k => XS.icmpYes X0.here hx rfl (pc0 := 21) (pc' := 26) rfl (hb hby own_djdk_43_method_13_code_21) rfl (teq hc21_36).1 (by decide) (by decide) (XS.iinc X0.here hx rfl (hb hby own_djdk_43_method_13_code_26) rfl (l' := #[.val (.ref b1), .val (.ref b2), .val (.int (2 : Int32))]) rfl (XS.goto X0.here hx rfl (pc0 := 29) (pc' := 9) rfl (hb hby own_djdk_43_method_13_code_29) (by decide) (by decide) (XS.iloadN X0.here hx rfl (hb hby own_djdk_43_method_13_code_9) rfl (XS.aloadN X0.here hx rfl (hb hby own_djdk_43_method_13_code_10) rfl rfl k))))) ?_
          show own_Go p.tables e below RR (s₁.setTop (mkF m 11 #[.val (.ref b1), .val (.ref b2), .val (.int (2 : Int32))] [(.ref b1), (.int (2 : Int32))]))
          obtain ⟨c37, A37, -, s37, m37, -, -⟩ := id AA1c
          refine own_st (fun _ k => own_len X0 hx hZ e0 A37 s37 m37 (g := (mkF m 11 #[.val (.ref b1), .val (.ref b2), .val (.int (2 : Int32))] [(.ref b1), (.int (2 : Int32))])) rfl rfl (hb hby own_djdk_43_method_13_code_11) k) ?_
          show own_Go p.tables e below RR (s₁.setTop (mkF m 12 #[.val (.ref b1), .val (.ref b2), .val (.int (2 : Int32))] [(.int (2 : Int32)), (.int (2 : Int32))]))
          refine own_st (fun _ k => XS.icmpYes X0.here hx rfl (pc0 := 12) (pc' := 32) rfl (hb hby own_djdk_43_method_13_code_12) rfl (flt (by decide)).2.1 (by decide) (by decide) (XS.iconst X0.here hx rfl (hb hby own_djdk_43_method_13_code_32) k)) ?_
          show own_Go p.tables e below RR (s₁.setTop (mkF m 33 #[.val (.ref b1), .val (.ref b2), .val (.int (2 : Int32))] [(.int (1 : Int32))]))
          obtain ⟨fs, hrt_, hrun, hended, hW, hsame⟩ := X0.leave (v := some (.int (1 : Int32))) (fun h => by rw [Bd.returns] at h; cases h)
          refine own_fin (retN X0 hx (t := .boolean) Bd.returns (by simp) (hb hby own_djdk_43_method_13_code_33) hrt_) (hRR _ ⟨_, hrun, hended, _, _, rfl, ?_, ⟨_, rfl⟩, hW, hsame.mono (by decide) (by decide)⟩)
          show own_QLE Z b1 b2 k1 k2 xb (2 : Int32) 2 yb (2 : Int32) 2 h0 n0 _ s₁.heap _
          rw [e0]
          exact ⟨own_ri ((own_sY ⟨rfl, fun _ => ((own_beq (own_255 _) (own_255 _)).mp hc21_32), fun _ => ((own_beq (own_255 _) (own_255 _)).mp hc21_36), fun z_ => absurd z_ (by decide)⟩).symm), N0, rfl⟩
        · refine own_st (fun _ k => XS.icmpNo X0.here hx rfl (hb hby own_djdk_43_method_13_code_21) rfl (feq hc21_36).1 (XS.iconst X0.here hx rfl (hb hby own_djdk_43_method_13_code_24) k)) ?_
          show own_Go p.tables e below RR (s₁.setTop (mkF m 25 #[.val (.ref b1), .val (.ref b2), .val (.int (1 : Int32))] [(.int (0 : Int32))]))
          obtain ⟨fs, hrt_, hrun, hended, hW, hsame⟩ := X0.leave (v := some (.int (0 : Int32))) (fun h => by rw [Bd.returns] at h; cases h)
          refine own_fin (retN X0 hx (t := .boolean) Bd.returns (by simp) (hb hby own_djdk_43_method_13_code_25) hrt_) (hRR _ ⟨_, hrun, hended, _, _, rfl, ?_, ⟨_, rfl⟩, hW, hsame.mono (by decide) (by decide)⟩)
          show own_QLE Z b1 b2 k1 k2 xb (2 : Int32) 2 yb (2 : Int32) 2 h0 n0 _ s₁.heap _
          rw [e0]
          exact ⟨own_ri ((own_sN (fun q_ => (fun z_ => hc21_36 ((own_beq (own_255 _) (own_255 _)).mpr z_)) (q_.2.2.1 (by decide)))).symm), N0, rfl⟩
      · refine own_st (fun _ k => XS.icmpNo X0.here hx rfl (hb hby own_djdk_43_method_13_code_21) rfl (feq hc21_32).1 (XS.iconst X0.here hx rfl (hb hby own_djdk_43_method_13_code_24) k)) ?_
        show own_Go p.tables e below RR (s₁.setTop (mkF m 25 #[.val (.ref b1), .val (.ref b2), .val (.int (0 : Int32))] [(.int (0 : Int32))]))
        obtain ⟨fs, hrt_, hrun, hended, hW, hsame⟩ := X0.leave (v := some (.int (0 : Int32))) (fun h => by rw [Bd.returns] at h; cases h)
        refine own_fin (retN X0 hx (t := .boolean) Bd.returns (by simp) (hb hby own_djdk_43_method_13_code_25) hrt_) (hRR _ ⟨_, hrun, hended, _, _, rfl, ?_, ⟨_, rfl⟩, hW, hsame.mono (by decide) (by decide)⟩)
        show own_QLE Z b1 b2 k1 k2 xb (2 : Int32) 2 yb (2 : Int32) 2 h0 n0 _ s₁.heap _
        rw [e0]
        exact ⟨own_ri ((own_sN (fun q_ => (fun z_ => hc21_32 ((own_beq (own_255 _) (own_255 _)).mpr z_)) (q_.2.1 (by decide)))).symm), N0, rfl⟩
    · have AA1c : Arv Z h0 b1 k1 .byte (2 : Int32) [(.int (own_b (own_c (((xb.toUInt32 >>> ((2 : Int32) &&& 31).toUInt32).toInt32) &&& (255 : Int32))))), (.int (own_b (own_c (((xb.toUInt32 >>> ((10 : Int32) &&& 31).toUInt32).toInt32) &&& (255 : Int32)))))] (.int (0 : Int32)) := AA1
      have AA2c : Arv Z h0 b2 k2 .byte (3 : Int32) [(.int (own_b (own_c (((yb.toUInt32 >>> ((2 : Int32) &&& 31).toUInt32).toInt32) &&& (255 : Int32))))), (.int (own_b (own_c (((yb.toUInt32 >>> ((10 : Int32) &&& 31).toUInt32).toInt32) &&& (255 : Int32))))), (.int (own_b (own_c (((yb.toUInt32 >>> ((18 : Int32) &&& 31).toUInt32).toInt32) &&& (255 : Int32)))))] (.int (0 : Int32)) := AA2
      show own_Go p.tables e below RR (s₁.setTop (mkF m 0 #[.val (.ref b1), .val (.ref b2), .unset] []))
      refine own_st (fun _ k => XS.aloadN X0.here hx rfl (hb hby own_djdk_43_method_13_code_0) rfl rfl k) ?_
      show own_Go p.tables e below RR (s₁.setTop (mkF m 1 #[.val (.ref b1), .val (.ref b2), .unset] [(.ref b1)]))
      obtain ⟨c38, A38, -, s38, m38, -, -⟩ := id AA1c
      refine own_st (fun _ k => own_len X0 hx hZ e0 A38 s38 m38 (g := (mkF m 1 #[.val (.ref b1), .val (.ref b2), .unset] [(.ref b1)])) rfl rfl (hb hby own_djdk_43_method_13_code_1) (XS.aloadN X0.here hx rfl (hb hby own_djdk_43_method_13_code_2) rfl rfl k)) ?_
      show own_Go p.tables e below RR (s₁.setTop (mkF m 3 #[.val (.ref b1), .val (.ref b2), .unset] [(.ref b2), (.int (2 : Int32))]))
      obtain ⟨c39, A39, -, s39, m39, -, -⟩ := id AA2c
      refine own_st (fun _ k => own_len X0 hx hZ e0 A39 s39 m39 (g := (mkF m 3 #[.val (.ref b1), .val (.ref b2), .unset] [(.ref b2), (.int (2 : Int32))])) rfl rfl (hb hby own_djdk_43_method_13_code_3) k) ?_
      show own_Go p.tables e below RR (s₁.setTop (mkF m 4 #[.val (.ref b1), .val (.ref b2), .unset] [(.int (3 : Int32)), (.int (2 : Int32))]))
      refine own_st (fun _ k => XS.icmpYes X0.here hx rfl (pc0 := 4) (pc' := 34) rfl (hb hby own_djdk_43_method_13_code_4) rfl (feq (by decide)).2 (by decide) (by decide) (XS.iconst X0.here hx rfl (hb hby own_djdk_43_method_13_code_34) k)) ?_
      show own_Go p.tables e below RR (s₁.setTop (mkF m 35 #[.val (.ref b1), .val (.ref b2), .unset] [(.int (0 : Int32))]))
      obtain ⟨fs, hrt_, hrun, hended, hW, hsame⟩ := X0.leave (v := some (.int (0 : Int32))) (fun h => by rw [Bd.returns] at h; cases h)
      refine own_fin (retN X0 hx (t := .boolean) Bd.returns (by simp) (hb hby own_djdk_43_method_13_code_35) hrt_) (hRR _ ⟨_, hrun, hended, _, _, rfl, ?_, ⟨_, rfl⟩, hW, hsame.mono (by decide) (by decide)⟩)
      show own_QLE Z b1 b2 k1 k2 xb (2 : Int32) 2 yb (3 : Int32) 3 h0 n0 _ s₁.heap _
      rw [e0]
      exact ⟨own_ri ((own_sN (fun q_ => absurd q_.1 (by decide))).symm), N0, rfl⟩
  · rcases hyl with ⟨rfl, rfl⟩ | ⟨rfl, rfl⟩ | ⟨rfl, rfl⟩ | ⟨rfl, rfl⟩
    · have AA1c : Arv Z h0 b1 k1 .byte (3 : Int32) [(.int (own_b (own_c (((xb.toUInt32 >>> ((2 : Int32) &&& 31).toUInt32).toInt32) &&& (255 : Int32))))), (.int (own_b (own_c (((xb.toUInt32 >>> ((10 : Int32) &&& 31).toUInt32).toInt32) &&& (255 : Int32))))), (.int (own_b (own_c (((xb.toUInt32 >>> ((18 : Int32) &&& 31).toUInt32).toInt32) &&& (255 : Int32)))))] (.int (0 : Int32)) := AA1
      have AA2c : Arv Z h0 b2 k2 .byte (0 : Int32) [] (.int (0 : Int32)) := AA2
      show own_Go p.tables e below RR (s₁.setTop (mkF m 0 #[.val (.ref b1), .val (.ref b2), .unset] []))
      refine own_st (fun _ k => XS.aloadN X0.here hx rfl (hb hby own_djdk_43_method_13_code_0) rfl rfl k) ?_
      show own_Go p.tables e below RR (s₁.setTop (mkF m 1 #[.val (.ref b1), .val (.ref b2), .unset] [(.ref b1)]))
      obtain ⟨c40, A40, -, s40, m40, -, -⟩ := id AA1c
      refine own_st (fun _ k => own_len X0 hx hZ e0 A40 s40 m40 (g := (mkF m 1 #[.val (.ref b1), .val (.ref b2), .unset] [(.ref b1)])) rfl rfl (hb hby own_djdk_43_method_13_code_1) (XS.aloadN X0.here hx rfl (hb hby own_djdk_43_method_13_code_2) rfl rfl k)) ?_
      show own_Go p.tables e below RR (s₁.setTop (mkF m 3 #[.val (.ref b1), .val (.ref b2), .unset] [(.ref b2), (.int (3 : Int32))]))
      obtain ⟨c41, A41, -, s41, m41, -, -⟩ := id AA2c
      refine own_st (fun _ k => own_len X0 hx hZ e0 A41 s41 m41 (g := (mkF m 3 #[.val (.ref b1), .val (.ref b2), .unset] [(.ref b2), (.int (3 : Int32))])) rfl rfl (hb hby own_djdk_43_method_13_code_3) k) ?_
      show own_Go p.tables e below RR (s₁.setTop (mkF m 4 #[.val (.ref b1), .val (.ref b2), .unset] [(.int (0 : Int32)), (.int (3 : Int32))]))
      refine own_st (fun _ k => XS.icmpYes X0.here hx rfl (pc0 := 4) (pc' := 34) rfl (hb hby own_djdk_43_method_13_code_4) rfl (feq (by decide)).2 (by decide) (by decide) (XS.iconst X0.here hx rfl (hb hby own_djdk_43_method_13_code_34) k)) ?_
      show own_Go p.tables e below RR (s₁.setTop (mkF m 35 #[.val (.ref b1), .val (.ref b2), .unset] [(.int (0 : Int32))]))
      obtain ⟨fs, hrt_, hrun, hended, hW, hsame⟩ := X0.leave (v := some (.int (0 : Int32))) (fun h => by rw [Bd.returns] at h; cases h)
      refine own_fin (retN X0 hx (t := .boolean) Bd.returns (by simp) (hb hby own_djdk_43_method_13_code_35) hrt_) (hRR _ ⟨_, hrun, hended, _, _, rfl, ?_, ⟨_, rfl⟩, hW, hsame.mono (by decide) (by decide)⟩)
      show own_QLE Z b1 b2 k1 k2 xb (3 : Int32) 3 yb (0 : Int32) 0 h0 n0 _ s₁.heap _
      rw [e0]
      exact ⟨own_ri ((own_sN (fun q_ => absurd q_.1 (by decide))).symm), N0, rfl⟩
    · have AA1c : Arv Z h0 b1 k1 .byte (3 : Int32) [(.int (own_b (own_c (((xb.toUInt32 >>> ((2 : Int32) &&& 31).toUInt32).toInt32) &&& (255 : Int32))))), (.int (own_b (own_c (((xb.toUInt32 >>> ((10 : Int32) &&& 31).toUInt32).toInt32) &&& (255 : Int32))))), (.int (own_b (own_c (((xb.toUInt32 >>> ((18 : Int32) &&& 31).toUInt32).toInt32) &&& (255 : Int32)))))] (.int (0 : Int32)) := AA1
      have AA2c : Arv Z h0 b2 k2 .byte (1 : Int32) [(.int (own_b (own_c (((yb.toUInt32 >>> ((2 : Int32) &&& 31).toUInt32).toInt32) &&& (255 : Int32)))))] (.int (0 : Int32)) := AA2
      show own_Go p.tables e below RR (s₁.setTop (mkF m 0 #[.val (.ref b1), .val (.ref b2), .unset] []))
      refine own_st (fun _ k => XS.aloadN X0.here hx rfl (hb hby own_djdk_43_method_13_code_0) rfl rfl k) ?_
      show own_Go p.tables e below RR (s₁.setTop (mkF m 1 #[.val (.ref b1), .val (.ref b2), .unset] [(.ref b1)]))
      obtain ⟨c42, A42, -, s42, m42, -, -⟩ := id AA1c
      refine own_st (fun _ k => own_len X0 hx hZ e0 A42 s42 m42 (g := (mkF m 1 #[.val (.ref b1), .val (.ref b2), .unset] [(.ref b1)])) rfl rfl (hb hby own_djdk_43_method_13_code_1) (XS.aloadN X0.here hx rfl (hb hby own_djdk_43_method_13_code_2) rfl rfl k)) ?_
      show own_Go p.tables e below RR (s₁.setTop (mkF m 3 #[.val (.ref b1), .val (.ref b2), .unset] [(.ref b2), (.int (3 : Int32))]))
      obtain ⟨c43, A43, -, s43, m43, -, -⟩ := id AA2c
      refine own_st (fun _ k => own_len X0 hx hZ e0 A43 s43 m43 (g := (mkF m 3 #[.val (.ref b1), .val (.ref b2), .unset] [(.ref b2), (.int (3 : Int32))])) rfl rfl (hb hby own_djdk_43_method_13_code_3) k) ?_
      show own_Go p.tables e below RR (s₁.setTop (mkF m 4 #[.val (.ref b1), .val (.ref b2), .unset] [(.int (1 : Int32)), (.int (3 : Int32))]))
      refine own_st (fun _ k => XS.icmpYes X0.here hx rfl (pc0 := 4) (pc' := 34) rfl (hb hby own_djdk_43_method_13_code_4) rfl (feq (by decide)).2 (by decide) (by decide) (XS.iconst X0.here hx rfl (hb hby own_djdk_43_method_13_code_34) k)) ?_
      show own_Go p.tables e below RR (s₁.setTop (mkF m 35 #[.val (.ref b1), .val (.ref b2), .unset] [(.int (0 : Int32))]))
      obtain ⟨fs, hrt_, hrun, hended, hW, hsame⟩ := X0.leave (v := some (.int (0 : Int32))) (fun h => by rw [Bd.returns] at h; cases h)
      refine own_fin (retN X0 hx (t := .boolean) Bd.returns (by simp) (hb hby own_djdk_43_method_13_code_35) hrt_) (hRR _ ⟨_, hrun, hended, _, _, rfl, ?_, ⟨_, rfl⟩, hW, hsame.mono (by decide) (by decide)⟩)
      show own_QLE Z b1 b2 k1 k2 xb (3 : Int32) 3 yb (1 : Int32) 1 h0 n0 _ s₁.heap _
      rw [e0]
      exact ⟨own_ri ((own_sN (fun q_ => absurd q_.1 (by decide))).symm), N0, rfl⟩
    · have AA1c : Arv Z h0 b1 k1 .byte (3 : Int32) [(.int (own_b (own_c (((xb.toUInt32 >>> ((2 : Int32) &&& 31).toUInt32).toInt32) &&& (255 : Int32))))), (.int (own_b (own_c (((xb.toUInt32 >>> ((10 : Int32) &&& 31).toUInt32).toInt32) &&& (255 : Int32))))), (.int (own_b (own_c (((xb.toUInt32 >>> ((18 : Int32) &&& 31).toUInt32).toInt32) &&& (255 : Int32)))))] (.int (0 : Int32)) := AA1
      have AA2c : Arv Z h0 b2 k2 .byte (2 : Int32) [(.int (own_b (own_c (((yb.toUInt32 >>> ((2 : Int32) &&& 31).toUInt32).toInt32) &&& (255 : Int32))))), (.int (own_b (own_c (((yb.toUInt32 >>> ((10 : Int32) &&& 31).toUInt32).toInt32) &&& (255 : Int32)))))] (.int (0 : Int32)) := AA2
      show own_Go p.tables e below RR (s₁.setTop (mkF m 0 #[.val (.ref b1), .val (.ref b2), .unset] []))
      refine own_st (fun _ k => XS.aloadN X0.here hx rfl (hb hby own_djdk_43_method_13_code_0) rfl rfl k) ?_
      show own_Go p.tables e below RR (s₁.setTop (mkF m 1 #[.val (.ref b1), .val (.ref b2), .unset] [(.ref b1)]))
      obtain ⟨c44, A44, -, s44, m44, -, -⟩ := id AA1c
      refine own_st (fun _ k => own_len X0 hx hZ e0 A44 s44 m44 (g := (mkF m 1 #[.val (.ref b1), .val (.ref b2), .unset] [(.ref b1)])) rfl rfl (hb hby own_djdk_43_method_13_code_1) (XS.aloadN X0.here hx rfl (hb hby own_djdk_43_method_13_code_2) rfl rfl k)) ?_
      show own_Go p.tables e below RR (s₁.setTop (mkF m 3 #[.val (.ref b1), .val (.ref b2), .unset] [(.ref b2), (.int (3 : Int32))]))
      obtain ⟨c45, A45, -, s45, m45, -, -⟩ := id AA2c
      refine own_st (fun _ k => own_len X0 hx hZ e0 A45 s45 m45 (g := (mkF m 3 #[.val (.ref b1), .val (.ref b2), .unset] [(.ref b2), (.int (3 : Int32))])) rfl rfl (hb hby own_djdk_43_method_13_code_3) k) ?_
      show own_Go p.tables e below RR (s₁.setTop (mkF m 4 #[.val (.ref b1), .val (.ref b2), .unset] [(.int (2 : Int32)), (.int (3 : Int32))]))
      refine own_st (fun _ k => XS.icmpYes X0.here hx rfl (pc0 := 4) (pc' := 34) rfl (hb hby own_djdk_43_method_13_code_4) rfl (feq (by decide)).2 (by decide) (by decide) (XS.iconst X0.here hx rfl (hb hby own_djdk_43_method_13_code_34) k)) ?_
      show own_Go p.tables e below RR (s₁.setTop (mkF m 35 #[.val (.ref b1), .val (.ref b2), .unset] [(.int (0 : Int32))]))
      obtain ⟨fs, hrt_, hrun, hended, hW, hsame⟩ := X0.leave (v := some (.int (0 : Int32))) (fun h => by rw [Bd.returns] at h; cases h)
      refine own_fin (retN X0 hx (t := .boolean) Bd.returns (by simp) (hb hby own_djdk_43_method_13_code_35) hrt_) (hRR _ ⟨_, hrun, hended, _, _, rfl, ?_, ⟨_, rfl⟩, hW, hsame.mono (by decide) (by decide)⟩)
      show own_QLE Z b1 b2 k1 k2 xb (3 : Int32) 3 yb (2 : Int32) 2 h0 n0 _ s₁.heap _
      rw [e0]
      exact ⟨own_ri ((own_sN (fun q_ => absurd q_.1 (by decide))).symm), N0, rfl⟩
    · have AA1c : Arv Z h0 b1 k1 .byte (3 : Int32) [(.int (own_b (own_c (((xb.toUInt32 >>> ((2 : Int32) &&& 31).toUInt32).toInt32) &&& (255 : Int32))))), (.int (own_b (own_c (((xb.toUInt32 >>> ((10 : Int32) &&& 31).toUInt32).toInt32) &&& (255 : Int32))))), (.int (own_b (own_c (((xb.toUInt32 >>> ((18 : Int32) &&& 31).toUInt32).toInt32) &&& (255 : Int32)))))] (.int (0 : Int32)) := AA1
      have AA2c : Arv Z h0 b2 k2 .byte (3 : Int32) [(.int (own_b (own_c (((yb.toUInt32 >>> ((2 : Int32) &&& 31).toUInt32).toInt32) &&& (255 : Int32))))), (.int (own_b (own_c (((yb.toUInt32 >>> ((10 : Int32) &&& 31).toUInt32).toInt32) &&& (255 : Int32))))), (.int (own_b (own_c (((yb.toUInt32 >>> ((18 : Int32) &&& 31).toUInt32).toInt32) &&& (255 : Int32)))))] (.int (0 : Int32)) := AA2
      show own_Go p.tables e below RR (s₁.setTop (mkF m 0 #[.val (.ref b1), .val (.ref b2), .unset] []))
      refine own_st (fun _ k => XS.aloadN X0.here hx rfl (hb hby own_djdk_43_method_13_code_0) rfl rfl k) ?_
      show own_Go p.tables e below RR (s₁.setTop (mkF m 1 #[.val (.ref b1), .val (.ref b2), .unset] [(.ref b1)]))
      obtain ⟨c46, A46, -, s46, m46, -, -⟩ := id AA1c
      refine own_st (fun _ k => own_len X0 hx hZ e0 A46 s46 m46 (g := (mkF m 1 #[.val (.ref b1), .val (.ref b2), .unset] [(.ref b1)])) rfl rfl (hb hby own_djdk_43_method_13_code_1) (XS.aloadN X0.here hx rfl (hb hby own_djdk_43_method_13_code_2) rfl rfl k)) ?_
      show own_Go p.tables e below RR (s₁.setTop (mkF m 3 #[.val (.ref b1), .val (.ref b2), .unset] [(.ref b2), (.int (3 : Int32))]))
      obtain ⟨c47, A47, -, s47, m47, -, -⟩ := id AA2c
      refine own_st (fun _ k => own_len X0 hx hZ e0 A47 s47 m47 (g := (mkF m 3 #[.val (.ref b1), .val (.ref b2), .unset] [(.ref b2), (.int (3 : Int32))])) rfl rfl (hb hby own_djdk_43_method_13_code_3) k) ?_
      show own_Go p.tables e below RR (s₁.setTop (mkF m 4 #[.val (.ref b1), .val (.ref b2), .unset] [(.int (3 : Int32)), (.int (3 : Int32))]))
      refine own_st (fun _ k => XS.icmpNo X0.here hx rfl (hb hby own_djdk_43_method_13_code_4) rfl (teq (by decide)).2 (XS.iconst X0.here hx rfl (hb hby own_djdk_43_method_13_code_7) (XS.istoreN X0.here hx rfl (hb hby own_djdk_43_method_13_code_8) rfl (l' := #[.val (.ref b1), .val (.ref b2), .val (.int (0 : Int32))]) rfl (XS.iloadN X0.here hx rfl (hb hby own_djdk_43_method_13_code_9) rfl (XS.aloadN X0.here hx rfl (hb hby own_djdk_43_method_13_code_10) rfl rfl k))))) ?_
      show own_Go p.tables e below RR (s₁.setTop (mkF m 11 #[.val (.ref b1), .val (.ref b2), .val (.int (0 : Int32))] [(.ref b1), (.int (0 : Int32))]))
      obtain ⟨c48, A48, -, s48, m48, -, -⟩ := id AA1c
      refine own_st (fun _ k => own_len X0 hx hZ e0 A48 s48 m48 (g := (mkF m 11 #[.val (.ref b1), .val (.ref b2), .val (.int (0 : Int32))] [(.ref b1), (.int (0 : Int32))])) rfl rfl (hb hby own_djdk_43_method_13_code_11) k) ?_
      show own_Go p.tables e below RR (s₁.setTop (mkF m 12 #[.val (.ref b1), .val (.ref b2), .val (.int (0 : Int32))] [(.int (3 : Int32)), (.int (0 : Int32))]))
      refine own_st (fun _ k => XS.icmpNo X0.here hx rfl (hb hby own_djdk_43_method_13_code_12) rfl (tlt (by decide)).2.1 (XS.aloadN X0.here hx rfl (hb hby own_djdk_43_method_13_code_15) rfl rfl (XS.iloadN X0.here hx rfl (hb hby own_djdk_43_method_13_code_16) rfl k))) ?_
      show own_Go p.tables e below RR (s₁.setTop (mkF m 17 #[.val (.ref b1), .val (.ref b2), .val (.int (0 : Int32))] [(.int (0 : Int32)), (.ref b1)]))
      obtain ⟨c49, A49, q49, s49, m49, H49, G49⟩ := id AA1c
      have b49 := inb_of (j := (0 : Int32)) s49 ⟨by decide, by decide⟩
      refine own_st (fun _ k => X0.baloadBytes hx (j := (0 : Int32)) (v := (.int (own_b (own_c (((xb.toUInt32 >>> ((2 : Int32) &&& 31).toUInt32).toInt32) &&& (255 : Int32)))))) (by rw [e0]; exact A49.1) (State.isArrayOf_alike hZ.alike A49.2.1) A49.2.2 b49 (Has.at H49 b49 rfl) (g := (mkF m 17 #[.val (.ref b1), .val (.ref b2), .val (.int (0 : Int32))] [(.int (0 : Int32)), (.ref b1)])) rfl rfl (hb hby own_djdk_43_method_13_code_17) _ (XS.aloadN X0.here hx rfl (hb hby own_djdk_43_method_13_code_18) rfl rfl (XS.iloadN X0.here hx rfl (hb hby own_djdk_43_method_13_code_19) rfl k))) ?_
      show own_Go p.tables e below RR (s₁.setTop (mkF m 20 #[.val (.ref b1), .val (.ref b2), .val (.int (0 : Int32))] [(.int (0 : Int32)), (.ref b2), (.int (own_b (own_c (((xb.toUInt32 >>> ((2 : Int32) &&& 31).toUInt32).toInt32) &&& (255 : Int32)))))]))
      obtain ⟨c50, A50, q50, s50, m50, H50, G50⟩ := id AA2c
      have b50 := inb_of (j := (0 : Int32)) s50 ⟨by decide, by decide⟩
      refine own_st (fun _ k => X0.baloadBytes hx (j := (0 : Int32)) (v := (.int (own_b (own_c (((yb.toUInt32 >>> ((2 : Int32) &&& 31).toUInt32).toInt32) &&& (255 : Int32)))))) (by rw [e0]; exact A50.1) (State.isArrayOf_alike hZ.alike A50.2.1) A50.2.2 b50 (Has.at H50 b50 rfl) (g := (mkF m 20 #[.val (.ref b1), .val (.ref b2), .val (.int (0 : Int32))] [(.int (0 : Int32)), (.ref b2), (.int (own_b (own_c (((xb.toUInt32 >>> ((2 : Int32) &&& 31).toUInt32).toInt32) &&& (255 : Int32)))))])) rfl rfl (hb hby own_djdk_43_method_13_code_20) _ k) ?_
      show own_Go p.tables e below RR (s₁.setTop (mkF m 21 #[.val (.ref b1), .val (.ref b2), .val (.int (0 : Int32))] [(.int (own_b (own_c (((yb.toUInt32 >>> ((2 : Int32) &&& 31).toUInt32).toInt32) &&& (255 : Int32))))), (.int (own_b (own_c (((xb.toUInt32 >>> ((2 : Int32) &&& 31).toUInt32).toInt32) &&& (255 : Int32)))))]))
      by_cases hc21_51 : (own_b (own_c (((xb.toUInt32 >>> ((2 : Int32) &&& 31).toUInt32).toInt32) &&& (255 : Int32)))) = (own_b (own_c (((yb.toUInt32 >>> ((2 : Int32) &&& 31).toUInt32).toInt32) &&& (255 : Int32))))
      · refine own_st (fun _ k => XS.icmpYes X0.here hx rfl (pc0 := 21) (pc' := 26) rfl (hb hby own_djdk_43_method_13_code_21) rfl (teq hc21_51).1 (by decide) (by decide) (XS.iinc X0.here hx rfl (hb hby own_djdk_43_method_13_code_26) rfl (l' := #[.val (.ref b1), .val (.ref b2), .val (.int (1 : Int32))]) rfl (XS.goto X0.here hx rfl (pc0 := 29) (pc' := 9) rfl (hb hby own_djdk_43_method_13_code_29) (by decide) (by decide) (XS.iloadN X0.here hx rfl (hb hby own_djdk_43_method_13_code_9) rfl (XS.aloadN X0.here hx rfl (hb hby own_djdk_43_method_13_code_10) rfl rfl k))))) ?_
        show own_Go p.tables e below RR (s₁.setTop (mkF m 11 #[.val (.ref b1), .val (.ref b2), .val (.int (1 : Int32))] [(.ref b1), (.int (1 : Int32))]))
        obtain ⟨c52, A52, -, s52, m52, -, -⟩ := id AA1c
        refine own_st (fun _ k => own_len X0 hx hZ e0 A52 s52 m52 (g := (mkF m 11 #[.val (.ref b1), .val (.ref b2), .val (.int (1 : Int32))] [(.ref b1), (.int (1 : Int32))])) rfl rfl (hb hby own_djdk_43_method_13_code_11) k) ?_
        show own_Go p.tables e below RR (s₁.setTop (mkF m 12 #[.val (.ref b1), .val (.ref b2), .val (.int (1 : Int32))] [(.int (3 : Int32)), (.int (1 : Int32))]))
        refine own_st (fun _ k => XS.icmpNo X0.here hx rfl (hb hby own_djdk_43_method_13_code_12) rfl (tlt (by decide)).2.1 (XS.aloadN X0.here hx rfl (hb hby own_djdk_43_method_13_code_15) rfl rfl (XS.iloadN X0.here hx rfl (hb hby own_djdk_43_method_13_code_16) rfl k))) ?_
        show own_Go p.tables e below RR (s₁.setTop (mkF m 17 #[.val (.ref b1), .val (.ref b2), .val (.int (1 : Int32))] [(.int (1 : Int32)), (.ref b1)]))
        obtain ⟨c53, A53, q53, s53, m53, H53, G53⟩ := id AA1c
        have b53 := inb_of (j := (1 : Int32)) s53 ⟨by decide, by decide⟩
        refine own_st (fun _ k => X0.baloadBytes hx (j := (1 : Int32)) (v := (.int (own_b (own_c (((xb.toUInt32 >>> ((10 : Int32) &&& 31).toUInt32).toInt32) &&& (255 : Int32)))))) (by rw [e0]; exact A53.1) (State.isArrayOf_alike hZ.alike A53.2.1) A53.2.2 b53 (Has.at H53 b53 rfl) (g := (mkF m 17 #[.val (.ref b1), .val (.ref b2), .val (.int (1 : Int32))] [(.int (1 : Int32)), (.ref b1)])) rfl rfl (hb hby own_djdk_43_method_13_code_17) _ (XS.aloadN X0.here hx rfl (hb hby own_djdk_43_method_13_code_18) rfl rfl (XS.iloadN X0.here hx rfl (hb hby own_djdk_43_method_13_code_19) rfl k))) ?_
        show own_Go p.tables e below RR (s₁.setTop (mkF m 20 #[.val (.ref b1), .val (.ref b2), .val (.int (1 : Int32))] [(.int (1 : Int32)), (.ref b2), (.int (own_b (own_c (((xb.toUInt32 >>> ((10 : Int32) &&& 31).toUInt32).toInt32) &&& (255 : Int32)))))]))
        obtain ⟨c54, A54, q54, s54, m54, H54, G54⟩ := id AA2c
        have b54 := inb_of (j := (1 : Int32)) s54 ⟨by decide, by decide⟩
        refine own_st (fun _ k => X0.baloadBytes hx (j := (1 : Int32)) (v := (.int (own_b (own_c (((yb.toUInt32 >>> ((10 : Int32) &&& 31).toUInt32).toInt32) &&& (255 : Int32)))))) (by rw [e0]; exact A54.1) (State.isArrayOf_alike hZ.alike A54.2.1) A54.2.2 b54 (Has.at H54 b54 rfl) (g := (mkF m 20 #[.val (.ref b1), .val (.ref b2), .val (.int (1 : Int32))] [(.int (1 : Int32)), (.ref b2), (.int (own_b (own_c (((xb.toUInt32 >>> ((10 : Int32) &&& 31).toUInt32).toInt32) &&& (255 : Int32)))))])) rfl rfl (hb hby own_djdk_43_method_13_code_20) _ k) ?_
        show own_Go p.tables e below RR (s₁.setTop (mkF m 21 #[.val (.ref b1), .val (.ref b2), .val (.int (1 : Int32))] [(.int (own_b (own_c (((yb.toUInt32 >>> ((10 : Int32) &&& 31).toUInt32).toInt32) &&& (255 : Int32))))), (.int (own_b (own_c (((xb.toUInt32 >>> ((10 : Int32) &&& 31).toUInt32).toInt32) &&& (255 : Int32)))))]))
        by_cases hc21_55 : (own_b (own_c (((xb.toUInt32 >>> ((10 : Int32) &&& 31).toUInt32).toInt32) &&& (255 : Int32)))) = (own_b (own_c (((yb.toUInt32 >>> ((10 : Int32) &&& 31).toUInt32).toInt32) &&& (255 : Int32))))
        · refine own_st (fun _ k => XS.icmpYes X0.here hx rfl (pc0 := 21) (pc' := 26) rfl (hb hby own_djdk_43_method_13_code_21) rfl (teq hc21_55).1 (by decide) (by decide) (XS.iinc X0.here hx rfl (hb hby own_djdk_43_method_13_code_26) rfl (l' := #[.val (.ref b1), .val (.ref b2), .val (.int (2 : Int32))]) rfl (XS.goto X0.here hx rfl (pc0 := 29) (pc' := 9) rfl (hb hby own_djdk_43_method_13_code_29) (by decide) (by decide) (XS.iloadN X0.here hx rfl (hb hby own_djdk_43_method_13_code_9) rfl (XS.aloadN X0.here hx rfl (hb hby own_djdk_43_method_13_code_10) rfl rfl k))))) ?_
          show own_Go p.tables e below RR (s₁.setTop (mkF m 11 #[.val (.ref b1), .val (.ref b2), .val (.int (2 : Int32))] [(.ref b1), (.int (2 : Int32))]))
          obtain ⟨c56, A56, -, s56, m56, -, -⟩ := id AA1c
          refine own_st (fun _ k => own_len X0 hx hZ e0 A56 s56 m56 (g := (mkF m 11 #[.val (.ref b1), .val (.ref b2), .val (.int (2 : Int32))] [(.ref b1), (.int (2 : Int32))])) rfl rfl (hb hby own_djdk_43_method_13_code_11) k) ?_
          show own_Go p.tables e below RR (s₁.setTop (mkF m 12 #[.val (.ref b1), .val (.ref b2), .val (.int (2 : Int32))] [(.int (3 : Int32)), (.int (2 : Int32))]))
          refine own_st (fun _ k => XS.icmpNo X0.here hx rfl (hb hby own_djdk_43_method_13_code_12) rfl (tlt (by decide)).2.1 (XS.aloadN X0.here hx rfl (hb hby own_djdk_43_method_13_code_15) rfl rfl (XS.iloadN X0.here hx rfl (hb hby own_djdk_43_method_13_code_16) rfl k))) ?_
          show own_Go p.tables e below RR (s₁.setTop (mkF m 17 #[.val (.ref b1), .val (.ref b2), .val (.int (2 : Int32))] [(.int (2 : Int32)), (.ref b1)]))
          obtain ⟨c57, A57, q57, s57, m57, H57, G57⟩ := id AA1c
          have b57 := inb_of (j := (2 : Int32)) s57 ⟨by decide, by decide⟩
          refine own_st (fun _ k => X0.baloadBytes hx (j := (2 : Int32)) (v := (.int (own_b (own_c (((xb.toUInt32 >>> ((18 : Int32) &&& 31).toUInt32).toInt32) &&& (255 : Int32)))))) (by rw [e0]; exact A57.1) (State.isArrayOf_alike hZ.alike A57.2.1) A57.2.2 b57 (Has.at H57 b57 rfl) (g := (mkF m 17 #[.val (.ref b1), .val (.ref b2), .val (.int (2 : Int32))] [(.int (2 : Int32)), (.ref b1)])) rfl rfl (hb hby own_djdk_43_method_13_code_17) _ (XS.aloadN X0.here hx rfl (hb hby own_djdk_43_method_13_code_18) rfl rfl (XS.iloadN X0.here hx rfl (hb hby own_djdk_43_method_13_code_19) rfl k))) ?_
          show own_Go p.tables e below RR (s₁.setTop (mkF m 20 #[.val (.ref b1), .val (.ref b2), .val (.int (2 : Int32))] [(.int (2 : Int32)), (.ref b2), (.int (own_b (own_c (((xb.toUInt32 >>> ((18 : Int32) &&& 31).toUInt32).toInt32) &&& (255 : Int32)))))]))
          obtain ⟨c58, A58, q58, s58, m58, H58, G58⟩ := id AA2c
          have b58 := inb_of (j := (2 : Int32)) s58 ⟨by decide, by decide⟩
          refine own_st (fun _ k => X0.baloadBytes hx (j := (2 : Int32)) (v := (.int (own_b (own_c (((yb.toUInt32 >>> ((18 : Int32) &&& 31).toUInt32).toInt32) &&& (255 : Int32)))))) (by rw [e0]; exact A58.1) (State.isArrayOf_alike hZ.alike A58.2.1) A58.2.2 b58 (Has.at H58 b58 rfl) (g := (mkF m 20 #[.val (.ref b1), .val (.ref b2), .val (.int (2 : Int32))] [(.int (2 : Int32)), (.ref b2), (.int (own_b (own_c (((xb.toUInt32 >>> ((18 : Int32) &&& 31).toUInt32).toInt32) &&& (255 : Int32)))))])) rfl rfl (hb hby own_djdk_43_method_13_code_20) _ k) ?_
          show own_Go p.tables e below RR (s₁.setTop (mkF m 21 #[.val (.ref b1), .val (.ref b2), .val (.int (2 : Int32))] [(.int (own_b (own_c (((yb.toUInt32 >>> ((18 : Int32) &&& 31).toUInt32).toInt32) &&& (255 : Int32))))), (.int (own_b (own_c (((xb.toUInt32 >>> ((18 : Int32) &&& 31).toUInt32).toInt32) &&& (255 : Int32)))))]))
          by_cases hc21_59 : (own_b (own_c (((xb.toUInt32 >>> ((18 : Int32) &&& 31).toUInt32).toInt32) &&& (255 : Int32)))) = (own_b (own_c (((yb.toUInt32 >>> ((18 : Int32) &&& 31).toUInt32).toInt32) &&& (255 : Int32))))
          · refine own_st (fun _ k => XS.icmpYes X0.here hx rfl (pc0 := 21) (pc' := 26) rfl (hb hby own_djdk_43_method_13_code_21) rfl (teq hc21_59).1 (by decide) (by decide) (XS.iinc X0.here hx rfl (hb hby own_djdk_43_method_13_code_26) rfl (l' := #[.val (.ref b1), .val (.ref b2), .val (.int (3 : Int32))]) rfl (XS.goto X0.here hx rfl (pc0 := 29) (pc' := 9) rfl (hb hby own_djdk_43_method_13_code_29) (by decide) (by decide) (XS.iloadN X0.here hx rfl (hb hby own_djdk_43_method_13_code_9) rfl (XS.aloadN X0.here hx rfl (hb hby own_djdk_43_method_13_code_10) rfl rfl k))))) ?_
            show own_Go p.tables e below RR (s₁.setTop (mkF m 11 #[.val (.ref b1), .val (.ref b2), .val (.int (3 : Int32))] [(.ref b1), (.int (3 : Int32))]))
            obtain ⟨c60, A60, -, s60, m60, -, -⟩ := id AA1c
            refine own_st (fun _ k => own_len X0 hx hZ e0 A60 s60 m60 (g := (mkF m 11 #[.val (.ref b1), .val (.ref b2), .val (.int (3 : Int32))] [(.ref b1), (.int (3 : Int32))])) rfl rfl (hb hby own_djdk_43_method_13_code_11) k) ?_
            show own_Go p.tables e below RR (s₁.setTop (mkF m 12 #[.val (.ref b1), .val (.ref b2), .val (.int (3 : Int32))] [(.int (3 : Int32)), (.int (3 : Int32))]))
            refine own_st (fun _ k => XS.icmpYes X0.here hx rfl (pc0 := 12) (pc' := 32) rfl (hb hby own_djdk_43_method_13_code_12) rfl (flt (by decide)).2.1 (by decide) (by decide) (XS.iconst X0.here hx rfl (hb hby own_djdk_43_method_13_code_32) k)) ?_
            show own_Go p.tables e below RR (s₁.setTop (mkF m 33 #[.val (.ref b1), .val (.ref b2), .val (.int (3 : Int32))] [(.int (1 : Int32))]))
            obtain ⟨fs, hrt_, hrun, hended, hW, hsame⟩ := X0.leave (v := some (.int (1 : Int32))) (fun h => by rw [Bd.returns] at h; cases h)
            refine own_fin (retN X0 hx (t := .boolean) Bd.returns (by simp) (hb hby own_djdk_43_method_13_code_33) hrt_) (hRR _ ⟨_, hrun, hended, _, _, rfl, ?_, ⟨_, rfl⟩, hW, hsame.mono (by decide) (by decide)⟩)
            show own_QLE Z b1 b2 k1 k2 xb (3 : Int32) 3 yb (3 : Int32) 3 h0 n0 _ s₁.heap _
            rw [e0]
            exact ⟨own_ri ((own_sY ⟨rfl, fun _ => ((own_beq (own_255 _) (own_255 _)).mp hc21_51), fun _ => ((own_beq (own_255 _) (own_255 _)).mp hc21_55), fun _ => ((own_beq (own_255 _) (own_255 _)).mp hc21_59)⟩).symm), N0, rfl⟩
          · refine own_st (fun _ k => XS.icmpNo X0.here hx rfl (hb hby own_djdk_43_method_13_code_21) rfl (feq hc21_59).1 (XS.iconst X0.here hx rfl (hb hby own_djdk_43_method_13_code_24) k)) ?_
            show own_Go p.tables e below RR (s₁.setTop (mkF m 25 #[.val (.ref b1), .val (.ref b2), .val (.int (2 : Int32))] [(.int (0 : Int32))]))
            obtain ⟨fs, hrt_, hrun, hended, hW, hsame⟩ := X0.leave (v := some (.int (0 : Int32))) (fun h => by rw [Bd.returns] at h; cases h)
            refine own_fin (retN X0 hx (t := .boolean) Bd.returns (by simp) (hb hby own_djdk_43_method_13_code_25) hrt_) (hRR _ ⟨_, hrun, hended, _, _, rfl, ?_, ⟨_, rfl⟩, hW, hsame.mono (by decide) (by decide)⟩)
            show own_QLE Z b1 b2 k1 k2 xb (3 : Int32) 3 yb (3 : Int32) 3 h0 n0 _ s₁.heap _
            rw [e0]
            exact ⟨own_ri ((own_sN (fun q_ => (fun z_ => hc21_59 ((own_beq (own_255 _) (own_255 _)).mpr z_)) (q_.2.2.2 (by decide)))).symm), N0, rfl⟩
        · refine own_st (fun _ k => XS.icmpNo X0.here hx rfl (hb hby own_djdk_43_method_13_code_21) rfl (feq hc21_55).1 (XS.iconst X0.here hx rfl (hb hby own_djdk_43_method_13_code_24) k)) ?_
          show own_Go p.tables e below RR (s₁.setTop (mkF m 25 #[.val (.ref b1), .val (.ref b2), .val (.int (1 : Int32))] [(.int (0 : Int32))]))
          obtain ⟨fs, hrt_, hrun, hended, hW, hsame⟩ := X0.leave (v := some (.int (0 : Int32))) (fun h => by rw [Bd.returns] at h; cases h)
          refine own_fin (retN X0 hx (t := .boolean) Bd.returns (by simp) (hb hby own_djdk_43_method_13_code_25) hrt_) (hRR _ ⟨_, hrun, hended, _, _, rfl, ?_, ⟨_, rfl⟩, hW, hsame.mono (by decide) (by decide)⟩)
          show own_QLE Z b1 b2 k1 k2 xb (3 : Int32) 3 yb (3 : Int32) 3 h0 n0 _ s₁.heap _
          rw [e0]
          exact ⟨own_ri ((own_sN (fun q_ => (fun z_ => hc21_55 ((own_beq (own_255 _) (own_255 _)).mpr z_)) (q_.2.2.1 (by decide)))).symm), N0, rfl⟩
      · refine own_st (fun _ k => XS.icmpNo X0.here hx rfl (hb hby own_djdk_43_method_13_code_21) rfl (feq hc21_51).1 (XS.iconst X0.here hx rfl (hb hby own_djdk_43_method_13_code_24) k)) ?_
        show own_Go p.tables e below RR (s₁.setTop (mkF m 25 #[.val (.ref b1), .val (.ref b2), .val (.int (0 : Int32))] [(.int (0 : Int32))]))
        obtain ⟨fs, hrt_, hrun, hended, hW, hsame⟩ := X0.leave (v := some (.int (0 : Int32))) (fun h => by rw [Bd.returns] at h; cases h)
        refine own_fin (retN X0 hx (t := .boolean) Bd.returns (by simp) (hb hby own_djdk_43_method_13_code_25) hrt_) (hRR _ ⟨_, hrun, hended, _, _, rfl, ?_, ⟨_, rfl⟩, hW, hsame.mono (by decide) (by decide)⟩)
        show own_QLE Z b1 b2 k1 k2 xb (3 : Int32) 3 yb (3 : Int32) 3 h0 n0 _ s₁.heap _
        rw [e0]
        exact ⟨own_ri ((own_sN (fun q_ => (fun z_ => hc21_51 ((own_beq (own_255 _) (own_255 _)).mpr z_)) (q_.2.1 (by decide)))).symm), N0, rfl⟩
theorem own_djdk_42_method_66_code_0 : decode jdk_42_method_66_code 0 = .ok (.aload_n 0, 1) := by decide +kernel
theorem own_djdk_42_method_66_code_1 : decode jdk_42_method_66_code 1 = .ok (.aload_n 1, 1) := by decide +kernel
theorem own_djdk_42_method_66_code_2 : decode jdk_42_method_66_code 2 = .ok (.if_acmp .ne 5, 3) := by decide +kernel
theorem own_djdk_42_method_66_code_5 : decode jdk_42_method_66_code 5 = .ok (.iconst 1, 1) := by decide +kernel
theorem own_djdk_42_method_66_code_6 : decode jdk_42_method_66_code 6 = .ok (.ireturn, 1) := by decide +kernel
theorem own_efEQS (m : MethodId) (o1 : Addr) (o1 : Addr) : entryFrame m #[(.ref o1), (.ref o1)] 3 = mkF m 0 #[.val (.ref o1), .val (.ref o1), .unset] [] := by first | (simp [entryFrame, mkF, argsToLocals, Value.category]; done) | rfl
def own_QEQS (Z : State) (o1 : Addr) (h0 : Heap) (n0 : Nat) (rv__ : Option Value) (h : Heap) (rL__ : List Loc) : Prop := rv__ = some (.int (1 : Int32)) ∧ Fr n0 rL__ ∧ h = h0
abbrev own_REQS : Room := { frames := 0, cells := 0, slots := 0, locals := 0 }
set_option maxRecDepth 65536 in
set_option maxHeartbeats 40000000 in
theorem own_rmEQS (l : Launch) (Z : State) (a0 : Array Value) (hw : ∀ d ∈ tables_1, d.before a0 Z = true) (ws : List Jvm.Cond) (o1 : Addr) (h0 : Heap) (n0 : Nat) (Z0 : n0 ≤ h0.size)  :
    MetFree l (⟨"java/lang/String", "equals", "(Ljava/lang/Object;)Z"⟩ : MethodName) (head1 (Jvm.Cond.code (⟨"java/lang/String", "equals", "(Ljava/lang/Object;)Z"⟩ : MethodName) jdk_42_method_66_code 3 (some .boolean) :: ws) own_REQS) (fun aa__ U => aa__ = #[(.ref o1), (.ref o1)] ∧ Z.Warmed39 U.vm ∧ U.heap = h0) (fun _ _ _ _ _ => True) (fun _ U oc_ U' => ∃ rv__ rL__, oc_ = .returned rv__ ∧ own_QEQS Z o1 h0 n0 rv__ U'.heap rL__ ∧ FrameEnd U oc_ U' rL__ own_REQS.cells own_REQS.slots) := by
  refine MetFree.of_bodySF (plainFor_of_name own_pn_java_lang_String) hisR ?_
  intro p e s m args below meth c s₁ Bd hml0 hP hK
  obtain ⟨rfl, hZ, hh⟩ := hP
  have hx := Bd.exec
  have hby := Bd.bytes
  have hml : c.maxLocals = 3 := hml0
  have hown : s.vm.findClass "java/lang/String" = some m.cls := findClass_of_methodNamed Bd.named
  have hnm := (name_of_methodNamed Bd.named Bd.method).1
  have X0 : Stand p l e own_REQS s m #[(.ref o1), (.ref o1)] below meth c s₁ [] 0 0 := Stand.of_body Bd
  have e0 : s₁.heap = h0 := by rw [← hh, Bd.state]; rfl
  have N0 := Fr.nil n0
  refine own_in (fun _ k => castTop (own_efEQS m o1 o1) k) ?_
  intro RR hRR
  show own_Go p.tables e below RR (s₁.setTop (mkF m 0 #[.val (.ref o1), .val (.ref o1), .unset] []))
  refine own_st (fun _ k => XS.aloadN X0.here hx rfl (hb hby own_djdk_42_method_66_code_0) rfl rfl (XS.aloadN X0.here hx rfl (hb hby own_djdk_42_method_66_code_1) rfl rfl k)) ?_
  show own_Go p.tables e below RR (s₁.setTop (mkF m 2 #[.val (.ref o1), .val (.ref o1), .unset] [(.ref o1), (.ref o1)]))
  refine own_st (fun _ k => Jvm.RoadKit.acmp (g := (mkF m 2 #[.val (.ref o1), .val (.ref o1), .unset] [(.ref o1), (.ref o1)])) X0 hx rfl rfl rfl (pc0 := 2) (pc' := 5) (same := true) rfl (hb hby own_djdk_42_method_66_code_2) rfl (decide_eq_true rfl) (by decide) (by decide) (XS.iconst X0.here hx rfl (hb hby own_djdk_42_method_66_code_5) k)) ?_
  show own_Go p.tables e below RR (s₁.setTop (mkF m 6 #[.val (.ref o1), .val (.ref o1), .unset] [(.int (1 : Int32))]))
  obtain ⟨fs, hrt_, hrun, hended, hW, hsame⟩ := X0.leave (v := some (.int (1 : Int32))) (fun h => by rw [Bd.returns] at h; cases h)
  refine own_fin (retN X0 hx (t := .boolean) Bd.returns (by simp) (hb hby own_djdk_42_method_66_code_6) hrt_) (hRR _ ⟨_, hrun, hended, _, _, rfl, ?_, ⟨_, rfl⟩, hW, hsame.mono (by decide) (by decide)⟩)
  show own_QEQS Z o1 h0 n0 _ s₁.heap _
  rw [e0]
  exact ⟨rfl, N0, rfl⟩
theorem own_djdk_42_method_66_code_7 : decode jdk_42_method_66_code 7 = .ok (.aload_n 1, 1) := by decide +kernel
theorem own_djdk_42_method_66_code_8 : decode jdk_42_method_66_code 8 = .ok (.instanceof 10, 3) := by decide +kernel
theorem own_djdk_42_method_66_code_11 : decode jdk_42_method_66_code 11 = .ok (.ifCond .eq 43, 3) := by decide +kernel
theorem own_djdk_42_method_66_code_14 : decode jdk_42_method_66_code 14 = .ok (.aload_n 1, 1) := by decide +kernel
theorem own_djdk_42_method_66_code_15 : decode jdk_42_method_66_code 15 = .ok (.checkcast 10, 3) := by decide +kernel
theorem own_djdk_42_method_66_code_18 : decode jdk_42_method_66_code 18 = .ok (.astore_n 2, 1) := by decide +kernel
theorem own_djdk_42_method_66_code_19 : decode jdk_42_method_66_code 19 = .ok (.getstatic 38, 3) := by decide +kernel
theorem own_djdk_42_method_66_code_22 : decode jdk_42_method_66_code 22 = .ok (.ifCond .eq 14, 3) := by decide +kernel
theorem own_djdk_42_method_66_code_25 : decode jdk_42_method_66_code 25 = .ok (.aload_n 0, 1) := by decide +kernel
theorem own_djdk_42_method_66_code_26 : decode jdk_42_method_66_code 26 = .ok (.getfield 15, 3) := by decide +kernel
theorem own_djdk_42_method_66_code_29 : decode jdk_42_method_66_code 29 = .ok (.aload_n 2, 1) := by decide +kernel
theorem own_djdk_42_method_66_code_30 : decode jdk_42_method_66_code 30 = .ok (.getfield 15, 3) := by decide +kernel
theorem own_djdk_42_method_66_code_33 : decode jdk_42_method_66_code 33 = .ok (.if_icmp .ne 21, 3) := by decide +kernel
theorem own_djdk_42_method_66_code_36 : decode jdk_42_method_66_code 36 = .ok (.aload_n 0, 1) := by decide +kernel
theorem own_djdk_42_method_66_code_37 : decode jdk_42_method_66_code 37 = .ok (.getfield 9, 3) := by decide +kernel
theorem own_djdk_42_method_66_code_40 : decode jdk_42_method_66_code 40 = .ok (.aload_n 2, 1) := by decide +kernel
theorem own_djdk_42_method_66_code_41 : decode jdk_42_method_66_code 41 = .ok (.getfield 9, 3) := by decide +kernel
theorem own_pd___B_B_Z : parseMethodDescriptor "([B[B)Z" = some ⟨[(.array .byte), (.array .byte)], some .boolean⟩ := by decide +kernel
theorem own_djdk_42_method_66_code_44 : decode jdk_42_method_66_code 44 = .ok (.invokestatic 541, 3) := by decide +kernel
theorem own_djdk_42_method_66_code_47 : decode jdk_42_method_66_code 47 = .ok (.ifCond .eq 7, 3) := by decide +kernel
theorem own_djdk_42_method_66_code_54 : decode jdk_42_method_66_code 54 = .ok (.iconst 0, 1) := by decide +kernel
theorem own_djdk_42_method_66_code_55 : decode jdk_42_method_66_code 55 = .ok (.ireturn, 1) := by decide +kernel
theorem own_djdk_42_method_66_code_50 : decode jdk_42_method_66_code 50 = .ok (.iconst 1, 1) := by decide +kernel
theorem own_djdk_42_method_66_code_51 : decode jdk_42_method_66_code 51 = .ok (.goto 4, 3) := by decide +kernel
theorem own_efEQD (m : MethodId) (o1 : Addr) (o2 : Addr) : entryFrame m #[(.ref o1), (.ref o2)] 3 = mkF m 0 #[.val (.ref o1), .val (.ref o2), .unset] [] := by first | (simp [entryFrame, mkF, argsToLocals, Value.category]; done) | rfl
def own_QEQD (Z : State) (o1 : Addr) (b1 : Addr) (k1 : ClassId) (xb : Int32) (xl : Int32) (xn : Nat) (o2 : Addr) (b2 : Addr) (k2 : ClassId) (yb : Int32) (yl : Int32) (yn : Nat) (cs : Int32) (h0 : Heap) (n0 : Nat) (rv__ : Option Value) (h : Heap) (rL__ : List Loc) : Prop := rv__ = some (.int (own_same xb xn yb yn)) ∧ Fr n0 rL__ ∧ h = h0
abbrev own_REQD : Room := { frames := 1, cells := 0, slots := 0, locals := 14 }
set_option maxRecDepth 65536 in
set_option maxHeartbeats 40000000 in
theorem own_rmEQD (l : Launch) (Z : State) (a0 : Array Value) (hw : ∀ d ∈ tables_1, d.before a0 Z = true) (ws : List Jvm.Cond) (o1 : Addr) (b1 : Addr) (k1 : ClassId) (xb : Int32) (xl : Int32) (xn : Nat) (o2 : Addr) (b2 : Addr) (k2 : ClassId) (yb : Int32) (yl : Int32) (yn : Nat) (cs : Int32) (h0 : Heap) (n0 : Nat) (Z0 : n0 ≤ h0.size) (Eq1 : Exa Z h0 o1 "java/lang/String") (Cq1 : Fld Z h0 o1 "java/lang/String" "coder" "B" (.int (0 : Int32))) (Vq1 : Fld Z h0 o1 "java/lang/String" "value" "[B" (.ref b1)) (AAq1 : Arv Z h0 b1 k1 .byte xl (own_tx xb xn) (.int (0 : Int32))) (hlq1 : own_ln xl xn) (Eq2 : Exa Z h0 o2 "java/lang/String") (Cq2 : Fld Z h0 o2 "java/lang/String" "coder" "B" (.int (0 : Int32))) (Vq2 : Fld Z h0 o2 "java/lang/String" "value" "[B" (.ref b2)) (AAq2 : Arv Z h0 b2 k2 .byte yl (own_tx yb yn) (.int (0 : Int32))) (hlq2 : own_ln yl yn) (S0 : Sta Z h0 "java/lang/String" "COMPACT_STRINGS" "Z" (.int cs)) (hcs : ¬ cs = (0 : Int32)) (ne : ¬ o1 = o2) :
    MetFree l (⟨"java/lang/String", "equals", "(Ljava/lang/Object;)Z"⟩ : MethodName) (head1 (Jvm.Cond.code (⟨"java/lang/String", "equals", "(Ljava/lang/Object;)Z"⟩ : MethodName) jdk_42_method_66_code 3 (some .boolean) :: ws) own_REQD) (fun aa__ U => aa__ = #[(.ref o1), (.ref o2)] ∧ Z.Warmed39 U.vm ∧ U.heap = h0) (fun _ _ _ _ _ => True) (fun _ U oc_ U' => ∃ rv__ rL__, oc_ = .returned rv__ ∧ own_QEQD Z o1 b1 k1 xb xl xn o2 b2 k2 yb yl yn cs h0 n0 rv__ U'.heap rL__ ∧ FrameEnd U oc_ U' rL__ own_REQD.cells own_REQD.slots) := by
  refine MetFree.of_bodySF (plainFor_of_name own_pn_java_lang_String) hisR ?_
  intro p e s m args below meth c s₁ Bd hml0 hP hK
  obtain ⟨rfl, hZ, hh⟩ := hP
  have hx := Bd.exec
  have hby := Bd.bytes
  have hml : c.maxLocals = 3 := hml0
  have hown : s.vm.findClass "java/lang/String" = some m.cls := findClass_of_methodNamed Bd.named
  have hnm := (name_of_methodNamed Bd.named Bd.method).1
  have X0 : Stand p l e own_REQD s m #[(.ref o1), (.ref o2)] below meth c s₁ [] 0 0 := Stand.of_body Bd
  have e0 : s₁.heap = h0 := by rw [← hh, Bd.state]; rfl
  have N0 := Fr.nil n0
  refine own_in (fun _ k => castTop (own_efEQD m o1 o2) k) ?_
  intro RR hRR
  show own_Go p.tables e below RR (s₁.setTop (mkF m 0 #[.val (.ref o1), .val (.ref o2), .unset] []))
  refine own_st (fun _ k => XS.aloadN X0.here hx rfl (hb hby own_djdk_42_method_66_code_0) rfl rfl (XS.aloadN X0.here hx rfl (hb hby own_djdk_42_method_66_code_1) rfl rfl k)) ?_
  show own_Go p.tables e below RR (s₁.setTop (mkF m 2 #[.val (.ref o1), .val (.ref o2), .unset] [(.ref o2), (.ref o1)]))
  have hc2_1 : ¬ (o1 = o2) := ne
  refine own_st (fun _ k => Jvm.RoadKit.acmp (g := (mkF m 2 #[.val (.ref o1), .val (.ref o2), .unset] [(.ref o2), (.ref o1)])) X0 hx rfl rfl rfl (pc0 := 2) (pc' := 7) (same := false) rfl (hb hby own_djdk_42_method_66_code_2) rfl (decide_eq_false fun q => hc2_1 (Value.ref.inj q)) (by decide) (by decide) (XS.aloadN X0.here hx rfl (hb hby own_djdk_42_method_66_code_7) rfl rfl k)) ?_
  show own_Go p.tables e below RR (s₁.setTop (mkF m 8 #[.val (.ref o1), .val (.ref o2), .unset] [(.ref o2)]))
  obtain ⟨T2, X2, e2, st2⟩ := instY X0 hx hZ hown (hw _ (List.mem_of_getElem? (i := 71) rfl)) e0 (Ins.self Eq2) (g := (mkF m 8 #[.val (.ref o1), .val (.ref o2), .unset] [(.ref o2)])) rfl rfl (hb hby own_djdk_42_method_66_code_8)
  refine own_st st2 ?_
  show own_Go p.tables e below RR (T2.setTop (mkF m 11 #[.val (.ref o1), .val (.ref o2), .unset] [(.int (1 : Int32))]))
  refine own_st (fun _ k => XS.ifNo X2.here hx rfl (hb hby own_djdk_42_method_66_code_11) rfl ((if0 _ _).trans (feq (by decide)).1) (XS.aloadN X2.here hx rfl (hb hby own_djdk_42_method_66_code_14) rfl rfl k)) ?_
  show own_Go p.tables e below RR (T2.setTop (mkF m 15 #[.val (.ref o1), .val (.ref o2), .unset] [(.ref o2)]))
  obtain ⟨T3, X3, e3, st3⟩ := castY X2 hx hZ hown (hw _ (List.mem_of_getElem? (i := 71) rfl)) e2 (Ins.self Eq2) (g := (mkF m 15 #[.val (.ref o1), .val (.ref o2), .unset] [(.ref o2)])) rfl rfl (hb hby own_djdk_42_method_66_code_15)
  refine own_st st3 ?_
  show own_Go p.tables e below RR (T3.setTop (mkF m 18 #[.val (.ref o1), .val (.ref o2), .unset] [(.ref o2)]))
  refine own_st (fun _ k => XS.astoreN X3.here hx rfl (hb hby own_djdk_42_method_66_code_18) rfl rfl (l' := #[.val (.ref o1), .val (.ref o2), .val (.ref o2)]) rfl k) ?_
  show own_Go p.tables e below RR (T3.setTop (mkF m 19 #[.val (.ref o1), .val (.ref o2), .val (.ref o2)] []))
  obtain ⟨T4, X4, e4, st4⟩ := getS2 X3 hx hZ hown (host := "") (Or.inl (hw _ (List.mem_of_getElem? (i := 32) rfl))) Via.refl e3 S0 (g := (mkF m 19 #[.val (.ref o1), .val (.ref o2), .val (.ref o2)] [])) rfl (hb hby own_djdk_42_method_66_code_19)
  refine own_st st4 ?_
  show own_Go p.tables e below RR (T4.setTop (mkF m 22 #[.val (.ref o1), .val (.ref o2), .val (.ref o2)] [(.int cs)]))
  have hc22_5 : ¬ (cs = (0 : Int32)) := hcs
  refine own_st (fun _ k => XS.ifNo X4.here hx rfl (hb hby own_djdk_42_method_66_code_22) rfl ((if0 _ _).trans (feq hc22_5).1) (XS.aloadN X4.here hx rfl (hb hby own_djdk_42_method_66_code_25) rfl rfl k)) ?_
  show own_Go p.tables e below RR (T4.setTop (mkF m 26 #[.val (.ref o1), .val (.ref o2), .val (.ref o2)] [(.ref o1)]))
  obtain ⟨T6, X6, e6, st6⟩ := getF X4 hx hZ hown (host := "") (Or.inl (hw _ (List.mem_of_getElem? (i := 28) rfl))) Via.refl e4 Cq1 (g := (mkF m 26 #[.val (.ref o1), .val (.ref o2), .val (.ref o2)] [(.ref o1)])) rfl rfl (hb hby own_djdk_42_method_66_code_26)
  refine own_st st6 ?_
  show own_Go p.tables e below RR (T6.setTop (mkF m 29 #[.val (.ref o1), .val (.ref o2), .val (.ref o2)] [(.int (0 : Int32))]))
  refine own_st (fun _ k => XS.aloadN X6.here hx rfl (hb hby own_djdk_42_method_66_code_29) rfl rfl k) ?_
  show own_Go p.tables e below RR (T6.setTop (mkF m 30 #[.val (.ref o1), .val (.ref o2), .val (.ref o2)] [(.ref o2), (.int (0 : Int32))]))
  obtain ⟨T7, X7, e7, st7⟩ := getF X6 hx hZ hown (host := "") (Or.inl (hw _ (List.mem_of_getElem? (i := 28) rfl))) Via.refl e6 Cq2 (g := (mkF m 30 #[.val (.ref o1), .val (.ref o2), .val (.ref o2)] [(.ref o2), (.int (0 : Int32))])) rfl rfl (hb hby own_djdk_42_method_66_code_30)
  refine own_st st7 ?_
  show own_Go p.tables e below RR (T7.setTop (mkF m 33 #[.val (.ref o1), .val (.ref o2), .val (.ref o2)] [(.int (0 : Int32)), (.int (0 : Int32))]))
  refine own_st (fun _ k => XS.icmpNo X7.here hx rfl (hb hby own_djdk_42_method_66_code_33) rfl (teq (by decide)).2 (XS.aloadN X7.here hx rfl (hb hby own_djdk_42_method_66_code_36) rfl rfl k)) ?_
  show own_Go p.tables e below RR (T7.setTop (mkF m 37 #[.val (.ref o1), .val (.ref o2), .val (.ref o2)] [(.ref o1)]))
  obtain ⟨T8, X8, e8, st8⟩ := getF X7 hx hZ hown (host := "") (Or.inl (hw _ (List.mem_of_getElem? (i := 27) rfl))) Via.refl e7 Vq1 (g := (mkF m 37 #[.val (.ref o1), .val (.ref o2), .val (.ref o2)] [(.ref o1)])) rfl rfl (hb hby own_djdk_42_method_66_code_37)
  refine own_st st8 ?_
  show own_Go p.tables e below RR (T8.setTop (mkF m 40 #[.val (.ref o1), .val (.ref o2), .val (.ref o2)] [(.ref b1)]))
  refine own_st (fun _ k => XS.aloadN X8.here hx rfl (hb hby own_djdk_42_method_66_code_40) rfl rfl k) ?_
  show own_Go p.tables e below RR (T8.setTop (mkF m 41 #[.val (.ref o1), .val (.ref o2), .val (.ref o2)] [(.ref o2), (.ref b1)]))
  obtain ⟨T9, X9, e9, st9⟩ := getF X8 hx hZ hown (host := "") (Or.inl (hw _ (List.mem_of_getElem? (i := 27) rfl))) Via.refl e8 Vq2 (g := (mkF m 41 #[.val (.ref o1), .val (.ref o2), .val (.ref o2)] [(.ref o2), (.ref b1)])) rfl rfl (hb hby own_djdk_42_method_66_code_41)
  refine own_st st9 ?_
  show own_Go p.tables e below RR (T9.setTop (mkF m 44 #[.val (.ref o1), .val (.ref o2), .val (.ref o2)] [(.ref b2), (.ref b1)]))
  obtain ⟨_, _, ⟨T10, L10, k10, n10⟩, -, X10, ⟨Lc10, hQ10, l10, y10, z10⟩, st10⟩ := Jvm.LawKit.callS X9 hx (y := (⟨"java/lang/StringLatin1", "equals", "([B[B)Z"⟩ : MethodName)) hown (mvT hZ (hw _ (List.mem_of_getElem? (i := 72) rfl))) (mvT hZ (hw _ (List.mem_of_getElem? (i := 73) rfl))) (mvT hZ (hw _ (List.mem_of_getElem? (i := 74) rfl))) (mvT hZ (hw _ (List.mem_of_getElem? (i := 75) rfl))) (by decide) (backOf (W := 0) (own_rmLE l Z a0 hw [] b1 b2 k1 k2 xb xl xn yb yl yn h0 n0 Z0 hlq1 hlq2 AAq1 AAq2) hZ (hw _ (List.mem_of_getElem? (i := 75) rfl)) (hw _ (List.mem_of_getElem? (i := 74) rfl)) (by decide) (by decide)) (g := (mkF m 44 #[.val (.ref o1), .val (.ref o2), .val (.ref o2)] [(.ref b2), (.ref b1)])) rfl (by rw [hml]; rfl) (argsL := [(.ref b1), (.ref b2)]) (rest := []) (lenOf own_pd___B_B_Z rfl) rfl (by show 2 * 0 + _ ≤ _; exact Nat.le_of_eq rfl) (hb hby own_djdk_42_method_66_code_44) (fun _ _ => ⟨rfl, e9, (by decide : 0 + 0 ≤ _), (by decide : 0 + 0 ≤ _)⟩)
  dsimp only [Pt.U, Pt.locs, Pt.cells, Pt.slots] at X10 l10 y10 z10 st10 hQ10
  subst l10 y10 z10
  obtain ⟨rfl, Nq10, eq10⟩ := hQ10
  have N10 := Fr.app N0 Nq10
  refine own_st st10 ?_
  show own_Go p.tables e below RR (T10.setTop (mkF m 47 #[.val (.ref o1), .val (.ref o2), .val (.ref o2)] [(.int (own_same xb xn yb yn))]))
  by_cases hc47_11 : (own_same xb xn yb yn) = (0 : Int32)
  · refine own_st (fun _ k => XS.ifYes X10.here hx rfl (pc0 := 47) (pc' := 54) rfl (hb hby own_djdk_42_method_66_code_47) rfl ((if0 _ _).trans (teq hc47_11).1) (by decide) (by decide) (XS.iconst X10.here hx rfl (hb hby own_djdk_42_method_66_code_54) k)) ?_
    show own_Go p.tables e below RR (T10.setTop (mkF m 55 #[.val (.ref o1), .val (.ref o2), .val (.ref o2)] [(.int (0 : Int32))]))
    obtain ⟨fs, hrt_, hrun, hended, hW, hsame⟩ := X10.leave (v := some (.int (0 : Int32))) (fun h => by rw [Bd.returns] at h; cases h)
    refine own_fin (retN X10 hx (t := .boolean) Bd.returns (by simp) (hb hby own_djdk_42_method_66_code_55) hrt_) (hRR _ ⟨_, hrun, hended, _, _, rfl, ?_, ⟨_, rfl⟩, hW, hsame.mono (by decide) (by decide)⟩)
    show own_QEQD Z o1 b1 k1 xb xl xn o2 b2 k2 yb yl yn cs h0 n0 _ T10.heap _
    rw [eq10]
    exact ⟨own_ri (hc47_11.symm), N10, rfl⟩
  · refine own_st (fun _ k => XS.ifNo X10.here hx rfl (hb hby own_djdk_42_method_66_code_47) rfl ((if0 _ _).trans (feq hc47_11).1) (XS.iconst X10.here hx rfl (hb hby own_djdk_42_method_66_code_50) (XS.goto X10.here hx rfl (pc0 := 51) (pc' := 55) rfl (hb hby own_djdk_42_method_66_code_51) (by decide) (by decide) k))) ?_
    show own_Go p.tables e below RR (T10.setTop (mkF m 55 #[.val (.ref o1), .val (.ref o2), .val (.ref o2)] [(.int (1 : Int32))]))
    obtain ⟨fs, hrt_, hrun, hended, hW, hsame⟩ := X10.leave (v := some (.int (1 : Int32))) (fun h => by rw [Bd.returns] at h; cases h)
    refine own_fin (retN X10 hx (t := .boolean) Bd.returns (by simp) (hb hby own_djdk_42_method_66_code_55) hrt_) (hRR _ ⟨_, hrun, hended, _, _, rfl, ?_, ⟨_, rfl⟩, hW, hsame.mono (by decide) (by decide)⟩)
    show own_QEQD Z o1 b1 k1 xb xl xn o2 b2 k2 yb yl yn cs h0 n0 _ T10.heap _
    rw [eq10]
    exact ⟨own_ri (((own_s01 xb xn yb yn).resolve_left hc47_11).symm), N10, rfl⟩
theorem own_pn_java_util_Objects : plainName "java/util/Objects" = true := by first | (simp [plainName, overriddenIn]; done) | decide +kernel
theorem own_djdk_31_method_10_code_0 : decode jdk_31_method_10_code 0 = .ok (.aload_n 0, 1) := by decide +kernel
theorem own_djdk_31_method_10_code_1 : decode jdk_31_method_10_code 1 = .ok (.ifnonnull 11, 3) := by decide +kernel
theorem own_djdk_31_method_10_code_12 : decode jdk_31_method_10_code 12 = .ok (.aload_n 0, 1) := by decide +kernel
theorem own_djdk_31_method_10_code_13 : decode jdk_31_method_10_code 13 = .ok (.areturn, 1) := by decide +kernel
theorem own_efNN (m : MethodId) (r : Addr) : entryFrame m #[(.ref r)] 1 = mkF m 0 #[.val (.ref r)] [] := by first | (simp [entryFrame, mkF, argsToLocals, Value.category]; done) | rfl
def own_QNN (Z : State) (r : Addr) (h0 : Heap) (n0 : Nat) (rv__ : Option Value) (h : Heap) (rL__ : List Loc) : Prop := rv__ = some (.ref r) ∧ Fr n0 rL__ ∧ h = h0
abbrev own_RNN : Room := { frames := 0, cells := 0, slots := 0, locals := 0 }
set_option maxRecDepth 65536 in
set_option maxHeartbeats 40000000 in
theorem own_rmNN (l : Launch) (Z : State) (a0 : Array Value) (hw : ∀ d ∈ tables_1, d.before a0 Z = true) (ws : List Jvm.Cond) (r : Addr) (h0 : Heap) (n0 : Nat) (Z0 : n0 ≤ h0.size)  :
    MetFree l (⟨"java/util/Objects", "requireNonNull", "(Ljava/lang/Object;)Ljava/lang/Object;"⟩ : MethodName) (head1 (Jvm.Cond.code (⟨"java/util/Objects", "requireNonNull", "(Ljava/lang/Object;)Ljava/lang/Object;"⟩ : MethodName) jdk_31_method_10_code 1 (some (.object "java/lang/Object")) :: ws) own_RNN) (fun aa__ U => aa__ = #[(.ref r)] ∧ Z.Warmed39 U.vm ∧ U.heap = h0) (fun _ _ _ _ _ => True) (fun _ U oc_ U' => ∃ rv__ rL__, oc_ = .returned rv__ ∧ own_QNN Z r h0 n0 rv__ U'.heap rL__ ∧ FrameEnd U oc_ U' rL__ own_RNN.cells own_RNN.slots) := by
  refine MetFree.of_bodySF (plainFor_of_name own_pn_java_util_Objects) hisR ?_
  intro p e s m args below meth c s₁ Bd hml0 hP hK
  obtain ⟨rfl, hZ, hh⟩ := hP
  have hx := Bd.exec
  have hby := Bd.bytes
  have hml : c.maxLocals = 1 := hml0
  have hown : s.vm.findClass "java/util/Objects" = some m.cls := findClass_of_methodNamed Bd.named
  have hnm := (name_of_methodNamed Bd.named Bd.method).1
  have X0 : Stand p l e own_RNN s m #[(.ref r)] below meth c s₁ [] 0 0 := Stand.of_body Bd
  have e0 : s₁.heap = h0 := by rw [← hh, Bd.state]; rfl
  have N0 := Fr.nil n0
  refine own_in (fun _ k => castTop (own_efNN m r) k) ?_
  intro RR hRR
  show own_Go p.tables e below RR (s₁.setTop (mkF m 0 #[.val (.ref r)] []))
  refine own_st (fun _ k => XS.aloadN X0.here hx rfl (hb hby own_djdk_31_method_10_code_0) rfl rfl k) ?_
  show own_Go p.tables e below RR (s₁.setTop (mkF m 1 #[.val (.ref r)] [(.ref r)]))
  refine own_st (fun _ k => XS.ifnonnullYes X0.here hx rfl (pc0 := 1) (pc' := 12) rfl (hb hby own_djdk_31_method_10_code_1) rfl (by decide) (by decide) (XS.aloadN X0.here hx rfl (hb hby own_djdk_31_method_10_code_12) rfl rfl k)) ?_
  show own_Go p.tables e below RR (s₁.setTop (mkF m 13 #[.val (.ref r)] [(.ref r)]))
  obtain ⟨fs, hrt_, hrun, hended, hW, hsame⟩ := X0.leave (v := some (.ref r)) (fun h => by rw [Bd.returns] at h; cases h)
  refine own_fin (retOut X0 hx Bd.returns rfl (Or.inr (Or.inr (Or.inr (Or.inr ⟨rfl, rfl, rfl⟩)))) (hb hby own_djdk_31_method_10_code_13) hrt_) (hRR _ ⟨_, hrun, hended, _, _, rfl, ?_, ⟨_, rfl⟩, hW, hsame.mono (by decide) (by decide)⟩)
  show own_QNN Z r h0 n0 _ s₁.heap _
  rw [e0]
  exact ⟨rfl, N0, rfl⟩
theorem own_pn_com_example_unstor_unstor_Scope : plainName "com/example/unstor/unstor/Scope" = true := by first | (simp [plainName, overriddenIn]; done) | decide +kernel
theorem own_dprog_21_method_1_code_0 : decode prog_21_method_1_code 0 = .ok (.aload_n 0, 1) := by decide +kernel
theorem own_dprog_21_method_1_code_1 : decode prog_21_method_1_code 1 = .ok (.invokespecial 1, 3) := by decide +kernel
theorem own_dprog_21_method_1_code_4 : decode prog_21_method_1_code 4 = .ok (.aload_n 0, 1) := by decide +kernel
theorem own_dprog_21_method_1_code_5 : decode prog_21_method_1_code 5 = .ok (.aload_n 1, 1) := by decide +kernel
theorem own_pd__Ljava_lang_Object__Ljava_lang_Object_ : parseMethodDescriptor "(Ljava/lang/Object;)Ljava/lang/Object;" = some ⟨[(.object "java/lang/Object")], some (.object "java/lang/Object")⟩ := by decide +kernel
theorem own_dprog_21_method_1_code_6 : decode prog_21_method_1_code 6 = .ok (.invokestatic 7, 3) := by decide +kernel
theorem own_dprog_21_method_1_code_9 : decode prog_21_method_1_code 9 = .ok (.checkcast 13, 3) := by decide +kernel
theorem own_dprog_21_method_1_code_12 : decode prog_21_method_1_code 12 = .ok (.putfield 15, 3) := by decide +kernel
theorem own_dprog_21_method_1_code_15 : decode prog_21_method_1_code 15 = .ok (.aload_n 0, 1) := by decide +kernel
theorem own_dprog_21_method_1_code_16 : decode prog_21_method_1_code 16 = .ok (.aload_n 2, 1) := by decide +kernel
theorem own_dprog_21_method_1_code_17 : decode prog_21_method_1_code 17 = .ok (.invokestatic 7, 3) := by decide +kernel
theorem own_dprog_21_method_1_code_20 : decode prog_21_method_1_code 20 = .ok (.checkcast 13, 3) := by decide +kernel
theorem own_dprog_21_method_1_code_23 : decode prog_21_method_1_code 23 = .ok (.putfield 21, 3) := by decide +kernel
theorem own_dprog_21_method_1_code_26 : decode prog_21_method_1_code 26 = .ok (.return_, 1) := by decide +kernel
theorem own_efII (m : MethodId) (o : Addr) (sa : Addr) (sb : Addr) : entryFrame m #[(.ref o), (.ref sa), (.ref sb)] 3 = mkF m 0 #[.val (.ref o), .val (.ref sa), .val (.ref sb)] [] := by first | (simp [entryFrame, mkF, argsToLocals, Value.category]; done) | rfl
def own_QII (Z : State) (o : Addr) (sa : Addr) (sb : Addr) (h0 : Heap) (n0 : Nat) (rv__ : Option Value) (h : Heap) (rL__ : List Loc) : Prop := rv__ = none ∧ Fr n0 rL__ ∧ Keep h0 h [o] ∧ Exa Z h o "com/example/unstor/unstor/Scope" ∧ Fld Z h o "com/example/unstor/unstor/Scope" "org" "Ljava/lang/String;" (.ref sa) ∧ Fld Z h o "com/example/unstor/unstor/Scope" "sandbox" "Ljava/lang/String;" (.ref sb)
abbrev own_RII : Room := { frames := 1, cells := 0, slots := 0, locals := 13 }
set_option maxRecDepth 65536 in
set_option maxHeartbeats 40000000 in
theorem own_rmII (l : Launch) (Z : State) (a0 : Array Value) (hw : ∀ d ∈ tables_1, d.before a0 Z = true) (ws : List Jvm.Cond) (o : Addr) (sa : Addr) (sb : Addr) (h0 : Heap) (n0 : Nat) (Z0 : n0 ≤ h0.size) (g_o : n0 ≤ o) (E : Exa Z h0 o "com/example/unstor/unstor/Scope") (Fn : Fld Z h0 o "com/example/unstor/unstor/Scope" "org" "Ljava/lang/String;" .null) (Fi : Fld Z h0 o "com/example/unstor/unstor/Scope" "sandbox" "Ljava/lang/String;" .null) (Ea : Exa Z h0 sa "java/lang/String") (Eb : Exa Z h0 sb "java/lang/String") :
    MetFree l (⟨"com/example/unstor/unstor/Scope", "<init>", "(Ljava/lang/String;Ljava/lang/String;)V"⟩ : MethodName) (head1 (Jvm.Cond.code (⟨"com/example/unstor/unstor/Scope", "<init>", "(Ljava/lang/String;Ljava/lang/String;)V"⟩ : MethodName) prog_21_method_1_code 3 none :: ws) own_RII) (fun aa__ U => aa__ = #[(.ref o), (.ref sa), (.ref sb)] ∧ Z.Warmed39 U.vm ∧ U.heap = h0) (fun _ _ _ _ _ => True) (fun _ U oc_ U' => ∃ rv__ rL__, oc_ = .returned rv__ ∧ own_QII Z o sa sb h0 n0 rv__ U'.heap rL__ ∧ FrameEnd U oc_ U' rL__ own_RII.cells own_RII.slots) := by
  refine MetFree.of_bodySF (plainFor_of_name own_pn_com_example_unstor_unstor_Scope) hisR ?_
  intro p e s m args below meth c s₁ Bd hml0 hP hK
  obtain ⟨rfl, hZ, hh⟩ := hP
  have hx := Bd.exec
  have hby := Bd.bytes
  have hml : c.maxLocals = 3 := hml0
  have hown : s.vm.findClass "com/example/unstor/unstor/Scope" = some m.cls := findClass_of_methodNamed Bd.named
  have hnm := (name_of_methodNamed Bd.named Bd.method).1
  have X0 : Stand p l e own_RII s m #[(.ref o), (.ref sa), (.ref sb)] below meth c s₁ [] 0 0 := Stand.of_body Bd
  have e0 : s₁.heap = h0 := by rw [← hh, Bd.state]; rfl
  have N0 := Fr.nil n0
  refine own_in (fun _ k => castTop (own_efII m o sa sb) k) ?_
  intro RR hRR
  show own_Go p.tables e below RR (s₁.setTop (mkF m 0 #[.val (.ref o), .val (.ref sa), .val (.ref sb)] []))
  refine own_st (fun _ k => XS.aloadN X0.here hx rfl (hb hby own_dprog_21_method_1_code_0) rfl rfl k) ?_
  show own_Go p.tables e below RR (s₁.setTop (mkF m 1 #[.val (.ref o), .val (.ref sa), .val (.ref sb)] [(.ref o)]))
  obtain ⟨T1, X1, e1, st1⟩ := initO X0 hx hZ hown (hw _ (List.mem_of_getElem? (i := 46) rfl)) (hw _ (List.mem_of_getElem? (i := 19) rfl)) (hw _ (List.mem_of_getElem? (i := 20) rfl)) e0 (g := (mkF m 1 #[.val (.ref o), .val (.ref sa), .val (.ref sb)] [(.ref o)])) rfl (by rw [hml]; rfl) rfl (hb hby own_dprog_21_method_1_code_1) (by decide) (W := 0) (by show 2 * 0 + _ ≤ _; exact Nat.le_of_eq rfl) (by decide)
  refine own_st st1 ?_
  show own_Go p.tables e below RR (T1.setTop (mkF m 4 #[.val (.ref o), .val (.ref sa), .val (.ref sb)] []))
  refine own_st (fun _ k => XS.aloadN X1.here hx rfl (hb hby own_dprog_21_method_1_code_4) rfl rfl (XS.aloadN X1.here hx rfl (hb hby own_dprog_21_method_1_code_5) rfl rfl k)) ?_
  show own_Go p.tables e below RR (T1.setTop (mkF m 6 #[.val (.ref o), .val (.ref sa), .val (.ref sb)] [(.ref sa), (.ref o)]))
  obtain ⟨_, _, ⟨T2, L2, k2, n2⟩, -, X2, ⟨Lc2, hQ2, l2, y2, z2⟩, st2⟩ := Jvm.LawKit.callS X1 hx (y := (⟨"java/util/Objects", "requireNonNull", "(Ljava/lang/Object;)Ljava/lang/Object;"⟩ : MethodName)) hown (mvT hZ (hw _ (List.mem_of_getElem? (i := 47) rfl))) (mvT hZ (hw _ (List.mem_of_getElem? (i := 48) rfl))) (mvT hZ (hw _ (List.mem_of_getElem? (i := 49) rfl))) (mvT hZ (hw _ (List.mem_of_getElem? (i := 50) rfl))) (by decide) (backOf (W := 1) (own_rmNN l Z a0 hw [] sa h0 n0 Z0 ) hZ (hw _ (List.mem_of_getElem? (i := 50) rfl)) (hw _ (List.mem_of_getElem? (i := 49) rfl)) (by decide) (by decide)) (g := (mkF m 6 #[.val (.ref o), .val (.ref sa), .val (.ref sb)] [(.ref sa), (.ref o)])) rfl (by rw [hml]; rfl) (argsL := [(.ref sa)]) (rest := [(.ref o)]) (lenOf own_pd__Ljava_lang_Object__Ljava_lang_Object_ rfl) rfl (by show 2 * 0 + _ ≤ _; exact Nat.le_of_eq rfl) (hb hby own_dprog_21_method_1_code_6) (fun _ _ => ⟨rfl, e1, (by decide : 0 + 0 ≤ _), (by decide : 0 + 0 ≤ _)⟩)
  dsimp only [Pt.U, Pt.locs, Pt.cells, Pt.slots] at X2 l2 y2 z2 st2 hQ2
  subst l2 y2 z2
  obtain ⟨rfl, Nq2, eq2⟩ := hQ2
  have N2 := Fr.app N0 Nq2
  refine own_st st2 ?_
  show own_Go p.tables e below RR (T2.setTop (mkF m 9 #[.val (.ref o), .val (.ref sa), .val (.ref sb)] [(.ref sa), (.ref o)]))
  obtain ⟨T3, X3, e3, st3⟩ := castY X2 hx hZ hown (hw _ (List.mem_of_getElem? (i := 51) rfl)) eq2 (Ins.self Ea) (g := (mkF m 9 #[.val (.ref o), .val (.ref sa), .val (.ref sb)] [(.ref sa), (.ref o)])) rfl rfl (hb hby own_dprog_21_method_1_code_9)
  refine own_st st3 ?_
  show own_Go p.tables e below RR (T3.setTop (mkF m 12 #[.val (.ref o), .val (.ref sa), .val (.ref sb)] [(.ref sa), (.ref o)]))
  obtain ⟨T4, h4, X4, e4, W4, st4⟩ := putF X3 hx hZ hown (host := "") (Or.inl (hw _ (List.mem_of_getElem? (i := 52) rfl))) Via.refl e3 Fn E (Or.inr ⟨(hw _ (List.mem_of_getElem? (i := 53) rfl)), rfl, hnm⟩) (hw _ (List.mem_of_getElem? (i := 1) rfl)) (ty := (.object "java/lang/String")) (by decide) rfl rfl (g := (mkF m 12 #[.val (.ref o), .val (.ref sa), .val (.ref sb)] [(.ref sa), (.ref o)])) rfl rfl (hb hby own_dprog_21_method_1_code_12)
  have Fw4 := Fn.same W4
  have N4 := Fr.snoc X4 N2 g_o
  refine own_st st4 ?_
  have z5 : n0 ≤ h4.size := Nat.le_trans Z0 (Keep.of_wr W4).1
  have kk6 : Keep h0 h4 [o] := (Keep.refl h0 [o]).wr W4 (Or.inl (List.mem_of_getElem? (i := 0) rfl))
  show own_Go p.tables e below RR (T4.setTop (mkF m 15 #[.val (.ref o), .val (.ref sa), .val (.ref sb)] []))
  refine own_st (fun _ k => XS.aloadN X4.here hx rfl (hb hby own_dprog_21_method_1_code_15) rfl rfl (XS.aloadN X4.here hx rfl (hb hby own_dprog_21_method_1_code_16) rfl rfl k)) ?_
  show own_Go p.tables e below RR (T4.setTop (mkF m 17 #[.val (.ref o), .val (.ref sa), .val (.ref sb)] [(.ref sb), (.ref o)]))
  obtain ⟨_, _, ⟨T7, L7, k7, n7⟩, -, X7, ⟨Lc7, hQ7, l7, y7, z7⟩, st7⟩ := Jvm.LawKit.callS X4 hx (y := (⟨"java/util/Objects", "requireNonNull", "(Ljava/lang/Object;)Ljava/lang/Object;"⟩ : MethodName)) hown (mvT hZ (hw _ (List.mem_of_getElem? (i := 47) rfl))) (mvT hZ (hw _ (List.mem_of_getElem? (i := 48) rfl))) (mvT hZ (hw _ (List.mem_of_getElem? (i := 49) rfl))) (mvT hZ (hw _ (List.mem_of_getElem? (i := 50) rfl))) (by decide) (backOf (W := 1) (own_rmNN l Z a0 hw [] sb h4 n0 z5 ) hZ (hw _ (List.mem_of_getElem? (i := 50) rfl)) (hw _ (List.mem_of_getElem? (i := 49) rfl)) (by decide) (by decide)) (g := (mkF m 17 #[.val (.ref o), .val (.ref sa), .val (.ref sb)] [(.ref sb), (.ref o)])) rfl (by rw [hml]; rfl) (argsL := [(.ref sb)]) (rest := [(.ref o)]) (lenOf own_pd__Ljava_lang_Object__Ljava_lang_Object_ rfl) rfl (by show 2 * 0 + _ ≤ _; exact Nat.le_of_eq rfl) (hb hby own_dprog_21_method_1_code_17) (fun _ _ => ⟨rfl, e4, (by decide : 0 + 0 ≤ _), (by decide : 0 + 0 ≤ _)⟩)
  dsimp only [Pt.U, Pt.locs, Pt.cells, Pt.slots] at X7 l7 y7 z7 st7 hQ7
  subst l7 y7 z7
  obtain ⟨rfl, Nq7, eq7⟩ := hQ7
  have N7 := Fr.app N4 Nq7
  refine own_st st7 ?_
  show own_Go p.tables e below RR (T7.setTop (mkF m 20 #[.val (.ref o), .val (.ref sa), .val (.ref sb)] [(.ref sb), (.ref o)]))
  have f8 := (Eb.wr W4)
  obtain ⟨T9, X9, e9, st9⟩ := castY X7 hx hZ hown (hw _ (List.mem_of_getElem? (i := 51) rfl)) eq7 (Ins.self f8) (g := (mkF m 20 #[.val (.ref o), .val (.ref sa), .val (.ref sb)] [(.ref sb), (.ref o)])) rfl rfl (hb hby own_dprog_21_method_1_code_20)
  refine own_st st9 ?_
  show own_Go p.tables e below RR (T9.setTop (mkF m 23 #[.val (.ref o), .val (.ref sa), .val (.ref sb)] [(.ref sb), (.ref o)]))
  have f10 := (Fi.other W4 (Or.inr (slot_ne (Or.inr (hw _ (List.mem_of_getElem? (i := 55) rfl))) (Or.inr (hw _ (List.mem_of_getElem? (i := 53) rfl))) (by decide) (t := (.object "java/lang/String")) (t' := (.object "java/lang/String")) (by decide) (by decide))))
  have f11 := (E.wr W4)
  obtain ⟨T12, h12, X12, e12, W12, st12⟩ := putF X9 hx hZ hown (host := "") (Or.inl (hw _ (List.mem_of_getElem? (i := 54) rfl))) Via.refl e9 f10 f11 (Or.inr ⟨(hw _ (List.mem_of_getElem? (i := 55) rfl)), rfl, hnm⟩) (hw _ (List.mem_of_getElem? (i := 1) rfl)) (ty := (.object "java/lang/String")) (by decide) rfl rfl (g := (mkF m 23 #[.val (.ref o), .val (.ref sa), .val (.ref sb)] [(.ref sb), (.ref o)])) rfl rfl (hb hby own_dprog_21_method_1_code_23)
  have Fw12 := f10.same W12
  have N12 := Fr.snoc X12 N7 g_o
  refine own_st st12 ?_
  have z13 : n0 ≤ h12.size := Nat.le_trans z5 (Keep.of_wr W12).1
  have kk14 : Keep h0 h12 [o] := kk6.wr W12 (Or.inl (List.mem_of_getElem? (i := 0) rfl))
  show own_Go p.tables e below RR (T12.setTop (mkF m 26 #[.val (.ref o), .val (.ref sa), .val (.ref sb)] []))
  obtain ⟨fs, hrt_, hrun, hended, hW, hsame⟩ := X12.leave (v := none) (fun _ => rfl)
  refine own_fin (X12.returnOut hx Bd.returns (hb hby own_dprog_21_method_1_code_26) hrt_) (hRR _ ⟨_, hrun, hended, _, _, rfl, ?_, ⟨_, rfl⟩, hW, hsame.mono (by decide) (by decide)⟩)
  show own_QII Z o sa sb h0 n0 _ T12.heap _
  rw [e12]
  have f15 := (f11.wr W12)
  have f16 := (Fw4.other W12 (Or.inr (slot_ne (Or.inr (hw _ (List.mem_of_getElem? (i := 53) rfl))) (Or.inr (hw _ (List.mem_of_getElem? (i := 55) rfl))) (by decide) (t := (.object "java/lang/String")) (t' := (.object "java/lang/String")) (by decide) (by decide))))
  exact ⟨rfl, N12, kk14, f15, f16, Fw12⟩
theorem own_dprog_21_method_4_code_0 : decode prog_21_method_4_code 0 = .ok (.aload_n 1, 1) := by decide +kernel
theorem own_dprog_21_method_4_code_1 : decode prog_21_method_4_code 1 = .ok (.instanceof 16, 3) := by decide +kernel
theorem own_dprog_21_method_4_code_4 : decode prog_21_method_4_code 4 = .ok (.ifCond .eq 40, 3) := by decide +kernel
theorem own_dprog_21_method_4_code_44 : decode prog_21_method_4_code 44 = .ok (.iconst 0, 1) := by decide +kernel
theorem own_dprog_21_method_4_code_45 : decode prog_21_method_4_code 45 = .ok (.ireturn, 1) := by decide +kernel
theorem own_efIEN (m : MethodId) (o : Addr) : entryFrame m #[(.ref o), .null] 3 = mkF m 0 #[.val (.ref o), .val .null, .unset] [] := by first | (simp [entryFrame, mkF, argsToLocals, Value.category]; done) | rfl
def own_QIEN (Z : State) (o : Addr) (h0 : Heap) (n0 : Nat) (rv__ : Option Value) (h : Heap) (rL__ : List Loc) : Prop := rv__ = some (.int (0 : Int32)) ∧ Fr n0 rL__ ∧ h = h0
abbrev own_RIEN : Room := { frames := 0, cells := 0, slots := 0, locals := 0 }
set_option maxRecDepth 65536 in
set_option maxHeartbeats 40000000 in
theorem own_rmIEN (l : Launch) (Z : State) (a0 : Array Value) (hw : ∀ d ∈ tables_1, d.before a0 Z = true) (ws : List Jvm.Cond) (o : Addr) (h0 : Heap) (n0 : Nat) (Z0 : n0 ≤ h0.size)  :
    MetFree l (⟨"com/example/unstor/unstor/Scope", "equals", "(Ljava/lang/Object;)Z"⟩ : MethodName) (head1 (Jvm.Cond.code (⟨"com/example/unstor/unstor/Scope", "equals", "(Ljava/lang/Object;)Z"⟩ : MethodName) prog_21_method_4_code 3 (some .boolean) :: ws) own_RIEN) (fun aa__ U => aa__ = #[(.ref o), .null] ∧ Z.Warmed39 U.vm ∧ U.heap = h0) (fun _ _ _ _ _ => True) (fun _ U oc_ U' => ∃ rv__ rL__, oc_ = .returned rv__ ∧ own_QIEN Z o h0 n0 rv__ U'.heap rL__ ∧ FrameEnd U oc_ U' rL__ own_RIEN.cells own_RIEN.slots) := by
  refine MetFree.of_bodySF (plainFor_of_name own_pn_com_example_unstor_unstor_Scope) hisR ?_
  intro p e s m args below meth c s₁ Bd hml0 hP hK
  obtain ⟨rfl, hZ, hh⟩ := hP
  have hx := Bd.exec
  have hby := Bd.bytes
  have hml : c.maxLocals = 3 := hml0
  have hown : s.vm.findClass "com/example/unstor/unstor/Scope" = some m.cls := findClass_of_methodNamed Bd.named
  have hnm := (name_of_methodNamed Bd.named Bd.method).1
  have X0 : Stand p l e own_RIEN s m #[(.ref o), .null] below meth c s₁ [] 0 0 := Stand.of_body Bd
  have e0 : s₁.heap = h0 := by rw [← hh, Bd.state]; rfl
  have N0 := Fr.nil n0
  refine own_in (fun _ k => castTop (own_efIEN m o) k) ?_
  intro RR hRR
  show own_Go p.tables e below RR (s₁.setTop (mkF m 0 #[.val (.ref o), .val .null, .unset] []))
  refine own_st (fun _ k => XS.aloadN X0.here hx rfl (hb hby own_dprog_21_method_4_code_0) rfl rfl k) ?_
  show own_Go p.tables e below RR (s₁.setTop (mkF m 1 #[.val (.ref o), .val .null, .unset] [.null]))
  refine own_st (fun _ k => X0.instanceofNull hx (g := (mkF m 1 #[.val (.ref o), .val .null, .unset] [.null])) rfl rfl (hb hby own_dprog_21_method_4_code_1) _ k) ?_
  show own_Go p.tables e below RR (s₁.setTop (mkF m 4 #[.val (.ref o), .val .null, .unset] [(.int (0 : Int32))]))
  refine own_st (fun _ k => XS.ifYes X0.here hx rfl (pc0 := 4) (pc' := 44) rfl (hb hby own_dprog_21_method_4_code_4) rfl ((if0 _ _).trans (teq (by decide)).1) (by decide) (by decide) (XS.iconst X0.here hx rfl (hb hby own_dprog_21_method_4_code_44) k)) ?_
  show own_Go p.tables e below RR (s₁.setTop (mkF m 45 #[.val (.ref o), .val .null, .unset] [(.int (0 : Int32))]))
  obtain ⟨fs, hrt_, hrun, hended, hW, hsame⟩ := X0.leave (v := some (.int (0 : Int32))) (fun h => by rw [Bd.returns] at h; cases h)
  refine own_fin (retN X0 hx (t := .boolean) Bd.returns (by simp) (hb hby own_dprog_21_method_4_code_45) hrt_) (hRR _ ⟨_, hrun, hended, _, _, rfl, ?_, ⟨_, rfl⟩, hW, hsame.mono (by decide) (by decide)⟩)
  show own_QIEN Z o h0 n0 _ s₁.heap _
  rw [e0]
  exact ⟨rfl, N0, rfl⟩
theorem own_efIES (m : MethodId) (o : Addr) (q : Addr) : entryFrame m #[(.ref o), (.ref q)] 3 = mkF m 0 #[.val (.ref o), .val (.ref q), .unset] [] := by first | (simp [entryFrame, mkF, argsToLocals, Value.category]; done) | rfl
def own_QIES (Z : State) (o : Addr) (q : Addr) (h0 : Heap) (n0 : Nat) (rv__ : Option Value) (h : Heap) (rL__ : List Loc) : Prop := rv__ = some (.int (0 : Int32)) ∧ Fr n0 rL__ ∧ h = h0
abbrev own_RIES : Room := { frames := 0, cells := 0, slots := 0, locals := 0 }
set_option maxRecDepth 65536 in
set_option maxHeartbeats 40000000 in
theorem own_rmIES (l : Launch) (Z : State) (a0 : Array Value) (hw : ∀ d ∈ tables_1, d.before a0 Z = true) (ws : List Jvm.Cond) (o : Addr) (q : Addr) (h0 : Heap) (n0 : Nat) (Z0 : n0 ≤ h0.size) (Eq_ : Exa Z h0 q "java/lang/String") :
    MetFree l (⟨"com/example/unstor/unstor/Scope", "equals", "(Ljava/lang/Object;)Z"⟩ : MethodName) (head1 (Jvm.Cond.code (⟨"com/example/unstor/unstor/Scope", "equals", "(Ljava/lang/Object;)Z"⟩ : MethodName) prog_21_method_4_code 3 (some .boolean) :: ws) own_RIES) (fun aa__ U => aa__ = #[(.ref o), (.ref q)] ∧ Z.Warmed39 U.vm ∧ U.heap = h0) (fun _ _ _ _ _ => True) (fun _ U oc_ U' => ∃ rv__ rL__, oc_ = .returned rv__ ∧ own_QIES Z o q h0 n0 rv__ U'.heap rL__ ∧ FrameEnd U oc_ U' rL__ own_RIES.cells own_RIES.slots) := by
  refine MetFree.of_bodySF (plainFor_of_name own_pn_com_example_unstor_unstor_Scope) hisR ?_
  intro p e s m args below meth c s₁ Bd hml0 hP hK
  obtain ⟨rfl, hZ, hh⟩ := hP
  have hx := Bd.exec
  have hby := Bd.bytes
  have hml : c.maxLocals = 3 := hml0
  have hown : s.vm.findClass "com/example/unstor/unstor/Scope" = some m.cls := findClass_of_methodNamed Bd.named
  have hnm := (name_of_methodNamed Bd.named Bd.method).1
  have X0 : Stand p l e own_RIES s m #[(.ref o), (.ref q)] below meth c s₁ [] 0 0 := Stand.of_body Bd
  have e0 : s₁.heap = h0 := by rw [← hh, Bd.state]; rfl
  have N0 := Fr.nil n0
  refine own_in (fun _ k => castTop (own_efIES m o q) k) ?_
  intro RR hRR
  show own_Go p.tables e below RR (s₁.setTop (mkF m 0 #[.val (.ref o), .val (.ref q), .unset] []))
  refine own_st (fun _ k => XS.aloadN X0.here hx rfl (hb hby own_dprog_21_method_4_code_0) rfl rfl k) ?_
  show own_Go p.tables e below RR (s₁.setTop (mkF m 1 #[.val (.ref o), .val (.ref q), .unset] [(.ref q)]))
  obtain ⟨T1, X1, e1, st1⟩ := instNo X0 hx hZ hown (hw _ (List.mem_of_getElem? (i := 64) rfl)) e0 Eq_ (own_NSno (hw _ (List.mem_of_getElem? (i := 76) rfl)) (hw _ (List.mem_of_getElem? (i := 1) rfl)) (NS.step (hw _ (List.mem_of_getElem? (i := 76) rfl)) (own_NSroot (hw _ (List.mem_of_getElem? (i := 77) rfl)) (hw _ (List.mem_of_getElem? (i := 1) rfl)) (by decide)) (by decide)) (by decide)) (g := (mkF m 1 #[.val (.ref o), .val (.ref q), .unset] [(.ref q)])) rfl rfl (hb hby own_dprog_21_method_4_code_1)
  refine own_st st1 ?_
  show own_Go p.tables e below RR (T1.setTop (mkF m 4 #[.val (.ref o), .val (.ref q), .unset] [(.int (0 : Int32))]))
  refine own_st (fun _ k => XS.ifYes X1.here hx rfl (pc0 := 4) (pc' := 44) rfl (hb hby own_dprog_21_method_4_code_4) rfl ((if0 _ _).trans (teq (by decide)).1) (by decide) (by decide) (XS.iconst X1.here hx rfl (hb hby own_dprog_21_method_4_code_44) k)) ?_
  show own_Go p.tables e below RR (T1.setTop (mkF m 45 #[.val (.ref o), .val (.ref q), .unset] [(.int (0 : Int32))]))
  obtain ⟨fs, hrt_, hrun, hended, hW, hsame⟩ := X1.leave (v := some (.int (0 : Int32))) (fun h => by rw [Bd.returns] at h; cases h)
  refine own_fin (retN X1 hx (t := .boolean) Bd.returns (by simp) (hb hby own_dprog_21_method_4_code_45) hrt_) (hRR _ ⟨_, hrun, hended, _, _, rfl, ?_, ⟨_, rfl⟩, hW, hsame.mono (by decide) (by decide)⟩)
  show own_QIES Z o q h0 n0 _ T1.heap _
  rw [e1]
  exact ⟨rfl, N0, rfl⟩
theorem own_dprog_21_method_4_code_7 : decode prog_21_method_4_code 7 = .ok (.aload_n 1, 1) := by decide +kernel
theorem own_dprog_21_method_4_code_8 : decode prog_21_method_4_code 8 = .ok (.checkcast 16, 3) := by decide +kernel
theorem own_dprog_21_method_4_code_11 : decode prog_21_method_4_code 11 = .ok (.astore_n 2, 1) := by decide +kernel
theorem own_dprog_21_method_4_code_12 : decode prog_21_method_4_code 12 = .ok (.aload_n 0, 1) := by decide +kernel
theorem own_dprog_21_method_4_code_13 : decode prog_21_method_4_code 13 = .ok (.getfield 15, 3) := by decide +kernel
theorem own_dprog_21_method_4_code_16 : decode prog_21_method_4_code 16 = .ok (.aload_n 2, 1) := by decide +kernel
theorem own_dprog_21_method_4_code_17 : decode prog_21_method_4_code 17 = .ok (.getfield 15, 3) := by decide +kernel
theorem own_pd__Ljava_lang_Object__Z : parseMethodDescriptor "(Ljava/lang/Object;)Z" = some ⟨[(.object "java/lang/Object")], some .boolean⟩ := by decide +kernel
theorem own_dprog_21_method_4_code_20 : decode prog_21_method_4_code 20 = .ok (.invokevirtual 24, 3) := by decide +kernel
theorem own_dprog_21_method_4_code_23 : decode prog_21_method_4_code 23 = .ok (.ifCond .eq 21, 3) := by decide +kernel
theorem own_dprog_21_method_4_code_26 : decode prog_21_method_4_code 26 = .ok (.aload_n 0, 1) := by decide +kernel
theorem own_dprog_21_method_4_code_27 : decode prog_21_method_4_code 27 = .ok (.getfield 21, 3) := by decide +kernel
theorem own_dprog_21_method_4_code_30 : decode prog_21_method_4_code 30 = .ok (.aload_n 2, 1) := by decide +kernel
theorem own_dprog_21_method_4_code_31 : decode prog_21_method_4_code 31 = .ok (.getfield 21, 3) := by decide +kernel
theorem own_dprog_21_method_4_code_34 : decode prog_21_method_4_code 34 = .ok (.invokevirtual 24, 3) := by decide +kernel
theorem own_dprog_21_method_4_code_37 : decode prog_21_method_4_code 37 = .ok (.ifCond .eq 7, 3) := by decide +kernel
theorem own_dprog_21_method_4_code_40 : decode prog_21_method_4_code 40 = .ok (.iconst 1, 1) := by decide +kernel
theorem own_dprog_21_method_4_code_41 : decode prog_21_method_4_code 41 = .ok (.goto 4, 3) := by decide +kernel
theorem own_efIEO (m : MethodId) (o : Addr) (o : Addr) : entryFrame m #[(.ref o), (.ref o)] 3 = mkF m 0 #[.val (.ref o), .val (.ref o), .unset] [] := by first | (simp [entryFrame, mkF, argsToLocals, Value.category]; done) | rfl
def own_QIEO (Z : State) (o : Addr) (sa : Addr) (sb : Addr) (h0 : Heap) (n0 : Nat) (rv__ : Option Value) (h : Heap) (rL__ : List Loc) : Prop := rv__ = some (.int (1 : Int32)) ∧ Fr n0 rL__ ∧ h = h0
abbrev own_RIEO : Room := { frames := 1, cells := 0, slots := 0, locals := 14 }
set_option maxRecDepth 65536 in
set_option maxHeartbeats 40000000 in
theorem own_rmIEO (l : Launch) (Z : State) (a0 : Array Value) (hw : ∀ d ∈ tables_1, d.before a0 Z = true) (ws : List Jvm.Cond) (o : Addr) (sa : Addr) (sb : Addr) (h0 : Heap) (n0 : Nat) (Z0 : n0 ≤ h0.size) (Eo : Exa Z h0 o "com/example/unstor/unstor/Scope") (Fn : Fld Z h0 o "com/example/unstor/unstor/Scope" "org" "Ljava/lang/String;" (.ref sa)) (Fi : Fld Z h0 o "com/example/unstor/unstor/Scope" "sandbox" "Ljava/lang/String;" (.ref sb)) (Ea : Exa Z h0 sa "java/lang/String") (Eb : Exa Z h0 sb "java/lang/String") :
    MetFree l (⟨"com/example/unstor/unstor/Scope", "equals", "(Ljava/lang/Object;)Z"⟩ : MethodName) (head1 (Jvm.Cond.code (⟨"com/example/unstor/unstor/Scope", "equals", "(Ljava/lang/Object;)Z"⟩ : MethodName) prog_21_method_4_code 3 (some .boolean) :: ws) own_RIEO) (fun aa__ U => aa__ = #[(.ref o), (.ref o)] ∧ Z.Warmed39 U.vm ∧ U.heap = h0) (fun _ _ _ _ _ => True) (fun _ U oc_ U' => ∃ rv__ rL__, oc_ = .returned rv__ ∧ own_QIEO Z o sa sb h0 n0 rv__ U'.heap rL__ ∧ FrameEnd U oc_ U' rL__ own_RIEO.cells own_RIEO.slots) := by
  refine MetFree.of_bodySF (plainFor_of_name own_pn_com_example_unstor_unstor_Scope) hisR ?_
  intro p e s m args below meth c s₁ Bd hml0 hP hK
  obtain ⟨rfl, hZ, hh⟩ := hP
  have hx := Bd.exec
  have hby := Bd.bytes
  have hml : c.maxLocals = 3 := hml0
  have hown : s.vm.findClass "com/example/unstor/unstor/Scope" = some m.cls := findClass_of_methodNamed Bd.named
  have hnm := (name_of_methodNamed Bd.named Bd.method).1
  have X0 : Stand p l e own_RIEO s m #[(.ref o), (.ref o)] below meth c s₁ [] 0 0 := Stand.of_body Bd
  have e0 : s₁.heap = h0 := by rw [← hh, Bd.state]; rfl
  have N0 := Fr.nil n0
  refine own_in (fun _ k => castTop (own_efIEO m o o) k) ?_
  intro RR hRR
  show own_Go p.tables e below RR (s₁.setTop (mkF m 0 #[.val (.ref o), .val (.ref o), .unset] []))
  refine own_st (fun _ k => XS.aloadN X0.here hx rfl (hb hby own_dprog_21_method_4_code_0) rfl rfl k) ?_
  show own_Go p.tables e below RR (s₁.setTop (mkF m 1 #[.val (.ref o), .val (.ref o), .unset] [(.ref o)]))
  obtain ⟨T1, X1, e1, st1⟩ := instY X0 hx hZ hown (hw _ (List.mem_of_getElem? (i := 64) rfl)) e0 (Ins.self Eo) (g := (mkF m 1 #[.val (.ref o), .val (.ref o), .unset] [(.ref o)])) rfl rfl (hb hby own_dprog_21_method_4_code_1)
  refine own_st st1 ?_
  show own_Go p.tables e below RR (T1.setTop (mkF m 4 #[.val (.ref o), .val (.ref o), .unset] [(.int (1 : Int32))]))
  refine own_st (fun _ k => XS.ifNo X1.here hx rfl (hb hby own_dprog_21_method_4_code_4) rfl ((if0 _ _).trans (feq (by decide)).1) (XS.aloadN X1.here hx rfl (hb hby own_dprog_21_method_4_code_7) rfl rfl k)) ?_
  show own_Go p.tables e below RR (T1.setTop (mkF m 8 #[.val (.ref o), .val (.ref o), .unset] [(.ref o)]))
  obtain ⟨T2, X2, e2, st2⟩ := castY X1 hx hZ hown (hw _ (List.mem_of_getElem? (i := 64) rfl)) e1 (Ins.self Eo) (g := (mkF m 8 #[.val (.ref o), .val (.ref o), .unset] [(.ref o)])) rfl rfl (hb hby own_dprog_21_method_4_code_8)
  refine own_st st2 ?_
  show own_Go p.tables e below RR (T2.setTop (mkF m 11 #[.val (.ref o), .val (.ref o), .unset] [(.ref o)]))
  refine own_st (fun _ k => XS.astoreN X2.here hx rfl (hb hby own_dprog_21_method_4_code_11) rfl rfl (l' := #[.val (.ref o), .val (.ref o), .val (.ref o)]) rfl (XS.aloadN X2.here hx rfl (hb hby own_dprog_21_method_4_code_12) rfl rfl k)) ?_
  show own_Go p.tables e below RR (T2.setTop (mkF m 13 #[.val (.ref o), .val (.ref o), .val (.ref o)] [(.ref o)]))
  obtain ⟨T3, X3, e3, st3⟩ := getF X2 hx hZ hown (host := "") (Or.inl (hw _ (List.mem_of_getElem? (i := 52) rfl))) Via.refl e2 Fn (g := (mkF m 13 #[.val (.ref o), .val (.ref o), .val (.ref o)] [(.ref o)])) rfl rfl (hb hby own_dprog_21_method_4_code_13)
  refine own_st st3 ?_
  show own_Go p.tables e below RR (T3.setTop (mkF m 16 #[.val (.ref o), .val (.ref o), .val (.ref o)] [(.ref sa)]))
  refine own_st (fun _ k => XS.aloadN X3.here hx rfl (hb hby own_dprog_21_method_4_code_16) rfl rfl k) ?_
  show own_Go p.tables e below RR (T3.setTop (mkF m 17 #[.val (.ref o), .val (.ref o), .val (.ref o)] [(.ref o), (.ref sa)]))
  obtain ⟨T4, X4, e4, st4⟩ := getF X3 hx hZ hown (host := "") (Or.inl (hw _ (List.mem_of_getElem? (i := 52) rfl))) Via.refl e3 Fn (g := (mkF m 17 #[.val (.ref o), .val (.ref o), .val (.ref o)] [(.ref o), (.ref sa)])) rfl rfl (hb hby own_dprog_21_method_4_code_17)
  refine own_st st4 ?_
  show own_Go p.tables e below RR (T4.setTop (mkF m 20 #[.val (.ref o), .val (.ref o), .val (.ref o)] [(.ref sa), (.ref sa)]))
  obtain ⟨cq5, kq5, q5a, q5b, q5c⟩ := isOf hZ e4 Ea
  obtain ⟨_, _, ⟨T5, L5, k5, n5⟩, -, X5, ⟨Lc5, hQ5, l5, y5, z5⟩, st5⟩ := X4.virtualBack hx (y := (⟨"java/lang/String", "equals", "(Ljava/lang/Object;)Z"⟩ : MethodName)) (z := (⟨"java/lang/String", "equals", "(Ljava/lang/Object;)Z"⟩ : MethodName)) hown (mvT hZ (hw _ (List.mem_of_getElem? (i := 66) rfl))) (mvT hZ (hw _ (List.mem_of_getElem? (i := 67) rfl))) (notFace_of_selects (args := #[]) (mvT hZ (hw _ (List.mem_of_getElem? (i := 69) rfl)))) (mvT hZ (hw _ (List.mem_of_getElem? (i := 69) rfl))) (mvT hZ (hw _ (List.mem_of_getElem? (i := 68) rfl))) (by decide) (backOf (W := 0) (own_rmEQS l Z a0 hw [] sa h0 n0 Z0 ) hZ (hw _ (List.mem_of_getElem? (i := 70) rfl)) (hw _ (List.mem_of_getElem? (i := 9) rfl)) (by decide) (by decide)) q5a q5c (g := (mkF m 20 #[.val (.ref o), .val (.ref o), .val (.ref o)] [(.ref sa), (.ref sa)])) rfl (by rw [hml]; rfl) (Steps.refl _) (argsL := [(.ref sa)]) (rest := []) (lenOf own_pd__Ljava_lang_Object__Z rfl) rfl (by show 2 * 0 + _ ≤ _; exact Nat.le_of_eq rfl) (hb hby own_dprog_21_method_4_code_20) (fun _ _ => ⟨rfl, e4, (by decide : 0 + 0 ≤ _), (by decide : 0 + 0 ≤ _)⟩)
  dsimp only [Pt.U, Pt.locs, Pt.cells, Pt.slots] at X5 l5 y5 z5 st5 hQ5
  subst l5 y5 z5
  obtain ⟨rfl, Nq5, eq5⟩ := hQ5
  have N5 := Fr.app N0 Nq5
  refine own_st (fun _ k => st5.trans k) ?_
  show own_Go p.tables e below RR (T5.setTop (mkF m 23 #[.val (.ref o), .val (.ref o), .val (.ref o)] [(.int (1 : Int32))]))
  refine own_st (fun _ k => XS.ifNo X5.here hx rfl (hb hby own_dprog_21_method_4_code_23) rfl ((if0 _ _).trans (feq (by decide)).1) (XS.aloadN X5.here hx rfl (hb hby own_dprog_21_method_4_code_26) rfl rfl k)) ?_
  show own_Go p.tables e below RR (T5.setTop (mkF m 27 #[.val (.ref o), .val (.ref o), .val (.ref o)] [(.ref o)]))
  obtain ⟨T6, X6, e6, st6⟩ := getF X5 hx hZ hown (host := "") (Or.inl (hw _ (List.mem_of_getElem? (i := 54) rfl))) Via.refl eq5 Fi (g := (mkF m 27 #[.val (.ref o), .val (.ref o), .val (.ref o)] [(.ref o)])) rfl rfl (hb hby own_dprog_21_method_4_code_27)
  refine own_st st6 ?_
  show own_Go p.tables e below RR (T6.setTop (mkF m 30 #[.val (.ref o), .val (.ref o), .val (.ref o)] [(.ref sb)]))
  refine own_st (fun _ k => XS.aloadN X6.here hx rfl (hb hby own_dprog_21_method_4_code_30) rfl rfl k) ?_
  show own_Go p.tables e below RR (T6.setTop (mkF m 31 #[.val (.ref o), .val (.ref o), .val (.ref o)] [(.ref o), (.ref sb)]))
  obtain ⟨T7, X7, e7, st7⟩ := getF X6 hx hZ hown (host := "") (Or.inl (hw _ (List.mem_of_getElem? (i := 54) rfl))) Via.refl e6 Fi (g := (mkF m 31 #[.val (.ref o), .val (.ref o), .val (.ref o)] [(.ref o), (.ref sb)])) rfl rfl (hb hby own_dprog_21_method_4_code_31)
  refine own_st st7 ?_
  show own_Go p.tables e below RR (T7.setTop (mkF m 34 #[.val (.ref o), .val (.ref o), .val (.ref o)] [(.ref sb), (.ref sb)]))
  obtain ⟨cq8, kq8, q8a, q8b, q8c⟩ := isOf hZ e7 Eb
  obtain ⟨_, _, ⟨T8, L8, k8, n8⟩, -, X8, ⟨Lc8, hQ8, l8, y8, z8⟩, st8⟩ := X7.virtualBack hx (y := (⟨"java/lang/String", "equals", "(Ljava/lang/Object;)Z"⟩ : MethodName)) (z := (⟨"java/lang/String", "equals", "(Ljava/lang/Object;)Z"⟩ : MethodName)) hown (mvT hZ (hw _ (List.mem_of_getElem? (i := 66) rfl))) (mvT hZ (hw _ (List.mem_of_getElem? (i := 67) rfl))) (notFace_of_selects (args := #[]) (mvT hZ (hw _ (List.mem_of_getElem? (i := 69) rfl)))) (mvT hZ (hw _ (List.mem_of_getElem? (i := 69) rfl))) (mvT hZ (hw _ (List.mem_of_getElem? (i := 68) rfl))) (by decide) (backOf (W := 0) (own_rmEQS l Z a0 hw [] sb h0 n0 Z0 ) hZ (hw _ (List.mem_of_getElem? (i := 70) rfl)) (hw _ (List.mem_of_getElem? (i := 9) rfl)) (by decide) (by decide)) q8a q8c (g := (mkF m 34 #[.val (.ref o), .val (.ref o), .val (.ref o)] [(.ref sb), (.ref sb)])) rfl (by rw [hml]; rfl) (Steps.refl _) (argsL := [(.ref sb)]) (rest := []) (lenOf own_pd__Ljava_lang_Object__Z rfl) rfl (by show 2 * 0 + _ ≤ _; exact Nat.le_of_eq rfl) (hb hby own_dprog_21_method_4_code_34) (fun _ _ => ⟨rfl, e7, (by decide : 0 + 0 ≤ _), (by decide : 0 + 0 ≤ _)⟩)
  dsimp only [Pt.U, Pt.locs, Pt.cells, Pt.slots] at X8 l8 y8 z8 st8 hQ8
  subst l8 y8 z8
  obtain ⟨rfl, Nq8, eq8⟩ := hQ8
  have N8 := Fr.app N5 Nq8
  refine own_st (fun _ k => st8.trans k) ?_
  show own_Go p.tables e below RR (T8.setTop (mkF m 37 #[.val (.ref o), .val (.ref o), .val (.ref o)] [(.int (1 : Int32))]))
  refine own_st (fun _ k => XS.ifNo X8.here hx rfl (hb hby own_dprog_21_method_4_code_37) rfl ((if0 _ _).trans (feq (by decide)).1) (XS.iconst X8.here hx rfl (hb hby own_dprog_21_method_4_code_40) (XS.goto X8.here hx rfl (pc0 := 41) (pc' := 45) rfl (hb hby own_dprog_21_method_4_code_41) (by decide) (by decide) k))) ?_
  show own_Go p.tables e below RR (T8.setTop (mkF m 45 #[.val (.ref o), .val (.ref o), .val (.ref o)] [(.int (1 : Int32))]))
  obtain ⟨fs, hrt_, hrun, hended, hW, hsame⟩ := X8.leave (v := some (.int (1 : Int32))) (fun h => by rw [Bd.returns] at h; cases h)
  refine own_fin (retN X8 hx (t := .boolean) Bd.returns (by simp) (hb hby own_dprog_21_method_4_code_45) hrt_) (hRR _ ⟨_, hrun, hended, _, _, rfl, ?_, ⟨_, rfl⟩, hW, hsame.mono (by decide) (by decide)⟩)
  show own_QIEO Z o sa sb h0 n0 _ T8.heap _
  rw [eq8]
  exact ⟨rfl, N8, rfl⟩
theorem own_efIED (m : MethodId) (o : Addr) (q : Addr) : entryFrame m #[(.ref o), (.ref q)] 3 = mkF m 0 #[.val (.ref o), .val (.ref q), .unset] [] := by first | (simp [entryFrame, mkF, argsToLocals, Value.category]; done) | rfl
def own_QIED (Z : State) (o : Addr) (q : Addr) (sta : Addr) (bta : Addr) (kta : ClassId) (xta : Int32) (lta : Int32) (nta : Nat) (stb : Addr) (btb : Addr) (ktb : ClassId) (xtb : Int32) (ltb : Int32) (ntb : Nat) (stc : Addr) (btc : Addr) (ktc : ClassId) (xtc : Int32) (ltc : Int32) (ntc : Nat) (std : Addr) (btd : Addr) (ktd : ClassId) (xtd : Int32) (ltd : Int32) (ntd : Nat) (cs : Int32) (r : Int32) (h0 : Heap) (n0 : Nat) (rv__ : Option Value) (h : Heap) (rL__ : List Loc) : Prop := rv__ = some (.int r) ∧ Fr n0 rL__ ∧ h = h0
abbrev own_RIED : Room := { frames := 2, cells := 0, slots := 0, locals := 28 }
set_option maxRecDepth 65536 in
set_option maxHeartbeats 40000000 in
theorem own_rmIED (l : Launch) (Z : State) (a0 : Array Value) (hw : ∀ d ∈ tables_1, d.before a0 Z = true) (ws : List Jvm.Cond) (o : Addr) (q : Addr) (sta : Addr) (bta : Addr) (kta : ClassId) (xta : Int32) (lta : Int32) (nta : Nat) (stb : Addr) (btb : Addr) (ktb : ClassId) (xtb : Int32) (ltb : Int32) (ntb : Nat) (stc : Addr) (btc : Addr) (ktc : ClassId) (xtc : Int32) (ltc : Int32) (ntc : Nat) (std : Addr) (btd : Addr) (ktd : ClassId) (xtd : Int32) (ltd : Int32) (ntd : Nat) (cs : Int32) (r : Int32) (h0 : Heap) (n0 : Nat) (Z0 : n0 ≤ h0.size) (Eq_ : Exa Z h0 q "com/example/unstor/unstor/Scope") (Fna : Fld Z h0 o "com/example/unstor/unstor/Scope" "org" "Ljava/lang/String;" (.ref sta)) (Fib : Fld Z h0 o "com/example/unstor/unstor/Scope" "sandbox" "Ljava/lang/String;" (.ref stb)) (Fnc : Fld Z h0 q "com/example/unstor/unstor/Scope" "org" "Ljava/lang/String;" (.ref stc)) (Fid : Fld Z h0 q "com/example/unstor/unstor/Scope" "sandbox" "Ljava/lang/String;" (.ref std)) (Eqta : Exa Z h0 sta "java/lang/String") (Cqta : Fld Z h0 sta "java/lang/String" "coder" "B" (.int (0 : Int32))) (Vqta : Fld Z h0 sta "java/lang/String" "value" "[B" (.ref bta)) (AAqta : Arv Z h0 bta kta .byte lta (own_tx xta nta) (.int (0 : Int32))) (hlqta : own_ln lta nta) (Eqtb : Exa Z h0 stb "java/lang/String") (Cqtb : Fld Z h0 stb "java/lang/String" "coder" "B" (.int (0 : Int32))) (Vqtb : Fld Z h0 stb "java/lang/String" "value" "[B" (.ref btb)) (AAqtb : Arv Z h0 btb ktb .byte ltb (own_tx xtb ntb) (.int (0 : Int32))) (hlqtb : own_ln ltb ntb) (Eqtc : Exa Z h0 stc "java/lang/String") (Cqtc : Fld Z h0 stc "java/lang/String" "coder" "B" (.int (0 : Int32))) (Vqtc : Fld Z h0 stc "java/lang/String" "value" "[B" (.ref btc)) (AAqtc : Arv Z h0 btc ktc .byte ltc (own_tx xtc ntc) (.int (0 : Int32))) (hlqtc : own_ln ltc ntc) (Eqtd : Exa Z h0 std "java/lang/String") (Cqtd : Fld Z h0 std "java/lang/String" "coder" "B" (.int (0 : Int32))) (Vqtd : Fld Z h0 std "java/lang/String" "value" "[B" (.ref btd)) (AAqtd : Arv Z h0 btd ktd .byte ltd (own_tx xtd ntd) (.int (0 : Int32))) (hlqtd : own_ln ltd ntd) (S0 : Sta Z h0 "java/lang/String" "COMPACT_STRINGS" "Z" (.int cs)) (hcs : ¬ cs = (0 : Int32)) (neac : ¬ sta = stc) (nebd : ¬ stb = std) (hr : own_an (own_same xta nta xtc ntc) (own_same xtb ntb xtd ntd) = r) :
    MetFree l (⟨"com/example/unstor/unstor/Scope", "equals", "(Ljava/lang/Object;)Z"⟩ : MethodName) (head1 (Jvm.Cond.code (⟨"com/example/unstor/unstor/Scope", "equals", "(Ljava/lang/Object;)Z"⟩ : MethodName) prog_21_method_4_code 3 (some .boolean) :: ws) own_RIED) (fun aa__ U => aa__ = #[(.ref o), (.ref q)] ∧ Z.Warmed39 U.vm ∧ U.heap = h0) (fun _ _ _ _ _ => True) (fun _ U oc_ U' => ∃ rv__ rL__, oc_ = .returned rv__ ∧ own_QIED Z o q sta bta kta xta lta nta stb btb ktb xtb ltb ntb stc btc ktc xtc ltc ntc std btd ktd xtd ltd ntd cs r h0 n0 rv__ U'.heap rL__ ∧ FrameEnd U oc_ U' rL__ own_RIED.cells own_RIED.slots) := by
  refine MetFree.of_bodySF (plainFor_of_name own_pn_com_example_unstor_unstor_Scope) hisR ?_
  intro p e s m args below meth c s₁ Bd hml0 hP hK
  obtain ⟨rfl, hZ, hh⟩ := hP
  have hx := Bd.exec
  have hby := Bd.bytes
  have hml : c.maxLocals = 3 := hml0
  have hown : s.vm.findClass "com/example/unstor/unstor/Scope" = some m.cls := findClass_of_methodNamed Bd.named
  have hnm := (name_of_methodNamed Bd.named Bd.method).1
  have X0 : Stand p l e own_RIED s m #[(.ref o), (.ref q)] below meth c s₁ [] 0 0 := Stand.of_body Bd
  have e0 : s₁.heap = h0 := by rw [← hh, Bd.state]; rfl
  have N0 := Fr.nil n0
  refine own_in (fun _ k => castTop (own_efIED m o q) k) ?_
  intro RR hRR
  show own_Go p.tables e below RR (s₁.setTop (mkF m 0 #[.val (.ref o), .val (.ref q), .unset] []))
  refine own_st (fun _ k => XS.aloadN X0.here hx rfl (hb hby own_dprog_21_method_4_code_0) rfl rfl k) ?_
  show own_Go p.tables e below RR (s₁.setTop (mkF m 1 #[.val (.ref o), .val (.ref q), .unset] [(.ref q)]))
  obtain ⟨T1, X1, e1, st1⟩ := instY X0 hx hZ hown (hw _ (List.mem_of_getElem? (i := 64) rfl)) e0 (Ins.self Eq_) (g := (mkF m 1 #[.val (.ref o), .val (.ref q), .unset] [(.ref q)])) rfl rfl (hb hby own_dprog_21_method_4_code_1)
  refine own_st st1 ?_
  show own_Go p.tables e below RR (T1.setTop (mkF m 4 #[.val (.ref o), .val (.ref q), .unset] [(.int (1 : Int32))]))
  refine own_st (fun _ k => XS.ifNo X1.here hx rfl (hb hby own_dprog_21_method_4_code_4) rfl ((if0 _ _).trans (feq (by decide)).1) (XS.aloadN X1.here hx rfl (hb hby own_dprog_21_method_4_code_7) rfl rfl k)) ?_
  show own_Go p.tables e below RR (T1.setTop (mkF m 8 #[.val (.ref o), .val (.ref q), .unset] [(.ref q)]))
  obtain ⟨T2, X2, e2, st2⟩ := castY X1 hx hZ hown (hw _ (List.mem_of_getElem? (i := 64) rfl)) e1 (Ins.self Eq_) (g := (mkF m 8 #[.val (.ref o), .val (.ref q), .unset] [(.ref q)])) rfl rfl (hb hby own_dprog_21_method_4_code_8)
  refine own_st st2 ?_
  show own_Go p.tables e below RR (T2.setTop (mkF m 11 #[.val (.ref o), .val (.ref q), .unset] [(.ref q)]))
  refine own_st (fun _ k => XS.astoreN X2.here hx rfl (hb hby own_dprog_21_method_4_code_11) rfl rfl (l' := #[.val (.ref o), .val (.ref q), .val (.ref q)]) rfl (XS.aloadN X2.here hx rfl (hb hby own_dprog_21_method_4_code_12) rfl rfl k)) ?_
  show own_Go p.tables e below RR (T2.setTop (mkF m 13 #[.val (.ref o), .val (.ref q), .val (.ref q)] [(.ref o)]))
  obtain ⟨T3, X3, e3, st3⟩ := getF X2 hx hZ hown (host := "") (Or.inl (hw _ (List.mem_of_getElem? (i := 52) rfl))) Via.refl e2 Fna (g := (mkF m 13 #[.val (.ref o), .val (.ref q), .val (.ref q)] [(.ref o)])) rfl rfl (hb hby own_dprog_21_method_4_code_13)
  refine own_st st3 ?_
  show own_Go p.tables e below RR (T3.setTop (mkF m 16 #[.val (.ref o), .val (.ref q), .val (.ref q)] [(.ref sta)]))
  refine own_st (fun _ k => XS.aloadN X3.here hx rfl (hb hby own_dprog_21_method_4_code_16) rfl rfl k) ?_
  show own_Go p.tables e below RR (T3.setTop (mkF m 17 #[.val (.ref o), .val (.ref q), .val (.ref q)] [(.ref q), (.ref sta)]))
  obtain ⟨T4, X4, e4, st4⟩ := getF X3 hx hZ hown (host := "") (Or.inl (hw _ (List.mem_of_getElem? (i := 52) rfl))) Via.refl e3 Fnc (g := (mkF m 17 #[.val (.ref o), .val (.ref q), .val (.ref q)] [(.ref q), (.ref sta)])) rfl rfl (hb hby own_dprog_21_method_4_code_17)
  refine own_st st4 ?_
  show own_Go p.tables e below RR (T4.setTop (mkF m 20 #[.val (.ref o), .val (.ref q), .val (.ref q)] [(.ref stc), (.ref sta)]))
  obtain ⟨cq5, kq5, q5a, q5b, q5c⟩ := isOf hZ e4 Eqta
  obtain ⟨_, _, ⟨T5, L5, k5, n5⟩, -, X5, ⟨Lc5, hQ5, l5, y5, z5⟩, st5⟩ := X4.virtualBack hx (y := (⟨"java/lang/String", "equals", "(Ljava/lang/Object;)Z"⟩ : MethodName)) (z := (⟨"java/lang/String", "equals", "(Ljava/lang/Object;)Z"⟩ : MethodName)) hown (mvT hZ (hw _ (List.mem_of_getElem? (i := 66) rfl))) (mvT hZ (hw _ (List.mem_of_getElem? (i := 67) rfl))) (notFace_of_selects (args := #[]) (mvT hZ (hw _ (List.mem_of_getElem? (i := 69) rfl)))) (mvT hZ (hw _ (List.mem_of_getElem? (i := 69) rfl))) (mvT hZ (hw _ (List.mem_of_getElem? (i := 68) rfl))) (by decide) (backOf (W := 0) (own_rmEQD l Z a0 hw [] sta bta kta xta lta nta stc btc ktc xtc ltc ntc cs h0 n0 Z0 Eqta Cqta Vqta AAqta hlqta Eqtc Cqtc Vqtc AAqtc hlqtc S0 hcs neac) hZ (hw _ (List.mem_of_getElem? (i := 70) rfl)) (hw _ (List.mem_of_getElem? (i := 9) rfl)) (by decide) (by decide)) q5a q5c (g := (mkF m 20 #[.val (.ref o), .val (.ref q), .val (.ref q)] [(.ref stc), (.ref sta)])) rfl (by rw [hml]; rfl) (Steps.refl _) (argsL := [(.ref stc)]) (rest := []) (lenOf own_pd__Ljava_lang_Object__Z rfl) rfl (by show 2 * 0 + _ ≤ _; exact Nat.le_of_eq rfl) (hb hby own_dprog_21_method_4_code_20) (fun _ _ => ⟨rfl, e4, (by decide : 0 + 0 ≤ _), (by decide : 0 + 0 ≤ _)⟩)
  dsimp only [Pt.U, Pt.locs, Pt.cells, Pt.slots] at X5 l5 y5 z5 st5 hQ5
  subst l5 y5 z5
  obtain ⟨rfl, Nq5, eq5⟩ := hQ5
  have N5 := Fr.app N0 Nq5
  refine own_st (fun _ k => st5.trans k) ?_
  show own_Go p.tables e below RR (T5.setTop (mkF m 23 #[.val (.ref o), .val (.ref q), .val (.ref q)] [(.int (own_same xta nta xtc ntc))]))
  by_cases hc23_6 : (own_same xta nta xtc ntc) = (0 : Int32)
  · refine own_st (fun _ k => XS.ifYes X5.here hx rfl (pc0 := 23) (pc' := 44) rfl (hb hby own_dprog_21_method_4_code_23) rfl ((if0 _ _).trans (teq hc23_6).1) (by decide) (by decide) (XS.iconst X5.here hx rfl (hb hby own_dprog_21_method_4_code_44) k)) ?_
    show own_Go p.tables e below RR (T5.setTop (mkF m 45 #[.val (.ref o), .val (.ref q), .val (.ref q)] [(.int (0 : Int32))]))
    obtain ⟨fs, hrt_, hrun, hended, hW, hsame⟩ := X5.leave (v := some (.int (0 : Int32))) (fun h => by rw [Bd.returns] at h; cases h)
    refine own_fin (retN X5 hx (t := .boolean) Bd.returns (by simp) (hb hby own_dprog_21_method_4_code_45) hrt_) (hRR _ ⟨_, hrun, hended, _, _, rfl, ?_, ⟨_, rfl⟩, hW, hsame.mono (by decide) (by decide)⟩)
    show own_QIED Z o q sta bta kta xta lta nta stb btb ktb xtb ltb ntb stc btc ktc xtc ltc ntc std btd ktd xtd ltd ntd cs r h0 n0 _ T5.heap _
    rw [eq5]
    exact ⟨own_ri ((own_an0 hc23_6).symm.trans hr), N5, rfl⟩
  · refine own_st (fun _ k => XS.ifNo X5.here hx rfl (hb hby own_dprog_21_method_4_code_23) rfl ((if0 _ _).trans (feq hc23_6).1) (XS.aloadN X5.here hx rfl (hb hby own_dprog_21_method_4_code_26) rfl rfl k)) ?_
    show own_Go p.tables e below RR (T5.setTop (mkF m 27 #[.val (.ref o), .val (.ref q), .val (.ref q)] [(.ref o)]))
    obtain ⟨T7, X7, e7, st7⟩ := getF X5 hx hZ hown (host := "") (Or.inl (hw _ (List.mem_of_getElem? (i := 54) rfl))) Via.refl eq5 Fib (g := (mkF m 27 #[.val (.ref o), .val (.ref q), .val (.ref q)] [(.ref o)])) rfl rfl (hb hby own_dprog_21_method_4_code_27)
    refine own_st st7 ?_
    show own_Go p.tables e below RR (T7.setTop (mkF m 30 #[.val (.ref o), .val (.ref q), .val (.ref q)] [(.ref stb)]))
    refine own_st (fun _ k => XS.aloadN X7.here hx rfl (hb hby own_dprog_21_method_4_code_30) rfl rfl k) ?_
    show own_Go p.tables e below RR (T7.setTop (mkF m 31 #[.val (.ref o), .val (.ref q), .val (.ref q)] [(.ref q), (.ref stb)]))
    obtain ⟨T8, X8, e8, st8⟩ := getF X7 hx hZ hown (host := "") (Or.inl (hw _ (List.mem_of_getElem? (i := 54) rfl))) Via.refl e7 Fid (g := (mkF m 31 #[.val (.ref o), .val (.ref q), .val (.ref q)] [(.ref q), (.ref stb)])) rfl rfl (hb hby own_dprog_21_method_4_code_31)
    refine own_st st8 ?_
    show own_Go p.tables e below RR (T8.setTop (mkF m 34 #[.val (.ref o), .val (.ref q), .val (.ref q)] [(.ref std), (.ref stb)]))
    obtain ⟨cq9, kq9, q9a, q9b, q9c⟩ := isOf hZ e8 Eqtb
    obtain ⟨_, _, ⟨T9, L9, k9, n9⟩, -, X9, ⟨Lc9, hQ9, l9, y9, z9⟩, st9⟩ := X8.virtualBack hx (y := (⟨"java/lang/String", "equals", "(Ljava/lang/Object;)Z"⟩ : MethodName)) (z := (⟨"java/lang/String", "equals", "(Ljava/lang/Object;)Z"⟩ : MethodName)) hown (mvT hZ (hw _ (List.mem_of_getElem? (i := 66) rfl))) (mvT hZ (hw _ (List.mem_of_getElem? (i := 67) rfl))) (notFace_of_selects (args := #[]) (mvT hZ (hw _ (List.mem_of_getElem? (i := 69) rfl)))) (mvT hZ (hw _ (List.mem_of_getElem? (i := 69) rfl))) (mvT hZ (hw _ (List.mem_of_getElem? (i := 68) rfl))) (by decide) (backOf (W := 0) (own_rmEQD l Z a0 hw [] stb btb ktb xtb ltb ntb std btd ktd xtd ltd ntd cs h0 n0 Z0 Eqtb Cqtb Vqtb AAqtb hlqtb Eqtd Cqtd Vqtd AAqtd hlqtd S0 hcs nebd) hZ (hw _ (List.mem_of_getElem? (i := 70) rfl)) (hw _ (List.mem_of_getElem? (i := 9) rfl)) (by decide) (by decide)) q9a q9c (g := (mkF m 34 #[.val (.ref o), .val (.ref q), .val (.ref q)] [(.ref std), (.ref stb)])) rfl (by rw [hml]; rfl) (Steps.refl _) (argsL := [(.ref std)]) (rest := []) (lenOf own_pd__Ljava_lang_Object__Z rfl) rfl (by show 2 * 0 + _ ≤ _; exact Nat.le_of_eq rfl) (hb hby own_dprog_21_method_4_code_34) (fun _ _ => ⟨rfl, e8, (by decide : 0 + 0 ≤ _), (by decide : 0 + 0 ≤ _)⟩)
    dsimp only [Pt.U, Pt.locs, Pt.cells, Pt.slots] at X9 l9 y9 z9 st9 hQ9
    subst l9 y9 z9
    obtain ⟨rfl, Nq9, eq9⟩ := hQ9
    have N9 := Fr.app N5 Nq9
    refine own_st (fun _ k => st9.trans k) ?_
    show own_Go p.tables e below RR (T9.setTop (mkF m 37 #[.val (.ref o), .val (.ref q), .val (.ref q)] [(.int (own_same xtb ntb xtd ntd))]))
    by_cases hc37_10 : (own_same xtb ntb xtd ntd) = (0 : Int32)
    · refine own_st (fun _ k => XS.ifYes X9.here hx rfl (pc0 := 37) (pc' := 44) rfl (hb hby own_dprog_21_method_4_code_37) rfl ((if0 _ _).trans (teq hc37_10).1) (by decide) (by decide) (XS.iconst X9.here hx rfl (hb hby own_dprog_21_method_4_code_44) k)) ?_
      show own_Go p.tables e below RR (T9.setTop (mkF m 45 #[.val (.ref o), .val (.ref q), .val (.ref q)] [(.int (0 : Int32))]))
      obtain ⟨fs, hrt_, hrun, hended, hW, hsame⟩ := X9.leave (v := some (.int (0 : Int32))) (fun h => by rw [Bd.returns] at h; cases h)
      refine own_fin (retN X9 hx (t := .boolean) Bd.returns (by simp) (hb hby own_dprog_21_method_4_code_45) hrt_) (hRR _ ⟨_, hrun, hended, _, _, rfl, ?_, ⟨_, rfl⟩, hW, hsame.mono (by decide) (by decide)⟩)
      show own_QIED Z o q sta bta kta xta lta nta stb btb ktb xtb ltb ntb stc btc ktc xtc ltc ntc std btd ktd xtd ltd ntd cs r h0 n0 _ T9.heap _
      rw [eq9]
      exact ⟨own_ri ((own_an1 hc23_6 hc37_10).symm.trans hr), N9, rfl⟩
    · refine own_st (fun _ k => XS.ifNo X9.here hx rfl (hb hby own_dprog_21_method_4_code_37) rfl ((if0 _ _).trans (feq hc37_10).1) (XS.iconst X9.here hx rfl (hb hby own_dprog_21_method_4_code_40) (XS.goto X9.here hx rfl (pc0 := 41) (pc' := 45) rfl (hb hby own_dprog_21_method_4_code_41) (by decide) (by decide) k))) ?_
      show own_Go p.tables e below RR (T9.setTop (mkF m 45 #[.val (.ref o), .val (.ref q), .val (.ref q)] [(.int (1 : Int32))]))
      obtain ⟨fs, hrt_, hrun, hended, hW, hsame⟩ := X9.leave (v := some (.int (1 : Int32))) (fun h => by rw [Bd.returns] at h; cases h)
      refine own_fin (retN X9 hx (t := .boolean) Bd.returns (by simp) (hb hby own_dprog_21_method_4_code_45) hrt_) (hRR _ ⟨_, hrun, hended, _, _, rfl, ?_, ⟨_, rfl⟩, hW, hsame.mono (by decide) (by decide)⟩)
      show own_QIED Z o q sta bta kta xta lta nta stb btb ktb xtb ltb ntb stc btc ktc xtc ltc ntc std btd ktd xtd ltd ntd cs r h0 n0 _ T9.heap _
      rw [eq9]
      exact ⟨own_ri ((own_an2 hc23_6 hc37_10).symm.trans hr), N9, rfl⟩
theorem own_pn_com_example_unstor_unstor_ScopeEqualsPinLaw : plainName "com/example/unstor/unstor/ScopeEqualsPinLaw" = true := by first | (simp [plainName, overriddenIn]; done) | decide +kernel
theorem own_dmethod_2_code_0 : decode method_2_code 0 = .ok (.iload_n 0, 1) := by decide +kernel
theorem own_dmethod_2_code_1 : decode method_2_code 1 = .ok (.iconst 2, 1) := by decide +kernel
theorem own_dmethod_2_code_2 : decode method_2_code 2 = .ok (.bipush 8, 2) := by decide +kernel
theorem own_dmethod_2_code_4 : decode method_2_code 4 = .ok (.iload_n 1, 1) := by decide +kernel
theorem own_dmethod_2_code_5 : decode method_2_code 5 = .ok (.imul, 1) := by decide +kernel
theorem own_dmethod_2_code_6 : decode method_2_code 6 = .ok (.iadd, 1) := by decide +kernel
theorem own_dmethod_2_code_7 : decode method_2_code 7 = .ok (.iushr, 1) := by decide +kernel
theorem own_dmethod_2_code_8 : decode method_2_code 8 = .ok (.sipush 255, 3) := by decide +kernel
theorem own_dmethod_2_code_11 : decode method_2_code 11 = .ok (.iand, 1) := by decide +kernel
theorem own_dmethod_2_code_12 : decode method_2_code 12 = .ok (.i2c, 1) := by decide +kernel
theorem own_dmethod_2_code_13 : decode method_2_code 13 = .ok (.ireturn, 1) := by decide +kernel
theorem own_efCH0 (m : MethodId) (xb : Int32) : entryFrame m #[(.int xb), (.int (0 : Int32))] 2 = mkF m 0 #[.val (.int xb), .val (.int (0 : Int32))] [] := by first | (simp [entryFrame, mkF, argsToLocals, Value.category]; done) | rfl
def own_QCH0 (Z : State) (xb : Int32) (h0 : Heap) (n0 : Nat) (rv__ : Option Value) (h : Heap) (rL__ : List Loc) : Prop := rv__ = some (.int (own_u (((xb.toUInt32 >>> ((2 : Int32) &&& 31).toUInt32).toInt32) &&& (255 : Int32)))) ∧ Fr n0 rL__ ∧ h = h0
abbrev own_RCH0 : Room := { frames := 0, cells := 0, slots := 0, locals := 0 }
set_option maxRecDepth 65536 in
set_option maxHeartbeats 40000000 in
theorem own_rmCH0 (l : Launch) (Z : State) (a0 : Array Value) (hw : ∀ d ∈ tables_1, d.before a0 Z = true) (ws : List Jvm.Cond) (xb : Int32) (h0 : Heap) (n0 : Nat) (Z0 : n0 ≤ h0.size)  :
    MetFree l (⟨"com/example/unstor/unstor/ScopeEqualsPinLaw", "ch", "(II)C"⟩ : MethodName) (head1 (Jvm.Cond.code (⟨"com/example/unstor/unstor/ScopeEqualsPinLaw", "ch", "(II)C"⟩ : MethodName) method_2_code 2 (some .char) :: ws) own_RCH0) (fun aa__ U => aa__ = #[(.int xb), (.int (0 : Int32))] ∧ Z.Warmed39 U.vm ∧ U.heap = h0) (fun _ _ _ _ _ => True) (fun _ U oc_ U' => ∃ rv__ rL__, oc_ = .returned rv__ ∧ own_QCH0 Z xb h0 n0 rv__ U'.heap rL__ ∧ FrameEnd U oc_ U' rL__ own_RCH0.cells own_RCH0.slots) := by
  refine MetFree.of_bodySF (plainFor_of_name own_pn_com_example_unstor_unstor_ScopeEqualsPinLaw) hisR ?_
  intro p e s m args below meth c s₁ Bd hml0 hP hK
  obtain ⟨rfl, hZ, hh⟩ := hP
  have hx := Bd.exec
  have hby := Bd.bytes
  have hml : c.maxLocals = 2 := hml0
  have hown : s.vm.findClass "com/example/unstor/unstor/ScopeEqualsPinLaw" = some m.cls := findClass_of_methodNamed Bd.named
  have hnm := (name_of_methodNamed Bd.named Bd.method).1
  have X0 : Stand p l e own_RCH0 s m #[(.int xb), (.int (0 : Int32))] below meth c s₁ [] 0 0 := Stand.of_body Bd
  have e0 : s₁.heap = h0 := by rw [← hh, Bd.state]; rfl
  have N0 := Fr.nil n0
  refine own_in (fun _ k => castTop (own_efCH0 m xb) k) ?_
  intro RR hRR
  show own_Go p.tables e below RR (s₁.setTop (mkF m 0 #[.val (.int xb), .val (.int (0 : Int32))] []))
  refine own_st (fun _ k => XS.iloadN X0.here hx rfl (hb hby own_dmethod_2_code_0) rfl (XS.iconst X0.here hx rfl (hb hby own_dmethod_2_code_1) (XS.bipush X0.here hx rfl (hb hby own_dmethod_2_code_2) (XS.iloadN X0.here hx rfl (hb hby own_dmethod_2_code_4) rfl (XS.imul X0.here hx rfl (hb hby own_dmethod_2_code_5) rfl (XS.iadd X0.here hx rfl (hb hby own_dmethod_2_code_6) rfl (XS.iushr X0.here hx rfl (hb hby own_dmethod_2_code_7) rfl (XS.sipush X0.here hx rfl (hb hby own_dmethod_2_code_8) k)))))))) ?_
  show own_Go p.tables e below RR (s₁.setTop (mkF m 11 #[.val (.int xb), .val (.int (0 : Int32))] [(.int (255 : Int32)), (.int ((xb.toUInt32 >>> ((2 : Int32) &&& 31).toUInt32).toInt32))]))
  refine own_st (fun _ k => XS.iand X0.here hx rfl (hb hby own_dmethod_2_code_11) rfl (XS.i2c X0.here hx rfl (hb hby own_dmethod_2_code_12) rfl k)) ?_
  show own_Go p.tables e below RR (s₁.setTop (mkF m 13 #[.val (.int xb), .val (.int (0 : Int32))] [(.int ((((xb.toUInt32 >>> ((2 : Int32) &&& 31).toUInt32).toInt32) &&& (255 : Int32)).toUInt32.toUInt16.toUInt32.toInt32))]))
  obtain ⟨fs, hrt_, hrun, hended, hW, hsame⟩ := X0.leave (v := some (.int (nar .char ((((xb.toUInt32 >>> ((2 : Int32) &&& 31).toUInt32).toInt32) &&& (255 : Int32)).toUInt32.toUInt16.toUInt32.toInt32)))) (fun h => by rw [Bd.returns] at h; cases h)
  refine own_fin (retN X0 hx (t := .char) Bd.returns (by simp) (hb hby own_dmethod_2_code_13) hrt_) (hRR _ ⟨_, hrun, hended, _, _, rfl, ?_, ⟨_, rfl⟩, hW, hsame.mono (by decide) (by decide)⟩)
  show own_QCH0 Z xb h0 n0 _ s₁.heap _
  rw [e0]
  exact ⟨rfl, N0, rfl⟩
theorem own_efCH1 (m : MethodId) (xb : Int32) : entryFrame m #[(.int xb), (.int (1 : Int32))] 2 = mkF m 0 #[.val (.int xb), .val (.int (1 : Int32))] [] := by first | (simp [entryFrame, mkF, argsToLocals, Value.category]; done) | rfl
def own_QCH1 (Z : State) (xb : Int32) (h0 : Heap) (n0 : Nat) (rv__ : Option Value) (h : Heap) (rL__ : List Loc) : Prop := rv__ = some (.int (own_u (((xb.toUInt32 >>> ((10 : Int32) &&& 31).toUInt32).toInt32) &&& (255 : Int32)))) ∧ Fr n0 rL__ ∧ h = h0
abbrev own_RCH1 : Room := { frames := 0, cells := 0, slots := 0, locals := 0 }
set_option maxRecDepth 65536 in
set_option maxHeartbeats 40000000 in
theorem own_rmCH1 (l : Launch) (Z : State) (a0 : Array Value) (hw : ∀ d ∈ tables_1, d.before a0 Z = true) (ws : List Jvm.Cond) (xb : Int32) (h0 : Heap) (n0 : Nat) (Z0 : n0 ≤ h0.size)  :
    MetFree l (⟨"com/example/unstor/unstor/ScopeEqualsPinLaw", "ch", "(II)C"⟩ : MethodName) (head1 (Jvm.Cond.code (⟨"com/example/unstor/unstor/ScopeEqualsPinLaw", "ch", "(II)C"⟩ : MethodName) method_2_code 2 (some .char) :: ws) own_RCH1) (fun aa__ U => aa__ = #[(.int xb), (.int (1 : Int32))] ∧ Z.Warmed39 U.vm ∧ U.heap = h0) (fun _ _ _ _ _ => True) (fun _ U oc_ U' => ∃ rv__ rL__, oc_ = .returned rv__ ∧ own_QCH1 Z xb h0 n0 rv__ U'.heap rL__ ∧ FrameEnd U oc_ U' rL__ own_RCH1.cells own_RCH1.slots) := by
  refine MetFree.of_bodySF (plainFor_of_name own_pn_com_example_unstor_unstor_ScopeEqualsPinLaw) hisR ?_
  intro p e s m args below meth c s₁ Bd hml0 hP hK
  obtain ⟨rfl, hZ, hh⟩ := hP
  have hx := Bd.exec
  have hby := Bd.bytes
  have hml : c.maxLocals = 2 := hml0
  have hown : s.vm.findClass "com/example/unstor/unstor/ScopeEqualsPinLaw" = some m.cls := findClass_of_methodNamed Bd.named
  have hnm := (name_of_methodNamed Bd.named Bd.method).1
  have X0 : Stand p l e own_RCH1 s m #[(.int xb), (.int (1 : Int32))] below meth c s₁ [] 0 0 := Stand.of_body Bd
  have e0 : s₁.heap = h0 := by rw [← hh, Bd.state]; rfl
  have N0 := Fr.nil n0
  refine own_in (fun _ k => castTop (own_efCH1 m xb) k) ?_
  intro RR hRR
  show own_Go p.tables e below RR (s₁.setTop (mkF m 0 #[.val (.int xb), .val (.int (1 : Int32))] []))
  refine own_st (fun _ k => XS.iloadN X0.here hx rfl (hb hby own_dmethod_2_code_0) rfl (XS.iconst X0.here hx rfl (hb hby own_dmethod_2_code_1) (XS.bipush X0.here hx rfl (hb hby own_dmethod_2_code_2) (XS.iloadN X0.here hx rfl (hb hby own_dmethod_2_code_4) rfl (XS.imul X0.here hx rfl (hb hby own_dmethod_2_code_5) rfl (XS.iadd X0.here hx rfl (hb hby own_dmethod_2_code_6) rfl (XS.iushr X0.here hx rfl (hb hby own_dmethod_2_code_7) rfl (XS.sipush X0.here hx rfl (hb hby own_dmethod_2_code_8) k)))))))) ?_
  show own_Go p.tables e below RR (s₁.setTop (mkF m 11 #[.val (.int xb), .val (.int (1 : Int32))] [(.int (255 : Int32)), (.int ((xb.toUInt32 >>> ((10 : Int32) &&& 31).toUInt32).toInt32))]))
  refine own_st (fun _ k => XS.iand X0.here hx rfl (hb hby own_dmethod_2_code_11) rfl (XS.i2c X0.here hx rfl (hb hby own_dmethod_2_code_12) rfl k)) ?_
  show own_Go p.tables e below RR (s₁.setTop (mkF m 13 #[.val (.int xb), .val (.int (1 : Int32))] [(.int ((((xb.toUInt32 >>> ((10 : Int32) &&& 31).toUInt32).toInt32) &&& (255 : Int32)).toUInt32.toUInt16.toUInt32.toInt32))]))
  obtain ⟨fs, hrt_, hrun, hended, hW, hsame⟩ := X0.leave (v := some (.int (nar .char ((((xb.toUInt32 >>> ((10 : Int32) &&& 31).toUInt32).toInt32) &&& (255 : Int32)).toUInt32.toUInt16.toUInt32.toInt32)))) (fun h => by rw [Bd.returns] at h; cases h)
  refine own_fin (retN X0 hx (t := .char) Bd.returns (by simp) (hb hby own_dmethod_2_code_13) hrt_) (hRR _ ⟨_, hrun, hended, _, _, rfl, ?_, ⟨_, rfl⟩, hW, hsame.mono (by decide) (by decide)⟩)
  show own_QCH1 Z xb h0 n0 _ s₁.heap _
  rw [e0]
  exact ⟨rfl, N0, rfl⟩
theorem own_efCH2 (m : MethodId) (xb : Int32) : entryFrame m #[(.int xb), (.int (2 : Int32))] 2 = mkF m 0 #[.val (.int xb), .val (.int (2 : Int32))] [] := by first | (simp [entryFrame, mkF, argsToLocals, Value.category]; done) | rfl
def own_QCH2 (Z : State) (xb : Int32) (h0 : Heap) (n0 : Nat) (rv__ : Option Value) (h : Heap) (rL__ : List Loc) : Prop := rv__ = some (.int (own_u (((xb.toUInt32 >>> ((18 : Int32) &&& 31).toUInt32).toInt32) &&& (255 : Int32)))) ∧ Fr n0 rL__ ∧ h = h0
abbrev own_RCH2 : Room := { frames := 0, cells := 0, slots := 0, locals := 0 }
set_option maxRecDepth 65536 in
set_option maxHeartbeats 40000000 in
theorem own_rmCH2 (l : Launch) (Z : State) (a0 : Array Value) (hw : ∀ d ∈ tables_1, d.before a0 Z = true) (ws : List Jvm.Cond) (xb : Int32) (h0 : Heap) (n0 : Nat) (Z0 : n0 ≤ h0.size)  :
    MetFree l (⟨"com/example/unstor/unstor/ScopeEqualsPinLaw", "ch", "(II)C"⟩ : MethodName) (head1 (Jvm.Cond.code (⟨"com/example/unstor/unstor/ScopeEqualsPinLaw", "ch", "(II)C"⟩ : MethodName) method_2_code 2 (some .char) :: ws) own_RCH2) (fun aa__ U => aa__ = #[(.int xb), (.int (2 : Int32))] ∧ Z.Warmed39 U.vm ∧ U.heap = h0) (fun _ _ _ _ _ => True) (fun _ U oc_ U' => ∃ rv__ rL__, oc_ = .returned rv__ ∧ own_QCH2 Z xb h0 n0 rv__ U'.heap rL__ ∧ FrameEnd U oc_ U' rL__ own_RCH2.cells own_RCH2.slots) := by
  refine MetFree.of_bodySF (plainFor_of_name own_pn_com_example_unstor_unstor_ScopeEqualsPinLaw) hisR ?_
  intro p e s m args below meth c s₁ Bd hml0 hP hK
  obtain ⟨rfl, hZ, hh⟩ := hP
  have hx := Bd.exec
  have hby := Bd.bytes
  have hml : c.maxLocals = 2 := hml0
  have hown : s.vm.findClass "com/example/unstor/unstor/ScopeEqualsPinLaw" = some m.cls := findClass_of_methodNamed Bd.named
  have hnm := (name_of_methodNamed Bd.named Bd.method).1
  have X0 : Stand p l e own_RCH2 s m #[(.int xb), (.int (2 : Int32))] below meth c s₁ [] 0 0 := Stand.of_body Bd
  have e0 : s₁.heap = h0 := by rw [← hh, Bd.state]; rfl
  have N0 := Fr.nil n0
  refine own_in (fun _ k => castTop (own_efCH2 m xb) k) ?_
  intro RR hRR
  show own_Go p.tables e below RR (s₁.setTop (mkF m 0 #[.val (.int xb), .val (.int (2 : Int32))] []))
  refine own_st (fun _ k => XS.iloadN X0.here hx rfl (hb hby own_dmethod_2_code_0) rfl (XS.iconst X0.here hx rfl (hb hby own_dmethod_2_code_1) (XS.bipush X0.here hx rfl (hb hby own_dmethod_2_code_2) (XS.iloadN X0.here hx rfl (hb hby own_dmethod_2_code_4) rfl (XS.imul X0.here hx rfl (hb hby own_dmethod_2_code_5) rfl (XS.iadd X0.here hx rfl (hb hby own_dmethod_2_code_6) rfl (XS.iushr X0.here hx rfl (hb hby own_dmethod_2_code_7) rfl (XS.sipush X0.here hx rfl (hb hby own_dmethod_2_code_8) k)))))))) ?_
  show own_Go p.tables e below RR (s₁.setTop (mkF m 11 #[.val (.int xb), .val (.int (2 : Int32))] [(.int (255 : Int32)), (.int ((xb.toUInt32 >>> ((18 : Int32) &&& 31).toUInt32).toInt32))]))
  refine own_st (fun _ k => XS.iand X0.here hx rfl (hb hby own_dmethod_2_code_11) rfl (XS.i2c X0.here hx rfl (hb hby own_dmethod_2_code_12) rfl k)) ?_
  show own_Go p.tables e below RR (s₁.setTop (mkF m 13 #[.val (.int xb), .val (.int (2 : Int32))] [(.int ((((xb.toUInt32 >>> ((18 : Int32) &&& 31).toUInt32).toInt32) &&& (255 : Int32)).toUInt32.toUInt16.toUInt32.toInt32))]))
  obtain ⟨fs, hrt_, hrun, hended, hW, hsame⟩ := X0.leave (v := some (.int (nar .char ((((xb.toUInt32 >>> ((18 : Int32) &&& 31).toUInt32).toInt32) &&& (255 : Int32)).toUInt32.toUInt16.toUInt32.toInt32)))) (fun h => by rw [Bd.returns] at h; cases h)
  refine own_fin (retN X0 hx (t := .char) Bd.returns (by simp) (hb hby own_dmethod_2_code_13) hrt_) (hRR _ ⟨_, hrun, hended, _, _, rfl, ?_, ⟨_, rfl⟩, hW, hsame.mono (by decide) (by decide)⟩)
  show own_QCH2 Z xb h0 n0 _ s₁.heap _
  rw [e0]
  exact ⟨rfl, N0, rfl⟩
theorem own_dmethod_3_code_0 : decode method_3_code 0 = .ok (.iload_n 0, 1) := by decide +kernel
theorem own_dmethod_3_code_1 : decode method_3_code 1 = .ok (.iconst 3, 1) := by decide +kernel
theorem own_dmethod_3_code_2 : decode method_3_code 2 = .ok (.iand, 1) := by decide +kernel
theorem own_dmethod_3_code_3 : decode method_3_code 3 = .ok (.istore_n 1, 1) := by decide +kernel
theorem own_dmethod_3_code_4 : decode method_3_code 4 = .ok (.iload_n 1, 1) := by decide +kernel
theorem own_dmethod_3_code_5 : decode method_3_code 5 = .ok (.ifCond .ne 14, 3) := by decide +kernel
theorem own_dmethod_3_code_8 : decode method_3_code 8 = .ok (.new 7, 3) := by decide +kernel
theorem own_dmethod_3_code_11 : decode method_3_code 11 = .ok (.dup, 1) := by decide +kernel
theorem own_dmethod_3_code_12 : decode method_3_code 12 = .ok (.iconst 0, 1) := by decide +kernel
theorem own_dmethod_3_code_13 : decode method_3_code 13 = .ok (.newarray .char, 2) := by decide +kernel
theorem own_pd___C_V : parseMethodDescriptor "([C)V" = some ⟨[(.array .char)], none⟩ := by decide +kernel
theorem own_dmethod_3_code_15 : decode method_3_code 15 = .ok (.invokespecial 9, 3) := by decide +kernel
theorem own_dmethod_3_code_18 : decode method_3_code 18 = .ok (.areturn, 1) := by decide +kernel
theorem own_dmethod_3_code_19 : decode method_3_code 19 = .ok (.iload_n 1, 1) := by decide +kernel
theorem own_dmethod_3_code_20 : decode method_3_code 20 = .ok (.iconst 1, 1) := by decide +kernel
theorem own_dmethod_3_code_21 : decode method_3_code 21 = .ok (.if_icmp .ne 24, 3) := by decide +kernel
theorem own_dmethod_3_code_24 : decode method_3_code 24 = .ok (.iconst 1, 1) := by decide +kernel
theorem own_dmethod_3_code_25 : decode method_3_code 25 = .ok (.newarray .char, 2) := by decide +kernel
theorem own_dmethod_3_code_27 : decode method_3_code 27 = .ok (.astore_n 2, 1) := by decide +kernel
theorem own_dmethod_3_code_28 : decode method_3_code 28 = .ok (.aload_n 2, 1) := by decide +kernel
theorem own_dmethod_3_code_29 : decode method_3_code 29 = .ok (.iconst 0, 1) := by decide +kernel
theorem own_dmethod_3_code_30 : decode method_3_code 30 = .ok (.iload_n 0, 1) := by decide +kernel
theorem own_dmethod_3_code_31 : decode method_3_code 31 = .ok (.iconst 0, 1) := by decide +kernel
theorem own_pd__II_C : parseMethodDescriptor "(II)C" = some ⟨[.int, .int], some .char⟩ := by decide +kernel
theorem own_dmethod_3_code_32 : decode method_3_code 32 = .ok (.invokestatic 12, 3) := by decide +kernel
theorem own_dmethod_3_code_35 : decode method_3_code 35 = .ok (.castore, 1) := by decide +kernel
theorem own_dmethod_3_code_36 : decode method_3_code 36 = .ok (.new 7, 3) := by decide +kernel
theorem own_dmethod_3_code_39 : decode method_3_code 39 = .ok (.dup, 1) := by decide +kernel
theorem own_dmethod_3_code_40 : decode method_3_code 40 = .ok (.aload_n 2, 1) := by decide +kernel
theorem own_dmethod_3_code_41 : decode method_3_code 41 = .ok (.invokespecial 9, 3) := by decide +kernel
theorem own_dmethod_3_code_44 : decode method_3_code 44 = .ok (.areturn, 1) := by decide +kernel
theorem own_dmethod_3_code_45 : decode method_3_code 45 = .ok (.iload_n 1, 1) := by decide +kernel
theorem own_dmethod_3_code_46 : decode method_3_code 46 = .ok (.iconst 2, 1) := by decide +kernel
theorem own_dmethod_3_code_47 : decode method_3_code 47 = .ok (.if_icmp .ne 32, 3) := by decide +kernel
theorem own_dmethod_3_code_50 : decode method_3_code 50 = .ok (.iconst 2, 1) := by decide +kernel
theorem own_dmethod_3_code_51 : decode method_3_code 51 = .ok (.newarray .char, 2) := by decide +kernel
theorem own_dmethod_3_code_53 : decode method_3_code 53 = .ok (.astore_n 2, 1) := by decide +kernel
theorem own_dmethod_3_code_54 : decode method_3_code 54 = .ok (.aload_n 2, 1) := by decide +kernel
theorem own_dmethod_3_code_55 : decode method_3_code 55 = .ok (.iconst 0, 1) := by decide +kernel
theorem own_dmethod_3_code_56 : decode method_3_code 56 = .ok (.iload_n 0, 1) := by decide +kernel
theorem own_dmethod_3_code_57 : decode method_3_code 57 = .ok (.iconst 0, 1) := by decide +kernel
theorem own_dmethod_3_code_58 : decode method_3_code 58 = .ok (.invokestatic 12, 3) := by decide +kernel
theorem own_dmethod_3_code_61 : decode method_3_code 61 = .ok (.castore, 1) := by decide +kernel
theorem own_dmethod_3_code_62 : decode method_3_code 62 = .ok (.aload_n 2, 1) := by decide +kernel
theorem own_dmethod_3_code_63 : decode method_3_code 63 = .ok (.iconst 1, 1) := by decide +kernel
theorem own_dmethod_3_code_64 : decode method_3_code 64 = .ok (.iload_n 0, 1) := by decide +kernel
theorem own_dmethod_3_code_65 : decode method_3_code 65 = .ok (.iconst 1, 1) := by decide +kernel
theorem own_dmethod_3_code_66 : decode method_3_code 66 = .ok (.invokestatic 12, 3) := by decide +kernel
theorem own_dmethod_3_code_69 : decode method_3_code 69 = .ok (.castore, 1) := by decide +kernel
theorem own_dmethod_3_code_70 : decode method_3_code 70 = .ok (.new 7, 3) := by decide +kernel
theorem own_dmethod_3_code_73 : decode method_3_code 73 = .ok (.dup, 1) := by decide +kernel
theorem own_dmethod_3_code_74 : decode method_3_code 74 = .ok (.aload_n 2, 1) := by decide +kernel
theorem own_dmethod_3_code_75 : decode method_3_code 75 = .ok (.invokespecial 9, 3) := by decide +kernel
theorem own_dmethod_3_code_78 : decode method_3_code 78 = .ok (.areturn, 1) := by decide +kernel
theorem own_dmethod_3_code_79 : decode method_3_code 79 = .ok (.iconst 3, 1) := by decide +kernel
theorem own_dmethod_3_code_80 : decode method_3_code 80 = .ok (.newarray .char, 2) := by decide +kernel
theorem own_dmethod_3_code_82 : decode method_3_code 82 = .ok (.astore_n 2, 1) := by decide +kernel
theorem own_dmethod_3_code_83 : decode method_3_code 83 = .ok (.aload_n 2, 1) := by decide +kernel
theorem own_dmethod_3_code_84 : decode method_3_code 84 = .ok (.iconst 0, 1) := by decide +kernel
theorem own_dmethod_3_code_85 : decode method_3_code 85 = .ok (.iload_n 0, 1) := by decide +kernel
theorem own_dmethod_3_code_86 : decode method_3_code 86 = .ok (.iconst 0, 1) := by decide +kernel
theorem own_dmethod_3_code_87 : decode method_3_code 87 = .ok (.invokestatic 12, 3) := by decide +kernel
theorem own_dmethod_3_code_90 : decode method_3_code 90 = .ok (.castore, 1) := by decide +kernel
theorem own_dmethod_3_code_91 : decode method_3_code 91 = .ok (.aload_n 2, 1) := by decide +kernel
theorem own_dmethod_3_code_92 : decode method_3_code 92 = .ok (.iconst 1, 1) := by decide +kernel
theorem own_dmethod_3_code_93 : decode method_3_code 93 = .ok (.iload_n 0, 1) := by decide +kernel
theorem own_dmethod_3_code_94 : decode method_3_code 94 = .ok (.iconst 1, 1) := by decide +kernel
theorem own_dmethod_3_code_95 : decode method_3_code 95 = .ok (.invokestatic 12, 3) := by decide +kernel
theorem own_dmethod_3_code_98 : decode method_3_code 98 = .ok (.castore, 1) := by decide +kernel
theorem own_dmethod_3_code_99 : decode method_3_code 99 = .ok (.aload_n 2, 1) := by decide +kernel
theorem own_dmethod_3_code_100 : decode method_3_code 100 = .ok (.iconst 2, 1) := by decide +kernel
theorem own_dmethod_3_code_101 : decode method_3_code 101 = .ok (.iload_n 0, 1) := by decide +kernel
theorem own_dmethod_3_code_102 : decode method_3_code 102 = .ok (.iconst 2, 1) := by decide +kernel
theorem own_dmethod_3_code_103 : decode method_3_code 103 = .ok (.invokestatic 12, 3) := by decide +kernel
theorem own_dmethod_3_code_106 : decode method_3_code 106 = .ok (.castore, 1) := by decide +kernel
theorem own_dmethod_3_code_107 : decode method_3_code 107 = .ok (.new 7, 3) := by decide +kernel
theorem own_dmethod_3_code_110 : decode method_3_code 110 = .ok (.dup, 1) := by decide +kernel
theorem own_dmethod_3_code_111 : decode method_3_code 111 = .ok (.aload_n 2, 1) := by decide +kernel
theorem own_dmethod_3_code_112 : decode method_3_code 112 = .ok (.invokespecial 9, 3) := by decide +kernel
theorem own_dmethod_3_code_115 : decode method_3_code 115 = .ok (.areturn, 1) := by decide +kernel
theorem own_efTX (m : MethodId) (xb : Int32) : entryFrame m #[(.int xb)] 3 = mkF m 0 #[.val (.int xb), .unset, .unset] [] := by first | (simp [entryFrame, mkF, argsToLocals, Value.category]; done) | rfl
def own_QTX (Z : State) (xb : Int32) (xl : Int32) (xn : Nat) (cs : Int32) (h0 : Heap) (n0 : Nat) (rv__ : Option Value) (h : Heap) (vm : Vm) (rL__ : List Loc) : Prop := ∃ r__ : Addr, rv__ = some (.ref r__) ∧ Fr n0 rL__ ∧ Keep h0 h [] ∧ h0.size ≤ r__ ∧ Exa Z h r__ "java/lang/String" ∧ Fld Z h r__ "java/lang/String" "coder" "B" (.int (0 : Int32)) ∧ (∃ (b : Addr) (kb : ClassId), Fld Z h r__ "java/lang/String" "value" "[B" (.ref b) ∧ Arv Z h b kb .byte xl (own_tx xb xn) (.int (0 : Int32))) ∧ own_Bk Z vm h
abbrev own_RTX : Room := { frames := 4, cells := 4, slots := 10, locals := 66 }
set_option maxRecDepth 65536 in
set_option maxHeartbeats 40000000 in
theorem own_rmTX (l : Launch) (Z : State) (a0 : Array Value) (hw : ∀ d ∈ tables_1, d.before a0 Z = true) (ws : List Jvm.Cond) (xb : Int32) (xl : Int32) (xn : Nat) (cs : Int32) (h0 : Heap) (n0 : Nat) (Z0 : n0 ≤ h0.size) (hgx : (xb &&& (3 : Int32)) = xl) (hxl : own_ln xl xn) (hkp : ∀ (b : Addr) (cl : Cell), Z.heap[b]? = some cl → h0[b]? = some cl) (hcon : Jvm.Lit.constHeld Z "java/lang/String" 7) (hcw : Jvm.Lit.compactW.before a0 Z = true) (S0 : Sta Z h0 "java/lang/String" "COMPACT_STRINGS" "Z" (.int cs)) (hcs : ¬ cs = (0 : Int32)) :
    MetFree l (⟨"com/example/unstor/unstor/ScopeEqualsPinLaw", "make", "(I)Ljava/lang/String;"⟩ : MethodName) (head1 (Jvm.Cond.code (⟨"com/example/unstor/unstor/ScopeEqualsPinLaw", "make", "(I)Ljava/lang/String;"⟩ : MethodName) method_3_code 3 (some (.object "java/lang/String")) :: ws) own_RTX) (fun aa__ U => aa__ = #[(.int xb)] ∧ Z.Warmed39 U.vm ∧ U.heap = h0 ∧ own_Bk Z U.vm h0) (fun _ _ _ _ _ => True) (fun _ U oc_ U' => ∃ rv__ rL__, oc_ = .returned rv__ ∧ own_QTX Z xb xl xn cs h0 n0 rv__ U'.heap U'.vm rL__ ∧ ReturnedEndW U oc_ U' rL__ own_RTX.cells own_RTX.slots) := by
  refine MetFree.of_bodySF (plainFor_of_name own_pn_com_example_unstor_unstor_ScopeEqualsPinLaw) hisR ?_
  intro p e s m args below meth c s₁ Bd hml0 hP hK
  obtain ⟨rfl, hZ, hh, hBk⟩ := hP
  have hx := Bd.exec
  have hby := Bd.bytes
  have hml : c.maxLocals = 3 := hml0
  have hown : s.vm.findClass "com/example/unstor/unstor/ScopeEqualsPinLaw" = some m.cls := findClass_of_methodNamed Bd.named
  have hnm := (name_of_methodNamed Bd.named Bd.method).1
  have X0 : Stand p l e own_RTX s m #[(.int xb)] below meth c s₁ [] 0 0 := Stand.of_body Bd
  have e0 : s₁.heap = h0 := by rw [← hh, Bd.state]; rfl
  have N0 := Fr.nil n0
  refine own_in (fun _ k => castTop (own_efTX m xb) k) ?_
  intro RR hRR
  rcases hxl with ⟨rfl, rfl⟩ | ⟨rfl, rfl⟩ | ⟨rfl, rfl⟩ | ⟨rfl, rfl⟩
  · show own_Go p.tables e below RR (s₁.setTop (mkF m 0 #[.val (.int xb), .unset, .unset] []))
    refine own_st (fun _ k => XS.iloadN X0.here hx rfl (hb hby own_dmethod_3_code_0) rfl (XS.iconst X0.here hx rfl (hb hby own_dmethod_3_code_1) (XS.iand X0.here hx rfl (hb hby own_dmethod_3_code_2) rfl k))) ?_
    show own_Go p.tables e below RR (s₁.setTop (mkF m 3 #[.val (.int xb), .unset, .unset] [(.int (xb &&& (3 : Int32)))]))
    rw [hgx]
    show own_Go p.tables e below RR (s₁.setTop (mkF m 3 #[.val (.int xb), .unset, .unset] [(.int (0 : Int32))]))
    show own_Go p.tables e below RR (s₁.setTop (mkF m 3 #[.val (.int xb), .unset, .unset] [(.int (0 : Int32))]))
    refine own_st (fun _ k => XS.istoreN X0.here hx rfl (hb hby own_dmethod_3_code_3) rfl (l' := #[.val (.int xb), .val (.int (0 : Int32)), .unset]) rfl (XS.iloadN X0.here hx rfl (hb hby own_dmethod_3_code_4) rfl k)) ?_
    show own_Go p.tables e below RR (s₁.setTop (mkF m 5 #[.val (.int xb), .val (.int (0 : Int32)), .unset] [(.int (0 : Int32))]))
    refine own_st (fun _ k => XS.ifNo X0.here hx rfl (hb hby own_dmethod_3_code_5) rfl ((if0 _ _).trans (teq (by decide)).2) k) ?_
    show own_Go p.tables e below RR (s₁.setTop (mkF m 8 #[.val (.int xb), .val (.int (0 : Int32)), .unset] []))
    obtain ⟨T1, h1, X1, e1, E1, A1, D1, -, st1⟩ := newO X0 hx hZ hown (hw _ (List.mem_of_getElem? (i := 7) rfl)) (hw _ (List.mem_of_getElem? (i := 8) rfl)) (hw _ (List.mem_of_getElem? (i := 9) rfl)) e0 (g := (mkF m 8 #[.val (.int xb), .val (.int (0 : Int32)), .unset] [])) rfl (hb hby own_dmethod_3_code_8) (by decide) (by decide)
    obtain ⟨b1, gb1⟩ : ∃ z, z = h0.size := ⟨_, rfl⟩
    rw [← gb1] at A1 D1 st1
    have ge1 : n0 ≤ b1 := Nat.le_trans Z0 (Nat.le_of_eq gb1.symm)
    have sz1 : h0.size ≤ b1 := Nat.le_trans (Keep.refl h0 []).1 (Nat.le_of_eq gb1.symm)
    refine own_st st1 ?_
    have f2 := (own_Bk_ext hBk E1)
    have z3 : n0 ≤ h1.size := Nat.le_trans Z0 E1.1
    have kk4 : Keep h0 h1 [] := (Keep.refl h0 []).ext E1
    have F1_23 : Fld Z h1 b1 "java/lang/String" "value" "[B" .null := D1 (Or.inr (hw _ (List.mem_of_getElem? (i := 23) rfl))) (ty := (.array .byte)) (by decide)
    have F1_24 : Fld Z h1 b1 "java/lang/String" "coder" "B" (.int (0 : Int32)) := D1 (Or.inr (hw _ (List.mem_of_getElem? (i := 24) rfl))) (ty := .byte) (by decide)
    show own_Go p.tables e below RR (T1.setTop (mkF m 11 #[.val (.int xb), .val (.int (0 : Int32)), .unset] [(.ref b1)]))
    refine own_st (fun _ k => XS.dup X1.here hx rfl (hb hby own_dmethod_3_code_11) rfl rfl (XS.iconst X1.here hx rfl (hb hby own_dmethod_3_code_12) k)) ?_
    show own_Go p.tables e below RR (T1.setTop (mkF m 13 #[.val (.int xb), .val (.int (0 : Int32)), .unset] [(.int (0 : Int32)), (.ref b1), (.ref b1)]))
    obtain ⟨T5, h5, k5, X5, e5, E5, A5, st5⟩ := newP X1 hx hZ (hw _ (List.mem_of_getElem? (i := 10) rfl)) e1 (g := (mkF m 13 #[.val (.int xb), .val (.int (0 : Int32)), .unset] [(.int (0 : Int32)), (.ref b1), (.ref b1)])) rfl (hb hby own_dmethod_3_code_13) rfl (by decide) (cap := 0) (by decide) (by decide) (by decide) (by decide)
    obtain ⟨b5, gb5⟩ : ∃ z, z = h1.size := ⟨_, rfl⟩
    rw [← gb5] at A5 st5
    have ge5 : n0 ≤ b5 := Nat.le_trans z3 (Nat.le_of_eq gb5.symm)
    have sz5 : h0.size ≤ b5 := Nat.le_trans kk4.1 (Nat.le_of_eq gb5.symm)
    refine own_st st5 ?_
    have f6 := (own_Bk_ext f2 E5)
    have z7 : n0 ≤ h5.size := Nat.le_trans z3 E5.1
    have kk8 : Keep h0 h5 [] := kk4.ext E5
    have V5 : Arv Z h5 b5 k5 .char (0 : Int32) [] (.int (0 : Int32)) := (Arv.new A5 (by decide)).pad (pad_rep [] (.int (0 : Int32)) 0)
    show own_Go p.tables e below RR (T5.setTop (mkF m 15 #[.val (.int xb), .val (.int (0 : Int32)), .unset] [(.ref b5), (.ref b1), (.ref b1)]))
    have f9 := (A1.ext E5)
    have f10 := (F1_23.ext E5)
    have f11 := (F1_24.ext E5)
    obtain ⟨_, _, ⟨T12, L12, k12, n12⟩, -, X12a, hs12, g12, ⟨Lc12, hQ12, l12, y12, z12⟩, st12⟩ := Stand.specialBackS (s := s.setVm s.vm) X5 hx (y := (⟨"java/lang/String", "<init>", "([C)V"⟩ : MethodName)) rfl hown (mvT hZ (hw _ (List.mem_of_getElem? (i := 11) rfl))) (mvT hZ (hw _ (List.mem_of_getElem? (i := 12) rfl))) (mvT hZ (hw _ (List.mem_of_getElem? (i := 13) rfl))) (by decide) (own_backS (W := 1) (own_rmSTE l Z a0 hw [] b1 b5 k5 h5 n0 z7 ge1 f9 f10 f11 V5 (fun b cl q => kk8.2.1 b cl (hkp b cl q) nin0) hcon hcw) hZ f6 (hw _ (List.mem_of_getElem? (i := 13) rfl)) (hw _ (List.mem_of_getElem? (i := 9) rfl)) (by decide) (by decide)) (g := (mkF m 15 #[.val (.int xb), .val (.int (0 : Int32)), .unset] [(.ref b5), (.ref b1), (.ref b1)])) rfl (by rw [hml]; rfl) (Steps.refl _) (a := b1) (argsL := [(.ref b5)]) (rest := [(.ref b1)]) (lenOf own_pd___C_V rfl) rfl (by show 2 * 0 + _ ≤ _; exact Nat.le_of_eq rfl) (hb hby own_dmethod_3_code_15) (fun _ _ => ⟨rfl, e5, (by decide : 2 + 2 ≤ _), (by decide : 4 + 4 ≤ _)⟩)
    dsimp only [Pt.U, Pt.locs, Pt.cells, Pt.slots] at X12a hs12 g12 l12 y12 z12 st12 hQ12
    subst l12 y12 z12
    obtain ⟨X12, hS12, hZ, hown⟩ := rebS ((State.WarmedH.refl s).since 0) (by rw [e5]; exact (Nat.zero_le _)) X12a hs12 g12 hZ hown
    obtain ⟨rfl, Nq12, Kq12, Eq12, Fq12, ⟨bq12, kbq12, Fvq12, Vq12⟩, Bq12⟩ := hQ12
    have N12 := Fr.app N0 Nq12
    refine own_st (fun _ k => st12.trans k) ?_
    have z13 : n0 ≤ T12.heap.size := Nat.le_trans z7 Kq12.1
    have kk14 : Keep h0 T12.heap [] := kk8.trans Kq12 (allS (Or.inr sz1) all0)
    show own_Go p.tables e below RR (T12.setTop (mkF m 18 #[.val (.int xb), .val (.int (0 : Int32)), .unset] [(.ref b1)]))
    obtain ⟨fs, hrt_, hrun, hended, hRE⟩ := X12.leaveW hS12 (by exact (Nat.le_refl _)) (v := some (.ref b1)) (fun h => by rw [Bd.returns] at h; cases h)
    refine own_fin (retOut X12 hx Bd.returns rfl (Or.inr (Or.inr (Or.inr (Or.inr ⟨rfl, rfl, rfl⟩)))) (hb hby own_dmethod_3_code_18) hrt_) (hRR _ ⟨_, hrun, hended, _, _, rfl, ?_, hRE.1, hRE.2.1, hRE.2.2.1, hRE.2.2.2.mono (by decide) (by decide)⟩)
    have bkE := own_Bk_warm (s := s.setVm T12.vm) Bq12 X12.warmed
    show own_QTX Z xb (0 : Int32) 0 cs h0 n0 _ T12.heap T12.vm _
    exact ⟨_, rfl, N12, kk14, sz1, Eq12, Fq12, ⟨_, _, Fvq12, Vq12⟩, bkE⟩
  · show own_Go p.tables e below RR (s₁.setTop (mkF m 0 #[.val (.int xb), .unset, .unset] []))
    refine own_st (fun _ k => XS.iloadN X0.here hx rfl (hb hby own_dmethod_3_code_0) rfl (XS.iconst X0.here hx rfl (hb hby own_dmethod_3_code_1) (XS.iand X0.here hx rfl (hb hby own_dmethod_3_code_2) rfl k))) ?_
    show own_Go p.tables e below RR (s₁.setTop (mkF m 3 #[.val (.int xb), .unset, .unset] [(.int (xb &&& (3 : Int32)))]))
    rw [hgx]
    show own_Go p.tables e below RR (s₁.setTop (mkF m 3 #[.val (.int xb), .unset, .unset] [(.int (1 : Int32))]))
    show own_Go p.tables e below RR (s₁.setTop (mkF m 3 #[.val (.int xb), .unset, .unset] [(.int (1 : Int32))]))
    refine own_st (fun _ k => XS.istoreN X0.here hx rfl (hb hby own_dmethod_3_code_3) rfl (l' := #[.val (.int xb), .val (.int (1 : Int32)), .unset]) rfl (XS.iloadN X0.here hx rfl (hb hby own_dmethod_3_code_4) rfl k)) ?_
    show own_Go p.tables e below RR (s₁.setTop (mkF m 5 #[.val (.int xb), .val (.int (1 : Int32)), .unset] [(.int (1 : Int32))]))
    refine own_st (fun _ k => XS.ifYes X0.here hx rfl (pc0 := 5) (pc' := 19) rfl (hb hby own_dmethod_3_code_5) rfl ((if0 _ _).trans (feq (by decide)).2) (by decide) (by decide) (XS.iloadN X0.here hx rfl (hb hby own_dmethod_3_code_19) rfl (XS.iconst X0.here hx rfl (hb hby own_dmethod_3_code_20) k))) ?_
    show own_Go p.tables e below RR (s₁.setTop (mkF m 21 #[.val (.int xb), .val (.int (1 : Int32)), .unset] [(.int (1 : Int32)), (.int (1 : Int32))]))
    refine own_st (fun _ k => XS.icmpNo X0.here hx rfl (hb hby own_dmethod_3_code_21) rfl (teq (by decide)).2 (XS.iconst X0.here hx rfl (hb hby own_dmethod_3_code_24) k)) ?_
    show own_Go p.tables e below RR (s₁.setTop (mkF m 25 #[.val (.int xb), .val (.int (1 : Int32)), .unset] [(.int (1 : Int32))]))
    obtain ⟨T15, h15, k15, X15, e15, E15, A15, st15⟩ := newP X0 hx hZ (hw _ (List.mem_of_getElem? (i := 10) rfl)) e0 (g := (mkF m 25 #[.val (.int xb), .val (.int (1 : Int32)), .unset] [(.int (1 : Int32))])) rfl (hb hby own_dmethod_3_code_25) rfl (by decide) (cap := 1) (by decide) (by decide) (by decide) (by decide)
    obtain ⟨b15, gb15⟩ : ∃ z, z = h0.size := ⟨_, rfl⟩
    rw [← gb15] at A15 st15
    have ge15 : n0 ≤ b15 := Nat.le_trans Z0 (Nat.le_of_eq gb15.symm)
    have sz15 : h0.size ≤ b15 := Nat.le_trans (Keep.refl h0 []).1 (Nat.le_of_eq gb15.symm)
    refine own_st st15 ?_
    have f16 := (own_Bk_ext hBk E15)
    have z17 : n0 ≤ h15.size := Nat.le_trans Z0 E15.1
    have kk18 : Keep h0 h15 [] := (Keep.refl h0 []).ext E15
    have V15 : Arv Z h15 b15 k15 .char (1 : Int32) [(.int (0 : Int32))] (.int (0 : Int32)) := (Arv.new A15 (by decide)).pad (pad_rep [] (.int (0 : Int32)) 1)
    show own_Go p.tables e below RR (T15.setTop (mkF m 27 #[.val (.int xb), .val (.int (1 : Int32)), .unset] [(.ref b15)]))
    refine own_st (fun _ k => XS.astoreN X15.here hx rfl (hb hby own_dmethod_3_code_27) rfl rfl (l' := #[.val (.int xb), .val (.int (1 : Int32)), .val (.ref b15)]) rfl (XS.aloadN X15.here hx rfl (hb hby own_dmethod_3_code_28) rfl rfl (XS.iconst X15.here hx rfl (hb hby own_dmethod_3_code_29) (XS.iloadN X15.here hx rfl (hb hby own_dmethod_3_code_30) rfl (XS.iconst X15.here hx rfl (hb hby own_dmethod_3_code_31) k))))) ?_
    show own_Go p.tables e below RR (T15.setTop (mkF m 32 #[.val (.int xb), .val (.int (1 : Int32)), .val (.ref b15)] [(.int (0 : Int32)), (.int xb), (.int (0 : Int32)), (.ref b15)]))
    obtain ⟨_, _, ⟨T19, L19, k19, n19⟩, -, X19, ⟨Lc19, hQ19, l19, y19, z19⟩, st19⟩ := Jvm.LawKit.callS X15 hx (y := (⟨"com/example/unstor/unstor/ScopeEqualsPinLaw", "ch", "(II)C"⟩ : MethodName)) hown (mvT hZ (hw _ (List.mem_of_getElem? (i := 29) rfl))) (mvT hZ (hw _ (List.mem_of_getElem? (i := 30) rfl))) (mvT hZ (hw _ (List.mem_of_getElem? (i := 5) rfl))) (mvT hZ (hw _ (List.mem_of_getElem? (i := 31) rfl))) (by decide) (backOf (W := 2) (own_rmCH0 l Z a0 hw [] xb h15 n0 z17 ) hZ (hw _ (List.mem_of_getElem? (i := 31) rfl)) (hw _ (List.mem_of_getElem? (i := 5) rfl)) (by decide) (by decide)) (g := (mkF m 32 #[.val (.int xb), .val (.int (1 : Int32)), .val (.ref b15)] [(.int (0 : Int32)), (.int xb), (.int (0 : Int32)), (.ref b15)])) rfl (by rw [hml]; rfl) (argsL := [(.int xb), (.int (0 : Int32))]) (rest := [(.int (0 : Int32)), (.ref b15)]) (lenOf own_pd__II_C rfl) rfl (by show 2 * 0 + _ ≤ _; exact Nat.le_of_eq rfl) (hb hby own_dmethod_3_code_32) (fun _ _ => ⟨rfl, e15, (by decide : 1 + 0 ≤ _), (by decide : 1 + 0 ≤ _)⟩)
    dsimp only [Pt.U, Pt.locs, Pt.cells, Pt.slots] at X19 l19 y19 z19 st19 hQ19
    subst l19 y19 z19
    obtain ⟨rfl, Nq19, eq19⟩ := hQ19
    have N19 := Fr.app N0 Nq19
    refine own_st st19 ?_
    show own_Go p.tables e below RR (T19.setTop (mkF m 35 #[.val (.int xb), .val (.int (1 : Int32)), .val (.ref b15)] [(.int (own_u (((xb.toUInt32 >>> ((2 : Int32) &&& 31).toUInt32).toInt32) &&& (255 : Int32)))), (.int (0 : Int32)), (.ref b15)]))
    obtain ⟨c20, A20, q20, s20, m20, H20, G20⟩ := id V15
    obtain ⟨T21, h21, X21, e21, W21, st21⟩ := stC X19 hx hZ eq19 A20 (j := (0 : Int32)) (inb_of s20 ⟨by decide, by decide⟩) (g := (mkF m 35 #[.val (.int xb), .val (.int (1 : Int32)), .val (.ref b15)] [(.int (own_u (((xb.toUInt32 >>> ((2 : Int32) &&& 31).toUInt32).toInt32) &&& (255 : Int32)))), (.int (0 : Int32)), (.ref b15)])) rfl rfl (hb hby own_dmethod_3_code_35)
    have V21 := Arv.set A20 q20 s20 m20 H20 G20 (fits_nar_char _) W21 0 rfl (Nat.le_of_ble_eq_true rfl)
    have V21 : Arv Z h21 b15 k15 .char (1 : Int32) [(.int (nar .char (own_u (((xb.toUInt32 >>> ((2 : Int32) &&& 31).toUInt32).toInt32) &&& (255 : Int32)))))] (.int (0 : Int32)) := V21
    have N21 := Fr.snoc X21 N19 ge15
    refine own_st st21 ?_
    have f22 := (own_Bk_A f16 (Keep.of_wr W21) V15 (by decide) (hw _ (List.mem_of_getElem? (i := 8) rfl)))
    have z23 : n0 ≤ h21.size := Nat.le_trans z17 (Keep.of_wr W21).1
    have kk24 : Keep h0 h21 [] := kk18.wr W21 (Or.inr sz15)
    show own_Go p.tables e below RR (T21.setTop (mkF m 36 #[.val (.int xb), .val (.int (1 : Int32)), .val (.ref b15)] []))
    obtain ⟨T25, h25, X25, e25, E25, A25, D25, -, st25⟩ := newO X21 hx hZ hown (hw _ (List.mem_of_getElem? (i := 7) rfl)) (hw _ (List.mem_of_getElem? (i := 8) rfl)) (hw _ (List.mem_of_getElem? (i := 9) rfl)) e21 (g := (mkF m 36 #[.val (.int xb), .val (.int (1 : Int32)), .val (.ref b15)] [])) rfl (hb hby own_dmethod_3_code_36) (by decide) (by decide)
    obtain ⟨b25, gb25⟩ : ∃ z, z = h21.size := ⟨_, rfl⟩
    rw [← gb25] at A25 D25 st25
    have ge25 : n0 ≤ b25 := Nat.le_trans z23 (Nat.le_of_eq gb25.symm)
    have sz25 : h0.size ≤ b25 := Nat.le_trans kk24.1 (Nat.le_of_eq gb25.symm)
    refine own_st st25 ?_
    have f26 := (own_Bk_ext f22 E25)
    have z27 : n0 ≤ h25.size := Nat.le_trans z23 E25.1
    have kk28 : Keep h0 h25 [] := kk24.ext E25
    have F25_23 : Fld Z h25 b25 "java/lang/String" "value" "[B" .null := D25 (Or.inr (hw _ (List.mem_of_getElem? (i := 23) rfl))) (ty := (.array .byte)) (by decide)
    have F25_24 : Fld Z h25 b25 "java/lang/String" "coder" "B" (.int (0 : Int32)) := D25 (Or.inr (hw _ (List.mem_of_getElem? (i := 24) rfl))) (ty := .byte) (by decide)
    show own_Go p.tables e below RR (T25.setTop (mkF m 39 #[.val (.int xb), .val (.int (1 : Int32)), .val (.ref b15)] [(.ref b25)]))
    refine own_st (fun _ k => XS.dup X25.here hx rfl (hb hby own_dmethod_3_code_39) rfl rfl (XS.aloadN X25.here hx rfl (hb hby own_dmethod_3_code_40) rfl rfl k)) ?_
    show own_Go p.tables e below RR (T25.setTop (mkF m 41 #[.val (.int xb), .val (.int (1 : Int32)), .val (.ref b15)] [(.ref b15), (.ref b25), (.ref b25)]))
    have f29 := (V21.ext E25)
    have f30 := (((S0.ext E15).wr W21).ext E25)
    obtain ⟨_, _, ⟨T31, L31, k31, n31⟩, -, X31, ⟨Lc31, hQ31, l31, y31, z31⟩, st31⟩ := X25.specialBack hx (y := (⟨"java/lang/String", "<init>", "([C)V"⟩ : MethodName)) rfl hown (mvT hZ (hw _ (List.mem_of_getElem? (i := 11) rfl))) (mvT hZ (hw _ (List.mem_of_getElem? (i := 12) rfl))) (mvT hZ (hw _ (List.mem_of_getElem? (i := 13) rfl))) (by decide) (backOf (W := 1) (own_rmST1 l Z a0 hw [] b25 b15 k15 (nar .char (own_u (((xb.toUInt32 >>> ((2 : Int32) &&& 31).toUInt32).toInt32) &&& (255 : Int32)))) cs h25 n0 z27 ge25 A25 F25_23 F25_24 f29 (own_un (own_255 _)) f30 hcs) hZ (hw _ (List.mem_of_getElem? (i := 13) rfl)) (hw _ (List.mem_of_getElem? (i := 9) rfl)) (by decide) (by decide)) (g := (mkF m 41 #[.val (.int xb), .val (.int (1 : Int32)), .val (.ref b15)] [(.ref b15), (.ref b25), (.ref b25)])) rfl (by rw [hml]; rfl) (Steps.refl _) (a := b25) (argsL := [(.ref b15)]) (rest := [(.ref b25)]) (lenOf own_pd___C_V rfl) rfl (by show 2 * 0 + _ ≤ _; exact Nat.le_of_eq rfl) (hb hby own_dmethod_3_code_41) (fun _ _ => ⟨rfl, e25, (by decide : 2 + 1 ≤ _), (by decide : 5 + 1 ≤ _)⟩)
    dsimp only [Pt.U, Pt.locs, Pt.cells, Pt.slots] at X31 l31 y31 z31 st31 hQ31
    subst l31 y31 z31
    obtain ⟨rfl, Nq31, Kq31, Eq31, Fq31, bq31, kbq31, Fvq31, Vq31⟩ := hQ31
    have N31 := Fr.app N21 Nq31
    refine own_st (fun _ k => st31.trans k) ?_
    have f32 := (own_Bk_S f26 Kq31 A25 F25_23 (hw _ (List.mem_of_getElem? (i := 8) rfl)))
    have z33 : n0 ≤ T31.heap.size := Nat.le_trans z27 Kq31.1
    have kk34 : Keep h0 T31.heap [] := kk28.trans Kq31 (allS (Or.inr sz25) all0)
    show own_Go p.tables e below RR (T31.setTop (mkF m 44 #[.val (.int xb), .val (.int (1 : Int32)), .val (.ref b15)] [(.ref b25)]))
    obtain ⟨fs, hrt_, hrun, hended, hW, hsame⟩ := X31.leave (v := some (.ref b25)) (fun h => by rw [Bd.returns] at h; cases h)
    refine own_fin (retOut X31 hx Bd.returns rfl (Or.inr (Or.inr (Or.inr (Or.inr ⟨rfl, rfl, rfl⟩)))) (hb hby own_dmethod_3_code_44) hrt_) (hRR _ ⟨_, hrun, hended, _, _, rfl, ?_, ReturnedEndW.of_narrow ⟨_, rfl⟩ hW (hsame.mono (by decide) (by decide))⟩)
    have bkE := own_Bk_warm (s := s.setVm s.vm) f32 X31.warmed
    show own_QTX Z xb (1 : Int32) 1 cs h0 n0 _ T31.heap T31.vm _
    exact ⟨_, rfl, N31, kk34, sz25, Eq31, Fq31, ⟨_, _, Fvq31, Vq31⟩, bkE⟩
  · show own_Go p.tables e below RR (s₁.setTop (mkF m 0 #[.val (.int xb), .unset, .unset] []))
    refine own_st (fun _ k => XS.iloadN X0.here hx rfl (hb hby own_dmethod_3_code_0) rfl (XS.iconst X0.here hx rfl (hb hby own_dmethod_3_code_1) (XS.iand X0.here hx rfl (hb hby own_dmethod_3_code_2) rfl k))) ?_
    show own_Go p.tables e below RR (s₁.setTop (mkF m 3 #[.val (.int xb), .unset, .unset] [(.int (xb &&& (3 : Int32)))]))
    rw [hgx]
    show own_Go p.tables e below RR (s₁.setTop (mkF m 3 #[.val (.int xb), .unset, .unset] [(.int (2 : Int32))]))
    show own_Go p.tables e below RR (s₁.setTop (mkF m 3 #[.val (.int xb), .unset, .unset] [(.int (2 : Int32))]))
    refine own_st (fun _ k => XS.istoreN X0.here hx rfl (hb hby own_dmethod_3_code_3) rfl (l' := #[.val (.int xb), .val (.int (2 : Int32)), .unset]) rfl (XS.iloadN X0.here hx rfl (hb hby own_dmethod_3_code_4) rfl k)) ?_
    show own_Go p.tables e below RR (s₁.setTop (mkF m 5 #[.val (.int xb), .val (.int (2 : Int32)), .unset] [(.int (2 : Int32))]))
    refine own_st (fun _ k => XS.ifYes X0.here hx rfl (pc0 := 5) (pc' := 19) rfl (hb hby own_dmethod_3_code_5) rfl ((if0 _ _).trans (feq (by decide)).2) (by decide) (by decide) (XS.iloadN X0.here hx rfl (hb hby own_dmethod_3_code_19) rfl (XS.iconst X0.here hx rfl (hb hby own_dmethod_3_code_20) k))) ?_
    show own_Go p.tables e below RR (s₁.setTop (mkF m 21 #[.val (.int xb), .val (.int (2 : Int32)), .unset] [(.int (1 : Int32)), (.int (2 : Int32))]))
    refine own_st (fun _ k => XS.icmpYes X0.here hx rfl (pc0 := 21) (pc' := 45) rfl (hb hby own_dmethod_3_code_21) rfl (feq (by decide)).2 (by decide) (by decide) (XS.iloadN X0.here hx rfl (hb hby own_dmethod_3_code_45) rfl (XS.iconst X0.here hx rfl (hb hby own_dmethod_3_code_46) k))) ?_
    show own_Go p.tables e below RR (s₁.setTop (mkF m 47 #[.val (.int xb), .val (.int (2 : Int32)), .unset] [(.int (2 : Int32)), (.int (2 : Int32))]))
    refine own_st (fun _ k => XS.icmpNo X0.here hx rfl (hb hby own_dmethod_3_code_47) rfl (teq (by decide)).2 (XS.iconst X0.here hx rfl (hb hby own_dmethod_3_code_50) k)) ?_
    show own_Go p.tables e below RR (s₁.setTop (mkF m 51 #[.val (.int xb), .val (.int (2 : Int32)), .unset] [(.int (2 : Int32))]))
    obtain ⟨T35, h35, k35, X35, e35, E35, A35, st35⟩ := newP X0 hx hZ (hw _ (List.mem_of_getElem? (i := 10) rfl)) e0 (g := (mkF m 51 #[.val (.int xb), .val (.int (2 : Int32)), .unset] [(.int (2 : Int32))])) rfl (hb hby own_dmethod_3_code_51) rfl (by decide) (cap := 2) (by decide) (by decide) (by decide) (by decide)
    obtain ⟨b35, gb35⟩ : ∃ z, z = h0.size := ⟨_, rfl⟩
    rw [← gb35] at A35 st35
    have ge35 : n0 ≤ b35 := Nat.le_trans Z0 (Nat.le_of_eq gb35.symm)
    have sz35 : h0.size ≤ b35 := Nat.le_trans (Keep.refl h0 []).1 (Nat.le_of_eq gb35.symm)
    refine own_st st35 ?_
    have f36 := (own_Bk_ext hBk E35)
    have z37 : n0 ≤ h35.size := Nat.le_trans Z0 E35.1
    have kk38 : Keep h0 h35 [] := (Keep.refl h0 []).ext E35
    have V35 : Arv Z h35 b35 k35 .char (2 : Int32) [(.int (0 : Int32)), (.int (0 : Int32))] (.int (0 : Int32)) := (Arv.new A35 (by decide)).pad (pad_rep [] (.int (0 : Int32)) 2)
    show own_Go p.tables e below RR (T35.setTop (mkF m 53 #[.val (.int xb), .val (.int (2 : Int32)), .unset] [(.ref b35)]))
    refine own_st (fun _ k => XS.astoreN X35.here hx rfl (hb hby own_dmethod_3_code_53) rfl rfl (l' := #[.val (.int xb), .val (.int (2 : Int32)), .val (.ref b35)]) rfl (XS.aloadN X35.here hx rfl (hb hby own_dmethod_3_code_54) rfl rfl (XS.iconst X35.here hx rfl (hb hby own_dmethod_3_code_55) (XS.iloadN X35.here hx rfl (hb hby own_dmethod_3_code_56) rfl (XS.iconst X35.here hx rfl (hb hby own_dmethod_3_code_57) k))))) ?_
    show own_Go p.tables e below RR (T35.setTop (mkF m 58 #[.val (.int xb), .val (.int (2 : Int32)), .val (.ref b35)] [(.int (0 : Int32)), (.int xb), (.int (0 : Int32)), (.ref b35)]))
    obtain ⟨_, _, ⟨T39, L39, k39, n39⟩, -, X39, ⟨Lc39, hQ39, l39, y39, z39⟩, st39⟩ := Jvm.LawKit.callS X35 hx (y := (⟨"com/example/unstor/unstor/ScopeEqualsPinLaw", "ch", "(II)C"⟩ : MethodName)) hown (mvT hZ (hw _ (List.mem_of_getElem? (i := 29) rfl))) (mvT hZ (hw _ (List.mem_of_getElem? (i := 30) rfl))) (mvT hZ (hw _ (List.mem_of_getElem? (i := 5) rfl))) (mvT hZ (hw _ (List.mem_of_getElem? (i := 31) rfl))) (by decide) (backOf (W := 2) (own_rmCH0 l Z a0 hw [] xb h35 n0 z37 ) hZ (hw _ (List.mem_of_getElem? (i := 31) rfl)) (hw _ (List.mem_of_getElem? (i := 5) rfl)) (by decide) (by decide)) (g := (mkF m 58 #[.val (.int xb), .val (.int (2 : Int32)), .val (.ref b35)] [(.int (0 : Int32)), (.int xb), (.int (0 : Int32)), (.ref b35)])) rfl (by rw [hml]; rfl) (argsL := [(.int xb), (.int (0 : Int32))]) (rest := [(.int (0 : Int32)), (.ref b35)]) (lenOf own_pd__II_C rfl) rfl (by show 2 * 0 + _ ≤ _; exact Nat.le_of_eq rfl) (hb hby own_dmethod_3_code_58) (fun _ _ => ⟨rfl, e35, (by decide : 1 + 0 ≤ _), (by decide : 2 + 0 ≤ _)⟩)
    dsimp only [Pt.U, Pt.locs, Pt.cells, Pt.slots] at X39 l39 y39 z39 st39 hQ39
    subst l39 y39 z39
    obtain ⟨rfl, Nq39, eq39⟩ := hQ39
    have N39 := Fr.app N0 Nq39
    refine own_st st39 ?_
    show own_Go p.tables e below RR (T39.setTop (mkF m 61 #[.val (.int xb), .val (.int (2 : Int32)), .val (.ref b35)] [(.int (own_u (((xb.toUInt32 >>> ((2 : Int32) &&& 31).toUInt32).toInt32) &&& (255 : Int32)))), (.int (0 : Int32)), (.ref b35)]))
    obtain ⟨c40, A40, q40, s40, m40, H40, G40⟩ := id V35
    obtain ⟨T41, h41, X41, e41, W41, st41⟩ := stC X39 hx hZ eq39 A40 (j := (0 : Int32)) (inb_of s40 ⟨by decide, by decide⟩) (g := (mkF m 61 #[.val (.int xb), .val (.int (2 : Int32)), .val (.ref b35)] [(.int (own_u (((xb.toUInt32 >>> ((2 : Int32) &&& 31).toUInt32).toInt32) &&& (255 : Int32)))), (.int (0 : Int32)), (.ref b35)])) rfl rfl (hb hby own_dmethod_3_code_61)
    have V41 := Arv.set A40 q40 s40 m40 H40 G40 (fits_nar_char _) W41 0 rfl (Nat.le_of_ble_eq_true rfl)
    have V41 : Arv Z h41 b35 k35 .char (2 : Int32) [(.int (nar .char (own_u (((xb.toUInt32 >>> ((2 : Int32) &&& 31).toUInt32).toInt32) &&& (255 : Int32))))), (.int (0 : Int32))] (.int (0 : Int32)) := V41
    have N41 := Fr.snoc X41 N39 ge35
    refine own_st st41 ?_
    have f42 := (own_Bk_A f36 (Keep.of_wr W41) V35 (by decide) (hw _ (List.mem_of_getElem? (i := 8) rfl)))
    have z43 : n0 ≤ h41.size := Nat.le_trans z37 (Keep.of_wr W41).1
    have kk44 : Keep h0 h41 [] := kk38.wr W41 (Or.inr sz35)
    show own_Go p.tables e below RR (T41.setTop (mkF m 62 #[.val (.int xb), .val (.int (2 : Int32)), .val (.ref b35)] []))
    refine own_st (fun _ k => XS.aloadN X41.here hx rfl (hb hby own_dmethod_3_code_62) rfl rfl (XS.iconst X41.here hx rfl (hb hby own_dmethod_3_code_63) (XS.iloadN X41.here hx rfl (hb hby own_dmethod_3_code_64) rfl (XS.iconst X41.here hx rfl (hb hby own_dmethod_3_code_65) k)))) ?_
    show own_Go p.tables e below RR (T41.setTop (mkF m 66 #[.val (.int xb), .val (.int (2 : Int32)), .val (.ref b35)] [(.int (1 : Int32)), (.int xb), (.int (1 : Int32)), (.ref b35)]))
    obtain ⟨_, _, ⟨T45, L45, k45, n45⟩, -, X45, ⟨Lc45, hQ45, l45, y45, z45⟩, st45⟩ := Jvm.LawKit.callS X41 hx (y := (⟨"com/example/unstor/unstor/ScopeEqualsPinLaw", "ch", "(II)C"⟩ : MethodName)) hown (mvT hZ (hw _ (List.mem_of_getElem? (i := 29) rfl))) (mvT hZ (hw _ (List.mem_of_getElem? (i := 30) rfl))) (mvT hZ (hw _ (List.mem_of_getElem? (i := 5) rfl))) (mvT hZ (hw _ (List.mem_of_getElem? (i := 31) rfl))) (by decide) (backOf (W := 2) (own_rmCH1 l Z a0 hw [] xb h41 n0 z43 ) hZ (hw _ (List.mem_of_getElem? (i := 31) rfl)) (hw _ (List.mem_of_getElem? (i := 5) rfl)) (by decide) (by decide)) (g := (mkF m 66 #[.val (.int xb), .val (.int (2 : Int32)), .val (.ref b35)] [(.int (1 : Int32)), (.int xb), (.int (1 : Int32)), (.ref b35)])) rfl (by rw [hml]; rfl) (argsL := [(.int xb), (.int (1 : Int32))]) (rest := [(.int (1 : Int32)), (.ref b35)]) (lenOf own_pd__II_C rfl) rfl (by show 2 * 0 + _ ≤ _; exact Nat.le_of_eq rfl) (hb hby own_dmethod_3_code_66) (fun _ _ => ⟨rfl, e41, (by decide : 1 + 0 ≤ _), (by decide : 2 + 0 ≤ _)⟩)
    dsimp only [Pt.U, Pt.locs, Pt.cells, Pt.slots] at X45 l45 y45 z45 st45 hQ45
    subst l45 y45 z45
    obtain ⟨rfl, Nq45, eq45⟩ := hQ45
    have N45 := Fr.app N41 Nq45
    refine own_st st45 ?_
    show own_Go p.tables e below RR (T45.setTop (mkF m 69 #[.val (.int xb), .val (.int (2 : Int32)), .val (.ref b35)] [(.int (own_u (((xb.toUInt32 >>> ((10 : Int32) &&& 31).toUInt32).toInt32) &&& (255 : Int32)))), (.int (1 : Int32)), (.ref b35)]))
    obtain ⟨c46, A46, q46, s46, m46, H46, G46⟩ := id V41
    obtain ⟨T47, h47, X47, e47, W47, st47⟩ := stC X45 hx hZ eq45 A46 (j := (1 : Int32)) (inb_of s46 ⟨by decide, by decide⟩) (g := (mkF m 69 #[.val (.int xb), .val (.int (2 : Int32)), .val (.ref b35)] [(.int (own_u (((xb.toUInt32 >>> ((10 : Int32) &&& 31).toUInt32).toInt32) &&& (255 : Int32)))), (.int (1 : Int32)), (.ref b35)])) rfl rfl (hb hby own_dmethod_3_code_69)
    have V47 := Arv.set A46 q46 s46 m46 H46 G46 (fits_nar_char _) W47 1 rfl (Nat.le_of_ble_eq_true rfl)
    have V47 : Arv Z h47 b35 k35 .char (2 : Int32) [(.int (nar .char (own_u (((xb.toUInt32 >>> ((2 : Int32) &&& 31).toUInt32).toInt32) &&& (255 : Int32))))), (.int (nar .char (own_u (((xb.toUInt32 >>> ((10 : Int32) &&& 31).toUInt32).toInt32) &&& (255 : Int32)))))] (.int (0 : Int32)) := V47
    have N47 := Fr.snoc X47 N45 ge35
    refine own_st st47 ?_
    have f48 := (own_Bk_A f42 (Keep.of_wr W47) V41 (by decide) (hw _ (List.mem_of_getElem? (i := 8) rfl)))
    have z49 : n0 ≤ h47.size := Nat.le_trans z43 (Keep.of_wr W47).1
    have kk50 : Keep h0 h47 [] := kk44.wr W47 (Or.inr sz35)
    show own_Go p.tables e below RR (T47.setTop (mkF m 70 #[.val (.int xb), .val (.int (2 : Int32)), .val (.ref b35)] []))
    obtain ⟨T51, h51, X51, e51, E51, A51, D51, -, st51⟩ := newO X47 hx hZ hown (hw _ (List.mem_of_getElem? (i := 7) rfl)) (hw _ (List.mem_of_getElem? (i := 8) rfl)) (hw _ (List.mem_of_getElem? (i := 9) rfl)) e47 (g := (mkF m 70 #[.val (.int xb), .val (.int (2 : Int32)), .val (.ref b35)] [])) rfl (hb hby own_dmethod_3_code_70) (by decide) (by decide)
    obtain ⟨b51, gb51⟩ : ∃ z, z = h47.size := ⟨_, rfl⟩
    rw [← gb51] at A51 D51 st51
    have ge51 : n0 ≤ b51 := Nat.le_trans z49 (Nat.le_of_eq gb51.symm)
    have sz51 : h0.size ≤ b51 := Nat.le_trans kk50.1 (Nat.le_of_eq gb51.symm)
    refine own_st st51 ?_
    have f52 := (own_Bk_ext f48 E51)
    have z53 : n0 ≤ h51.size := Nat.le_trans z49 E51.1
    have kk54 : Keep h0 h51 [] := kk50.ext E51
    have F51_23 : Fld Z h51 b51 "java/lang/String" "value" "[B" .null := D51 (Or.inr (hw _ (List.mem_of_getElem? (i := 23) rfl))) (ty := (.array .byte)) (by decide)
    have F51_24 : Fld Z h51 b51 "java/lang/String" "coder" "B" (.int (0 : Int32)) := D51 (Or.inr (hw _ (List.mem_of_getElem? (i := 24) rfl))) (ty := .byte) (by decide)
    show own_Go p.tables e below RR (T51.setTop (mkF m 73 #[.val (.int xb), .val (.int (2 : Int32)), .val (.ref b35)] [(.ref b51)]))
    refine own_st (fun _ k => XS.dup X51.here hx rfl (hb hby own_dmethod_3_code_73) rfl rfl (XS.aloadN X51.here hx rfl (hb hby own_dmethod_3_code_74) rfl rfl k)) ?_
    show own_Go p.tables e below RR (T51.setTop (mkF m 75 #[.val (.int xb), .val (.int (2 : Int32)), .val (.ref b35)] [(.ref b35), (.ref b51), (.ref b51)]))
    have f55 := (V47.ext E51)
    have f56 := ((((S0.ext E35).wr W41).wr W47).ext E51)
    obtain ⟨_, _, ⟨T57, L57, k57, n57⟩, -, X57, ⟨Lc57, hQ57, l57, y57, z57⟩, st57⟩ := X51.specialBack hx (y := (⟨"java/lang/String", "<init>", "([C)V"⟩ : MethodName)) rfl hown (mvT hZ (hw _ (List.mem_of_getElem? (i := 11) rfl))) (mvT hZ (hw _ (List.mem_of_getElem? (i := 12) rfl))) (mvT hZ (hw _ (List.mem_of_getElem? (i := 13) rfl))) (by decide) (backOf (W := 1) (own_rmST2 l Z a0 hw [] b51 b35 k35 (nar .char (own_u (((xb.toUInt32 >>> ((2 : Int32) &&& 31).toUInt32).toInt32) &&& (255 : Int32)))) (nar .char (own_u (((xb.toUInt32 >>> ((10 : Int32) &&& 31).toUInt32).toInt32) &&& (255 : Int32)))) cs h51 n0 z53 ge51 A51 F51_23 F51_24 f55 (own_un (own_255 _)) (own_un (own_255 _)) f56 hcs) hZ (hw _ (List.mem_of_getElem? (i := 13) rfl)) (hw _ (List.mem_of_getElem? (i := 9) rfl)) (by decide) (by decide)) (g := (mkF m 75 #[.val (.int xb), .val (.int (2 : Int32)), .val (.ref b35)] [(.ref b35), (.ref b51), (.ref b51)])) rfl (by rw [hml]; rfl) (Steps.refl _) (a := b51) (argsL := [(.ref b35)]) (rest := [(.ref b51)]) (lenOf own_pd___C_V rfl) rfl (by show 2 * 0 + _ ≤ _; exact Nat.le_of_eq rfl) (hb hby own_dmethod_3_code_75) (fun _ _ => ⟨rfl, e51, (by decide : 2 + 1 ≤ _), (by decide : 6 + 2 ≤ _)⟩)
    dsimp only [Pt.U, Pt.locs, Pt.cells, Pt.slots] at X57 l57 y57 z57 st57 hQ57
    subst l57 y57 z57
    obtain ⟨rfl, Nq57, Kq57, Eq57, Fq57, bq57, kbq57, Fvq57, Vq57⟩ := hQ57
    have N57 := Fr.app N47 Nq57
    refine own_st (fun _ k => st57.trans k) ?_
    have f58 := (own_Bk_S f52 Kq57 A51 F51_23 (hw _ (List.mem_of_getElem? (i := 8) rfl)))
    have z59 : n0 ≤ T57.heap.size := Nat.le_trans z53 Kq57.1
    have kk60 : Keep h0 T57.heap [] := kk54.trans Kq57 (allS (Or.inr sz51) all0)
    show own_Go p.tables e below RR (T57.setTop (mkF m 78 #[.val (.int xb), .val (.int (2 : Int32)), .val (.ref b35)] [(.ref b51)]))
    obtain ⟨fs, hrt_, hrun, hended, hW, hsame⟩ := X57.leave (v := some (.ref b51)) (fun h => by rw [Bd.returns] at h; cases h)
    refine own_fin (retOut X57 hx Bd.returns rfl (Or.inr (Or.inr (Or.inr (Or.inr ⟨rfl, rfl, rfl⟩)))) (hb hby own_dmethod_3_code_78) hrt_) (hRR _ ⟨_, hrun, hended, _, _, rfl, ?_, ReturnedEndW.of_narrow ⟨_, rfl⟩ hW (hsame.mono (by decide) (by decide))⟩)
    have bkE := own_Bk_warm (s := s.setVm s.vm) f58 X57.warmed
    show own_QTX Z xb (2 : Int32) 2 cs h0 n0 _ T57.heap T57.vm _
    exact ⟨_, rfl, N57, kk60, sz51, Eq57, Fq57, ⟨_, _, Fvq57, Vq57⟩, bkE⟩
  · show own_Go p.tables e below RR (s₁.setTop (mkF m 0 #[.val (.int xb), .unset, .unset] []))
    refine own_st (fun _ k => XS.iloadN X0.here hx rfl (hb hby own_dmethod_3_code_0) rfl (XS.iconst X0.here hx rfl (hb hby own_dmethod_3_code_1) (XS.iand X0.here hx rfl (hb hby own_dmethod_3_code_2) rfl k))) ?_
    show own_Go p.tables e below RR (s₁.setTop (mkF m 3 #[.val (.int xb), .unset, .unset] [(.int (xb &&& (3 : Int32)))]))
    rw [hgx]
    show own_Go p.tables e below RR (s₁.setTop (mkF m 3 #[.val (.int xb), .unset, .unset] [(.int (3 : Int32))]))
    show own_Go p.tables e below RR (s₁.setTop (mkF m 3 #[.val (.int xb), .unset, .unset] [(.int (3 : Int32))]))
    refine own_st (fun _ k => XS.istoreN X0.here hx rfl (hb hby own_dmethod_3_code_3) rfl (l' := #[.val (.int xb), .val (.int (3 : Int32)), .unset]) rfl (XS.iloadN X0.here hx rfl (hb hby own_dmethod_3_code_4) rfl k)) ?_
    show own_Go p.tables e below RR (s₁.setTop (mkF m 5 #[.val (.int xb), .val (.int (3 : Int32)), .unset] [(.int (3 : Int32))]))
    refine own_st (fun _ k => XS.ifYes X0.here hx rfl (pc0 := 5) (pc' := 19) rfl (hb hby own_dmethod_3_code_5) rfl ((if0 _ _).trans (feq (by decide)).2) (by decide) (by decide) (XS.iloadN X0.here hx rfl (hb hby own_dmethod_3_code_19) rfl (XS.iconst X0.here hx rfl (hb hby own_dmethod_3_code_20) k))) ?_
    show own_Go p.tables e below RR (s₁.setTop (mkF m 21 #[.val (.int xb), .val (.int (3 : Int32)), .unset] [(.int (1 : Int32)), (.int (3 : Int32))]))
    refine own_st (fun _ k => XS.icmpYes X0.here hx rfl (pc0 := 21) (pc' := 45) rfl (hb hby own_dmethod_3_code_21) rfl (feq (by decide)).2 (by decide) (by decide) (XS.iloadN X0.here hx rfl (hb hby own_dmethod_3_code_45) rfl (XS.iconst X0.here hx rfl (hb hby own_dmethod_3_code_46) k))) ?_
    show own_Go p.tables e below RR (s₁.setTop (mkF m 47 #[.val (.int xb), .val (.int (3 : Int32)), .unset] [(.int (2 : Int32)), (.int (3 : Int32))]))
    refine own_st (fun _ k => XS.icmpYes X0.here hx rfl (pc0 := 47) (pc' := 79) rfl (hb hby own_dmethod_3_code_47) rfl (feq (by decide)).2 (by decide) (by decide) (XS.iconst X0.here hx rfl (hb hby own_dmethod_3_code_79) k)) ?_
    show own_Go p.tables e below RR (s₁.setTop (mkF m 80 #[.val (.int xb), .val (.int (3 : Int32)), .unset] [(.int (3 : Int32))]))
    obtain ⟨T61, h61, k61, X61, e61, E61, A61, st61⟩ := newP X0 hx hZ (hw _ (List.mem_of_getElem? (i := 10) rfl)) e0 (g := (mkF m 80 #[.val (.int xb), .val (.int (3 : Int32)), .unset] [(.int (3 : Int32))])) rfl (hb hby own_dmethod_3_code_80) rfl (by decide) (cap := 3) (by decide) (by decide) (by decide) (by decide)
    obtain ⟨b61, gb61⟩ : ∃ z, z = h0.size := ⟨_, rfl⟩
    rw [← gb61] at A61 st61
    have ge61 : n0 ≤ b61 := Nat.le_trans Z0 (Nat.le_of_eq gb61.symm)
    have sz61 : h0.size ≤ b61 := Nat.le_trans (Keep.refl h0 []).1 (Nat.le_of_eq gb61.symm)
    refine own_st st61 ?_
    have f62 := (own_Bk_ext hBk E61)
    have z63 : n0 ≤ h61.size := Nat.le_trans Z0 E61.1
    have kk64 : Keep h0 h61 [] := (Keep.refl h0 []).ext E61
    have V61 : Arv Z h61 b61 k61 .char (3 : Int32) [(.int (0 : Int32)), (.int (0 : Int32)), (.int (0 : Int32))] (.int (0 : Int32)) := (Arv.new A61 (by decide)).pad (pad_rep [] (.int (0 : Int32)) 3)
    show own_Go p.tables e below RR (T61.setTop (mkF m 82 #[.val (.int xb), .val (.int (3 : Int32)), .unset] [(.ref b61)]))
    refine own_st (fun _ k => XS.astoreN X61.here hx rfl (hb hby own_dmethod_3_code_82) rfl rfl (l' := #[.val (.int xb), .val (.int (3 : Int32)), .val (.ref b61)]) rfl (XS.aloadN X61.here hx rfl (hb hby own_dmethod_3_code_83) rfl rfl (XS.iconst X61.here hx rfl (hb hby own_dmethod_3_code_84) (XS.iloadN X61.here hx rfl (hb hby own_dmethod_3_code_85) rfl (XS.iconst X61.here hx rfl (hb hby own_dmethod_3_code_86) k))))) ?_
    show own_Go p.tables e below RR (T61.setTop (mkF m 87 #[.val (.int xb), .val (.int (3 : Int32)), .val (.ref b61)] [(.int (0 : Int32)), (.int xb), (.int (0 : Int32)), (.ref b61)]))
    obtain ⟨_, _, ⟨T65, L65, k65, n65⟩, -, X65, ⟨Lc65, hQ65, l65, y65, z65⟩, st65⟩ := Jvm.LawKit.callS X61 hx (y := (⟨"com/example/unstor/unstor/ScopeEqualsPinLaw", "ch", "(II)C"⟩ : MethodName)) hown (mvT hZ (hw _ (List.mem_of_getElem? (i := 29) rfl))) (mvT hZ (hw _ (List.mem_of_getElem? (i := 30) rfl))) (mvT hZ (hw _ (List.mem_of_getElem? (i := 5) rfl))) (mvT hZ (hw _ (List.mem_of_getElem? (i := 31) rfl))) (by decide) (backOf (W := 2) (own_rmCH0 l Z a0 hw [] xb h61 n0 z63 ) hZ (hw _ (List.mem_of_getElem? (i := 31) rfl)) (hw _ (List.mem_of_getElem? (i := 5) rfl)) (by decide) (by decide)) (g := (mkF m 87 #[.val (.int xb), .val (.int (3 : Int32)), .val (.ref b61)] [(.int (0 : Int32)), (.int xb), (.int (0 : Int32)), (.ref b61)])) rfl (by rw [hml]; rfl) (argsL := [(.int xb), (.int (0 : Int32))]) (rest := [(.int (0 : Int32)), (.ref b61)]) (lenOf own_pd__II_C rfl) rfl (by show 2 * 0 + _ ≤ _; exact Nat.le_of_eq rfl) (hb hby own_dmethod_3_code_87) (fun _ _ => ⟨rfl, e61, (by decide : 1 + 0 ≤ _), (by decide : 3 + 0 ≤ _)⟩)
    dsimp only [Pt.U, Pt.locs, Pt.cells, Pt.slots] at X65 l65 y65 z65 st65 hQ65
    subst l65 y65 z65
    obtain ⟨rfl, Nq65, eq65⟩ := hQ65
    have N65 := Fr.app N0 Nq65
    refine own_st st65 ?_
    show own_Go p.tables e below RR (T65.setTop (mkF m 90 #[.val (.int xb), .val (.int (3 : Int32)), .val (.ref b61)] [(.int (own_u (((xb.toUInt32 >>> ((2 : Int32) &&& 31).toUInt32).toInt32) &&& (255 : Int32)))), (.int (0 : Int32)), (.ref b61)]))
    obtain ⟨c66, A66, q66, s66, m66, H66, G66⟩ := id V61
    obtain ⟨T67, h67, X67, e67, W67, st67⟩ := stC X65 hx hZ eq65 A66 (j := (0 : Int32)) (inb_of s66 ⟨by decide, by decide⟩) (g := (mkF m 90 #[.val (.int xb), .val (.int (3 : Int32)), .val (.ref b61)] [(.int (own_u (((xb.toUInt32 >>> ((2 : Int32) &&& 31).toUInt32).toInt32) &&& (255 : Int32)))), (.int (0 : Int32)), (.ref b61)])) rfl rfl (hb hby own_dmethod_3_code_90)
    have V67 := Arv.set A66 q66 s66 m66 H66 G66 (fits_nar_char _) W67 0 rfl (Nat.le_of_ble_eq_true rfl)
    have V67 : Arv Z h67 b61 k61 .char (3 : Int32) [(.int (nar .char (own_u (((xb.toUInt32 >>> ((2 : Int32) &&& 31).toUInt32).toInt32) &&& (255 : Int32))))), (.int (0 : Int32)), (.int (0 : Int32))] (.int (0 : Int32)) := V67
    have N67 := Fr.snoc X67 N65 ge61
    refine own_st st67 ?_
    have f68 := (own_Bk_A f62 (Keep.of_wr W67) V61 (by decide) (hw _ (List.mem_of_getElem? (i := 8) rfl)))
    have z69 : n0 ≤ h67.size := Nat.le_trans z63 (Keep.of_wr W67).1
    have kk70 : Keep h0 h67 [] := kk64.wr W67 (Or.inr sz61)
    show own_Go p.tables e below RR (T67.setTop (mkF m 91 #[.val (.int xb), .val (.int (3 : Int32)), .val (.ref b61)] []))
    refine own_st (fun _ k => XS.aloadN X67.here hx rfl (hb hby own_dmethod_3_code_91) rfl rfl (XS.iconst X67.here hx rfl (hb hby own_dmethod_3_code_92) (XS.iloadN X67.here hx rfl (hb hby own_dmethod_3_code_93) rfl (XS.iconst X67.here hx rfl (hb hby own_dmethod_3_code_94) k)))) ?_
    show own_Go p.tables e below RR (T67.setTop (mkF m 95 #[.val (.int xb), .val (.int (3 : Int32)), .val (.ref b61)] [(.int (1 : Int32)), (.int xb), (.int (1 : Int32)), (.ref b61)]))
    obtain ⟨_, _, ⟨T71, L71, k71, n71⟩, -, X71, ⟨Lc71, hQ71, l71, y71, z71⟩, st71⟩ := Jvm.LawKit.callS X67 hx (y := (⟨"com/example/unstor/unstor/ScopeEqualsPinLaw", "ch", "(II)C"⟩ : MethodName)) hown (mvT hZ (hw _ (List.mem_of_getElem? (i := 29) rfl))) (mvT hZ (hw _ (List.mem_of_getElem? (i := 30) rfl))) (mvT hZ (hw _ (List.mem_of_getElem? (i := 5) rfl))) (mvT hZ (hw _ (List.mem_of_getElem? (i := 31) rfl))) (by decide) (backOf (W := 2) (own_rmCH1 l Z a0 hw [] xb h67 n0 z69 ) hZ (hw _ (List.mem_of_getElem? (i := 31) rfl)) (hw _ (List.mem_of_getElem? (i := 5) rfl)) (by decide) (by decide)) (g := (mkF m 95 #[.val (.int xb), .val (.int (3 : Int32)), .val (.ref b61)] [(.int (1 : Int32)), (.int xb), (.int (1 : Int32)), (.ref b61)])) rfl (by rw [hml]; rfl) (argsL := [(.int xb), (.int (1 : Int32))]) (rest := [(.int (1 : Int32)), (.ref b61)]) (lenOf own_pd__II_C rfl) rfl (by show 2 * 0 + _ ≤ _; exact Nat.le_of_eq rfl) (hb hby own_dmethod_3_code_95) (fun _ _ => ⟨rfl, e67, (by decide : 1 + 0 ≤ _), (by decide : 3 + 0 ≤ _)⟩)
    dsimp only [Pt.U, Pt.locs, Pt.cells, Pt.slots] at X71 l71 y71 z71 st71 hQ71
    subst l71 y71 z71
    obtain ⟨rfl, Nq71, eq71⟩ := hQ71
    have N71 := Fr.app N67 Nq71
    refine own_st st71 ?_
    show own_Go p.tables e below RR (T71.setTop (mkF m 98 #[.val (.int xb), .val (.int (3 : Int32)), .val (.ref b61)] [(.int (own_u (((xb.toUInt32 >>> ((10 : Int32) &&& 31).toUInt32).toInt32) &&& (255 : Int32)))), (.int (1 : Int32)), (.ref b61)]))
    obtain ⟨c72, A72, q72, s72, m72, H72, G72⟩ := id V67
    obtain ⟨T73, h73, X73, e73, W73, st73⟩ := stC X71 hx hZ eq71 A72 (j := (1 : Int32)) (inb_of s72 ⟨by decide, by decide⟩) (g := (mkF m 98 #[.val (.int xb), .val (.int (3 : Int32)), .val (.ref b61)] [(.int (own_u (((xb.toUInt32 >>> ((10 : Int32) &&& 31).toUInt32).toInt32) &&& (255 : Int32)))), (.int (1 : Int32)), (.ref b61)])) rfl rfl (hb hby own_dmethod_3_code_98)
    have V73 := Arv.set A72 q72 s72 m72 H72 G72 (fits_nar_char _) W73 1 rfl (Nat.le_of_ble_eq_true rfl)
    have V73 : Arv Z h73 b61 k61 .char (3 : Int32) [(.int (nar .char (own_u (((xb.toUInt32 >>> ((2 : Int32) &&& 31).toUInt32).toInt32) &&& (255 : Int32))))), (.int (nar .char (own_u (((xb.toUInt32 >>> ((10 : Int32) &&& 31).toUInt32).toInt32) &&& (255 : Int32))))), (.int (0 : Int32))] (.int (0 : Int32)) := V73
    have N73 := Fr.snoc X73 N71 ge61
    refine own_st st73 ?_
    have f74 := (own_Bk_A f68 (Keep.of_wr W73) V67 (by decide) (hw _ (List.mem_of_getElem? (i := 8) rfl)))
    have z75 : n0 ≤ h73.size := Nat.le_trans z69 (Keep.of_wr W73).1
    have kk76 : Keep h0 h73 [] := kk70.wr W73 (Or.inr sz61)
    show own_Go p.tables e below RR (T73.setTop (mkF m 99 #[.val (.int xb), .val (.int (3 : Int32)), .val (.ref b61)] []))
    refine own_st (fun _ k => XS.aloadN X73.here hx rfl (hb hby own_dmethod_3_code_99) rfl rfl (XS.iconst X73.here hx rfl (hb hby own_dmethod_3_code_100) (XS.iloadN X73.here hx rfl (hb hby own_dmethod_3_code_101) rfl (XS.iconst X73.here hx rfl (hb hby own_dmethod_3_code_102) k)))) ?_
    show own_Go p.tables e below RR (T73.setTop (mkF m 103 #[.val (.int xb), .val (.int (3 : Int32)), .val (.ref b61)] [(.int (2 : Int32)), (.int xb), (.int (2 : Int32)), (.ref b61)]))
    obtain ⟨_, _, ⟨T77, L77, k77, n77⟩, -, X77, ⟨Lc77, hQ77, l77, y77, z77⟩, st77⟩ := Jvm.LawKit.callS X73 hx (y := (⟨"com/example/unstor/unstor/ScopeEqualsPinLaw", "ch", "(II)C"⟩ : MethodName)) hown (mvT hZ (hw _ (List.mem_of_getElem? (i := 29) rfl))) (mvT hZ (hw _ (List.mem_of_getElem? (i := 30) rfl))) (mvT hZ (hw _ (List.mem_of_getElem? (i := 5) rfl))) (mvT hZ (hw _ (List.mem_of_getElem? (i := 31) rfl))) (by decide) (backOf (W := 2) (own_rmCH2 l Z a0 hw [] xb h73 n0 z75 ) hZ (hw _ (List.mem_of_getElem? (i := 31) rfl)) (hw _ (List.mem_of_getElem? (i := 5) rfl)) (by decide) (by decide)) (g := (mkF m 103 #[.val (.int xb), .val (.int (3 : Int32)), .val (.ref b61)] [(.int (2 : Int32)), (.int xb), (.int (2 : Int32)), (.ref b61)])) rfl (by rw [hml]; rfl) (argsL := [(.int xb), (.int (2 : Int32))]) (rest := [(.int (2 : Int32)), (.ref b61)]) (lenOf own_pd__II_C rfl) rfl (by show 2 * 0 + _ ≤ _; exact Nat.le_of_eq rfl) (hb hby own_dmethod_3_code_103) (fun _ _ => ⟨rfl, e73, (by decide : 1 + 0 ≤ _), (by decide : 3 + 0 ≤ _)⟩)
    dsimp only [Pt.U, Pt.locs, Pt.cells, Pt.slots] at X77 l77 y77 z77 st77 hQ77
    subst l77 y77 z77
    obtain ⟨rfl, Nq77, eq77⟩ := hQ77
    have N77 := Fr.app N73 Nq77
    refine own_st st77 ?_
    show own_Go p.tables e below RR (T77.setTop (mkF m 106 #[.val (.int xb), .val (.int (3 : Int32)), .val (.ref b61)] [(.int (own_u (((xb.toUInt32 >>> ((18 : Int32) &&& 31).toUInt32).toInt32) &&& (255 : Int32)))), (.int (2 : Int32)), (.ref b61)]))
    obtain ⟨c78, A78, q78, s78, m78, H78, G78⟩ := id V73
    obtain ⟨T79, h79, X79, e79, W79, st79⟩ := stC X77 hx hZ eq77 A78 (j := (2 : Int32)) (inb_of s78 ⟨by decide, by decide⟩) (g := (mkF m 106 #[.val (.int xb), .val (.int (3 : Int32)), .val (.ref b61)] [(.int (own_u (((xb.toUInt32 >>> ((18 : Int32) &&& 31).toUInt32).toInt32) &&& (255 : Int32)))), (.int (2 : Int32)), (.ref b61)])) rfl rfl (hb hby own_dmethod_3_code_106)
    have V79 := Arv.set A78 q78 s78 m78 H78 G78 (fits_nar_char _) W79 2 rfl (Nat.le_of_ble_eq_true rfl)
    have V79 : Arv Z h79 b61 k61 .char (3 : Int32) [(.int (nar .char (own_u (((xb.toUInt32 >>> ((2 : Int32) &&& 31).toUInt32).toInt32) &&& (255 : Int32))))), (.int (nar .char (own_u (((xb.toUInt32 >>> ((10 : Int32) &&& 31).toUInt32).toInt32) &&& (255 : Int32))))), (.int (nar .char (own_u (((xb.toUInt32 >>> ((18 : Int32) &&& 31).toUInt32).toInt32) &&& (255 : Int32)))))] (.int (0 : Int32)) := V79
    have N79 := Fr.snoc X79 N77 ge61
    refine own_st st79 ?_
    have f80 := (own_Bk_A f74 (Keep.of_wr W79) V73 (by decide) (hw _ (List.mem_of_getElem? (i := 8) rfl)))
    have z81 : n0 ≤ h79.size := Nat.le_trans z75 (Keep.of_wr W79).1
    have kk82 : Keep h0 h79 [] := kk76.wr W79 (Or.inr sz61)
    show own_Go p.tables e below RR (T79.setTop (mkF m 107 #[.val (.int xb), .val (.int (3 : Int32)), .val (.ref b61)] []))
    obtain ⟨T83, h83, X83, e83, E83, A83, D83, -, st83⟩ := newO X79 hx hZ hown (hw _ (List.mem_of_getElem? (i := 7) rfl)) (hw _ (List.mem_of_getElem? (i := 8) rfl)) (hw _ (List.mem_of_getElem? (i := 9) rfl)) e79 (g := (mkF m 107 #[.val (.int xb), .val (.int (3 : Int32)), .val (.ref b61)] [])) rfl (hb hby own_dmethod_3_code_107) (by decide) (by decide)
    obtain ⟨b83, gb83⟩ : ∃ z, z = h79.size := ⟨_, rfl⟩
    rw [← gb83] at A83 D83 st83
    have ge83 : n0 ≤ b83 := Nat.le_trans z81 (Nat.le_of_eq gb83.symm)
    have sz83 : h0.size ≤ b83 := Nat.le_trans kk82.1 (Nat.le_of_eq gb83.symm)
    refine own_st st83 ?_
    have f84 := (own_Bk_ext f80 E83)
    have z85 : n0 ≤ h83.size := Nat.le_trans z81 E83.1
    have kk86 : Keep h0 h83 [] := kk82.ext E83
    have F83_23 : Fld Z h83 b83 "java/lang/String" "value" "[B" .null := D83 (Or.inr (hw _ (List.mem_of_getElem? (i := 23) rfl))) (ty := (.array .byte)) (by decide)
    have F83_24 : Fld Z h83 b83 "java/lang/String" "coder" "B" (.int (0 : Int32)) := D83 (Or.inr (hw _ (List.mem_of_getElem? (i := 24) rfl))) (ty := .byte) (by decide)
    show own_Go p.tables e below RR (T83.setTop (mkF m 110 #[.val (.int xb), .val (.int (3 : Int32)), .val (.ref b61)] [(.ref b83)]))
    refine own_st (fun _ k => XS.dup X83.here hx rfl (hb hby own_dmethod_3_code_110) rfl rfl (XS.aloadN X83.here hx rfl (hb hby own_dmethod_3_code_111) rfl rfl k)) ?_
    show own_Go p.tables e below RR (T83.setTop (mkF m 112 #[.val (.int xb), .val (.int (3 : Int32)), .val (.ref b61)] [(.ref b61), (.ref b83), (.ref b83)]))
    have f87 := (V79.ext E83)
    have f88 := (((((S0.ext E61).wr W67).wr W73).wr W79).ext E83)
    obtain ⟨_, _, ⟨T89, L89, k89, n89⟩, -, X89, ⟨Lc89, hQ89, l89, y89, z89⟩, st89⟩ := X83.specialBack hx (y := (⟨"java/lang/String", "<init>", "([C)V"⟩ : MethodName)) rfl hown (mvT hZ (hw _ (List.mem_of_getElem? (i := 11) rfl))) (mvT hZ (hw _ (List.mem_of_getElem? (i := 12) rfl))) (mvT hZ (hw _ (List.mem_of_getElem? (i := 13) rfl))) (by decide) (backOf (W := 1) (own_rmST3 l Z a0 hw [] b83 b61 k61 (nar .char (own_u (((xb.toUInt32 >>> ((2 : Int32) &&& 31).toUInt32).toInt32) &&& (255 : Int32)))) (nar .char (own_u (((xb.toUInt32 >>> ((10 : Int32) &&& 31).toUInt32).toInt32) &&& (255 : Int32)))) (nar .char (own_u (((xb.toUInt32 >>> ((18 : Int32) &&& 31).toUInt32).toInt32) &&& (255 : Int32)))) cs h83 n0 z85 ge83 A83 F83_23 F83_24 f87 (own_un (own_255 _)) (own_un (own_255 _)) (own_un (own_255 _)) f88 hcs) hZ (hw _ (List.mem_of_getElem? (i := 13) rfl)) (hw _ (List.mem_of_getElem? (i := 9) rfl)) (by decide) (by decide)) (g := (mkF m 112 #[.val (.int xb), .val (.int (3 : Int32)), .val (.ref b61)] [(.ref b61), (.ref b83), (.ref b83)])) rfl (by rw [hml]; rfl) (Steps.refl _) (a := b83) (argsL := [(.ref b61)]) (rest := [(.ref b83)]) (lenOf own_pd___C_V rfl) rfl (by show 2 * 0 + _ ≤ _; exact Nat.le_of_eq rfl) (hb hby own_dmethod_3_code_112) (fun _ _ => ⟨rfl, e83, (by decide : 2 + 1 ≤ _), (by decide : 7 + 3 ≤ _)⟩)
    dsimp only [Pt.U, Pt.locs, Pt.cells, Pt.slots] at X89 l89 y89 z89 st89 hQ89
    subst l89 y89 z89
    obtain ⟨rfl, Nq89, Kq89, Eq89, Fq89, bq89, kbq89, Fvq89, Vq89⟩ := hQ89
    have N89 := Fr.app N79 Nq89
    refine own_st (fun _ k => st89.trans k) ?_
    have f90 := (own_Bk_S f84 Kq89 A83 F83_23 (hw _ (List.mem_of_getElem? (i := 8) rfl)))
    have z91 : n0 ≤ T89.heap.size := Nat.le_trans z85 Kq89.1
    have kk92 : Keep h0 T89.heap [] := kk86.trans Kq89 (allS (Or.inr sz83) all0)
    show own_Go p.tables e below RR (T89.setTop (mkF m 115 #[.val (.int xb), .val (.int (3 : Int32)), .val (.ref b61)] [(.ref b83)]))
    obtain ⟨fs, hrt_, hrun, hended, hW, hsame⟩ := X89.leave (v := some (.ref b83)) (fun h => by rw [Bd.returns] at h; cases h)
    refine own_fin (retOut X89 hx Bd.returns rfl (Or.inr (Or.inr (Or.inr (Or.inr ⟨rfl, rfl, rfl⟩)))) (hb hby own_dmethod_3_code_115) hrt_) (hRR _ ⟨_, hrun, hended, _, _, rfl, ?_, ReturnedEndW.of_narrow ⟨_, rfl⟩ hW (hsame.mono (by decide) (by decide))⟩)
    have bkE := own_Bk_warm (s := s.setVm s.vm) f90 X89.warmed
    show own_QTX Z xb (3 : Int32) 3 cs h0 n0 _ T89.heap T89.vm _
    exact ⟨_, rfl, N89, kk92, sz83, Eq89, Fq89, ⟨_, _, Fvq89, Vq89⟩, bkE⟩
theorem own_dmethod_4_code_0 : decode method_4_code 0 = .ok (.iload_n 0, 1) := by decide +kernel
theorem own_dmethod_4_code_1 : decode method_4_code 1 = .ok (.iconst 3, 1) := by decide +kernel
theorem own_dmethod_4_code_2 : decode method_4_code 2 = .ok (.iand, 1) := by decide +kernel
theorem own_dmethod_4_code_3 : decode method_4_code 3 = .ok (.istore_n 2, 1) := by decide +kernel
theorem own_dmethod_4_code_4 : decode method_4_code 4 = .ok (.iload_n 2, 1) := by decide +kernel
theorem own_dmethod_4_code_5 : decode method_4_code 5 = .ok (.iload_n 1, 1) := by decide +kernel
theorem own_dmethod_4_code_6 : decode method_4_code 6 = .ok (.iconst 3, 1) := by decide +kernel
theorem own_dmethod_4_code_7 : decode method_4_code 7 = .ok (.iand, 1) := by decide +kernel
theorem own_dmethod_4_code_8 : decode method_4_code 8 = .ok (.if_icmp .eq 5, 3) := by decide +kernel
theorem own_dmethod_4_code_13 : decode method_4_code 13 = .ok (.iload_n 2, 1) := by decide +kernel
theorem own_dmethod_4_code_14 : decode method_4_code 14 = .ok (.iconst 1, 1) := by decide +kernel
theorem own_dmethod_4_code_15 : decode method_4_code 15 = .ok (.if_icmp .lt 18, 3) := by decide +kernel
theorem own_dmethod_4_code_33 : decode method_4_code 33 = .ok (.iload_n 2, 1) := by decide +kernel
theorem own_dmethod_4_code_34 : decode method_4_code 34 = .ok (.iconst 2, 1) := by decide +kernel
theorem own_dmethod_4_code_35 : decode method_4_code 35 = .ok (.if_icmp .lt 18, 3) := by decide +kernel
theorem own_dmethod_4_code_53 : decode method_4_code 53 = .ok (.iload_n 2, 1) := by decide +kernel
theorem own_dmethod_4_code_54 : decode method_4_code 54 = .ok (.iconst 3, 1) := by decide +kernel
theorem own_dmethod_4_code_55 : decode method_4_code 55 = .ok (.if_icmp .lt 18, 3) := by decide +kernel
theorem own_dmethod_4_code_73 : decode method_4_code 73 = .ok (.iconst 1, 1) := by decide +kernel
theorem own_dmethod_4_code_74 : decode method_4_code 74 = .ok (.ireturn, 1) := by decide +kernel
theorem own_dmethod_4_code_11 : decode method_4_code 11 = .ok (.iconst 0, 1) := by decide +kernel
theorem own_dmethod_4_code_12 : decode method_4_code 12 = .ok (.ireturn, 1) := by decide +kernel
theorem own_dmethod_4_code_18 : decode method_4_code 18 = .ok (.iload_n 0, 1) := by decide +kernel
theorem own_dmethod_4_code_19 : decode method_4_code 19 = .ok (.iconst 0, 1) := by decide +kernel
theorem own_dmethod_4_code_20 : decode method_4_code 20 = .ok (.invokestatic 12, 3) := by decide +kernel
theorem own_dmethod_4_code_23 : decode method_4_code 23 = .ok (.iload_n 1, 1) := by decide +kernel
theorem own_dmethod_4_code_24 : decode method_4_code 24 = .ok (.iconst 0, 1) := by decide +kernel
theorem own_dmethod_4_code_25 : decode method_4_code 25 = .ok (.invokestatic 12, 3) := by decide +kernel
theorem own_dmethod_4_code_28 : decode method_4_code 28 = .ok (.if_icmp .eq 5, 3) := by decide +kernel
theorem own_dmethod_4_code_31 : decode method_4_code 31 = .ok (.iconst 0, 1) := by decide +kernel
theorem own_dmethod_4_code_32 : decode method_4_code 32 = .ok (.ireturn, 1) := by decide +kernel
theorem own_dmethod_4_code_38 : decode method_4_code 38 = .ok (.iload_n 0, 1) := by decide +kernel
theorem own_dmethod_4_code_39 : decode method_4_code 39 = .ok (.iconst 1, 1) := by decide +kernel
theorem own_dmethod_4_code_40 : decode method_4_code 40 = .ok (.invokestatic 12, 3) := by decide +kernel
theorem own_dmethod_4_code_43 : decode method_4_code 43 = .ok (.iload_n 1, 1) := by decide +kernel
theorem own_dmethod_4_code_44 : decode method_4_code 44 = .ok (.iconst 1, 1) := by decide +kernel
theorem own_dmethod_4_code_45 : decode method_4_code 45 = .ok (.invokestatic 12, 3) := by decide +kernel
theorem own_dmethod_4_code_48 : decode method_4_code 48 = .ok (.if_icmp .eq 5, 3) := by decide +kernel
theorem own_dmethod_4_code_51 : decode method_4_code 51 = .ok (.iconst 0, 1) := by decide +kernel
theorem own_dmethod_4_code_52 : decode method_4_code 52 = .ok (.ireturn, 1) := by decide +kernel
theorem own_dmethod_4_code_58 : decode method_4_code 58 = .ok (.iload_n 0, 1) := by decide +kernel
theorem own_dmethod_4_code_59 : decode method_4_code 59 = .ok (.iconst 2, 1) := by decide +kernel
theorem own_dmethod_4_code_60 : decode method_4_code 60 = .ok (.invokestatic 12, 3) := by decide +kernel
theorem own_dmethod_4_code_63 : decode method_4_code 63 = .ok (.iload_n 1, 1) := by decide +kernel
theorem own_dmethod_4_code_64 : decode method_4_code 64 = .ok (.iconst 2, 1) := by decide +kernel
theorem own_dmethod_4_code_65 : decode method_4_code 65 = .ok (.invokestatic 12, 3) := by decide +kernel
theorem own_dmethod_4_code_68 : decode method_4_code 68 = .ok (.if_icmp .eq 5, 3) := by decide +kernel
theorem own_dmethod_4_code_71 : decode method_4_code 71 = .ok (.iconst 0, 1) := by decide +kernel
theorem own_dmethod_4_code_72 : decode method_4_code 72 = .ok (.ireturn, 1) := by decide +kernel
theorem own_efSM (m : MethodId) (xb : Int32) (yb : Int32) : entryFrame m #[(.int xb), (.int yb)] 3 = mkF m 0 #[.val (.int xb), .val (.int yb), .unset] [] := by first | (simp [entryFrame, mkF, argsToLocals, Value.category]; done) | rfl
def own_QSM (Z : State) (xb : Int32) (xl : Int32) (xn : Nat) (yb : Int32) (yl : Int32) (yn : Nat) (h0 : Heap) (n0 : Nat) (rv__ : Option Value) (h : Heap) (rL__ : List Loc) : Prop := rv__ = some (.int (own_same xb xn yb yn)) ∧ Fr n0 rL__ ∧ h = h0
abbrev own_RSM : Room := { frames := 1, cells := 0, slots := 0, locals := 14 }
set_option maxRecDepth 65536 in
set_option maxHeartbeats 40000000 in
theorem own_rmSM (l : Launch) (Z : State) (a0 : Array Value) (hw : ∀ d ∈ tables_1, d.before a0 Z = true) (ws : List Jvm.Cond) (xb : Int32) (xl : Int32) (xn : Nat) (yb : Int32) (yl : Int32) (yn : Nat) (h0 : Heap) (n0 : Nat) (Z0 : n0 ≤ h0.size) (hgx : (xb &&& (3 : Int32)) = xl) (hgy : (yb &&& (3 : Int32)) = yl) (hxl : own_ln xl xn) (hyl : own_ln yl yn) :
    MetFree l (⟨"com/example/unstor/unstor/ScopeEqualsPinLaw", "same", "(II)Z"⟩ : MethodName) (head1 (Jvm.Cond.code (⟨"com/example/unstor/unstor/ScopeEqualsPinLaw", "same", "(II)Z"⟩ : MethodName) method_4_code 3 (some .boolean) :: ws) own_RSM) (fun aa__ U => aa__ = #[(.int xb), (.int yb)] ∧ Z.Warmed39 U.vm ∧ U.heap = h0) (fun _ _ _ _ _ => True) (fun _ U oc_ U' => ∃ rv__ rL__, oc_ = .returned rv__ ∧ own_QSM Z xb xl xn yb yl yn h0 n0 rv__ U'.heap rL__ ∧ FrameEnd U oc_ U' rL__ own_RSM.cells own_RSM.slots) := by
  refine MetFree.of_bodySF (plainFor_of_name own_pn_com_example_unstor_unstor_ScopeEqualsPinLaw) hisR ?_
  intro p e s m args below meth c s₁ Bd hml0 hP hK
  obtain ⟨rfl, hZ, hh⟩ := hP
  have hx := Bd.exec
  have hby := Bd.bytes
  have hml : c.maxLocals = 3 := hml0
  have hown : s.vm.findClass "com/example/unstor/unstor/ScopeEqualsPinLaw" = some m.cls := findClass_of_methodNamed Bd.named
  have hnm := (name_of_methodNamed Bd.named Bd.method).1
  have X0 : Stand p l e own_RSM s m #[(.int xb), (.int yb)] below meth c s₁ [] 0 0 := Stand.of_body Bd
  have e0 : s₁.heap = h0 := by rw [← hh, Bd.state]; rfl
  have N0 := Fr.nil n0
  refine own_in (fun _ k => castTop (own_efSM m xb yb) k) ?_
  intro RR hRR
  rcases hxl with ⟨rfl, rfl⟩ | ⟨rfl, rfl⟩ | ⟨rfl, rfl⟩ | ⟨rfl, rfl⟩
  · rcases hyl with ⟨rfl, rfl⟩ | ⟨rfl, rfl⟩ | ⟨rfl, rfl⟩ | ⟨rfl, rfl⟩
    · show own_Go p.tables e below RR (s₁.setTop (mkF m 0 #[.val (.int xb), .val (.int yb), .unset] []))
      refine own_st (fun _ k => XS.iloadN X0.here hx rfl (hb hby own_dmethod_4_code_0) rfl (XS.iconst X0.here hx rfl (hb hby own_dmethod_4_code_1) (XS.iand X0.here hx rfl (hb hby own_dmethod_4_code_2) rfl k))) ?_
      show own_Go p.tables e below RR (s₁.setTop (mkF m 3 #[.val (.int xb), .val (.int yb), .unset] [(.int (xb &&& (3 : Int32)))]))
      rw [hgx]
      show own_Go p.tables e below RR (s₁.setTop (mkF m 3 #[.val (.int xb), .val (.int yb), .unset] [(.int (0 : Int32))]))
      show own_Go p.tables e below RR (s₁.setTop (mkF m 3 #[.val (.int xb), .val (.int yb), .unset] [(.int (0 : Int32))]))
      refine own_st (fun _ k => XS.istoreN X0.here hx rfl (hb hby own_dmethod_4_code_3) rfl (l' := #[.val (.int xb), .val (.int yb), .val (.int (0 : Int32))]) rfl (XS.iloadN X0.here hx rfl (hb hby own_dmethod_4_code_4) rfl (XS.iloadN X0.here hx rfl (hb hby own_dmethod_4_code_5) rfl (XS.iconst X0.here hx rfl (hb hby own_dmethod_4_code_6) (XS.iand X0.here hx rfl (hb hby own_dmethod_4_code_7) rfl k))))) ?_
      show own_Go p.tables e below RR (s₁.setTop (mkF m 8 #[.val (.int xb), .val (.int yb), .val (.int (0 : Int32))] [(.int (yb &&& (3 : Int32))), (.int (0 : Int32))]))
      rw [hgy]
      show own_Go p.tables e below RR (s₁.setTop (mkF m 8 #[.val (.int xb), .val (.int yb), .val (.int (0 : Int32))] [(.int (0 : Int32)), (.int (0 : Int32))]))
      show own_Go p.tables e below RR (s₁.setTop (mkF m 8 #[.val (.int xb), .val (.int yb), .val (.int (0 : Int32))] [(.int (0 : Int32)), (.int (0 : Int32))]))
      refine own_st (fun _ k => XS.icmpYes X0.here hx rfl (pc0 := 8) (pc' := 13) rfl (hb hby own_dmethod_4_code_8) rfl (teq (by decide)).1 (by decide) (by decide) (XS.iloadN X0.here hx rfl (hb hby own_dmethod_4_code_13) rfl (XS.iconst X0.here hx rfl (hb hby own_dmethod_4_code_14) k))) ?_
      show own_Go p.tables e below RR (s₁.setTop (mkF m 15 #[.val (.int xb), .val (.int yb), .val (.int (0 : Int32))] [(.int (1 : Int32)), (.int (0 : Int32))]))
      refine own_st (fun _ k => XS.icmpYes X0.here hx rfl (pc0 := 15) (pc' := 33) rfl (hb hby own_dmethod_4_code_15) rfl (tlt (by decide)).1 (by decide) (by decide) (XS.iloadN X0.here hx rfl (hb hby own_dmethod_4_code_33) rfl (XS.iconst X0.here hx rfl (hb hby own_dmethod_4_code_34) k))) ?_
      show own_Go p.tables e below RR (s₁.setTop (mkF m 35 #[.val (.int xb), .val (.int yb), .val (.int (0 : Int32))] [(.int (2 : Int32)), (.int (0 : Int32))]))
      refine own_st (fun _ k => XS.icmpYes X0.here hx rfl (pc0 := 35) (pc' := 53) rfl (hb hby own_dmethod_4_code_35) rfl (tlt (by decide)).1 (by decide) (by decide) (XS.iloadN X0.here hx rfl (hb hby own_dmethod_4_code_53) rfl (XS.iconst X0.here hx rfl (hb hby own_dmethod_4_code_54) k))) ?_
      show own_Go p.tables e below RR (s₁.setTop (mkF m 55 #[.val (.int xb), .val (.int yb), .val (.int (0 : Int32))] [(.int (3 : Int32)), (.int (0 : Int32))]))
      refine own_st (fun _ k => XS.icmpYes X0.here hx rfl (pc0 := 55) (pc' := 73) rfl (hb hby own_dmethod_4_code_55) rfl (tlt (by decide)).1 (by decide) (by decide) (XS.iconst X0.here hx rfl (hb hby own_dmethod_4_code_73) k)) ?_
      show own_Go p.tables e below RR (s₁.setTop (mkF m 74 #[.val (.int xb), .val (.int yb), .val (.int (0 : Int32))] [(.int (1 : Int32))]))
      obtain ⟨fs, hrt_, hrun, hended, hW, hsame⟩ := X0.leave (v := some (.int (1 : Int32))) (fun h => by rw [Bd.returns] at h; cases h)
      refine own_fin (retN X0 hx (t := .boolean) Bd.returns (by simp) (hb hby own_dmethod_4_code_74) hrt_) (hRR _ ⟨_, hrun, hended, _, _, rfl, ?_, ⟨_, rfl⟩, hW, hsame.mono (by decide) (by decide)⟩)
      show own_QSM Z xb (0 : Int32) 0 yb (0 : Int32) 0 h0 n0 _ s₁.heap _
      rw [e0]
      exact ⟨own_ri ((own_sY ⟨rfl, fun z_ => absurd z_ (by decide), fun z_ => absurd z_ (by decide), fun z_ => absurd z_ (by decide)⟩).symm), N0, rfl⟩
    · show own_Go p.tables e below RR (s₁.setTop (mkF m 0 #[.val (.int xb), .val (.int yb), .unset] []))
      refine own_st (fun _ k => XS.iloadN X0.here hx rfl (hb hby own_dmethod_4_code_0) rfl (XS.iconst X0.here hx rfl (hb hby own_dmethod_4_code_1) (XS.iand X0.here hx rfl (hb hby own_dmethod_4_code_2) rfl k))) ?_
      show own_Go p.tables e below RR (s₁.setTop (mkF m 3 #[.val (.int xb), .val (.int yb), .unset] [(.int (xb &&& (3 : Int32)))]))
      rw [hgx]
      show own_Go p.tables e below RR (s₁.setTop (mkF m 3 #[.val (.int xb), .val (.int yb), .unset] [(.int (0 : Int32))]))
      show own_Go p.tables e below RR (s₁.setTop (mkF m 3 #[.val (.int xb), .val (.int yb), .unset] [(.int (0 : Int32))]))
      refine own_st (fun _ k => XS.istoreN X0.here hx rfl (hb hby own_dmethod_4_code_3) rfl (l' := #[.val (.int xb), .val (.int yb), .val (.int (0 : Int32))]) rfl (XS.iloadN X0.here hx rfl (hb hby own_dmethod_4_code_4) rfl (XS.iloadN X0.here hx rfl (hb hby own_dmethod_4_code_5) rfl (XS.iconst X0.here hx rfl (hb hby own_dmethod_4_code_6) (XS.iand X0.here hx rfl (hb hby own_dmethod_4_code_7) rfl k))))) ?_
      show own_Go p.tables e below RR (s₁.setTop (mkF m 8 #[.val (.int xb), .val (.int yb), .val (.int (0 : Int32))] [(.int (yb &&& (3 : Int32))), (.int (0 : Int32))]))
      rw [hgy]
      show own_Go p.tables e below RR (s₁.setTop (mkF m 8 #[.val (.int xb), .val (.int yb), .val (.int (0 : Int32))] [(.int (1 : Int32)), (.int (0 : Int32))]))
      show own_Go p.tables e below RR (s₁.setTop (mkF m 8 #[.val (.int xb), .val (.int yb), .val (.int (0 : Int32))] [(.int (1 : Int32)), (.int (0 : Int32))]))
      refine own_st (fun _ k => XS.icmpNo X0.here hx rfl (hb hby own_dmethod_4_code_8) rfl (feq (by decide)).1 (XS.iconst X0.here hx rfl (hb hby own_dmethod_4_code_11) k)) ?_
      show own_Go p.tables e below RR (s₁.setTop (mkF m 12 #[.val (.int xb), .val (.int yb), .val (.int (0 : Int32))] [(.int (0 : Int32))]))
      obtain ⟨fs, hrt_, hrun, hended, hW, hsame⟩ := X0.leave (v := some (.int (0 : Int32))) (fun h => by rw [Bd.returns] at h; cases h)
      refine own_fin (retN X0 hx (t := .boolean) Bd.returns (by simp) (hb hby own_dmethod_4_code_12) hrt_) (hRR _ ⟨_, hrun, hended, _, _, rfl, ?_, ⟨_, rfl⟩, hW, hsame.mono (by decide) (by decide)⟩)
      show own_QSM Z xb (0 : Int32) 0 yb (1 : Int32) 1 h0 n0 _ s₁.heap _
      rw [e0]
      exact ⟨own_ri ((own_sN (fun q_ => absurd q_.1 (by decide))).symm), N0, rfl⟩
    · show own_Go p.tables e below RR (s₁.setTop (mkF m 0 #[.val (.int xb), .val (.int yb), .unset] []))
      refine own_st (fun _ k => XS.iloadN X0.here hx rfl (hb hby own_dmethod_4_code_0) rfl (XS.iconst X0.here hx rfl (hb hby own_dmethod_4_code_1) (XS.iand X0.here hx rfl (hb hby own_dmethod_4_code_2) rfl k))) ?_
      show own_Go p.tables e below RR (s₁.setTop (mkF m 3 #[.val (.int xb), .val (.int yb), .unset] [(.int (xb &&& (3 : Int32)))]))
      rw [hgx]
      show own_Go p.tables e below RR (s₁.setTop (mkF m 3 #[.val (.int xb), .val (.int yb), .unset] [(.int (0 : Int32))]))
      show own_Go p.tables e below RR (s₁.setTop (mkF m 3 #[.val (.int xb), .val (.int yb), .unset] [(.int (0 : Int32))]))
      refine own_st (fun _ k => XS.istoreN X0.here hx rfl (hb hby own_dmethod_4_code_3) rfl (l' := #[.val (.int xb), .val (.int yb), .val (.int (0 : Int32))]) rfl (XS.iloadN X0.here hx rfl (hb hby own_dmethod_4_code_4) rfl (XS.iloadN X0.here hx rfl (hb hby own_dmethod_4_code_5) rfl (XS.iconst X0.here hx rfl (hb hby own_dmethod_4_code_6) (XS.iand X0.here hx rfl (hb hby own_dmethod_4_code_7) rfl k))))) ?_
      show own_Go p.tables e below RR (s₁.setTop (mkF m 8 #[.val (.int xb), .val (.int yb), .val (.int (0 : Int32))] [(.int (yb &&& (3 : Int32))), (.int (0 : Int32))]))
      rw [hgy]
      show own_Go p.tables e below RR (s₁.setTop (mkF m 8 #[.val (.int xb), .val (.int yb), .val (.int (0 : Int32))] [(.int (2 : Int32)), (.int (0 : Int32))]))
      show own_Go p.tables e below RR (s₁.setTop (mkF m 8 #[.val (.int xb), .val (.int yb), .val (.int (0 : Int32))] [(.int (2 : Int32)), (.int (0 : Int32))]))
      refine own_st (fun _ k => XS.icmpNo X0.here hx rfl (hb hby own_dmethod_4_code_8) rfl (feq (by decide)).1 (XS.iconst X0.here hx rfl (hb hby own_dmethod_4_code_11) k)) ?_
      show own_Go p.tables e below RR (s₁.setTop (mkF m 12 #[.val (.int xb), .val (.int yb), .val (.int (0 : Int32))] [(.int (0 : Int32))]))
      obtain ⟨fs, hrt_, hrun, hended, hW, hsame⟩ := X0.leave (v := some (.int (0 : Int32))) (fun h => by rw [Bd.returns] at h; cases h)
      refine own_fin (retN X0 hx (t := .boolean) Bd.returns (by simp) (hb hby own_dmethod_4_code_12) hrt_) (hRR _ ⟨_, hrun, hended, _, _, rfl, ?_, ⟨_, rfl⟩, hW, hsame.mono (by decide) (by decide)⟩)
      show own_QSM Z xb (0 : Int32) 0 yb (2 : Int32) 2 h0 n0 _ s₁.heap _
      rw [e0]
      exact ⟨own_ri ((own_sN (fun q_ => absurd q_.1 (by decide))).symm), N0, rfl⟩
    · show own_Go p.tables e below RR (s₁.setTop (mkF m 0 #[.val (.int xb), .val (.int yb), .unset] []))
      refine own_st (fun _ k => XS.iloadN X0.here hx rfl (hb hby own_dmethod_4_code_0) rfl (XS.iconst X0.here hx rfl (hb hby own_dmethod_4_code_1) (XS.iand X0.here hx rfl (hb hby own_dmethod_4_code_2) rfl k))) ?_
      show own_Go p.tables e below RR (s₁.setTop (mkF m 3 #[.val (.int xb), .val (.int yb), .unset] [(.int (xb &&& (3 : Int32)))]))
      rw [hgx]
      show own_Go p.tables e below RR (s₁.setTop (mkF m 3 #[.val (.int xb), .val (.int yb), .unset] [(.int (0 : Int32))]))
      show own_Go p.tables e below RR (s₁.setTop (mkF m 3 #[.val (.int xb), .val (.int yb), .unset] [(.int (0 : Int32))]))
      refine own_st (fun _ k => XS.istoreN X0.here hx rfl (hb hby own_dmethod_4_code_3) rfl (l' := #[.val (.int xb), .val (.int yb), .val (.int (0 : Int32))]) rfl (XS.iloadN X0.here hx rfl (hb hby own_dmethod_4_code_4) rfl (XS.iloadN X0.here hx rfl (hb hby own_dmethod_4_code_5) rfl (XS.iconst X0.here hx rfl (hb hby own_dmethod_4_code_6) (XS.iand X0.here hx rfl (hb hby own_dmethod_4_code_7) rfl k))))) ?_
      show own_Go p.tables e below RR (s₁.setTop (mkF m 8 #[.val (.int xb), .val (.int yb), .val (.int (0 : Int32))] [(.int (yb &&& (3 : Int32))), (.int (0 : Int32))]))
      rw [hgy]
      show own_Go p.tables e below RR (s₁.setTop (mkF m 8 #[.val (.int xb), .val (.int yb), .val (.int (0 : Int32))] [(.int (3 : Int32)), (.int (0 : Int32))]))
      show own_Go p.tables e below RR (s₁.setTop (mkF m 8 #[.val (.int xb), .val (.int yb), .val (.int (0 : Int32))] [(.int (3 : Int32)), (.int (0 : Int32))]))
      refine own_st (fun _ k => XS.icmpNo X0.here hx rfl (hb hby own_dmethod_4_code_8) rfl (feq (by decide)).1 (XS.iconst X0.here hx rfl (hb hby own_dmethod_4_code_11) k)) ?_
      show own_Go p.tables e below RR (s₁.setTop (mkF m 12 #[.val (.int xb), .val (.int yb), .val (.int (0 : Int32))] [(.int (0 : Int32))]))
      obtain ⟨fs, hrt_, hrun, hended, hW, hsame⟩ := X0.leave (v := some (.int (0 : Int32))) (fun h => by rw [Bd.returns] at h; cases h)
      refine own_fin (retN X0 hx (t := .boolean) Bd.returns (by simp) (hb hby own_dmethod_4_code_12) hrt_) (hRR _ ⟨_, hrun, hended, _, _, rfl, ?_, ⟨_, rfl⟩, hW, hsame.mono (by decide) (by decide)⟩)
      show own_QSM Z xb (0 : Int32) 0 yb (3 : Int32) 3 h0 n0 _ s₁.heap _
      rw [e0]
      exact ⟨own_ri ((own_sN (fun q_ => absurd q_.1 (by decide))).symm), N0, rfl⟩
  · rcases hyl with ⟨rfl, rfl⟩ | ⟨rfl, rfl⟩ | ⟨rfl, rfl⟩ | ⟨rfl, rfl⟩
    · show own_Go p.tables e below RR (s₁.setTop (mkF m 0 #[.val (.int xb), .val (.int yb), .unset] []))
      refine own_st (fun _ k => XS.iloadN X0.here hx rfl (hb hby own_dmethod_4_code_0) rfl (XS.iconst X0.here hx rfl (hb hby own_dmethod_4_code_1) (XS.iand X0.here hx rfl (hb hby own_dmethod_4_code_2) rfl k))) ?_
      show own_Go p.tables e below RR (s₁.setTop (mkF m 3 #[.val (.int xb), .val (.int yb), .unset] [(.int (xb &&& (3 : Int32)))]))
      rw [hgx]
      show own_Go p.tables e below RR (s₁.setTop (mkF m 3 #[.val (.int xb), .val (.int yb), .unset] [(.int (1 : Int32))]))
      show own_Go p.tables e below RR (s₁.setTop (mkF m 3 #[.val (.int xb), .val (.int yb), .unset] [(.int (1 : Int32))]))
      refine own_st (fun _ k => XS.istoreN X0.here hx rfl (hb hby own_dmethod_4_code_3) rfl (l' := #[.val (.int xb), .val (.int yb), .val (.int (1 : Int32))]) rfl (XS.iloadN X0.here hx rfl (hb hby own_dmethod_4_code_4) rfl (XS.iloadN X0.here hx rfl (hb hby own_dmethod_4_code_5) rfl (XS.iconst X0.here hx rfl (hb hby own_dmethod_4_code_6) (XS.iand X0.here hx rfl (hb hby own_dmethod_4_code_7) rfl k))))) ?_
      show own_Go p.tables e below RR (s₁.setTop (mkF m 8 #[.val (.int xb), .val (.int yb), .val (.int (1 : Int32))] [(.int (yb &&& (3 : Int32))), (.int (1 : Int32))]))
      rw [hgy]
      show own_Go p.tables e below RR (s₁.setTop (mkF m 8 #[.val (.int xb), .val (.int yb), .val (.int (1 : Int32))] [(.int (0 : Int32)), (.int (1 : Int32))]))
      show own_Go p.tables e below RR (s₁.setTop (mkF m 8 #[.val (.int xb), .val (.int yb), .val (.int (1 : Int32))] [(.int (0 : Int32)), (.int (1 : Int32))]))
      refine own_st (fun _ k => XS.icmpNo X0.here hx rfl (hb hby own_dmethod_4_code_8) rfl (feq (by decide)).1 (XS.iconst X0.here hx rfl (hb hby own_dmethod_4_code_11) k)) ?_
      show own_Go p.tables e below RR (s₁.setTop (mkF m 12 #[.val (.int xb), .val (.int yb), .val (.int (1 : Int32))] [(.int (0 : Int32))]))
      obtain ⟨fs, hrt_, hrun, hended, hW, hsame⟩ := X0.leave (v := some (.int (0 : Int32))) (fun h => by rw [Bd.returns] at h; cases h)
      refine own_fin (retN X0 hx (t := .boolean) Bd.returns (by simp) (hb hby own_dmethod_4_code_12) hrt_) (hRR _ ⟨_, hrun, hended, _, _, rfl, ?_, ⟨_, rfl⟩, hW, hsame.mono (by decide) (by decide)⟩)
      show own_QSM Z xb (1 : Int32) 1 yb (0 : Int32) 0 h0 n0 _ s₁.heap _
      rw [e0]
      exact ⟨own_ri ((own_sN (fun q_ => absurd q_.1 (by decide))).symm), N0, rfl⟩
    · show own_Go p.tables e below RR (s₁.setTop (mkF m 0 #[.val (.int xb), .val (.int yb), .unset] []))
      refine own_st (fun _ k => XS.iloadN X0.here hx rfl (hb hby own_dmethod_4_code_0) rfl (XS.iconst X0.here hx rfl (hb hby own_dmethod_4_code_1) (XS.iand X0.here hx rfl (hb hby own_dmethod_4_code_2) rfl k))) ?_
      show own_Go p.tables e below RR (s₁.setTop (mkF m 3 #[.val (.int xb), .val (.int yb), .unset] [(.int (xb &&& (3 : Int32)))]))
      rw [hgx]
      show own_Go p.tables e below RR (s₁.setTop (mkF m 3 #[.val (.int xb), .val (.int yb), .unset] [(.int (1 : Int32))]))
      show own_Go p.tables e below RR (s₁.setTop (mkF m 3 #[.val (.int xb), .val (.int yb), .unset] [(.int (1 : Int32))]))
      refine own_st (fun _ k => XS.istoreN X0.here hx rfl (hb hby own_dmethod_4_code_3) rfl (l' := #[.val (.int xb), .val (.int yb), .val (.int (1 : Int32))]) rfl (XS.iloadN X0.here hx rfl (hb hby own_dmethod_4_code_4) rfl (XS.iloadN X0.here hx rfl (hb hby own_dmethod_4_code_5) rfl (XS.iconst X0.here hx rfl (hb hby own_dmethod_4_code_6) (XS.iand X0.here hx rfl (hb hby own_dmethod_4_code_7) rfl k))))) ?_
      show own_Go p.tables e below RR (s₁.setTop (mkF m 8 #[.val (.int xb), .val (.int yb), .val (.int (1 : Int32))] [(.int (yb &&& (3 : Int32))), (.int (1 : Int32))]))
      rw [hgy]
      show own_Go p.tables e below RR (s₁.setTop (mkF m 8 #[.val (.int xb), .val (.int yb), .val (.int (1 : Int32))] [(.int (1 : Int32)), (.int (1 : Int32))]))
      show own_Go p.tables e below RR (s₁.setTop (mkF m 8 #[.val (.int xb), .val (.int yb), .val (.int (1 : Int32))] [(.int (1 : Int32)), (.int (1 : Int32))]))
      refine own_st (fun _ k => XS.icmpYes X0.here hx rfl (pc0 := 8) (pc' := 13) rfl (hb hby own_dmethod_4_code_8) rfl (teq (by decide)).1 (by decide) (by decide) (XS.iloadN X0.here hx rfl (hb hby own_dmethod_4_code_13) rfl (XS.iconst X0.here hx rfl (hb hby own_dmethod_4_code_14) k))) ?_
      show own_Go p.tables e below RR (s₁.setTop (mkF m 15 #[.val (.int xb), .val (.int yb), .val (.int (1 : Int32))] [(.int (1 : Int32)), (.int (1 : Int32))]))
      refine own_st (fun _ k => XS.icmpNo X0.here hx rfl (hb hby own_dmethod_4_code_15) rfl (flt (by decide)).1 (XS.iloadN X0.here hx rfl (hb hby own_dmethod_4_code_18) rfl (XS.iconst X0.here hx rfl (hb hby own_dmethod_4_code_19) k))) ?_
      show own_Go p.tables e below RR (s₁.setTop (mkF m 20 #[.val (.int xb), .val (.int yb), .val (.int (1 : Int32))] [(.int (0 : Int32)), (.int xb)]))
      obtain ⟨_, _, ⟨T1, L1, k1, n1⟩, -, X1, ⟨Lc1, hQ1, l1, y1, z1⟩, st1⟩ := Jvm.LawKit.callS X0 hx (y := (⟨"com/example/unstor/unstor/ScopeEqualsPinLaw", "ch", "(II)C"⟩ : MethodName)) hown (mvT hZ (hw _ (List.mem_of_getElem? (i := 29) rfl))) (mvT hZ (hw _ (List.mem_of_getElem? (i := 30) rfl))) (mvT hZ (hw _ (List.mem_of_getElem? (i := 5) rfl))) (mvT hZ (hw _ (List.mem_of_getElem? (i := 31) rfl))) (by decide) (backOf (W := 0) (own_rmCH0 l Z a0 hw [] xb h0 n0 Z0 ) hZ (hw _ (List.mem_of_getElem? (i := 31) rfl)) (hw _ (List.mem_of_getElem? (i := 5) rfl)) (by decide) (by decide)) (g := (mkF m 20 #[.val (.int xb), .val (.int yb), .val (.int (1 : Int32))] [(.int (0 : Int32)), (.int xb)])) rfl (by rw [hml]; rfl) (argsL := [(.int xb), (.int (0 : Int32))]) (rest := []) (lenOf own_pd__II_C rfl) rfl (by show 2 * 0 + _ ≤ _; exact Nat.le_of_eq rfl) (hb hby own_dmethod_4_code_20) (fun _ _ => ⟨rfl, e0, (by decide : 0 + 0 ≤ _), (by decide : 0 + 0 ≤ _)⟩)
      dsimp only [Pt.U, Pt.locs, Pt.cells, Pt.slots] at X1 l1 y1 z1 st1 hQ1
      subst l1 y1 z1
      obtain ⟨rfl, Nq1, eq1⟩ := hQ1
      have N1 := Fr.app N0 Nq1
      refine own_st st1 ?_
      show own_Go p.tables e below RR (T1.setTop (mkF m 23 #[.val (.int xb), .val (.int yb), .val (.int (1 : Int32))] [(.int (own_u (((xb.toUInt32 >>> ((2 : Int32) &&& 31).toUInt32).toInt32) &&& (255 : Int32))))]))
      refine own_st (fun _ k => XS.iloadN X1.here hx rfl (hb hby own_dmethod_4_code_23) rfl (XS.iconst X1.here hx rfl (hb hby own_dmethod_4_code_24) k)) ?_
      show own_Go p.tables e below RR (T1.setTop (mkF m 25 #[.val (.int xb), .val (.int yb), .val (.int (1 : Int32))] [(.int (0 : Int32)), (.int yb), (.int (own_u (((xb.toUInt32 >>> ((2 : Int32) &&& 31).toUInt32).toInt32) &&& (255 : Int32))))]))
      obtain ⟨_, _, ⟨T2, L2, k2, n2⟩, -, X2, ⟨Lc2, hQ2, l2, y2, z2⟩, st2⟩ := Jvm.LawKit.callS X1 hx (y := (⟨"com/example/unstor/unstor/ScopeEqualsPinLaw", "ch", "(II)C"⟩ : MethodName)) hown (mvT hZ (hw _ (List.mem_of_getElem? (i := 29) rfl))) (mvT hZ (hw _ (List.mem_of_getElem? (i := 30) rfl))) (mvT hZ (hw _ (List.mem_of_getElem? (i := 5) rfl))) (mvT hZ (hw _ (List.mem_of_getElem? (i := 31) rfl))) (by decide) (backOf (W := 1) (own_rmCH0 l Z a0 hw [] yb h0 n0 Z0 ) hZ (hw _ (List.mem_of_getElem? (i := 31) rfl)) (hw _ (List.mem_of_getElem? (i := 5) rfl)) (by decide) (by decide)) (g := (mkF m 25 #[.val (.int xb), .val (.int yb), .val (.int (1 : Int32))] [(.int (0 : Int32)), (.int yb), (.int (own_u (((xb.toUInt32 >>> ((2 : Int32) &&& 31).toUInt32).toInt32) &&& (255 : Int32))))])) rfl (by rw [hml]; rfl) (argsL := [(.int yb), (.int (0 : Int32))]) (rest := [(.int (own_u (((xb.toUInt32 >>> ((2 : Int32) &&& 31).toUInt32).toInt32) &&& (255 : Int32))))]) (lenOf own_pd__II_C rfl) rfl (by show 2 * 0 + _ ≤ _; exact Nat.le_of_eq rfl) (hb hby own_dmethod_4_code_25) (fun _ _ => ⟨rfl, eq1, (by decide : 0 + 0 ≤ _), (by decide : 0 + 0 ≤ _)⟩)
      dsimp only [Pt.U, Pt.locs, Pt.cells, Pt.slots] at X2 l2 y2 z2 st2 hQ2
      subst l2 y2 z2
      obtain ⟨rfl, Nq2, eq2⟩ := hQ2
      have N2 := Fr.app N1 Nq2
      refine own_st st2 ?_
      show own_Go p.tables e below RR (T2.setTop (mkF m 28 #[.val (.int xb), .val (.int yb), .val (.int (1 : Int32))] [(.int (own_u (((yb.toUInt32 >>> ((2 : Int32) &&& 31).toUInt32).toInt32) &&& (255 : Int32)))), (.int (own_u (((xb.toUInt32 >>> ((2 : Int32) &&& 31).toUInt32).toInt32) &&& (255 : Int32))))]))
      by_cases hc28_3 : (own_u (((xb.toUInt32 >>> ((2 : Int32) &&& 31).toUInt32).toInt32) &&& (255 : Int32))) = (own_u (((yb.toUInt32 >>> ((2 : Int32) &&& 31).toUInt32).toInt32) &&& (255 : Int32)))
      · refine own_st (fun _ k => XS.icmpYes X2.here hx rfl (pc0 := 28) (pc' := 33) rfl (hb hby own_dmethod_4_code_28) rfl (teq hc28_3).1 (by decide) (by decide) (XS.iloadN X2.here hx rfl (hb hby own_dmethod_4_code_33) rfl (XS.iconst X2.here hx rfl (hb hby own_dmethod_4_code_34) k))) ?_
        show own_Go p.tables e below RR (T2.setTop (mkF m 35 #[.val (.int xb), .val (.int yb), .val (.int (1 : Int32))] [(.int (2 : Int32)), (.int (1 : Int32))]))
        refine own_st (fun _ k => XS.icmpYes X2.here hx rfl (pc0 := 35) (pc' := 53) rfl (hb hby own_dmethod_4_code_35) rfl (tlt (by decide)).1 (by decide) (by decide) (XS.iloadN X2.here hx rfl (hb hby own_dmethod_4_code_53) rfl (XS.iconst X2.here hx rfl (hb hby own_dmethod_4_code_54) k))) ?_
        show own_Go p.tables e below RR (T2.setTop (mkF m 55 #[.val (.int xb), .val (.int yb), .val (.int (1 : Int32))] [(.int (3 : Int32)), (.int (1 : Int32))]))
        refine own_st (fun _ k => XS.icmpYes X2.here hx rfl (pc0 := 55) (pc' := 73) rfl (hb hby own_dmethod_4_code_55) rfl (tlt (by decide)).1 (by decide) (by decide) (XS.iconst X2.here hx rfl (hb hby own_dmethod_4_code_73) k)) ?_
        show own_Go p.tables e below RR (T2.setTop (mkF m 74 #[.val (.int xb), .val (.int yb), .val (.int (1 : Int32))] [(.int (1 : Int32))]))
        obtain ⟨fs, hrt_, hrun, hended, hW, hsame⟩ := X2.leave (v := some (.int (1 : Int32))) (fun h => by rw [Bd.returns] at h; cases h)
        refine own_fin (retN X2 hx (t := .boolean) Bd.returns (by simp) (hb hby own_dmethod_4_code_74) hrt_) (hRR _ ⟨_, hrun, hended, _, _, rfl, ?_, ⟨_, rfl⟩, hW, hsame.mono (by decide) (by decide)⟩)
        show own_QSM Z xb (1 : Int32) 1 yb (1 : Int32) 1 h0 n0 _ T2.heap _
        rw [eq2]
        exact ⟨own_ri ((own_sY ⟨rfl, fun _ => ((own_ueq (own_255 _) (own_255 _)).mp hc28_3), fun z_ => absurd z_ (by decide), fun z_ => absurd z_ (by decide)⟩).symm), N2, rfl⟩
      · refine own_st (fun _ k => XS.icmpNo X2.here hx rfl (hb hby own_dmethod_4_code_28) rfl (feq hc28_3).1 (XS.iconst X2.here hx rfl (hb hby own_dmethod_4_code_31) k)) ?_
        show own_Go p.tables e below RR (T2.setTop (mkF m 32 #[.val (.int xb), .val (.int yb), .val (.int (1 : Int32))] [(.int (0 : Int32))]))
        obtain ⟨fs, hrt_, hrun, hended, hW, hsame⟩ := X2.leave (v := some (.int (0 : Int32))) (fun h => by rw [Bd.returns] at h; cases h)
        refine own_fin (retN X2 hx (t := .boolean) Bd.returns (by simp) (hb hby own_dmethod_4_code_32) hrt_) (hRR _ ⟨_, hrun, hended, _, _, rfl, ?_, ⟨_, rfl⟩, hW, hsame.mono (by decide) (by decide)⟩)
        show own_QSM Z xb (1 : Int32) 1 yb (1 : Int32) 1 h0 n0 _ T2.heap _
        rw [eq2]
        exact ⟨own_ri ((own_sN (fun q_ => (fun z_ => hc28_3 ((own_ueq (own_255 _) (own_255 _)).mpr z_)) (q_.2.1 (by decide)))).symm), N2, rfl⟩
    · show own_Go p.tables e below RR (s₁.setTop (mkF m 0 #[.val (.int xb), .val (.int yb), .unset] []))
      refine own_st (fun _ k => XS.iloadN X0.here hx rfl (hb hby own_dmethod_4_code_0) rfl (XS.iconst X0.here hx rfl (hb hby own_dmethod_4_code_1) (XS.iand X0.here hx rfl (hb hby own_dmethod_4_code_2) rfl k))) ?_
      show own_Go p.tables e below RR (s₁.setTop (mkF m 3 #[.val (.int xb), .val (.int yb), .unset] [(.int (xb &&& (3 : Int32)))]))
      rw [hgx]
      show own_Go p.tables e below RR (s₁.setTop (mkF m 3 #[.val (.int xb), .val (.int yb), .unset] [(.int (1 : Int32))]))
      show own_Go p.tables e below RR (s₁.setTop (mkF m 3 #[.val (.int xb), .val (.int yb), .unset] [(.int (1 : Int32))]))
      refine own_st (fun _ k => XS.istoreN X0.here hx rfl (hb hby own_dmethod_4_code_3) rfl (l' := #[.val (.int xb), .val (.int yb), .val (.int (1 : Int32))]) rfl (XS.iloadN X0.here hx rfl (hb hby own_dmethod_4_code_4) rfl (XS.iloadN X0.here hx rfl (hb hby own_dmethod_4_code_5) rfl (XS.iconst X0.here hx rfl (hb hby own_dmethod_4_code_6) (XS.iand X0.here hx rfl (hb hby own_dmethod_4_code_7) rfl k))))) ?_
      show own_Go p.tables e below RR (s₁.setTop (mkF m 8 #[.val (.int xb), .val (.int yb), .val (.int (1 : Int32))] [(.int (yb &&& (3 : Int32))), (.int (1 : Int32))]))
      rw [hgy]
      show own_Go p.tables e below RR (s₁.setTop (mkF m 8 #[.val (.int xb), .val (.int yb), .val (.int (1 : Int32))] [(.int (2 : Int32)), (.int (1 : Int32))]))
      show own_Go p.tables e below RR (s₁.setTop (mkF m 8 #[.val (.int xb), .val (.int yb), .val (.int (1 : Int32))] [(.int (2 : Int32)), (.int (1 : Int32))]))
      refine own_st (fun _ k => XS.icmpNo X0.here hx rfl (hb hby own_dmethod_4_code_8) rfl (feq (by decide)).1 (XS.iconst X0.here hx rfl (hb hby own_dmethod_4_code_11) k)) ?_
      show own_Go p.tables e below RR (s₁.setTop (mkF m 12 #[.val (.int xb), .val (.int yb), .val (.int (1 : Int32))] [(.int (0 : Int32))]))
      obtain ⟨fs, hrt_, hrun, hended, hW, hsame⟩ := X0.leave (v := some (.int (0 : Int32))) (fun h => by rw [Bd.returns] at h; cases h)
      refine own_fin (retN X0 hx (t := .boolean) Bd.returns (by simp) (hb hby own_dmethod_4_code_12) hrt_) (hRR _ ⟨_, hrun, hended, _, _, rfl, ?_, ⟨_, rfl⟩, hW, hsame.mono (by decide) (by decide)⟩)
      show own_QSM Z xb (1 : Int32) 1 yb (2 : Int32) 2 h0 n0 _ s₁.heap _
      rw [e0]
      exact ⟨own_ri ((own_sN (fun q_ => absurd q_.1 (by decide))).symm), N0, rfl⟩
    · show own_Go p.tables e below RR (s₁.setTop (mkF m 0 #[.val (.int xb), .val (.int yb), .unset] []))
      refine own_st (fun _ k => XS.iloadN X0.here hx rfl (hb hby own_dmethod_4_code_0) rfl (XS.iconst X0.here hx rfl (hb hby own_dmethod_4_code_1) (XS.iand X0.here hx rfl (hb hby own_dmethod_4_code_2) rfl k))) ?_
      show own_Go p.tables e below RR (s₁.setTop (mkF m 3 #[.val (.int xb), .val (.int yb), .unset] [(.int (xb &&& (3 : Int32)))]))
      rw [hgx]
      show own_Go p.tables e below RR (s₁.setTop (mkF m 3 #[.val (.int xb), .val (.int yb), .unset] [(.int (1 : Int32))]))
      show own_Go p.tables e below RR (s₁.setTop (mkF m 3 #[.val (.int xb), .val (.int yb), .unset] [(.int (1 : Int32))]))
      refine own_st (fun _ k => XS.istoreN X0.here hx rfl (hb hby own_dmethod_4_code_3) rfl (l' := #[.val (.int xb), .val (.int yb), .val (.int (1 : Int32))]) rfl (XS.iloadN X0.here hx rfl (hb hby own_dmethod_4_code_4) rfl (XS.iloadN X0.here hx rfl (hb hby own_dmethod_4_code_5) rfl (XS.iconst X0.here hx rfl (hb hby own_dmethod_4_code_6) (XS.iand X0.here hx rfl (hb hby own_dmethod_4_code_7) rfl k))))) ?_
      show own_Go p.tables e below RR (s₁.setTop (mkF m 8 #[.val (.int xb), .val (.int yb), .val (.int (1 : Int32))] [(.int (yb &&& (3 : Int32))), (.int (1 : Int32))]))
      rw [hgy]
      show own_Go p.tables e below RR (s₁.setTop (mkF m 8 #[.val (.int xb), .val (.int yb), .val (.int (1 : Int32))] [(.int (3 : Int32)), (.int (1 : Int32))]))
      show own_Go p.tables e below RR (s₁.setTop (mkF m 8 #[.val (.int xb), .val (.int yb), .val (.int (1 : Int32))] [(.int (3 : Int32)), (.int (1 : Int32))]))
      refine own_st (fun _ k => XS.icmpNo X0.here hx rfl (hb hby own_dmethod_4_code_8) rfl (feq (by decide)).1 (XS.iconst X0.here hx rfl (hb hby own_dmethod_4_code_11) k)) ?_
      show own_Go p.tables e below RR (s₁.setTop (mkF m 12 #[.val (.int xb), .val (.int yb), .val (.int (1 : Int32))] [(.int (0 : Int32))]))
      obtain ⟨fs, hrt_, hrun, hended, hW, hsame⟩ := X0.leave (v := some (.int (0 : Int32))) (fun h => by rw [Bd.returns] at h; cases h)
      refine own_fin (retN X0 hx (t := .boolean) Bd.returns (by simp) (hb hby own_dmethod_4_code_12) hrt_) (hRR _ ⟨_, hrun, hended, _, _, rfl, ?_, ⟨_, rfl⟩, hW, hsame.mono (by decide) (by decide)⟩)
      show own_QSM Z xb (1 : Int32) 1 yb (3 : Int32) 3 h0 n0 _ s₁.heap _
      rw [e0]
      exact ⟨own_ri ((own_sN (fun q_ => absurd q_.1 (by decide))).symm), N0, rfl⟩
  · rcases hyl with ⟨rfl, rfl⟩ | ⟨rfl, rfl⟩ | ⟨rfl, rfl⟩ | ⟨rfl, rfl⟩
    · show own_Go p.tables e below RR (s₁.setTop (mkF m 0 #[.val (.int xb), .val (.int yb), .unset] []))
      refine own_st (fun _ k => XS.iloadN X0.here hx rfl (hb hby own_dmethod_4_code_0) rfl (XS.iconst X0.here hx rfl (hb hby own_dmethod_4_code_1) (XS.iand X0.here hx rfl (hb hby own_dmethod_4_code_2) rfl k))) ?_
      show own_Go p.tables e below RR (s₁.setTop (mkF m 3 #[.val (.int xb), .val (.int yb), .unset] [(.int (xb &&& (3 : Int32)))]))
      rw [hgx]
      show own_Go p.tables e below RR (s₁.setTop (mkF m 3 #[.val (.int xb), .val (.int yb), .unset] [(.int (2 : Int32))]))
      show own_Go p.tables e below RR (s₁.setTop (mkF m 3 #[.val (.int xb), .val (.int yb), .unset] [(.int (2 : Int32))]))
      refine own_st (fun _ k => XS.istoreN X0.here hx rfl (hb hby own_dmethod_4_code_3) rfl (l' := #[.val (.int xb), .val (.int yb), .val (.int (2 : Int32))]) rfl (XS.iloadN X0.here hx rfl (hb hby own_dmethod_4_code_4) rfl (XS.iloadN X0.here hx rfl (hb hby own_dmethod_4_code_5) rfl (XS.iconst X0.here hx rfl (hb hby own_dmethod_4_code_6) (XS.iand X0.here hx rfl (hb hby own_dmethod_4_code_7) rfl k))))) ?_
      show own_Go p.tables e below RR (s₁.setTop (mkF m 8 #[.val (.int xb), .val (.int yb), .val (.int (2 : Int32))] [(.int (yb &&& (3 : Int32))), (.int (2 : Int32))]))
      rw [hgy]
      show own_Go p.tables e below RR (s₁.setTop (mkF m 8 #[.val (.int xb), .val (.int yb), .val (.int (2 : Int32))] [(.int (0 : Int32)), (.int (2 : Int32))]))
      show own_Go p.tables e below RR (s₁.setTop (mkF m 8 #[.val (.int xb), .val (.int yb), .val (.int (2 : Int32))] [(.int (0 : Int32)), (.int (2 : Int32))]))
      refine own_st (fun _ k => XS.icmpNo X0.here hx rfl (hb hby own_dmethod_4_code_8) rfl (feq (by decide)).1 (XS.iconst X0.here hx rfl (hb hby own_dmethod_4_code_11) k)) ?_
      show own_Go p.tables e below RR (s₁.setTop (mkF m 12 #[.val (.int xb), .val (.int yb), .val (.int (2 : Int32))] [(.int (0 : Int32))]))
      obtain ⟨fs, hrt_, hrun, hended, hW, hsame⟩ := X0.leave (v := some (.int (0 : Int32))) (fun h => by rw [Bd.returns] at h; cases h)
      refine own_fin (retN X0 hx (t := .boolean) Bd.returns (by simp) (hb hby own_dmethod_4_code_12) hrt_) (hRR _ ⟨_, hrun, hended, _, _, rfl, ?_, ⟨_, rfl⟩, hW, hsame.mono (by decide) (by decide)⟩)
      show own_QSM Z xb (2 : Int32) 2 yb (0 : Int32) 0 h0 n0 _ s₁.heap _
      rw [e0]
      exact ⟨own_ri ((own_sN (fun q_ => absurd q_.1 (by decide))).symm), N0, rfl⟩
    · show own_Go p.tables e below RR (s₁.setTop (mkF m 0 #[.val (.int xb), .val (.int yb), .unset] []))
      refine own_st (fun _ k => XS.iloadN X0.here hx rfl (hb hby own_dmethod_4_code_0) rfl (XS.iconst X0.here hx rfl (hb hby own_dmethod_4_code_1) (XS.iand X0.here hx rfl (hb hby own_dmethod_4_code_2) rfl k))) ?_
      show own_Go p.tables e below RR (s₁.setTop (mkF m 3 #[.val (.int xb), .val (.int yb), .unset] [(.int (xb &&& (3 : Int32)))]))
      rw [hgx]
      show own_Go p.tables e below RR (s₁.setTop (mkF m 3 #[.val (.int xb), .val (.int yb), .unset] [(.int (2 : Int32))]))
      show own_Go p.tables e below RR (s₁.setTop (mkF m 3 #[.val (.int xb), .val (.int yb), .unset] [(.int (2 : Int32))]))
      refine own_st (fun _ k => XS.istoreN X0.here hx rfl (hb hby own_dmethod_4_code_3) rfl (l' := #[.val (.int xb), .val (.int yb), .val (.int (2 : Int32))]) rfl (XS.iloadN X0.here hx rfl (hb hby own_dmethod_4_code_4) rfl (XS.iloadN X0.here hx rfl (hb hby own_dmethod_4_code_5) rfl (XS.iconst X0.here hx rfl (hb hby own_dmethod_4_code_6) (XS.iand X0.here hx rfl (hb hby own_dmethod_4_code_7) rfl k))))) ?_
      show own_Go p.tables e below RR (s₁.setTop (mkF m 8 #[.val (.int xb), .val (.int yb), .val (.int (2 : Int32))] [(.int (yb &&& (3 : Int32))), (.int (2 : Int32))]))
      rw [hgy]
      show own_Go p.tables e below RR (s₁.setTop (mkF m 8 #[.val (.int xb), .val (.int yb), .val (.int (2 : Int32))] [(.int (1 : Int32)), (.int (2 : Int32))]))
      show own_Go p.tables e below RR (s₁.setTop (mkF m 8 #[.val (.int xb), .val (.int yb), .val (.int (2 : Int32))] [(.int (1 : Int32)), (.int (2 : Int32))]))
      refine own_st (fun _ k => XS.icmpNo X0.here hx rfl (hb hby own_dmethod_4_code_8) rfl (feq (by decide)).1 (XS.iconst X0.here hx rfl (hb hby own_dmethod_4_code_11) k)) ?_
      show own_Go p.tables e below RR (s₁.setTop (mkF m 12 #[.val (.int xb), .val (.int yb), .val (.int (2 : Int32))] [(.int (0 : Int32))]))
      obtain ⟨fs, hrt_, hrun, hended, hW, hsame⟩ := X0.leave (v := some (.int (0 : Int32))) (fun h => by rw [Bd.returns] at h; cases h)
      refine own_fin (retN X0 hx (t := .boolean) Bd.returns (by simp) (hb hby own_dmethod_4_code_12) hrt_) (hRR _ ⟨_, hrun, hended, _, _, rfl, ?_, ⟨_, rfl⟩, hW, hsame.mono (by decide) (by decide)⟩)
      show own_QSM Z xb (2 : Int32) 2 yb (1 : Int32) 1 h0 n0 _ s₁.heap _
      rw [e0]
      exact ⟨own_ri ((own_sN (fun q_ => absurd q_.1 (by decide))).symm), N0, rfl⟩
    · show own_Go p.tables e below RR (s₁.setTop (mkF m 0 #[.val (.int xb), .val (.int yb), .unset] []))
      refine own_st (fun _ k => XS.iloadN X0.here hx rfl (hb hby own_dmethod_4_code_0) rfl (XS.iconst X0.here hx rfl (hb hby own_dmethod_4_code_1) (XS.iand X0.here hx rfl (hb hby own_dmethod_4_code_2) rfl k))) ?_
      show own_Go p.tables e below RR (s₁.setTop (mkF m 3 #[.val (.int xb), .val (.int yb), .unset] [(.int (xb &&& (3 : Int32)))]))
      rw [hgx]
      show own_Go p.tables e below RR (s₁.setTop (mkF m 3 #[.val (.int xb), .val (.int yb), .unset] [(.int (2 : Int32))]))
      show own_Go p.tables e below RR (s₁.setTop (mkF m 3 #[.val (.int xb), .val (.int yb), .unset] [(.int (2 : Int32))]))
      refine own_st (fun _ k => XS.istoreN X0.here hx rfl (hb hby own_dmethod_4_code_3) rfl (l' := #[.val (.int xb), .val (.int yb), .val (.int (2 : Int32))]) rfl (XS.iloadN X0.here hx rfl (hb hby own_dmethod_4_code_4) rfl (XS.iloadN X0.here hx rfl (hb hby own_dmethod_4_code_5) rfl (XS.iconst X0.here hx rfl (hb hby own_dmethod_4_code_6) (XS.iand X0.here hx rfl (hb hby own_dmethod_4_code_7) rfl k))))) ?_
      show own_Go p.tables e below RR (s₁.setTop (mkF m 8 #[.val (.int xb), .val (.int yb), .val (.int (2 : Int32))] [(.int (yb &&& (3 : Int32))), (.int (2 : Int32))]))
      rw [hgy]
      show own_Go p.tables e below RR (s₁.setTop (mkF m 8 #[.val (.int xb), .val (.int yb), .val (.int (2 : Int32))] [(.int (2 : Int32)), (.int (2 : Int32))]))
      show own_Go p.tables e below RR (s₁.setTop (mkF m 8 #[.val (.int xb), .val (.int yb), .val (.int (2 : Int32))] [(.int (2 : Int32)), (.int (2 : Int32))]))
      refine own_st (fun _ k => XS.icmpYes X0.here hx rfl (pc0 := 8) (pc' := 13) rfl (hb hby own_dmethod_4_code_8) rfl (teq (by decide)).1 (by decide) (by decide) (XS.iloadN X0.here hx rfl (hb hby own_dmethod_4_code_13) rfl (XS.iconst X0.here hx rfl (hb hby own_dmethod_4_code_14) k))) ?_
      show own_Go p.tables e below RR (s₁.setTop (mkF m 15 #[.val (.int xb), .val (.int yb), .val (.int (2 : Int32))] [(.int (1 : Int32)), (.int (2 : Int32))]))
      refine own_st (fun _ k => XS.icmpNo X0.here hx rfl (hb hby own_dmethod_4_code_15) rfl (flt (by decide)).1 (XS.iloadN X0.here hx rfl (hb hby own_dmethod_4_code_18) rfl (XS.iconst X0.here hx rfl (hb hby own_dmethod_4_code_19) k))) ?_
      show own_Go p.tables e below RR (s₁.setTop (mkF m 20 #[.val (.int xb), .val (.int yb), .val (.int (2 : Int32))] [(.int (0 : Int32)), (.int xb)]))
      obtain ⟨_, _, ⟨T4, L4, k4, n4⟩, -, X4, ⟨Lc4, hQ4, l4, y4, z4⟩, st4⟩ := Jvm.LawKit.callS X0 hx (y := (⟨"com/example/unstor/unstor/ScopeEqualsPinLaw", "ch", "(II)C"⟩ : MethodName)) hown (mvT hZ (hw _ (List.mem_of_getElem? (i := 29) rfl))) (mvT hZ (hw _ (List.mem_of_getElem? (i := 30) rfl))) (mvT hZ (hw _ (List.mem_of_getElem? (i := 5) rfl))) (mvT hZ (hw _ (List.mem_of_getElem? (i := 31) rfl))) (by decide) (backOf (W := 0) (own_rmCH0 l Z a0 hw [] xb h0 n0 Z0 ) hZ (hw _ (List.mem_of_getElem? (i := 31) rfl)) (hw _ (List.mem_of_getElem? (i := 5) rfl)) (by decide) (by decide)) (g := (mkF m 20 #[.val (.int xb), .val (.int yb), .val (.int (2 : Int32))] [(.int (0 : Int32)), (.int xb)])) rfl (by rw [hml]; rfl) (argsL := [(.int xb), (.int (0 : Int32))]) (rest := []) (lenOf own_pd__II_C rfl) rfl (by show 2 * 0 + _ ≤ _; exact Nat.le_of_eq rfl) (hb hby own_dmethod_4_code_20) (fun _ _ => ⟨rfl, e0, (by decide : 0 + 0 ≤ _), (by decide : 0 + 0 ≤ _)⟩)
      dsimp only [Pt.U, Pt.locs, Pt.cells, Pt.slots] at X4 l4 y4 z4 st4 hQ4
      subst l4 y4 z4
      obtain ⟨rfl, Nq4, eq4⟩ := hQ4
      have N4 := Fr.app N0 Nq4
      refine own_st st4 ?_
      show own_Go p.tables e below RR (T4.setTop (mkF m 23 #[.val (.int xb), .val (.int yb), .val (.int (2 : Int32))] [(.int (own_u (((xb.toUInt32 >>> ((2 : Int32) &&& 31).toUInt32).toInt32) &&& (255 : Int32))))]))
      refine own_st (fun _ k => XS.iloadN X4.here hx rfl (hb hby own_dmethod_4_code_23) rfl (XS.iconst X4.here hx rfl (hb hby own_dmethod_4_code_24) k)) ?_
      show own_Go p.tables e below RR (T4.setTop (mkF m 25 #[.val (.int xb), .val (.int yb), .val (.int (2 : Int32))] [(.int (0 : Int32)), (.int yb), (.int (own_u (((xb.toUInt32 >>> ((2 : Int32) &&& 31).toUInt32).toInt32) &&& (255 : Int32))))]))
      obtain ⟨_, _, ⟨T5, L5, k5, n5⟩, -, X5, ⟨Lc5, hQ5, l5, y5, z5⟩, st5⟩ := Jvm.LawKit.callS X4 hx (y := (⟨"com/example/unstor/unstor/ScopeEqualsPinLaw", "ch", "(II)C"⟩ : MethodName)) hown (mvT hZ (hw _ (List.mem_of_getElem? (i := 29) rfl))) (mvT hZ (hw _ (List.mem_of_getElem? (i := 30) rfl))) (mvT hZ (hw _ (List.mem_of_getElem? (i := 5) rfl))) (mvT hZ (hw _ (List.mem_of_getElem? (i := 31) rfl))) (by decide) (backOf (W := 1) (own_rmCH0 l Z a0 hw [] yb h0 n0 Z0 ) hZ (hw _ (List.mem_of_getElem? (i := 31) rfl)) (hw _ (List.mem_of_getElem? (i := 5) rfl)) (by decide) (by decide)) (g := (mkF m 25 #[.val (.int xb), .val (.int yb), .val (.int (2 : Int32))] [(.int (0 : Int32)), (.int yb), (.int (own_u (((xb.toUInt32 >>> ((2 : Int32) &&& 31).toUInt32).toInt32) &&& (255 : Int32))))])) rfl (by rw [hml]; rfl) (argsL := [(.int yb), (.int (0 : Int32))]) (rest := [(.int (own_u (((xb.toUInt32 >>> ((2 : Int32) &&& 31).toUInt32).toInt32) &&& (255 : Int32))))]) (lenOf own_pd__II_C rfl) rfl (by show 2 * 0 + _ ≤ _; exact Nat.le_of_eq rfl) (hb hby own_dmethod_4_code_25) (fun _ _ => ⟨rfl, eq4, (by decide : 0 + 0 ≤ _), (by decide : 0 + 0 ≤ _)⟩)
      dsimp only [Pt.U, Pt.locs, Pt.cells, Pt.slots] at X5 l5 y5 z5 st5 hQ5
      subst l5 y5 z5
      obtain ⟨rfl, Nq5, eq5⟩ := hQ5
      have N5 := Fr.app N4 Nq5
      refine own_st st5 ?_
      show own_Go p.tables e below RR (T5.setTop (mkF m 28 #[.val (.int xb), .val (.int yb), .val (.int (2 : Int32))] [(.int (own_u (((yb.toUInt32 >>> ((2 : Int32) &&& 31).toUInt32).toInt32) &&& (255 : Int32)))), (.int (own_u (((xb.toUInt32 >>> ((2 : Int32) &&& 31).toUInt32).toInt32) &&& (255 : Int32))))]))
      by_cases hc28_6 : (own_u (((xb.toUInt32 >>> ((2 : Int32) &&& 31).toUInt32).toInt32) &&& (255 : Int32))) = (own_u (((yb.toUInt32 >>> ((2 : Int32) &&& 31).toUInt32).toInt32) &&& (255 : Int32)))
      · refine own_st (fun _ k => XS.icmpYes X5.here hx rfl (pc0 := 28) (pc' := 33) rfl (hb hby own_dmethod_4_code_28) rfl (teq hc28_6).1 (by decide) (by decide) (XS.iloadN X5.here hx rfl (hb hby own_dmethod_4_code_33) rfl (XS.iconst X5.here hx rfl (hb hby own_dmethod_4_code_34) k))) ?_
        show own_Go p.tables e below RR (T5.setTop (mkF m 35 #[.val (.int xb), .val (.int yb), .val (.int (2 : Int32))] [(.int (2 : Int32)), (.int (2 : Int32))]))
        refine own_st (fun _ k => XS.icmpNo X5.here hx rfl (hb hby own_dmethod_4_code_35) rfl (flt (by decide)).1 (XS.iloadN X5.here hx rfl (hb hby own_dmethod_4_code_38) rfl (XS.iconst X5.here hx rfl (hb hby own_dmethod_4_code_39) k))) ?_
        show own_Go p.tables e below RR (T5.setTop (mkF m 40 #[.val (.int xb), .val (.int yb), .val (.int (2 : Int32))] [(.int (1 : Int32)), (.int xb)]))
        obtain ⟨_, _, ⟨T7, L7, k7, n7⟩, -, X7, ⟨Lc7, hQ7, l7, y7, z7⟩, st7⟩ := Jvm.LawKit.callS X5 hx (y := (⟨"com/example/unstor/unstor/ScopeEqualsPinLaw", "ch", "(II)C"⟩ : MethodName)) hown (mvT hZ (hw _ (List.mem_of_getElem? (i := 29) rfl))) (mvT hZ (hw _ (List.mem_of_getElem? (i := 30) rfl))) (mvT hZ (hw _ (List.mem_of_getElem? (i := 5) rfl))) (mvT hZ (hw _ (List.mem_of_getElem? (i := 31) rfl))) (by decide) (backOf (W := 0) (own_rmCH1 l Z a0 hw [] xb h0 n0 Z0 ) hZ (hw _ (List.mem_of_getElem? (i := 31) rfl)) (hw _ (List.mem_of_getElem? (i := 5) rfl)) (by decide) (by decide)) (g := (mkF m 40 #[.val (.int xb), .val (.int yb), .val (.int (2 : Int32))] [(.int (1 : Int32)), (.int xb)])) rfl (by rw [hml]; rfl) (argsL := [(.int xb), (.int (1 : Int32))]) (rest := []) (lenOf own_pd__II_C rfl) rfl (by show 2 * 0 + _ ≤ _; exact Nat.le_of_eq rfl) (hb hby own_dmethod_4_code_40) (fun _ _ => ⟨rfl, eq5, (by decide : 0 + 0 ≤ _), (by decide : 0 + 0 ≤ _)⟩)
        dsimp only [Pt.U, Pt.locs, Pt.cells, Pt.slots] at X7 l7 y7 z7 st7 hQ7
        subst l7 y7 z7
        obtain ⟨rfl, Nq7, eq7⟩ := hQ7
        have N7 := Fr.app N5 Nq7
        refine own_st st7 ?_
        show own_Go p.tables e below RR (T7.setTop (mkF m 43 #[.val (.int xb), .val (.int yb), .val (.int (2 : Int32))] [(.int (own_u (((xb.toUInt32 >>> ((10 : Int32) &&& 31).toUInt32).toInt32) &&& (255 : Int32))))]))
        refine own_st (fun _ k => XS.iloadN X7.here hx rfl (hb hby own_dmethod_4_code_43) rfl (XS.iconst X7.here hx rfl (hb hby own_dmethod_4_code_44) k)) ?_
        show own_Go p.tables e below RR (T7.setTop (mkF m 45 #[.val (.int xb), .val (.int yb), .val (.int (2 : Int32))] [(.int (1 : Int32)), (.int yb), (.int (own_u (((xb.toUInt32 >>> ((10 : Int32) &&& 31).toUInt32).toInt32) &&& (255 : Int32))))]))
        obtain ⟨_, _, ⟨T8, L8, k8, n8⟩, -, X8, ⟨Lc8, hQ8, l8, y8, z8⟩, st8⟩ := Jvm.LawKit.callS X7 hx (y := (⟨"com/example/unstor/unstor/ScopeEqualsPinLaw", "ch", "(II)C"⟩ : MethodName)) hown (mvT hZ (hw _ (List.mem_of_getElem? (i := 29) rfl))) (mvT hZ (hw _ (List.mem_of_getElem? (i := 30) rfl))) (mvT hZ (hw _ (List.mem_of_getElem? (i := 5) rfl))) (mvT hZ (hw _ (List.mem_of_getElem? (i := 31) rfl))) (by decide) (backOf (W := 1) (own_rmCH1 l Z a0 hw [] yb h0 n0 Z0 ) hZ (hw _ (List.mem_of_getElem? (i := 31) rfl)) (hw _ (List.mem_of_getElem? (i := 5) rfl)) (by decide) (by decide)) (g := (mkF m 45 #[.val (.int xb), .val (.int yb), .val (.int (2 : Int32))] [(.int (1 : Int32)), (.int yb), (.int (own_u (((xb.toUInt32 >>> ((10 : Int32) &&& 31).toUInt32).toInt32) &&& (255 : Int32))))])) rfl (by rw [hml]; rfl) (argsL := [(.int yb), (.int (1 : Int32))]) (rest := [(.int (own_u (((xb.toUInt32 >>> ((10 : Int32) &&& 31).toUInt32).toInt32) &&& (255 : Int32))))]) (lenOf own_pd__II_C rfl) rfl (by show 2 * 0 + _ ≤ _; exact Nat.le_of_eq rfl) (hb hby own_dmethod_4_code_45) (fun _ _ => ⟨rfl, eq7, (by decide : 0 + 0 ≤ _), (by decide : 0 + 0 ≤ _)⟩)
        dsimp only [Pt.U, Pt.locs, Pt.cells, Pt.slots] at X8 l8 y8 z8 st8 hQ8
        subst l8 y8 z8
        obtain ⟨rfl, Nq8, eq8⟩ := hQ8
        have N8 := Fr.app N7 Nq8
        refine own_st st8 ?_
        show own_Go p.tables e below RR (T8.setTop (mkF m 48 #[.val (.int xb), .val (.int yb), .val (.int (2 : Int32))] [(.int (own_u (((yb.toUInt32 >>> ((10 : Int32) &&& 31).toUInt32).toInt32) &&& (255 : Int32)))), (.int (own_u (((xb.toUInt32 >>> ((10 : Int32) &&& 31).toUInt32).toInt32) &&& (255 : Int32))))]))
        by_cases hc48_9 : (own_u (((xb.toUInt32 >>> ((10 : Int32) &&& 31).toUInt32).toInt32) &&& (255 : Int32))) = (own_u (((yb.toUInt32 >>> ((10 : Int32) &&& 31).toUInt32).toInt32) &&& (255 : Int32)))
        · refine own_st (fun _ k => XS.icmpYes X8.here hx rfl (pc0 := 48) (pc' := 53) rfl (hb hby own_dmethod_4_code_48) rfl (teq hc48_9).1 (by decide) (by decide) (XS.iloadN X8.here hx rfl (hb hby own_dmethod_4_code_53) rfl (XS.iconst X8.here hx rfl (hb hby own_dmethod_4_code_54) k))) ?_
          show own_Go p.tables e below RR (T8.setTop (mkF m 55 #[.val (.int xb), .val (.int yb), .val (.int (2 : Int32))] [(.int (3 : Int32)), (.int (2 : Int32))]))
          refine own_st (fun _ k => XS.icmpYes X8.here hx rfl (pc0 := 55) (pc' := 73) rfl (hb hby own_dmethod_4_code_55) rfl (tlt (by decide)).1 (by decide) (by decide) (XS.iconst X8.here hx rfl (hb hby own_dmethod_4_code_73) k)) ?_
          show own_Go p.tables e below RR (T8.setTop (mkF m 74 #[.val (.int xb), .val (.int yb), .val (.int (2 : Int32))] [(.int (1 : Int32))]))
          obtain ⟨fs, hrt_, hrun, hended, hW, hsame⟩ := X8.leave (v := some (.int (1 : Int32))) (fun h => by rw [Bd.returns] at h; cases h)
          refine own_fin (retN X8 hx (t := .boolean) Bd.returns (by simp) (hb hby own_dmethod_4_code_74) hrt_) (hRR _ ⟨_, hrun, hended, _, _, rfl, ?_, ⟨_, rfl⟩, hW, hsame.mono (by decide) (by decide)⟩)
          show own_QSM Z xb (2 : Int32) 2 yb (2 : Int32) 2 h0 n0 _ T8.heap _
          rw [eq8]
          exact ⟨own_ri ((own_sY ⟨rfl, fun _ => ((own_ueq (own_255 _) (own_255 _)).mp hc28_6), fun _ => ((own_ueq (own_255 _) (own_255 _)).mp hc48_9), fun z_ => absurd z_ (by decide)⟩).symm), N8, rfl⟩
        · refine own_st (fun _ k => XS.icmpNo X8.here hx rfl (hb hby own_dmethod_4_code_48) rfl (feq hc48_9).1 (XS.iconst X8.here hx rfl (hb hby own_dmethod_4_code_51) k)) ?_
          show own_Go p.tables e below RR (T8.setTop (mkF m 52 #[.val (.int xb), .val (.int yb), .val (.int (2 : Int32))] [(.int (0 : Int32))]))
          obtain ⟨fs, hrt_, hrun, hended, hW, hsame⟩ := X8.leave (v := some (.int (0 : Int32))) (fun h => by rw [Bd.returns] at h; cases h)
          refine own_fin (retN X8 hx (t := .boolean) Bd.returns (by simp) (hb hby own_dmethod_4_code_52) hrt_) (hRR _ ⟨_, hrun, hended, _, _, rfl, ?_, ⟨_, rfl⟩, hW, hsame.mono (by decide) (by decide)⟩)
          show own_QSM Z xb (2 : Int32) 2 yb (2 : Int32) 2 h0 n0 _ T8.heap _
          rw [eq8]
          exact ⟨own_ri ((own_sN (fun q_ => (fun z_ => hc48_9 ((own_ueq (own_255 _) (own_255 _)).mpr z_)) (q_.2.2.1 (by decide)))).symm), N8, rfl⟩
      · refine own_st (fun _ k => XS.icmpNo X5.here hx rfl (hb hby own_dmethod_4_code_28) rfl (feq hc28_6).1 (XS.iconst X5.here hx rfl (hb hby own_dmethod_4_code_31) k)) ?_
        show own_Go p.tables e below RR (T5.setTop (mkF m 32 #[.val (.int xb), .val (.int yb), .val (.int (2 : Int32))] [(.int (0 : Int32))]))
        obtain ⟨fs, hrt_, hrun, hended, hW, hsame⟩ := X5.leave (v := some (.int (0 : Int32))) (fun h => by rw [Bd.returns] at h; cases h)
        refine own_fin (retN X5 hx (t := .boolean) Bd.returns (by simp) (hb hby own_dmethod_4_code_32) hrt_) (hRR _ ⟨_, hrun, hended, _, _, rfl, ?_, ⟨_, rfl⟩, hW, hsame.mono (by decide) (by decide)⟩)
        show own_QSM Z xb (2 : Int32) 2 yb (2 : Int32) 2 h0 n0 _ T5.heap _
        rw [eq5]
        exact ⟨own_ri ((own_sN (fun q_ => (fun z_ => hc28_6 ((own_ueq (own_255 _) (own_255 _)).mpr z_)) (q_.2.1 (by decide)))).symm), N5, rfl⟩
    · show own_Go p.tables e below RR (s₁.setTop (mkF m 0 #[.val (.int xb), .val (.int yb), .unset] []))
      refine own_st (fun _ k => XS.iloadN X0.here hx rfl (hb hby own_dmethod_4_code_0) rfl (XS.iconst X0.here hx rfl (hb hby own_dmethod_4_code_1) (XS.iand X0.here hx rfl (hb hby own_dmethod_4_code_2) rfl k))) ?_
      show own_Go p.tables e below RR (s₁.setTop (mkF m 3 #[.val (.int xb), .val (.int yb), .unset] [(.int (xb &&& (3 : Int32)))]))
      rw [hgx]
      show own_Go p.tables e below RR (s₁.setTop (mkF m 3 #[.val (.int xb), .val (.int yb), .unset] [(.int (2 : Int32))]))
      show own_Go p.tables e below RR (s₁.setTop (mkF m 3 #[.val (.int xb), .val (.int yb), .unset] [(.int (2 : Int32))]))
      refine own_st (fun _ k => XS.istoreN X0.here hx rfl (hb hby own_dmethod_4_code_3) rfl (l' := #[.val (.int xb), .val (.int yb), .val (.int (2 : Int32))]) rfl (XS.iloadN X0.here hx rfl (hb hby own_dmethod_4_code_4) rfl (XS.iloadN X0.here hx rfl (hb hby own_dmethod_4_code_5) rfl (XS.iconst X0.here hx rfl (hb hby own_dmethod_4_code_6) (XS.iand X0.here hx rfl (hb hby own_dmethod_4_code_7) rfl k))))) ?_
      show own_Go p.tables e below RR (s₁.setTop (mkF m 8 #[.val (.int xb), .val (.int yb), .val (.int (2 : Int32))] [(.int (yb &&& (3 : Int32))), (.int (2 : Int32))]))
      rw [hgy]
      show own_Go p.tables e below RR (s₁.setTop (mkF m 8 #[.val (.int xb), .val (.int yb), .val (.int (2 : Int32))] [(.int (3 : Int32)), (.int (2 : Int32))]))
      show own_Go p.tables e below RR (s₁.setTop (mkF m 8 #[.val (.int xb), .val (.int yb), .val (.int (2 : Int32))] [(.int (3 : Int32)), (.int (2 : Int32))]))
      refine own_st (fun _ k => XS.icmpNo X0.here hx rfl (hb hby own_dmethod_4_code_8) rfl (feq (by decide)).1 (XS.iconst X0.here hx rfl (hb hby own_dmethod_4_code_11) k)) ?_
      show own_Go p.tables e below RR (s₁.setTop (mkF m 12 #[.val (.int xb), .val (.int yb), .val (.int (2 : Int32))] [(.int (0 : Int32))]))
      obtain ⟨fs, hrt_, hrun, hended, hW, hsame⟩ := X0.leave (v := some (.int (0 : Int32))) (fun h => by rw [Bd.returns] at h; cases h)
      refine own_fin (retN X0 hx (t := .boolean) Bd.returns (by simp) (hb hby own_dmethod_4_code_12) hrt_) (hRR _ ⟨_, hrun, hended, _, _, rfl, ?_, ⟨_, rfl⟩, hW, hsame.mono (by decide) (by decide)⟩)
      show own_QSM Z xb (2 : Int32) 2 yb (3 : Int32) 3 h0 n0 _ s₁.heap _
      rw [e0]
      exact ⟨own_ri ((own_sN (fun q_ => absurd q_.1 (by decide))).symm), N0, rfl⟩
  · rcases hyl with ⟨rfl, rfl⟩ | ⟨rfl, rfl⟩ | ⟨rfl, rfl⟩ | ⟨rfl, rfl⟩
    · show own_Go p.tables e below RR (s₁.setTop (mkF m 0 #[.val (.int xb), .val (.int yb), .unset] []))
      refine own_st (fun _ k => XS.iloadN X0.here hx rfl (hb hby own_dmethod_4_code_0) rfl (XS.iconst X0.here hx rfl (hb hby own_dmethod_4_code_1) (XS.iand X0.here hx rfl (hb hby own_dmethod_4_code_2) rfl k))) ?_
      show own_Go p.tables e below RR (s₁.setTop (mkF m 3 #[.val (.int xb), .val (.int yb), .unset] [(.int (xb &&& (3 : Int32)))]))
      rw [hgx]
      show own_Go p.tables e below RR (s₁.setTop (mkF m 3 #[.val (.int xb), .val (.int yb), .unset] [(.int (3 : Int32))]))
      show own_Go p.tables e below RR (s₁.setTop (mkF m 3 #[.val (.int xb), .val (.int yb), .unset] [(.int (3 : Int32))]))
      refine own_st (fun _ k => XS.istoreN X0.here hx rfl (hb hby own_dmethod_4_code_3) rfl (l' := #[.val (.int xb), .val (.int yb), .val (.int (3 : Int32))]) rfl (XS.iloadN X0.here hx rfl (hb hby own_dmethod_4_code_4) rfl (XS.iloadN X0.here hx rfl (hb hby own_dmethod_4_code_5) rfl (XS.iconst X0.here hx rfl (hb hby own_dmethod_4_code_6) (XS.iand X0.here hx rfl (hb hby own_dmethod_4_code_7) rfl k))))) ?_
      show own_Go p.tables e below RR (s₁.setTop (mkF m 8 #[.val (.int xb), .val (.int yb), .val (.int (3 : Int32))] [(.int (yb &&& (3 : Int32))), (.int (3 : Int32))]))
      rw [hgy]
      show own_Go p.tables e below RR (s₁.setTop (mkF m 8 #[.val (.int xb), .val (.int yb), .val (.int (3 : Int32))] [(.int (0 : Int32)), (.int (3 : Int32))]))
      show own_Go p.tables e below RR (s₁.setTop (mkF m 8 #[.val (.int xb), .val (.int yb), .val (.int (3 : Int32))] [(.int (0 : Int32)), (.int (3 : Int32))]))
      refine own_st (fun _ k => XS.icmpNo X0.here hx rfl (hb hby own_dmethod_4_code_8) rfl (feq (by decide)).1 (XS.iconst X0.here hx rfl (hb hby own_dmethod_4_code_11) k)) ?_
      show own_Go p.tables e below RR (s₁.setTop (mkF m 12 #[.val (.int xb), .val (.int yb), .val (.int (3 : Int32))] [(.int (0 : Int32))]))
      obtain ⟨fs, hrt_, hrun, hended, hW, hsame⟩ := X0.leave (v := some (.int (0 : Int32))) (fun h => by rw [Bd.returns] at h; cases h)
      refine own_fin (retN X0 hx (t := .boolean) Bd.returns (by simp) (hb hby own_dmethod_4_code_12) hrt_) (hRR _ ⟨_, hrun, hended, _, _, rfl, ?_, ⟨_, rfl⟩, hW, hsame.mono (by decide) (by decide)⟩)
      show own_QSM Z xb (3 : Int32) 3 yb (0 : Int32) 0 h0 n0 _ s₁.heap _
      rw [e0]
      exact ⟨own_ri ((own_sN (fun q_ => absurd q_.1 (by decide))).symm), N0, rfl⟩
    · show own_Go p.tables e below RR (s₁.setTop (mkF m 0 #[.val (.int xb), .val (.int yb), .unset] []))
      refine own_st (fun _ k => XS.iloadN X0.here hx rfl (hb hby own_dmethod_4_code_0) rfl (XS.iconst X0.here hx rfl (hb hby own_dmethod_4_code_1) (XS.iand X0.here hx rfl (hb hby own_dmethod_4_code_2) rfl k))) ?_
      show own_Go p.tables e below RR (s₁.setTop (mkF m 3 #[.val (.int xb), .val (.int yb), .unset] [(.int (xb &&& (3 : Int32)))]))
      rw [hgx]
      show own_Go p.tables e below RR (s₁.setTop (mkF m 3 #[.val (.int xb), .val (.int yb), .unset] [(.int (3 : Int32))]))
      show own_Go p.tables e below RR (s₁.setTop (mkF m 3 #[.val (.int xb), .val (.int yb), .unset] [(.int (3 : Int32))]))
      refine own_st (fun _ k => XS.istoreN X0.here hx rfl (hb hby own_dmethod_4_code_3) rfl (l' := #[.val (.int xb), .val (.int yb), .val (.int (3 : Int32))]) rfl (XS.iloadN X0.here hx rfl (hb hby own_dmethod_4_code_4) rfl (XS.iloadN X0.here hx rfl (hb hby own_dmethod_4_code_5) rfl (XS.iconst X0.here hx rfl (hb hby own_dmethod_4_code_6) (XS.iand X0.here hx rfl (hb hby own_dmethod_4_code_7) rfl k))))) ?_
      show own_Go p.tables e below RR (s₁.setTop (mkF m 8 #[.val (.int xb), .val (.int yb), .val (.int (3 : Int32))] [(.int (yb &&& (3 : Int32))), (.int (3 : Int32))]))
      rw [hgy]
      show own_Go p.tables e below RR (s₁.setTop (mkF m 8 #[.val (.int xb), .val (.int yb), .val (.int (3 : Int32))] [(.int (1 : Int32)), (.int (3 : Int32))]))
      show own_Go p.tables e below RR (s₁.setTop (mkF m 8 #[.val (.int xb), .val (.int yb), .val (.int (3 : Int32))] [(.int (1 : Int32)), (.int (3 : Int32))]))
      refine own_st (fun _ k => XS.icmpNo X0.here hx rfl (hb hby own_dmethod_4_code_8) rfl (feq (by decide)).1 (XS.iconst X0.here hx rfl (hb hby own_dmethod_4_code_11) k)) ?_
      show own_Go p.tables e below RR (s₁.setTop (mkF m 12 #[.val (.int xb), .val (.int yb), .val (.int (3 : Int32))] [(.int (0 : Int32))]))
      obtain ⟨fs, hrt_, hrun, hended, hW, hsame⟩ := X0.leave (v := some (.int (0 : Int32))) (fun h => by rw [Bd.returns] at h; cases h)
      refine own_fin (retN X0 hx (t := .boolean) Bd.returns (by simp) (hb hby own_dmethod_4_code_12) hrt_) (hRR _ ⟨_, hrun, hended, _, _, rfl, ?_, ⟨_, rfl⟩, hW, hsame.mono (by decide) (by decide)⟩)
      show own_QSM Z xb (3 : Int32) 3 yb (1 : Int32) 1 h0 n0 _ s₁.heap _
      rw [e0]
      exact ⟨own_ri ((own_sN (fun q_ => absurd q_.1 (by decide))).symm), N0, rfl⟩
    · show own_Go p.tables e below RR (s₁.setTop (mkF m 0 #[.val (.int xb), .val (.int yb), .unset] []))
      refine own_st (fun _ k => XS.iloadN X0.here hx rfl (hb hby own_dmethod_4_code_0) rfl (XS.iconst X0.here hx rfl (hb hby own_dmethod_4_code_1) (XS.iand X0.here hx rfl (hb hby own_dmethod_4_code_2) rfl k))) ?_
      show own_Go p.tables e below RR (s₁.setTop (mkF m 3 #[.val (.int xb), .val (.int yb), .unset] [(.int (xb &&& (3 : Int32)))]))
      rw [hgx]
      show own_Go p.tables e below RR (s₁.setTop (mkF m 3 #[.val (.int xb), .val (.int yb), .unset] [(.int (3 : Int32))]))
      show own_Go p.tables e below RR (s₁.setTop (mkF m 3 #[.val (.int xb), .val (.int yb), .unset] [(.int (3 : Int32))]))
      refine own_st (fun _ k => XS.istoreN X0.here hx rfl (hb hby own_dmethod_4_code_3) rfl (l' := #[.val (.int xb), .val (.int yb), .val (.int (3 : Int32))]) rfl (XS.iloadN X0.here hx rfl (hb hby own_dmethod_4_code_4) rfl (XS.iloadN X0.here hx rfl (hb hby own_dmethod_4_code_5) rfl (XS.iconst X0.here hx rfl (hb hby own_dmethod_4_code_6) (XS.iand X0.here hx rfl (hb hby own_dmethod_4_code_7) rfl k))))) ?_
      show own_Go p.tables e below RR (s₁.setTop (mkF m 8 #[.val (.int xb), .val (.int yb), .val (.int (3 : Int32))] [(.int (yb &&& (3 : Int32))), (.int (3 : Int32))]))
      rw [hgy]
      show own_Go p.tables e below RR (s₁.setTop (mkF m 8 #[.val (.int xb), .val (.int yb), .val (.int (3 : Int32))] [(.int (2 : Int32)), (.int (3 : Int32))]))
      show own_Go p.tables e below RR (s₁.setTop (mkF m 8 #[.val (.int xb), .val (.int yb), .val (.int (3 : Int32))] [(.int (2 : Int32)), (.int (3 : Int32))]))
      refine own_st (fun _ k => XS.icmpNo X0.here hx rfl (hb hby own_dmethod_4_code_8) rfl (feq (by decide)).1 (XS.iconst X0.here hx rfl (hb hby own_dmethod_4_code_11) k)) ?_
      show own_Go p.tables e below RR (s₁.setTop (mkF m 12 #[.val (.int xb), .val (.int yb), .val (.int (3 : Int32))] [(.int (0 : Int32))]))
      obtain ⟨fs, hrt_, hrun, hended, hW, hsame⟩ := X0.leave (v := some (.int (0 : Int32))) (fun h => by rw [Bd.returns] at h; cases h)
      refine own_fin (retN X0 hx (t := .boolean) Bd.returns (by simp) (hb hby own_dmethod_4_code_12) hrt_) (hRR _ ⟨_, hrun, hended, _, _, rfl, ?_, ⟨_, rfl⟩, hW, hsame.mono (by decide) (by decide)⟩)
      show own_QSM Z xb (3 : Int32) 3 yb (2 : Int32) 2 h0 n0 _ s₁.heap _
      rw [e0]
      exact ⟨own_ri ((own_sN (fun q_ => absurd q_.1 (by decide))).symm), N0, rfl⟩
    · show own_Go p.tables e below RR (s₁.setTop (mkF m 0 #[.val (.int xb), .val (.int yb), .unset] []))
      refine own_st (fun _ k => XS.iloadN X0.here hx rfl (hb hby own_dmethod_4_code_0) rfl (XS.iconst X0.here hx rfl (hb hby own_dmethod_4_code_1) (XS.iand X0.here hx rfl (hb hby own_dmethod_4_code_2) rfl k))) ?_
      show own_Go p.tables e below RR (s₁.setTop (mkF m 3 #[.val (.int xb), .val (.int yb), .unset] [(.int (xb &&& (3 : Int32)))]))
      rw [hgx]
      show own_Go p.tables e below RR (s₁.setTop (mkF m 3 #[.val (.int xb), .val (.int yb), .unset] [(.int (3 : Int32))]))
      show own_Go p.tables e below RR (s₁.setTop (mkF m 3 #[.val (.int xb), .val (.int yb), .unset] [(.int (3 : Int32))]))
      refine own_st (fun _ k => XS.istoreN X0.here hx rfl (hb hby own_dmethod_4_code_3) rfl (l' := #[.val (.int xb), .val (.int yb), .val (.int (3 : Int32))]) rfl (XS.iloadN X0.here hx rfl (hb hby own_dmethod_4_code_4) rfl (XS.iloadN X0.here hx rfl (hb hby own_dmethod_4_code_5) rfl (XS.iconst X0.here hx rfl (hb hby own_dmethod_4_code_6) (XS.iand X0.here hx rfl (hb hby own_dmethod_4_code_7) rfl k))))) ?_
      show own_Go p.tables e below RR (s₁.setTop (mkF m 8 #[.val (.int xb), .val (.int yb), .val (.int (3 : Int32))] [(.int (yb &&& (3 : Int32))), (.int (3 : Int32))]))
      rw [hgy]
      show own_Go p.tables e below RR (s₁.setTop (mkF m 8 #[.val (.int xb), .val (.int yb), .val (.int (3 : Int32))] [(.int (3 : Int32)), (.int (3 : Int32))]))
      show own_Go p.tables e below RR (s₁.setTop (mkF m 8 #[.val (.int xb), .val (.int yb), .val (.int (3 : Int32))] [(.int (3 : Int32)), (.int (3 : Int32))]))
      refine own_st (fun _ k => XS.icmpYes X0.here hx rfl (pc0 := 8) (pc' := 13) rfl (hb hby own_dmethod_4_code_8) rfl (teq (by decide)).1 (by decide) (by decide) (XS.iloadN X0.here hx rfl (hb hby own_dmethod_4_code_13) rfl (XS.iconst X0.here hx rfl (hb hby own_dmethod_4_code_14) k))) ?_
      show own_Go p.tables e below RR (s₁.setTop (mkF m 15 #[.val (.int xb), .val (.int yb), .val (.int (3 : Int32))] [(.int (1 : Int32)), (.int (3 : Int32))]))
      refine own_st (fun _ k => XS.icmpNo X0.here hx rfl (hb hby own_dmethod_4_code_15) rfl (flt (by decide)).1 (XS.iloadN X0.here hx rfl (hb hby own_dmethod_4_code_18) rfl (XS.iconst X0.here hx rfl (hb hby own_dmethod_4_code_19) k))) ?_
      show own_Go p.tables e below RR (s₁.setTop (mkF m 20 #[.val (.int xb), .val (.int yb), .val (.int (3 : Int32))] [(.int (0 : Int32)), (.int xb)]))
      obtain ⟨_, _, ⟨T10, L10, k10, n10⟩, -, X10, ⟨Lc10, hQ10, l10, y10, z10⟩, st10⟩ := Jvm.LawKit.callS X0 hx (y := (⟨"com/example/unstor/unstor/ScopeEqualsPinLaw", "ch", "(II)C"⟩ : MethodName)) hown (mvT hZ (hw _ (List.mem_of_getElem? (i := 29) rfl))) (mvT hZ (hw _ (List.mem_of_getElem? (i := 30) rfl))) (mvT hZ (hw _ (List.mem_of_getElem? (i := 5) rfl))) (mvT hZ (hw _ (List.mem_of_getElem? (i := 31) rfl))) (by decide) (backOf (W := 0) (own_rmCH0 l Z a0 hw [] xb h0 n0 Z0 ) hZ (hw _ (List.mem_of_getElem? (i := 31) rfl)) (hw _ (List.mem_of_getElem? (i := 5) rfl)) (by decide) (by decide)) (g := (mkF m 20 #[.val (.int xb), .val (.int yb), .val (.int (3 : Int32))] [(.int (0 : Int32)), (.int xb)])) rfl (by rw [hml]; rfl) (argsL := [(.int xb), (.int (0 : Int32))]) (rest := []) (lenOf own_pd__II_C rfl) rfl (by show 2 * 0 + _ ≤ _; exact Nat.le_of_eq rfl) (hb hby own_dmethod_4_code_20) (fun _ _ => ⟨rfl, e0, (by decide : 0 + 0 ≤ _), (by decide : 0 + 0 ≤ _)⟩)
      dsimp only [Pt.U, Pt.locs, Pt.cells, Pt.slots] at X10 l10 y10 z10 st10 hQ10
      subst l10 y10 z10
      obtain ⟨rfl, Nq10, eq10⟩ := hQ10
      have N10 := Fr.app N0 Nq10
      refine own_st st10 ?_
      show own_Go p.tables e below RR (T10.setTop (mkF m 23 #[.val (.int xb), .val (.int yb), .val (.int (3 : Int32))] [(.int (own_u (((xb.toUInt32 >>> ((2 : Int32) &&& 31).toUInt32).toInt32) &&& (255 : Int32))))]))
      refine own_st (fun _ k => XS.iloadN X10.here hx rfl (hb hby own_dmethod_4_code_23) rfl (XS.iconst X10.here hx rfl (hb hby own_dmethod_4_code_24) k)) ?_
      show own_Go p.tables e below RR (T10.setTop (mkF m 25 #[.val (.int xb), .val (.int yb), .val (.int (3 : Int32))] [(.int (0 : Int32)), (.int yb), (.int (own_u (((xb.toUInt32 >>> ((2 : Int32) &&& 31).toUInt32).toInt32) &&& (255 : Int32))))]))
      obtain ⟨_, _, ⟨T11, L11, k11, n11⟩, -, X11, ⟨Lc11, hQ11, l11, y11, z11⟩, st11⟩ := Jvm.LawKit.callS X10 hx (y := (⟨"com/example/unstor/unstor/ScopeEqualsPinLaw", "ch", "(II)C"⟩ : MethodName)) hown (mvT hZ (hw _ (List.mem_of_getElem? (i := 29) rfl))) (mvT hZ (hw _ (List.mem_of_getElem? (i := 30) rfl))) (mvT hZ (hw _ (List.mem_of_getElem? (i := 5) rfl))) (mvT hZ (hw _ (List.mem_of_getElem? (i := 31) rfl))) (by decide) (backOf (W := 1) (own_rmCH0 l Z a0 hw [] yb h0 n0 Z0 ) hZ (hw _ (List.mem_of_getElem? (i := 31) rfl)) (hw _ (List.mem_of_getElem? (i := 5) rfl)) (by decide) (by decide)) (g := (mkF m 25 #[.val (.int xb), .val (.int yb), .val (.int (3 : Int32))] [(.int (0 : Int32)), (.int yb), (.int (own_u (((xb.toUInt32 >>> ((2 : Int32) &&& 31).toUInt32).toInt32) &&& (255 : Int32))))])) rfl (by rw [hml]; rfl) (argsL := [(.int yb), (.int (0 : Int32))]) (rest := [(.int (own_u (((xb.toUInt32 >>> ((2 : Int32) &&& 31).toUInt32).toInt32) &&& (255 : Int32))))]) (lenOf own_pd__II_C rfl) rfl (by show 2 * 0 + _ ≤ _; exact Nat.le_of_eq rfl) (hb hby own_dmethod_4_code_25) (fun _ _ => ⟨rfl, eq10, (by decide : 0 + 0 ≤ _), (by decide : 0 + 0 ≤ _)⟩)
      dsimp only [Pt.U, Pt.locs, Pt.cells, Pt.slots] at X11 l11 y11 z11 st11 hQ11
      subst l11 y11 z11
      obtain ⟨rfl, Nq11, eq11⟩ := hQ11
      have N11 := Fr.app N10 Nq11
      refine own_st st11 ?_
      show own_Go p.tables e below RR (T11.setTop (mkF m 28 #[.val (.int xb), .val (.int yb), .val (.int (3 : Int32))] [(.int (own_u (((yb.toUInt32 >>> ((2 : Int32) &&& 31).toUInt32).toInt32) &&& (255 : Int32)))), (.int (own_u (((xb.toUInt32 >>> ((2 : Int32) &&& 31).toUInt32).toInt32) &&& (255 : Int32))))]))
      by_cases hc28_12 : (own_u (((xb.toUInt32 >>> ((2 : Int32) &&& 31).toUInt32).toInt32) &&& (255 : Int32))) = (own_u (((yb.toUInt32 >>> ((2 : Int32) &&& 31).toUInt32).toInt32) &&& (255 : Int32)))
      · refine own_st (fun _ k => XS.icmpYes X11.here hx rfl (pc0 := 28) (pc' := 33) rfl (hb hby own_dmethod_4_code_28) rfl (teq hc28_12).1 (by decide) (by decide) (XS.iloadN X11.here hx rfl (hb hby own_dmethod_4_code_33) rfl (XS.iconst X11.here hx rfl (hb hby own_dmethod_4_code_34) k))) ?_
        show own_Go p.tables e below RR (T11.setTop (mkF m 35 #[.val (.int xb), .val (.int yb), .val (.int (3 : Int32))] [(.int (2 : Int32)), (.int (3 : Int32))]))
        refine own_st (fun _ k => XS.icmpNo X11.here hx rfl (hb hby own_dmethod_4_code_35) rfl (flt (by decide)).1 (XS.iloadN X11.here hx rfl (hb hby own_dmethod_4_code_38) rfl (XS.iconst X11.here hx rfl (hb hby own_dmethod_4_code_39) k))) ?_
        show own_Go p.tables e below RR (T11.setTop (mkF m 40 #[.val (.int xb), .val (.int yb), .val (.int (3 : Int32))] [(.int (1 : Int32)), (.int xb)]))
        obtain ⟨_, _, ⟨T13, L13, k13, n13⟩, -, X13, ⟨Lc13, hQ13, l13, y13, z13⟩, st13⟩ := Jvm.LawKit.callS X11 hx (y := (⟨"com/example/unstor/unstor/ScopeEqualsPinLaw", "ch", "(II)C"⟩ : MethodName)) hown (mvT hZ (hw _ (List.mem_of_getElem? (i := 29) rfl))) (mvT hZ (hw _ (List.mem_of_getElem? (i := 30) rfl))) (mvT hZ (hw _ (List.mem_of_getElem? (i := 5) rfl))) (mvT hZ (hw _ (List.mem_of_getElem? (i := 31) rfl))) (by decide) (backOf (W := 0) (own_rmCH1 l Z a0 hw [] xb h0 n0 Z0 ) hZ (hw _ (List.mem_of_getElem? (i := 31) rfl)) (hw _ (List.mem_of_getElem? (i := 5) rfl)) (by decide) (by decide)) (g := (mkF m 40 #[.val (.int xb), .val (.int yb), .val (.int (3 : Int32))] [(.int (1 : Int32)), (.int xb)])) rfl (by rw [hml]; rfl) (argsL := [(.int xb), (.int (1 : Int32))]) (rest := []) (lenOf own_pd__II_C rfl) rfl (by show 2 * 0 + _ ≤ _; exact Nat.le_of_eq rfl) (hb hby own_dmethod_4_code_40) (fun _ _ => ⟨rfl, eq11, (by decide : 0 + 0 ≤ _), (by decide : 0 + 0 ≤ _)⟩)
        dsimp only [Pt.U, Pt.locs, Pt.cells, Pt.slots] at X13 l13 y13 z13 st13 hQ13
        subst l13 y13 z13
        obtain ⟨rfl, Nq13, eq13⟩ := hQ13
        have N13 := Fr.app N11 Nq13
        refine own_st st13 ?_
        show own_Go p.tables e below RR (T13.setTop (mkF m 43 #[.val (.int xb), .val (.int yb), .val (.int (3 : Int32))] [(.int (own_u (((xb.toUInt32 >>> ((10 : Int32) &&& 31).toUInt32).toInt32) &&& (255 : Int32))))]))
        refine own_st (fun _ k => XS.iloadN X13.here hx rfl (hb hby own_dmethod_4_code_43) rfl (XS.iconst X13.here hx rfl (hb hby own_dmethod_4_code_44) k)) ?_
        show own_Go p.tables e below RR (T13.setTop (mkF m 45 #[.val (.int xb), .val (.int yb), .val (.int (3 : Int32))] [(.int (1 : Int32)), (.int yb), (.int (own_u (((xb.toUInt32 >>> ((10 : Int32) &&& 31).toUInt32).toInt32) &&& (255 : Int32))))]))
        obtain ⟨_, _, ⟨T14, L14, k14, n14⟩, -, X14, ⟨Lc14, hQ14, l14, y14, z14⟩, st14⟩ := Jvm.LawKit.callS X13 hx (y := (⟨"com/example/unstor/unstor/ScopeEqualsPinLaw", "ch", "(II)C"⟩ : MethodName)) hown (mvT hZ (hw _ (List.mem_of_getElem? (i := 29) rfl))) (mvT hZ (hw _ (List.mem_of_getElem? (i := 30) rfl))) (mvT hZ (hw _ (List.mem_of_getElem? (i := 5) rfl))) (mvT hZ (hw _ (List.mem_of_getElem? (i := 31) rfl))) (by decide) (backOf (W := 1) (own_rmCH1 l Z a0 hw [] yb h0 n0 Z0 ) hZ (hw _ (List.mem_of_getElem? (i := 31) rfl)) (hw _ (List.mem_of_getElem? (i := 5) rfl)) (by decide) (by decide)) (g := (mkF m 45 #[.val (.int xb), .val (.int yb), .val (.int (3 : Int32))] [(.int (1 : Int32)), (.int yb), (.int (own_u (((xb.toUInt32 >>> ((10 : Int32) &&& 31).toUInt32).toInt32) &&& (255 : Int32))))])) rfl (by rw [hml]; rfl) (argsL := [(.int yb), (.int (1 : Int32))]) (rest := [(.int (own_u (((xb.toUInt32 >>> ((10 : Int32) &&& 31).toUInt32).toInt32) &&& (255 : Int32))))]) (lenOf own_pd__II_C rfl) rfl (by show 2 * 0 + _ ≤ _; exact Nat.le_of_eq rfl) (hb hby own_dmethod_4_code_45) (fun _ _ => ⟨rfl, eq13, (by decide : 0 + 0 ≤ _), (by decide : 0 + 0 ≤ _)⟩)
        dsimp only [Pt.U, Pt.locs, Pt.cells, Pt.slots] at X14 l14 y14 z14 st14 hQ14
        subst l14 y14 z14
        obtain ⟨rfl, Nq14, eq14⟩ := hQ14
        have N14 := Fr.app N13 Nq14
        refine own_st st14 ?_
        show own_Go p.tables e below RR (T14.setTop (mkF m 48 #[.val (.int xb), .val (.int yb), .val (.int (3 : Int32))] [(.int (own_u (((yb.toUInt32 >>> ((10 : Int32) &&& 31).toUInt32).toInt32) &&& (255 : Int32)))), (.int (own_u (((xb.toUInt32 >>> ((10 : Int32) &&& 31).toUInt32).toInt32) &&& (255 : Int32))))]))
        by_cases hc48_15 : (own_u (((xb.toUInt32 >>> ((10 : Int32) &&& 31).toUInt32).toInt32) &&& (255 : Int32))) = (own_u (((yb.toUInt32 >>> ((10 : Int32) &&& 31).toUInt32).toInt32) &&& (255 : Int32)))
        · refine own_st (fun _ k => XS.icmpYes X14.here hx rfl (pc0 := 48) (pc' := 53) rfl (hb hby own_dmethod_4_code_48) rfl (teq hc48_15).1 (by decide) (by decide) (XS.iloadN X14.here hx rfl (hb hby own_dmethod_4_code_53) rfl (XS.iconst X14.here hx rfl (hb hby own_dmethod_4_code_54) k))) ?_
          show own_Go p.tables e below RR (T14.setTop (mkF m 55 #[.val (.int xb), .val (.int yb), .val (.int (3 : Int32))] [(.int (3 : Int32)), (.int (3 : Int32))]))
          refine own_st (fun _ k => XS.icmpNo X14.here hx rfl (hb hby own_dmethod_4_code_55) rfl (flt (by decide)).1 (XS.iloadN X14.here hx rfl (hb hby own_dmethod_4_code_58) rfl (XS.iconst X14.here hx rfl (hb hby own_dmethod_4_code_59) k))) ?_
          show own_Go p.tables e below RR (T14.setTop (mkF m 60 #[.val (.int xb), .val (.int yb), .val (.int (3 : Int32))] [(.int (2 : Int32)), (.int xb)]))
          obtain ⟨_, _, ⟨T16, L16, k16, n16⟩, -, X16, ⟨Lc16, hQ16, l16, y16, z16⟩, st16⟩ := Jvm.LawKit.callS X14 hx (y := (⟨"com/example/unstor/unstor/ScopeEqualsPinLaw", "ch", "(II)C"⟩ : MethodName)) hown (mvT hZ (hw _ (List.mem_of_getElem? (i := 29) rfl))) (mvT hZ (hw _ (List.mem_of_getElem? (i := 30) rfl))) (mvT hZ (hw _ (List.mem_of_getElem? (i := 5) rfl))) (mvT hZ (hw _ (List.mem_of_getElem? (i := 31) rfl))) (by decide) (backOf (W := 0) (own_rmCH2 l Z a0 hw [] xb h0 n0 Z0 ) hZ (hw _ (List.mem_of_getElem? (i := 31) rfl)) (hw _ (List.mem_of_getElem? (i := 5) rfl)) (by decide) (by decide)) (g := (mkF m 60 #[.val (.int xb), .val (.int yb), .val (.int (3 : Int32))] [(.int (2 : Int32)), (.int xb)])) rfl (by rw [hml]; rfl) (argsL := [(.int xb), (.int (2 : Int32))]) (rest := []) (lenOf own_pd__II_C rfl) rfl (by show 2 * 0 + _ ≤ _; exact Nat.le_of_eq rfl) (hb hby own_dmethod_4_code_60) (fun _ _ => ⟨rfl, eq14, (by decide : 0 + 0 ≤ _), (by decide : 0 + 0 ≤ _)⟩)
          dsimp only [Pt.U, Pt.locs, Pt.cells, Pt.slots] at X16 l16 y16 z16 st16 hQ16
          subst l16 y16 z16
          obtain ⟨rfl, Nq16, eq16⟩ := hQ16
          have N16 := Fr.app N14 Nq16
          refine own_st st16 ?_
          show own_Go p.tables e below RR (T16.setTop (mkF m 63 #[.val (.int xb), .val (.int yb), .val (.int (3 : Int32))] [(.int (own_u (((xb.toUInt32 >>> ((18 : Int32) &&& 31).toUInt32).toInt32) &&& (255 : Int32))))]))
          refine own_st (fun _ k => XS.iloadN X16.here hx rfl (hb hby own_dmethod_4_code_63) rfl (XS.iconst X16.here hx rfl (hb hby own_dmethod_4_code_64) k)) ?_
          show own_Go p.tables e below RR (T16.setTop (mkF m 65 #[.val (.int xb), .val (.int yb), .val (.int (3 : Int32))] [(.int (2 : Int32)), (.int yb), (.int (own_u (((xb.toUInt32 >>> ((18 : Int32) &&& 31).toUInt32).toInt32) &&& (255 : Int32))))]))
          obtain ⟨_, _, ⟨T17, L17, k17, n17⟩, -, X17, ⟨Lc17, hQ17, l17, y17, z17⟩, st17⟩ := Jvm.LawKit.callS X16 hx (y := (⟨"com/example/unstor/unstor/ScopeEqualsPinLaw", "ch", "(II)C"⟩ : MethodName)) hown (mvT hZ (hw _ (List.mem_of_getElem? (i := 29) rfl))) (mvT hZ (hw _ (List.mem_of_getElem? (i := 30) rfl))) (mvT hZ (hw _ (List.mem_of_getElem? (i := 5) rfl))) (mvT hZ (hw _ (List.mem_of_getElem? (i := 31) rfl))) (by decide) (backOf (W := 1) (own_rmCH2 l Z a0 hw [] yb h0 n0 Z0 ) hZ (hw _ (List.mem_of_getElem? (i := 31) rfl)) (hw _ (List.mem_of_getElem? (i := 5) rfl)) (by decide) (by decide)) (g := (mkF m 65 #[.val (.int xb), .val (.int yb), .val (.int (3 : Int32))] [(.int (2 : Int32)), (.int yb), (.int (own_u (((xb.toUInt32 >>> ((18 : Int32) &&& 31).toUInt32).toInt32) &&& (255 : Int32))))])) rfl (by rw [hml]; rfl) (argsL := [(.int yb), (.int (2 : Int32))]) (rest := [(.int (own_u (((xb.toUInt32 >>> ((18 : Int32) &&& 31).toUInt32).toInt32) &&& (255 : Int32))))]) (lenOf own_pd__II_C rfl) rfl (by show 2 * 0 + _ ≤ _; exact Nat.le_of_eq rfl) (hb hby own_dmethod_4_code_65) (fun _ _ => ⟨rfl, eq16, (by decide : 0 + 0 ≤ _), (by decide : 0 + 0 ≤ _)⟩)
          dsimp only [Pt.U, Pt.locs, Pt.cells, Pt.slots] at X17 l17 y17 z17 st17 hQ17
          subst l17 y17 z17
          obtain ⟨rfl, Nq17, eq17⟩ := hQ17
          have N17 := Fr.app N16 Nq17
          refine own_st st17 ?_
          show own_Go p.tables e below RR (T17.setTop (mkF m 68 #[.val (.int xb), .val (.int yb), .val (.int (3 : Int32))] [(.int (own_u (((yb.toUInt32 >>> ((18 : Int32) &&& 31).toUInt32).toInt32) &&& (255 : Int32)))), (.int (own_u (((xb.toUInt32 >>> ((18 : Int32) &&& 31).toUInt32).toInt32) &&& (255 : Int32))))]))
          by_cases hc68_18 : (own_u (((xb.toUInt32 >>> ((18 : Int32) &&& 31).toUInt32).toInt32) &&& (255 : Int32))) = (own_u (((yb.toUInt32 >>> ((18 : Int32) &&& 31).toUInt32).toInt32) &&& (255 : Int32)))
          · refine own_st (fun _ k => XS.icmpYes X17.here hx rfl (pc0 := 68) (pc' := 73) rfl (hb hby own_dmethod_4_code_68) rfl (teq hc68_18).1 (by decide) (by decide) (XS.iconst X17.here hx rfl (hb hby own_dmethod_4_code_73) k)) ?_
            show own_Go p.tables e below RR (T17.setTop (mkF m 74 #[.val (.int xb), .val (.int yb), .val (.int (3 : Int32))] [(.int (1 : Int32))]))
            obtain ⟨fs, hrt_, hrun, hended, hW, hsame⟩ := X17.leave (v := some (.int (1 : Int32))) (fun h => by rw [Bd.returns] at h; cases h)
            refine own_fin (retN X17 hx (t := .boolean) Bd.returns (by simp) (hb hby own_dmethod_4_code_74) hrt_) (hRR _ ⟨_, hrun, hended, _, _, rfl, ?_, ⟨_, rfl⟩, hW, hsame.mono (by decide) (by decide)⟩)
            show own_QSM Z xb (3 : Int32) 3 yb (3 : Int32) 3 h0 n0 _ T17.heap _
            rw [eq17]
            exact ⟨own_ri ((own_sY ⟨rfl, fun _ => ((own_ueq (own_255 _) (own_255 _)).mp hc28_12), fun _ => ((own_ueq (own_255 _) (own_255 _)).mp hc48_15), fun _ => ((own_ueq (own_255 _) (own_255 _)).mp hc68_18)⟩).symm), N17, rfl⟩
          · refine own_st (fun _ k => XS.icmpNo X17.here hx rfl (hb hby own_dmethod_4_code_68) rfl (feq hc68_18).1 (XS.iconst X17.here hx rfl (hb hby own_dmethod_4_code_71) k)) ?_
            show own_Go p.tables e below RR (T17.setTop (mkF m 72 #[.val (.int xb), .val (.int yb), .val (.int (3 : Int32))] [(.int (0 : Int32))]))
            obtain ⟨fs, hrt_, hrun, hended, hW, hsame⟩ := X17.leave (v := some (.int (0 : Int32))) (fun h => by rw [Bd.returns] at h; cases h)
            refine own_fin (retN X17 hx (t := .boolean) Bd.returns (by simp) (hb hby own_dmethod_4_code_72) hrt_) (hRR _ ⟨_, hrun, hended, _, _, rfl, ?_, ⟨_, rfl⟩, hW, hsame.mono (by decide) (by decide)⟩)
            show own_QSM Z xb (3 : Int32) 3 yb (3 : Int32) 3 h0 n0 _ T17.heap _
            rw [eq17]
            exact ⟨own_ri ((own_sN (fun q_ => (fun z_ => hc68_18 ((own_ueq (own_255 _) (own_255 _)).mpr z_)) (q_.2.2.2 (by decide)))).symm), N17, rfl⟩
        · refine own_st (fun _ k => XS.icmpNo X14.here hx rfl (hb hby own_dmethod_4_code_48) rfl (feq hc48_15).1 (XS.iconst X14.here hx rfl (hb hby own_dmethod_4_code_51) k)) ?_
          show own_Go p.tables e below RR (T14.setTop (mkF m 52 #[.val (.int xb), .val (.int yb), .val (.int (3 : Int32))] [(.int (0 : Int32))]))
          obtain ⟨fs, hrt_, hrun, hended, hW, hsame⟩ := X14.leave (v := some (.int (0 : Int32))) (fun h => by rw [Bd.returns] at h; cases h)
          refine own_fin (retN X14 hx (t := .boolean) Bd.returns (by simp) (hb hby own_dmethod_4_code_52) hrt_) (hRR _ ⟨_, hrun, hended, _, _, rfl, ?_, ⟨_, rfl⟩, hW, hsame.mono (by decide) (by decide)⟩)
          show own_QSM Z xb (3 : Int32) 3 yb (3 : Int32) 3 h0 n0 _ T14.heap _
          rw [eq14]
          exact ⟨own_ri ((own_sN (fun q_ => (fun z_ => hc48_15 ((own_ueq (own_255 _) (own_255 _)).mpr z_)) (q_.2.2.1 (by decide)))).symm), N14, rfl⟩
      · refine own_st (fun _ k => XS.icmpNo X11.here hx rfl (hb hby own_dmethod_4_code_28) rfl (feq hc28_12).1 (XS.iconst X11.here hx rfl (hb hby own_dmethod_4_code_31) k)) ?_
        show own_Go p.tables e below RR (T11.setTop (mkF m 32 #[.val (.int xb), .val (.int yb), .val (.int (3 : Int32))] [(.int (0 : Int32))]))
        obtain ⟨fs, hrt_, hrun, hended, hW, hsame⟩ := X11.leave (v := some (.int (0 : Int32))) (fun h => by rw [Bd.returns] at h; cases h)
        refine own_fin (retN X11 hx (t := .boolean) Bd.returns (by simp) (hb hby own_dmethod_4_code_32) hrt_) (hRR _ ⟨_, hrun, hended, _, _, rfl, ?_, ⟨_, rfl⟩, hW, hsame.mono (by decide) (by decide)⟩)
        show own_QSM Z xb (3 : Int32) 3 yb (3 : Int32) 3 h0 n0 _ T11.heap _
        rw [eq11]
        exact ⟨own_ri ((own_sN (fun q_ => (fun z_ => hc28_12 ((own_ueq (own_255 _) (own_255 _)).mpr z_)) (q_.2.1 (by decide)))).symm), N11, rfl⟩
theorem own_pd__I_Ljava_lang_String_ : parseMethodDescriptor "(I)Ljava/lang/String;" = some ⟨[.int], some (.object "java/lang/String")⟩ := by decide +kernel
theorem own_pd__Ljava_lang_String_Ljava_lang_String__V : parseMethodDescriptor "(Ljava/lang/String;Ljava/lang/String;)V" = some ⟨[(.object "java/lang/String"), (.object "java/lang/String")], none⟩ := by decide +kernel
theorem own_pd__II_Z : parseMethodDescriptor "(II)Z" = some ⟨[.int, .int], some .boolean⟩ := by decide +kernel
theorem own_ef0 (m : MethodId) (p1 : Int32) (p2 : Int32) (p3 : Int32) (p4 : Int32) (p5 : Int32) : entryFrame m #[(.int p1), (.int p2), (.int p3), (.int p4), (.int p5)] maxLocals = mkF m 0 #[.val (.int p1), .val (.int p2), .val (.int p3), .val (.int p4), .val (.int p5), .unset, .unset, .unset, .unset, .unset, .unset, .unset, .unset] [] := by first | (simp [entryFrame, mkF, argsToLocals, Value.category, maxLocals]; done) | rfl
def own_Q0 (Z : State) (p1 : Int32) (p2 : Int32) (p3 : Int32) (p4 : Int32) (p5 : Int32) (cs : Int32) (h0 : Heap) (n0 : Nat) (rv__ : Option Value) (h : Heap) (rL__ : List Loc) : Prop := rv__ = some (.int 1) ∧ Fr n0 rL__
set_option maxRecDepth 65536 in
set_option maxHeartbeats 40000000 in
theorem own_rm0 (l : Launch) (Z : State) (a0 : Array Value) (hw : ∀ d ∈ tables_1, d.before a0 Z = true) (ws : List Jvm.Cond) (p1 : Int32) (p2 : Int32) (p3 : Int32) (p4 : Int32) (p5 : Int32) (cs : Int32) (h0 : Heap) (n0 : Nat) (Z0 : n0 ≤ h0.size) (S0 : Sta Z h0 "java/lang/String" "COMPACT_STRINGS" "Z" (.int cs)) (hcs : ¬ cs = (0 : Int32)) (hcon : Jvm.Lit.constHeld Z "java/lang/String" 7) (hcw : Jvm.Lit.compactW.before a0 Z = true) :
    MetFree l x (head1 (Jvm.Cond.code x code maxLocals ret :: ws) room_1) (fun aa__ U => aa__ = #[(.int p1), (.int p2), (.int p3), (.int p4), (.int p5)] ∧ U = Z ∧ U.heap = h0 ∧ U.heap.size = n0) (fun _ _ _ _ _ => True) (fun _ U oc_ U' => ∃ rv__ rL__, oc_ = .returned rv__ ∧ own_Q0 Z p1 p2 p3 p4 p5 cs h0 n0 rv__ U'.heap rL__ ∧ ReturnedEndW U oc_ U' rL__ room_1.cells room_1.slots) := by
  refine MetFree.of_bodySF (plainFor_of_name own_pn_com_example_unstor_unstor_ScopeEqualsPinLaw) hisR ?_
  intro p e s m args below meth c s₁ Bd hml0 hP hK
  obtain ⟨rfl, hUZ, hh, hn0⟩ := hP
  have hZ : Z.Warmed39 s.vm := by rw [hUZ]; exact State.Warmed39.refl _
  have ib0 : IB Z s.vm [] := by rw [hUZ]; exact IB.start
  have hx := Bd.exec
  have hby := Bd.bytes
  have hml : c.maxLocals = 13 := hml0
  have hown : s.vm.findClass "com/example/unstor/unstor/ScopeEqualsPinLaw" = some m.cls := findClass_of_methodNamed Bd.named
  have hnm := (name_of_methodNamed Bd.named Bd.method).1
  have X0 : Stand p l e room_1 s m #[(.int p1), (.int p2), (.int p3), (.int p4), (.int p5)] below meth c s₁ [] 0 0 := Stand.of_body Bd
  have e0 : s₁.heap = h0 := by rw [← hh, Bd.state]; rfl
  have N0 := Fr.nil n0
  refine own_in (fun _ k => castTop (own_ef0 m p1 p2 p3 p4 p5) k) ?_
  intro RR hRR
  have hkp : ∀ (b : Addr) (cl : Cell), Z.heap[b]? = some cl → h0[b]? = some cl := fun b cl q => by rw [← hh, hUZ]; exact q
  have hB0 : own_Bk Z s.vm h0 := Or.inl ib0
  have join1 : ∀ (T1 : State) (lo1 : List Loc) (oo : Int32) (ss : Int32) (X1 : Stand p l e room_1 s m #[(.int p1), (.int p2), (.int p3), (.int p4), (.int p5)] below meth c T1 lo1 0 0) (e1 : T1.heap = h0) (N1 : Fr n0 lo1), own_Go p.tables e below RR (T1.setTop (mkF m 28 #[.val (.int p1), .val (.int p2), .val (.int p3), .val (.int p4), .val (.int p5), .val (.int oo), .val (.int ss), .unset, .unset, .unset, .unset, .unset, .unset] [])) := by
    intro T1 lo1 oo ss X1 e1 N1 
    show own_Go p.tables e below RR (T1.setTop (mkF m 28 #[.val (.int p1), .val (.int p2), .val (.int p3), .val (.int p4), .val (.int p5), .val (.int oo), .val (.int ss), .unset, .unset, .unset, .unset, .unset, .unset] []))
    obtain ⟨T2, h2, X2, e2, E2, A2, D2, -, st2⟩ := newO X1 hx hZ hown (hw _ (List.mem_of_getElem? (i := 0) rfl)) (hw _ (List.mem_of_getElem? (i := 1) rfl)) (hw _ (List.mem_of_getElem? (i := 2) rfl)) e1 (g := (mkF m 28 #[.val (.int p1), .val (.int p2), .val (.int p3), .val (.int p4), .val (.int p5), .val (.int oo), .val (.int ss), .unset, .unset, .unset, .unset, .unset, .unset] [])) rfl (hb hby at_28) (by decide) (by decide)
    obtain ⟨b2, gb2⟩ : ∃ z, z = h0.size := ⟨_, rfl⟩
    rw [← gb2] at A2 D2 st2
    have ge2 : n0 ≤ b2 := Nat.le_trans Z0 (Nat.le_of_eq gb2.symm)
    have sz2 : h0.size ≤ b2 := Nat.le_trans (Keep.refl h0 []).1 (Nat.le_of_eq gb2.symm)
    refine own_st st2 ?_
    have f3 := (own_Bk_ext hB0 E2)
    have z4 : n0 ≤ h2.size := Nat.le_trans Z0 E2.1
    have kk5 : Keep h0 h2 [] := (Keep.refl h0 []).ext E2
    have F2_53 : Fld Z h2 b2 "com/example/unstor/unstor/Scope" "org" "Ljava/lang/String;" .null := D2 (Or.inr (hw _ (List.mem_of_getElem? (i := 53) rfl))) (ty := (.object "java/lang/String")) (by decide)
    have F2_55 : Fld Z h2 b2 "com/example/unstor/unstor/Scope" "sandbox" "Ljava/lang/String;" .null := D2 (Or.inr (hw _ (List.mem_of_getElem? (i := 55) rfl))) (ty := (.object "java/lang/String")) (by decide)
    show own_Go p.tables e below RR (T2.setTop (mkF m 31 #[.val (.int p1), .val (.int p2), .val (.int p3), .val (.int p4), .val (.int p5), .val (.int oo), .val (.int ss), .unset, .unset, .unset, .unset, .unset, .unset] [(.ref b2)]))
    refine own_st (fun _ k => XS.dup X2.here hx rfl (hb hby at_31) rfl rfl (XS.iloadN X2.here hx rfl (hb hby at_32) rfl k)) ?_
    show own_Go p.tables e below RR (T2.setTop (mkF m 33 #[.val (.int p1), .val (.int p2), .val (.int p3), .val (.int p4), .val (.int p5), .val (.int oo), .val (.int ss), .unset, .unset, .unset, .unset, .unset, .unset] [(.int p1), (.ref b2), (.ref b2)]))
    obtain ⟨nn6, hnn6⟩ := own_l4 p1
    have f7 := (S0.ext E2)
    obtain ⟨_, _, ⟨T8, L8, k8, n8⟩, -, X8a, hs8, g8, ⟨Lc8, hQ8, l8, y8, z8⟩, st8⟩ := callSS (s := s.setVm s.vm) X2 hx (y := (⟨"com/example/unstor/unstor/ScopeEqualsPinLaw", "make", "(I)Ljava/lang/String;"⟩ : MethodName)) hown (mvT hZ (hw _ (List.mem_of_getElem? (i := 3) rfl))) (mvT hZ (hw _ (List.mem_of_getElem? (i := 4) rfl))) (mvT hZ (hw _ (List.mem_of_getElem? (i := 5) rfl))) (mvT hZ (hw _ (List.mem_of_getElem? (i := 6) rfl))) (by decide) (own_backS (W := 2) (own_rmTX l Z a0 hw [] p1 (p1 &&& (3 : Int32)) nn6 cs h2 n0 z4 rfl hnn6 (fun b cl q => kk5.2.1 b cl (hkp b cl q) nin0) hcon hcw f7 hcs) hZ f3 (hw _ (List.mem_of_getElem? (i := 6) rfl)) (hw _ (List.mem_of_getElem? (i := 5) rfl)) (by decide) (by decide)) (g := (mkF m 33 #[.val (.int p1), .val (.int p2), .val (.int p3), .val (.int p4), .val (.int p5), .val (.int oo), .val (.int ss), .unset, .unset, .unset, .unset, .unset, .unset] [(.int p1), (.ref b2), (.ref b2)])) rfl (by rw [hml]; rfl) (argsL := [(.int p1)]) (rest := [(.ref b2), (.ref b2)]) (lenOf own_pd__I_Ljava_lang_String_ rfl) rfl (by show 2 * 0 + _ ≤ _; exact Nat.le_of_eq rfl) (hb hby at_33) (fun _ _ => ⟨rfl, e2, (by decide : 1 + 4 ≤ _), (by decide : 2 + 10 ≤ _)⟩)
    dsimp only [Pt.U, Pt.locs, Pt.cells, Pt.slots] at X8a hs8 g8 l8 y8 z8 st8 hQ8
    subst l8 y8 z8
    obtain ⟨X8, hS8, hZ, hown⟩ := rebS ((State.WarmedH.refl s).since 0) (by rw [e2]; exact (Nat.zero_le _)) X8a hs8 g8 hZ hown
    obtain ⟨rx8, rfl, Nq8, Kq8, hz8, Eq8, Fq8, ⟨bq8, kbq8, Fvq8, Vq8⟩, Bq8⟩ := hQ8
    have N8 := Fr.app N1 Nq8
    refine own_st (fun _ k => st8.trans k) ?_
    have nr8_b2 : b2 ≠ rx8 := Nat.ne_of_lt (Nat.lt_of_lt_of_le A2.lt hz8)
    have z9 : n0 ≤ T8.heap.size := Nat.le_trans z4 Kq8.1
    have kk10 : Keep h0 T8.heap [] := kk5.trans Kq8 all0
    have f11 := (A2.keep Kq8)
    have nb8_b2 : b2 ≠ bq8 := Exa.neArv f11 Vq8 (hw _ (List.mem_of_getElem? (i := 1) rfl))
    show own_Go p.tables e below RR (T8.setTop (mkF m 36 #[.val (.int p1), .val (.int p2), .val (.int p3), .val (.int p4), .val (.int p5), .val (.int oo), .val (.int ss), .unset, .unset, .unset, .unset, .unset, .unset] [(.ref rx8), (.ref b2), (.ref b2)]))
    refine own_st (fun _ k => XS.iloadN X8.here hx rfl (hb hby at_36) rfl k) ?_
    show own_Go p.tables e below RR (T8.setTop (mkF m 37 #[.val (.int p1), .val (.int p2), .val (.int p3), .val (.int p4), .val (.int p5), .val (.int oo), .val (.int ss), .unset, .unset, .unset, .unset, .unset, .unset] [(.int p2), (.ref rx8), (.ref b2), (.ref b2)]))
    obtain ⟨nn12, hnn12⟩ := own_l4 p2
    have f13 := (own_staK f7 Kq8 all0)
    obtain ⟨_, _, ⟨T14, L14, k14, n14⟩, -, X14a, hs14, g14, ⟨Lc14, hQ14, l14, y14, z14⟩, st14⟩ := callSS (s := s.setVm T8.vm) X8 hx (y := (⟨"com/example/unstor/unstor/ScopeEqualsPinLaw", "make", "(I)Ljava/lang/String;"⟩ : MethodName)) hown (mvT hZ (hw _ (List.mem_of_getElem? (i := 3) rfl))) (mvT hZ (hw _ (List.mem_of_getElem? (i := 4) rfl))) (mvT hZ (hw _ (List.mem_of_getElem? (i := 5) rfl))) (mvT hZ (hw _ (List.mem_of_getElem? (i := 6) rfl))) (by decide) (own_backS (W := 3) (own_rmTX l Z a0 hw [] p2 (p2 &&& (3 : Int32)) nn12 cs T8.heap n0 z9 rfl hnn12 (fun b cl q => kk10.2.1 b cl (hkp b cl q) nin0) hcon hcw f13 hcs) hZ Bq8 (hw _ (List.mem_of_getElem? (i := 6) rfl)) (hw _ (List.mem_of_getElem? (i := 5) rfl)) (by decide) (by decide)) (g := (mkF m 37 #[.val (.int p1), .val (.int p2), .val (.int p3), .val (.int p4), .val (.int p5), .val (.int oo), .val (.int ss), .unset, .unset, .unset, .unset, .unset, .unset] [(.int p2), (.ref rx8), (.ref b2), (.ref b2)])) rfl (by rw [hml]; rfl) (argsL := [(.int p2)]) (rest := [(.ref rx8), (.ref b2), (.ref b2)]) (lenOf own_pd__I_Ljava_lang_String_ rfl) rfl (by show 2 * 0 + _ ≤ _; exact Nat.le_of_eq rfl) (hb hby at_37) (fun _ _ => ⟨rfl, rfl, (by decide : 5 + 4 ≤ _), (by decide : 12 + 10 ≤ _)⟩)
    dsimp only [Pt.U, Pt.locs, Pt.cells, Pt.slots] at X14a hs14 g14 l14 y14 z14 st14 hQ14
    subst l14 y14 z14
    obtain ⟨X14, hS14, hZ, hown⟩ := rebS hS8 (by exact (Nat.le_refl _)) X14a hs14 g14 hZ hown
    obtain ⟨rx14, rfl, Nq14, Kq14, hz14, Eq14, Fq14, ⟨bq14, kbq14, Fvq14, Vq14⟩, Bq14⟩ := hQ14
    have N14 := Fr.app N8 Nq14
    refine own_st (fun _ k => st14.trans k) ?_
    have nr14_b2 : b2 ≠ rx14 := Nat.ne_of_lt (Nat.lt_of_lt_of_le f11.lt hz14)
    have nr14_rx8 : rx8 ≠ rx14 := Nat.ne_of_lt (Nat.lt_of_lt_of_le Eq8.lt hz14)
    have z15 : n0 ≤ T14.heap.size := Nat.le_trans z9 Kq14.1
    have kk16 : Keep h0 T14.heap [] := kk10.trans Kq14 all0
    have f17 := (f11.keep Kq14)
    have nb14_b2 : b2 ≠ bq14 := Exa.neArv f17 Vq14 (hw _ (List.mem_of_getElem? (i := 1) rfl))
    show own_Go p.tables e below RR (T14.setTop (mkF m 40 #[.val (.int p1), .val (.int p2), .val (.int p3), .val (.int p4), .val (.int p5), .val (.int oo), .val (.int ss), .unset, .unset, .unset, .unset, .unset, .unset] [(.ref rx14), (.ref rx8), (.ref b2), (.ref b2)]))
    have f18 := ((F2_53.keep Kq8 nin0).keep Kq14 nin0)
    have f19 := ((F2_55.keep Kq8 nin0).keep Kq14 nin0)
    have f20 := (Eq8.keep Kq14)
    obtain ⟨_, _, ⟨T21, L21, k21, n21⟩, -, X21, ⟨Lc21, hQ21, l21, y21, z21⟩, st21⟩ := X14.specialBack hx (y := (⟨"com/example/unstor/unstor/Scope", "<init>", "(Ljava/lang/String;Ljava/lang/String;)V"⟩ : MethodName)) rfl hown (mvT hZ (hw _ (List.mem_of_getElem? (i := 43) rfl))) (mvT hZ (hw _ (List.mem_of_getElem? (i := 44) rfl))) (mvT hZ (hw _ (List.mem_of_getElem? (i := 45) rfl))) (by decide) (backOf (W := 1) (own_rmII l Z a0 hw [] b2 rx8 rx14 T14.heap n0 z15 ge2 f17 f18 f19 f20 Eq14) hZ (hw _ (List.mem_of_getElem? (i := 45) rfl)) (hw _ (List.mem_of_getElem? (i := 2) rfl)) (by decide) (by decide)) (g := (mkF m 40 #[.val (.int p1), .val (.int p2), .val (.int p3), .val (.int p4), .val (.int p5), .val (.int oo), .val (.int ss), .unset, .unset, .unset, .unset, .unset, .unset] [(.ref rx14), (.ref rx8), (.ref b2), (.ref b2)])) rfl (by rw [hml]; rfl) (Steps.refl _) (a := b2) (argsL := [(.ref rx8), (.ref rx14)]) (rest := [(.ref b2)]) (lenOf own_pd__Ljava_lang_String_Ljava_lang_String__V rfl) rfl (by show 2 * 0 + _ ≤ _; exact Nat.le_of_eq rfl) (hb hby at_40) (fun _ _ => ⟨rfl, rfl, (by decide : 9 + 0 ≤ _), (by decide : 22 + 0 ≤ _)⟩)
    dsimp only [Pt.U, Pt.locs, Pt.cells, Pt.slots] at X21 l21 y21 z21 st21 hQ21
    subst l21 y21 z21
    obtain ⟨rfl, Nq21, Kq21, Eq21, Fn21, Fi21⟩ := hQ21
    have N21 := Fr.app N14 Nq21
    refine own_st (fun _ k => st21.trans k) ?_
    have f22 := (own_Bk_C Bq14 Kq21 f17 (by decide) (hw _ (List.mem_of_getElem? (i := 1) rfl)))
    have z23 : n0 ≤ T21.heap.size := Nat.le_trans z15 Kq21.1
    have hk23 := Nat.le_trans (Nat.le_refl _) Kq21.1
    have kk24 : Keep h0 T21.heap [] := kk16.trans Kq21 (allS (Or.inr sz2) all0)
    show own_Go p.tables e below RR (T21.setTop (mkF m 43 #[.val (.int p1), .val (.int p2), .val (.int p3), .val (.int p4), .val (.int p5), .val (.int oo), .val (.int ss), .unset, .unset, .unset, .unset, .unset, .unset] [(.ref b2)]))
    refine own_st (fun _ k => XS.astore X21.here hx rfl (hb hby at_43) rfl rfl (l' := #[.val (.int p1), .val (.int p2), .val (.int p3), .val (.int p4), .val (.int p5), .val (.int oo), .val (.int ss), .val (.ref b2), .unset, .unset, .unset, .unset, .unset]) rfl (XS.iload X21.here hx rfl (hb hby at_45) rfl (XS.iconst X21.here hx rfl (hb hby at_47) (XS.iushr X21.here hx rfl (hb hby at_48) rfl (XS.iconst X21.here hx rfl (hb hby at_49) (XS.iand X21.here hx rfl (hb hby at_50) rfl k)))))) ?_
    show own_Go p.tables e below RR (T21.setTop (mkF m 51 #[.val (.int p1), .val (.int p2), .val (.int p3), .val (.int p4), .val (.int p5), .val (.int oo), .val (.int ss), .val (.ref b2), .unset, .unset, .unset, .unset, .unset] [(.int (((p5.toUInt32 >>> ((2 : Int32) &&& 31).toUInt32).toInt32) &&& (3 : Int32)))]))
    generalize gv25 : (((p5.toUInt32 >>> ((2 : Int32) &&& 31).toUInt32).toInt32) &&& (3 : Int32)) = v25
    show own_Go p.tables e below RR (T21.setTop (mkF m 51 #[.val (.int p1), .val (.int p2), .val (.int p3), .val (.int p4), .val (.int p5), .val (.int oo), .val (.int ss), .val (.ref b2), .unset, .unset, .unset, .unset, .unset] [(.int v25)]))
    refine own_st (fun _ k => XS.istore X21.here hx rfl (hb hby at_51) rfl (l' := #[.val (.int p1), .val (.int p2), .val (.int p3), .val (.int p4), .val (.int p5), .val (.int oo), .val (.int ss), .val (.ref b2), .val (.int v25), .unset, .unset, .unset, .unset]) rfl (XS.iload X21.here hx rfl (hb hby at_53) rfl (XS.iconst X21.here hx rfl (hb hby at_55) k))) ?_
    show own_Go p.tables e below RR (T21.setTop (mkF m 56 #[.val (.int p1), .val (.int p2), .val (.int p3), .val (.int p4), .val (.int p5), .val (.int oo), .val (.int ss), .val (.ref b2), .val (.int v25), .unset, .unset, .unset, .unset] [(.int (1 : Int32)), (.int v25)]))
    by_cases hc56_26 : v25 = (1 : Int32)
    · refine own_st (fun _ k => XS.icmpNo X21.here hx rfl (hb hby at_56) rfl (teq hc56_26).2 (XS.aload X21.here hx rfl (hb hby at_59) rfl rfl (XS.aconstNull X21.here hx rfl (hb hby at_61) k))) ?_
      show own_Go p.tables e below RR (T21.setTop (mkF m 62 #[.val (.int p1), .val (.int p2), .val (.int p3), .val (.int p4), .val (.int p5), .val (.int oo), .val (.int ss), .val (.ref b2), .val (.int v25), .unset, .unset, .unset, .unset] [.null, (.ref b2)]))
      obtain ⟨cq27, kq27, q27a, q27b, q27c⟩ := isOf hZ rfl Eq21
      obtain ⟨_, _, ⟨T27, L27, k27, n27⟩, -, X27, ⟨Lc27, hQ27, l27, y27, z27⟩, st27⟩ := X21.virtualBack hx (y := (⟨"com/example/unstor/unstor/Scope", "equals", "(Ljava/lang/Object;)Z"⟩ : MethodName)) (z := (⟨"com/example/unstor/unstor/Scope", "equals", "(Ljava/lang/Object;)Z"⟩ : MethodName)) hown (mvT hZ (hw _ (List.mem_of_getElem? (i := 59) rfl))) (mvT hZ (hw _ (List.mem_of_getElem? (i := 60) rfl))) (notFace_of_selects (args := #[]) (mvT hZ (hw _ (List.mem_of_getElem? (i := 62) rfl)))) (mvT hZ (hw _ (List.mem_of_getElem? (i := 62) rfl))) (mvT hZ (hw _ (List.mem_of_getElem? (i := 61) rfl))) (by decide) (backOf (W := 0) (own_rmIEN l Z a0 hw [] b2 T21.heap n0 z23 ) hZ (hw _ (List.mem_of_getElem? (i := 63) rfl)) (hw _ (List.mem_of_getElem? (i := 2) rfl)) (by decide) (by decide)) q27a q27c (g := (mkF m 62 #[.val (.int p1), .val (.int p2), .val (.int p3), .val (.int p4), .val (.int p5), .val (.int oo), .val (.int ss), .val (.ref b2), .val (.int v25), .unset, .unset, .unset, .unset] [.null, (.ref b2)])) rfl (by rw [hml]; rfl) (Steps.refl _) (argsL := [.null]) (rest := []) (lenOf own_pd__Ljava_lang_Object__Z rfl) rfl (by show 2 * 0 + _ ≤ _; exact Nat.le_of_eq rfl) (hb hby at_62) (fun _ _ => ⟨rfl, rfl, (by decide : 9 + 0 ≤ _), (by decide : 22 + 0 ≤ _)⟩)
      dsimp only [Pt.U, Pt.locs, Pt.cells, Pt.slots] at X27 l27 y27 z27 st27 hQ27
      subst l27 y27 z27
      obtain ⟨rfl, Nq27, eq27⟩ := hQ27
      have N27 := Fr.app N21 Nq27
      refine own_st (fun _ k => st27.trans k) ?_
      show own_Go p.tables e below RR (T27.setTop (mkF m 65 #[.val (.int p1), .val (.int p2), .val (.int p3), .val (.int p4), .val (.int p5), .val (.int oo), .val (.int ss), .val (.ref b2), .val (.int v25), .unset, .unset, .unset, .unset] [(.int (0 : Int32))]))
      refine own_st (fun _ k => XS.ifNo X27.here hx rfl (hb hby at_65) rfl ((if0 _ _).trans (teq (by decide)).2) (XS.aload X27.here hx rfl (hb hby at_68) rfl rfl (XS.aload X27.here hx rfl (hb hby at_70) rfl rfl k))) ?_
      show own_Go p.tables e below RR (T27.setTop (mkF m 72 #[.val (.int p1), .val (.int p2), .val (.int p3), .val (.int p4), .val (.int p5), .val (.int oo), .val (.int ss), .val (.ref b2), .val (.int v25), .unset, .unset, .unset, .unset] [(.ref b2), (.ref b2)]))
      have f28 := (f20.keep Kq21)
      have f29 := (Eq14.keep Kq21)
      obtain ⟨cq30, kq30, q30a, q30b, q30c⟩ := isOf hZ eq27 Eq21
      obtain ⟨_, _, ⟨T30, L30, k30, n30⟩, -, X30, ⟨Lc30, hQ30, l30, y30, z30⟩, st30⟩ := X27.virtualBack hx (y := (⟨"com/example/unstor/unstor/Scope", "equals", "(Ljava/lang/Object;)Z"⟩ : MethodName)) (z := (⟨"com/example/unstor/unstor/Scope", "equals", "(Ljava/lang/Object;)Z"⟩ : MethodName)) hown (mvT hZ (hw _ (List.mem_of_getElem? (i := 59) rfl))) (mvT hZ (hw _ (List.mem_of_getElem? (i := 60) rfl))) (notFace_of_selects (args := #[]) (mvT hZ (hw _ (List.mem_of_getElem? (i := 62) rfl)))) (mvT hZ (hw _ (List.mem_of_getElem? (i := 62) rfl))) (mvT hZ (hw _ (List.mem_of_getElem? (i := 61) rfl))) (by decide) (backOf (W := 0) (own_rmIEO l Z a0 hw [] b2 rx8 rx14 T21.heap n0 z23 Eq21 Fn21 Fi21 f28 f29) hZ (hw _ (List.mem_of_getElem? (i := 63) rfl)) (hw _ (List.mem_of_getElem? (i := 2) rfl)) (by decide) (by decide)) q30a q30c (g := (mkF m 72 #[.val (.int p1), .val (.int p2), .val (.int p3), .val (.int p4), .val (.int p5), .val (.int oo), .val (.int ss), .val (.ref b2), .val (.int v25), .unset, .unset, .unset, .unset] [(.ref b2), (.ref b2)])) rfl (by rw [hml]; rfl) (Steps.refl _) (argsL := [(.ref b2)]) (rest := []) (lenOf own_pd__Ljava_lang_Object__Z rfl) rfl (by show 2 * 0 + _ ≤ _; exact Nat.le_of_eq rfl) (hb hby at_72) (fun _ _ => ⟨rfl, eq27, (by decide : 9 + 0 ≤ _), (by decide : 22 + 0 ≤ _)⟩)
      dsimp only [Pt.U, Pt.locs, Pt.cells, Pt.slots] at X30 l30 y30 z30 st30 hQ30
      subst l30 y30 z30
      obtain ⟨rfl, Nq30, eq30⟩ := hQ30
      have N30 := Fr.app N27 Nq30
      refine own_st (fun _ k => st30.trans k) ?_
      show own_Go p.tables e below RR (T30.setTop (mkF m 75 #[.val (.int p1), .val (.int p2), .val (.int p3), .val (.int p4), .val (.int p5), .val (.int oo), .val (.int ss), .val (.ref b2), .val (.int v25), .unset, .unset, .unset, .unset] [(.int (1 : Int32))]))
      refine own_st (fun _ k => XS.ifNo X30.here hx rfl (hb hby at_75) rfl ((if0 _ _).trans (feq (by decide)).1) (XS.iconst X30.here hx rfl (hb hby at_78) (XS.goto X30.here hx rfl (pc0 := 79) (pc' := 83) rfl (hb hby at_79) (by decide) (by decide) k))) ?_
      show own_Go p.tables e below RR (T30.setTop (mkF m 83 #[.val (.int p1), .val (.int p2), .val (.int p3), .val (.int p4), .val (.int p5), .val (.int oo), .val (.int ss), .val (.ref b2), .val (.int v25), .unset, .unset, .unset, .unset] [(.int (1 : Int32))]))
      obtain ⟨fs, hrt_, hrun, hended, hRE⟩ := X30.leaveW hS14 (by rw [eq30]; exact hk23) (v := some (.int (1 : Int32))) (fun h => by rw [Bd.returns] at h; cases h)
      refine own_fin (retN X30 hx (t := .boolean) Bd.returns (by simp) (hb hby at_83) hrt_) (hRR _ ⟨_, hrun, hended, _, _, rfl, ?_, hRE.1, hRE.2.1, hRE.2.2.1, hRE.2.2.2.mono (by decide) (by decide)⟩)
      show own_Q0 Z p1 p2 p3 p4 p5 cs h0 n0 _ T30.heap _
      rw [eq30]
      exact ⟨rfl, N30⟩
    · refine own_st (fun _ k => XS.icmpYes X21.here hx rfl (pc0 := 56) (pc' := 84) rfl (hb hby at_56) rfl (feq hc56_26).2 (by decide) (by decide) (XS.iload X21.here hx rfl (hb hby at_84) rfl (XS.iconst X21.here hx rfl (hb hby at_86) k))) ?_
      show own_Go p.tables e below RR (T21.setTop (mkF m 87 #[.val (.int p1), .val (.int p2), .val (.int p3), .val (.int p4), .val (.int p5), .val (.int oo), .val (.int ss), .val (.ref b2), .val (.int v25), .unset, .unset, .unset, .unset] [(.int (2 : Int32)), (.int v25)]))
      by_cases hc87_31 : v25 = (2 : Int32)
      · refine own_st (fun _ k => XS.icmpNo X21.here hx rfl (hb hby at_87) rfl (teq hc87_31).2 (XS.aload X21.here hx rfl (hb hby at_90) rfl rfl (XS.iloadN X21.here hx rfl (hb hby at_92) rfl k))) ?_
        show own_Go p.tables e below RR (T21.setTop (mkF m 93 #[.val (.int p1), .val (.int p2), .val (.int p3), .val (.int p4), .val (.int p5), .val (.int oo), .val (.int ss), .val (.ref b2), .val (.int v25), .unset, .unset, .unset, .unset] [(.int p1), (.ref b2)]))
        have f32 := (own_staK (own_staK f13 Kq14 all0) Kq21 (allS f17.nostat all0))
        obtain ⟨_, _, ⟨T33, L33, k33, n33⟩, -, X33a, hs33, g33, ⟨Lc33, hQ33, l33, y33, z33⟩, st33⟩ := callSS (s := s.setVm T14.vm) X21 hx (y := (⟨"com/example/unstor/unstor/ScopeEqualsPinLaw", "make", "(I)Ljava/lang/String;"⟩ : MethodName)) hown (mvT hZ (hw _ (List.mem_of_getElem? (i := 3) rfl))) (mvT hZ (hw _ (List.mem_of_getElem? (i := 4) rfl))) (mvT hZ (hw _ (List.mem_of_getElem? (i := 5) rfl))) (mvT hZ (hw _ (List.mem_of_getElem? (i := 6) rfl))) (by decide) (own_backS (W := 1) (own_rmTX l Z a0 hw [] p1 (p1 &&& (3 : Int32)) nn6 cs T21.heap n0 z23 rfl hnn6 (fun b cl q => kk24.2.1 b cl (hkp b cl q) nin0) hcon hcw f32 hcs) hZ f22 (hw _ (List.mem_of_getElem? (i := 6) rfl)) (hw _ (List.mem_of_getElem? (i := 5) rfl)) (by decide) (by decide)) (g := (mkF m 93 #[.val (.int p1), .val (.int p2), .val (.int p3), .val (.int p4), .val (.int p5), .val (.int oo), .val (.int ss), .val (.ref b2), .val (.int v25), .unset, .unset, .unset, .unset] [(.int p1), (.ref b2)])) rfl (by rw [hml]; rfl) (argsL := [(.int p1)]) (rest := [(.ref b2)]) (lenOf own_pd__I_Ljava_lang_String_ rfl) rfl (by show 2 * 0 + _ ≤ _; exact Nat.le_of_eq rfl) (hb hby at_93) (fun _ _ => ⟨rfl, rfl, (by decide : 9 + 4 ≤ _), (by decide : 22 + 10 ≤ _)⟩)
        dsimp only [Pt.U, Pt.locs, Pt.cells, Pt.slots] at X33a hs33 g33 l33 y33 z33 st33 hQ33
        subst l33 y33 z33
        obtain ⟨X33, hS33, hZ, hown⟩ := rebS hS14 (by exact hk23) X33a hs33 g33 hZ hown
        obtain ⟨rx33, rfl, Nq33, Kq33, hz33, Eq33, Fq33, ⟨bq33, kbq33, Fvq33, Vq33⟩, Bq33⟩ := hQ33
        have N33 := Fr.app N21 Nq33
        refine own_st (fun _ k => st33.trans k) ?_
        have nr33_b2 : b2 ≠ rx33 := Nat.ne_of_lt (Nat.lt_of_lt_of_le Eq21.lt hz33)
        have f34 := (f20.keep Kq21)
        have nr33_rx8 : rx8 ≠ rx33 := Nat.ne_of_lt (Nat.lt_of_lt_of_le f34.lt hz33)
        have f35 := (Eq14.keep Kq21)
        have nr33_rx14 : rx14 ≠ rx33 := Nat.ne_of_lt (Nat.lt_of_lt_of_le f35.lt hz33)
        have z36 : n0 ≤ T33.heap.size := Nat.le_trans z23 Kq33.1
        have kk37 : Keep h0 T33.heap [] := kk24.trans Kq33 all0
        have f38 := (Eq21.keep Kq33)
        have nb33_b2 : b2 ≠ bq33 := Exa.neArv f38 Vq33 (hw _ (List.mem_of_getElem? (i := 1) rfl))
        show own_Go p.tables e below RR (T33.setTop (mkF m 96 #[.val (.int p1), .val (.int p2), .val (.int p3), .val (.int p4), .val (.int p5), .val (.int oo), .val (.int ss), .val (.ref b2), .val (.int v25), .unset, .unset, .unset, .unset] [(.ref rx33), (.ref b2)]))
        obtain ⟨cq39, kq39, q39a, q39b, q39c⟩ := isOf hZ rfl f38
        obtain ⟨_, _, ⟨T39, L39, k39, n39⟩, -, X39, ⟨Lc39, hQ39, l39, y39, z39⟩, st39⟩ := X33.virtualBack hx (y := (⟨"com/example/unstor/unstor/Scope", "equals", "(Ljava/lang/Object;)Z"⟩ : MethodName)) (z := (⟨"com/example/unstor/unstor/Scope", "equals", "(Ljava/lang/Object;)Z"⟩ : MethodName)) hown (mvT hZ (hw _ (List.mem_of_getElem? (i := 59) rfl))) (mvT hZ (hw _ (List.mem_of_getElem? (i := 60) rfl))) (notFace_of_selects (args := #[]) (mvT hZ (hw _ (List.mem_of_getElem? (i := 62) rfl)))) (mvT hZ (hw _ (List.mem_of_getElem? (i := 62) rfl))) (mvT hZ (hw _ (List.mem_of_getElem? (i := 61) rfl))) (by decide) (backOf (W := 0) (own_rmIES l Z a0 hw [] b2 rx33 T33.heap n0 z36 Eq33) hZ (hw _ (List.mem_of_getElem? (i := 63) rfl)) (hw _ (List.mem_of_getElem? (i := 2) rfl)) (by decide) (by decide)) q39a q39c (g := (mkF m 96 #[.val (.int p1), .val (.int p2), .val (.int p3), .val (.int p4), .val (.int p5), .val (.int oo), .val (.int ss), .val (.ref b2), .val (.int v25), .unset, .unset, .unset, .unset] [(.ref rx33), (.ref b2)])) rfl (by rw [hml]; rfl) (Steps.refl _) (argsL := [(.ref rx33)]) (rest := []) (lenOf own_pd__Ljava_lang_Object__Z rfl) rfl (by show 2 * 0 + _ ≤ _; exact Nat.le_of_eq rfl) (hb hby at_96) (fun _ _ => ⟨rfl, rfl, (by decide : 13 + 0 ≤ _), (by decide : 32 + 0 ≤ _)⟩)
        dsimp only [Pt.U, Pt.locs, Pt.cells, Pt.slots] at X39 l39 y39 z39 st39 hQ39
        subst l39 y39 z39
        obtain ⟨rfl, Nq39, eq39⟩ := hQ39
        have N39 := Fr.app N33 Nq39
        refine own_st (fun _ k => st39.trans k) ?_
        show own_Go p.tables e below RR (T39.setTop (mkF m 99 #[.val (.int p1), .val (.int p2), .val (.int p3), .val (.int p4), .val (.int p5), .val (.int oo), .val (.int ss), .val (.ref b2), .val (.int v25), .unset, .unset, .unset, .unset] [(.int (0 : Int32))]))
        refine own_st (fun _ k => XS.ifNo X39.here hx rfl (hb hby at_99) rfl ((if0 _ _).trans (teq (by decide)).2) (XS.aload X39.here hx rfl (hb hby at_102) rfl rfl (XS.aload X39.here hx rfl (hb hby at_104) rfl rfl k))) ?_
        show own_Go p.tables e below RR (T39.setTop (mkF m 106 #[.val (.int p1), .val (.int p2), .val (.int p3), .val (.int p4), .val (.int p5), .val (.int oo), .val (.int ss), .val (.ref b2), .val (.int v25), .unset, .unset, .unset, .unset] [(.ref b2), (.ref b2)]))
        have f40 := (Fn21.keep Kq33 nin0)
        have f41 := (Fi21.keep Kq33 nin0)
        have f42 := (f34.keep Kq33)
        have f43 := (f35.keep Kq33)
        obtain ⟨cq44, kq44, q44a, q44b, q44c⟩ := isOf hZ eq39 f38
        obtain ⟨_, _, ⟨T44, L44, k44, n44⟩, -, X44, ⟨Lc44, hQ44, l44, y44, z44⟩, st44⟩ := X39.virtualBack hx (y := (⟨"com/example/unstor/unstor/Scope", "equals", "(Ljava/lang/Object;)Z"⟩ : MethodName)) (z := (⟨"com/example/unstor/unstor/Scope", "equals", "(Ljava/lang/Object;)Z"⟩ : MethodName)) hown (mvT hZ (hw _ (List.mem_of_getElem? (i := 59) rfl))) (mvT hZ (hw _ (List.mem_of_getElem? (i := 60) rfl))) (notFace_of_selects (args := #[]) (mvT hZ (hw _ (List.mem_of_getElem? (i := 62) rfl)))) (mvT hZ (hw _ (List.mem_of_getElem? (i := 62) rfl))) (mvT hZ (hw _ (List.mem_of_getElem? (i := 61) rfl))) (by decide) (backOf (W := 0) (own_rmIEO l Z a0 hw [] b2 rx8 rx14 T33.heap n0 z36 f38 f40 f41 f42 f43) hZ (hw _ (List.mem_of_getElem? (i := 63) rfl)) (hw _ (List.mem_of_getElem? (i := 2) rfl)) (by decide) (by decide)) q44a q44c (g := (mkF m 106 #[.val (.int p1), .val (.int p2), .val (.int p3), .val (.int p4), .val (.int p5), .val (.int oo), .val (.int ss), .val (.ref b2), .val (.int v25), .unset, .unset, .unset, .unset] [(.ref b2), (.ref b2)])) rfl (by rw [hml]; rfl) (Steps.refl _) (argsL := [(.ref b2)]) (rest := []) (lenOf own_pd__Ljava_lang_Object__Z rfl) rfl (by show 2 * 0 + _ ≤ _; exact Nat.le_of_eq rfl) (hb hby at_106) (fun _ _ => ⟨rfl, eq39, (by decide : 13 + 0 ≤ _), (by decide : 32 + 0 ≤ _)⟩)
        dsimp only [Pt.U, Pt.locs, Pt.cells, Pt.slots] at X44 l44 y44 z44 st44 hQ44
        subst l44 y44 z44
        obtain ⟨rfl, Nq44, eq44⟩ := hQ44
        have N44 := Fr.app N39 Nq44
        refine own_st (fun _ k => st44.trans k) ?_
        show own_Go p.tables e below RR (T44.setTop (mkF m 109 #[.val (.int p1), .val (.int p2), .val (.int p3), .val (.int p4), .val (.int p5), .val (.int oo), .val (.int ss), .val (.ref b2), .val (.int v25), .unset, .unset, .unset, .unset] [(.int (1 : Int32))]))
        refine own_st (fun _ k => XS.ifNo X44.here hx rfl (hb hby at_109) rfl ((if0 _ _).trans (feq (by decide)).1) (XS.iconst X44.here hx rfl (hb hby at_112) (XS.goto X44.here hx rfl (pc0 := 113) (pc' := 117) rfl (hb hby at_113) (by decide) (by decide) k))) ?_
        show own_Go p.tables e below RR (T44.setTop (mkF m 117 #[.val (.int p1), .val (.int p2), .val (.int p3), .val (.int p4), .val (.int p5), .val (.int oo), .val (.int ss), .val (.ref b2), .val (.int v25), .unset, .unset, .unset, .unset] [(.int (1 : Int32))]))
        obtain ⟨fs, hrt_, hrun, hended, hRE⟩ := X44.leaveW hS33 (by rw [eq44]; exact (Nat.le_refl _)) (v := some (.int (1 : Int32))) (fun h => by rw [Bd.returns] at h; cases h)
        refine own_fin (retN X44 hx (t := .boolean) Bd.returns (by simp) (hb hby at_117) hrt_) (hRR _ ⟨_, hrun, hended, _, _, rfl, ?_, hRE.1, hRE.2.1, hRE.2.2.1, hRE.2.2.2.mono (by decide) (by decide)⟩)
        show own_Q0 Z p1 p2 p3 p4 p5 cs h0 n0 _ T44.heap _
        rw [eq44]
        exact ⟨rfl, N44⟩
      · refine own_st (fun _ k => XS.icmpYes X21.here hx rfl (pc0 := 87) (pc' := 118) rfl (hb hby at_87) rfl (feq hc87_31).2 (by decide) (by decide) k) ?_
        show own_Go p.tables e below RR (T21.setTop (mkF m 118 #[.val (.int p1), .val (.int p2), .val (.int p3), .val (.int p4), .val (.int p5), .val (.int oo), .val (.int ss), .val (.ref b2), .val (.int v25), .unset, .unset, .unset, .unset] []))
        obtain ⟨T45, h45, X45, e45, E45, A45, D45, -, st45⟩ := newO X21 hx hZ hown (hw _ (List.mem_of_getElem? (i := 0) rfl)) (hw _ (List.mem_of_getElem? (i := 1) rfl)) (hw _ (List.mem_of_getElem? (i := 2) rfl)) rfl (g := (mkF m 118 #[.val (.int p1), .val (.int p2), .val (.int p3), .val (.int p4), .val (.int p5), .val (.int oo), .val (.int ss), .val (.ref b2), .val (.int v25), .unset, .unset, .unset, .unset] [])) rfl (hb hby at_118) (by decide) (by decide)
        obtain ⟨b45, gb45⟩ : ∃ z, z = T21.heap.size := ⟨_, rfl⟩
        rw [← gb45] at A45 D45 st45
        have ge45 : n0 ≤ b45 := Nat.le_trans z23 (Nat.le_of_eq gb45.symm)
        have sz45 : h0.size ≤ b45 := Nat.le_trans kk24.1 (Nat.le_of_eq gb45.symm)
        refine own_st st45 ?_
        have f46 := (own_Bk_ext f22 E45)
        have z47 : n0 ≤ h45.size := Nat.le_trans z23 E45.1
        have hk47 := Nat.le_trans hk23 E45.1
        have kk48 : Keep h0 h45 [] := kk24.ext E45
        have F45_53 : Fld Z h45 b45 "com/example/unstor/unstor/Scope" "org" "Ljava/lang/String;" .null := D45 (Or.inr (hw _ (List.mem_of_getElem? (i := 53) rfl))) (ty := (.object "java/lang/String")) (by decide)
        have F45_55 : Fld Z h45 b45 "com/example/unstor/unstor/Scope" "sandbox" "Ljava/lang/String;" .null := D45 (Or.inr (hw _ (List.mem_of_getElem? (i := 55) rfl))) (ty := (.object "java/lang/String")) (by decide)
        show own_Go p.tables e below RR (T45.setTop (mkF m 121 #[.val (.int p1), .val (.int p2), .val (.int p3), .val (.int p4), .val (.int p5), .val (.int oo), .val (.int ss), .val (.ref b2), .val (.int v25), .unset, .unset, .unset, .unset] [(.ref b45)]))
        refine own_st (fun _ k => XS.dup X45.here hx rfl (hb hby at_121) rfl rfl (XS.iload X45.here hx rfl (hb hby at_122) rfl k)) ?_
        show own_Go p.tables e below RR (T45.setTop (mkF m 124 #[.val (.int p1), .val (.int p2), .val (.int p3), .val (.int p4), .val (.int p5), .val (.int oo), .val (.int ss), .val (.ref b2), .val (.int v25), .unset, .unset, .unset, .unset] [(.int oo), (.ref b45), (.ref b45)]))
        obtain ⟨nn49, hnn49⟩ := own_l4 oo
        have f50 := ((own_staK (own_staK f13 Kq14 all0) Kq21 (allS f17.nostat all0)).ext E45)
        obtain ⟨_, _, ⟨T51, L51, k51, n51⟩, -, X51a, hs51, g51, ⟨Lc51, hQ51, l51, y51, z51⟩, st51⟩ := callSS (s := s.setVm T14.vm) X45 hx (y := (⟨"com/example/unstor/unstor/ScopeEqualsPinLaw", "make", "(I)Ljava/lang/String;"⟩ : MethodName)) hown (mvT hZ (hw _ (List.mem_of_getElem? (i := 3) rfl))) (mvT hZ (hw _ (List.mem_of_getElem? (i := 4) rfl))) (mvT hZ (hw _ (List.mem_of_getElem? (i := 5) rfl))) (mvT hZ (hw _ (List.mem_of_getElem? (i := 6) rfl))) (by decide) (own_backS (W := 2) (own_rmTX l Z a0 hw [] oo (oo &&& (3 : Int32)) nn49 cs h45 n0 z47 rfl hnn49 (fun b cl q => kk48.2.1 b cl (hkp b cl q) nin0) hcon hcw f50 hcs) hZ f46 (hw _ (List.mem_of_getElem? (i := 6) rfl)) (hw _ (List.mem_of_getElem? (i := 5) rfl)) (by decide) (by decide)) (g := (mkF m 124 #[.val (.int p1), .val (.int p2), .val (.int p3), .val (.int p4), .val (.int p5), .val (.int oo), .val (.int ss), .val (.ref b2), .val (.int v25), .unset, .unset, .unset, .unset] [(.int oo), (.ref b45), (.ref b45)])) rfl (by rw [hml]; rfl) (argsL := [(.int oo)]) (rest := [(.ref b45), (.ref b45)]) (lenOf own_pd__I_Ljava_lang_String_ rfl) rfl (by show 2 * 0 + _ ≤ _; exact Nat.le_of_eq rfl) (hb hby at_124) (fun _ _ => ⟨rfl, e45, (by decide : 10 + 4 ≤ _), (by decide : 24 + 10 ≤ _)⟩)
        dsimp only [Pt.U, Pt.locs, Pt.cells, Pt.slots] at X51a hs51 g51 l51 y51 z51 st51 hQ51
        subst l51 y51 z51
        obtain ⟨X51, hS51, hZ, hown⟩ := rebS hS14 (by rw [e45]; exact hk47) X51a hs51 g51 hZ hown
        obtain ⟨rx51, rfl, Nq51, Kq51, hz51, Eq51, Fq51, ⟨bq51, kbq51, Fvq51, Vq51⟩, Bq51⟩ := hQ51
        have N51 := Fr.app N21 Nq51
        refine own_st (fun _ k => st51.trans k) ?_
        have f52 := (Eq21.ext E45)
        have nr51_b2 : b2 ≠ rx51 := Nat.ne_of_lt (Nat.lt_of_lt_of_le f52.lt hz51)
        have f53 := ((f20.keep Kq21).ext E45)
        have nr51_rx8 : rx8 ≠ rx51 := Nat.ne_of_lt (Nat.lt_of_lt_of_le f53.lt hz51)
        have f54 := ((Eq14.keep Kq21).ext E45)
        have nr51_rx14 : rx14 ≠ rx51 := Nat.ne_of_lt (Nat.lt_of_lt_of_le f54.lt hz51)
        have nr51_b45 : b45 ≠ rx51 := Nat.ne_of_lt (Nat.lt_of_lt_of_le A45.lt hz51)
        have z55 : n0 ≤ T51.heap.size := Nat.le_trans z47 Kq51.1
        have kk56 : Keep h0 T51.heap [] := kk48.trans Kq51 all0
        have f57 := (f52.keep Kq51)
        have nb51_b2 : b2 ≠ bq51 := Exa.neArv f57 Vq51 (hw _ (List.mem_of_getElem? (i := 1) rfl))
        have f58 := (A45.keep Kq51)
        have nb51_b45 : b45 ≠ bq51 := Exa.neArv f58 Vq51 (hw _ (List.mem_of_getElem? (i := 1) rfl))
        show own_Go p.tables e below RR (T51.setTop (mkF m 127 #[.val (.int p1), .val (.int p2), .val (.int p3), .val (.int p4), .val (.int p5), .val (.int oo), .val (.int ss), .val (.ref b2), .val (.int v25), .unset, .unset, .unset, .unset] [(.ref rx51), (.ref b45), (.ref b45)]))
        refine own_st (fun _ k => XS.iload X51.here hx rfl (hb hby at_127) rfl k) ?_
        show own_Go p.tables e below RR (T51.setTop (mkF m 129 #[.val (.int p1), .val (.int p2), .val (.int p3), .val (.int p4), .val (.int p5), .val (.int oo), .val (.int ss), .val (.ref b2), .val (.int v25), .unset, .unset, .unset, .unset] [(.int ss), (.ref rx51), (.ref b45), (.ref b45)]))
        obtain ⟨nn59, hnn59⟩ := own_l4 ss
        have f60 := (own_staK f50 Kq51 all0)
        obtain ⟨_, _, ⟨T61, L61, k61, n61⟩, -, X61a, hs61, g61, ⟨Lc61, hQ61, l61, y61, z61⟩, st61⟩ := callSS (s := s.setVm T51.vm) X51 hx (y := (⟨"com/example/unstor/unstor/ScopeEqualsPinLaw", "make", "(I)Ljava/lang/String;"⟩ : MethodName)) hown (mvT hZ (hw _ (List.mem_of_getElem? (i := 3) rfl))) (mvT hZ (hw _ (List.mem_of_getElem? (i := 4) rfl))) (mvT hZ (hw _ (List.mem_of_getElem? (i := 5) rfl))) (mvT hZ (hw _ (List.mem_of_getElem? (i := 6) rfl))) (by decide) (own_backS (W := 3) (own_rmTX l Z a0 hw [] ss (ss &&& (3 : Int32)) nn59 cs T51.heap n0 z55 rfl hnn59 (fun b cl q => kk56.2.1 b cl (hkp b cl q) nin0) hcon hcw f60 hcs) hZ Bq51 (hw _ (List.mem_of_getElem? (i := 6) rfl)) (hw _ (List.mem_of_getElem? (i := 5) rfl)) (by decide) (by decide)) (g := (mkF m 129 #[.val (.int p1), .val (.int p2), .val (.int p3), .val (.int p4), .val (.int p5), .val (.int oo), .val (.int ss), .val (.ref b2), .val (.int v25), .unset, .unset, .unset, .unset] [(.int ss), (.ref rx51), (.ref b45), (.ref b45)])) rfl (by rw [hml]; rfl) (argsL := [(.int ss)]) (rest := [(.ref rx51), (.ref b45), (.ref b45)]) (lenOf own_pd__I_Ljava_lang_String_ rfl) rfl (by show 2 * 0 + _ ≤ _; exact Nat.le_of_eq rfl) (hb hby at_129) (fun _ _ => ⟨rfl, rfl, (by decide : 14 + 4 ≤ _), (by decide : 34 + 10 ≤ _)⟩)
        dsimp only [Pt.U, Pt.locs, Pt.cells, Pt.slots] at X61a hs61 g61 l61 y61 z61 st61 hQ61
        subst l61 y61 z61
        obtain ⟨X61, hS61, hZ, hown⟩ := rebS hS51 (by exact (Nat.le_refl _)) X61a hs61 g61 hZ hown
        obtain ⟨rx61, rfl, Nq61, Kq61, hz61, Eq61, Fq61, ⟨bq61, kbq61, Fvq61, Vq61⟩, Bq61⟩ := hQ61
        have N61 := Fr.app N51 Nq61
        refine own_st (fun _ k => st61.trans k) ?_
        have nr61_b2 : b2 ≠ rx61 := Nat.ne_of_lt (Nat.lt_of_lt_of_le f57.lt hz61)
        have f62 := (f53.keep Kq51)
        have nr61_rx8 : rx8 ≠ rx61 := Nat.ne_of_lt (Nat.lt_of_lt_of_le f62.lt hz61)
        have f63 := (f54.keep Kq51)
        have nr61_rx14 : rx14 ≠ rx61 := Nat.ne_of_lt (Nat.lt_of_lt_of_le f63.lt hz61)
        have nr61_b45 : b45 ≠ rx61 := Nat.ne_of_lt (Nat.lt_of_lt_of_le f58.lt hz61)
        have nr61_rx51 : rx51 ≠ rx61 := Nat.ne_of_lt (Nat.lt_of_lt_of_le Eq51.lt hz61)
        have z64 : n0 ≤ T61.heap.size := Nat.le_trans z55 Kq61.1
        have kk65 : Keep h0 T61.heap [] := kk56.trans Kq61 all0
        have f66 := (f57.keep Kq61)
        have nb61_b2 : b2 ≠ bq61 := Exa.neArv f66 Vq61 (hw _ (List.mem_of_getElem? (i := 1) rfl))
        have f67 := (f58.keep Kq61)
        have nb61_b45 : b45 ≠ bq61 := Exa.neArv f67 Vq61 (hw _ (List.mem_of_getElem? (i := 1) rfl))
        show own_Go p.tables e below RR (T61.setTop (mkF m 132 #[.val (.int p1), .val (.int p2), .val (.int p3), .val (.int p4), .val (.int p5), .val (.int oo), .val (.int ss), .val (.ref b2), .val (.int v25), .unset, .unset, .unset, .unset] [(.ref rx61), (.ref rx51), (.ref b45), (.ref b45)]))
        have f68 := ((F45_53.keep Kq51 nin0).keep Kq61 nin0)
        have f69 := ((F45_55.keep Kq51 nin0).keep Kq61 nin0)
        have f70 := (Eq51.keep Kq61)
        obtain ⟨_, _, ⟨T71, L71, k71, n71⟩, -, X71, ⟨Lc71, hQ71, l71, y71, z71⟩, st71⟩ := X61.specialBack hx (y := (⟨"com/example/unstor/unstor/Scope", "<init>", "(Ljava/lang/String;Ljava/lang/String;)V"⟩ : MethodName)) rfl hown (mvT hZ (hw _ (List.mem_of_getElem? (i := 43) rfl))) (mvT hZ (hw _ (List.mem_of_getElem? (i := 44) rfl))) (mvT hZ (hw _ (List.mem_of_getElem? (i := 45) rfl))) (by decide) (backOf (W := 1) (own_rmII l Z a0 hw [] b45 rx51 rx61 T61.heap n0 z64 ge45 f67 f68 f69 f70 Eq61) hZ (hw _ (List.mem_of_getElem? (i := 45) rfl)) (hw _ (List.mem_of_getElem? (i := 2) rfl)) (by decide) (by decide)) (g := (mkF m 132 #[.val (.int p1), .val (.int p2), .val (.int p3), .val (.int p4), .val (.int p5), .val (.int oo), .val (.int ss), .val (.ref b2), .val (.int v25), .unset, .unset, .unset, .unset] [(.ref rx61), (.ref rx51), (.ref b45), (.ref b45)])) rfl (by rw [hml]; rfl) (Steps.refl _) (a := b45) (argsL := [(.ref rx51), (.ref rx61)]) (rest := [(.ref b45)]) (lenOf own_pd__Ljava_lang_String_Ljava_lang_String__V rfl) rfl (by show 2 * 0 + _ ≤ _; exact Nat.le_of_eq rfl) (hb hby at_132) (fun _ _ => ⟨rfl, rfl, (by decide : 18 + 0 ≤ _), (by decide : 44 + 0 ≤ _)⟩)
        dsimp only [Pt.U, Pt.locs, Pt.cells, Pt.slots] at X71 l71 y71 z71 st71 hQ71
        subst l71 y71 z71
        obtain ⟨rfl, Nq71, Kq71, Eq71, Fn71, Fi71⟩ := hQ71
        have N71 := Fr.app N61 Nq71
        refine own_st (fun _ k => st71.trans k) ?_
        have f72 := (own_Bk_C Bq61 Kq71 f67 (by decide) (hw _ (List.mem_of_getElem? (i := 1) rfl)))
        have z73 : n0 ≤ T71.heap.size := Nat.le_trans z64 Kq71.1
        have hk73 := Nat.le_trans (Nat.le_refl _) Kq71.1
        have kk74 : Keep h0 T71.heap [] := kk65.trans Kq71 (allS (Or.inr sz45) all0)
        show own_Go p.tables e below RR (T71.setTop (mkF m 135 #[.val (.int p1), .val (.int p2), .val (.int p3), .val (.int p4), .val (.int p5), .val (.int oo), .val (.int ss), .val (.ref b2), .val (.int v25), .unset, .unset, .unset, .unset] [(.ref b45)]))
        refine own_st (fun _ k => XS.astore X71.here hx rfl (hb hby at_135) rfl rfl (l' := #[.val (.int p1), .val (.int p2), .val (.int p3), .val (.int p4), .val (.int p5), .val (.int oo), .val (.int ss), .val (.ref b2), .val (.int v25), .val (.ref b45), .unset, .unset, .unset]) rfl (XS.iloadN X71.here hx rfl (hb hby at_137) rfl (XS.iload X71.here hx rfl (hb hby at_138) rfl k))) ?_
        show own_Go p.tables e below RR (T71.setTop (mkF m 140 #[.val (.int p1), .val (.int p2), .val (.int p3), .val (.int p4), .val (.int p5), .val (.int oo), .val (.int ss), .val (.ref b2), .val (.int v25), .val (.ref b45), .unset, .unset, .unset] [(.int oo), (.int p1)]))
        obtain ⟨_, _, ⟨T75, L75, k75, n75⟩, -, X75, ⟨Lc75, hQ75, l75, y75, z75⟩, st75⟩ := Jvm.LawKit.callS X71 hx (y := (⟨"com/example/unstor/unstor/ScopeEqualsPinLaw", "same", "(II)Z"⟩ : MethodName)) hown (mvT hZ (hw _ (List.mem_of_getElem? (i := 56) rfl))) (mvT hZ (hw _ (List.mem_of_getElem? (i := 57) rfl))) (mvT hZ (hw _ (List.mem_of_getElem? (i := 5) rfl))) (mvT hZ (hw _ (List.mem_of_getElem? (i := 58) rfl))) (by decide) (backOf (W := 0) (own_rmSM l Z a0 hw [] p1 (p1 &&& (3 : Int32)) nn6 oo (oo &&& (3 : Int32)) nn49 T71.heap n0 z73 rfl rfl hnn6 hnn49) hZ (hw _ (List.mem_of_getElem? (i := 58) rfl)) (hw _ (List.mem_of_getElem? (i := 5) rfl)) (by decide) (by decide)) (g := (mkF m 140 #[.val (.int p1), .val (.int p2), .val (.int p3), .val (.int p4), .val (.int p5), .val (.int oo), .val (.int ss), .val (.ref b2), .val (.int v25), .val (.ref b45), .unset, .unset, .unset] [(.int oo), (.int p1)])) rfl (by rw [hml]; rfl) (argsL := [(.int p1), (.int oo)]) (rest := []) (lenOf own_pd__II_Z rfl) rfl (by show 2 * 0 + _ ≤ _; exact Nat.le_of_eq rfl) (hb hby at_140) (fun _ _ => ⟨rfl, rfl, (by decide : 18 + 0 ≤ _), (by decide : 44 + 0 ≤ _)⟩)
        dsimp only [Pt.U, Pt.locs, Pt.cells, Pt.slots] at X75 l75 y75 z75 st75 hQ75
        subst l75 y75 z75
        obtain ⟨rfl, Nq75, eq75⟩ := hQ75
        have N75 := Fr.app N71 Nq75
        refine own_st st75 ?_
        show own_Go p.tables e below RR (T75.setTop (mkF m 143 #[.val (.int p1), .val (.int p2), .val (.int p3), .val (.int p4), .val (.int p5), .val (.int oo), .val (.int ss), .val (.ref b2), .val (.int v25), .val (.ref b45), .unset, .unset, .unset] [(.int (own_same p1 nn6 oo nn49))]))
        by_cases hc143_76 : (own_same p1 nn6 oo nn49) = (0 : Int32)
        · refine own_st (fun _ k => XS.ifYes X75.here hx rfl (pc0 := 143) (pc' := 159) rfl (hb hby at_143) rfl ((if0 _ _).trans (teq hc143_76).1) (by decide) (by decide) (XS.iconst X75.here hx rfl (hb hby at_159) (XS.istore X75.here hx rfl (hb hby at_160) rfl (l' := #[.val (.int p1), .val (.int p2), .val (.int p3), .val (.int p4), .val (.int p5), .val (.int oo), .val (.int ss), .val (.ref b2), .val (.int v25), .val (.ref b45), .val (.int (0 : Int32)), .unset, .unset]) rfl (XS.aload X75.here hx rfl (hb hby at_162) rfl rfl (XS.aload X75.here hx rfl (hb hby at_164) rfl rfl k))))) ?_
          show own_Go p.tables e below RR (T75.setTop (mkF m 166 #[.val (.int p1), .val (.int p2), .val (.int p3), .val (.int p4), .val (.int p5), .val (.int oo), .val (.int ss), .val (.ref b2), .val (.int v25), .val (.ref b45), .val (.int (0 : Int32)), .unset, .unset] [(.ref b45), (.ref b2)]))
          have ne77 : b2 ≠ b45 := (Nat.ne_of_lt (Nat.lt_of_lt_of_le Eq21.lt (Nat.le_of_eq gb45.symm)))
          have f78 := ((((Fn21.ext E45).keep Kq51 nin0).keep Kq61 nin0).keep Kq71 (ninS ne77 nin0))
          have f79 := ((((Fi21.ext E45).keep Kq51 nin0).keep Kq61 nin0).keep Kq71 (ninS ne77 nin0))
          have f80 := ((f62.keep Kq61).keep Kq71)
          have ne81 : rx8 ≠ b45 := (Nat.ne_of_lt (Nat.lt_of_lt_of_le (f20.keep Kq21).lt (Nat.le_of_eq gb45.symm)))
          have f82 := ((((((Fq8.keep Kq14 nin0).keep Kq21 (ninS (Ne.symm nr8_b2) nin0)).ext E45).keep Kq51 nin0).keep Kq61 nin0).keep Kq71 (ninS ne81 nin0))
          have f83 := ((((((Fvq8.keep Kq14 nin0).keep Kq21 (ninS (Ne.symm nr8_b2) nin0)).ext E45).keep Kq51 nin0).keep Kq61 nin0).keep Kq71 (ninS ne81 nin0))
          have ne84 : bq8 ≠ b45 := (Nat.ne_of_lt (Nat.lt_of_lt_of_le ((Vq8.keep Kq14 nin0).keep Kq21 (ninS (Ne.symm nb8_b2) nin0)).lt (Nat.le_of_eq gb45.symm)))
          have f85 := ((((((Vq8.keep Kq14 nin0).keep Kq21 (ninS (Ne.symm nb8_b2) nin0)).ext E45).keep Kq51 nin0).keep Kq61 nin0).keep Kq71 (ninS ne84 nin0))
          have f86 := ((f63.keep Kq61).keep Kq71)
          have ne87 : rx14 ≠ b45 := (Nat.ne_of_lt (Nat.lt_of_lt_of_le (Eq14.keep Kq21).lt (Nat.le_of_eq gb45.symm)))
          have f88 := (((((Fq14.keep Kq21 (ninS (Ne.symm nr14_b2) nin0)).ext E45).keep Kq51 nin0).keep Kq61 nin0).keep Kq71 (ninS ne87 nin0))
          have f89 := (((((Fvq14.keep Kq21 (ninS (Ne.symm nr14_b2) nin0)).ext E45).keep Kq51 nin0).keep Kq61 nin0).keep Kq71 (ninS ne87 nin0))
          have ne90 : bq14 ≠ b45 := (Nat.ne_of_lt (Nat.lt_of_lt_of_le (Vq14.keep Kq21 (ninS (Ne.symm nb14_b2) nin0)).lt (Nat.le_of_eq gb45.symm)))
          have f91 := (((((Vq14.keep Kq21 (ninS (Ne.symm nb14_b2) nin0)).ext E45).keep Kq51 nin0).keep Kq61 nin0).keep Kq71 (ninS ne90 nin0))
          have f92 := (f70.keep Kq71)
          have f93 := ((Fq51.keep Kq61 nin0).keep Kq71 (ninS (Ne.symm nr51_b45) nin0))
          have f94 := ((Fvq51.keep Kq61 nin0).keep Kq71 (ninS (Ne.symm nr51_b45) nin0))
          have f95 := ((Vq51.keep Kq61 nin0).keep Kq71 (ninS (Ne.symm nb51_b45) nin0))
          have f96 := (Eq61.keep Kq71)
          have f97 := (Fq61.keep Kq71 (ninS (Ne.symm nr61_b45) nin0))
          have f98 := (Fvq61.keep Kq71 (ninS (Ne.symm nr61_b45) nin0))
          have f99 := (Vq61.keep Kq71 (ninS (Ne.symm nb61_b45) nin0))
          have f100 := (own_staK (own_staK f60 Kq61 all0) Kq71 (allS f67.nostat all0))
          have f102 := (f66.keep Kq71)
          obtain ⟨cq101, kq101, q101a, q101b, q101c⟩ := isOf hZ eq75 f102
          obtain ⟨_, _, ⟨T101, L101, k101, n101⟩, -, X101, ⟨Lc101, hQ101, l101, y101, z101⟩, st101⟩ := X75.virtualBack hx (y := (⟨"com/example/unstor/unstor/Scope", "equals", "(Ljava/lang/Object;)Z"⟩ : MethodName)) (z := (⟨"com/example/unstor/unstor/Scope", "equals", "(Ljava/lang/Object;)Z"⟩ : MethodName)) hown (mvT hZ (hw _ (List.mem_of_getElem? (i := 59) rfl))) (mvT hZ (hw _ (List.mem_of_getElem? (i := 60) rfl))) (notFace_of_selects (args := #[]) (mvT hZ (hw _ (List.mem_of_getElem? (i := 62) rfl)))) (mvT hZ (hw _ (List.mem_of_getElem? (i := 62) rfl))) (mvT hZ (hw _ (List.mem_of_getElem? (i := 61) rfl))) (by decide) (backOf (W := 0) (own_rmIED l Z a0 hw [] b2 b45 rx8 bq8 kbq8 p1 (p1 &&& (3 : Int32)) nn6 rx14 bq14 kbq14 p2 (p2 &&& (3 : Int32)) nn12 rx51 bq51 kbq51 oo (oo &&& (3 : Int32)) nn49 rx61 bq61 kbq61 ss (ss &&& (3 : Int32)) nn59 cs (0 : Int32) T71.heap n0 z73 Eq71 f78 f79 Fn71 Fi71 f80 f82 f83 f85 hnn6 f86 f88 f89 f91 hnn12 f92 f93 f94 f95 hnn49 f96 f97 f98 f99 hnn59 f100 hcs nr51_rx8 nr61_rx14 (own_an0 hc143_76)) hZ (hw _ (List.mem_of_getElem? (i := 63) rfl)) (hw _ (List.mem_of_getElem? (i := 2) rfl)) (by decide) (by decide)) q101a q101c (g := (mkF m 166 #[.val (.int p1), .val (.int p2), .val (.int p3), .val (.int p4), .val (.int p5), .val (.int oo), .val (.int ss), .val (.ref b2), .val (.int v25), .val (.ref b45), .val (.int (0 : Int32)), .unset, .unset] [(.ref b45), (.ref b2)])) rfl (by rw [hml]; rfl) (Steps.refl _) (argsL := [(.ref b45)]) (rest := []) (lenOf own_pd__Ljava_lang_Object__Z rfl) rfl (by show 2 * 0 + _ ≤ _; exact Nat.le_of_eq rfl) (hb hby at_166) (fun _ _ => ⟨rfl, eq75, (by decide : 18 + 0 ≤ _), (by decide : 44 + 0 ≤ _)⟩)
          dsimp only [Pt.U, Pt.locs, Pt.cells, Pt.slots] at X101 l101 y101 z101 st101 hQ101
          subst l101 y101 z101
          obtain ⟨rfl, Nq101, eq101⟩ := hQ101
          have N101 := Fr.app N75 Nq101
          refine own_st (fun _ k => st101.trans k) ?_
          show own_Go p.tables e below RR (T101.setTop (mkF m 169 #[.val (.int p1), .val (.int p2), .val (.int p3), .val (.int p4), .val (.int p5), .val (.int oo), .val (.int ss), .val (.ref b2), .val (.int v25), .val (.ref b45), .val (.int (0 : Int32)), .unset, .unset] [(.int (0 : Int32))]))
          refine own_st (fun _ k => XS.istore X101.here hx rfl (hb hby at_169) rfl (l' := #[.val (.int p1), .val (.int p2), .val (.int p3), .val (.int p4), .val (.int p5), .val (.int oo), .val (.int ss), .val (.ref b2), .val (.int v25), .val (.ref b45), .val (.int (0 : Int32)), .val (.int (0 : Int32)), .unset]) rfl (XS.aload X101.here hx rfl (hb hby at_171) rfl rfl (XS.aload X101.here hx rfl (hb hby at_173) rfl rfl k))) ?_
          show own_Go p.tables e below RR (T101.setTop (mkF m 175 #[.val (.int p1), .val (.int p2), .val (.int p3), .val (.int p4), .val (.int p5), .val (.int oo), .val (.int ss), .val (.ref b2), .val (.int v25), .val (.ref b45), .val (.int (0 : Int32)), .val (.int (0 : Int32)), .unset] [(.ref b2), (.ref b45)]))
          obtain ⟨cq103, kq103, q103a, q103b, q103c⟩ := isOf hZ eq101 Eq71
          obtain ⟨_, _, ⟨T103, L103, k103, n103⟩, -, X103, ⟨Lc103, hQ103, l103, y103, z103⟩, st103⟩ := X101.virtualBack hx (y := (⟨"com/example/unstor/unstor/Scope", "equals", "(Ljava/lang/Object;)Z"⟩ : MethodName)) (z := (⟨"com/example/unstor/unstor/Scope", "equals", "(Ljava/lang/Object;)Z"⟩ : MethodName)) hown (mvT hZ (hw _ (List.mem_of_getElem? (i := 59) rfl))) (mvT hZ (hw _ (List.mem_of_getElem? (i := 60) rfl))) (notFace_of_selects (args := #[]) (mvT hZ (hw _ (List.mem_of_getElem? (i := 62) rfl)))) (mvT hZ (hw _ (List.mem_of_getElem? (i := 62) rfl))) (mvT hZ (hw _ (List.mem_of_getElem? (i := 61) rfl))) (by decide) (backOf (W := 0) (own_rmIED l Z a0 hw [] b45 b2 rx51 bq51 kbq51 oo (oo &&& (3 : Int32)) nn49 rx61 bq61 kbq61 ss (ss &&& (3 : Int32)) nn59 rx8 bq8 kbq8 p1 (p1 &&& (3 : Int32)) nn6 rx14 bq14 kbq14 p2 (p2 &&& (3 : Int32)) nn12 cs (0 : Int32) T71.heap n0 z73 f102 Fn71 Fi71 f78 f79 f92 f93 f94 f95 hnn49 f96 f97 f98 f99 hnn59 f80 f82 f83 f85 hnn6 f86 f88 f89 f91 hnn12 f100 hcs (Ne.symm nr51_rx8) (Ne.symm nr61_rx14) ((own_ansym _ _ _ _ _ _ _ _).trans (own_an0 hc143_76))) hZ (hw _ (List.mem_of_getElem? (i := 63) rfl)) (hw _ (List.mem_of_getElem? (i := 2) rfl)) (by decide) (by decide)) q103a q103c (g := (mkF m 175 #[.val (.int p1), .val (.int p2), .val (.int p3), .val (.int p4), .val (.int p5), .val (.int oo), .val (.int ss), .val (.ref b2), .val (.int v25), .val (.ref b45), .val (.int (0 : Int32)), .val (.int (0 : Int32)), .unset] [(.ref b2), (.ref b45)])) rfl (by rw [hml]; rfl) (Steps.refl _) (argsL := [(.ref b2)]) (rest := []) (lenOf own_pd__Ljava_lang_Object__Z rfl) rfl (by show 2 * 0 + _ ≤ _; exact Nat.le_of_eq rfl) (hb hby at_175) (fun _ _ => ⟨rfl, eq101, (by decide : 18 + 0 ≤ _), (by decide : 44 + 0 ≤ _)⟩)
          dsimp only [Pt.U, Pt.locs, Pt.cells, Pt.slots] at X103 l103 y103 z103 st103 hQ103
          subst l103 y103 z103
          obtain ⟨rfl, Nq103, eq103⟩ := hQ103
          have N103 := Fr.app N101 Nq103
          refine own_st (fun _ k => st103.trans k) ?_
          show own_Go p.tables e below RR (T103.setTop (mkF m 178 #[.val (.int p1), .val (.int p2), .val (.int p3), .val (.int p4), .val (.int p5), .val (.int oo), .val (.int ss), .val (.ref b2), .val (.int v25), .val (.ref b45), .val (.int (0 : Int32)), .val (.int (0 : Int32)), .unset] [(.int (0 : Int32))]))
          refine own_st (fun _ k => XS.istore X103.here hx rfl (hb hby at_178) rfl (l' := #[.val (.int p1), .val (.int p2), .val (.int p3), .val (.int p4), .val (.int p5), .val (.int oo), .val (.int ss), .val (.ref b2), .val (.int v25), .val (.ref b45), .val (.int (0 : Int32)), .val (.int (0 : Int32)), .val (.int (0 : Int32))]) rfl (XS.iload X103.here hx rfl (hb hby at_180) rfl (XS.iload X103.here hx rfl (hb hby at_182) rfl k))) ?_
          show own_Go p.tables e below RR (T103.setTop (mkF m 184 #[.val (.int p1), .val (.int p2), .val (.int p3), .val (.int p4), .val (.int p5), .val (.int oo), .val (.int ss), .val (.ref b2), .val (.int v25), .val (.ref b45), .val (.int (0 : Int32)), .val (.int (0 : Int32)), .val (.int (0 : Int32))] [(.int (0 : Int32)), (.int (0 : Int32))]))
          refine own_st (fun _ k => XS.icmpNo X103.here hx rfl (hb hby at_184) rfl (teq (by decide)).2 (XS.iload X103.here hx rfl (hb hby at_187) rfl (XS.iload X103.here hx rfl (hb hby at_189) rfl k))) ?_
          show own_Go p.tables e below RR (T103.setTop (mkF m 191 #[.val (.int p1), .val (.int p2), .val (.int p3), .val (.int p4), .val (.int p5), .val (.int oo), .val (.int ss), .val (.ref b2), .val (.int v25), .val (.ref b45), .val (.int (0 : Int32)), .val (.int (0 : Int32)), .val (.int (0 : Int32))] [(.int (0 : Int32)), (.int (0 : Int32))]))
          refine own_st (fun _ k => XS.icmpNo X103.here hx rfl (hb hby at_191) rfl (teq (by decide)).2 (XS.aload X103.here hx rfl (hb hby at_194) rfl rfl (XS.aload X103.here hx rfl (hb hby at_196) rfl rfl k))) ?_
          show own_Go p.tables e below RR (T103.setTop (mkF m 198 #[.val (.int p1), .val (.int p2), .val (.int p3), .val (.int p4), .val (.int p5), .val (.int oo), .val (.int ss), .val (.ref b2), .val (.int v25), .val (.ref b45), .val (.int (0 : Int32)), .val (.int (0 : Int32)), .val (.int (0 : Int32))] [(.ref b2), (.ref b2)]))
          obtain ⟨cq104, kq104, q104a, q104b, q104c⟩ := isOf hZ eq103 f102
          obtain ⟨_, _, ⟨T104, L104, k104, n104⟩, -, X104, ⟨Lc104, hQ104, l104, y104, z104⟩, st104⟩ := X103.virtualBack hx (y := (⟨"com/example/unstor/unstor/Scope", "equals", "(Ljava/lang/Object;)Z"⟩ : MethodName)) (z := (⟨"com/example/unstor/unstor/Scope", "equals", "(Ljava/lang/Object;)Z"⟩ : MethodName)) hown (mvT hZ (hw _ (List.mem_of_getElem? (i := 59) rfl))) (mvT hZ (hw _ (List.mem_of_getElem? (i := 60) rfl))) (notFace_of_selects (args := #[]) (mvT hZ (hw _ (List.mem_of_getElem? (i := 62) rfl)))) (mvT hZ (hw _ (List.mem_of_getElem? (i := 62) rfl))) (mvT hZ (hw _ (List.mem_of_getElem? (i := 61) rfl))) (by decide) (backOf (W := 0) (own_rmIEO l Z a0 hw [] b2 rx8 rx14 T71.heap n0 z73 f102 f78 f79 f80 f86) hZ (hw _ (List.mem_of_getElem? (i := 63) rfl)) (hw _ (List.mem_of_getElem? (i := 2) rfl)) (by decide) (by decide)) q104a q104c (g := (mkF m 198 #[.val (.int p1), .val (.int p2), .val (.int p3), .val (.int p4), .val (.int p5), .val (.int oo), .val (.int ss), .val (.ref b2), .val (.int v25), .val (.ref b45), .val (.int (0 : Int32)), .val (.int (0 : Int32)), .val (.int (0 : Int32))] [(.ref b2), (.ref b2)])) rfl (by rw [hml]; rfl) (Steps.refl _) (argsL := [(.ref b2)]) (rest := []) (lenOf own_pd__Ljava_lang_Object__Z rfl) rfl (by show 2 * 0 + _ ≤ _; exact Nat.le_of_eq rfl) (hb hby at_198) (fun _ _ => ⟨rfl, eq103, (by decide : 18 + 0 ≤ _), (by decide : 44 + 0 ≤ _)⟩)
          dsimp only [Pt.U, Pt.locs, Pt.cells, Pt.slots] at X104 l104 y104 z104 st104 hQ104
          subst l104 y104 z104
          obtain ⟨rfl, Nq104, eq104⟩ := hQ104
          have N104 := Fr.app N103 Nq104
          refine own_st (fun _ k => st104.trans k) ?_
          show own_Go p.tables e below RR (T104.setTop (mkF m 201 #[.val (.int p1), .val (.int p2), .val (.int p3), .val (.int p4), .val (.int p5), .val (.int oo), .val (.int ss), .val (.ref b2), .val (.int v25), .val (.ref b45), .val (.int (0 : Int32)), .val (.int (0 : Int32)), .val (.int (0 : Int32))] [(.int (1 : Int32))]))
          refine own_st (fun _ k => XS.ifNo X104.here hx rfl (hb hby at_201) rfl ((if0 _ _).trans (feq (by decide)).1) (XS.iconst X104.here hx rfl (hb hby at_204) (XS.goto X104.here hx rfl (pc0 := 205) (pc' := 209) rfl (hb hby at_205) (by decide) (by decide) k))) ?_
          show own_Go p.tables e below RR (T104.setTop (mkF m 209 #[.val (.int p1), .val (.int p2), .val (.int p3), .val (.int p4), .val (.int p5), .val (.int oo), .val (.int ss), .val (.ref b2), .val (.int v25), .val (.ref b45), .val (.int (0 : Int32)), .val (.int (0 : Int32)), .val (.int (0 : Int32))] [(.int (1 : Int32))]))
          obtain ⟨fs, hrt_, hrun, hended, hRE⟩ := X104.leaveW hS61 (by rw [eq104]; exact hk73) (v := some (.int (1 : Int32))) (fun h => by rw [Bd.returns] at h; cases h)
          refine own_fin (retN X104 hx (t := .boolean) Bd.returns (by simp) (hb hby at_209) hrt_) (hRR _ ⟨_, hrun, hended, _, _, rfl, ?_, hRE.1, hRE.2.1, hRE.2.2.1, hRE.2.2.2.mono (by decide) (by decide)⟩)
          show own_Q0 Z p1 p2 p3 p4 p5 cs h0 n0 _ T104.heap _
          rw [eq104]
          exact ⟨rfl, N104⟩
        · refine own_st (fun _ k => XS.ifNo X75.here hx rfl (hb hby at_143) rfl ((if0 _ _).trans (feq hc143_76).1) (XS.iloadN X75.here hx rfl (hb hby at_146) rfl (XS.iload X75.here hx rfl (hb hby at_147) rfl k))) ?_
          show own_Go p.tables e below RR (T75.setTop (mkF m 149 #[.val (.int p1), .val (.int p2), .val (.int p3), .val (.int p4), .val (.int p5), .val (.int oo), .val (.int ss), .val (.ref b2), .val (.int v25), .val (.ref b45), .unset, .unset, .unset] [(.int ss), (.int p2)]))
          obtain ⟨_, _, ⟨T105, L105, k105, n105⟩, -, X105, ⟨Lc105, hQ105, l105, y105, z105⟩, st105⟩ := Jvm.LawKit.callS X75 hx (y := (⟨"com/example/unstor/unstor/ScopeEqualsPinLaw", "same", "(II)Z"⟩ : MethodName)) hown (mvT hZ (hw _ (List.mem_of_getElem? (i := 56) rfl))) (mvT hZ (hw _ (List.mem_of_getElem? (i := 57) rfl))) (mvT hZ (hw _ (List.mem_of_getElem? (i := 5) rfl))) (mvT hZ (hw _ (List.mem_of_getElem? (i := 58) rfl))) (by decide) (backOf (W := 0) (own_rmSM l Z a0 hw [] p2 (p2 &&& (3 : Int32)) nn12 ss (ss &&& (3 : Int32)) nn59 T71.heap n0 z73 rfl rfl hnn12 hnn59) hZ (hw _ (List.mem_of_getElem? (i := 58) rfl)) (hw _ (List.mem_of_getElem? (i := 5) rfl)) (by decide) (by decide)) (g := (mkF m 149 #[.val (.int p1), .val (.int p2), .val (.int p3), .val (.int p4), .val (.int p5), .val (.int oo), .val (.int ss), .val (.ref b2), .val (.int v25), .val (.ref b45), .unset, .unset, .unset] [(.int ss), (.int p2)])) rfl (by rw [hml]; rfl) (argsL := [(.int p2), (.int ss)]) (rest := []) (lenOf own_pd__II_Z rfl) rfl (by show 2 * 0 + _ ≤ _; exact Nat.le_of_eq rfl) (hb hby at_149) (fun _ _ => ⟨rfl, eq75, (by decide : 18 + 0 ≤ _), (by decide : 44 + 0 ≤ _)⟩)
          dsimp only [Pt.U, Pt.locs, Pt.cells, Pt.slots] at X105 l105 y105 z105 st105 hQ105
          subst l105 y105 z105
          obtain ⟨rfl, Nq105, eq105⟩ := hQ105
          have N105 := Fr.app N75 Nq105
          refine own_st st105 ?_
          show own_Go p.tables e below RR (T105.setTop (mkF m 152 #[.val (.int p1), .val (.int p2), .val (.int p3), .val (.int p4), .val (.int p5), .val (.int oo), .val (.int ss), .val (.ref b2), .val (.int v25), .val (.ref b45), .unset, .unset, .unset] [(.int (own_same p2 nn12 ss nn59))]))
          by_cases hc152_106 : (own_same p2 nn12 ss nn59) = (0 : Int32)
          · refine own_st (fun _ k => XS.ifYes X105.here hx rfl (pc0 := 152) (pc' := 159) rfl (hb hby at_152) rfl ((if0 _ _).trans (teq hc152_106).1) (by decide) (by decide) (XS.iconst X105.here hx rfl (hb hby at_159) (XS.istore X105.here hx rfl (hb hby at_160) rfl (l' := #[.val (.int p1), .val (.int p2), .val (.int p3), .val (.int p4), .val (.int p5), .val (.int oo), .val (.int ss), .val (.ref b2), .val (.int v25), .val (.ref b45), .val (.int (0 : Int32)), .unset, .unset]) rfl (XS.aload X105.here hx rfl (hb hby at_162) rfl rfl (XS.aload X105.here hx rfl (hb hby at_164) rfl rfl k))))) ?_
            show own_Go p.tables e below RR (T105.setTop (mkF m 166 #[.val (.int p1), .val (.int p2), .val (.int p3), .val (.int p4), .val (.int p5), .val (.int oo), .val (.int ss), .val (.ref b2), .val (.int v25), .val (.ref b45), .val (.int (0 : Int32)), .unset, .unset] [(.ref b45), (.ref b2)]))
            have ne107 : b2 ≠ b45 := (Nat.ne_of_lt (Nat.lt_of_lt_of_le Eq21.lt (Nat.le_of_eq gb45.symm)))
            have f108 := ((((Fn21.ext E45).keep Kq51 nin0).keep Kq61 nin0).keep Kq71 (ninS ne107 nin0))
            have f109 := ((((Fi21.ext E45).keep Kq51 nin0).keep Kq61 nin0).keep Kq71 (ninS ne107 nin0))
            have f110 := ((f62.keep Kq61).keep Kq71)
            have ne111 : rx8 ≠ b45 := (Nat.ne_of_lt (Nat.lt_of_lt_of_le (f20.keep Kq21).lt (Nat.le_of_eq gb45.symm)))
            have f112 := ((((((Fq8.keep Kq14 nin0).keep Kq21 (ninS (Ne.symm nr8_b2) nin0)).ext E45).keep Kq51 nin0).keep Kq61 nin0).keep Kq71 (ninS ne111 nin0))
            have f113 := ((((((Fvq8.keep Kq14 nin0).keep Kq21 (ninS (Ne.symm nr8_b2) nin0)).ext E45).keep Kq51 nin0).keep Kq61 nin0).keep Kq71 (ninS ne111 nin0))
            have ne114 : bq8 ≠ b45 := (Nat.ne_of_lt (Nat.lt_of_lt_of_le ((Vq8.keep Kq14 nin0).keep Kq21 (ninS (Ne.symm nb8_b2) nin0)).lt (Nat.le_of_eq gb45.symm)))
            have f115 := ((((((Vq8.keep Kq14 nin0).keep Kq21 (ninS (Ne.symm nb8_b2) nin0)).ext E45).keep Kq51 nin0).keep Kq61 nin0).keep Kq71 (ninS ne114 nin0))
            have f116 := ((f63.keep Kq61).keep Kq71)
            have ne117 : rx14 ≠ b45 := (Nat.ne_of_lt (Nat.lt_of_lt_of_le (Eq14.keep Kq21).lt (Nat.le_of_eq gb45.symm)))
            have f118 := (((((Fq14.keep Kq21 (ninS (Ne.symm nr14_b2) nin0)).ext E45).keep Kq51 nin0).keep Kq61 nin0).keep Kq71 (ninS ne117 nin0))
            have f119 := (((((Fvq14.keep Kq21 (ninS (Ne.symm nr14_b2) nin0)).ext E45).keep Kq51 nin0).keep Kq61 nin0).keep Kq71 (ninS ne117 nin0))
            have ne120 : bq14 ≠ b45 := (Nat.ne_of_lt (Nat.lt_of_lt_of_le (Vq14.keep Kq21 (ninS (Ne.symm nb14_b2) nin0)).lt (Nat.le_of_eq gb45.symm)))
            have f121 := (((((Vq14.keep Kq21 (ninS (Ne.symm nb14_b2) nin0)).ext E45).keep Kq51 nin0).keep Kq61 nin0).keep Kq71 (ninS ne120 nin0))
            have f122 := (f70.keep Kq71)
            have f123 := ((Fq51.keep Kq61 nin0).keep Kq71 (ninS (Ne.symm nr51_b45) nin0))
            have f124 := ((Fvq51.keep Kq61 nin0).keep Kq71 (ninS (Ne.symm nr51_b45) nin0))
            have f125 := ((Vq51.keep Kq61 nin0).keep Kq71 (ninS (Ne.symm nb51_b45) nin0))
            have f126 := (Eq61.keep Kq71)
            have f127 := (Fq61.keep Kq71 (ninS (Ne.symm nr61_b45) nin0))
            have f128 := (Fvq61.keep Kq71 (ninS (Ne.symm nr61_b45) nin0))
            have f129 := (Vq61.keep Kq71 (ninS (Ne.symm nb61_b45) nin0))
            have f130 := (own_staK (own_staK f60 Kq61 all0) Kq71 (allS f67.nostat all0))
            have f132 := (f66.keep Kq71)
            obtain ⟨cq131, kq131, q131a, q131b, q131c⟩ := isOf hZ eq105 f132
            obtain ⟨_, _, ⟨T131, L131, k131, n131⟩, -, X131, ⟨Lc131, hQ131, l131, y131, z131⟩, st131⟩ := X105.virtualBack hx (y := (⟨"com/example/unstor/unstor/Scope", "equals", "(Ljava/lang/Object;)Z"⟩ : MethodName)) (z := (⟨"com/example/unstor/unstor/Scope", "equals", "(Ljava/lang/Object;)Z"⟩ : MethodName)) hown (mvT hZ (hw _ (List.mem_of_getElem? (i := 59) rfl))) (mvT hZ (hw _ (List.mem_of_getElem? (i := 60) rfl))) (notFace_of_selects (args := #[]) (mvT hZ (hw _ (List.mem_of_getElem? (i := 62) rfl)))) (mvT hZ (hw _ (List.mem_of_getElem? (i := 62) rfl))) (mvT hZ (hw _ (List.mem_of_getElem? (i := 61) rfl))) (by decide) (backOf (W := 0) (own_rmIED l Z a0 hw [] b2 b45 rx8 bq8 kbq8 p1 (p1 &&& (3 : Int32)) nn6 rx14 bq14 kbq14 p2 (p2 &&& (3 : Int32)) nn12 rx51 bq51 kbq51 oo (oo &&& (3 : Int32)) nn49 rx61 bq61 kbq61 ss (ss &&& (3 : Int32)) nn59 cs (0 : Int32) T71.heap n0 z73 Eq71 f108 f109 Fn71 Fi71 f110 f112 f113 f115 hnn6 f116 f118 f119 f121 hnn12 f122 f123 f124 f125 hnn49 f126 f127 f128 f129 hnn59 f130 hcs nr51_rx8 nr61_rx14 (own_an1 hc143_76 hc152_106)) hZ (hw _ (List.mem_of_getElem? (i := 63) rfl)) (hw _ (List.mem_of_getElem? (i := 2) rfl)) (by decide) (by decide)) q131a q131c (g := (mkF m 166 #[.val (.int p1), .val (.int p2), .val (.int p3), .val (.int p4), .val (.int p5), .val (.int oo), .val (.int ss), .val (.ref b2), .val (.int v25), .val (.ref b45), .val (.int (0 : Int32)), .unset, .unset] [(.ref b45), (.ref b2)])) rfl (by rw [hml]; rfl) (Steps.refl _) (argsL := [(.ref b45)]) (rest := []) (lenOf own_pd__Ljava_lang_Object__Z rfl) rfl (by show 2 * 0 + _ ≤ _; exact Nat.le_of_eq rfl) (hb hby at_166) (fun _ _ => ⟨rfl, eq105, (by decide : 18 + 0 ≤ _), (by decide : 44 + 0 ≤ _)⟩)
            dsimp only [Pt.U, Pt.locs, Pt.cells, Pt.slots] at X131 l131 y131 z131 st131 hQ131
            subst l131 y131 z131
            obtain ⟨rfl, Nq131, eq131⟩ := hQ131
            have N131 := Fr.app N105 Nq131
            refine own_st (fun _ k => st131.trans k) ?_
            show own_Go p.tables e below RR (T131.setTop (mkF m 169 #[.val (.int p1), .val (.int p2), .val (.int p3), .val (.int p4), .val (.int p5), .val (.int oo), .val (.int ss), .val (.ref b2), .val (.int v25), .val (.ref b45), .val (.int (0 : Int32)), .unset, .unset] [(.int (0 : Int32))]))
            refine own_st (fun _ k => XS.istore X131.here hx rfl (hb hby at_169) rfl (l' := #[.val (.int p1), .val (.int p2), .val (.int p3), .val (.int p4), .val (.int p5), .val (.int oo), .val (.int ss), .val (.ref b2), .val (.int v25), .val (.ref b45), .val (.int (0 : Int32)), .val (.int (0 : Int32)), .unset]) rfl (XS.aload X131.here hx rfl (hb hby at_171) rfl rfl (XS.aload X131.here hx rfl (hb hby at_173) rfl rfl k))) ?_
            show own_Go p.tables e below RR (T131.setTop (mkF m 175 #[.val (.int p1), .val (.int p2), .val (.int p3), .val (.int p4), .val (.int p5), .val (.int oo), .val (.int ss), .val (.ref b2), .val (.int v25), .val (.ref b45), .val (.int (0 : Int32)), .val (.int (0 : Int32)), .unset] [(.ref b2), (.ref b45)]))
            obtain ⟨cq133, kq133, q133a, q133b, q133c⟩ := isOf hZ eq131 Eq71
            obtain ⟨_, _, ⟨T133, L133, k133, n133⟩, -, X133, ⟨Lc133, hQ133, l133, y133, z133⟩, st133⟩ := X131.virtualBack hx (y := (⟨"com/example/unstor/unstor/Scope", "equals", "(Ljava/lang/Object;)Z"⟩ : MethodName)) (z := (⟨"com/example/unstor/unstor/Scope", "equals", "(Ljava/lang/Object;)Z"⟩ : MethodName)) hown (mvT hZ (hw _ (List.mem_of_getElem? (i := 59) rfl))) (mvT hZ (hw _ (List.mem_of_getElem? (i := 60) rfl))) (notFace_of_selects (args := #[]) (mvT hZ (hw _ (List.mem_of_getElem? (i := 62) rfl)))) (mvT hZ (hw _ (List.mem_of_getElem? (i := 62) rfl))) (mvT hZ (hw _ (List.mem_of_getElem? (i := 61) rfl))) (by decide) (backOf (W := 0) (own_rmIED l Z a0 hw [] b45 b2 rx51 bq51 kbq51 oo (oo &&& (3 : Int32)) nn49 rx61 bq61 kbq61 ss (ss &&& (3 : Int32)) nn59 rx8 bq8 kbq8 p1 (p1 &&& (3 : Int32)) nn6 rx14 bq14 kbq14 p2 (p2 &&& (3 : Int32)) nn12 cs (0 : Int32) T71.heap n0 z73 f132 Fn71 Fi71 f108 f109 f122 f123 f124 f125 hnn49 f126 f127 f128 f129 hnn59 f110 f112 f113 f115 hnn6 f116 f118 f119 f121 hnn12 f130 hcs (Ne.symm nr51_rx8) (Ne.symm nr61_rx14) ((own_ansym _ _ _ _ _ _ _ _).trans (own_an1 hc143_76 hc152_106))) hZ (hw _ (List.mem_of_getElem? (i := 63) rfl)) (hw _ (List.mem_of_getElem? (i := 2) rfl)) (by decide) (by decide)) q133a q133c (g := (mkF m 175 #[.val (.int p1), .val (.int p2), .val (.int p3), .val (.int p4), .val (.int p5), .val (.int oo), .val (.int ss), .val (.ref b2), .val (.int v25), .val (.ref b45), .val (.int (0 : Int32)), .val (.int (0 : Int32)), .unset] [(.ref b2), (.ref b45)])) rfl (by rw [hml]; rfl) (Steps.refl _) (argsL := [(.ref b2)]) (rest := []) (lenOf own_pd__Ljava_lang_Object__Z rfl) rfl (by show 2 * 0 + _ ≤ _; exact Nat.le_of_eq rfl) (hb hby at_175) (fun _ _ => ⟨rfl, eq131, (by decide : 18 + 0 ≤ _), (by decide : 44 + 0 ≤ _)⟩)
            dsimp only [Pt.U, Pt.locs, Pt.cells, Pt.slots] at X133 l133 y133 z133 st133 hQ133
            subst l133 y133 z133
            obtain ⟨rfl, Nq133, eq133⟩ := hQ133
            have N133 := Fr.app N131 Nq133
            refine own_st (fun _ k => st133.trans k) ?_
            show own_Go p.tables e below RR (T133.setTop (mkF m 178 #[.val (.int p1), .val (.int p2), .val (.int p3), .val (.int p4), .val (.int p5), .val (.int oo), .val (.int ss), .val (.ref b2), .val (.int v25), .val (.ref b45), .val (.int (0 : Int32)), .val (.int (0 : Int32)), .unset] [(.int (0 : Int32))]))
            refine own_st (fun _ k => XS.istore X133.here hx rfl (hb hby at_178) rfl (l' := #[.val (.int p1), .val (.int p2), .val (.int p3), .val (.int p4), .val (.int p5), .val (.int oo), .val (.int ss), .val (.ref b2), .val (.int v25), .val (.ref b45), .val (.int (0 : Int32)), .val (.int (0 : Int32)), .val (.int (0 : Int32))]) rfl (XS.iload X133.here hx rfl (hb hby at_180) rfl (XS.iload X133.here hx rfl (hb hby at_182) rfl k))) ?_
            show own_Go p.tables e below RR (T133.setTop (mkF m 184 #[.val (.int p1), .val (.int p2), .val (.int p3), .val (.int p4), .val (.int p5), .val (.int oo), .val (.int ss), .val (.ref b2), .val (.int v25), .val (.ref b45), .val (.int (0 : Int32)), .val (.int (0 : Int32)), .val (.int (0 : Int32))] [(.int (0 : Int32)), (.int (0 : Int32))]))
            refine own_st (fun _ k => XS.icmpNo X133.here hx rfl (hb hby at_184) rfl (teq (by decide)).2 (XS.iload X133.here hx rfl (hb hby at_187) rfl (XS.iload X133.here hx rfl (hb hby at_189) rfl k))) ?_
            show own_Go p.tables e below RR (T133.setTop (mkF m 191 #[.val (.int p1), .val (.int p2), .val (.int p3), .val (.int p4), .val (.int p5), .val (.int oo), .val (.int ss), .val (.ref b2), .val (.int v25), .val (.ref b45), .val (.int (0 : Int32)), .val (.int (0 : Int32)), .val (.int (0 : Int32))] [(.int (0 : Int32)), (.int (0 : Int32))]))
            refine own_st (fun _ k => XS.icmpNo X133.here hx rfl (hb hby at_191) rfl (teq (by decide)).2 (XS.aload X133.here hx rfl (hb hby at_194) rfl rfl (XS.aload X133.here hx rfl (hb hby at_196) rfl rfl k))) ?_
            show own_Go p.tables e below RR (T133.setTop (mkF m 198 #[.val (.int p1), .val (.int p2), .val (.int p3), .val (.int p4), .val (.int p5), .val (.int oo), .val (.int ss), .val (.ref b2), .val (.int v25), .val (.ref b45), .val (.int (0 : Int32)), .val (.int (0 : Int32)), .val (.int (0 : Int32))] [(.ref b2), (.ref b2)]))
            obtain ⟨cq134, kq134, q134a, q134b, q134c⟩ := isOf hZ eq133 f132
            obtain ⟨_, _, ⟨T134, L134, k134, n134⟩, -, X134, ⟨Lc134, hQ134, l134, y134, z134⟩, st134⟩ := X133.virtualBack hx (y := (⟨"com/example/unstor/unstor/Scope", "equals", "(Ljava/lang/Object;)Z"⟩ : MethodName)) (z := (⟨"com/example/unstor/unstor/Scope", "equals", "(Ljava/lang/Object;)Z"⟩ : MethodName)) hown (mvT hZ (hw _ (List.mem_of_getElem? (i := 59) rfl))) (mvT hZ (hw _ (List.mem_of_getElem? (i := 60) rfl))) (notFace_of_selects (args := #[]) (mvT hZ (hw _ (List.mem_of_getElem? (i := 62) rfl)))) (mvT hZ (hw _ (List.mem_of_getElem? (i := 62) rfl))) (mvT hZ (hw _ (List.mem_of_getElem? (i := 61) rfl))) (by decide) (backOf (W := 0) (own_rmIEO l Z a0 hw [] b2 rx8 rx14 T71.heap n0 z73 f132 f108 f109 f110 f116) hZ (hw _ (List.mem_of_getElem? (i := 63) rfl)) (hw _ (List.mem_of_getElem? (i := 2) rfl)) (by decide) (by decide)) q134a q134c (g := (mkF m 198 #[.val (.int p1), .val (.int p2), .val (.int p3), .val (.int p4), .val (.int p5), .val (.int oo), .val (.int ss), .val (.ref b2), .val (.int v25), .val (.ref b45), .val (.int (0 : Int32)), .val (.int (0 : Int32)), .val (.int (0 : Int32))] [(.ref b2), (.ref b2)])) rfl (by rw [hml]; rfl) (Steps.refl _) (argsL := [(.ref b2)]) (rest := []) (lenOf own_pd__Ljava_lang_Object__Z rfl) rfl (by show 2 * 0 + _ ≤ _; exact Nat.le_of_eq rfl) (hb hby at_198) (fun _ _ => ⟨rfl, eq133, (by decide : 18 + 0 ≤ _), (by decide : 44 + 0 ≤ _)⟩)
            dsimp only [Pt.U, Pt.locs, Pt.cells, Pt.slots] at X134 l134 y134 z134 st134 hQ134
            subst l134 y134 z134
            obtain ⟨rfl, Nq134, eq134⟩ := hQ134
            have N134 := Fr.app N133 Nq134
            refine own_st (fun _ k => st134.trans k) ?_
            show own_Go p.tables e below RR (T134.setTop (mkF m 201 #[.val (.int p1), .val (.int p2), .val (.int p3), .val (.int p4), .val (.int p5), .val (.int oo), .val (.int ss), .val (.ref b2), .val (.int v25), .val (.ref b45), .val (.int (0 : Int32)), .val (.int (0 : Int32)), .val (.int (0 : Int32))] [(.int (1 : Int32))]))
            refine own_st (fun _ k => XS.ifNo X134.here hx rfl (hb hby at_201) rfl ((if0 _ _).trans (feq (by decide)).1) (XS.iconst X134.here hx rfl (hb hby at_204) (XS.goto X134.here hx rfl (pc0 := 205) (pc' := 209) rfl (hb hby at_205) (by decide) (by decide) k))) ?_
            show own_Go p.tables e below RR (T134.setTop (mkF m 209 #[.val (.int p1), .val (.int p2), .val (.int p3), .val (.int p4), .val (.int p5), .val (.int oo), .val (.int ss), .val (.ref b2), .val (.int v25), .val (.ref b45), .val (.int (0 : Int32)), .val (.int (0 : Int32)), .val (.int (0 : Int32))] [(.int (1 : Int32))]))
            obtain ⟨fs, hrt_, hrun, hended, hRE⟩ := X134.leaveW hS61 (by rw [eq134]; exact hk73) (v := some (.int (1 : Int32))) (fun h => by rw [Bd.returns] at h; cases h)
            refine own_fin (retN X134 hx (t := .boolean) Bd.returns (by simp) (hb hby at_209) hrt_) (hRR _ ⟨_, hrun, hended, _, _, rfl, ?_, hRE.1, hRE.2.1, hRE.2.2.1, hRE.2.2.2.mono (by decide) (by decide)⟩)
            show own_Q0 Z p1 p2 p3 p4 p5 cs h0 n0 _ T134.heap _
            rw [eq134]
            exact ⟨rfl, N134⟩
          · refine own_st (fun _ k => XS.ifNo X105.here hx rfl (hb hby at_152) rfl ((if0 _ _).trans (feq hc152_106).1) (XS.iconst X105.here hx rfl (hb hby at_155) (XS.goto X105.here hx rfl (pc0 := 156) (pc' := 160) rfl (hb hby at_156) (by decide) (by decide) (XS.istore X105.here hx rfl (hb hby at_160) rfl (l' := #[.val (.int p1), .val (.int p2), .val (.int p3), .val (.int p4), .val (.int p5), .val (.int oo), .val (.int ss), .val (.ref b2), .val (.int v25), .val (.ref b45), .val (.int (1 : Int32)), .unset, .unset]) rfl (XS.aload X105.here hx rfl (hb hby at_162) rfl rfl (XS.aload X105.here hx rfl (hb hby at_164) rfl rfl k)))))) ?_
            show own_Go p.tables e below RR (T105.setTop (mkF m 166 #[.val (.int p1), .val (.int p2), .val (.int p3), .val (.int p4), .val (.int p5), .val (.int oo), .val (.int ss), .val (.ref b2), .val (.int v25), .val (.ref b45), .val (.int (1 : Int32)), .unset, .unset] [(.ref b45), (.ref b2)]))
            have ne135 : b2 ≠ b45 := (Nat.ne_of_lt (Nat.lt_of_lt_of_le Eq21.lt (Nat.le_of_eq gb45.symm)))
            have f136 := ((((Fn21.ext E45).keep Kq51 nin0).keep Kq61 nin0).keep Kq71 (ninS ne135 nin0))
            have f137 := ((((Fi21.ext E45).keep Kq51 nin0).keep Kq61 nin0).keep Kq71 (ninS ne135 nin0))
            have f138 := ((f62.keep Kq61).keep Kq71)
            have ne139 : rx8 ≠ b45 := (Nat.ne_of_lt (Nat.lt_of_lt_of_le (f20.keep Kq21).lt (Nat.le_of_eq gb45.symm)))
            have f140 := ((((((Fq8.keep Kq14 nin0).keep Kq21 (ninS (Ne.symm nr8_b2) nin0)).ext E45).keep Kq51 nin0).keep Kq61 nin0).keep Kq71 (ninS ne139 nin0))
            have f141 := ((((((Fvq8.keep Kq14 nin0).keep Kq21 (ninS (Ne.symm nr8_b2) nin0)).ext E45).keep Kq51 nin0).keep Kq61 nin0).keep Kq71 (ninS ne139 nin0))
            have ne142 : bq8 ≠ b45 := (Nat.ne_of_lt (Nat.lt_of_lt_of_le ((Vq8.keep Kq14 nin0).keep Kq21 (ninS (Ne.symm nb8_b2) nin0)).lt (Nat.le_of_eq gb45.symm)))
            have f143 := ((((((Vq8.keep Kq14 nin0).keep Kq21 (ninS (Ne.symm nb8_b2) nin0)).ext E45).keep Kq51 nin0).keep Kq61 nin0).keep Kq71 (ninS ne142 nin0))
            have f144 := ((f63.keep Kq61).keep Kq71)
            have ne145 : rx14 ≠ b45 := (Nat.ne_of_lt (Nat.lt_of_lt_of_le (Eq14.keep Kq21).lt (Nat.le_of_eq gb45.symm)))
            have f146 := (((((Fq14.keep Kq21 (ninS (Ne.symm nr14_b2) nin0)).ext E45).keep Kq51 nin0).keep Kq61 nin0).keep Kq71 (ninS ne145 nin0))
            have f147 := (((((Fvq14.keep Kq21 (ninS (Ne.symm nr14_b2) nin0)).ext E45).keep Kq51 nin0).keep Kq61 nin0).keep Kq71 (ninS ne145 nin0))
            have ne148 : bq14 ≠ b45 := (Nat.ne_of_lt (Nat.lt_of_lt_of_le (Vq14.keep Kq21 (ninS (Ne.symm nb14_b2) nin0)).lt (Nat.le_of_eq gb45.symm)))
            have f149 := (((((Vq14.keep Kq21 (ninS (Ne.symm nb14_b2) nin0)).ext E45).keep Kq51 nin0).keep Kq61 nin0).keep Kq71 (ninS ne148 nin0))
            have f150 := (f70.keep Kq71)
            have f151 := ((Fq51.keep Kq61 nin0).keep Kq71 (ninS (Ne.symm nr51_b45) nin0))
            have f152 := ((Fvq51.keep Kq61 nin0).keep Kq71 (ninS (Ne.symm nr51_b45) nin0))
            have f153 := ((Vq51.keep Kq61 nin0).keep Kq71 (ninS (Ne.symm nb51_b45) nin0))
            have f154 := (Eq61.keep Kq71)
            have f155 := (Fq61.keep Kq71 (ninS (Ne.symm nr61_b45) nin0))
            have f156 := (Fvq61.keep Kq71 (ninS (Ne.symm nr61_b45) nin0))
            have f157 := (Vq61.keep Kq71 (ninS (Ne.symm nb61_b45) nin0))
            have f158 := (own_staK (own_staK f60 Kq61 all0) Kq71 (allS f67.nostat all0))
            have f160 := (f66.keep Kq71)
            obtain ⟨cq159, kq159, q159a, q159b, q159c⟩ := isOf hZ eq105 f160
            obtain ⟨_, _, ⟨T159, L159, k159, n159⟩, -, X159, ⟨Lc159, hQ159, l159, y159, z159⟩, st159⟩ := X105.virtualBack hx (y := (⟨"com/example/unstor/unstor/Scope", "equals", "(Ljava/lang/Object;)Z"⟩ : MethodName)) (z := (⟨"com/example/unstor/unstor/Scope", "equals", "(Ljava/lang/Object;)Z"⟩ : MethodName)) hown (mvT hZ (hw _ (List.mem_of_getElem? (i := 59) rfl))) (mvT hZ (hw _ (List.mem_of_getElem? (i := 60) rfl))) (notFace_of_selects (args := #[]) (mvT hZ (hw _ (List.mem_of_getElem? (i := 62) rfl)))) (mvT hZ (hw _ (List.mem_of_getElem? (i := 62) rfl))) (mvT hZ (hw _ (List.mem_of_getElem? (i := 61) rfl))) (by decide) (backOf (W := 0) (own_rmIED l Z a0 hw [] b2 b45 rx8 bq8 kbq8 p1 (p1 &&& (3 : Int32)) nn6 rx14 bq14 kbq14 p2 (p2 &&& (3 : Int32)) nn12 rx51 bq51 kbq51 oo (oo &&& (3 : Int32)) nn49 rx61 bq61 kbq61 ss (ss &&& (3 : Int32)) nn59 cs (1 : Int32) T71.heap n0 z73 Eq71 f136 f137 Fn71 Fi71 f138 f140 f141 f143 hnn6 f144 f146 f147 f149 hnn12 f150 f151 f152 f153 hnn49 f154 f155 f156 f157 hnn59 f158 hcs nr51_rx8 nr61_rx14 (own_an2 hc143_76 hc152_106)) hZ (hw _ (List.mem_of_getElem? (i := 63) rfl)) (hw _ (List.mem_of_getElem? (i := 2) rfl)) (by decide) (by decide)) q159a q159c (g := (mkF m 166 #[.val (.int p1), .val (.int p2), .val (.int p3), .val (.int p4), .val (.int p5), .val (.int oo), .val (.int ss), .val (.ref b2), .val (.int v25), .val (.ref b45), .val (.int (1 : Int32)), .unset, .unset] [(.ref b45), (.ref b2)])) rfl (by rw [hml]; rfl) (Steps.refl _) (argsL := [(.ref b45)]) (rest := []) (lenOf own_pd__Ljava_lang_Object__Z rfl) rfl (by show 2 * 0 + _ ≤ _; exact Nat.le_of_eq rfl) (hb hby at_166) (fun _ _ => ⟨rfl, eq105, (by decide : 18 + 0 ≤ _), (by decide : 44 + 0 ≤ _)⟩)
            dsimp only [Pt.U, Pt.locs, Pt.cells, Pt.slots] at X159 l159 y159 z159 st159 hQ159
            subst l159 y159 z159
            obtain ⟨rfl, Nq159, eq159⟩ := hQ159
            have N159 := Fr.app N105 Nq159
            refine own_st (fun _ k => st159.trans k) ?_
            show own_Go p.tables e below RR (T159.setTop (mkF m 169 #[.val (.int p1), .val (.int p2), .val (.int p3), .val (.int p4), .val (.int p5), .val (.int oo), .val (.int ss), .val (.ref b2), .val (.int v25), .val (.ref b45), .val (.int (1 : Int32)), .unset, .unset] [(.int (1 : Int32))]))
            refine own_st (fun _ k => XS.istore X159.here hx rfl (hb hby at_169) rfl (l' := #[.val (.int p1), .val (.int p2), .val (.int p3), .val (.int p4), .val (.int p5), .val (.int oo), .val (.int ss), .val (.ref b2), .val (.int v25), .val (.ref b45), .val (.int (1 : Int32)), .val (.int (1 : Int32)), .unset]) rfl (XS.aload X159.here hx rfl (hb hby at_171) rfl rfl (XS.aload X159.here hx rfl (hb hby at_173) rfl rfl k))) ?_
            show own_Go p.tables e below RR (T159.setTop (mkF m 175 #[.val (.int p1), .val (.int p2), .val (.int p3), .val (.int p4), .val (.int p5), .val (.int oo), .val (.int ss), .val (.ref b2), .val (.int v25), .val (.ref b45), .val (.int (1 : Int32)), .val (.int (1 : Int32)), .unset] [(.ref b2), (.ref b45)]))
            obtain ⟨cq161, kq161, q161a, q161b, q161c⟩ := isOf hZ eq159 Eq71
            obtain ⟨_, _, ⟨T161, L161, k161, n161⟩, -, X161, ⟨Lc161, hQ161, l161, y161, z161⟩, st161⟩ := X159.virtualBack hx (y := (⟨"com/example/unstor/unstor/Scope", "equals", "(Ljava/lang/Object;)Z"⟩ : MethodName)) (z := (⟨"com/example/unstor/unstor/Scope", "equals", "(Ljava/lang/Object;)Z"⟩ : MethodName)) hown (mvT hZ (hw _ (List.mem_of_getElem? (i := 59) rfl))) (mvT hZ (hw _ (List.mem_of_getElem? (i := 60) rfl))) (notFace_of_selects (args := #[]) (mvT hZ (hw _ (List.mem_of_getElem? (i := 62) rfl)))) (mvT hZ (hw _ (List.mem_of_getElem? (i := 62) rfl))) (mvT hZ (hw _ (List.mem_of_getElem? (i := 61) rfl))) (by decide) (backOf (W := 0) (own_rmIED l Z a0 hw [] b45 b2 rx51 bq51 kbq51 oo (oo &&& (3 : Int32)) nn49 rx61 bq61 kbq61 ss (ss &&& (3 : Int32)) nn59 rx8 bq8 kbq8 p1 (p1 &&& (3 : Int32)) nn6 rx14 bq14 kbq14 p2 (p2 &&& (3 : Int32)) nn12 cs (1 : Int32) T71.heap n0 z73 f160 Fn71 Fi71 f136 f137 f150 f151 f152 f153 hnn49 f154 f155 f156 f157 hnn59 f138 f140 f141 f143 hnn6 f144 f146 f147 f149 hnn12 f158 hcs (Ne.symm nr51_rx8) (Ne.symm nr61_rx14) ((own_ansym _ _ _ _ _ _ _ _).trans (own_an2 hc143_76 hc152_106))) hZ (hw _ (List.mem_of_getElem? (i := 63) rfl)) (hw _ (List.mem_of_getElem? (i := 2) rfl)) (by decide) (by decide)) q161a q161c (g := (mkF m 175 #[.val (.int p1), .val (.int p2), .val (.int p3), .val (.int p4), .val (.int p5), .val (.int oo), .val (.int ss), .val (.ref b2), .val (.int v25), .val (.ref b45), .val (.int (1 : Int32)), .val (.int (1 : Int32)), .unset] [(.ref b2), (.ref b45)])) rfl (by rw [hml]; rfl) (Steps.refl _) (argsL := [(.ref b2)]) (rest := []) (lenOf own_pd__Ljava_lang_Object__Z rfl) rfl (by show 2 * 0 + _ ≤ _; exact Nat.le_of_eq rfl) (hb hby at_175) (fun _ _ => ⟨rfl, eq159, (by decide : 18 + 0 ≤ _), (by decide : 44 + 0 ≤ _)⟩)
            dsimp only [Pt.U, Pt.locs, Pt.cells, Pt.slots] at X161 l161 y161 z161 st161 hQ161
            subst l161 y161 z161
            obtain ⟨rfl, Nq161, eq161⟩ := hQ161
            have N161 := Fr.app N159 Nq161
            refine own_st (fun _ k => st161.trans k) ?_
            show own_Go p.tables e below RR (T161.setTop (mkF m 178 #[.val (.int p1), .val (.int p2), .val (.int p3), .val (.int p4), .val (.int p5), .val (.int oo), .val (.int ss), .val (.ref b2), .val (.int v25), .val (.ref b45), .val (.int (1 : Int32)), .val (.int (1 : Int32)), .unset] [(.int (1 : Int32))]))
            refine own_st (fun _ k => XS.istore X161.here hx rfl (hb hby at_178) rfl (l' := #[.val (.int p1), .val (.int p2), .val (.int p3), .val (.int p4), .val (.int p5), .val (.int oo), .val (.int ss), .val (.ref b2), .val (.int v25), .val (.ref b45), .val (.int (1 : Int32)), .val (.int (1 : Int32)), .val (.int (1 : Int32))]) rfl (XS.iload X161.here hx rfl (hb hby at_180) rfl (XS.iload X161.here hx rfl (hb hby at_182) rfl k))) ?_
            show own_Go p.tables e below RR (T161.setTop (mkF m 184 #[.val (.int p1), .val (.int p2), .val (.int p3), .val (.int p4), .val (.int p5), .val (.int oo), .val (.int ss), .val (.ref b2), .val (.int v25), .val (.ref b45), .val (.int (1 : Int32)), .val (.int (1 : Int32)), .val (.int (1 : Int32))] [(.int (1 : Int32)), (.int (1 : Int32))]))
            refine own_st (fun _ k => XS.icmpNo X161.here hx rfl (hb hby at_184) rfl (teq (by decide)).2 (XS.iload X161.here hx rfl (hb hby at_187) rfl (XS.iload X161.here hx rfl (hb hby at_189) rfl k))) ?_
            show own_Go p.tables e below RR (T161.setTop (mkF m 191 #[.val (.int p1), .val (.int p2), .val (.int p3), .val (.int p4), .val (.int p5), .val (.int oo), .val (.int ss), .val (.ref b2), .val (.int v25), .val (.ref b45), .val (.int (1 : Int32)), .val (.int (1 : Int32)), .val (.int (1 : Int32))] [(.int (1 : Int32)), (.int (1 : Int32))]))
            refine own_st (fun _ k => XS.icmpNo X161.here hx rfl (hb hby at_191) rfl (teq (by decide)).2 (XS.aload X161.here hx rfl (hb hby at_194) rfl rfl (XS.aload X161.here hx rfl (hb hby at_196) rfl rfl k))) ?_
            show own_Go p.tables e below RR (T161.setTop (mkF m 198 #[.val (.int p1), .val (.int p2), .val (.int p3), .val (.int p4), .val (.int p5), .val (.int oo), .val (.int ss), .val (.ref b2), .val (.int v25), .val (.ref b45), .val (.int (1 : Int32)), .val (.int (1 : Int32)), .val (.int (1 : Int32))] [(.ref b2), (.ref b2)]))
            obtain ⟨cq162, kq162, q162a, q162b, q162c⟩ := isOf hZ eq161 f160
            obtain ⟨_, _, ⟨T162, L162, k162, n162⟩, -, X162, ⟨Lc162, hQ162, l162, y162, z162⟩, st162⟩ := X161.virtualBack hx (y := (⟨"com/example/unstor/unstor/Scope", "equals", "(Ljava/lang/Object;)Z"⟩ : MethodName)) (z := (⟨"com/example/unstor/unstor/Scope", "equals", "(Ljava/lang/Object;)Z"⟩ : MethodName)) hown (mvT hZ (hw _ (List.mem_of_getElem? (i := 59) rfl))) (mvT hZ (hw _ (List.mem_of_getElem? (i := 60) rfl))) (notFace_of_selects (args := #[]) (mvT hZ (hw _ (List.mem_of_getElem? (i := 62) rfl)))) (mvT hZ (hw _ (List.mem_of_getElem? (i := 62) rfl))) (mvT hZ (hw _ (List.mem_of_getElem? (i := 61) rfl))) (by decide) (backOf (W := 0) (own_rmIEO l Z a0 hw [] b2 rx8 rx14 T71.heap n0 z73 f160 f136 f137 f138 f144) hZ (hw _ (List.mem_of_getElem? (i := 63) rfl)) (hw _ (List.mem_of_getElem? (i := 2) rfl)) (by decide) (by decide)) q162a q162c (g := (mkF m 198 #[.val (.int p1), .val (.int p2), .val (.int p3), .val (.int p4), .val (.int p5), .val (.int oo), .val (.int ss), .val (.ref b2), .val (.int v25), .val (.ref b45), .val (.int (1 : Int32)), .val (.int (1 : Int32)), .val (.int (1 : Int32))] [(.ref b2), (.ref b2)])) rfl (by rw [hml]; rfl) (Steps.refl _) (argsL := [(.ref b2)]) (rest := []) (lenOf own_pd__Ljava_lang_Object__Z rfl) rfl (by show 2 * 0 + _ ≤ _; exact Nat.le_of_eq rfl) (hb hby at_198) (fun _ _ => ⟨rfl, eq161, (by decide : 18 + 0 ≤ _), (by decide : 44 + 0 ≤ _)⟩)
            dsimp only [Pt.U, Pt.locs, Pt.cells, Pt.slots] at X162 l162 y162 z162 st162 hQ162
            subst l162 y162 z162
            obtain ⟨rfl, Nq162, eq162⟩ := hQ162
            have N162 := Fr.app N161 Nq162
            refine own_st (fun _ k => st162.trans k) ?_
            show own_Go p.tables e below RR (T162.setTop (mkF m 201 #[.val (.int p1), .val (.int p2), .val (.int p3), .val (.int p4), .val (.int p5), .val (.int oo), .val (.int ss), .val (.ref b2), .val (.int v25), .val (.ref b45), .val (.int (1 : Int32)), .val (.int (1 : Int32)), .val (.int (1 : Int32))] [(.int (1 : Int32))]))
            refine own_st (fun _ k => XS.ifNo X162.here hx rfl (hb hby at_201) rfl ((if0 _ _).trans (feq (by decide)).1) (XS.iconst X162.here hx rfl (hb hby at_204) (XS.goto X162.here hx rfl (pc0 := 205) (pc' := 209) rfl (hb hby at_205) (by decide) (by decide) k))) ?_
            show own_Go p.tables e below RR (T162.setTop (mkF m 209 #[.val (.int p1), .val (.int p2), .val (.int p3), .val (.int p4), .val (.int p5), .val (.int oo), .val (.int ss), .val (.ref b2), .val (.int v25), .val (.ref b45), .val (.int (1 : Int32)), .val (.int (1 : Int32)), .val (.int (1 : Int32))] [(.int (1 : Int32))]))
            obtain ⟨fs, hrt_, hrun, hended, hRE⟩ := X162.leaveW hS61 (by rw [eq162]; exact hk73) (v := some (.int (1 : Int32))) (fun h => by rw [Bd.returns] at h; cases h)
            refine own_fin (retN X162 hx (t := .boolean) Bd.returns (by simp) (hb hby at_209) hrt_) (hRR _ ⟨_, hrun, hended, _, _, rfl, ?_, hRE.1, hRE.2.1, hRE.2.2.1, hRE.2.2.2.mono (by decide) (by decide)⟩)
            show own_Q0 Z p1 p2 p3 p4 p5 cs h0 n0 _ T162.heap _
            rw [eq162]
            exact ⟨rfl, N162⟩
  show own_Go p.tables e below RR (s₁.setTop (mkF m 0 #[.val (.int p1), .val (.int p2), .val (.int p3), .val (.int p4), .val (.int p5), .unset, .unset, .unset, .unset, .unset, .unset, .unset, .unset] []))
  refine own_st (fun _ k => XS.iload X0.here hx rfl (hb hby at_0) rfl (XS.iconst X0.here hx rfl (hb hby at_2) (XS.iand X0.here hx rfl (hb hby at_3) rfl k))) ?_
  show own_Go p.tables e below RR (s₁.setTop (mkF m 4 #[.val (.int p1), .val (.int p2), .val (.int p3), .val (.int p4), .val (.int p5), .unset, .unset, .unset, .unset, .unset, .unset, .unset, .unset] [(.int (p5 &&& (1 : Int32)))]))
  by_cases hc4_163 : (p5 &&& (1 : Int32)) = (0 : Int32)
  · refine own_st (fun _ k => XS.ifYes X0.here hx rfl (pc0 := 4) (pc' := 11) rfl (hb hby at_4) rfl ((if0 _ _).trans (teq hc4_163).1) (by decide) (by decide) (XS.iloadN X0.here hx rfl (hb hby at_11) rfl (XS.istore X0.here hx rfl (hb hby at_12) rfl (l' := #[.val (.int p1), .val (.int p2), .val (.int p3), .val (.int p4), .val (.int p5), .val (.int p1), .unset, .unset, .unset, .unset, .unset, .unset, .unset]) rfl (XS.iload X0.here hx rfl (hb hby at_14) rfl (XS.iconst X0.here hx rfl (hb hby at_16) (XS.iand X0.here hx rfl (hb hby at_17) rfl k)))))) ?_
    show own_Go p.tables e below RR (s₁.setTop (mkF m 18 #[.val (.int p1), .val (.int p2), .val (.int p3), .val (.int p4), .val (.int p5), .val (.int p1), .unset, .unset, .unset, .unset, .unset, .unset, .unset] [(.int (p5 &&& (2 : Int32)))]))
    by_cases hc18_164 : (p5 &&& (2 : Int32)) = (0 : Int32)
    · refine own_st (fun _ k => XS.ifYes X0.here hx rfl (pc0 := 18) (pc' := 25) rfl (hb hby at_18) rfl ((if0 _ _).trans (teq hc18_164).1) (by decide) (by decide) (XS.iloadN X0.here hx rfl (hb hby at_25) rfl (XS.istore X0.here hx rfl (hb hby at_26) rfl (l' := #[.val (.int p1), .val (.int p2), .val (.int p3), .val (.int p4), .val (.int p5), .val (.int p1), .val (.int p2), .unset, .unset, .unset, .unset, .unset, .unset]) rfl k))) ?_
      show own_Go p.tables e below RR (s₁.setTop (mkF m 28 #[.val (.int p1), .val (.int p2), .val (.int p3), .val (.int p4), .val (.int p5), .val (.int p1), .val (.int p2), .unset, .unset, .unset, .unset, .unset, .unset] []))
      exact join1 s₁ _ p1 p2 X0 e0 N0 
    · refine own_st (fun _ k => XS.ifNo X0.here hx rfl (hb hby at_18) rfl ((if0 _ _).trans (feq hc18_164).1) (XS.iloadN X0.here hx rfl (hb hby at_21) rfl (XS.goto X0.here hx rfl (pc0 := 22) (pc' := 26) rfl (hb hby at_22) (by decide) (by decide) (XS.istore X0.here hx rfl (hb hby at_26) rfl (l' := #[.val (.int p1), .val (.int p2), .val (.int p3), .val (.int p4), .val (.int p5), .val (.int p1), .val (.int p4), .unset, .unset, .unset, .unset, .unset, .unset]) rfl k)))) ?_
      show own_Go p.tables e below RR (s₁.setTop (mkF m 28 #[.val (.int p1), .val (.int p2), .val (.int p3), .val (.int p4), .val (.int p5), .val (.int p1), .val (.int p4), .unset, .unset, .unset, .unset, .unset, .unset] []))
      exact join1 s₁ _ p1 p4 X0 e0 N0 
  · refine own_st (fun _ k => XS.ifNo X0.here hx rfl (hb hby at_4) rfl ((if0 _ _).trans (feq hc4_163).1) (XS.iloadN X0.here hx rfl (hb hby at_7) rfl (XS.goto X0.here hx rfl (pc0 := 8) (pc' := 12) rfl (hb hby at_8) (by decide) (by decide) (XS.istore X0.here hx rfl (hb hby at_12) rfl (l' := #[.val (.int p1), .val (.int p2), .val (.int p3), .val (.int p4), .val (.int p5), .val (.int p3), .unset, .unset, .unset, .unset, .unset, .unset, .unset]) rfl (XS.iload X0.here hx rfl (hb hby at_14) rfl (XS.iconst X0.here hx rfl (hb hby at_16) (XS.iand X0.here hx rfl (hb hby at_17) rfl k))))))) ?_
    show own_Go p.tables e below RR (s₁.setTop (mkF m 18 #[.val (.int p1), .val (.int p2), .val (.int p3), .val (.int p4), .val (.int p5), .val (.int p3), .unset, .unset, .unset, .unset, .unset, .unset, .unset] [(.int (p5 &&& (2 : Int32)))]))
    by_cases hc18_165 : (p5 &&& (2 : Int32)) = (0 : Int32)
    · refine own_st (fun _ k => XS.ifYes X0.here hx rfl (pc0 := 18) (pc' := 25) rfl (hb hby at_18) rfl ((if0 _ _).trans (teq hc18_165).1) (by decide) (by decide) (XS.iloadN X0.here hx rfl (hb hby at_25) rfl (XS.istore X0.here hx rfl (hb hby at_26) rfl (l' := #[.val (.int p1), .val (.int p2), .val (.int p3), .val (.int p4), .val (.int p5), .val (.int p3), .val (.int p2), .unset, .unset, .unset, .unset, .unset, .unset]) rfl k))) ?_
      show own_Go p.tables e below RR (s₁.setTop (mkF m 28 #[.val (.int p1), .val (.int p2), .val (.int p3), .val (.int p4), .val (.int p5), .val (.int p3), .val (.int p2), .unset, .unset, .unset, .unset, .unset, .unset] []))
      exact join1 s₁ _ p3 p2 X0 e0 N0 
    · refine own_st (fun _ k => XS.ifNo X0.here hx rfl (hb hby at_18) rfl ((if0 _ _).trans (feq hc18_165).1) (XS.iloadN X0.here hx rfl (hb hby at_21) rfl (XS.goto X0.here hx rfl (pc0 := 22) (pc' := 26) rfl (hb hby at_22) (by decide) (by decide) (XS.istore X0.here hx rfl (hb hby at_26) rfl (l' := #[.val (.int p1), .val (.int p2), .val (.int p3), .val (.int p4), .val (.int p5), .val (.int p3), .val (.int p4), .unset, .unset, .unset, .unset, .unset, .unset]) rfl k)))) ?_
      show own_Go p.tables e below RR (s₁.setTop (mkF m 28 #[.val (.int p1), .val (.int p2), .val (.int p3), .val (.int p4), .val (.int p5), .val (.int p3), .val (.int p4), .unset, .unset, .unset, .unset, .unset, .unset] []))
      exact join1 s₁ _ p3 p4 X0 e0 N0 
set_option maxRecDepth 65536 in
set_option maxHeartbeats 40000000 in
theorem own_comes {Post : Tables → Env → Array Value → State → Outcome → State → Prop} (hpost : ∀ tb e args s v u, (limb_1_1.after args s (.returned v) u = true ∧ limb_1_2.after args s (.returned v) u = true ∧ True) → ReturnedEndW s (.returned v) u (Jvm.fieldLocs frame_1_writes args s ++ Jvm.arrayLocs frame_1_arrays args s ++ Jvm.staticLocs frame_1_statics s) 40 1216 → Post tb e args s (.returned v) u) :
    ArmFor flags0 classFile x code maxLocals ret World_1 tables_1 room_1 Calls_1 rest_1 Pre_1 Post := by
  intro l hfl _ _ p e ha hc hk s m args below hf hA hF happ hP
  obtain ⟨hcalls, hrest, hpre⟩ := hP
  obtain ⟨-, -, -, hnamed, -, -, -, hat⟩ := (Spec.applies_iff hf).mp happ
  obtain ⟨hg, hn⟩ := and_e (Cond.before_iff.mp (show (Jvm.Cond.and given_1 narrow_1).before args s = true from hpre))
  obtain ⟨u1a, u1b⟩ := and_e hg
  obtain ⟨u2a, u2b⟩ := and_e u1b
  obtain ⟨u3a, u3b⟩ := and_e u2b
  obtain ⟨u4a, u4b⟩ := and_e u3b
  obtain ⟨u5a, u5b⟩ := and_e u4b
  obtain ⟨w0, w1, w2, w3, w4, rfl⟩ : ∃ w0 w1 w2 w3 w4 : Value, args = #[w0, w1, w2, w3, w4] := by
    have hs : args.size = 5 := by simpa [Cond.value, given_1] using u1a
    obtain ⟨L⟩ := args
    match L, hs with
    | [w0, w1, w2, w3, w4], _ => exact ⟨w0, w1, w2, w3, w4, rfl⟩
  have hw := fun d (hd : d ∈ tables_1) => atoms_spec (ws := Jvm.Cond.code x code maxLocals ret :: tables_1) hat d (List.mem_cons_of_mem _ hd)
  have hfit : Fit s := fun {y c} hc i hi => by
    obtain ⟨ha, rfl⟩ := Array.getElem?_eq_some_iff.mp hc
    have q := List.all_eq_true.mp ((Array.all_eq_true_iff_forall_mem.mp hF) _ (Array.getElem_mem ha)) i (List.mem_range.mpr hi)
    simpa [Array.getElem?_eq_getElem hi] using q
  obtain ⟨hsets, hown0⟩ := atoms_of _ (rest_1_c_eq ▸ (show rest_1_c.before _ s = true from hrest))
  have hr0 := Cond.before_iff.mp hown0
  obtain ⟨i0, ei0⟩ := is_v u2a
  obtain rfl : w0 = (.int i0) := Option.some.inj ei0
  obtain ⟨i1, ei1⟩ := is_v u3a
  obtain rfl : w1 = (.int i1) := Option.some.inj ei1
  obtain ⟨i2, ei2⟩ := is_v u4a
  obtain rfl : w2 = (.int i2) := Option.some.inj ei2
  obtain ⟨i3, ei3⟩ := is_v u5a
  obtain rfl : w3 = (.int i3) := Option.some.inj ei3
  obtain ⟨i4, ei4⟩ := is_v u5b
  obtain rfl : w4 = (.int i4) := Option.some.inj ei4
  obtain ⟨cs, ecs⟩ := is_v (Cond.before_iff.mp (hsets _ (List.mem_of_getElem? (i := 1) rfl)))
  have S0 := Sta.start ecs (Or.inl (hsets _ (List.mem_of_getElem? (i := 0) rfl)))
  have hcs := own_nz0 (Cond.before_iff.mp (hsets _ (List.mem_of_getElem? (i := 2) rfl))) ecs
  have hc7 : Jvm.Lit.constHeld s "java/lang/String" 7 := hcalls.1 ("java/lang/String", 7) (List.mem_of_getElem? (i := 0) rfl)
  obtain ⟨n, o, h1, h2, h3, _, L, rfl, ⟨rfl, N⟩, hq⟩ := own_rm0 l s _ hw tables_1 i0 i1 i2 i3 i4 cs s.heap s.heap.size (Nat.le_refl _) S0 hcs hc7 (hsets _ (List.mem_of_getElem? (i := 2) rfl)) p e ha hc hk s m _ below hf ((Spec.applies_iff_loose hf).mp happ).1 ⟨rfl, rfl, rfl, rfl⟩ trivial
  refine ⟨n, _, h1, h2, h3, hpost _ _ _ _ _ _ ⟨Cond.after_iff.mpr rfl, Cond.after_iff.mpr (eq_i res_at (Term.int_eval (1)) rfl), trivial⟩ ⟨hq.1, hq.2.1, hq.2.2.1, (hq.2.2.2.sift fun y hy => Or.inr (N y hy)).mono (by decide) (by decide)⟩⟩
theorem main_1_1 : Claimed_1_1 := own_comes fun _ _ _ _ _ _ h hF => ⟨h.1, hF⟩
theorem main_1_2 : Claimed_1_2 := own_comes fun _ _ _ _ _ _ h hF => ⟨h.2.1, hF⟩
end Jvm.Pilot.@@N@@
namespace Jvm.Pilot.@@N@@
open Jvm Jvm.ClassFile Sem Op Lib Jvm.Free Jvm.Stand Jvm.Pilot.@@N@@.Jvm.D
/-! MADE BY PROGRAM (witnessworld.py) out of the Statement's table words and the real class files: 21 classes; the members and pool entries that the words name. The judged class is class 1, her method 4. -/
namespace start1
open Jvm.ClassFile
def u (s : String) : CpInfo := .utf8 (stringToUtf16 s)
/-- a pool by its gaps: so many unusable entries, then the entry; so many at the end -/
def gap : Nat → List CpInfo → List CpInfo
  | 0, r => r
  | n + 1, r => .unusable :: gap n r
def poolList (es : List (Nat × CpInfo)) (last : Nat) : List CpInfo := es.foldr (fun e r => gap e.1 (e.2 :: r)) (gap last [])
def pool (es : List (Nat × CpInfo)) (last : Nat) : Array CpInfo := ⟨poolList es last⟩
def fileOf (pool : Array CpInfo) (this : Nat) (attrs : Array Attribute := #[]) (ms : Array MethodInfo := #[]) (fl : Nat := 33) (sup : Nat := 0) (ifs : Array Nat := #[]) (fds : Array FieldInfo := #[]) : ClassFile where
  minorVersion := 0
  majorVersion := 65
  constantPool := pool
  accessFlags := fl
  thisClass := this
  superClass := sup
  interfaces := ifs
  fields := fds
  methods := ms
  attributes := attrs
def plain (name : String) (sup : Option ClassId) : Class where
  name := name
  kind := .ordinary
  loader := none
  accessFlags := 33
  super := sup
  interfaces := #[]
  cf := none
  fields := #[]
  methods := #[]
  instanceTypes := #[]
  staticTypes := #[]
  resolved := #[]
  callSites := []
  init := .initialized
  statics := none
  mirror := none

def pool0 : Array CpInfo := pool [(5, u "<init>"), (0, u "()V"), (1, .class_ 10), (1, u "java/lang/Object")] 113

def k0c0 : Code := { maxStack := 0, maxLocals := 1, code := object_method_1_code, exceptionTable := #[], attributes := #[] }
def k0m0 : Method := { name := "<init>", desc := "()V", sig := { parameters := [], returnType := none }, accessFlags := 1, code := some k0c0 }
/-- java/lang/Object -/
def k0 : Class := { plain "java/lang/Object" none with
  accessFlags := 33
  interfaces := #[]
  cf := some (fileOf pool0 8 #[] #[{ accessFlags := 1, nameIndex := 5, descriptorIndex := 6, attributes := #[] }] 33 0 #[] #[])
  fields := #[]
  methods := #[k0m0]
  instanceTypes := #[]
  staticTypes := #[]
  resolved := Array.replicate 124 none
  statics := none }

def pool1 : Array CpInfo := pool [(2, .class_ 4), (1, u "java/lang/Object"), (0, u "<init>"), (0, u "()V"), (0, .class_ 8), (0, u "java/lang/String"), (0, .methodref 7 10), (0, .nameAndType 5 11), (0, u "([C)V"), (0, .methodref 13 14), (0, .class_ 15), (0, .nameAndType 16 17), (0, u "com/example/unstor/unstor/ScopeEqualsPinLaw"), (0, u "ch"), (0, u "(II)C"), (0, .class_ 19), (0, u "com/example/unstor/unstor/Scope"), (0, .methodref 13 21), (0, .nameAndType 22 23), (0, u "make"), (0, u "(I)Ljava/lang/String;"), (0, .methodref 18 25), (0, .nameAndType 5 26), (0, u "(Ljava/lang/String;Ljava/lang/String;)V"), (0, .methodref 18 28), (0, .nameAndType 29 30), (0, u "equals"), (0, u "(Ljava/lang/Object;)Z"), (0, .methodref 13 32), (0, .nameAndType 33 34), (0, u "same"), (0, u "(II)Z"), (3, u "law"), (0, u "(IIIII)Z")] 2

def k1m0 : Method := { name := "<init>", desc := "()V", sig := { parameters := [], returnType := none }, accessFlags := 1, code := none }
def k1c1 : Code := { maxStack := 4, maxLocals := 2, code := method_2_code, exceptionTable := #[], attributes := #[] }
def k1m1 : Method := { name := "ch", desc := "(II)C", sig := { parameters := [.int, .int], returnType := some .char }, accessFlags := 10, code := some k1c1 }
def k1c2 : Code := { maxStack := 4, maxLocals := 3, code := method_3_code, exceptionTable := #[], attributes := #[] }
def k1m2 : Method := { name := "make", desc := "(I)Ljava/lang/String;", sig := { parameters := [.int], returnType := some (.object "java/lang/String") }, accessFlags := 10, code := some k1c2 }
def k1c3 : Code := { maxStack := 3, maxLocals := 3, code := method_4_code, exceptionTable := #[], attributes := #[] }
def k1m3 : Method := { name := "same", desc := "(II)Z", sig := { parameters := [.int, .int], returnType := some .boolean }, accessFlags := 10, code := some k1c3 }
def k1c4 : Code := { maxStack := 4, maxLocals := 13, code := code, exceptionTable := #[], attributes := #[] }
def k1m4 : Method := { name := "law", desc := "(IIIII)Z", sig := { parameters := [.int, .int, .int, .int, .int], returnType := some .boolean }, accessFlags := 9, code := some k1c4 }
/-- com/example/unstor/unstor/ScopeEqualsPinLaw -/
def k1 : Class := { plain "com/example/unstor/unstor/ScopeEqualsPinLaw" (some 0) with
  accessFlags := 49
  interfaces := #[]
  cf := some (fileOf pool1 13 #[] #[{ accessFlags := 1, nameIndex := 5, descriptorIndex := 6, attributes := #[] }, { accessFlags := 10, nameIndex := 16, descriptorIndex := 17, attributes := #[] }, { accessFlags := 10, nameIndex := 22, descriptorIndex := 23, attributes := #[] }, { accessFlags := 10, nameIndex := 33, descriptorIndex := 34, attributes := #[] }, { accessFlags := 9, nameIndex := 38, descriptorIndex := 39, attributes := #[] }] 49 2 #[] #[])
  fields := #[]
  methods := #[k1m0, k1m1, k1m2, k1m3, k1m4]
  instanceTypes := #[]
  staticTypes := #[]
  resolved := Array.replicate 42 none
  statics := none }

def pool2 : Array CpInfo := pool [(1, .methodref 2 3), (0, .class_ 4), (0, .nameAndType 5 6), (0, u "java/lang/Object"), (0, u "<init>"), (0, u "()V"), (0, .methodref 8 9), (0, .class_ 10), (0, .nameAndType 11 12), (0, u "java/util/Objects"), (0, u "requireNonNull"), (0, u "(Ljava/lang/Object;)Ljava/lang/Object;"), (0, .class_ 14), (0, u "java/lang/String"), (0, .fieldref 16 17), (0, .class_ 18), (0, .nameAndType 19 20), (0, u "com/example/unstor/unstor/Scope"), (0, u "org"), (0, u "Ljava/lang/String;"), (0, .fieldref 16 22), (0, .nameAndType 23 20), (0, u "sandbox"), (0, .methodref 13 25), (0, .nameAndType 26 27), (0, u "equals"), (0, u "(Ljava/lang/Object;)Z"), (4, u "(Ljava/lang/String;Ljava/lang/String;)V")] 8

def k2c0 : Code := { maxStack := 2, maxLocals := 3, code := prog_21_method_1_code, exceptionTable := #[], attributes := #[] }
def k2m0 : Method := { name := "<init>", desc := "(Ljava/lang/String;Ljava/lang/String;)V", sig := { parameters := [(.object "java/lang/String"), (.object "java/lang/String")], returnType := none }, accessFlags := 1, code := some k2c0 }
def k2c1 : Code := { maxStack := 2, maxLocals := 3, code := prog_21_method_4_code, exceptionTable := #[], attributes := #[] }
def k2m1 : Method := { name := "equals", desc := "(Ljava/lang/Object;)Z", sig := { parameters := [(.object "java/lang/Object")], returnType := some .boolean }, accessFlags := 1, code := some k2c1 }
/-- com/example/unstor/unstor/Scope -/
def k2 : Class := { plain "com/example/unstor/unstor/Scope" (some 0) with
  accessFlags := 49
  interfaces := #[]
  cf := some (fileOf pool2 16 #[] #[{ accessFlags := 1, nameIndex := 5, descriptorIndex := 32, attributes := #[] }, { accessFlags := 1, nameIndex := 26, descriptorIndex := 27, attributes := #[] }] 49 2 #[] #[{ accessFlags := 18, nameIndex := 19, descriptorIndex := 20, attributes := #[] }, { accessFlags := 18, nameIndex := 23, descriptorIndex := 20, attributes := #[] }])
  fields := #[{ name := "org", type := (.object "java/lang/String"), accessFlags := 18, slot := 0, constantValue := 0 }, { name := "sandbox", type := (.object "java/lang/String"), accessFlags := 18, slot := 1, constantValue := 0 }]
  methods := #[k2m0, k2m1]
  instanceTypes := #[(.object "java/lang/String"), (.object "java/lang/String")]
  staticTypes := #[]
  resolved := Array.replicate 41 none
  statics := none }

def pool3 : Array CpInfo := pool [(1, .class_ 2), (0, u "java/io/Serializable"), (0, .class_ 4), (0, u "java/lang/Object")] 2

/-- java/io/Serializable -/
def k3 : Class := { plain "java/io/Serializable" (some 0) with
  accessFlags := 1537
  interfaces := #[]
  cf := some (fileOf pool3 1 #[] #[] 1537 3 #[] #[])
  fields := #[]
  methods := #[]
  instanceTypes := #[]
  staticTypes := #[]
  resolved := Array.replicate 7 none
  statics := none }

def pool4 : Array CpInfo := pool [(1, .class_ 2), (0, u "java/lang/Comparable"), (0, .class_ 4), (0, u "java/lang/Object")] 7

/-- java/lang/Comparable -/
def k4 : Class := { plain "java/lang/Comparable" (some 0) with
  accessFlags := 1537
  interfaces := #[]
  cf := some (fileOf pool4 1 #[] #[] 1537 3 #[] #[])
  fields := #[]
  methods := #[]
  instanceTypes := #[]
  staticTypes := #[]
  resolved := Array.replicate 12 none
  statics := none }

def pool5 : Array CpInfo := pool [(2, .class_ 4), (1, u "java/lang/CharSequence"), (42, .class_ 48), (0, u "java/lang/CharSequence$1CodePointIterator"), (10, .class_ 60), (0, u "java/lang/CharSequence$1CharIterator"), (5, .class_ 67), (0, u "java/lang/Object")] 63

/-- java/lang/CharSequence -/
def k5 : Class := { plain "java/lang/CharSequence" (some 0) with
  accessFlags := 1537
  interfaces := #[]
  cf := some (fileOf pool5 2 #[.nestMembers #[47, 59]] #[] 1537 66 #[] #[])
  fields := #[]
  methods := #[]
  instanceTypes := #[]
  staticTypes := #[]
  resolved := Array.replicate 131 none
  statics := none }

def pool6 : Array CpInfo := pool [(1, .class_ 2), (0, u "java/lang/constant/Constable"), (0, .class_ 4), (0, u "java/lang/Object")] 6

/-- java/lang/constant/Constable -/
def k6 : Class := { plain "java/lang/constant/Constable" (some 0) with
  accessFlags := 1537
  interfaces := #[]
  cf := some (fileOf pool6 1 #[] #[] 1537 3 #[] #[])
  fields := #[]
  methods := #[]
  instanceTypes := #[]
  staticTypes := #[]
  resolved := Array.replicate 11 none
  statics := none }

def pool7 : Array CpInfo := pool [(1, .class_ 2), (0, u "java/lang/constant/ConstantDesc"), (0, .class_ 4), (0, u "java/lang/Object")] 32

/-- java/lang/constant/ConstantDesc -/
def k7 : Class := { plain "java/lang/constant/ConstantDesc" (some 0) with
  accessFlags := 1537
  interfaces := #[]
  cf := some (fileOf pool7 1 #[] #[] 1537 3 #[] #[])
  fields := #[]
  methods := #[]
  instanceTypes := #[]
  staticTypes := #[]
  resolved := Array.replicate 37 none
  statics := none }

def pool8 : Array CpInfo := pool [(1, .methodref 2 3), (0, .class_ 4), (0, .nameAndType 5 6), (0, u "java/lang/Object"), (0, u "<init>"), (0, u "()V"), (0, .string 8), (0, u ""), (0, .fieldref 10 11), (0, .class_ 12), (0, .nameAndType 13 14), (0, u "java/lang/String"), (0, u "value"), (0, u "[B"), (0, .fieldref 10 16), (0, .nameAndType 17 18), (0, u "coder"), (0, u "B"), (2, u "hash"), (0, u "I"), (2, u "hashIsZero"), (0, u "Z"), (0, .methodref 10 28), (0, .nameAndType 5 29), (0, u "([CIILjava/lang/Void;)V"), (8, .fieldref 10 39), (0, .nameAndType 40 26), (0, u "COMPACT_STRINGS"), (1, .class_ 44), (1, u "java/lang/StringUTF16"), (0, u "compress"), (1, .methodref 42 48), (0, .nameAndType 49 50), (0, u "coderFromArrayLen"), (0, u "([BI)B"), (56, .class_ 109), (1, u "java/lang/StringLatin1"), (67, .methodref 42 178), (0, .nameAndType 45 179), (0, u "([CII)[B"), (361, .methodref 107 542), (0, .nameAndType 543 544), (0, u "equals"), (0, u "([B[B)Z"), (28, u "(Ljava/lang/Object;)Z"), (1, .class_ 576), (0, u "java/lang/CharSequence"), (22, u "CASE_INSENSITIVE_ORDER"), (0, u "Ljava/util/Comparator;"), (409, u "([C)V"), (90, u "serialPersistentFields"), (0, u "[Ljava/io/ObjectStreamField;"), (0, .class_ 1104), (0, u "java/lang/String$CaseInsensitiveComparator"), (1, .class_ 1107), (0, u "java/io/Serializable"), (0, .class_ 1109), (0, u "java/lang/Comparable"), (0, .class_ 1111), (0, u "java/lang/constant/Constable"), (0, .class_ 1113), (0, u "java/lang/constant/ConstantDesc"), (2, u "serialVersionUID"), (0, u "J"), (3, u "REPL"), (0, u "C"), (2, u "LATIN1"), (1, u "UTF16")] 323

def k8m0 : Method := { name := "<init>", desc := "()V", sig := { parameters := [], returnType := none }, accessFlags := 1, code := none }
def k8c1 : Code := { maxStack := 5, maxLocals := 2, code := jdk_42_method_3_code, exceptionTable := #[], attributes := #[] }
def k8m1 : Method := { name := "<init>", desc := "([C)V", sig := { parameters := [(.array .char)], returnType := none }, accessFlags := 1, code := some k8c1 }
def k8c2 : Code := { maxStack := 2, maxLocals := 3, code := jdk_42_method_66_code, exceptionTable := #[], attributes := #[] }
def k8m2 : Method := { name := "equals", desc := "(Ljava/lang/Object;)Z", sig := { parameters := [(.object "java/lang/Object")], returnType := some .boolean }, accessFlags := 1, code := some k8c2 }
def k8c3 : Code := { maxStack := 4, maxLocals := 6, code := jdk_42_method_149_code, exceptionTable := #[], attributes := #[] }
def k8m3 : Method := { name := "<init>", desc := "([CIILjava/lang/Void;)V", sig := { parameters := [(.array .char), .int, .int, (.object "java/lang/Void")], returnType := none }, accessFlags := 2, code := some k8c3 }
/-- java/lang/String -/
def k8 : Class := { plain "java/lang/String" (some 0) with
  accessFlags := 49
  interfaces := #[3, 4, 5, 6, 7]
  cf := some (fileOf pool8 10 #[.nestMembers #[1103]] #[{ accessFlags := 1, nameIndex := 5, descriptorIndex := 6, attributes := #[] }, { accessFlags := 1, nameIndex := 5, descriptorIndex := 1010, attributes := #[] }, { accessFlags := 1, nameIndex := 543, descriptorIndex := 573, attributes := #[] }, { accessFlags := 2, nameIndex := 5, descriptorIndex := 29, attributes := #[] }] 49 2 #[1106, 1108, 575, 1110, 1112] #[{ accessFlags := 18, nameIndex := 13, descriptorIndex := 14, attributes := #[] }, { accessFlags := 18, nameIndex := 17, descriptorIndex := 18, attributes := #[] }, { accessFlags := 2, nameIndex := 21, descriptorIndex := 22, attributes := #[] }, { accessFlags := 2, nameIndex := 25, descriptorIndex := 26, attributes := #[] }, { accessFlags := 26, nameIndex := 1116, descriptorIndex := 1117, attributes := #[] }, { accessFlags := 24, nameIndex := 40, descriptorIndex := 26, attributes := #[] }, { accessFlags := 26, nameIndex := 1101, descriptorIndex := 1102, attributes := #[] }, { accessFlags := 26, nameIndex := 1121, descriptorIndex := 1122, attributes := #[] }, { accessFlags := 25, nameIndex := 599, descriptorIndex := 600, attributes := #[] }, { accessFlags := 24, nameIndex := 1125, descriptorIndex := 18, attributes := #[] }, { accessFlags := 24, nameIndex := 1127, descriptorIndex := 18, attributes := #[] }])
  fields := #[{ name := "value", type := (.array .byte), accessFlags := 18, slot := 0, constantValue := 0 }, { name := "coder", type := .byte, accessFlags := 18, slot := 1, constantValue := 0 }, { name := "hash", type := .int, accessFlags := 2, slot := 2, constantValue := 0 }, { name := "hashIsZero", type := .boolean, accessFlags := 2, slot := 3, constantValue := 0 }, { name := "serialVersionUID", type := .long, accessFlags := 26, slot := 0, constantValue := 0 }, { name := "COMPACT_STRINGS", type := .boolean, accessFlags := 24, slot := 1, constantValue := 0 }, { name := "serialPersistentFields", type := (.array (.object "java/io/ObjectStreamField")), accessFlags := 26, slot := 2, constantValue := 0 }, { name := "REPL", type := .char, accessFlags := 26, slot := 3, constantValue := 0 }, { name := "CASE_INSENSITIVE_ORDER", type := (.object "java/util/Comparator"), accessFlags := 25, slot := 4, constantValue := 0 }, { name := "LATIN1", type := .byte, accessFlags := 24, slot := 5, constantValue := 0 }, { name := "UTF16", type := .byte, accessFlags := 24, slot := 6, constantValue := 0 }]
  methods := #[k8m0, k8m1, k8m2, k8m3]
  instanceTypes := #[(.array .byte), .byte, .int, .boolean]
  staticTypes := #[.long, .boolean, (.array (.object "java/io/ObjectStreamField")), .char, (.object "java/util/Comparator"), .byte, .byte]
  resolved := Array.replicate 1451 none
  statics := some 0 }

def pool9 : Array CpInfo := pool [(6, .class_ 8), (1, u "java/lang/Object"), (0, u "<init>"), (0, u "()V"), (1, .class_ 14), (1, u "java/lang/StringUTF16"), (31, u "$assertionsDisabled"), (0, u "Z"), (13, u "HI_BYTE_SHIFT"), (0, u "I"), (2, u "LO_BYTE_SHIFT"), (49, .methodref 12 116), (0, .nameAndType 117 118), (0, u "compress"), (0, u "([CI[BII)I"), (3, u "([CII)[B"), (138, u "coderFromArrayLen"), (0, u "([BI)B"), (106, .class_ 371), (1, u "java/lang/StringUTF16$LinesSpliterator"), (58, u "MAX_LENGTH"), (196, .class_ 628), (0, u "java/lang/StringUTF16$CodePointsSpliterator"), (0, .class_ 630), (0, u "java/lang/StringUTF16$CharsSpliterator")] 4

def k9m0 : Method := { name := "<init>", desc := "()V", sig := { parameters := [], returnType := none }, accessFlags := 0, code := none }
def k9c1 : Code := { maxStack := 2, maxLocals := 2, code := jdk_52_method_15_code, exceptionTable := #[], attributes := #[] }
def k9m1 : Method := { name := "coderFromArrayLen", desc := "([BI)B", sig := { parameters := [(.array .byte), .int], returnType := some .byte }, accessFlags := 8, code := some k9c1 }
def k9c2 : Code := { maxStack := 5, maxLocals := 6, code := jdk_52_method_16_code, exceptionTable := #[], attributes := #[] }
def k9m2 : Method := { name := "compress", desc := "([CII)[B", sig := { parameters := [(.array .char), .int, .int], returnType := some (.array .byte) }, accessFlags := 9, code := some k9c2 }
def k9c3 : Code := { maxStack := 3, maxLocals := 7, code := jdk_52_method_21_code, exceptionTable := #[], attributes := #[] }
def k9m3 : Method := { name := "compress", desc := "([CI[BII)I", sig := { parameters := [(.array .char), .int, (.array .byte), .int, .int], returnType := some .int }, accessFlags := 9, code := some k9c3 }
/-- java/lang/StringUTF16 -/
def k9 : Class := { plain "java/lang/StringUTF16" (some 0) with
  accessFlags := 48
  interfaces := #[]
  cf := some (fileOf pool9 12 #[.nestMembers #[627, 629, 369]] #[{ accessFlags := 0, nameIndex := 9, descriptorIndex := 10, attributes := #[] }, { accessFlags := 8, nameIndex := 261, descriptorIndex := 262, attributes := #[] }, { accessFlags := 9, nameIndex := 117, descriptorIndex := 122, attributes := #[] }, { accessFlags := 9, nameIndex := 117, descriptorIndex := 118, attributes := #[] }] 48 6 #[] #[{ accessFlags := 26, nameIndex := 61, descriptorIndex := 62, attributes := #[] }, { accessFlags := 26, nameIndex := 65, descriptorIndex := 62, attributes := #[] }, { accessFlags := 24, nameIndex := 430, descriptorIndex := 62, attributes := #[] }, { accessFlags := 4120, nameIndex := 46, descriptorIndex := 47, attributes := #[] }])
  fields := #[{ name := "HI_BYTE_SHIFT", type := .int, accessFlags := 26, slot := 0, constantValue := 0 }, { name := "LO_BYTE_SHIFT", type := .int, accessFlags := 26, slot := 1, constantValue := 0 }, { name := "MAX_LENGTH", type := .int, accessFlags := 24, slot := 2, constantValue := 0 }, { name := "$assertionsDisabled", type := .boolean, accessFlags := 4120, slot := 3, constantValue := 0 }]
  methods := #[k9m0, k9m1, k9m2, k9m3]
  instanceTypes := #[]
  staticTypes := #[.int, .int, .int, .boolean]
  resolved := Array.replicate 635 none
  statics := none }

def pool10 : Array CpInfo := pool [(2, .class_ 4), (1, u "java/lang/Object"), (0, u "<init>"), (0, u "()V"), (35, .class_ 44), (1, u "java/util/Objects"), (0, u "requireNonNull"), (0, u "(Ljava/lang/Object;)Ljava/lang/Object;")] 137

def k10m0 : Method := { name := "<init>", desc := "()V", sig := { parameters := [], returnType := none }, accessFlags := 2, code := none }
def k10c1 : Code := { maxStack := 2, maxLocals := 1, code := jdk_31_method_10_code, exceptionTable := #[], attributes := #[] }
def k10m1 : Method := { name := "requireNonNull", desc := "(Ljava/lang/Object;)Ljava/lang/Object;", sig := { parameters := [(.object "java/lang/Object")], returnType := some (.object "java/lang/Object") }, accessFlags := 9, code := some k10c1 }
/-- java/util/Objects -/
def k10 : Class := { plain "java/util/Objects" (some 0) with
  accessFlags := 49
  interfaces := #[]
  cf := some (fileOf pool10 42 #[] #[{ accessFlags := 2, nameIndex := 5, descriptorIndex := 6, attributes := #[] }, { accessFlags := 9, nameIndex := 45, descriptorIndex := 46, attributes := #[] }] 49 2 #[] #[])
  fields := #[]
  methods := #[k10m0, k10m1]
  instanceTypes := #[]
  staticTypes := #[]
  resolved := Array.replicate 184 none
  statics := none }

def pool11 : Array CpInfo := pool [(4, .class_ 6), (1, u "java/lang/Object"), (0, u "<init>"), (0, u "()V"), (5, .class_ 16), (1, u "java/lang/StringLatin1"), (104, u "$assertionsDisabled"), (0, u "Z"), (98, .class_ 223), (1, u "java/lang/StringLatin1$LinesSpliterator"), (57, u "equals"), (0, u "([B[B)Z"), (107, .class_ 391), (0, u "java/lang/StringLatin1$CharsSpliterator")] 3

def k11m0 : Method := { name := "<init>", desc := "()V", sig := { parameters := [], returnType := none }, accessFlags := 0, code := none }
def k11c1 : Code := { maxStack := 3, maxLocals := 3, code := jdk_43_method_13_code, exceptionTable := #[], attributes := #[] }
def k11m1 : Method := { name := "equals", desc := "([B[B)Z", sig := { parameters := [(.array .byte), (.array .byte)], returnType := some .boolean }, accessFlags := 9, code := some k11c1 }
/-- java/lang/StringLatin1 -/
def k11 : Class := { plain "java/lang/StringLatin1" (some 0) with
  accessFlags := 48
  interfaces := #[]
  cf := some (fileOf pool11 14 #[.nestMembers #[390, 221]] #[{ accessFlags := 0, nameIndex := 7, descriptorIndex := 8, attributes := #[] }, { accessFlags := 9, nameIndex := 281, descriptorIndex := 282, attributes := #[] }] 48 4 #[] #[{ accessFlags := 4120, nameIndex := 121, descriptorIndex := 122, attributes := #[] }])
  fields := #[{ name := "$assertionsDisabled", type := .boolean, accessFlags := 4120, slot := 0, constantValue := 0 }]
  methods := #[k11m0, k11m1]
  instanceTypes := #[]
  staticTypes := #[.boolean]
  resolved := Array.replicate 395 none
  statics := none }

def pool12 : Array CpInfo := pool [(2, .class_ 4), (1, u "java/lang/Object"), (0, u "<init>"), (0, u "()V"), (17, .class_ 26), (1, u "jdk/internal/util/Preconditions"), (28, .class_ 56), (0, u "jdk/internal/util/Preconditions$4"), (57, .class_ 115), (0, u "jdk/internal/util/Preconditions$1"), (7, u "SIOOBE_FORMATTER"), (0, u "Ljava/util/function/BiFunction;"), (0, .class_ 126), (0, u "jdk/internal/util/Preconditions$2"), (3, u "AIOOBE_FORMATTER"), (0, .class_ 132), (0, u "jdk/internal/util/Preconditions$3"), (3, u "IOOBE_FORMATTER")] 57

def k12m0 : Method := { name := "<init>", desc := "()V", sig := { parameters := [], returnType := none }, accessFlags := 1, code := none }
/-- jdk/internal/util/Preconditions -/
def k12 : Class := { plain "jdk/internal/util/Preconditions" (some 0) with
  accessFlags := 33
  interfaces := #[]
  cf := some (fileOf pool12 24 #[.nestMembers #[55, 131, 125, 114]] #[{ accessFlags := 1, nameIndex := 5, descriptorIndex := 6, attributes := #[] }] 33 2 #[] #[{ accessFlags := 25, nameIndex := 123, descriptorIndex := 124, attributes := #[] }, { accessFlags := 25, nameIndex := 130, descriptorIndex := 124, attributes := #[] }, { accessFlags := 25, nameIndex := 136, descriptorIndex := 124, attributes := #[] }])
  fields := #[{ name := "SIOOBE_FORMATTER", type := (.object "java/util/function/BiFunction"), accessFlags := 25, slot := 0, constantValue := 0 }, { name := "AIOOBE_FORMATTER", type := (.object "java/util/function/BiFunction"), accessFlags := 25, slot := 1, constantValue := 0 }, { name := "IOOBE_FORMATTER", type := (.object "java/util/function/BiFunction"), accessFlags := 25, slot := 2, constantValue := 0 }]
  methods := #[k12m0]
  instanceTypes := #[]
  staticTypes := #[(.object "java/util/function/BiFunction"), (.object "java/util/function/BiFunction"), (.object "java/util/function/BiFunction")]
  resolved := Array.replicate 194 none
  statics := some 1 }

def pool13 : Array CpInfo := pool [(9, u "<init>"), (6, .class_ 18), (1, u "java/lang/Object"), (0, u "()V"), (1, .class_ 23), (1, u "jdk/internal/util/ArraysSupport"), (0, u "LOG2_ARRAY_LONG_INDEX_SCALE"), (0, u "I"), (2, u "U"), (0, u "Ljdk/internal/misc/Unsafe;"), (8, u "BIG_ENDIAN"), (0, u "Z"), (8, u "LOG2_BYTE_BIT_SIZE"), (4, u "LOG2_ARRAY_INT_INDEX_SCALE"), (54, u "JLA"), (0, u "Ljdk/internal/access/JavaLangAccess;"), (11, u "LOG2_ARRAY_BOOLEAN_INDEX_SCALE"), (9, u "LOG2_ARRAY_BYTE_INDEX_SCALE"), (5, u "LOG2_ARRAY_CHAR_INDEX_SCALE"), (5, u "LOG2_ARRAY_SHORT_INDEX_SCALE"), (18, u "LOG2_ARRAY_FLOAT_INDEX_SCALE"), (24, u "LOG2_ARRAY_DOUBLE_INDEX_SCALE"), (89, u "T_BOOLEAN"), (2, u "T_CHAR"), (1, u "T_FLOAT"), (1, u "T_DOUBLE"), (1, u "T_BYTE"), (1, u "T_SHORT"), (1, u "T_INT"), (1, u "T_LONG"), (1, u "SOFT_MAX_ARRAY_LENGTH")] 83

def k13m0 : Method := { name := "<init>", desc := "()V", sig := { parameters := [], returnType := none }, accessFlags := 2, code := none }
/-- jdk/internal/util/ArraysSupport -/
def k13 : Class := { plain "jdk/internal/util/ArraysSupport" (some 0) with
  accessFlags := 33
  interfaces := #[]
  cf := some (fileOf pool13 21 #[] #[{ accessFlags := 2, nameIndex := 9, descriptorIndex := 19, attributes := #[] }] 33 16 #[] #[{ accessFlags := 24, nameIndex := 28, descriptorIndex := 29, attributes := #[] }, { accessFlags := 26, nameIndex := 38, descriptorIndex := 39, attributes := #[] }, { accessFlags := 25, nameIndex := 121, descriptorIndex := 25, attributes := #[] }, { accessFlags := 25, nameIndex := 131, descriptorIndex := 25, attributes := #[] }, { accessFlags := 25, nameIndex := 137, descriptorIndex := 25, attributes := #[] }, { accessFlags := 25, nameIndex := 143, descriptorIndex := 25, attributes := #[] }, { accessFlags := 25, nameIndex := 53, descriptorIndex := 25, attributes := #[] }, { accessFlags := 25, nameIndex := 24, descriptorIndex := 25, attributes := #[] }, { accessFlags := 25, nameIndex := 162, descriptorIndex := 25, attributes := #[] }, { accessFlags := 25, nameIndex := 187, descriptorIndex := 25, attributes := #[] }, { accessFlags := 26, nameIndex := 48, descriptorIndex := 25, attributes := #[] }, { accessFlags := 25, nameIndex := 277, descriptorIndex := 25, attributes := #[] }, { accessFlags := 25, nameIndex := 280, descriptorIndex := 25, attributes := #[] }, { accessFlags := 25, nameIndex := 282, descriptorIndex := 25, attributes := #[] }, { accessFlags := 25, nameIndex := 284, descriptorIndex := 25, attributes := #[] }, { accessFlags := 25, nameIndex := 286, descriptorIndex := 25, attributes := #[] }, { accessFlags := 25, nameIndex := 288, descriptorIndex := 25, attributes := #[] }, { accessFlags := 25, nameIndex := 290, descriptorIndex := 25, attributes := #[] }, { accessFlags := 25, nameIndex := 292, descriptorIndex := 25, attributes := #[] }, { accessFlags := 26, nameIndex := 108, descriptorIndex := 109, attributes := #[] }, { accessFlags := 25, nameIndex := 294, descriptorIndex := 25, attributes := #[] }])
  fields := #[{ name := "U", type := (.object "jdk/internal/misc/Unsafe"), accessFlags := 24, slot := 0, constantValue := 0 }, { name := "BIG_ENDIAN", type := .boolean, accessFlags := 26, slot := 1, constantValue := 0 }, { name := "LOG2_ARRAY_BOOLEAN_INDEX_SCALE", type := .int, accessFlags := 25, slot := 2, constantValue := 0 }, { name := "LOG2_ARRAY_BYTE_INDEX_SCALE", type := .int, accessFlags := 25, slot := 3, constantValue := 0 }, { name := "LOG2_ARRAY_CHAR_INDEX_SCALE", type := .int, accessFlags := 25, slot := 4, constantValue := 0 }, { name := "LOG2_ARRAY_SHORT_INDEX_SCALE", type := .int, accessFlags := 25, slot := 5, constantValue := 0 }, { name := "LOG2_ARRAY_INT_INDEX_SCALE", type := .int, accessFlags := 25, slot := 6, constantValue := 0 }, { name := "LOG2_ARRAY_LONG_INDEX_SCALE", type := .int, accessFlags := 25, slot := 7, constantValue := 0 }, { name := "LOG2_ARRAY_FLOAT_INDEX_SCALE", type := .int, accessFlags := 25, slot := 8, constantValue := 0 }, { name := "LOG2_ARRAY_DOUBLE_INDEX_SCALE", type := .int, accessFlags := 25, slot := 9, constantValue := 0 }, { name := "LOG2_BYTE_BIT_SIZE", type := .int, accessFlags := 26, slot := 10, constantValue := 0 }, { name := "T_BOOLEAN", type := .int, accessFlags := 25, slot := 11, constantValue := 0 }, { name := "T_CHAR", type := .int, accessFlags := 25, slot := 12, constantValue := 0 }, { name := "T_FLOAT", type := .int, accessFlags := 25, slot := 13, constantValue := 0 }, { name := "T_DOUBLE", type := .int, accessFlags := 25, slot := 14, constantValue := 0 }, { name := "T_BYTE", type := .int, accessFlags := 25, slot := 15, constantValue := 0 }, { name := "T_SHORT", type := .int, accessFlags := 25, slot := 16, constantValue := 0 }, { name := "T_INT", type := .int, accessFlags := 25, slot := 17, constantValue := 0 }, { name := "T_LONG", type := .int, accessFlags := 25, slot := 18, constantValue := 0 }, { name := "JLA", type := (.object "jdk/internal/access/JavaLangAccess"), accessFlags := 26, slot := 19, constantValue := 0 }, { name := "SOFT_MAX_ARRAY_LENGTH", type := .int, accessFlags := 25, slot := 20, constantValue := 0 }]
  methods := #[k13m0]
  instanceTypes := #[]
  staticTypes := #[(.object "jdk/internal/misc/Unsafe"), .boolean, .int, .int, .int, .int, .int, .int, .int, .int, .int, .int, .int, .int, .int, .int, .int, .int, .int, (.object "jdk/internal/access/JavaLangAccess"), .int]
  resolved := Array.replicate 378 none
  statics := none }

def pool14 : Array CpInfo := pool [(1, u "java/lang/Cloneable"), (0, .class_ 1), (0, u "java/lang/Object"), (0, .class_ 3)] 3

/-- java/lang/Cloneable -/
def k14 : Class := { plain "java/lang/Cloneable" (some 0) with
  accessFlags := 1537
  interfaces := #[]
  cf := some (fileOf pool14 2 #[] #[] 1537 4 #[] #[])
  fields := #[]
  methods := #[]
  instanceTypes := #[]
  staticTypes := #[]
  resolved := Array.replicate 8 none
  statics := none }

/-- the primitive byte -/
def k15 : Class := { plain "byte" none with kind := .primitive 'B', accessFlags := 0x411 }
/-- [B -/
def k16 : Class := { plain "[B" (some 0) with kind := .array 15 .byte, interfaces := #[14, 3], accessFlags := 1041 }

/-- the primitive char -/
def k17 : Class := { plain "char" none with kind := .primitive 'C', accessFlags := 0x411 }
/-- [C -/
def k18 : Class := { plain "[C" (some 0) with kind := .array 17 .char, interfaces := #[14, 3], accessFlags := 1041 }

/-- the primitive int -/
def k19 : Class := { plain "int" none with kind := .primitive 'I', accessFlags := 0x411 }
/-- [I -/
def k20 : Class := { plain "[I" (some 0) with kind := .array 19 .int, interfaces := #[14, 3], accessFlags := 1041 }

def heap : Heap := #[{ cls := 8, slots := #[.long 0, .int 1, .null, .int 0, .null, .int 0, .int 0], vm := .statics 8 },
  { cls := 12, slots := #[.null, .null, .null], vm := .statics 12 }]
def classes : Array Class := #[k0, k1, k2, k3, k4, k5, k6, k7, k8, k9, k10, k11, k12, k13, k14, k15, k16, k17, k18, k19, k20]
def interned : List (Array UInt16 × Addr) := []
def slotsUsed : Nat := 10
def theMethod : MethodId := ⟨1, 4⟩
def args0 : Array Value := #[.int 7, .int 8, .int 7, .int 9, .int 0]
def aboutOver (below : List Frame) : State where
  vm := { classes := classes, interned := interned.toArray }
  heap := heap
  slotsUsed := slotsUsed
  threads := #[{ frames := .invoking theMethod args0 :: below }]
def below0 : List Frame := [.native { method := ⟨0, 0⟩, args := #[] }]
def about1 : State := aboutOver below0
def p0 : Program := .bare "" "" ""
def e0 : Env := launch0.env 0 0 0
theorem w_frames : about1.frames = Frame.invoking theMethod args0 :: below0 := rfl
set_option maxRecDepth 65536 in
theorem w_args : argsFit about1.vm theMethod args0 = true := by decide +kernel
set_option maxRecDepth 65536 in
theorem w_heap : heapFits about1 = true := by decide +kernel
set_option maxRecDepth 65536 in
theorem w_runnable : about1.curStatus? = some .runnable := by decide +kernel
set_option maxRecDepth 65536 in
theorem w_alone : about1.alone = true := by decide +kernel
set_option maxRecDepth 65536 in
theorem w_named : about1.methodNamed? x = some theMethod := by decide +kernel
set_option maxRecDepth 65536 in
theorem w_hears : about1.hears theMethod below0 = true := by decide +kernel
set_option maxRecDepth 65536 in
theorem w_ripe : about1.ripe theMethod args0 below0 = true := by decide +kernel
theorem w_running : about1.status = .running := rfl
set_option maxRecDepth 65536 in
theorem w_room : about1.hasRoom e0.platform room_1 = true :=
  launch0.hasRoom_least _ room_1 (by decide +kernel) (by decide +kernel) (by decide +kernel) (by decide +kernel) (by decide +kernel) (by decide +kernel)
theorem allAtoms_all (ts : List Jvm.Cond) (a : Array Jvm.Value) (st : Jvm.State) : (allAtoms ts).before a st = ts.all (fun c => c.before a st) := by
  induction ts with
  | nil => rfl
  | cons c t ih =>
    show (Jvm.Cond.and c (allAtoms t)).before a st = _
    rw [Jvm.Cond.before_and, ih, List.all_cons]
def words1 : List Jvm.Cond := Jvm.Cond.code x code maxLocals ret :: tables_1
/-- a 'code' word, met by the world's own term for the bytes: nothing is compared byte by byte -/
theorem code_word {y : MethodName} {bytes : ByteArray} {mx : Nat} {rt : Option FieldType} {a : Array Value} {s : State} {m : MethodId} {meth : Method} {c : Code} (h1 : s.methodNamed? y = some m) (h2 : s.vm.method? m = some meth) (h3 : meth.code = some c) (h4 : c.code = bytes)
    (h5 : (c.maxLocals == mx && c.exceptionTable.isEmpty && decide (c.maxStack ≤ mostOperands) && decide (meth.sig.returnType = rt) && !meth.locks && decide (parseMethodDescriptor y.desc = some meth.sig)) = true) : (Jvm.Cond.code y bytes mx rt).before a s = true := by
  simp only [Bool.and_eq_true, beq_iff_eq, Bool.not_eq_true', decide_eq_true_eq] at h5
  obtain ⟨⟨⟨⟨⟨g1, g2⟩, g3⟩, g4⟩, g5⟩, g6⟩ := h5
  simp [Cond.before, Cond.holds, Cond.value, h1, h2, h3, h4, g1, g2, g3, g4, g5, g6]
def isCode : Jvm.Cond → Bool
  | .code _ _ _ _ => true
  | _ => false
theorem all_split {L : List Jvm.Cond} {P : Jvm.Cond → Bool} (h1 : L.all (fun c => isCode c || P c) = true) (h2 : ∀ c ∈ L.filter isCode, P c = true) : L.all P = true := by
  refine List.all_eq_true.mpr fun c hc => ?_
  have h := List.all_eq_true.mp h1 c hc
  rcases Bool.eq_false_or_eq_true (isCode c) with hi | hi
  · exact h2 c (List.mem_filter.mpr ⟨hc, hi⟩)
  · simpa [hi] using h
set_option maxRecDepth 65536 in
theorem w_c0 : (Jvm.Cond.code x code maxLocals ret).before args0 about1 = true := code_word (m := ⟨1, 4⟩) (meth := k1m4) (c := k1c4) (by decide +kernel) rfl rfl rfl (by decide +kernel)
set_option maxRecDepth 65536 in
theorem w_c1 : (Jvm.Cond.code ({ cls := "com/example/unstor/unstor/ScopeEqualsPinLaw", name := "make", desc := "(I)Ljava/lang/String;" } : Jvm.MethodName) method_3_code (3 : Nat) (Option.some (Jvm.ClassFile.FieldType.object "java/lang/String"))).before args0 about1 = true := code_word (m := ⟨1, 2⟩) (meth := k1m2) (c := k1c2) (by decide +kernel) rfl rfl rfl (by decide +kernel)
set_option maxRecDepth 65536 in
theorem w_c2 : (Jvm.Cond.code ({ cls := "java/lang/String", name := "<init>", desc := "([C)V" } : Jvm.MethodName) jdk_42_method_3_code (2 : Nat) (Option.none : Option Jvm.ClassFile.FieldType)).before args0 about1 = true := code_word (m := ⟨8, 1⟩) (meth := k8m1) (c := k8c1) (by decide +kernel) rfl rfl rfl (by decide +kernel)
set_option maxRecDepth 65536 in
theorem w_c3 : (Jvm.Cond.code ({ cls := "java/lang/String", name := "<init>", desc := "([CIILjava/lang/Void;)V" } : Jvm.MethodName) jdk_42_method_149_code (6 : Nat) (Option.none : Option Jvm.ClassFile.FieldType)).before args0 about1 = true := code_word (m := ⟨8, 3⟩) (meth := k8m3) (c := k8c3) (by decide +kernel) rfl rfl rfl (by decide +kernel)
set_option maxRecDepth 65536 in
theorem w_c4 : (Jvm.Cond.code ({ cls := "java/lang/Object", name := "<init>", desc := "()V" } : Jvm.MethodName) object_method_1_code (1 : Nat) (Option.none : Option Jvm.ClassFile.FieldType)).before args0 about1 = true := code_word (m := ⟨0, 0⟩) (meth := k0m0) (c := k0c0) (by decide +kernel) rfl rfl rfl (by decide +kernel)
set_option maxRecDepth 65536 in
theorem w_c5 : (Jvm.Cond.code ({ cls := "com/example/unstor/unstor/ScopeEqualsPinLaw", name := "ch", desc := "(II)C" } : Jvm.MethodName) method_2_code (2 : Nat) (Option.some Jvm.ClassFile.FieldType.char)).before args0 about1 = true := code_word (m := ⟨1, 1⟩) (meth := k1m1) (c := k1c1) (by decide +kernel) rfl rfl rfl (by decide +kernel)
set_option maxRecDepth 65536 in
theorem w_c6 : (Jvm.Cond.code ({ cls := "java/lang/StringUTF16", name := "compress", desc := "([CII)[B" } : Jvm.MethodName) jdk_52_method_16_code (6 : Nat) (Option.some (Jvm.ClassFile.FieldType.array Jvm.ClassFile.FieldType.byte))).before args0 about1 = true := code_word (m := ⟨9, 2⟩) (meth := k9m2) (c := k9c2) (by decide +kernel) rfl rfl rfl (by decide +kernel)
set_option maxRecDepth 65536 in
theorem w_c7 : (Jvm.Cond.code ({ cls := "java/lang/StringUTF16", name := "compress", desc := "([CI[BII)I" } : Jvm.MethodName) jdk_52_method_21_code (7 : Nat) (Option.some Jvm.ClassFile.FieldType.int)).before args0 about1 = true := code_word (m := ⟨9, 3⟩) (meth := k9m3) (c := k9c3) (by decide +kernel) rfl rfl rfl (by decide +kernel)
set_option maxRecDepth 65536 in
theorem w_c8 : (Jvm.Cond.code ({ cls := "java/lang/StringUTF16", name := "coderFromArrayLen", desc := "([BI)B" } : Jvm.MethodName) jdk_52_method_15_code (2 : Nat) (Option.some Jvm.ClassFile.FieldType.byte)).before args0 about1 = true := code_word (m := ⟨9, 1⟩) (meth := k9m1) (c := k9c1) (by decide +kernel) rfl rfl rfl (by decide +kernel)
set_option maxRecDepth 65536 in
theorem w_c9 : (Jvm.Cond.code ({ cls := "com/example/unstor/unstor/Scope", name := "<init>", desc := "(Ljava/lang/String;Ljava/lang/String;)V" } : Jvm.MethodName) prog_21_method_1_code (3 : Nat) (Option.none : Option Jvm.ClassFile.FieldType)).before args0 about1 = true := code_word (m := ⟨2, 0⟩) (meth := k2m0) (c := k2c0) (by decide +kernel) rfl rfl rfl (by decide +kernel)
set_option maxRecDepth 65536 in
theorem w_c10 : (Jvm.Cond.code ({ cls := "java/util/Objects", name := "requireNonNull", desc := "(Ljava/lang/Object;)Ljava/lang/Object;" } : Jvm.MethodName) jdk_31_method_10_code (1 : Nat) (Option.some (Jvm.ClassFile.FieldType.object "java/lang/Object"))).before args0 about1 = true := code_word (m := ⟨10, 1⟩) (meth := k10m1) (c := k10c1) (by decide +kernel) rfl rfl rfl (by decide +kernel)
set_option maxRecDepth 65536 in
theorem w_c11 : (Jvm.Cond.code ({ cls := "com/example/unstor/unstor/ScopeEqualsPinLaw", name := "same", desc := "(II)Z" } : Jvm.MethodName) method_4_code (3 : Nat) (Option.some Jvm.ClassFile.FieldType.boolean)).before args0 about1 = true := code_word (m := ⟨1, 3⟩) (meth := k1m3) (c := k1c3) (by decide +kernel) rfl rfl rfl (by decide +kernel)
set_option maxRecDepth 65536 in
theorem w_c12 : (Jvm.Cond.code ({ cls := "com/example/unstor/unstor/Scope", name := "equals", desc := "(Ljava/lang/Object;)Z" } : Jvm.MethodName) prog_21_method_4_code (3 : Nat) (Option.some Jvm.ClassFile.FieldType.boolean)).before args0 about1 = true := code_word (m := ⟨2, 1⟩) (meth := k2m1) (c := k2c1) (by decide +kernel) rfl rfl rfl (by decide +kernel)
set_option maxRecDepth 65536 in
theorem w_c13 : (Jvm.Cond.code ({ cls := "java/lang/String", name := "equals", desc := "(Ljava/lang/Object;)Z" } : Jvm.MethodName) jdk_42_method_66_code (3 : Nat) (Option.some Jvm.ClassFile.FieldType.boolean)).before args0 about1 = true := code_word (m := ⟨8, 2⟩) (meth := k8m2) (c := k8c2) (by decide +kernel) rfl rfl rfl (by decide +kernel)
set_option maxRecDepth 65536 in
theorem w_c14 : (Jvm.Cond.code ({ cls := "java/lang/StringLatin1", name := "equals", desc := "([B[B)Z" } : Jvm.MethodName) jdk_43_method_13_code (3 : Nat) (Option.some Jvm.ClassFile.FieldType.boolean)).before args0 about1 = true := code_word (m := ⟨11, 1⟩) (meth := k11m1) (c := k11c1) (by decide +kernel) rfl rfl rfl (by decide +kernel)
def codes1 : List Jvm.Cond := [Jvm.Cond.code x code maxLocals ret, Jvm.Cond.code ({ cls := "com/example/unstor/unstor/ScopeEqualsPinLaw", name := "make", desc := "(I)Ljava/lang/String;" } : Jvm.MethodName) method_3_code (3 : Nat) (Option.some (Jvm.ClassFile.FieldType.object "java/lang/String")), Jvm.Cond.code ({ cls := "java/lang/String", name := "<init>", desc := "([C)V" } : Jvm.MethodName) jdk_42_method_3_code (2 : Nat) (Option.none : Option Jvm.ClassFile.FieldType), Jvm.Cond.code ({ cls := "java/lang/String", name := "<init>", desc := "([CIILjava/lang/Void;)V" } : Jvm.MethodName) jdk_42_method_149_code (6 : Nat) (Option.none : Option Jvm.ClassFile.FieldType), Jvm.Cond.code ({ cls := "java/lang/Object", name := "<init>", desc := "()V" } : Jvm.MethodName) object_method_1_code (1 : Nat) (Option.none : Option Jvm.ClassFile.FieldType), Jvm.Cond.code ({ cls := "com/example/unstor/unstor/ScopeEqualsPinLaw", name := "ch", desc := "(II)C" } : Jvm.MethodName) method_2_code (2 : Nat) (Option.some Jvm.ClassFile.FieldType.char), Jvm.Cond.code ({ cls := "java/lang/StringUTF16", name := "compress", desc := "([CII)[B" } : Jvm.MethodName) jdk_52_method_16_code (6 : Nat) (Option.some (Jvm.ClassFile.FieldType.array Jvm.ClassFile.FieldType.byte)), Jvm.Cond.code ({ cls := "java/lang/StringUTF16", name := "compress", desc := "([CI[BII)I" } : Jvm.MethodName) jdk_52_method_21_code (7 : Nat) (Option.some Jvm.ClassFile.FieldType.int), Jvm.Cond.code ({ cls := "java/lang/StringUTF16", name := "coderFromArrayLen", desc := "([BI)B" } : Jvm.MethodName) jdk_52_method_15_code (2 : Nat) (Option.some Jvm.ClassFile.FieldType.byte), Jvm.Cond.code ({ cls := "com/example/unstor/unstor/Scope", name := "<init>", desc := "(Ljava/lang/String;Ljava/lang/String;)V" } : Jvm.MethodName) prog_21_method_1_code (3 : Nat) (Option.none : Option Jvm.ClassFile.FieldType), Jvm.Cond.code ({ cls := "java/util/Objects", name := "requireNonNull", desc := "(Ljava/lang/Object;)Ljava/lang/Object;" } : Jvm.MethodName) jdk_31_method_10_code (1 : Nat) (Option.some (Jvm.ClassFile.FieldType.object "java/lang/Object")), Jvm.Cond.code ({ cls := "com/example/unstor/unstor/ScopeEqualsPinLaw", name := "same", desc := "(II)Z" } : Jvm.MethodName) method_4_code (3 : Nat) (Option.some Jvm.ClassFile.FieldType.boolean), Jvm.Cond.code ({ cls := "com/example/unstor/unstor/Scope", name := "equals", desc := "(Ljava/lang/Object;)Z" } : Jvm.MethodName) prog_21_method_4_code (3 : Nat) (Option.some Jvm.ClassFile.FieldType.boolean), Jvm.Cond.code ({ cls := "java/lang/String", name := "equals", desc := "(Ljava/lang/Object;)Z" } : Jvm.MethodName) jdk_42_method_66_code (3 : Nat) (Option.some Jvm.ClassFile.FieldType.boolean), Jvm.Cond.code ({ cls := "java/lang/StringLatin1", name := "equals", desc := "([B[B)Z" } : Jvm.MethodName) jdk_43_method_13_code (3 : Nat) (Option.some Jvm.ClassFile.FieldType.boolean)]
set_option maxRecDepth 65536 in
theorem codes_eq : words1.filter isCode = codes1 := rfl
theorem w_codes : ∀ c ∈ words1.filter isCode, c.before args0 about1 = true := by
  rw [codes_eq]
  intro c hc
  simp only [codes1, List.mem_cons, List.not_mem_nil, or_false] at hc
  rcases hc with rfl | rfl | rfl | rfl | rfl | rfl | rfl | rfl | rfl | rfl | rfl | rfl | rfl | rfl | rfl
  · exact w_c0
  · exact w_c1
  · exact w_c2
  · exact w_c3
  · exact w_c4
  · exact w_c5
  · exact w_c6
  · exact w_c7
  · exact w_c8
  · exact w_c9
  · exact w_c10
  · exact w_c11
  · exact w_c12
  · exact w_c13
  · exact w_c14
set_option maxRecDepth 65536 in
theorem w_t1 : (words1.take 24).all (fun c => isCode c || c.before args0 about1) = true := by decide +kernel
set_option maxRecDepth 65536 in
theorem w_t2 : ((words1.drop 24).take 24).all (fun c => isCode c || c.before args0 about1) = true := by decide +kernel
set_option maxRecDepth 65536 in
theorem w_t3 : (((words1.drop 24).drop 24).take 24).all (fun c => isCode c || c.before args0 about1) = true := by decide +kernel
set_option maxRecDepth 65536 in
theorem w_t4 : (((words1.drop 24).drop 24).drop 24).all (fun c => isCode c || c.before args0 about1) = true := by decide +kernel
theorem w_tables : (allAtoms (Jvm.Cond.code x code maxLocals ret :: tables_1)).before args0 about1 = true := by
  rw [allAtoms_all]
  show words1.all (fun c => c.before args0 about1) = true
  refine all_split ?_ w_codes
  rw [← List.take_append_drop 24 words1, List.all_append, w_t1, ← List.take_append_drop 24 (words1.drop 24), List.all_append, w_t2, ← List.take_append_drop 24 ((words1.drop 24).drop 24), List.all_append, w_t3, w_t4]
  rfl
set_option maxRecDepth 65536 in
theorem w_rest : rest_1_c.before args0 about1 = true := by decide +kernel
set_option maxRecDepth 65536 in
theorem w_case : (Jvm.Cond.and given_1 narrow_1).before args0 about1 = true := by decide +kernel
set_option maxRecDepth 65536 in
theorem w_consts : constsHeld consts_1 about1 := Jvm.Lit.constsHeldB_iff.mp (by decide +kernel)
theorem w_applies : (headSpec (Jvm.Cond.code x code maxLocals ret :: tables_1) room_1).applies x e0.platform about1 = true :=
  (Spec.applies_iff w_frames).mpr ⟨w_running, w_runnable, w_alone, w_named, w_hears, w_ripe, w_room, w_tables⟩
theorem atStart : AtStart classFile x code maxLocals ret World_1 tables_1 room_1 Calls_1 rest_1 Pre_1 launch0 p0 e0 about1 theMethod args0 below0 :=
  ⟨lists_1, trivial, launch0.admits_env _ _ _, launch0.least_env, fairChoices_fair.cas, fairChoices_fair.clock, w_frames, w_args, w_heap, w_applies, ⟨w_consts, trivial⟩, w_rest, w_case⟩
end start1
theorem witness_1 : WitnessClaimed_1 := ⟨start1.p0, start1.e0, start1.about1, start1.theMethod, start1.args0, start1.below0, start1.atStart⟩
end Jvm.Pilot.@@N@@
