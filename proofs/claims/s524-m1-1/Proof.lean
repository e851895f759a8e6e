import JvmDerived
import JvmDerived.Pilot.@@N@@Statement
import JvmDerived.Pilot.@@N@@Code
set_option linter.unusedVariables false
set_option linter.unusedSimpArgs false
@@BLOCK:LamKit.lean.txt@@
namespace Jvm.RoadKit
open Sem ClassFile Op Lib Jvm.Stand Jvm.Free Jvm.LawKit
section Own
/-- from u a state is reached where R holds -/
def own_Go (tb : Tables) (e : Env) (below : List Frame) (R : State → Prop) (u : State) : Prop := ∃ t, Steps tb e below u t ∧ R t
theorem own_st {tb : Tables} {e : Env} {below : List Frame} {R : State → Prop} {u v : State} (h : ∀ t, Steps tb e below v t → Steps tb e below u t) (g : own_Go tb e below R v) : own_Go tb e below R u := by
  obtain ⟨t, h1, h2⟩ := g
  exact ⟨t, h t h1, h2⟩
theorem own_fin {tb : Tables} {e : Env} {below : List Frame} {R : State → Prop} {u t : State} (h : Steps tb e below u t) (r : R t) : own_Go tb e below R u := ⟨t, h, r⟩
theorem own_in {tb : Tables} {e : Env} {below : List Frame} {u v : State} {P : State → Outcome → Prop} (h : ∀ t, Steps tb e below v t → Steps tb e below u t)
    (g : ∀ RR : State → Prop, (∀ t, (∃ o, t.status = .running ∧ P t o) → RR t) → own_Go tb e below RR v) : ∃ t o, Steps tb e below u t ∧ t.status = .running ∧ P t o := by
  obtain ⟨t, h1, o, h2, h3⟩ := g (fun t => ∃ o, t.status = .running ∧ P t o) fun _ q => q
  exact ⟨t, o, h t h1, h2, h3⟩
theorem own_ri {x y : Int32} (h : x = y) : some (Value.int x) = some (Value.int y) := h ▸ rfl
theorem own_rj {x y : Int64} (h : x = y) : some (Value.long x) = some (Value.long y) := h ▸ rfl
theorem own_rr {x y : Addr} (h : x = y) : some (Value.ref x) = some (Value.ref y) := h ▸ rfl
theorem own_eq_int {args : Array Value} {first s : State} {o : Option Outcome} {idx : List Nat} {a : Term} {k : Int32} (h : (Cond.eq a (.int k)).value args first o s idx = some true) : a.eval args first o idx s = some (.int k) := by
  simp only [Cond.value, Term.eval] at h
  cases ht : a.eval args first o idx s with
  | none => simp [ht] at h
  | some x => cases x <;> simp [ht] at h ⊢; exact h
theorem own_eq_long {args : Array Value} {first s : State} {o : Option Outcome} {idx : List Nat} {a : Term} {k : Int64} (h : (Cond.eq a (.long k)).value args first o s idx = some true) : a.eval args first o idx s = some (.long k) := by
  simp only [Cond.value, Term.eval] at h
  cases ht : a.eval args first o idx s with
  | none => simp [ht] at h
  | some x => cases x <;> simp [ht] at h ⊢; exact h
theorem own_selP {s : State} {args : Array Value} {y : MethodName} {n : Nat} (wi : (Cond.instantiable y.cls n).before args s = true) (hp : s.PrivateAt y) (hi : (Cond.instanceMethod y).before args s = true) (hy : y.cls ≠ "java/lang/invoke/MethodHandle" ∧ y.cls ≠ "java/lang/invoke/VarHandle") : (Cond.selects y.cls y y).before args s = true := by
  obtain ⟨c, k, h1, h2, -, h4, -⟩ := Cond.instantiable_spec wi
  exact selects_self_of_private h1 h2 (Bool.or_eq_false_iff.mp h4).1 hp hi hy
variable {p : Program} {l : Launch} {e : Env} {R : Room} {s : State} {m : MethodId} {args : Array Value} {below : List Frame} {meth : Method} {c : Code} {T : State} {locs : List Loc} {cells slots : Nat} {Z : State} {h : Heap}
theorem retI (X : Stand p l e R s m args below meth c T locs cells slots) (hx : p.tables.exec = Jvm.exec) {pc : Nat} {Ls : Array Slot} {z : Int32} {rest : List Value} (hret : meth.sig.returnType = some .int) (hd : decode c.code pc = .ok (.ireturn, 1)) {fs : List Frame}
    (hl : ∀ (f : JFrame) (acts : List Action), f.method = m → f.locked = none → f.entered = [] → (doReturn e (T.setTop f) acts (some (.int z))).1 = T.setFrames fs) : Steps p.tables e below (T.setTop (mkF m pc Ls (.int z :: rest))) (T.setFrames fs) :=
  retOut X hx hret rfl (Or.inl ⟨rfl, Or.inl rfl, z, rfl⟩) hd hl
theorem own_len (X : Stand p l e R s m args below meth c T locs cells slots) (hx : p.tables.exec = Jvm.exec) (hZ : Z.Warmed39 s.vm) (eT : T.heap = h) {a : Addr} {cl : Cell} {ty : FieldType} (A : Arr Z h a cl ty) {z : Int32} (S : cl.slots.size = z.toNatClampNeg) (N : ¬ z < 0)
    {g : JFrame} (hg : g.method = m) {rest : List Value} (hs : g.stack = .ref a :: rest) (hd : decode c.code g.pc = .ok (.arraylength, 1)) {target : State}
    (k : Steps p.tables e below (T.setTop { g with pc := g.pc + 1, stack := .int z :: rest }) target) : Steps p.tables e below (T.setTop g) target :=
  X.arraylength hx (by rw [eT]; exact A.1) (State.isArrayOf_alike hZ.alike A.2.1) hg hs hd target (by rw [len_of S N]; exact k)
end Own
end Jvm.RoadKit
namespace Jvm.RoadKit
open Sem ClassFile Op Lib Jvm.Stand Jvm.Free Jvm.LawKit Jvm.LamKit
section OwnLam
variable {p : Program} {l : Launch} {e : Env} {R : Room} {s : State} {m : MethodId} {args : Array Value} {below : List Frame} {meth : Method} {c : Code} {T : State} {locs : List Loc} {cells slots : Nat} {Z : State} {h : Heap}
variable {x : MethodName} {pc index : Nat} {σ : Lambda.Shape} {cK : ClassId} {fa : Addr}
/-- the site's word: the one function object -/
theorem own_site (hw : (Cond.lambdaSite x pc index σ).before args s = true) (hcap : σ.captured = []) : ∃ cK fa, s.lambdaAt? x pc index σ = some (cK, some fa) := by
  obtain ⟨cK, one, h⟩ := Cond.lambdaSite_spec hw
  obtain ⟨mD, kD, cfD, i0, p0, lk, -, -, -, -, -, -, -, -, hl⟩ := State.lambdaAt?_spec h
  rcases hl with ⟨a, cell, -, e, -⟩ | ⟨-, -, hne⟩
  · exact ⟨cK, a, e ▸ h⟩
  · exact absurd hcap hne
theorem own_lam {U : State} (h : U.lambdaAt? x pc index σ = some (cK, some fa)) : Jvm.LamKit.Made U x.cls σ cK ∧ FnAt U.heap fa cK := by
  obtain ⟨mD, kD, cfD, i0, p0, lk, hmD, hkD, -, -, -, hfind, hmade, hcan, hl⟩ := State.lambdaAt?_spec h
  obtain ⟨kD', hkD', hnameD⟩ := className_of_methodNamed hmD
  cases hkD.symm.trans hkD'
  rcases hl with ⟨a, cell, -, e, -, hcell, hcls, hvm, -⟩ | ⟨-, e, -⟩
  · cases e
    exact ⟨⟨_, kD, hkD, hnameD, hmade, hcan⟩, cell, hcell, hcls, hvm⟩
  · cases e
theorem own_fnAt (X : Stand p l e R s m args below meth c T locs cells slots) (h : FnAt s.heap fa cK) : FnAt T.heap fa cK := by
  obtain ⟨cell, hc, h1, h2⟩ := h
  obtain ⟨cell', x1, x2, -⟩ := X.same.2.2.2.2.2 fa cell hc
  exact ⟨cell', x1, by rw [x2]; exact h1, by rw [x2]; exact h2⟩
/-- 'invokedynamic' there -/
theorem own_siteC (X : Stand p l e R s m args below meth c T locs cells slots) (hexec : p.tables.exec = Jvm.exec) (hnamed : s.methodNamed? x = some m) (hL : s.lambdaAt? x pc index σ = some (cK, some fa)) {g : JFrame} (hg : g.method = m) (hpc : g.pc = pc) (hsize : g.locals.size = c.maxLocals)
    (hdg : decode c.code g.pc = .ok (.invokedynamic index, 5)) (hwords : 2 * g.monitorRoom + (g.stack.map fun v => v.category).sum + 3072 ≤ R.locals) {target : State}
    (k : Steps p.tables e below (T.setTop { g with pc := g.pc + 5, stack := .ref fa :: g.stack }) target) : Steps p.tables e below (T.setTop g) target := by
  obtain ⟨mD, kD, cfD, i0, p0, lk, hmD, hkD, -, -, -, hfind, hmade, hcan, hl⟩ := State.lambdaAt?_spec hL
  cases hnamed.symm.trans hmD
  rcases hl with ⟨a, cell, rfl, e1, -⟩ | ⟨-, e1, -⟩
  · cases e1
    have hw : e.platform.lambdaLinkWords = 3072 := by rw [X.admits.platform]
    exact X.lambdaConstant hexec hg hsize hdg hkD (by rw [hpc]; exact hfind) (by rw [hw]; exact hwords) k
  · cases e1
/-- a call of a body whose contract asks that the site's object is there -/
theorem own_backL {y : MethodName} {bytes : ByteArray} {maxL : Nat} {ret : Option FieldType} {rm : Room} {len W : Nat} {as' a0 : Array Value} {Q : Option Value → Heap → List Loc → Prop} {r : ClassId × Option Addr}
    (hM : MetFree l y (head1 [Cond.code y bytes maxL ret] rm) (fun a U => a = as' ∧ Z.Warmed39 U.vm ∧ U.heap = h ∧ U.lambdaAt? x pc index σ = some r) (fun _ _ _ _ _ => True) (fun _ U o U' => ∃ v L, o = .returned v ∧ Q v U'.heap L ∧ FrameEnd U o U' L rm.cells rm.slots))
    (hL : s.lambdaAt? x pc index σ = some r)
    (hZ : Z.Warmed39 s.vm) (wc : (Cond.code y bytes maxL ret).before a0 Z = true) (wz : (Cond.initialized y.cls).before a0 Z = true) (hf : rm.frames + 1 ≤ R.frames) (hl : W + (maxL + 11) + rm.locals ≤ R.locals) :
    Back l R p e below s args y len W (fun A a => a = as' ∧ A.U.heap = h ∧ A.cells + rm.cells ≤ R.cells ∧ A.slots + rm.slots ≤ R.slots)
      (fun A _ v B => ∃ L, Q v B.U.heap L ∧ B.locs = A.locs ++ L ∧ B.cells = A.cells + rm.cells ∧ B.slots = A.slots + rm.slots) :=
  Back.of_free (bytes := bytes) (maxL := maxL) (ret := ret) (E := fun _ _ o t L k n => k = rm.cells ∧ n = rm.slots ∧ ∃ v, o = .returned v ∧ Q v t.heap L) hM hf hl
    (fun m meth c A a Y hp => have hU : Z.Warmed39 A.U.vm := wtrans hZ Y.warmed
      ⟨by show (Cond.and _ .tt).before a A.U = true; rw [Cond.before_and, mv hU wc]; rfl, mv hU wc, mv hU wz, hp.2.2.1, hp.2.2.2⟩)
    (fun m meth c A a g mk Y hp => ⟨hp.1, wtrans hZ Y.warmed, hp.2.1, State.lambdaAt?_rides (t := A.U) Y.warmed Y.same hL⟩) (fun _ _ _ _ _ _ _ _ _ => trivial)
    (fun _ _ _ _ ⟨v, L, h1, h2, h3⟩ => ⟨L, _, _, h3, rfl, rfl, v, h1, h2⟩)
    (fun m meth c A a g mk v t L k n Y hp _ _ ⟨e1, e2, v', e3, e4⟩ => by cases e3; subst e1 e2; exact ⟨L, e4, rfl, rfl, rfl⟩)
end OwnLam
end Jvm.RoadKit
namespace Jvm.Pilot.@@N@@
open Jvm Jvm.ClassFile Sem Op Lib Jvm.Free Jvm.Stand Jvm.LawKit Jvm.RoadKit Bundle Jvm.Pilot.@@N@@.Jvm.D
def own_Inv (n : Nat) (P lab : List Nat) (d : Nat → Nat) : Prop := P.length = n ∧ lab.length = n ∧ ∀ i, i < n → P.getD i 0 < n ∧ lab.getD i 0 < n ∧ lab.getD (P.getD i 0) 0 = lab.getD i 0 ∧ (P.getD i 0 ≠ i → d (P.getD i 0) < d i) ∧ (P.getD i 0 = i → lab.getD i 0 = i)
theorem own_gs {P : List Nat} {i v : Nat} (h : i < P.length) (j : Nat) : (P.set i v).getD j 0 = if j = i then v else P.getD j 0 := by
  rw [List.getD_eq_getElem?_getD, List.getD_eq_getElem?_getD]
  by_cases e : j = i
  · subst e
    rw [List.getElem?_set_self h, if_pos rfl]
    rfl
  · rw [List.getElem?_set_ne (Ne.symm e), if_neg e]
/-- a turn of the search: the way is halved -/
theorem own_turn {n : Nat} {P lab : List Nat} {d : Nat → Nat} (I : own_Inv n P lab d) {i : Nat} (hi : i < n) (h : P.getD i 0 ≠ i) :
    own_Inv n (P.set i (P.getD (P.getD i 0) 0)) lab d ∧ P.getD (P.getD i 0) 0 < n ∧ d (P.getD (P.getD i 0) 0) < d i ∧ lab.getD (P.getD (P.getD i 0) 0) 0 = lab.getD i 0 := by
  obtain ⟨l1, l2, H⟩ := I
  obtain ⟨a1, a2, a3, a4, a5⟩ := H i hi
  obtain ⟨b1, b2, b3, b4, b5⟩ := H _ a1
  have hd : d (P.getD (P.getD i 0) 0) < d i := by
    by_cases e : P.getD (P.getD i 0) 0 = P.getD i 0
    · rw [e]
      exact a4 h
    · exact Nat.lt_trans (b4 e) (a4 h)
  refine ⟨⟨by rw [List.length_set]; exact l1, l2, fun j hj => ?_⟩, b1, hd, b3.trans a3⟩
  rw [own_gs (by omega)]
  by_cases e : j = i
  · subst e
    rw [if_pos rfl]
    refine ⟨b1, a2, b3.trans a3, fun _ => hd, fun q => ?_⟩
    rw [q] at hd
    omega
  · rw [if_neg e]
    exact H j hj
theorem own_rl (lab : List Nat) (x y : Nat) (j : Nat) (hj : j < lab.length) : (lab.map fun z => if z = x then y else z).getD j 0 = if lab.getD j 0 = x then y else lab.getD j 0 := by
  rw [List.getD_eq_getElem?_getD, List.getD_eq_getElem?_getD, List.getElem?_map, List.getElem?_eq_getElem hj]
  rfl
/-- a join: the one root is hung under the other -/
theorem own_join {n : Nat} {P lab : List Nat} {d : Nat → Nat} (I : own_Inv n P lab d) {a b : Nat} (ha : a < n) (hb : b < n) (ea : P.getD a 0 = a) (eb : P.getD b 0 = b) :
    ∃ d' : Nat → Nat, own_Inv n (P.set a b) (lab.map fun z => if z = a then b else z) d' := by
  obtain ⟨l1, l2, H⟩ := I
  have la := (H a ha).2.2.2.2 ea
  have lb := (H b hb).2.2.2.2 eb
  refine ⟨fun x => if lab.getD x 0 = a then d x + (d b + 1) else d x, by rw [List.length_set]; exact l1, by rw [List.length_map]; exact l2, fun j hj => ?_⟩
  obtain ⟨a1, a2, a3, a4, a5⟩ := H j hj
  rw [own_gs (by omega), own_rl lab a b j (by omega)]
  by_cases e : j = a
  · subst e
    rw [if_pos rfl, own_rl lab j b b (by omega), if_pos la, lb]
    refine ⟨hb, hb, by by_cases q : b = j <;> simp [q], fun q => ?_, fun q => q ▸ rfl⟩
    show (if lab.getD b 0 = j then d b + (d b + 1) else d b) < (if lab.getD j 0 = j then d j + (d b + 1) else d j)
    rw [lb, la, if_neg q, if_pos rfl]
    omega
  · rw [if_neg e, own_rl lab a b _ (by omega), a3]
    refine ⟨a1, by split; exact hb; exact a2, rfl, fun q => ?_, fun q => ?_⟩
    · have := a4 q
      show (if lab.getD (P.getD j 0) 0 = a then d (P.getD j 0) + (d b + 1) else d (P.getD j 0)) < (if lab.getD j 0 = a then d j + (d b + 1) else d j)
      rw [a3]
      split <;> omega
    · have := a5 q
      rw [this, if_neg e]
theorem own_findr {n : Nat} {P lab : List Nat} {d : Nat → Nat} (I : own_Inv n P lab d) : ∀ (k i : Nat), d i = k → i < n → ∃ r, r < n ∧ d r ≤ d i ∧ P.getD r 0 = r ∧ lab.getD r 0 = lab.getD i 0 ∧ (P.getD i 0 ≠ i → d r < d i) := by
  intro k
  induction k using Nat.strongRecOn with
  | _ k ih =>
    intro i hk hi
    obtain ⟨a1, a2, a3, a4, a5⟩ := I.2.2 i hi
    by_cases e : P.getD i 0 = i
    · exact ⟨i, hi, Nat.le_refl _, e, rfl, fun q => absurd e q⟩
    · have hd := a4 e
      obtain ⟨r, r1, r2, r3, r4, -⟩ := ih _ (hk ▸ hd) _ rfl a1
      exact ⟨r, r1, by omega, r3, r4.trans a3, fun _ => by omega⟩
/-- the label of a place is a root, and is the root's own label -/
theorem own_rootl {n : Nat} {P lab : List Nat} {d : Nat → Nat} (I : own_Inv n P lab d) {i : Nat} (hi : i < n) : lab.getD i 0 < n ∧ P.getD (lab.getD i 0) 0 = lab.getD i 0 ∧ lab.getD (lab.getD i 0) 0 = lab.getD i 0 := by
  obtain ⟨r, r1, -, r3, r4, -⟩ := own_findr I _ i rfl hi
  have r5 := (I.2.2 r r1).2.2.2.2 r3
  rw [← r4, r5]
  exact ⟨r1, r3, r5⟩
def own_vi (i : Nat) : Value := .int (Int32.ofNat i)
theorem own_ti {i : Nat} (h : i < 16) : (Int32.ofNat i).toInt = (i : Int) := Int32.toInt_ofNat_of_lt (by omega)
theorem own_nc {i : Nat} (h : i < 16) : (Int32.ofNat i).toNatClampNeg = i := by
  have := own_ti h
  show (Int32.ofNat i).toInt.toNat = i
  omega
theorem own_inj {i j : Nat} (hi : i < 16) (hj : j < 16) (h : Int32.ofNat i = Int32.ofNat j) : i = j := by
  have := own_ti hi
  have := own_ti hj
  rw [h] at *
  omega
theorem own_nin {i n : Nat} (h : i < n) (hn : n < 16) : ¬ Int32.ofNat i < 0 ∧ Int32.ofNat i < Int32.ofNat n := by
  rw [Int32.lt_iff_toInt_lt, Int32.lt_iff_toInt_lt, own_ti (by omega), own_ti hn]
  have : (0 : Int32).toInt = 0 := by decide
  omega
theorem own_get {P : List Nat} {i n : Nat} (hl : P.length = n) (h : i < n) (hn : n < 16) : (P.map own_vi).getD (Int32.ofNat i).toNatClampNeg (.int (0 : Int32)) = .int (Int32.ofNat (P.getD i 0)) := by
  rw [own_nc (by omega), List.getD_eq_getElem?_getD, List.getD_eq_getElem?_getD, List.getElem?_map, List.getElem?_eq_getElem (by omega)]
  rfl
theorem own_ms (P : List Nat) (i v : Nat) : (P.set i v).map own_vi = (P.map own_vi).set i (.int (Int32.ofNat v)) := by
  rw [List.map_set]
  rfl
def own_r (a b z : Nat) : Nat := if z = a then b else z
theorem own_ry {a b z : Nat} (hz : z < 16) (ha : a < 16) (h : Int32.ofNat z = Int32.ofNat a) : own_r a b z = b := if_pos (own_inj hz ha h)
theorem own_rn {a b z : Nat} (h : ¬ Int32.ofNat z = Int32.ofNat a) : own_r a b z = z := if_neg fun q => h (by rw [q])
def own_nq (a b : Nat) : Int32 := if a = b then 0 else 1
theorem own_nqy {a b : Nat} (ha : a < 16) (hb : b < 16) (h : Int32.ofNat a = Int32.ofNat b) : own_nq a b = 0 := if_pos (own_inj ha hb h)
theorem own_nqn {a b : Nat} (h : ¬ Int32.ofNat a = Int32.ofNat b) : own_nq a b = 1 := if_neg fun q => h (by rw [q])
abbrev own_sig : Lambda.Shape := Lambda.Shape.mk "java/util/function/IntUnaryOperator" "applyAsInt" ⟨[.int], some .int⟩ [] 6 "com/example/saar/saar/sim/Parts" "lambda$new$0" ⟨[.int], some .int⟩ false ⟨[.int], some .int⟩
abbrev own_xi : MethodName := ⟨"java/util/function/IntUnaryOperator", "applyAsInt", "(I)I"⟩
abbrev own_ly : MethodName := ⟨"com/example/saar/saar/sim/Parts", "lambda$new$0", "(I)I"⟩
def own_fcode : ByteArray := ⟨#[0x1b, 0xb8, 0x00, 0x11, 0xac]⟩
theorem own_fwd : Jvm.LamKit.fwdOK own_sig "com/example/saar/saar/sim/Parts" own_fcode 2 (some .int) 17 14 = true := by decide +kernel
theorem own_f0 : decode own_fcode 0 = .ok (.iload_n 1, 1) := by decide +kernel
theorem own_f1 : decode own_fcode 1 = .ok (.invokestatic 17, 3) := by decide +kernel
theorem own_f4 : decode own_fcode 4 = .ok (.ireturn, 1) := by decide +kernel
theorem own_t0 : decode prog_63_method_4_code 0 = .ok (.iload_n 0, 1) := by decide +kernel
theorem own_t1 : decode prog_63_method_4_code 1 = .ok (.ireturn, 1) := by decide +kernel
theorem own_target (l : Launch) (v : Int32) : Met l own_ly [Cond.code own_ly prog_63_method_4_code 1 (some .int)] { frames := 0, cells := 0, slots := 0, locals := 0 } (fun args _ => args = #[.int v]) (fun _ U o U' => o = .returned (some (.int v)) ∧ U'.heap = U.heap) 0 0 (fun _ => False) := by
  refine MetFree.of_bodyS (code := prog_63_method_4_code) (maxLocals := 1) (ret := some .int) (by decide) (Jvm.LamKit.hisOf (List.mem_singleton.mpr rfl)) ?_
  intro p e s m args below meth c s₁ Bd hml hP _
  obtain rfl : args = #[.int v] := hP
  have X := Stand.of_body Bd
  have hh : s₁.heap = s.heap := by rw [Bd.state]; rfl
  obtain ⟨fs, hr, hrun, hended, hW, hsame⟩ := X.leave (v := some (.int v)) (fun h => by rw [Bd.returns] at h; cases h)
  refine ⟨s₁.setFrames fs, _, ?_, hrun, hended, ⟨rfl, hh⟩, [], ⟨⟨_, rfl⟩, hW, hsame⟩, fun q hq => nomatch hq⟩
  show Steps p.tables e below (s₁.setTop (mkF m 0 #[.val (.int v)] [])) _
  refine XS.iloadN X.here Bd.exec rfl (hb Bd.bytes own_t0) rfl ?_
  exact X.ireturnOut Bd.exec Bd.returns rfl (Or.inl rfl) (hb Bd.bytes own_t1) hr
theorem own_pn_java_util_Objects : plainName "java/util/Objects" = true := by first | (simp [plainName, overriddenIn]; done) | decide +kernel
theorem own_djdk_31_method_10_code_0 : decode jdk_31_method_10_code 0 = .ok (.aload_n 0, 1) := by decide +kernel
theorem own_djdk_31_method_10_code_1 : decode jdk_31_method_10_code 1 = .ok (.ifnonnull 11, 3) := by decide +kernel
theorem own_djdk_31_method_10_code_12 : decode jdk_31_method_10_code 12 = .ok (.aload_n 0, 1) := by decide +kernel
theorem own_djdk_31_method_10_code_13 : decode jdk_31_method_10_code 13 = .ok (.areturn, 1) := by decide +kernel
theorem own_efRN (m : MethodId) (o : Addr) : entryFrame m #[(.ref o)] 1 = mkF m 0 #[.val (.ref o)] [] := by first | (simp [entryFrame, mkF, argsToLocals, Value.category]; done) | rfl
def own_QRN (Z : State) (o : Addr) (h0 : Heap) (n0 : Nat) (rv__ : Option Value) (h : Heap) (rL__ : List Loc) : Prop := rv__ = some (.ref o) ∧ Fr n0 rL__ ∧ h = h0
abbrev own_RRN : Room := { frames := 0, cells := 0, slots := 0, locals := 0 }
set_option maxRecDepth 65536 in
set_option maxHeartbeats 40000000 in
theorem own_rmRN (l : Launch) (Z : State) (a0 : Array Value) (hw : ∀ d ∈ tables_1, d.before a0 Z = true) (ws : List Jvm.Cond) (o : Addr) (h0 : Heap) (n0 : Nat) (Z0 : n0 ≤ h0.size)  :
    MetFree l (⟨"java/util/Objects", "requireNonNull", "(Ljava/lang/Object;)Ljava/lang/Object;"⟩ : MethodName) (head1 (Jvm.Cond.code (⟨"java/util/Objects", "requireNonNull", "(Ljava/lang/Object;)Ljava/lang/Object;"⟩ : MethodName) jdk_31_method_10_code 1 (some (.object "java/lang/Object")) :: ws) own_RRN) (fun aa__ U => aa__ = #[(.ref o)] ∧ Z.Warmed39 U.vm ∧ U.heap = h0) (fun _ _ _ _ _ => True) (fun _ U oc_ U' => ∃ rv__ rL__, oc_ = .returned rv__ ∧ own_QRN Z o h0 n0 rv__ U'.heap rL__ ∧ FrameEnd U oc_ U' rL__ own_RRN.cells own_RRN.slots) := by
  refine MetFree.of_bodySF (plainFor_of_name own_pn_java_util_Objects) hisR ?_
  intro p e s m args below meth c s₁ Bd hml0 hP hK
  obtain ⟨rfl, hZ, hh⟩ := hP
  have hx := Bd.exec
  have hby := Bd.bytes
  have hml : c.maxLocals = 1 := hml0
  have hown : s.vm.findClass "java/util/Objects" = some m.cls := findClass_of_methodNamed Bd.named
  have hnm := (name_of_methodNamed Bd.named Bd.method).1
  have X0 : Stand p l e own_RRN s m #[(.ref o)] below meth c s₁ [] 0 0 := Stand.of_body Bd
  have e0 : s₁.heap = h0 := by rw [← hh, Bd.state]; rfl
  have N0 := Fr.nil n0
  refine own_in (fun _ k => castTop (own_efRN m o) k) ?_
  intro RR hRR
  show own_Go p.tables e below RR (s₁.setTop (mkF m 0 #[.val (.ref o)] []))
  refine own_st (fun _ k => XS.aloadN X0.here hx rfl (hb hby own_djdk_31_method_10_code_0) rfl rfl k) ?_
  show own_Go p.tables e below RR (s₁.setTop (mkF m 1 #[.val (.ref o)] [(.ref o)]))
  refine own_st (fun _ k => XS.ifnonnullYes X0.here hx rfl (pc0 := 1) (pc' := 12) rfl (hb hby own_djdk_31_method_10_code_1) rfl (by decide) (by decide) (XS.aloadN X0.here hx rfl (hb hby own_djdk_31_method_10_code_12) rfl rfl k)) ?_
  show own_Go p.tables e below RR (s₁.setTop (mkF m 13 #[.val (.ref o)] [(.ref o)]))
  obtain ⟨fs, hrt_, hrun, hended, hW, hsame⟩ := X0.leave (v := some (.ref o)) (fun h => by rw [Bd.returns] at h; cases h)
  refine own_fin (retOut X0 hx Bd.returns rfl (Or.inr (Or.inr (Or.inr (Or.inr ⟨rfl, rfl, rfl⟩)))) (hb hby own_djdk_31_method_10_code_13) hrt_) (hRR _ ⟨_, hrun, hended, _, _, rfl, ?_, ⟨_, rfl⟩, hW, hsame.mono (by decide) (by decide)⟩)
  show own_QRN Z o h0 n0 _ s₁.heap _
  rw [e0]
  exact ⟨rfl, N0, rfl⟩
theorem own_pn_java_util_Arrays : plainName "java/util/Arrays" = true := by first | (simp [plainName, overriddenIn]; done) | decide +kernel
theorem own_djdk_65_method_175_code_0 : decode jdk_65_method_175_code 0 = .ok (.aload_n 1, 1) := by decide +kernel
theorem own_pd__Ljava_lang_Object__Ljava_lang_Object_ : parseMethodDescriptor "(Ljava/lang/Object;)Ljava/lang/Object;" = some ⟨[(.object "java/lang/Object")], some (.object "java/lang/Object")⟩ := by decide +kernel
theorem own_djdk_65_method_175_code_1 : decode jdk_65_method_175_code 1 = .ok (.invokestatic 175, 3) := by decide +kernel
theorem own_djdk_65_method_175_code_4 : decode jdk_65_method_175_code 4 = .ok (.pop, 1) := by decide +kernel
theorem own_djdk_65_method_175_code_5 : decode jdk_65_method_175_code 5 = .ok (.iconst 0, 1) := by decide +kernel
theorem own_djdk_65_method_175_code_6 : decode jdk_65_method_175_code 6 = .ok (.istore_n 2, 1) := by decide +kernel
theorem own_djdk_65_method_175_code_7 : decode jdk_65_method_175_code 7 = .ok (.iload_n 2, 1) := by decide +kernel
theorem own_djdk_65_method_175_code_8 : decode jdk_65_method_175_code 8 = .ok (.aload_n 0, 1) := by decide +kernel
theorem own_djdk_65_method_175_code_9 : decode jdk_65_method_175_code 9 = .ok (.arraylength, 1) := by decide +kernel
theorem own_djdk_65_method_175_code_10 : decode jdk_65_method_175_code 10 = .ok (.if_icmp .ge 19, 3) := by decide +kernel
theorem own_djdk_65_method_175_code_13 : decode jdk_65_method_175_code 13 = .ok (.aload_n 0, 1) := by decide +kernel
theorem own_djdk_65_method_175_code_14 : decode jdk_65_method_175_code 14 = .ok (.iload_n 2, 1) := by decide +kernel
theorem own_djdk_65_method_175_code_15 : decode jdk_65_method_175_code 15 = .ok (.aload_n 1, 1) := by decide +kernel
theorem own_djdk_65_method_175_code_16 : decode jdk_65_method_175_code 16 = .ok (.iload_n 2, 1) := by decide +kernel
theorem own_pd__I_I : parseMethodDescriptor "(I)I" = some ⟨[.int], some .int⟩ := by decide +kernel
theorem own_djdk_65_method_175_code_17 : decode jdk_65_method_175_code 17 = .ok (.invokeinterface 582 2, 5) := by decide +kernel
theorem own_djdk_65_method_175_code_22 : decode jdk_65_method_175_code 22 = .ok (.iastore, 1) := by decide +kernel
theorem own_djdk_65_method_175_code_23 : decode jdk_65_method_175_code 23 = .ok (.iinc 2 1, 3) := by decide +kernel
theorem own_djdk_65_method_175_code_26 : decode jdk_65_method_175_code 26 = .ok (.goto (-19), 3) := by decide +kernel
theorem own_djdk_65_method_175_code_29 : decode jdk_65_method_175_code 29 = .ok (.return_, 1) := by decide +kernel
theorem own_efSA (m : MethodId) (o : Addr) (fa : Addr) : entryFrame m #[(.ref o), (.ref fa)] 3 = mkF m 0 #[.val (.ref o), .val (.ref fa), .unset] [] := by first | (simp [entryFrame, mkF, argsToLocals, Value.category]; done) | rfl
def own_QSA (Z : State) (o : Addr) (kc : ClassId) (cK : ClassId) (fa : Addr) (h0 : Heap) (n0 : Nat) (rv__ : Option Value) (h : Heap) (rL__ : List Loc) : Prop := rv__ = none ∧ Fr n0 rL__ ∧ Keep h0 h [o] ∧ Arv Z h o kc .int (4 : Int32) [(.int (0 : Int32)), (.int (1 : Int32)), (.int (2 : Int32)), (.int (3 : Int32))] (.int (0 : Int32))
abbrev own_RSA : Room := { frames := 2, cells := 0, slots := 0, locals := 27 }
set_option maxRecDepth 65536 in
set_option maxHeartbeats 40000000 in
theorem own_rmSA (l : Launch) (Z : State) (a0 : Array Value) (hw : ∀ d ∈ tables_1, d.before a0 Z = true) (ws : List Jvm.Cond) (o : Addr) (kc : ClassId) (cK : ClassId) (fa : Addr) (h0 : Heap) (n0 : Nat) (Z0 : n0 ≤ h0.size) (g_o : n0 ≤ o) (Va : Arv Z h0 o kc .int (4 : Int32) [(.int (0 : Int32)), (.int (0 : Int32)), (.int (0 : Int32)), (.int (0 : Int32))] (.int (0 : Int32))) :
    MetFree l (⟨"java/util/Arrays", "setAll", "([ILjava/util/function/IntUnaryOperator;)V"⟩ : MethodName) (head1 (Jvm.Cond.code (⟨"java/util/Arrays", "setAll", "([ILjava/util/function/IntUnaryOperator;)V"⟩ : MethodName) jdk_65_method_175_code 3 none :: ws) own_RSA) (fun aa__ U => aa__ = #[(.ref o), (.ref fa)] ∧ Z.Warmed39 U.vm ∧ U.heap = h0 ∧ U.lambdaAt? (⟨"com/example/saar/saar/sim/Parts", "<init>", "(I)V"⟩ : MethodName) 15 13 own_sig = some (cK, some fa)) (fun _ _ _ _ _ => True) (fun _ U oc_ U' => ∃ rv__ rL__, oc_ = .returned rv__ ∧ own_QSA Z o kc cK fa h0 n0 rv__ U'.heap rL__ ∧ FrameEnd U oc_ U' rL__ own_RSA.cells own_RSA.slots) := by
  refine MetFree.of_bodySF (plainFor_of_name own_pn_java_util_Arrays) hisR ?_
  intro p e s m args below meth c s₁ Bd hml0 hP hK
  obtain ⟨rfl, hZ, hh, hLam⟩ := hP
  have hx := Bd.exec
  have hby := Bd.bytes
  have hml : c.maxLocals = 3 := hml0
  have hown : s.vm.findClass "java/util/Arrays" = some m.cls := findClass_of_methodNamed Bd.named
  have hnm := (name_of_methodNamed Bd.named Bd.method).1
  have X0 : Stand p l e own_RSA s m #[(.ref o), (.ref fa)] below meth c s₁ [] 0 0 := Stand.of_body Bd
  have e0 : s₁.heap = h0 := by rw [← hh, Bd.state]; rfl
  have N0 := Fr.nil n0
  refine own_in (fun _ k => castTop (own_efSA m o fa) k) ?_
  intro RR hRR
  obtain ⟨hmd, hfn⟩ := own_lam hLam
  show own_Go p.tables e below RR (s₁.setTop (mkF m 0 #[.val (.ref o), .val (.ref fa), .unset] []))
  refine own_st (fun _ k => XS.aloadN X0.here hx rfl (hb hby own_djdk_65_method_175_code_0) rfl rfl k) ?_
  show own_Go p.tables e below RR (s₁.setTop (mkF m 1 #[.val (.ref o), .val (.ref fa), .unset] [(.ref fa)]))
  obtain ⟨_, _, ⟨T1, L1, k1, n1⟩, -, X1, ⟨Lc1, hQ1, l1, y1, z1⟩, st1⟩ := Jvm.LawKit.callS X0 hx (y := (⟨"java/util/Objects", "requireNonNull", "(Ljava/lang/Object;)Ljava/lang/Object;"⟩ : MethodName)) hown (mvT hZ (hw _ (List.mem_of_getElem? (i := 19) rfl))) (mvT hZ (hw _ (List.mem_of_getElem? (i := 20) rfl))) (mvT hZ (hw _ (List.mem_of_getElem? (i := 21) rfl))) (mvT hZ (hw _ (List.mem_of_getElem? (i := 22) rfl))) (by decide) (backOf (W := 0) (own_rmRN l Z a0 hw [] fa h0 n0 Z0 ) hZ (hw _ (List.mem_of_getElem? (i := 22) rfl)) (hw _ (List.mem_of_getElem? (i := 21) rfl)) (by decide) (by decide)) (g := (mkF m 1 #[.val (.ref o), .val (.ref fa), .unset] [(.ref fa)])) rfl (by rw [hml]; rfl) (argsL := [(.ref fa)]) (rest := []) (lenOf own_pd__Ljava_lang_Object__Ljava_lang_Object_ rfl) rfl (by show 2 * 0 + _ ≤ _; exact Nat.le_of_eq rfl) (hb hby own_djdk_65_method_175_code_1) (fun _ _ => ⟨rfl, e0, (by decide : 0 + 0 ≤ _), (by decide : 0 + 0 ≤ _)⟩)
  dsimp only [Pt.U, Pt.locs, Pt.cells, Pt.slots] at X1 l1 y1 z1 st1 hQ1
  subst l1 y1 z1
  obtain ⟨rfl, Nq1, eq1⟩ := hQ1
  have N1 := Fr.app N0 Nq1
  refine own_st st1 ?_
  show own_Go p.tables e below RR (T1.setTop (mkF m 4 #[.val (.ref o), .val (.ref fa), .unset] [(.ref fa)]))
  refine own_st (fun _ k => XS.pop X1.here hx rfl (hb hby own_djdk_65_method_175_code_4) rfl rfl (XS.iconst X1.here hx rfl (hb hby own_djdk_65_method_175_code_5) (XS.istoreN X1.here hx rfl (hb hby own_djdk_65_method_175_code_6) rfl (l' := #[.val (.ref o), .val (.ref fa), .val (.int (0 : Int32))]) rfl (XS.iloadN X1.here hx rfl (hb hby own_djdk_65_method_175_code_7) rfl (XS.aloadN X1.here hx rfl (hb hby own_djdk_65_method_175_code_8) rfl rfl k))))) ?_
  show own_Go p.tables e below RR (T1.setTop (mkF m 9 #[.val (.ref o), .val (.ref fa), .val (.int (0 : Int32))] [(.ref o), (.int (0 : Int32))]))
  obtain ⟨c2, A2, -, s2, m2, -, -⟩ := id Va
  refine own_st (fun _ k => own_len X1 hx hZ eq1 A2 s2 m2 (g := (mkF m 9 #[.val (.ref o), .val (.ref fa), .val (.int (0 : Int32))] [(.ref o), (.int (0 : Int32))])) rfl rfl (hb hby own_djdk_65_method_175_code_9) k) ?_
  show own_Go p.tables e below RR (T1.setTop (mkF m 10 #[.val (.ref o), .val (.ref fa), .val (.int (0 : Int32))] [(.int (4 : Int32)), (.int (0 : Int32))]))
  refine own_st (fun _ k => XS.icmpNo X1.here hx rfl (hb hby own_djdk_65_method_175_code_10) rfl (tlt (by decide)).2.1 (XS.aloadN X1.here hx rfl (hb hby own_djdk_65_method_175_code_13) rfl rfl (XS.iloadN X1.here hx rfl (hb hby own_djdk_65_method_175_code_14) rfl (XS.aloadN X1.here hx rfl (hb hby own_djdk_65_method_175_code_15) rfl rfl (XS.iloadN X1.here hx rfl (hb hby own_djdk_65_method_175_code_16) rfl k))))) ?_
  show own_Go p.tables e below RR (T1.setTop (mkF m 17 #[.val (.ref o), .val (.ref fa), .val (.int (0 : Int32))] [(.int (0 : Int32)), (.ref fa), (.int (0 : Int32)), (.ref o)]))
  show own_Go p.tables e below RR (T1.setTop (mkF m 17 #[.val (.ref o), .val (.ref fa), .val (.int (0 : Int32))] [(.int (0 : Int32)), (.ref fa), (.int (0 : Int32)), (.ref o)]))
  obtain ⟨v3, r3, t3, T3, L3, X3a, hL3, e3a, e3b, hq3, st3⟩ := Jvm.LamKit.callLamS X1 hx (own := "java/util/Arrays") (host := "com/example/saar/saar/sim/Parts") (index := 582) (count := 2) (xi := own_xi) (y := own_ly) (σ := own_sig) (own_target l (0 : Int32)) (fun _ _ _ _ h => h) rfl rfl (fun w hw' a' U hU => by rw [List.mem_singleton.mp hw']; exact word_at (args := #[]) hU (Or.inl (by first | rfl | simp [Cond.onTables, Cond.keeps, Cond.steady])) (mvT hZ (hw _ (List.mem_of_getElem? (i := 27) rfl)))) (List.mem_singleton.mpr rfl) hown (mvT hZ (hw _ (List.mem_of_getElem? (i := 23) rfl))) (mvT hZ (hw _ (List.mem_of_getElem? (i := 24) rfl))) (mvT hZ (hw _ (List.mem_of_getElem? (i := 25) rfl))) (mvT hZ (hw _ (List.mem_of_getElem? (i := 27) rfl))) (mvT hZ (hw _ (List.mem_of_getElem? (i := 26) rfl))) (mvT hZ (hw _ (List.mem_of_getElem? (i := 2) rfl))) (by decide +kernel) (by decide +kernel) (by decide) hmd (own_fnAt X1 hfn) own_fwd own_f1 own_f4 (g := (mkF m 17 #[.val (.ref o), .val (.ref fa), .val (.int (0 : Int32))] [(.int (0 : Int32)), (.ref fa), (.int (0 : Int32)), (.ref o)])) rfl (by rw [hml]; rfl) (argsL := [(.int (0 : Int32))]) (argsT := [(.int (0 : Int32))]) (rest := [(.int (0 : Int32)), (.ref o)]) (L0 := #[.val (.ref fa), .val (.int (0 : Int32))]) (lenOf own_pd__I_I rfl) (lenOf own_pd__I_I rfl) rfl (hb hby own_djdk_65_method_175_code_17) (fun _ => rfl) rfl (fun U ck bl target hU hck _ _ k => XS.iloadN hU hx rfl (hb hck own_f0) rfl k) (fun st w t h => by cases h.1; exact Or.inl ⟨.int, _, rfl, Or.inl rfl, rfl, rfl, rfl⟩) (by decide) (by show 2 * 0 + 2 + (2 + 11) + (1 + 11 + 0) ≤ _; decide) (by decide) (by decide) (fun _ _ _ => rfl)
  obtain ⟨hv3, eh3⟩ := hq3
  cases hv3
  have X3 := Stand.forget (extra := L3) X3a (fun q hq => (hL3 q hq).elim)
  have e3 := (e3a.trans eh3).trans (e3b.trans eq1)
  refine own_st st3 ?_
  show own_Go p.tables e below RR (T3.setTop (mkF m 22 #[.val (.ref o), .val (.ref fa), .val (.int (0 : Int32))] [(.int (0 : Int32)), (.int (0 : Int32)), (.ref o)]))
  obtain ⟨c4, A4, q4, s4, m4, H4, G4⟩ := id Va
  obtain ⟨T5, h5, X5, e5, W5, st5⟩ := stI X3 hx hZ e3 A4 (j := (0 : Int32)) (inb_of s4 ⟨by decide, by decide⟩) (g := (mkF m 22 #[.val (.ref o), .val (.ref fa), .val (.int (0 : Int32))] [(.int (0 : Int32)), (.int (0 : Int32)), (.ref o)])) rfl rfl (hb hby own_djdk_65_method_175_code_22)
  have V5 := Arv.set A4 q4 s4 m4 H4 G4 rfl W5 0 rfl (Nat.le_of_ble_eq_true rfl)
  have V5 : Arv Z h5 o kc .int (4 : Int32) [(.int (0 : Int32)), (.int (0 : Int32)), (.int (0 : Int32)), (.int (0 : Int32))] (.int (0 : Int32)) := V5
  have N5 := Fr.snoc X5 N1 g_o
  refine own_st st5 ?_
  have z6 : n0 ≤ h5.size := Nat.le_trans Z0 (Keep.of_wr W5).1
  have kk7 : Keep h0 h5 [o] := (Keep.refl h0 [o]).wr W5 (Or.inl (List.mem_of_getElem? (i := 0) rfl))
  show own_Go p.tables e below RR (T5.setTop (mkF m 23 #[.val (.ref o), .val (.ref fa), .val (.int (0 : Int32))] []))
  refine own_st (fun _ k => XS.iinc X5.here hx rfl (hb hby own_djdk_65_method_175_code_23) rfl (l' := #[.val (.ref o), .val (.ref fa), .val (.int (1 : Int32))]) rfl (XS.goto X5.here hx rfl (pc0 := 26) (pc' := 7) rfl (hb hby own_djdk_65_method_175_code_26) (by decide) (by decide) (XS.iloadN X5.here hx rfl (hb hby own_djdk_65_method_175_code_7) rfl (XS.aloadN X5.here hx rfl (hb hby own_djdk_65_method_175_code_8) rfl rfl k)))) ?_
  show own_Go p.tables e below RR (T5.setTop (mkF m 9 #[.val (.ref o), .val (.ref fa), .val (.int (1 : Int32))] [(.ref o), (.int (1 : Int32))]))
  obtain ⟨c8, A8, -, s8, m8, -, -⟩ := id V5
  refine own_st (fun _ k => own_len X5 hx hZ e5 A8 s8 m8 (g := (mkF m 9 #[.val (.ref o), .val (.ref fa), .val (.int (1 : Int32))] [(.ref o), (.int (1 : Int32))])) rfl rfl (hb hby own_djdk_65_method_175_code_9) k) ?_
  show own_Go p.tables e below RR (T5.setTop (mkF m 10 #[.val (.ref o), .val (.ref fa), .val (.int (1 : Int32))] [(.int (4 : Int32)), (.int (1 : Int32))]))
  refine own_st (fun _ k => XS.icmpNo X5.here hx rfl (hb hby own_djdk_65_method_175_code_10) rfl (tlt (by decide)).2.1 (XS.aloadN X5.here hx rfl (hb hby own_djdk_65_method_175_code_13) rfl rfl (XS.iloadN X5.here hx rfl (hb hby own_djdk_65_method_175_code_14) rfl (XS.aloadN X5.here hx rfl (hb hby own_djdk_65_method_175_code_15) rfl rfl (XS.iloadN X5.here hx rfl (hb hby own_djdk_65_method_175_code_16) rfl k))))) ?_
  show own_Go p.tables e below RR (T5.setTop (mkF m 17 #[.val (.ref o), .val (.ref fa), .val (.int (1 : Int32))] [(.int (1 : Int32)), (.ref fa), (.int (1 : Int32)), (.ref o)]))
  show own_Go p.tables e below RR (T5.setTop (mkF m 17 #[.val (.ref o), .val (.ref fa), .val (.int (1 : Int32))] [(.int (1 : Int32)), (.ref fa), (.int (1 : Int32)), (.ref o)]))
  obtain ⟨v9, r9, t9, T9, L9, X9a, hL9, e9a, e9b, hq9, st9⟩ := Jvm.LamKit.callLamS X5 hx (own := "java/util/Arrays") (host := "com/example/saar/saar/sim/Parts") (index := 582) (count := 2) (xi := own_xi) (y := own_ly) (σ := own_sig) (own_target l (1 : Int32)) (fun _ _ _ _ h => h) rfl rfl (fun w hw' a' U hU => by rw [List.mem_singleton.mp hw']; exact word_at (args := #[]) hU (Or.inl (by first | rfl | simp [Cond.onTables, Cond.keeps, Cond.steady])) (mvT hZ (hw _ (List.mem_of_getElem? (i := 27) rfl)))) (List.mem_singleton.mpr rfl) hown (mvT hZ (hw _ (List.mem_of_getElem? (i := 23) rfl))) (mvT hZ (hw _ (List.mem_of_getElem? (i := 24) rfl))) (mvT hZ (hw _ (List.mem_of_getElem? (i := 25) rfl))) (mvT hZ (hw _ (List.mem_of_getElem? (i := 27) rfl))) (mvT hZ (hw _ (List.mem_of_getElem? (i := 26) rfl))) (mvT hZ (hw _ (List.mem_of_getElem? (i := 2) rfl))) (by decide +kernel) (by decide +kernel) (by decide) hmd (own_fnAt X5 hfn) own_fwd own_f1 own_f4 (g := (mkF m 17 #[.val (.ref o), .val (.ref fa), .val (.int (1 : Int32))] [(.int (1 : Int32)), (.ref fa), (.int (1 : Int32)), (.ref o)])) rfl (by rw [hml]; rfl) (argsL := [(.int (1 : Int32))]) (argsT := [(.int (1 : Int32))]) (rest := [(.int (1 : Int32)), (.ref o)]) (L0 := #[.val (.ref fa), .val (.int (1 : Int32))]) (lenOf own_pd__I_I rfl) (lenOf own_pd__I_I rfl) rfl (hb hby own_djdk_65_method_175_code_17) (fun _ => rfl) rfl (fun U ck bl target hU hck _ _ k => XS.iloadN hU hx rfl (hb hck own_f0) rfl k) (fun st w t h => by cases h.1; exact Or.inl ⟨.int, _, rfl, Or.inl rfl, rfl, rfl, rfl⟩) (by decide) (by show 2 * 0 + 2 + (2 + 11) + (1 + 11 + 0) ≤ _; decide) (by decide) (by decide) (fun _ _ _ => rfl)
  obtain ⟨hv9, eh9⟩ := hq9
  cases hv9
  have X9 := Stand.forget (extra := L9) X9a (fun q hq => (hL9 q hq).elim)
  have e9 := (e9a.trans eh9).trans (e9b.trans e5)
  refine own_st st9 ?_
  show own_Go p.tables e below RR (T9.setTop (mkF m 22 #[.val (.ref o), .val (.ref fa), .val (.int (1 : Int32))] [(.int (1 : Int32)), (.int (1 : Int32)), (.ref o)]))
  obtain ⟨c10, A10, q10, s10, m10, H10, G10⟩ := id V5
  obtain ⟨T11, h11, X11, e11, W11, st11⟩ := stI X9 hx hZ e9 A10 (j := (1 : Int32)) (inb_of s10 ⟨by decide, by decide⟩) (g := (mkF m 22 #[.val (.ref o), .val (.ref fa), .val (.int (1 : Int32))] [(.int (1 : Int32)), (.int (1 : Int32)), (.ref o)])) rfl rfl (hb hby own_djdk_65_method_175_code_22)
  have V11 := Arv.set A10 q10 s10 m10 H10 G10 rfl W11 1 rfl (Nat.le_of_ble_eq_true rfl)
  have V11 : Arv Z h11 o kc .int (4 : Int32) [(.int (0 : Int32)), (.int (1 : Int32)), (.int (0 : Int32)), (.int (0 : Int32))] (.int (0 : Int32)) := V11
  have N11 := Fr.snoc X11 N5 g_o
  refine own_st st11 ?_
  have z12 : n0 ≤ h11.size := Nat.le_trans z6 (Keep.of_wr W11).1
  have kk13 : Keep h0 h11 [o] := kk7.wr W11 (Or.inl (List.mem_of_getElem? (i := 0) rfl))
  show own_Go p.tables e below RR (T11.setTop (mkF m 23 #[.val (.ref o), .val (.ref fa), .val (.int (1 : Int32))] []))
  refine own_st (fun _ k => XS.iinc X11.here hx rfl (hb hby own_djdk_65_method_175_code_23) rfl (l' := #[.val (.ref o), .val (.ref fa), .val (.int (2 : Int32))]) rfl (XS.goto X11.here hx rfl (pc0 := 26) (pc' := 7) rfl (hb hby own_djdk_65_method_175_code_26) (by decide) (by decide) (XS.iloadN X11.here hx rfl (hb hby own_djdk_65_method_175_code_7) rfl (XS.aloadN X11.here hx rfl (hb hby own_djdk_65_method_175_code_8) rfl rfl k)))) ?_
  show own_Go p.tables e below RR (T11.setTop (mkF m 9 #[.val (.ref o), .val (.ref fa), .val (.int (2 : Int32))] [(.ref o), (.int (2 : Int32))]))
  obtain ⟨c14, A14, -, s14, m14, -, -⟩ := id V11
  refine own_st (fun _ k => own_len X11 hx hZ e11 A14 s14 m14 (g := (mkF m 9 #[.val (.ref o), .val (.ref fa), .val (.int (2 : Int32))] [(.ref o), (.int (2 : Int32))])) rfl rfl (hb hby own_djdk_65_method_175_code_9) k) ?_
  show own_Go p.tables e below RR (T11.setTop (mkF m 10 #[.val (.ref o), .val (.ref fa), .val (.int (2 : Int32))] [(.int (4 : Int32)), (.int (2 : Int32))]))
  refine own_st (fun _ k => XS.icmpNo X11.here hx rfl (hb hby own_djdk_65_method_175_code_10) rfl (tlt (by decide)).2.1 (XS.aloadN X11.here hx rfl (hb hby own_djdk_65_method_175_code_13) rfl rfl (XS.iloadN X11.here hx rfl (hb hby own_djdk_65_method_175_code_14) rfl (XS.aloadN X11.here hx rfl (hb hby own_djdk_65_method_175_code_15) rfl rfl (XS.iloadN X11.here hx rfl (hb hby own_djdk_65_method_175_code_16) rfl k))))) ?_
  show own_Go p.tables e below RR (T11.setTop (mkF m 17 #[.val (.ref o), .val (.ref fa), .val (.int (2 : Int32))] [(.int (2 : Int32)), (.ref fa), (.int (2 : Int32)), (.ref o)]))
  show own_Go p.tables e below RR (T11.setTop (mkF m 17 #[.val (.ref o), .val (.ref fa), .val (.int (2 : Int32))] [(.int (2 : Int32)), (.ref fa), (.int (2 : Int32)), (.ref o)]))
  obtain ⟨v15, r15, t15, T15, L15, X15a, hL15, e15a, e15b, hq15, st15⟩ := Jvm.LamKit.callLamS X11 hx (own := "java/util/Arrays") (host := "com/example/saar/saar/sim/Parts") (index := 582) (count := 2) (xi := own_xi) (y := own_ly) (σ := own_sig) (own_target l (2 : Int32)) (fun _ _ _ _ h => h) rfl rfl (fun w hw' a' U hU => by rw [List.mem_singleton.mp hw']; exact word_at (args := #[]) hU (Or.inl (by first | rfl | simp [Cond.onTables, Cond.keeps, Cond.steady])) (mvT hZ (hw _ (List.mem_of_getElem? (i := 27) rfl)))) (List.mem_singleton.mpr rfl) hown (mvT hZ (hw _ (List.mem_of_getElem? (i := 23) rfl))) (mvT hZ (hw _ (List.mem_of_getElem? (i := 24) rfl))) (mvT hZ (hw _ (List.mem_of_getElem? (i := 25) rfl))) (mvT hZ (hw _ (List.mem_of_getElem? (i := 27) rfl))) (mvT hZ (hw _ (List.mem_of_getElem? (i := 26) rfl))) (mvT hZ (hw _ (List.mem_of_getElem? (i := 2) rfl))) (by decide +kernel) (by decide +kernel) (by decide) hmd (own_fnAt X11 hfn) own_fwd own_f1 own_f4 (g := (mkF m 17 #[.val (.ref o), .val (.ref fa), .val (.int (2 : Int32))] [(.int (2 : Int32)), (.ref fa), (.int (2 : Int32)), (.ref o)])) rfl (by rw [hml]; rfl) (argsL := [(.int (2 : Int32))]) (argsT := [(.int (2 : Int32))]) (rest := [(.int (2 : Int32)), (.ref o)]) (L0 := #[.val (.ref fa), .val (.int (2 : Int32))]) (lenOf own_pd__I_I rfl) (lenOf own_pd__I_I rfl) rfl (hb hby own_djdk_65_method_175_code_17) (fun _ => rfl) rfl (fun U ck bl target hU hck _ _ k => XS.iloadN hU hx rfl (hb hck own_f0) rfl k) (fun st w t h => by cases h.1; exact Or.inl ⟨.int, _, rfl, Or.inl rfl, rfl, rfl, rfl⟩) (by decide) (by show 2 * 0 + 2 + (2 + 11) + (1 + 11 + 0) ≤ _; decide) (by decide) (by decide) (fun _ _ _ => rfl)
  obtain ⟨hv15, eh15⟩ := hq15
  cases hv15
  have X15 := Stand.forget (extra := L15) X15a (fun q hq => (hL15 q hq).elim)
  have e15 := (e15a.trans eh15).trans (e15b.trans e11)
  refine own_st st15 ?_
  show own_Go p.tables e below RR (T15.setTop (mkF m 22 #[.val (.ref o), .val (.ref fa), .val (.int (2 : Int32))] [(.int (2 : Int32)), (.int (2 : Int32)), (.ref o)]))
  obtain ⟨c16, A16, q16, s16, m16, H16, G16⟩ := id V11
  obtain ⟨T17, h17, X17, e17, W17, st17⟩ := stI X15 hx hZ e15 A16 (j := (2 : Int32)) (inb_of s16 ⟨by decide, by decide⟩) (g := (mkF m 22 #[.val (.ref o), .val (.ref fa), .val (.int (2 : Int32))] [(.int (2 : Int32)), (.int (2 : Int32)), (.ref o)])) rfl rfl (hb hby own_djdk_65_method_175_code_22)
  have V17 := Arv.set A16 q16 s16 m16 H16 G16 rfl W17 2 rfl (Nat.le_of_ble_eq_true rfl)
  have V17 : Arv Z h17 o kc .int (4 : Int32) [(.int (0 : Int32)), (.int (1 : Int32)), (.int (2 : Int32)), (.int (0 : Int32))] (.int (0 : Int32)) := V17
  have N17 := Fr.snoc X17 N11 g_o
  refine own_st st17 ?_
  have z18 : n0 ≤ h17.size := Nat.le_trans z12 (Keep.of_wr W17).1
  have kk19 : Keep h0 h17 [o] := kk13.wr W17 (Or.inl (List.mem_of_getElem? (i := 0) rfl))
  show own_Go p.tables e below RR (T17.setTop (mkF m 23 #[.val (.ref o), .val (.ref fa), .val (.int (2 : Int32))] []))
  refine own_st (fun _ k => XS.iinc X17.here hx rfl (hb hby own_djdk_65_method_175_code_23) rfl (l' := #[.val (.ref o), .val (.ref fa), .val (.int (3 : Int32))]) rfl (XS.goto X17.here hx rfl (pc0 := 26) (pc' := 7) rfl (hb hby own_djdk_65_method_175_code_26) (by decide) (by decide) (XS.iloadN X17.here hx rfl (hb hby own_djdk_65_method_175_code_7) rfl (XS.aloadN X17.here hx rfl (hb hby own_djdk_65_method_175_code_8) rfl rfl k)))) ?_
  show own_Go p.tables e below RR (T17.setTop (mkF m 9 #[.val (.ref o), .val (.ref fa), .val (.int (3 : Int32))] [(.ref o), (.int (3 : Int32))]))
  obtain ⟨c20, A20, -, s20, m20, -, -⟩ := id V17
  refine own_st (fun _ k => own_len X17 hx hZ e17 A20 s20 m20 (g := (mkF m 9 #[.val (.ref o), .val (.ref fa), .val (.int (3 : Int32))] [(.ref o), (.int (3 : Int32))])) rfl rfl (hb hby own_djdk_65_method_175_code_9) k) ?_
  show own_Go p.tables e below RR (T17.setTop (mkF m 10 #[.val (.ref o), .val (.ref fa), .val (.int (3 : Int32))] [(.int (4 : Int32)), (.int (3 : Int32))]))
  refine own_st (fun _ k => XS.icmpNo X17.here hx rfl (hb hby own_djdk_65_method_175_code_10) rfl (tlt (by decide)).2.1 (XS.aloadN X17.here hx rfl (hb hby own_djdk_65_method_175_code_13) rfl rfl (XS.iloadN X17.here hx rfl (hb hby own_djdk_65_method_175_code_14) rfl (XS.aloadN X17.here hx rfl (hb hby own_djdk_65_method_175_code_15) rfl rfl (XS.iloadN X17.here hx rfl (hb hby own_djdk_65_method_175_code_16) rfl k))))) ?_
  show own_Go p.tables e below RR (T17.setTop (mkF m 17 #[.val (.ref o), .val (.ref fa), .val (.int (3 : Int32))] [(.int (3 : Int32)), (.ref fa), (.int (3 : Int32)), (.ref o)]))
  show own_Go p.tables e below RR (T17.setTop (mkF m 17 #[.val (.ref o), .val (.ref fa), .val (.int (3 : Int32))] [(.int (3 : Int32)), (.ref fa), (.int (3 : Int32)), (.ref o)]))
  obtain ⟨v21, r21, t21, T21, L21, X21a, hL21, e21a, e21b, hq21, st21⟩ := Jvm.LamKit.callLamS X17 hx (own := "java/util/Arrays") (host := "com/example/saar/saar/sim/Parts") (index := 582) (count := 2) (xi := own_xi) (y := own_ly) (σ := own_sig) (own_target l (3 : Int32)) (fun _ _ _ _ h => h) rfl rfl (fun w hw' a' U hU => by rw [List.mem_singleton.mp hw']; exact word_at (args := #[]) hU (Or.inl (by first | rfl | simp [Cond.onTables, Cond.keeps, Cond.steady])) (mvT hZ (hw _ (List.mem_of_getElem? (i := 27) rfl)))) (List.mem_singleton.mpr rfl) hown (mvT hZ (hw _ (List.mem_of_getElem? (i := 23) rfl))) (mvT hZ (hw _ (List.mem_of_getElem? (i := 24) rfl))) (mvT hZ (hw _ (List.mem_of_getElem? (i := 25) rfl))) (mvT hZ (hw _ (List.mem_of_getElem? (i := 27) rfl))) (mvT hZ (hw _ (List.mem_of_getElem? (i := 26) rfl))) (mvT hZ (hw _ (List.mem_of_getElem? (i := 2) rfl))) (by decide +kernel) (by decide +kernel) (by decide) hmd (own_fnAt X17 hfn) own_fwd own_f1 own_f4 (g := (mkF m 17 #[.val (.ref o), .val (.ref fa), .val (.int (3 : Int32))] [(.int (3 : Int32)), (.ref fa), (.int (3 : Int32)), (.ref o)])) rfl (by rw [hml]; rfl) (argsL := [(.int (3 : Int32))]) (argsT := [(.int (3 : Int32))]) (rest := [(.int (3 : Int32)), (.ref o)]) (L0 := #[.val (.ref fa), .val (.int (3 : Int32))]) (lenOf own_pd__I_I rfl) (lenOf own_pd__I_I rfl) rfl (hb hby own_djdk_65_method_175_code_17) (fun _ => rfl) rfl (fun U ck bl target hU hck _ _ k => XS.iloadN hU hx rfl (hb hck own_f0) rfl k) (fun st w t h => by cases h.1; exact Or.inl ⟨.int, _, rfl, Or.inl rfl, rfl, rfl, rfl⟩) (by decide) (by show 2 * 0 + 2 + (2 + 11) + (1 + 11 + 0) ≤ _; decide) (by decide) (by decide) (fun _ _ _ => rfl)
  obtain ⟨hv21, eh21⟩ := hq21
  cases hv21
  have X21 := Stand.forget (extra := L21) X21a (fun q hq => (hL21 q hq).elim)
  have e21 := (e21a.trans eh21).trans (e21b.trans e17)
  refine own_st st21 ?_
  show own_Go p.tables e below RR (T21.setTop (mkF m 22 #[.val (.ref o), .val (.ref fa), .val (.int (3 : Int32))] [(.int (3 : Int32)), (.int (3 : Int32)), (.ref o)]))
  obtain ⟨c22, A22, q22, s22, m22, H22, G22⟩ := id V17
  obtain ⟨T23, h23, X23, e23, W23, st23⟩ := stI X21 hx hZ e21 A22 (j := (3 : Int32)) (inb_of s22 ⟨by decide, by decide⟩) (g := (mkF m 22 #[.val (.ref o), .val (.ref fa), .val (.int (3 : Int32))] [(.int (3 : Int32)), (.int (3 : Int32)), (.ref o)])) rfl rfl (hb hby own_djdk_65_method_175_code_22)
  have V23 := Arv.set A22 q22 s22 m22 H22 G22 rfl W23 3 rfl (Nat.le_of_ble_eq_true rfl)
  have V23 : Arv Z h23 o kc .int (4 : Int32) [(.int (0 : Int32)), (.int (1 : Int32)), (.int (2 : Int32)), (.int (3 : Int32))] (.int (0 : Int32)) := V23
  have N23 := Fr.snoc X23 N17 g_o
  refine own_st st23 ?_
  have z24 : n0 ≤ h23.size := Nat.le_trans z18 (Keep.of_wr W23).1
  have kk25 : Keep h0 h23 [o] := kk19.wr W23 (Or.inl (List.mem_of_getElem? (i := 0) rfl))
  show own_Go p.tables e below RR (T23.setTop (mkF m 23 #[.val (.ref o), .val (.ref fa), .val (.int (3 : Int32))] []))
  refine own_st (fun _ k => XS.iinc X23.here hx rfl (hb hby own_djdk_65_method_175_code_23) rfl (l' := #[.val (.ref o), .val (.ref fa), .val (.int (4 : Int32))]) rfl (XS.goto X23.here hx rfl (pc0 := 26) (pc' := 7) rfl (hb hby own_djdk_65_method_175_code_26) (by decide) (by decide) (XS.iloadN X23.here hx rfl (hb hby own_djdk_65_method_175_code_7) rfl (XS.aloadN X23.here hx rfl (hb hby own_djdk_65_method_175_code_8) rfl rfl k)))) ?_
  show own_Go p.tables e below RR (T23.setTop (mkF m 9 #[.val (.ref o), .val (.ref fa), .val (.int (4 : Int32))] [(.ref o), (.int (4 : Int32))]))
  obtain ⟨c26, A26, -, s26, m26, -, -⟩ := id V23
  refine own_st (fun _ k => own_len X23 hx hZ e23 A26 s26 m26 (g := (mkF m 9 #[.val (.ref o), .val (.ref fa), .val (.int (4 : Int32))] [(.ref o), (.int (4 : Int32))])) rfl rfl (hb hby own_djdk_65_method_175_code_9) k) ?_
  show own_Go p.tables e below RR (T23.setTop (mkF m 10 #[.val (.ref o), .val (.ref fa), .val (.int (4 : Int32))] [(.int (4 : Int32)), (.int (4 : Int32))]))
  refine own_st (fun _ k => XS.icmpYes X23.here hx rfl (pc0 := 10) (pc' := 29) rfl (hb hby own_djdk_65_method_175_code_10) rfl (flt (by decide)).2.1 (by decide) (by decide) k) ?_
  show own_Go p.tables e below RR (T23.setTop (mkF m 29 #[.val (.ref o), .val (.ref fa), .val (.int (4 : Int32))] []))
  obtain ⟨fs, hrt_, hrun, hended, hW, hsame⟩ := X23.leave (v := none) (fun _ => rfl)
  refine own_fin (X23.returnOut hx Bd.returns (hb hby own_djdk_65_method_175_code_29) hrt_) (hRR _ ⟨_, hrun, hended, _, _, rfl, ?_, ⟨_, rfl⟩, hW, hsame.mono (by decide) (by decide)⟩)
  show own_QSA Z o kc cK fa h0 n0 _ T23.heap _
  rw [e23]
  exact ⟨rfl, N23, kk25, V23⟩
theorem own_pn_com_example_saar_saar_sim_Parts : plainName "com/example/saar/saar/sim/Parts" = true := by first | (simp [plainName, overriddenIn]; done) | decide +kernel
theorem own_dprog_63_method_1_code_0 : decode prog_63_method_1_code 0 = .ok (.aload_n 0, 1) := by decide +kernel
theorem own_dprog_63_method_1_code_1 : decode prog_63_method_1_code 1 = .ok (.invokespecial 1, 3) := by decide +kernel
theorem own_dprog_63_method_1_code_4 : decode prog_63_method_1_code 4 = .ok (.aload_n 0, 1) := by decide +kernel
theorem own_dprog_63_method_1_code_5 : decode prog_63_method_1_code 5 = .ok (.iload_n 1, 1) := by decide +kernel
theorem own_dprog_63_method_1_code_6 : decode prog_63_method_1_code 6 = .ok (.newarray .int, 2) := by decide +kernel
theorem own_dprog_63_method_1_code_8 : decode prog_63_method_1_code 8 = .ok (.putfield 7, 3) := by decide +kernel
theorem own_dprog_63_method_1_code_11 : decode prog_63_method_1_code 11 = .ok (.aload_n 0, 1) := by decide +kernel
theorem own_dprog_63_method_1_code_12 : decode prog_63_method_1_code 12 = .ok (.getfield 7, 3) := by decide +kernel
theorem own_dprog_63_method_1_code_15 : decode prog_63_method_1_code 15 = .ok (.invokedynamic 13, 5) := by decide +kernel
theorem own_pd___ILjava_util_function_IntUnaryOperator__V : parseMethodDescriptor "([ILjava/util/function/IntUnaryOperator;)V" = some ⟨[(.array .int), (.object "java/util/function/IntUnaryOperator")], none⟩ := by decide +kernel
theorem own_dprog_63_method_1_code_20 : decode prog_63_method_1_code 20 = .ok (.invokestatic 17, 3) := by decide +kernel
theorem own_dprog_63_method_1_code_23 : decode prog_63_method_1_code 23 = .ok (.return_, 1) := by decide +kernel
theorem own_efIN (m : MethodId) (o : Addr) : entryFrame m #[(.ref o), (.int (4 : Int32))] 2 = mkF m 0 #[.val (.ref o), .val (.int (4 : Int32))] [] := by first | (simp [entryFrame, mkF, argsToLocals, Value.category]; done) | rfl
def own_QIN (Z : State) (o : Addr) (cK : ClassId) (fa : Addr) (ak : Addr) (h0 : Heap) (n0 : Nat) (rv__ : Option Value) (h : Heap) (rL__ : List Loc) : Prop := rv__ = none ∧ Fr n0 rL__ ∧ Keep h0 h [o] ∧ Exa Z h o "com/example/saar/saar/sim/Parts" ∧ Fld Z h o "com/example/saar/saar/sim/Parts" "known" "[I" (.ref ak) ∧ ∃ kk : ClassId, Arv Z h ak kk .int (4 : Int32) [(.int (0 : Int32)), (.int (1 : Int32)), (.int (2 : Int32)), (.int (3 : Int32))] (.int (0 : Int32))
abbrev own_RIN : Room := { frames := 3, cells := 1, slots := 4, locals := 3073 }
set_option maxRecDepth 65536 in
set_option maxHeartbeats 40000000 in
theorem own_rmIN (l : Launch) (Z : State) (a0 : Array Value) (hw : ∀ d ∈ tables_1, d.before a0 Z = true) (ws : List Jvm.Cond) (o : Addr) (cK : ClassId) (fa : Addr) (ak : Addr) (h0 : Heap) (n0 : Nat) (Z0 : n0 ≤ h0.size) (g_o : n0 ≤ o) (hak : ak = h0.size) (E : Exa Z h0 o "com/example/saar/saar/sim/Parts") (F : Fld Z h0 o "com/example/saar/saar/sim/Parts" "known" "[I" .null) :
    MetFree l (⟨"com/example/saar/saar/sim/Parts", "<init>", "(I)V"⟩ : MethodName) (head1 (Jvm.Cond.code (⟨"com/example/saar/saar/sim/Parts", "<init>", "(I)V"⟩ : MethodName) prog_63_method_1_code 2 none :: ws) own_RIN) (fun aa__ U => aa__ = #[(.ref o), (.int (4 : Int32))] ∧ Z.Warmed39 U.vm ∧ U.heap = h0 ∧ U.lambdaAt? (⟨"com/example/saar/saar/sim/Parts", "<init>", "(I)V"⟩ : MethodName) 15 13 own_sig = some (cK, some fa)) (fun _ _ _ _ _ => True) (fun _ U oc_ U' => ∃ rv__ rL__, oc_ = .returned rv__ ∧ own_QIN Z o cK fa ak h0 n0 rv__ U'.heap rL__ ∧ FrameEnd U oc_ U' rL__ own_RIN.cells own_RIN.slots) := by
  refine MetFree.of_bodySF (plainFor_of_name own_pn_com_example_saar_saar_sim_Parts) hisR ?_
  intro p e s m args below meth c s₁ Bd hml0 hP hK
  obtain ⟨rfl, hZ, hh, hLam⟩ := hP
  have hx := Bd.exec
  have hby := Bd.bytes
  have hml : c.maxLocals = 2 := hml0
  have hown : s.vm.findClass "com/example/saar/saar/sim/Parts" = some m.cls := findClass_of_methodNamed Bd.named
  have hnm := (name_of_methodNamed Bd.named Bd.method).1
  have X0 : Stand p l e own_RIN s m #[(.ref o), (.int (4 : Int32))] below meth c s₁ [] 0 0 := Stand.of_body Bd
  have e0 : s₁.heap = h0 := by rw [← hh, Bd.state]; rfl
  have N0 := Fr.nil n0
  refine own_in (fun _ k => castTop (own_efIN m o) k) ?_
  intro RR hRR
  show own_Go p.tables e below RR (s₁.setTop (mkF m 0 #[.val (.ref o), .val (.int (4 : Int32))] []))
  refine own_st (fun _ k => XS.aloadN X0.here hx rfl (hb hby own_dprog_63_method_1_code_0) rfl rfl k) ?_
  show own_Go p.tables e below RR (s₁.setTop (mkF m 1 #[.val (.ref o), .val (.int (4 : Int32))] [(.ref o)]))
  obtain ⟨T1, X1, e1, st1⟩ := initO X0 hx hZ hown (hw _ (List.mem_of_getElem? (i := 6) rfl)) (hw _ (List.mem_of_getElem? (i := 7) rfl)) (hw _ (List.mem_of_getElem? (i := 8) rfl)) e0 (g := (mkF m 1 #[.val (.ref o), .val (.int (4 : Int32))] [(.ref o)])) rfl (by rw [hml]; rfl) rfl (hb hby own_dprog_63_method_1_code_1) (by decide) (W := 0) (by show 2 * 0 + _ ≤ _; exact Nat.le_of_eq rfl) (by decide)
  refine own_st st1 ?_
  show own_Go p.tables e below RR (T1.setTop (mkF m 4 #[.val (.ref o), .val (.int (4 : Int32))] []))
  refine own_st (fun _ k => XS.aloadN X1.here hx rfl (hb hby own_dprog_63_method_1_code_4) rfl rfl (XS.iloadN X1.here hx rfl (hb hby own_dprog_63_method_1_code_5) rfl k)) ?_
  show own_Go p.tables e below RR (T1.setTop (mkF m 6 #[.val (.ref o), .val (.int (4 : Int32))] [(.int (4 : Int32)), (.ref o)]))
  obtain ⟨T2, h2, k2, X2, e2, E2, A2, st2⟩ := newP X1 hx hZ (hw _ (List.mem_of_getElem? (i := 9) rfl)) e1 (g := (mkF m 6 #[.val (.ref o), .val (.int (4 : Int32))] [(.int (4 : Int32)), (.ref o)])) rfl (hb hby own_dprog_63_method_1_code_6) rfl (by decide) (cap := 4) (by decide) (by decide) (by decide) (by decide)
  obtain ⟨b2, gb2⟩ : ∃ z, z = h0.size := ⟨_, rfl⟩
  rw [← gb2] at A2 st2
  have ge2 : n0 ≤ b2 := Nat.le_trans Z0 (Nat.le_of_eq gb2.symm)
  have sz2 : h0.size ≤ b2 := Nat.le_trans (Keep.refl h0 [o]).1 (Nat.le_of_eq gb2.symm)
  refine own_st st2 ?_
  have z3 : n0 ≤ h2.size := Nat.le_trans Z0 E2.1
  have kk4 : Keep h0 h2 [o] := (Keep.refl h0 [o]).ext E2
  have V2 : Arv Z h2 b2 k2 .int (4 : Int32) [(.int (0 : Int32)), (.int (0 : Int32)), (.int (0 : Int32)), (.int (0 : Int32))] (.int (0 : Int32)) := (Arv.new A2 (by decide)).pad (pad_rep [] (.int (0 : Int32)) 4)
  show own_Go p.tables e below RR (T2.setTop (mkF m 8 #[.val (.ref o), .val (.int (4 : Int32))] [(.ref b2), (.ref o)]))
  show own_Go p.tables e below RR (T2.setTop (mkF m 8 #[.val (.ref o), .val (.int (4 : Int32))] [(.ref b2), (.ref o)]))
  have f5 := (F.ext E2)
  have f6 := (E.ext E2)
  obtain ⟨T7, h7, X7, e7, W7, st7⟩ := putF X2 hx hZ hown (host := "") (Or.inl (hw _ (List.mem_of_getElem? (i := 10) rfl))) Via.refl e2 f5 f6 (Or.inr ⟨(hw _ (List.mem_of_getElem? (i := 11) rfl)), rfl, hnm⟩) (hw _ (List.mem_of_getElem? (i := 1) rfl)) (ty := (.array .int)) (by decide) rfl rfl (g := (mkF m 8 #[.val (.ref o), .val (.int (4 : Int32))] [(.ref b2), (.ref o)])) rfl rfl (hb hby own_dprog_63_method_1_code_8)
  have Fw7 := f5.same W7
  have N7 := Fr.snoc X7 N0 g_o
  refine own_st st7 ?_
  have z8 : n0 ≤ h7.size := Nat.le_trans z3 (Keep.of_wr W7).1
  have kk9 : Keep h0 h7 [o] := kk4.wr W7 (Or.inl (List.mem_of_getElem? (i := 0) rfl))
  show own_Go p.tables e below RR (T7.setTop (mkF m 11 #[.val (.ref o), .val (.int (4 : Int32))] []))
  refine own_st (fun _ k => XS.aloadN X7.here hx rfl (hb hby own_dprog_63_method_1_code_11) rfl rfl k) ?_
  show own_Go p.tables e below RR (T7.setTop (mkF m 12 #[.val (.ref o), .val (.int (4 : Int32))] [(.ref o)]))
  obtain ⟨T10, X10, e10, st10⟩ := getF X7 hx hZ hown (host := "") (Or.inl (hw _ (List.mem_of_getElem? (i := 10) rfl))) Via.refl e7 Fw7 (g := (mkF m 12 #[.val (.ref o), .val (.int (4 : Int32))] [(.ref o)])) rfl rfl (hb hby own_dprog_63_method_1_code_12)
  refine own_st st10 ?_
  show own_Go p.tables e below RR (T10.setTop (mkF m 15 #[.val (.ref o), .val (.int (4 : Int32))] [(.ref b2)]))
  show own_Go p.tables e below RR (T10.setTop (mkF m 15 #[.val (.ref o), .val (.int (4 : Int32))] [(.ref b2)]))
  refine own_st (fun _ k => own_siteC X10 hx Bd.named hLam (g := (mkF m 15 #[.val (.ref o), .val (.int (4 : Int32))] [(.ref b2)])) rfl rfl (by rw [hml]; rfl) (hb hby own_dprog_63_method_1_code_15) (by show 2 * 0 + 1 + 3072 ≤ _; decide) k) ?_
  show own_Go p.tables e below RR (T10.setTop (mkF m 20 #[.val (.ref o), .val (.int (4 : Int32))] [(.ref fa), (.ref b2)]))
  have ne11 : o ≠ b2 := (Nat.ne_of_lt (Nat.lt_of_lt_of_le E.lt (Nat.le_of_eq gb2.symm)))
  have f12 := (V2.other W7 (Ne.symm ne11))
  obtain ⟨_, _, ⟨T13, L13, k13, n13⟩, -, X13, ⟨Lc13, hQ13, l13, y13, z13⟩, st13⟩ := Jvm.LawKit.callS X10 hx (y := (⟨"java/util/Arrays", "setAll", "([ILjava/util/function/IntUnaryOperator;)V"⟩ : MethodName)) hown (mvT hZ (hw _ (List.mem_of_getElem? (i := 15) rfl))) (mvT hZ (hw _ (List.mem_of_getElem? (i := 16) rfl))) (mvT hZ (hw _ (List.mem_of_getElem? (i := 17) rfl))) (mvT hZ (hw _ (List.mem_of_getElem? (i := 18) rfl))) (by decide) (own_backL (W := 0) (own_rmSA l Z a0 hw [] b2 k2 cK fa h7 n0 z8 ge2 f12) hLam hZ (hw _ (List.mem_of_getElem? (i := 18) rfl)) (hw _ (List.mem_of_getElem? (i := 17) rfl)) (by decide) (by decide)) (g := (mkF m 20 #[.val (.ref o), .val (.int (4 : Int32))] [(.ref fa), (.ref b2)])) rfl (by rw [hml]; rfl) (argsL := [(.ref b2), (.ref fa)]) (rest := []) (lenOf own_pd___ILjava_util_function_IntUnaryOperator__V rfl) rfl (by show 2 * 0 + _ ≤ _; exact Nat.le_of_eq rfl) (hb hby own_dprog_63_method_1_code_20) (fun _ _ => ⟨rfl, e10, (by decide : 1 + 0 ≤ _), (by decide : 4 + 0 ≤ _)⟩)
  dsimp only [Pt.U, Pt.locs, Pt.cells, Pt.slots] at X13 l13 y13 z13 st13 hQ13
  subst l13 y13 z13
  obtain ⟨rfl, Nq13, Kq13, Vq13⟩ := hQ13
  have N13 := Fr.app N7 Nq13
  refine own_st st13 ?_
  have z14 : n0 ≤ T13.heap.size := Nat.le_trans z8 Kq13.1
  have kk15 : Keep h0 T13.heap [o] := kk9.trans Kq13 (allS (Or.inr sz2) all0)
  show own_Go p.tables e below RR (T13.setTop (mkF m 23 #[.val (.ref o), .val (.int (4 : Int32))] []))
  obtain ⟨fs, hrt_, hrun, hended, hW, hsame⟩ := X13.leave (v := none) (fun _ => rfl)
  refine own_fin (X13.returnOut hx Bd.returns (hb hby own_dprog_63_method_1_code_23) hrt_) (hRR _ ⟨_, hrun, hended, _, _, rfl, ?_, ⟨_, rfl⟩, hW, hsame.mono (by decide) (by decide)⟩)
  show own_QIN Z o cK fa ak h0 n0 _ T13.heap _
  obtain rfl : b2 = ak := gb2.trans hak.symm
  have f16 := ((f6.wr W7).keep Kq13)
  have f17 := (Fw7.keep Kq13 (ninS ne11 nin0))
  exact ⟨rfl, N13, kk15, f16, f17, _, Vq13⟩
theorem own_dprog_63_method_3_code_0 : decode prog_63_method_3_code 0 = .ok (.iload_n 1, 1) := by decide +kernel
theorem own_dprog_63_method_3_code_1 : decode prog_63_method_3_code 1 = .ok (.istore_n 2, 1) := by decide +kernel
theorem own_dprog_63_method_3_code_2 : decode prog_63_method_3_code 2 = .ok (.aload_n 0, 1) := by decide +kernel
theorem own_dprog_63_method_3_code_3 : decode prog_63_method_3_code 3 = .ok (.getfield 7, 3) := by decide +kernel
theorem own_dprog_63_method_3_code_6 : decode prog_63_method_3_code 6 = .ok (.iload_n 2, 1) := by decide +kernel
theorem own_dprog_63_method_3_code_7 : decode prog_63_method_3_code 7 = .ok (.iaload, 1) := by decide +kernel
theorem own_dprog_63_method_3_code_8 : decode prog_63_method_3_code 8 = .ok (.iload_n 2, 1) := by decide +kernel
theorem own_dprog_63_method_3_code_9 : decode prog_63_method_3_code 9 = .ok (.if_icmp .eq 30, 3) := by decide +kernel
theorem own_dprog_63_method_3_code_39 : decode prog_63_method_3_code 39 = .ok (.iload_n 2, 1) := by decide +kernel
theorem own_dprog_63_method_3_code_40 : decode prog_63_method_3_code 40 = .ok (.ireturn, 1) := by decide +kernel
theorem own_dprog_63_method_3_code_12 : decode prog_63_method_3_code 12 = .ok (.aload_n 0, 1) := by decide +kernel
theorem own_dprog_63_method_3_code_13 : decode prog_63_method_3_code 13 = .ok (.getfield 7, 3) := by decide +kernel
theorem own_dprog_63_method_3_code_16 : decode prog_63_method_3_code 16 = .ok (.iload_n 2, 1) := by decide +kernel
theorem own_dprog_63_method_3_code_17 : decode prog_63_method_3_code 17 = .ok (.aload_n 0, 1) := by decide +kernel
theorem own_dprog_63_method_3_code_18 : decode prog_63_method_3_code 18 = .ok (.getfield 7, 3) := by decide +kernel
theorem own_dprog_63_method_3_code_21 : decode prog_63_method_3_code 21 = .ok (.aload_n 0, 1) := by decide +kernel
theorem own_dprog_63_method_3_code_22 : decode prog_63_method_3_code 22 = .ok (.getfield 7, 3) := by decide +kernel
theorem own_dprog_63_method_3_code_25 : decode prog_63_method_3_code 25 = .ok (.iload_n 2, 1) := by decide +kernel
theorem own_dprog_63_method_3_code_26 : decode prog_63_method_3_code 26 = .ok (.iaload, 1) := by decide +kernel
theorem own_dprog_63_method_3_code_27 : decode prog_63_method_3_code 27 = .ok (.iaload, 1) := by decide +kernel
theorem own_dprog_63_method_3_code_28 : decode prog_63_method_3_code 28 = .ok (.iastore, 1) := by decide +kernel
theorem own_dprog_63_method_3_code_29 : decode prog_63_method_3_code 29 = .ok (.aload_n 0, 1) := by decide +kernel
theorem own_dprog_63_method_3_code_30 : decode prog_63_method_3_code 30 = .ok (.getfield 7, 3) := by decide +kernel
theorem own_dprog_63_method_3_code_33 : decode prog_63_method_3_code 33 = .ok (.iload_n 2, 1) := by decide +kernel
theorem own_dprog_63_method_3_code_34 : decode prog_63_method_3_code 34 = .ok (.iaload, 1) := by decide +kernel
theorem own_dprog_63_method_3_code_35 : decode prog_63_method_3_code 35 = .ok (.istore_n 2, 1) := by decide +kernel
theorem own_dprog_63_method_3_code_36 : decode prog_63_method_3_code 36 = .ok (.goto (-34), 3) := by decide +kernel
theorem own_efOF (m : MethodId) (o : Addr) : entryFrame m #[(.ref o), (.int (Int32.ofNat i))] 3 = mkF m 0 #[.val (.ref o), .val (.int (Int32.ofNat i)), .unset] [] := by first | (simp [entryFrame, mkF, argsToLocals, Value.category]; done) | rfl
def own_QOF (Z : State) (o : Addr) (ak : Addr) (kk : ClassId) (P : List Nat) (lab : List Nat) (d : Nat → Nat) (i : Nat) (h0 : Heap) (n0 : Nat) (rv__ : Option Value) (h : Heap) (rL__ : List Loc) : Prop := rv__ = some (.int (Int32.ofNat (lab.getD i 0))) ∧ Fr n0 rL__ ∧ Keep h0 h [ak] ∧ ∃ P' : List Nat, own_Inv 4 P' lab d ∧ Arv Z h ak kk .int (4 : Int32) (P'.map own_vi) (.int (0 : Int32))
abbrev own_ROF : Room := { frames := 0, cells := 0, slots := 0, locals := 0 }
set_option maxRecDepth 65536 in
set_option maxHeartbeats 40000000 in
theorem own_rmOF (l : Launch) (Z : State) (a0 : Array Value) (hw : ∀ d ∈ tables_1, d.before a0 Z = true) (ws : List Jvm.Cond) (o : Addr) (ak : Addr) (kk : ClassId) (P : List Nat) (lab : List Nat) (d : Nat → Nat) (i : Nat) (h0 : Heap) (n0 : Nat) (Z0 : n0 ≤ h0.size) (Fk : Fld Z h0 o "com/example/saar/saar/sim/Parts" "known" "[I" (.ref ak)) (Ak : Arv Z h0 ak kk .int (4 : Int32) (P.map own_vi) (.int (0 : Int32))) (nk : o ≠ ak) (g_k : n0 ≤ ak) (I : own_Inv 4 P lab d) (hi : i < 4) :
    MetFree l (⟨"com/example/saar/saar/sim/Parts", "of", "(I)I"⟩ : MethodName) (head1 (Jvm.Cond.code (⟨"com/example/saar/saar/sim/Parts", "of", "(I)I"⟩ : MethodName) prog_63_method_3_code 3 (some .int) :: ws) own_ROF) (fun aa__ U => aa__ = #[(.ref o), (.int (Int32.ofNat i))] ∧ Z.Warmed39 U.vm ∧ U.heap = h0) (fun _ _ _ _ _ => True) (fun _ U oc_ U' => ∃ rv__ rL__, oc_ = .returned rv__ ∧ own_QOF Z o ak kk P lab d i h0 n0 rv__ U'.heap rL__ ∧ FrameEnd U oc_ U' rL__ own_ROF.cells own_ROF.slots) := by
  refine MetFree.of_bodySF (plainFor_of_name own_pn_com_example_saar_saar_sim_Parts) hisR ?_
  intro p e s m args below meth c s₁ Bd hml0 hP hK
  obtain ⟨rfl, hZ, hh⟩ := hP
  have hx := Bd.exec
  have hby := Bd.bytes
  have hml : c.maxLocals = 3 := hml0
  have hown : s.vm.findClass "com/example/saar/saar/sim/Parts" = some m.cls := findClass_of_methodNamed Bd.named
  have hnm := (name_of_methodNamed Bd.named Bd.method).1
  have X0 : Stand p l e own_ROF s m #[(.ref o), (.int (Int32.ofNat i))] below meth c s₁ [] 0 0 := Stand.of_body Bd
  have e0 : s₁.heap = h0 := by rw [← hh, Bd.state]; rfl
  have N0 := Fr.nil n0
  refine own_in (fun _ k => castTop (own_efOF m o) k) ?_
  intro RR hRR
  show own_Go p.tables e below RR (s₁.setTop (mkF m 0 #[.val (.ref o), .val (.int (Int32.ofNat i)), .unset] []))
  refine own_st (fun _ k => XS.iloadN X0.here hx rfl (hb hby own_dprog_63_method_3_code_0) rfl (XS.istoreN X0.here hx rfl (hb hby own_dprog_63_method_3_code_1) rfl (l' := #[.val (.ref o), .val (.int (Int32.ofNat i)), .val (.int (Int32.ofNat i))]) rfl k)) ?_
  show own_Go p.tables e below RR (s₁.setTop (mkF m 2 #[.val (.ref o), .val (.int (Int32.ofNat i)), .val (.int (Int32.ofNat i))] []))
  have loop1 : ∀ (k : Nat) (T1 : State) (lo1 : List Loc) (hh2 : Heap) (P2 : List Nat) (k2 : Nat) (X1 : Stand p l e own_ROF s m #[(.ref o), (.int (Int32.ofNat i))] below meth c T1 lo1 0 0) (e1 : T1.heap = hh2) (N1 : Fr n0 lo1) (K2 : Keep h0 hh2 [ak]) (A2 : Arv Z hh2 ak kk .int (4 : Int32) (P2.map own_vi) (.int (0 : Int32))) (I2 : own_Inv 4 P2 lab d) (hk2 : k2 < 4) (hl2 : lab.getD k2 0 = lab.getD i 0) (_ : d k2 = k), own_Go p.tables e below RR (T1.setTop (mkF m 2 #[.val (.ref o), .val (.int (Int32.ofNat i)), .val (.int (Int32.ofNat k2))] [])) := by
    intro k
    induction k using Nat.strongRecOn with
    | _ k ih =>
      intro T1 lo1 hh2 P2 k2 X1 e1 N1 K2 A2 I2 hk2 hl2 hk
      have z2 : n0 ≤ hh2.size := Nat.le_trans Z0 K2.1
      show own_Go p.tables e below RR (T1.setTop (mkF m 2 #[.val (.ref o), .val (.int (Int32.ofNat i)), .val (.int (Int32.ofNat k2))] []))
      refine own_st (fun _ k => XS.aloadN X1.here hx rfl (hb hby own_dprog_63_method_3_code_2) rfl rfl k) ?_
      show own_Go p.tables e below RR (T1.setTop (mkF m 3 #[.val (.ref o), .val (.int (Int32.ofNat i)), .val (.int (Int32.ofNat k2))] [(.ref o)]))
      have f3 := (Fk.keep K2 (ninS nk nin0))
      obtain ⟨T4, X4, e4, st4⟩ := getF X1 hx hZ hown (host := "") (Or.inl (hw _ (List.mem_of_getElem? (i := 10) rfl))) Via.refl e1 f3 (g := (mkF m 3 #[.val (.ref o), .val (.int (Int32.ofNat i)), .val (.int (Int32.ofNat k2))] [(.ref o)])) rfl rfl (hb hby own_dprog_63_method_3_code_3)
      refine own_st st4 ?_
      show own_Go p.tables e below RR (T4.setTop (mkF m 6 #[.val (.ref o), .val (.int (Int32.ofNat i)), .val (.int (Int32.ofNat k2))] [(.ref ak)]))
      refine own_st (fun _ k => XS.iloadN X4.here hx rfl (hb hby own_dprog_63_method_3_code_6) rfl k) ?_
      show own_Go p.tables e below RR (T4.setTop (mkF m 7 #[.val (.ref o), .val (.int (Int32.ofNat i)), .val (.int (Int32.ofNat k2))] [(.int (Int32.ofNat k2)), (.ref ak)]))
      obtain ⟨c5, A5, q5, s5, m5, H5, G5⟩ := id A2
      have b5 := inb_of (j := (Int32.ofNat k2)) s5 (own_nin (i := k2) hk2 (by decide))
      refine own_st (fun _ k => X4.iaload hx (j := (Int32.ofNat k2)) (v := (.int (Int32.ofNat (P2.getD k2 0)))) (by rw [e4]; exact A5.1) (State.isArrayOf_alike hZ.alike A5.2.1) A5.2.2 b5 (Has.at H5 b5 (own_get (n := 4) I2.1 hk2 (by decide))) (g := (mkF m 7 #[.val (.ref o), .val (.int (Int32.ofNat i)), .val (.int (Int32.ofNat k2))] [(.int (Int32.ofNat k2)), (.ref ak)])) rfl rfl (hb hby own_dprog_63_method_3_code_7) _ (XS.iloadN X4.here hx rfl (hb hby own_dprog_63_method_3_code_8) rfl k)) ?_
      show own_Go p.tables e below RR (T4.setTop (mkF m 9 #[.val (.ref o), .val (.int (Int32.ofNat i)), .val (.int (Int32.ofNat k2))] [(.int (Int32.ofNat k2)), (.int (Int32.ofNat (P2.getD k2 0)))]))
      by_cases hc9_6 : (Int32.ofNat (P2.getD k2 0)) = (Int32.ofNat k2)
      · refine own_st (fun _ k => XS.icmpYes X4.here hx rfl (pc0 := 9) (pc' := 39) rfl (hb hby own_dprog_63_method_3_code_9) rfl (teq hc9_6).1 (by decide) (by decide) (XS.iloadN X4.here hx rfl (hb hby own_dprog_63_method_3_code_39) rfl k)) ?_
        show own_Go p.tables e below RR (T4.setTop (mkF m 40 #[.val (.ref o), .val (.int (Int32.ofNat i)), .val (.int (Int32.ofNat k2))] [(.int (Int32.ofNat k2))]))
        obtain ⟨fs, hrt_, hrun, hended, hW, hsame⟩ := X4.leave (v := some (.int (Int32.ofNat k2))) (fun h => by rw [Bd.returns] at h; cases h)
        refine own_fin (retI X4 hx Bd.returns (hb hby own_dprog_63_method_3_code_40) hrt_) (hRR _ ⟨_, hrun, hended, _, _, rfl, ?_, ⟨_, rfl⟩, hW, hsame.mono (by decide) (by decide)⟩)
        show own_QOF Z o ak kk P lab d i h0 n0 _ T4.heap _
        rw [e4]
        exact ⟨own_ri ((by have q := own_inj (by have := (I2.2.2 k2 hk2).1; omega) (by omega) hc9_6; rw [← hl2, (I2.2.2 k2 hk2).2.2.2.2 q])), N1, K2, P2, I2, A2⟩
      · refine own_st (fun _ k => XS.icmpNo X4.here hx rfl (hb hby own_dprog_63_method_3_code_9) rfl (feq hc9_6).1 (XS.aloadN X4.here hx rfl (hb hby own_dprog_63_method_3_code_12) rfl rfl k)) ?_
        show own_Go p.tables e below RR (T4.setTop (mkF m 13 #[.val (.ref o), .val (.int (Int32.ofNat i)), .val (.int (Int32.ofNat k2))] [(.ref o)]))
        obtain ⟨T7, X7, e7, st7⟩ := getF X4 hx hZ hown (host := "") (Or.inl (hw _ (List.mem_of_getElem? (i := 10) rfl))) Via.refl e4 f3 (g := (mkF m 13 #[.val (.ref o), .val (.int (Int32.ofNat i)), .val (.int (Int32.ofNat k2))] [(.ref o)])) rfl rfl (hb hby own_dprog_63_method_3_code_13)
        refine own_st st7 ?_
        show own_Go p.tables e below RR (T7.setTop (mkF m 16 #[.val (.ref o), .val (.int (Int32.ofNat i)), .val (.int (Int32.ofNat k2))] [(.ref ak)]))
        refine own_st (fun _ k => XS.iloadN X7.here hx rfl (hb hby own_dprog_63_method_3_code_16) rfl (XS.aloadN X7.here hx rfl (hb hby own_dprog_63_method_3_code_17) rfl rfl k)) ?_
        show own_Go p.tables e below RR (T7.setTop (mkF m 18 #[.val (.ref o), .val (.int (Int32.ofNat i)), .val (.int (Int32.ofNat k2))] [(.ref o), (.int (Int32.ofNat k2)), (.ref ak)]))
        obtain ⟨T8, X8, e8, st8⟩ := getF X7 hx hZ hown (host := "") (Or.inl (hw _ (List.mem_of_getElem? (i := 10) rfl))) Via.refl e7 f3 (g := (mkF m 18 #[.val (.ref o), .val (.int (Int32.ofNat i)), .val (.int (Int32.ofNat k2))] [(.ref o), (.int (Int32.ofNat k2)), (.ref ak)])) rfl rfl (hb hby own_dprog_63_method_3_code_18)
        refine own_st st8 ?_
        show own_Go p.tables e below RR (T8.setTop (mkF m 21 #[.val (.ref o), .val (.int (Int32.ofNat i)), .val (.int (Int32.ofNat k2))] [(.ref ak), (.int (Int32.ofNat k2)), (.ref ak)]))
        refine own_st (fun _ k => XS.aloadN X8.here hx rfl (hb hby own_dprog_63_method_3_code_21) rfl rfl k) ?_
        show own_Go p.tables e below RR (T8.setTop (mkF m 22 #[.val (.ref o), .val (.int (Int32.ofNat i)), .val (.int (Int32.ofNat k2))] [(.ref o), (.ref ak), (.int (Int32.ofNat k2)), (.ref ak)]))
        obtain ⟨T9, X9, e9, st9⟩ := getF X8 hx hZ hown (host := "") (Or.inl (hw _ (List.mem_of_getElem? (i := 10) rfl))) Via.refl e8 f3 (g := (mkF m 22 #[.val (.ref o), .val (.int (Int32.ofNat i)), .val (.int (Int32.ofNat k2))] [(.ref o), (.ref ak), (.int (Int32.ofNat k2)), (.ref ak)])) rfl rfl (hb hby own_dprog_63_method_3_code_22)
        refine own_st st9 ?_
        show own_Go p.tables e below RR (T9.setTop (mkF m 25 #[.val (.ref o), .val (.int (Int32.ofNat i)), .val (.int (Int32.ofNat k2))] [(.ref ak), (.ref ak), (.int (Int32.ofNat k2)), (.ref ak)]))
        refine own_st (fun _ k => XS.iloadN X9.here hx rfl (hb hby own_dprog_63_method_3_code_25) rfl k) ?_
        show own_Go p.tables e below RR (T9.setTop (mkF m 26 #[.val (.ref o), .val (.int (Int32.ofNat i)), .val (.int (Int32.ofNat k2))] [(.int (Int32.ofNat k2)), (.ref ak), (.ref ak), (.int (Int32.ofNat k2)), (.ref ak)]))
        obtain ⟨c10, A10, q10, s10, m10, H10, G10⟩ := id A2
        have b10 := inb_of (j := (Int32.ofNat k2)) s10 (own_nin (i := k2) hk2 (by decide))
        refine own_st (fun _ k => X9.iaload hx (j := (Int32.ofNat k2)) (v := (.int (Int32.ofNat (P2.getD k2 0)))) (by rw [e9]; exact A10.1) (State.isArrayOf_alike hZ.alike A10.2.1) A10.2.2 b10 (Has.at H10 b10 (own_get (n := 4) I2.1 hk2 (by decide))) (g := (mkF m 26 #[.val (.ref o), .val (.int (Int32.ofNat i)), .val (.int (Int32.ofNat k2))] [(.int (Int32.ofNat k2)), (.ref ak), (.ref ak), (.int (Int32.ofNat k2)), (.ref ak)])) rfl rfl (hb hby own_dprog_63_method_3_code_26) _ k) ?_
        show own_Go p.tables e below RR (T9.setTop (mkF m 27 #[.val (.ref o), .val (.int (Int32.ofNat i)), .val (.int (Int32.ofNat k2))] [(.int (Int32.ofNat (P2.getD k2 0))), (.ref ak), (.int (Int32.ofNat k2)), (.ref ak)]))
        obtain ⟨c11, A11, q11, s11, m11, H11, G11⟩ := id A2
        have b11 := inb_of (j := (Int32.ofNat (P2.getD k2 0))) s11 (own_nin (n := 4) (I2.2.2 k2 hk2).1 (by decide))
        refine own_st (fun _ k => X9.iaload hx (j := (Int32.ofNat (P2.getD k2 0))) (v := (.int (Int32.ofNat (P2.getD (P2.getD k2 0) 0)))) (by rw [e9]; exact A11.1) (State.isArrayOf_alike hZ.alike A11.2.1) A11.2.2 b11 (Has.at H11 b11 (own_get (n := 4) I2.1 (I2.2.2 k2 hk2).1 (by decide))) (g := (mkF m 27 #[.val (.ref o), .val (.int (Int32.ofNat i)), .val (.int (Int32.ofNat k2))] [(.int (Int32.ofNat (P2.getD k2 0))), (.ref ak), (.int (Int32.ofNat k2)), (.ref ak)])) rfl rfl (hb hby own_dprog_63_method_3_code_27) _ k) ?_
        show own_Go p.tables e below RR (T9.setTop (mkF m 28 #[.val (.ref o), .val (.int (Int32.ofNat i)), .val (.int (Int32.ofNat k2))] [(.int (Int32.ofNat (P2.getD (P2.getD k2 0) 0))), (.int (Int32.ofNat k2)), (.ref ak)]))
        obtain ⟨c12, A12, q12, s12, m12, H12, G12⟩ := id A2
        obtain ⟨T13, h13, X13, e13, W13, st13⟩ := stI X9 hx hZ e9 A12 (j := (Int32.ofNat k2)) (inb_of s12 (own_nin (i := k2) hk2 (by decide))) (g := (mkF m 28 #[.val (.ref o), .val (.int (Int32.ofNat i)), .val (.int (Int32.ofNat k2))] [(.int (Int32.ofNat (P2.getD (P2.getD k2 0) 0))), (.int (Int32.ofNat k2)), (.ref ak)])) rfl rfl (hb hby own_dprog_63_method_3_code_28)
        have U13 := Arv.set A12 q12 s12 m12 H12 G12 rfl W13 k2 (own_nc (Nat.lt_of_lt_of_le hk2 (by decide))) (by rw [List.length_map, I2.1]; exact hk2)
        have V13 : Arv Z h13 ak kk .int (4 : Int32) ((P2.set k2 (P2.getD (P2.getD k2 0) 0)).map own_vi) (.int (0 : Int32)) := by rw [own_ms]; exact U13
        have N13 := Fr.snoc X13 N1 g_k
        refine own_st st13 ?_
        have z14 : n0 ≤ h13.size := Nat.le_trans z2 (Keep.of_wr W13).1
        show own_Go p.tables e below RR (T13.setTop (mkF m 29 #[.val (.ref o), .val (.int (Int32.ofNat i)), .val (.int (Int32.ofNat k2))] []))
        refine own_st (fun _ k => XS.aloadN X13.here hx rfl (hb hby own_dprog_63_method_3_code_29) rfl rfl k) ?_
        show own_Go p.tables e below RR (T13.setTop (mkF m 30 #[.val (.ref o), .val (.int (Int32.ofNat i)), .val (.int (Int32.ofNat k2))] [(.ref o)]))
        have f15 := (f3.other W13 (Or.inl nk))
        obtain ⟨T16, X16, e16, st16⟩ := getF X13 hx hZ hown (host := "") (Or.inl (hw _ (List.mem_of_getElem? (i := 10) rfl))) Via.refl e13 f15 (g := (mkF m 30 #[.val (.ref o), .val (.int (Int32.ofNat i)), .val (.int (Int32.ofNat k2))] [(.ref o)])) rfl rfl (hb hby own_dprog_63_method_3_code_30)
        refine own_st st16 ?_
        show own_Go p.tables e below RR (T16.setTop (mkF m 33 #[.val (.ref o), .val (.int (Int32.ofNat i)), .val (.int (Int32.ofNat k2))] [(.ref ak)]))
        refine own_st (fun _ k => XS.iloadN X16.here hx rfl (hb hby own_dprog_63_method_3_code_33) rfl k) ?_
        show own_Go p.tables e below RR (T16.setTop (mkF m 34 #[.val (.ref o), .val (.int (Int32.ofNat i)), .val (.int (Int32.ofNat k2))] [(.int (Int32.ofNat k2)), (.ref ak)]))
        obtain ⟨c17, A17, q17, s17, m17, H17, G17⟩ := id V13
        have b17 := inb_of (j := (Int32.ofNat k2)) s17 (own_nin (i := k2) hk2 (by decide))
        refine own_st (fun _ k => X16.iaload hx (j := (Int32.ofNat k2)) (v := (.int (Int32.ofNat (P2.getD (P2.getD k2 0) 0)))) (by rw [e16]; exact A17.1) (State.isArrayOf_alike hZ.alike A17.2.1) A17.2.2 b17 (Has.at H17 b17 (by rw [own_get (n := 4) (P := P2.set k2 (P2.getD (P2.getD k2 0) 0)) (by rw [List.length_set]; exact I2.1) hk2 (by decide), own_gs (by rw [I2.1]; exact hk2), if_pos rfl])) (g := (mkF m 34 #[.val (.ref o), .val (.int (Int32.ofNat i)), .val (.int (Int32.ofNat k2))] [(.int (Int32.ofNat k2)), (.ref ak)])) rfl rfl (hb hby own_dprog_63_method_3_code_34) _ (XS.istoreN X16.here hx rfl (hb hby own_dprog_63_method_3_code_35) rfl (l' := #[.val (.ref o), .val (.int (Int32.ofNat i)), .val (.int (Int32.ofNat (P2.getD (P2.getD k2 0) 0)))]) rfl (XS.goto X16.here hx rfl (pc0 := 36) (pc' := 2) rfl (hb hby own_dprog_63_method_3_code_36) (by decide) (by decide) k))) ?_
        show own_Go p.tables e below RR (T16.setTop (mkF m 2 #[.val (.ref o), .val (.int (Int32.ofNat i)), .val (.int (Int32.ofNat (P2.getD (P2.getD k2 0) 0)))] []))
        have tt18 := own_turn I2 hk2 (fun q => hc9_6 (by rw [q]))
        exact ih _ (hk ▸ tt18.2.2.1) T16 _ h13 (P2.set k2 (P2.getD (P2.getD k2 0) 0)) (P2.getD (P2.getD k2 0) 0) X16 e16 N13 (K2.wr W13 (Or.inl (List.mem_of_getElem? (i := 0) rfl))) V13 tt18.1 tt18.2.1 (tt18.2.2.2.trans hl2) rfl
  exact loop1 _ s₁ _ h0 P i X0 e0 N0 (Keep.refl h0 [ak]) Ak I hi rfl rfl
theorem own_dprog_63_method_2_code_0 : decode prog_63_method_2_code 0 = .ok (.aload_n 0, 1) := by decide +kernel
theorem own_dprog_63_method_2_code_1 : decode prog_63_method_2_code 1 = .ok (.iload_n 1, 1) := by decide +kernel
theorem own_dprog_63_method_2_code_2 : decode prog_63_method_2_code 2 = .ok (.invokevirtual 23, 3) := by decide +kernel
theorem own_dprog_63_method_2_code_5 : decode prog_63_method_2_code 5 = .ok (.istore_n 3, 1) := by decide +kernel
theorem own_dprog_63_method_2_code_6 : decode prog_63_method_2_code 6 = .ok (.aload_n 0, 1) := by decide +kernel
theorem own_dprog_63_method_2_code_7 : decode prog_63_method_2_code 7 = .ok (.iload_n 2, 1) := by decide +kernel
theorem own_dprog_63_method_2_code_8 : decode prog_63_method_2_code 8 = .ok (.invokevirtual 23, 3) := by decide +kernel
theorem own_dprog_63_method_2_code_11 : decode prog_63_method_2_code 11 = .ok (.istore 4, 2) := by decide +kernel
theorem own_dprog_63_method_2_code_13 : decode prog_63_method_2_code 13 = .ok (.aload_n 0, 1) := by decide +kernel
theorem own_dprog_63_method_2_code_14 : decode prog_63_method_2_code 14 = .ok (.getfield 7, 3) := by decide +kernel
theorem own_dprog_63_method_2_code_17 : decode prog_63_method_2_code 17 = .ok (.iload_n 3, 1) := by decide +kernel
theorem own_dprog_63_method_2_code_18 : decode prog_63_method_2_code 18 = .ok (.iload 4, 2) := by decide +kernel
theorem own_dprog_63_method_2_code_20 : decode prog_63_method_2_code 20 = .ok (.iastore, 1) := by decide +kernel
theorem own_dprog_63_method_2_code_21 : decode prog_63_method_2_code 21 = .ok (.iload_n 3, 1) := by decide +kernel
theorem own_dprog_63_method_2_code_22 : decode prog_63_method_2_code 22 = .ok (.iload 4, 2) := by decide +kernel
theorem own_dprog_63_method_2_code_24 : decode prog_63_method_2_code 24 = .ok (.if_icmp .eq 7, 3) := by decide +kernel
theorem own_dprog_63_method_2_code_31 : decode prog_63_method_2_code 31 = .ok (.iconst 0, 1) := by decide +kernel
theorem own_dprog_63_method_2_code_32 : decode prog_63_method_2_code 32 = .ok (.ireturn, 1) := by decide +kernel
theorem own_dprog_63_method_2_code_27 : decode prog_63_method_2_code 27 = .ok (.iconst 1, 1) := by decide +kernel
theorem own_dprog_63_method_2_code_28 : decode prog_63_method_2_code 28 = .ok (.goto 4, 3) := by decide +kernel
theorem own_efJN (m : MethodId) (o : Addr) : entryFrame m #[(.ref o), (.int (Int32.ofNat i)), (.int (Int32.ofNat j))] 5 = mkF m 0 #[.val (.ref o), .val (.int (Int32.ofNat i)), .val (.int (Int32.ofNat j)), .unset, .unset] [] := by first | (simp [entryFrame, mkF, argsToLocals, Value.category]; done) | rfl
def own_QJN (Z : State) (o : Addr) (ak : Addr) (kk : ClassId) (P : List Nat) (lab : List Nat) (d : Nat → Nat) (i : Nat) (j : Nat) (h0 : Heap) (n0 : Nat) (rv__ : Option Value) (h : Heap) (rL__ : List Loc) : Prop := rv__ = some (.int (own_nq (lab.getD i 0) (lab.getD j 0))) ∧ Fr n0 rL__ ∧ Keep h0 h [ak] ∧ ∃ (P' : List Nat) (d' : Nat → Nat), own_Inv 4 P' (lab.map (own_r (lab.getD i 0) (lab.getD j 0))) d' ∧ Arv Z h ak kk .int (4 : Int32) (P'.map own_vi) (.int (0 : Int32))
abbrev own_RJN : Room := { frames := 1, cells := 0, slots := 0, locals := 14 }
set_option maxRecDepth 65536 in
set_option maxHeartbeats 40000000 in
theorem own_rmJN (l : Launch) (Z : State) (a0 : Array Value) (hw : ∀ d ∈ tables_1, d.before a0 Z = true) (ws : List Jvm.Cond) (o : Addr) (ak : Addr) (kk : ClassId) (P : List Nat) (lab : List Nat) (d : Nat → Nat) (i : Nat) (j : Nat) (h0 : Heap) (n0 : Nat) (Z0 : n0 ≤ h0.size) (E : Exa Z h0 o "com/example/saar/saar/sim/Parts") (Fk : Fld Z h0 o "com/example/saar/saar/sim/Parts" "known" "[I" (.ref ak)) (Ak : Arv Z h0 ak kk .int (4 : Int32) (P.map own_vi) (.int (0 : Int32))) (nk : o ≠ ak) (g_k : n0 ≤ ak) (I : own_Inv 4 P lab d) (hi : i < 4) (hj : j < 4) :
    MetFree l (⟨"com/example/saar/saar/sim/Parts", "join", "(II)Z"⟩ : MethodName) (head1 (Jvm.Cond.code (⟨"com/example/saar/saar/sim/Parts", "join", "(II)Z"⟩ : MethodName) prog_63_method_2_code 5 (some .boolean) :: ws) own_RJN) (fun aa__ U => aa__ = #[(.ref o), (.int (Int32.ofNat i)), (.int (Int32.ofNat j))] ∧ Z.Warmed39 U.vm ∧ U.heap = h0) (fun _ _ _ _ _ => True) (fun _ U oc_ U' => ∃ rv__ rL__, oc_ = .returned rv__ ∧ own_QJN Z o ak kk P lab d i j h0 n0 rv__ U'.heap rL__ ∧ FrameEnd U oc_ U' rL__ own_RJN.cells own_RJN.slots) := by
  refine MetFree.of_bodySF (plainFor_of_name own_pn_com_example_saar_saar_sim_Parts) hisR ?_
  intro p e s m args below meth c s₁ Bd hml0 hP hK
  obtain ⟨rfl, hZ, hh⟩ := hP
  have hx := Bd.exec
  have hby := Bd.bytes
  have hml : c.maxLocals = 5 := hml0
  have hown : s.vm.findClass "com/example/saar/saar/sim/Parts" = some m.cls := findClass_of_methodNamed Bd.named
  have hnm := (name_of_methodNamed Bd.named Bd.method).1
  have X0 : Stand p l e own_RJN s m #[(.ref o), (.int (Int32.ofNat i)), (.int (Int32.ofNat j))] below meth c s₁ [] 0 0 := Stand.of_body Bd
  have e0 : s₁.heap = h0 := by rw [← hh, Bd.state]; rfl
  have N0 := Fr.nil n0
  refine own_in (fun _ k => castTop (own_efJN m o) k) ?_
  intro RR hRR
  show own_Go p.tables e below RR (s₁.setTop (mkF m 0 #[.val (.ref o), .val (.int (Int32.ofNat i)), .val (.int (Int32.ofNat j)), .unset, .unset] []))
  refine own_st (fun _ k => XS.aloadN X0.here hx rfl (hb hby own_dprog_63_method_2_code_0) rfl rfl (XS.iloadN X0.here hx rfl (hb hby own_dprog_63_method_2_code_1) rfl k)) ?_
  show own_Go p.tables e below RR (s₁.setTop (mkF m 2 #[.val (.ref o), .val (.int (Int32.ofNat i)), .val (.int (Int32.ofNat j)), .unset, .unset] [(.int (Int32.ofNat i)), (.ref o)]))
  obtain ⟨cq1, kq1, q1a, q1b, q1c⟩ := isOf hZ e0 E
  obtain ⟨_, _, ⟨T1, L1, k1, n1⟩, -, X1, ⟨Lc1, hQ1, l1, y1, z1⟩, st1⟩ := X0.virtualBack hx (y := (⟨"com/example/saar/saar/sim/Parts", "of", "(I)I"⟩ : MethodName)) (z := (⟨"com/example/saar/saar/sim/Parts", "of", "(I)I"⟩ : MethodName)) hown (mvT hZ (hw _ (List.mem_of_getElem? (i := 37) rfl))) (mvT hZ (hw _ (List.mem_of_getElem? (i := 38) rfl))) (notFace_of_selects (args := #[]) (mvT hZ (hw _ (List.mem_of_getElem? (i := 40) rfl)))) (mvT hZ (hw _ (List.mem_of_getElem? (i := 40) rfl))) (mvT hZ (hw _ (List.mem_of_getElem? (i := 39) rfl))) (by decide) (backOf (W := 0) (own_rmOF l Z a0 hw [] o ak kk P lab d i h0 n0 Z0 Fk Ak nk g_k I hi) hZ (hw _ (List.mem_of_getElem? (i := 41) rfl)) (hw _ (List.mem_of_getElem? (i := 2) rfl)) (by decide) (by decide)) q1a q1c (g := (mkF m 2 #[.val (.ref o), .val (.int (Int32.ofNat i)), .val (.int (Int32.ofNat j)), .unset, .unset] [(.int (Int32.ofNat i)), (.ref o)])) rfl (by rw [hml]; rfl) (Steps.refl _) (argsL := [(.int (Int32.ofNat i))]) (rest := []) (lenOf own_pd__I_I rfl) rfl (by show 2 * 0 + _ ≤ _; exact Nat.le_of_eq rfl) (hb hby own_dprog_63_method_2_code_2) (fun _ _ => ⟨rfl, e0, (by decide : 0 + 0 ≤ _), (by decide : 0 + 0 ≤ _)⟩)
  dsimp only [Pt.U, Pt.locs, Pt.cells, Pt.slots] at X1 l1 y1 z1 st1 hQ1
  subst l1 y1 z1
  obtain ⟨rfl, Nq1, Kq1, Pq1, Iq1, Vq1⟩ := hQ1
  have N1 := Fr.app N0 Nq1
  refine own_st (fun _ k => st1.trans k) ?_
  have z2 : n0 ≤ T1.heap.size := Nat.le_trans Z0 Kq1.1
  have kk3 : Keep h0 T1.heap [ak] := (Keep.refl h0 [ak]).trans Kq1 (allS (Or.inl (List.mem_of_getElem? (i := 0) rfl)) all0)
  show own_Go p.tables e below RR (T1.setTop (mkF m 5 #[.val (.ref o), .val (.int (Int32.ofNat i)), .val (.int (Int32.ofNat j)), .unset, .unset] [(.int (Int32.ofNat (lab.getD i 0)))]))
  refine own_st (fun _ k => XS.istoreN X1.here hx rfl (hb hby own_dprog_63_method_2_code_5) rfl (l' := #[.val (.ref o), .val (.int (Int32.ofNat i)), .val (.int (Int32.ofNat j)), .val (.int (Int32.ofNat (lab.getD i 0))), .unset]) rfl (XS.aloadN X1.here hx rfl (hb hby own_dprog_63_method_2_code_6) rfl rfl (XS.iloadN X1.here hx rfl (hb hby own_dprog_63_method_2_code_7) rfl k))) ?_
  show own_Go p.tables e below RR (T1.setTop (mkF m 8 #[.val (.ref o), .val (.int (Int32.ofNat i)), .val (.int (Int32.ofNat j)), .val (.int (Int32.ofNat (lab.getD i 0))), .unset] [(.int (Int32.ofNat j)), (.ref o)]))
  have f4 := (Fk.keep Kq1 (ninS nk nin0))
  have f6 := (E.keep Kq1)
  obtain ⟨cq5, kq5, q5a, q5b, q5c⟩ := isOf hZ rfl f6
  obtain ⟨_, _, ⟨T5, L5, k5, n5⟩, -, X5, ⟨Lc5, hQ5, l5, y5, z5⟩, st5⟩ := X1.virtualBack hx (y := (⟨"com/example/saar/saar/sim/Parts", "of", "(I)I"⟩ : MethodName)) (z := (⟨"com/example/saar/saar/sim/Parts", "of", "(I)I"⟩ : MethodName)) hown (mvT hZ (hw _ (List.mem_of_getElem? (i := 37) rfl))) (mvT hZ (hw _ (List.mem_of_getElem? (i := 38) rfl))) (notFace_of_selects (args := #[]) (mvT hZ (hw _ (List.mem_of_getElem? (i := 40) rfl)))) (mvT hZ (hw _ (List.mem_of_getElem? (i := 40) rfl))) (mvT hZ (hw _ (List.mem_of_getElem? (i := 39) rfl))) (by decide) (backOf (W := 0) (own_rmOF l Z a0 hw [] o ak kk Pq1 lab d j T1.heap n0 z2 f4 Vq1 nk g_k Iq1 hj) hZ (hw _ (List.mem_of_getElem? (i := 41) rfl)) (hw _ (List.mem_of_getElem? (i := 2) rfl)) (by decide) (by decide)) q5a q5c (g := (mkF m 8 #[.val (.ref o), .val (.int (Int32.ofNat i)), .val (.int (Int32.ofNat j)), .val (.int (Int32.ofNat (lab.getD i 0))), .unset] [(.int (Int32.ofNat j)), (.ref o)])) rfl (by rw [hml]; rfl) (Steps.refl _) (argsL := [(.int (Int32.ofNat j))]) (rest := []) (lenOf own_pd__I_I rfl) rfl (by show 2 * 0 + _ ≤ _; exact Nat.le_of_eq rfl) (hb hby own_dprog_63_method_2_code_8) (fun _ _ => ⟨rfl, rfl, (by decide : 0 + 0 ≤ _), (by decide : 0 + 0 ≤ _)⟩)
  dsimp only [Pt.U, Pt.locs, Pt.cells, Pt.slots] at X5 l5 y5 z5 st5 hQ5
  subst l5 y5 z5
  obtain ⟨rfl, Nq5, Kq5, Pq5, Iq5, Vq5⟩ := hQ5
  have N5 := Fr.app N1 Nq5
  refine own_st (fun _ k => st5.trans k) ?_
  have z7 : n0 ≤ T5.heap.size := Nat.le_trans z2 Kq5.1
  have kk8 : Keep h0 T5.heap [ak] := kk3.trans Kq5 (allS (Or.inl (List.mem_of_getElem? (i := 0) rfl)) all0)
  show own_Go p.tables e below RR (T5.setTop (mkF m 11 #[.val (.ref o), .val (.int (Int32.ofNat i)), .val (.int (Int32.ofNat j)), .val (.int (Int32.ofNat (lab.getD i 0))), .unset] [(.int (Int32.ofNat (lab.getD j 0)))]))
  refine own_st (fun _ k => XS.istore X5.here hx rfl (hb hby own_dprog_63_method_2_code_11) rfl (l' := #[.val (.ref o), .val (.int (Int32.ofNat i)), .val (.int (Int32.ofNat j)), .val (.int (Int32.ofNat (lab.getD i 0))), .val (.int (Int32.ofNat (lab.getD j 0)))]) rfl (XS.aloadN X5.here hx rfl (hb hby own_dprog_63_method_2_code_13) rfl rfl k)) ?_
  show own_Go p.tables e below RR (T5.setTop (mkF m 14 #[.val (.ref o), .val (.int (Int32.ofNat i)), .val (.int (Int32.ofNat j)), .val (.int (Int32.ofNat (lab.getD i 0))), .val (.int (Int32.ofNat (lab.getD j 0)))] [(.ref o)]))
  have f9 := (f4.keep Kq5 (ninS nk nin0))
  obtain ⟨T10, X10, e10, st10⟩ := getF X5 hx hZ hown (host := "") (Or.inl (hw _ (List.mem_of_getElem? (i := 10) rfl))) Via.refl rfl f9 (g := (mkF m 14 #[.val (.ref o), .val (.int (Int32.ofNat i)), .val (.int (Int32.ofNat j)), .val (.int (Int32.ofNat (lab.getD i 0))), .val (.int (Int32.ofNat (lab.getD j 0)))] [(.ref o)])) rfl rfl (hb hby own_dprog_63_method_2_code_14)
  refine own_st st10 ?_
  show own_Go p.tables e below RR (T10.setTop (mkF m 17 #[.val (.ref o), .val (.int (Int32.ofNat i)), .val (.int (Int32.ofNat j)), .val (.int (Int32.ofNat (lab.getD i 0))), .val (.int (Int32.ofNat (lab.getD j 0)))] [(.ref ak)]))
  refine own_st (fun _ k => XS.iloadN X10.here hx rfl (hb hby own_dprog_63_method_2_code_17) rfl (XS.iload X10.here hx rfl (hb hby own_dprog_63_method_2_code_18) rfl k)) ?_
  show own_Go p.tables e below RR (T10.setTop (mkF m 20 #[.val (.ref o), .val (.int (Int32.ofNat i)), .val (.int (Int32.ofNat j)), .val (.int (Int32.ofNat (lab.getD i 0))), .val (.int (Int32.ofNat (lab.getD j 0)))] [(.int (Int32.ofNat (lab.getD j 0))), (.int (Int32.ofNat (lab.getD i 0))), (.ref ak)]))
  obtain ⟨c11, A11, q11, s11, m11, H11, G11⟩ := id Vq5
  obtain ⟨T12, h12, X12, e12, W12, st12⟩ := stI X10 hx hZ e10 A11 (j := (Int32.ofNat (lab.getD i 0))) (inb_of s11 (own_nin (n := 4) (own_rootl I hi).1 (by decide))) (g := (mkF m 20 #[.val (.ref o), .val (.int (Int32.ofNat i)), .val (.int (Int32.ofNat j)), .val (.int (Int32.ofNat (lab.getD i 0))), .val (.int (Int32.ofNat (lab.getD j 0)))] [(.int (Int32.ofNat (lab.getD j 0))), (.int (Int32.ofNat (lab.getD i 0))), (.ref ak)])) rfl rfl (hb hby own_dprog_63_method_2_code_20)
  have R12 := own_rootl Iq5 hi
  have U12 := Arv.set A11 q11 s11 m11 H11 G11 rfl W12 (lab.getD i 0) (own_nc (Nat.lt_of_lt_of_le R12.1 (by decide))) (by rw [List.length_map, Iq5.1]; exact R12.1)
  have V12 : Arv Z h12 ak kk .int (4 : Int32) ((Pq5.set (lab.getD i 0) (lab.getD j 0)).map own_vi) (.int (0 : Int32)) := by rw [own_ms]; exact U12
  have N12 := Fr.snoc X12 N5 g_k
  refine own_st st12 ?_
  have z13 : n0 ≤ h12.size := Nat.le_trans z7 (Keep.of_wr W12).1
  have kk14 : Keep h0 h12 [ak] := kk8.wr W12 (Or.inl (List.mem_of_getElem? (i := 0) rfl))
  show own_Go p.tables e below RR (T12.setTop (mkF m 21 #[.val (.ref o), .val (.int (Int32.ofNat i)), .val (.int (Int32.ofNat j)), .val (.int (Int32.ofNat (lab.getD i 0))), .val (.int (Int32.ofNat (lab.getD j 0)))] []))
  refine own_st (fun _ k => XS.iloadN X12.here hx rfl (hb hby own_dprog_63_method_2_code_21) rfl (XS.iload X12.here hx rfl (hb hby own_dprog_63_method_2_code_22) rfl k)) ?_
  show own_Go p.tables e below RR (T12.setTop (mkF m 24 #[.val (.ref o), .val (.int (Int32.ofNat i)), .val (.int (Int32.ofNat j)), .val (.int (Int32.ofNat (lab.getD i 0))), .val (.int (Int32.ofNat (lab.getD j 0)))] [(.int (Int32.ofNat (lab.getD j 0))), (.int (Int32.ofNat (lab.getD i 0)))]))
  by_cases hc24_15 : (Int32.ofNat (lab.getD i 0)) = (Int32.ofNat (lab.getD j 0))
  · refine own_st (fun _ k => XS.icmpYes X12.here hx rfl (pc0 := 24) (pc' := 31) rfl (hb hby own_dprog_63_method_2_code_24) rfl (teq hc24_15).1 (by decide) (by decide) (XS.iconst X12.here hx rfl (hb hby own_dprog_63_method_2_code_31) k)) ?_
    show own_Go p.tables e below RR (T12.setTop (mkF m 32 #[.val (.ref o), .val (.int (Int32.ofNat i)), .val (.int (Int32.ofNat j)), .val (.int (Int32.ofNat (lab.getD i 0))), .val (.int (Int32.ofNat (lab.getD j 0)))] [(.int (0 : Int32))]))
    obtain ⟨fs, hrt_, hrun, hended, hW, hsame⟩ := X12.leave (v := some (.int (0 : Int32))) (fun h => by rw [Bd.returns] at h; cases h)
    refine own_fin (retN X12 hx (t := .boolean) Bd.returns (by simp) (hb hby own_dprog_63_method_2_code_32) hrt_) (hRR _ ⟨_, hrun, hended, _, _, rfl, ?_, ⟨_, rfl⟩, hW, hsame.mono (by decide) (by decide)⟩)
    show own_QJN Z o ak kk P lab d i j h0 n0 _ T12.heap _
    rw [e12]
    exact ⟨own_ri ((own_nqy (by have := (own_rootl I hi).1; omega) (by have := (own_rootl I hj).1; omega) hc24_15).symm), N12, kk14, _, _, (own_join Iq5 (own_rootl I hi).1 (own_rootl I hj).1 (own_rootl Iq5 hi).2.1 (own_rootl Iq5 hj).2.1).choose_spec, V12⟩
  · refine own_st (fun _ k => XS.icmpNo X12.here hx rfl (hb hby own_dprog_63_method_2_code_24) rfl (feq hc24_15).1 (XS.iconst X12.here hx rfl (hb hby own_dprog_63_method_2_code_27) (XS.goto X12.here hx rfl (pc0 := 28) (pc' := 32) rfl (hb hby own_dprog_63_method_2_code_28) (by decide) (by decide) k))) ?_
    show own_Go p.tables e below RR (T12.setTop (mkF m 32 #[.val (.ref o), .val (.int (Int32.ofNat i)), .val (.int (Int32.ofNat j)), .val (.int (Int32.ofNat (lab.getD i 0))), .val (.int (Int32.ofNat (lab.getD j 0)))] [(.int (1 : Int32))]))
    obtain ⟨fs, hrt_, hrun, hended, hW, hsame⟩ := X12.leave (v := some (.int (1 : Int32))) (fun h => by rw [Bd.returns] at h; cases h)
    refine own_fin (retN X12 hx (t := .boolean) Bd.returns (by simp) (hb hby own_dprog_63_method_2_code_32) hrt_) (hRR _ ⟨_, hrun, hended, _, _, rfl, ?_, ⟨_, rfl⟩, hW, hsame.mono (by decide) (by decide)⟩)
    show own_QJN Z o ak kk P lab d i j h0 n0 _ T12.heap _
    rw [e12]
    exact ⟨own_ri ((own_nqn hc24_15).symm), N12, kk14, _, _, (own_join Iq5 (own_rootl I hi).1 (own_rootl I hj).1 (own_rootl Iq5 hi).2.1 (own_rootl Iq5 hj).2.1).choose_spec, V12⟩
theorem own_pn_com_example_saar_saar_sim_PartsOfPinLaw : plainName "com/example/saar/saar/sim/PartsOfPinLaw" = true := by first | (simp [plainName, overriddenIn]; done) | decide +kernel
theorem own_dmethod_4_code_0 : decode method_4_code 0 = .ok (.aload_n 0, 1) := by decide +kernel
theorem own_dmethod_4_code_1 : decode method_4_code 1 = .ok (.iconst 0, 1) := by decide +kernel
theorem own_dmethod_4_code_2 : decode method_4_code 2 = .ok (.iaload, 1) := by decide +kernel
theorem own_dmethod_4_code_3 : decode method_4_code 3 = .ok (.iload_n 1, 1) := by decide +kernel
theorem own_dmethod_4_code_4 : decode method_4_code 4 = .ok (.if_icmp .ne 7, 3) := by decide +kernel
theorem own_dmethod_4_code_7 : decode method_4_code 7 = .ok (.aload_n 0, 1) := by decide +kernel
theorem own_dmethod_4_code_8 : decode method_4_code 8 = .ok (.iconst 0, 1) := by decide +kernel
theorem own_dmethod_4_code_9 : decode method_4_code 9 = .ok (.iload_n 2, 1) := by decide +kernel
theorem own_dmethod_4_code_10 : decode method_4_code 10 = .ok (.iastore, 1) := by decide +kernel
theorem own_dmethod_4_code_11 : decode method_4_code 11 = .ok (.aload_n 0, 1) := by decide +kernel
theorem own_dmethod_4_code_12 : decode method_4_code 12 = .ok (.iconst 1, 1) := by decide +kernel
theorem own_dmethod_4_code_13 : decode method_4_code 13 = .ok (.iaload, 1) := by decide +kernel
theorem own_dmethod_4_code_14 : decode method_4_code 14 = .ok (.iload_n 1, 1) := by decide +kernel
theorem own_dmethod_4_code_15 : decode method_4_code 15 = .ok (.if_icmp .ne 7, 3) := by decide +kernel
theorem own_dmethod_4_code_18 : decode method_4_code 18 = .ok (.aload_n 0, 1) := by decide +kernel
theorem own_dmethod_4_code_19 : decode method_4_code 19 = .ok (.iconst 1, 1) := by decide +kernel
theorem own_dmethod_4_code_20 : decode method_4_code 20 = .ok (.iload_n 2, 1) := by decide +kernel
theorem own_dmethod_4_code_21 : decode method_4_code 21 = .ok (.iastore, 1) := by decide +kernel
theorem own_dmethod_4_code_22 : decode method_4_code 22 = .ok (.aload_n 0, 1) := by decide +kernel
theorem own_dmethod_4_code_23 : decode method_4_code 23 = .ok (.iconst 2, 1) := by decide +kernel
theorem own_dmethod_4_code_24 : decode method_4_code 24 = .ok (.iaload, 1) := by decide +kernel
theorem own_dmethod_4_code_25 : decode method_4_code 25 = .ok (.iload_n 1, 1) := by decide +kernel
theorem own_dmethod_4_code_26 : decode method_4_code 26 = .ok (.if_icmp .ne 7, 3) := by decide +kernel
theorem own_dmethod_4_code_29 : decode method_4_code 29 = .ok (.aload_n 0, 1) := by decide +kernel
theorem own_dmethod_4_code_30 : decode method_4_code 30 = .ok (.iconst 2, 1) := by decide +kernel
theorem own_dmethod_4_code_31 : decode method_4_code 31 = .ok (.iload_n 2, 1) := by decide +kernel
theorem own_dmethod_4_code_32 : decode method_4_code 32 = .ok (.iastore, 1) := by decide +kernel
theorem own_dmethod_4_code_33 : decode method_4_code 33 = .ok (.aload_n 0, 1) := by decide +kernel
theorem own_dmethod_4_code_34 : decode method_4_code 34 = .ok (.iconst 3, 1) := by decide +kernel
theorem own_dmethod_4_code_35 : decode method_4_code 35 = .ok (.iaload, 1) := by decide +kernel
theorem own_dmethod_4_code_36 : decode method_4_code 36 = .ok (.iload_n 1, 1) := by decide +kernel
theorem own_dmethod_4_code_37 : decode method_4_code 37 = .ok (.if_icmp .ne 7, 3) := by decide +kernel
theorem own_dmethod_4_code_40 : decode method_4_code 40 = .ok (.aload_n 0, 1) := by decide +kernel
theorem own_dmethod_4_code_41 : decode method_4_code 41 = .ok (.iconst 3, 1) := by decide +kernel
theorem own_dmethod_4_code_42 : decode method_4_code 42 = .ok (.iload_n 2, 1) := by decide +kernel
theorem own_dmethod_4_code_43 : decode method_4_code 43 = .ok (.iastore, 1) := by decide +kernel
theorem own_dmethod_4_code_44 : decode method_4_code 44 = .ok (.return_, 1) := by decide +kernel
theorem own_efRL (m : MethodId) (al : Addr) : entryFrame m #[(.ref al), (.int (Int32.ofNat a)), (.int (Int32.ofNat b))] 3 = mkF m 0 #[.val (.ref al), .val (.int (Int32.ofNat a)), .val (.int (Int32.ofNat b))] [] := by first | (simp [entryFrame, mkF, argsToLocals, Value.category]; done) | rfl
def own_QRL (Z : State) (al : Addr) (kl : ClassId) (a : Nat) (b : Nat) (l0 : Nat) (l1 : Nat) (l2 : Nat) (l3 : Nat) (h0 : Heap) (n0 : Nat) (rv__ : Option Value) (h : Heap) (rL__ : List Loc) : Prop := rv__ = none ∧ Fr n0 rL__ ∧ Keep h0 h [al] ∧ Arv Z h al kl .int (4 : Int32) [(.int (Int32.ofNat (own_r a b l0))), (.int (Int32.ofNat (own_r a b l1))), (.int (Int32.ofNat (own_r a b l2))), (.int (Int32.ofNat (own_r a b l3)))] (.int (0 : Int32))
abbrev own_RRL : Room := { frames := 0, cells := 0, slots := 0, locals := 0 }
set_option maxRecDepth 65536 in
set_option maxHeartbeats 40000000 in
theorem own_rmRL (l : Launch) (Z : State) (a0 : Array Value) (hw : ∀ d ∈ tables_1, d.before a0 Z = true) (ws : List Jvm.Cond) (al : Addr) (kl : ClassId) (a : Nat) (b : Nat) (l0 : Nat) (l1 : Nat) (l2 : Nat) (l3 : Nat) (h0 : Heap) (n0 : Nat) (Z0 : n0 ≤ h0.size) (g_l : n0 ≤ al) (Al : Arv Z h0 al kl .int (4 : Int32) [(.int (Int32.ofNat l0)), (.int (Int32.ofNat l1)), (.int (Int32.ofNat l2)), (.int (Int32.ofNat l3))] (.int (0 : Int32))) (ha : a < 4) (hl0 : l0 < 4) (hl1 : l1 < 4) (hl2 : l2 < 4) (hl3 : l3 < 4) :
    MetFree l (⟨"com/example/saar/saar/sim/PartsOfPinLaw", "relabel", "([III)V"⟩ : MethodName) (head1 (Jvm.Cond.code (⟨"com/example/saar/saar/sim/PartsOfPinLaw", "relabel", "([III)V"⟩ : MethodName) method_4_code 3 none :: ws) own_RRL) (fun aa__ U => aa__ = #[(.ref al), (.int (Int32.ofNat a)), (.int (Int32.ofNat b))] ∧ Z.Warmed39 U.vm ∧ U.heap = h0) (fun _ _ _ _ _ => True) (fun _ U oc_ U' => ∃ rv__ rL__, oc_ = .returned rv__ ∧ own_QRL Z al kl a b l0 l1 l2 l3 h0 n0 rv__ U'.heap rL__ ∧ FrameEnd U oc_ U' rL__ own_RRL.cells own_RRL.slots) := by
  refine MetFree.of_bodySF (plainFor_of_name own_pn_com_example_saar_saar_sim_PartsOfPinLaw) hisR ?_
  intro p e s m args below meth c s₁ Bd hml0 hP hK
  obtain ⟨rfl, hZ, hh⟩ := hP
  have hx := Bd.exec
  have hby := Bd.bytes
  have hml : c.maxLocals = 3 := hml0
  have hown : s.vm.findClass "com/example/saar/saar/sim/PartsOfPinLaw" = some m.cls := findClass_of_methodNamed Bd.named
  have hnm := (name_of_methodNamed Bd.named Bd.method).1
  have X0 : Stand p l e own_RRL s m #[(.ref al), (.int (Int32.ofNat a)), (.int (Int32.ofNat b))] below meth c s₁ [] 0 0 := Stand.of_body Bd
  have e0 : s₁.heap = h0 := by rw [← hh, Bd.state]; rfl
  have N0 := Fr.nil n0
  refine own_in (fun _ k => castTop (own_efRL m al) k) ?_
  intro RR hRR
  show own_Go p.tables e below RR (s₁.setTop (mkF m 0 #[.val (.ref al), .val (.int (Int32.ofNat a)), .val (.int (Int32.ofNat b))] []))
  refine own_st (fun _ k => XS.aloadN X0.here hx rfl (hb hby own_dmethod_4_code_0) rfl rfl (XS.iconst X0.here hx rfl (hb hby own_dmethod_4_code_1) k)) ?_
  show own_Go p.tables e below RR (s₁.setTop (mkF m 2 #[.val (.ref al), .val (.int (Int32.ofNat a)), .val (.int (Int32.ofNat b))] [(.int (0 : Int32)), (.ref al)]))
  obtain ⟨c1, A1, q1, s1, m1, H1, G1⟩ := id Al
  have b1 := inb_of (j := (0 : Int32)) s1 ⟨by decide, by decide⟩
  refine own_st (fun _ k => X0.iaload hx (j := (0 : Int32)) (v := (.int (Int32.ofNat l0))) (by rw [e0]; exact A1.1) (State.isArrayOf_alike hZ.alike A1.2.1) A1.2.2 b1 (Has.at H1 b1 rfl) (g := (mkF m 2 #[.val (.ref al), .val (.int (Int32.ofNat a)), .val (.int (Int32.ofNat b))] [(.int (0 : Int32)), (.ref al)])) rfl rfl (hb hby own_dmethod_4_code_2) _ (XS.iloadN X0.here hx rfl (hb hby own_dmethod_4_code_3) rfl k)) ?_
  show own_Go p.tables e below RR (s₁.setTop (mkF m 4 #[.val (.ref al), .val (.int (Int32.ofNat a)), .val (.int (Int32.ofNat b))] [(.int (Int32.ofNat a)), (.int (Int32.ofNat l0))]))
  by_cases hc4_2 : (Int32.ofNat l0) = (Int32.ofNat a)
  · refine own_st (fun _ k => XS.icmpNo X0.here hx rfl (hb hby own_dmethod_4_code_4) rfl (teq hc4_2).2 (XS.aloadN X0.here hx rfl (hb hby own_dmethod_4_code_7) rfl rfl (XS.iconst X0.here hx rfl (hb hby own_dmethod_4_code_8) (XS.iloadN X0.here hx rfl (hb hby own_dmethod_4_code_9) rfl k)))) ?_
    show own_Go p.tables e below RR (s₁.setTop (mkF m 10 #[.val (.ref al), .val (.int (Int32.ofNat a)), .val (.int (Int32.ofNat b))] [(.int (Int32.ofNat b)), (.int (0 : Int32)), (.ref al)]))
    obtain ⟨c3, A3, q3, s3, m3, H3, G3⟩ := id Al
    obtain ⟨T4, h4, X4, e4, W4, st4⟩ := stI X0 hx hZ e0 A3 (j := (0 : Int32)) (inb_of s3 ⟨by decide, by decide⟩) (g := (mkF m 10 #[.val (.ref al), .val (.int (Int32.ofNat a)), .val (.int (Int32.ofNat b))] [(.int (Int32.ofNat b)), (.int (0 : Int32)), (.ref al)])) rfl rfl (hb hby own_dmethod_4_code_10)
    have V4 := Arv.set A3 q3 s3 m3 H3 G3 rfl W4 0 rfl (Nat.le_of_ble_eq_true rfl)
    have V4 : Arv Z h4 al kl .int (4 : Int32) [(.int (Int32.ofNat b)), (.int (Int32.ofNat l1)), (.int (Int32.ofNat l2)), (.int (Int32.ofNat l3))] (.int (0 : Int32)) := V4
    have N4 := Fr.snoc X4 N0 g_l
    refine own_st st4 ?_
    have z5 : n0 ≤ h4.size := Nat.le_trans Z0 (Keep.of_wr W4).1
    have kk6 : Keep h0 h4 [al] := (Keep.refl h0 [al]).wr W4 (Or.inl (List.mem_of_getElem? (i := 0) rfl))
    show own_Go p.tables e below RR (T4.setTop (mkF m 11 #[.val (.ref al), .val (.int (Int32.ofNat a)), .val (.int (Int32.ofNat b))] []))
    refine own_st (fun _ k => XS.aloadN X4.here hx rfl (hb hby own_dmethod_4_code_11) rfl rfl (XS.iconst X4.here hx rfl (hb hby own_dmethod_4_code_12) k)) ?_
    show own_Go p.tables e below RR (T4.setTop (mkF m 13 #[.val (.ref al), .val (.int (Int32.ofNat a)), .val (.int (Int32.ofNat b))] [(.int (1 : Int32)), (.ref al)]))
    obtain ⟨c7, A7, q7, s7, m7, H7, G7⟩ := id V4
    have b7 := inb_of (j := (1 : Int32)) s7 ⟨by decide, by decide⟩
    refine own_st (fun _ k => X4.iaload hx (j := (1 : Int32)) (v := (.int (Int32.ofNat l1))) (by rw [e4]; exact A7.1) (State.isArrayOf_alike hZ.alike A7.2.1) A7.2.2 b7 (Has.at H7 b7 rfl) (g := (mkF m 13 #[.val (.ref al), .val (.int (Int32.ofNat a)), .val (.int (Int32.ofNat b))] [(.int (1 : Int32)), (.ref al)])) rfl rfl (hb hby own_dmethod_4_code_13) _ (XS.iloadN X4.here hx rfl (hb hby own_dmethod_4_code_14) rfl k)) ?_
    show own_Go p.tables e below RR (T4.setTop (mkF m 15 #[.val (.ref al), .val (.int (Int32.ofNat a)), .val (.int (Int32.ofNat b))] [(.int (Int32.ofNat a)), (.int (Int32.ofNat l1))]))
    by_cases hc15_8 : (Int32.ofNat l1) = (Int32.ofNat a)
    · refine own_st (fun _ k => XS.icmpNo X4.here hx rfl (hb hby own_dmethod_4_code_15) rfl (teq hc15_8).2 (XS.aloadN X4.here hx rfl (hb hby own_dmethod_4_code_18) rfl rfl (XS.iconst X4.here hx rfl (hb hby own_dmethod_4_code_19) (XS.iloadN X4.here hx rfl (hb hby own_dmethod_4_code_20) rfl k)))) ?_
      show own_Go p.tables e below RR (T4.setTop (mkF m 21 #[.val (.ref al), .val (.int (Int32.ofNat a)), .val (.int (Int32.ofNat b))] [(.int (Int32.ofNat b)), (.int (1 : Int32)), (.ref al)]))
      obtain ⟨c9, A9, q9, s9, m9, H9, G9⟩ := id V4
      obtain ⟨T10, h10, X10, e10, W10, st10⟩ := stI X4 hx hZ e4 A9 (j := (1 : Int32)) (inb_of s9 ⟨by decide, by decide⟩) (g := (mkF m 21 #[.val (.ref al), .val (.int (Int32.ofNat a)), .val (.int (Int32.ofNat b))] [(.int (Int32.ofNat b)), (.int (1 : Int32)), (.ref al)])) rfl rfl (hb hby own_dmethod_4_code_21)
      have V10 := Arv.set A9 q9 s9 m9 H9 G9 rfl W10 1 rfl (Nat.le_of_ble_eq_true rfl)
      have V10 : Arv Z h10 al kl .int (4 : Int32) [(.int (Int32.ofNat b)), (.int (Int32.ofNat b)), (.int (Int32.ofNat l2)), (.int (Int32.ofNat l3))] (.int (0 : Int32)) := V10
      have N10 := Fr.snoc X10 N4 g_l
      refine own_st st10 ?_
      have z11 : n0 ≤ h10.size := Nat.le_trans z5 (Keep.of_wr W10).1
      have kk12 : Keep h0 h10 [al] := kk6.wr W10 (Or.inl (List.mem_of_getElem? (i := 0) rfl))
      show own_Go p.tables e below RR (T10.setTop (mkF m 22 #[.val (.ref al), .val (.int (Int32.ofNat a)), .val (.int (Int32.ofNat b))] []))
      refine own_st (fun _ k => XS.aloadN X10.here hx rfl (hb hby own_dmethod_4_code_22) rfl rfl (XS.iconst X10.here hx rfl (hb hby own_dmethod_4_code_23) k)) ?_
      show own_Go p.tables e below RR (T10.setTop (mkF m 24 #[.val (.ref al), .val (.int (Int32.ofNat a)), .val (.int (Int32.ofNat b))] [(.int (2 : Int32)), (.ref al)]))
      obtain ⟨c13, A13, q13, s13, m13, H13, G13⟩ := id V10
      have b13 := inb_of (j := (2 : Int32)) s13 ⟨by decide, by decide⟩
      refine own_st (fun _ k => X10.iaload hx (j := (2 : Int32)) (v := (.int (Int32.ofNat l2))) (by rw [e10]; exact A13.1) (State.isArrayOf_alike hZ.alike A13.2.1) A13.2.2 b13 (Has.at H13 b13 rfl) (g := (mkF m 24 #[.val (.ref al), .val (.int (Int32.ofNat a)), .val (.int (Int32.ofNat b))] [(.int (2 : Int32)), (.ref al)])) rfl rfl (hb hby own_dmethod_4_code_24) _ (XS.iloadN X10.here hx rfl (hb hby own_dmethod_4_code_25) rfl k)) ?_
      show own_Go p.tables e below RR (T10.setTop (mkF m 26 #[.val (.ref al), .val (.int (Int32.ofNat a)), .val (.int (Int32.ofNat b))] [(.int (Int32.ofNat a)), (.int (Int32.ofNat l2))]))
      by_cases hc26_14 : (Int32.ofNat l2) = (Int32.ofNat a)
      · refine own_st (fun _ k => XS.icmpNo X10.here hx rfl (hb hby own_dmethod_4_code_26) rfl (teq hc26_14).2 (XS.aloadN X10.here hx rfl (hb hby own_dmethod_4_code_29) rfl rfl (XS.iconst X10.here hx rfl (hb hby own_dmethod_4_code_30) (XS.iloadN X10.here hx rfl (hb hby own_dmethod_4_code_31) rfl k)))) ?_
        show own_Go p.tables e below RR (T10.setTop (mkF m 32 #[.val (.ref al), .val (.int (Int32.ofNat a)), .val (.int (Int32.ofNat b))] [(.int (Int32.ofNat b)), (.int (2 : Int32)), (.ref al)]))
        obtain ⟨c15, A15, q15, s15, m15, H15, G15⟩ := id V10
        obtain ⟨T16, h16, X16, e16, W16, st16⟩ := stI X10 hx hZ e10 A15 (j := (2 : Int32)) (inb_of s15 ⟨by decide, by decide⟩) (g := (mkF m 32 #[.val (.ref al), .val (.int (Int32.ofNat a)), .val (.int (Int32.ofNat b))] [(.int (Int32.ofNat b)), (.int (2 : Int32)), (.ref al)])) rfl rfl (hb hby own_dmethod_4_code_32)
        have V16 := Arv.set A15 q15 s15 m15 H15 G15 rfl W16 2 rfl (Nat.le_of_ble_eq_true rfl)
        have V16 : Arv Z h16 al kl .int (4 : Int32) [(.int (Int32.ofNat b)), (.int (Int32.ofNat b)), (.int (Int32.ofNat b)), (.int (Int32.ofNat l3))] (.int (0 : Int32)) := V16
        have N16 := Fr.snoc X16 N10 g_l
        refine own_st st16 ?_
        have z17 : n0 ≤ h16.size := Nat.le_trans z11 (Keep.of_wr W16).1
        have kk18 : Keep h0 h16 [al] := kk12.wr W16 (Or.inl (List.mem_of_getElem? (i := 0) rfl))
        show own_Go p.tables e below RR (T16.setTop (mkF m 33 #[.val (.ref al), .val (.int (Int32.ofNat a)), .val (.int (Int32.ofNat b))] []))
        refine own_st (fun _ k => XS.aloadN X16.here hx rfl (hb hby own_dmethod_4_code_33) rfl rfl (XS.iconst X16.here hx rfl (hb hby own_dmethod_4_code_34) k)) ?_
        show own_Go p.tables e below RR (T16.setTop (mkF m 35 #[.val (.ref al), .val (.int (Int32.ofNat a)), .val (.int (Int32.ofNat b))] [(.int (3 : Int32)), (.ref al)]))
        obtain ⟨c19, A19, q19, s19, m19, H19, G19⟩ := id V16
        have b19 := inb_of (j := (3 : Int32)) s19 ⟨by decide, by decide⟩
        refine own_st (fun _ k => X16.iaload hx (j := (3 : Int32)) (v := (.int (Int32.ofNat l3))) (by rw [e16]; exact A19.1) (State.isArrayOf_alike hZ.alike A19.2.1) A19.2.2 b19 (Has.at H19 b19 rfl) (g := (mkF m 35 #[.val (.ref al), .val (.int (Int32.ofNat a)), .val (.int (Int32.ofNat b))] [(.int (3 : Int32)), (.ref al)])) rfl rfl (hb hby own_dmethod_4_code_35) _ (XS.iloadN X16.here hx rfl (hb hby own_dmethod_4_code_36) rfl k)) ?_
        show own_Go p.tables e below RR (T16.setTop (mkF m 37 #[.val (.ref al), .val (.int (Int32.ofNat a)), .val (.int (Int32.ofNat b))] [(.int (Int32.ofNat a)), (.int (Int32.ofNat l3))]))
        by_cases hc37_20 : (Int32.ofNat l3) = (Int32.ofNat a)
        · refine own_st (fun _ k => XS.icmpNo X16.here hx rfl (hb hby own_dmethod_4_code_37) rfl (teq hc37_20).2 (XS.aloadN X16.here hx rfl (hb hby own_dmethod_4_code_40) rfl rfl (XS.iconst X16.here hx rfl (hb hby own_dmethod_4_code_41) (XS.iloadN X16.here hx rfl (hb hby own_dmethod_4_code_42) rfl k)))) ?_
          show own_Go p.tables e below RR (T16.setTop (mkF m 43 #[.val (.ref al), .val (.int (Int32.ofNat a)), .val (.int (Int32.ofNat b))] [(.int (Int32.ofNat b)), (.int (3 : Int32)), (.ref al)]))
          obtain ⟨c21, A21, q21, s21, m21, H21, G21⟩ := id V16
          obtain ⟨T22, h22, X22, e22, W22, st22⟩ := stI X16 hx hZ e16 A21 (j := (3 : Int32)) (inb_of s21 ⟨by decide, by decide⟩) (g := (mkF m 43 #[.val (.ref al), .val (.int (Int32.ofNat a)), .val (.int (Int32.ofNat b))] [(.int (Int32.ofNat b)), (.int (3 : Int32)), (.ref al)])) rfl rfl (hb hby own_dmethod_4_code_43)
          have V22 := Arv.set A21 q21 s21 m21 H21 G21 rfl W22 3 rfl (Nat.le_of_ble_eq_true rfl)
          have V22 : Arv Z h22 al kl .int (4 : Int32) [(.int (Int32.ofNat b)), (.int (Int32.ofNat b)), (.int (Int32.ofNat b)), (.int (Int32.ofNat b))] (.int (0 : Int32)) := V22
          have N22 := Fr.snoc X22 N16 g_l
          refine own_st st22 ?_
          have z23 : n0 ≤ h22.size := Nat.le_trans z17 (Keep.of_wr W22).1
          have kk24 : Keep h0 h22 [al] := kk18.wr W22 (Or.inl (List.mem_of_getElem? (i := 0) rfl))
          show own_Go p.tables e below RR (T22.setTop (mkF m 44 #[.val (.ref al), .val (.int (Int32.ofNat a)), .val (.int (Int32.ofNat b))] []))
          obtain ⟨fs, hrt_, hrun, hended, hW, hsame⟩ := X22.leave (v := none) (fun _ => rfl)
          refine own_fin (X22.returnOut hx Bd.returns (hb hby own_dmethod_4_code_44) hrt_) (hRR _ ⟨_, hrun, hended, _, _, rfl, ?_, ⟨_, rfl⟩, hW, hsame.mono (by decide) (by decide)⟩)
          show own_QRL Z al kl a b l0 l1 l2 l3 h0 n0 _ T22.heap _
          rw [e22]
          exact ⟨rfl, N22, kk24, (by rw [own_ry (b := b) (Nat.lt_of_lt_of_le hl0 (by decide)) (Nat.lt_of_lt_of_le ha (by decide)) hc4_2, own_ry (b := b) (Nat.lt_of_lt_of_le hl1 (by decide)) (Nat.lt_of_lt_of_le ha (by decide)) hc15_8, own_ry (b := b) (Nat.lt_of_lt_of_le hl2 (by decide)) (Nat.lt_of_lt_of_le ha (by decide)) hc26_14, own_ry (b := b) (Nat.lt_of_lt_of_le hl3 (by decide)) (Nat.lt_of_lt_of_le ha (by decide)) hc37_20]; exact V22)⟩
        · refine own_st (fun _ k => XS.icmpYes X16.here hx rfl (pc0 := 37) (pc' := 44) rfl (hb hby own_dmethod_4_code_37) rfl (feq hc37_20).2 (by decide) (by decide) k) ?_
          show own_Go p.tables e below RR (T16.setTop (mkF m 44 #[.val (.ref al), .val (.int (Int32.ofNat a)), .val (.int (Int32.ofNat b))] []))
          obtain ⟨fs, hrt_, hrun, hended, hW, hsame⟩ := X16.leave (v := none) (fun _ => rfl)
          refine own_fin (X16.returnOut hx Bd.returns (hb hby own_dmethod_4_code_44) hrt_) (hRR _ ⟨_, hrun, hended, _, _, rfl, ?_, ⟨_, rfl⟩, hW, hsame.mono (by decide) (by decide)⟩)
          show own_QRL Z al kl a b l0 l1 l2 l3 h0 n0 _ T16.heap _
          rw [e16]
          exact ⟨rfl, N16, kk18, (by rw [own_ry (b := b) (Nat.lt_of_lt_of_le hl0 (by decide)) (Nat.lt_of_lt_of_le ha (by decide)) hc4_2, own_ry (b := b) (Nat.lt_of_lt_of_le hl1 (by decide)) (Nat.lt_of_lt_of_le ha (by decide)) hc15_8, own_ry (b := b) (Nat.lt_of_lt_of_le hl2 (by decide)) (Nat.lt_of_lt_of_le ha (by decide)) hc26_14, own_rn (b := b) hc37_20]; exact V16)⟩
      · refine own_st (fun _ k => XS.icmpYes X10.here hx rfl (pc0 := 26) (pc' := 33) rfl (hb hby own_dmethod_4_code_26) rfl (feq hc26_14).2 (by decide) (by decide) (XS.aloadN X10.here hx rfl (hb hby own_dmethod_4_code_33) rfl rfl (XS.iconst X10.here hx rfl (hb hby own_dmethod_4_code_34) k))) ?_
        show own_Go p.tables e below RR (T10.setTop (mkF m 35 #[.val (.ref al), .val (.int (Int32.ofNat a)), .val (.int (Int32.ofNat b))] [(.int (3 : Int32)), (.ref al)]))
        obtain ⟨c25, A25, q25, s25, m25, H25, G25⟩ := id V10
        have b25 := inb_of (j := (3 : Int32)) s25 ⟨by decide, by decide⟩
        refine own_st (fun _ k => X10.iaload hx (j := (3 : Int32)) (v := (.int (Int32.ofNat l3))) (by rw [e10]; exact A25.1) (State.isArrayOf_alike hZ.alike A25.2.1) A25.2.2 b25 (Has.at H25 b25 rfl) (g := (mkF m 35 #[.val (.ref al), .val (.int (Int32.ofNat a)), .val (.int (Int32.ofNat b))] [(.int (3 : Int32)), (.ref al)])) rfl rfl (hb hby own_dmethod_4_code_35) _ (XS.iloadN X10.here hx rfl (hb hby own_dmethod_4_code_36) rfl k)) ?_
        show own_Go p.tables e below RR (T10.setTop (mkF m 37 #[.val (.ref al), .val (.int (Int32.ofNat a)), .val (.int (Int32.ofNat b))] [(.int (Int32.ofNat a)), (.int (Int32.ofNat l3))]))
        by_cases hc37_26 : (Int32.ofNat l3) = (Int32.ofNat a)
        · refine own_st (fun _ k => XS.icmpNo X10.here hx rfl (hb hby own_dmethod_4_code_37) rfl (teq hc37_26).2 (XS.aloadN X10.here hx rfl (hb hby own_dmethod_4_code_40) rfl rfl (XS.iconst X10.here hx rfl (hb hby own_dmethod_4_code_41) (XS.iloadN X10.here hx rfl (hb hby own_dmethod_4_code_42) rfl k)))) ?_
          show own_Go p.tables e below RR (T10.setTop (mkF m 43 #[.val (.ref al), .val (.int (Int32.ofNat a)), .val (.int (Int32.ofNat b))] [(.int (Int32.ofNat b)), (.int (3 : Int32)), (.ref al)]))
          obtain ⟨c27, A27, q27, s27, m27, H27, G27⟩ := id V10
          obtain ⟨T28, h28, X28, e28, W28, st28⟩ := stI X10 hx hZ e10 A27 (j := (3 : Int32)) (inb_of s27 ⟨by decide, by decide⟩) (g := (mkF m 43 #[.val (.ref al), .val (.int (Int32.ofNat a)), .val (.int (Int32.ofNat b))] [(.int (Int32.ofNat b)), (.int (3 : Int32)), (.ref al)])) rfl rfl (hb hby own_dmethod_4_code_43)
          have V28 := Arv.set A27 q27 s27 m27 H27 G27 rfl W28 3 rfl (Nat.le_of_ble_eq_true rfl)
          have V28 : Arv Z h28 al kl .int (4 : Int32) [(.int (Int32.ofNat b)), (.int (Int32.ofNat b)), (.int (Int32.ofNat l2)), (.int (Int32.ofNat b))] (.int (0 : Int32)) := V28
          have N28 := Fr.snoc X28 N10 g_l
          refine own_st st28 ?_
          have z29 : n0 ≤ h28.size := Nat.le_trans z11 (Keep.of_wr W28).1
          have kk30 : Keep h0 h28 [al] := kk12.wr W28 (Or.inl (List.mem_of_getElem? (i := 0) rfl))
          show own_Go p.tables e below RR (T28.setTop (mkF m 44 #[.val (.ref al), .val (.int (Int32.ofNat a)), .val (.int (Int32.ofNat b))] []))
          obtain ⟨fs, hrt_, hrun, hended, hW, hsame⟩ := X28.leave (v := none) (fun _ => rfl)
          refine own_fin (X28.returnOut hx Bd.returns (hb hby own_dmethod_4_code_44) hrt_) (hRR _ ⟨_, hrun, hended, _, _, rfl, ?_, ⟨_, rfl⟩, hW, hsame.mono (by decide) (by decide)⟩)
          show own_QRL Z al kl a b l0 l1 l2 l3 h0 n0 _ T28.heap _
          rw [e28]
          exact ⟨rfl, N28, kk30, (by rw [own_ry (b := b) (Nat.lt_of_lt_of_le hl0 (by decide)) (Nat.lt_of_lt_of_le ha (by decide)) hc4_2, own_ry (b := b) (Nat.lt_of_lt_of_le hl1 (by decide)) (Nat.lt_of_lt_of_le ha (by decide)) hc15_8, own_rn (b := b) hc26_14, own_ry (b := b) (Nat.lt_of_lt_of_le hl3 (by decide)) (Nat.lt_of_lt_of_le ha (by decide)) hc37_26]; exact V28)⟩
        · refine own_st (fun _ k => XS.icmpYes X10.here hx rfl (pc0 := 37) (pc' := 44) rfl (hb hby own_dmethod_4_code_37) rfl (feq hc37_26).2 (by decide) (by decide) k) ?_
          show own_Go p.tables e below RR (T10.setTop (mkF m 44 #[.val (.ref al), .val (.int (Int32.ofNat a)), .val (.int (Int32.ofNat b))] []))
          obtain ⟨fs, hrt_, hrun, hended, hW, hsame⟩ := X10.leave (v := none) (fun _ => rfl)
          refine own_fin (X10.returnOut hx Bd.returns (hb hby own_dmethod_4_code_44) hrt_) (hRR _ ⟨_, hrun, hended, _, _, rfl, ?_, ⟨_, rfl⟩, hW, hsame.mono (by decide) (by decide)⟩)
          show own_QRL Z al kl a b l0 l1 l2 l3 h0 n0 _ T10.heap _
          rw [e10]
          exact ⟨rfl, N10, kk12, (by rw [own_ry (b := b) (Nat.lt_of_lt_of_le hl0 (by decide)) (Nat.lt_of_lt_of_le ha (by decide)) hc4_2, own_ry (b := b) (Nat.lt_of_lt_of_le hl1 (by decide)) (Nat.lt_of_lt_of_le ha (by decide)) hc15_8, own_rn (b := b) hc26_14, own_rn (b := b) hc37_26]; exact V10)⟩
    · refine own_st (fun _ k => XS.icmpYes X4.here hx rfl (pc0 := 15) (pc' := 22) rfl (hb hby own_dmethod_4_code_15) rfl (feq hc15_8).2 (by decide) (by decide) (XS.aloadN X4.here hx rfl (hb hby own_dmethod_4_code_22) rfl rfl (XS.iconst X4.here hx rfl (hb hby own_dmethod_4_code_23) k))) ?_
      show own_Go p.tables e below RR (T4.setTop (mkF m 24 #[.val (.ref al), .val (.int (Int32.ofNat a)), .val (.int (Int32.ofNat b))] [(.int (2 : Int32)), (.ref al)]))
      obtain ⟨c31, A31, q31, s31, m31, H31, G31⟩ := id V4
      have b31 := inb_of (j := (2 : Int32)) s31 ⟨by decide, by decide⟩
      refine own_st (fun _ k => X4.iaload hx (j := (2 : Int32)) (v := (.int (Int32.ofNat l2))) (by rw [e4]; exact A31.1) (State.isArrayOf_alike hZ.alike A31.2.1) A31.2.2 b31 (Has.at H31 b31 rfl) (g := (mkF m 24 #[.val (.ref al), .val (.int (Int32.ofNat a)), .val (.int (Int32.ofNat b))] [(.int (2 : Int32)), (.ref al)])) rfl rfl (hb hby own_dmethod_4_code_24) _ (XS.iloadN X4.here hx rfl (hb hby own_dmethod_4_code_25) rfl k)) ?_
      show own_Go p.tables e below RR (T4.setTop (mkF m 26 #[.val (.ref al), .val (.int (Int32.ofNat a)), .val (.int (Int32.ofNat b))] [(.int (Int32.ofNat a)), (.int (Int32.ofNat l2))]))
      by_cases hc26_32 : (Int32.ofNat l2) = (Int32.ofNat a)
      · refine own_st (fun _ k => XS.icmpNo X4.here hx rfl (hb hby own_dmethod_4_code_26) rfl (teq hc26_32).2 (XS.aloadN X4.here hx rfl (hb hby own_dmethod_4_code_29) rfl rfl (XS.iconst X4.here hx rfl (hb hby own_dmethod_4_code_30) (XS.iloadN X4.here hx rfl (hb hby own_dmethod_4_code_31) rfl k)))) ?_
        show own_Go p.tables e below RR (T4.setTop (mkF m 32 #[.val (.ref al), .val (.int (Int32.ofNat a)), .val (.int (Int32.ofNat b))] [(.int (Int32.ofNat b)), (.int (2 : Int32)), (.ref al)]))
        obtain ⟨c33, A33, q33, s33, m33, H33, G33⟩ := id V4
        obtain ⟨T34, h34, X34, e34, W34, st34⟩ := stI X4 hx hZ e4 A33 (j := (2 : Int32)) (inb_of s33 ⟨by decide, by decide⟩) (g := (mkF m 32 #[.val (.ref al), .val (.int (Int32.ofNat a)), .val (.int (Int32.ofNat b))] [(.int (Int32.ofNat b)), (.int (2 : Int32)), (.ref al)])) rfl rfl (hb hby own_dmethod_4_code_32)
        have V34 := Arv.set A33 q33 s33 m33 H33 G33 rfl W34 2 rfl (Nat.le_of_ble_eq_true rfl)
        have V34 : Arv Z h34 al kl .int (4 : Int32) [(.int (Int32.ofNat b)), (.int (Int32.ofNat l1)), (.int (Int32.ofNat b)), (.int (Int32.ofNat l3))] (.int (0 : Int32)) := V34
        have N34 := Fr.snoc X34 N4 g_l
        refine own_st st34 ?_
        have z35 : n0 ≤ h34.size := Nat.le_trans z5 (Keep.of_wr W34).1
        have kk36 : Keep h0 h34 [al] := kk6.wr W34 (Or.inl (List.mem_of_getElem? (i := 0) rfl))
        show own_Go p.tables e below RR (T34.setTop (mkF m 33 #[.val (.ref al), .val (.int (Int32.ofNat a)), .val (.int (Int32.ofNat b))] []))
        refine own_st (fun _ k => XS.aloadN X34.here hx rfl (hb hby own_dmethod_4_code_33) rfl rfl (XS.iconst X34.here hx rfl (hb hby own_dmethod_4_code_34) k)) ?_
        show own_Go p.tables e below RR (T34.setTop (mkF m 35 #[.val (.ref al), .val (.int (Int32.ofNat a)), .val (.int (Int32.ofNat b))] [(.int (3 : Int32)), (.ref al)]))
        obtain ⟨c37, A37, q37, s37, m37, H37, G37⟩ := id V34
        have b37 := inb_of (j := (3 : Int32)) s37 ⟨by decide, by decide⟩
        refine own_st (fun _ k => X34.iaload hx (j := (3 : Int32)) (v := (.int (Int32.ofNat l3))) (by rw [e34]; exact A37.1) (State.isArrayOf_alike hZ.alike A37.2.1) A37.2.2 b37 (Has.at H37 b37 rfl) (g := (mkF m 35 #[.val (.ref al), .val (.int (Int32.ofNat a)), .val (.int (Int32.ofNat b))] [(.int (3 : Int32)), (.ref al)])) rfl rfl (hb hby own_dmethod_4_code_35) _ (XS.iloadN X34.here hx rfl (hb hby own_dmethod_4_code_36) rfl k)) ?_
        show own_Go p.tables e below RR (T34.setTop (mkF m 37 #[.val (.ref al), .val (.int (Int32.ofNat a)), .val (.int (Int32.ofNat b))] [(.int (Int32.ofNat a)), (.int (Int32.ofNat l3))]))
        by_cases hc37_38 : (Int32.ofNat l3) = (Int32.ofNat a)
        · refine own_st (fun _ k => XS.icmpNo X34.here hx rfl (hb hby own_dmethod_4_code_37) rfl (teq hc37_38).2 (XS.aloadN X34.here hx rfl (hb hby own_dmethod_4_code_40) rfl rfl (XS.iconst X34.here hx rfl (hb hby own_dmethod_4_code_41) (XS.iloadN X34.here hx rfl (hb hby own_dmethod_4_code_42) rfl k)))) ?_
          show own_Go p.tables e below RR (T34.setTop (mkF m 43 #[.val (.ref al), .val (.int (Int32.ofNat a)), .val (.int (Int32.ofNat b))] [(.int (Int32.ofNat b)), (.int (3 : Int32)), (.ref al)]))
          obtain ⟨c39, A39, q39, s39, m39, H39, G39⟩ := id V34
          obtain ⟨T40, h40, X40, e40, W40, st40⟩ := stI X34 hx hZ e34 A39 (j := (3 : Int32)) (inb_of s39 ⟨by decide, by decide⟩) (g := (mkF m 43 #[.val (.ref al), .val (.int (Int32.ofNat a)), .val (.int (Int32.ofNat b))] [(.int (Int32.ofNat b)), (.int (3 : Int32)), (.ref al)])) rfl rfl (hb hby own_dmethod_4_code_43)
          have V40 := Arv.set A39 q39 s39 m39 H39 G39 rfl W40 3 rfl (Nat.le_of_ble_eq_true rfl)
          have V40 : Arv Z h40 al kl .int (4 : Int32) [(.int (Int32.ofNat b)), (.int (Int32.ofNat l1)), (.int (Int32.ofNat b)), (.int (Int32.ofNat b))] (.int (0 : Int32)) := V40
          have N40 := Fr.snoc X40 N34 g_l
          refine own_st st40 ?_
          have z41 : n0 ≤ h40.size := Nat.le_trans z35 (Keep.of_wr W40).1
          have kk42 : Keep h0 h40 [al] := kk36.wr W40 (Or.inl (List.mem_of_getElem? (i := 0) rfl))
          show own_Go p.tables e below RR (T40.setTop (mkF m 44 #[.val (.ref al), .val (.int (Int32.ofNat a)), .val (.int (Int32.ofNat b))] []))
          obtain ⟨fs, hrt_, hrun, hended, hW, hsame⟩ := X40.leave (v := none) (fun _ => rfl)
          refine own_fin (X40.returnOut hx Bd.returns (hb hby own_dmethod_4_code_44) hrt_) (hRR _ ⟨_, hrun, hended, _, _, rfl, ?_, ⟨_, rfl⟩, hW, hsame.mono (by decide) (by decide)⟩)
          show own_QRL Z al kl a b l0 l1 l2 l3 h0 n0 _ T40.heap _
          rw [e40]
          exact ⟨rfl, N40, kk42, (by rw [own_ry (b := b) (Nat.lt_of_lt_of_le hl0 (by decide)) (Nat.lt_of_lt_of_le ha (by decide)) hc4_2, own_rn (b := b) hc15_8, own_ry (b := b) (Nat.lt_of_lt_of_le hl2 (by decide)) (Nat.lt_of_lt_of_le ha (by decide)) hc26_32, own_ry (b := b) (Nat.lt_of_lt_of_le hl3 (by decide)) (Nat.lt_of_lt_of_le ha (by decide)) hc37_38]; exact V40)⟩
        · refine own_st (fun _ k => XS.icmpYes X34.here hx rfl (pc0 := 37) (pc' := 44) rfl (hb hby own_dmethod_4_code_37) rfl (feq hc37_38).2 (by decide) (by decide) k) ?_
          show own_Go p.tables e below RR (T34.setTop (mkF m 44 #[.val (.ref al), .val (.int (Int32.ofNat a)), .val (.int (Int32.ofNat b))] []))
          obtain ⟨fs, hrt_, hrun, hended, hW, hsame⟩ := X34.leave (v := none) (fun _ => rfl)
          refine own_fin (X34.returnOut hx Bd.returns (hb hby own_dmethod_4_code_44) hrt_) (hRR _ ⟨_, hrun, hended, _, _, rfl, ?_, ⟨_, rfl⟩, hW, hsame.mono (by decide) (by decide)⟩)
          show own_QRL Z al kl a b l0 l1 l2 l3 h0 n0 _ T34.heap _
          rw [e34]
          exact ⟨rfl, N34, kk36, (by rw [own_ry (b := b) (Nat.lt_of_lt_of_le hl0 (by decide)) (Nat.lt_of_lt_of_le ha (by decide)) hc4_2, own_rn (b := b) hc15_8, own_ry (b := b) (Nat.lt_of_lt_of_le hl2 (by decide)) (Nat.lt_of_lt_of_le ha (by decide)) hc26_32, own_rn (b := b) hc37_38]; exact V34)⟩
      · refine own_st (fun _ k => XS.icmpYes X4.here hx rfl (pc0 := 26) (pc' := 33) rfl (hb hby own_dmethod_4_code_26) rfl (feq hc26_32).2 (by decide) (by decide) (XS.aloadN X4.here hx rfl (hb hby own_dmethod_4_code_33) rfl rfl (XS.iconst X4.here hx rfl (hb hby own_dmethod_4_code_34) k))) ?_
        show own_Go p.tables e below RR (T4.setTop (mkF m 35 #[.val (.ref al), .val (.int (Int32.ofNat a)), .val (.int (Int32.ofNat b))] [(.int (3 : Int32)), (.ref al)]))
        obtain ⟨c43, A43, q43, s43, m43, H43, G43⟩ := id V4
        have b43 := inb_of (j := (3 : Int32)) s43 ⟨by decide, by decide⟩
        refine own_st (fun _ k => X4.iaload hx (j := (3 : Int32)) (v := (.int (Int32.ofNat l3))) (by rw [e4]; exact A43.1) (State.isArrayOf_alike hZ.alike A43.2.1) A43.2.2 b43 (Has.at H43 b43 rfl) (g := (mkF m 35 #[.val (.ref al), .val (.int (Int32.ofNat a)), .val (.int (Int32.ofNat b))] [(.int (3 : Int32)), (.ref al)])) rfl rfl (hb hby own_dmethod_4_code_35) _ (XS.iloadN X4.here hx rfl (hb hby own_dmethod_4_code_36) rfl k)) ?_
        show own_Go p.tables e below RR (T4.setTop (mkF m 37 #[.val (.ref al), .val (.int (Int32.ofNat a)), .val (.int (Int32.ofNat b))] [(.int (Int32.ofNat a)), (.int (Int32.ofNat l3))]))
        by_cases hc37_44 : (Int32.ofNat l3) = (Int32.ofNat a)
        · refine own_st (fun _ k => XS.icmpNo X4.here hx rfl (hb hby own_dmethod_4_code_37) rfl (teq hc37_44).2 (XS.aloadN X4.here hx rfl (hb hby own_dmethod_4_code_40) rfl rfl (XS.iconst X4.here hx rfl (hb hby own_dmethod_4_code_41) (XS.iloadN X4.here hx rfl (hb hby own_dmethod_4_code_42) rfl k)))) ?_
          show own_Go p.tables e below RR (T4.setTop (mkF m 43 #[.val (.ref al), .val (.int (Int32.ofNat a)), .val (.int (Int32.ofNat b))] [(.int (Int32.ofNat b)), (.int (3 : Int32)), (.ref al)]))
          obtain ⟨c45, A45, q45, s45, m45, H45, G45⟩ := id V4
          obtain ⟨T46, h46, X46, e46, W46, st46⟩ := stI X4 hx hZ e4 A45 (j := (3 : Int32)) (inb_of s45 ⟨by decide, by decide⟩) (g := (mkF m 43 #[.val (.ref al), .val (.int (Int32.ofNat a)), .val (.int (Int32.ofNat b))] [(.int (Int32.ofNat b)), (.int (3 : Int32)), (.ref al)])) rfl rfl (hb hby own_dmethod_4_code_43)
          have V46 := Arv.set A45 q45 s45 m45 H45 G45 rfl W46 3 rfl (Nat.le_of_ble_eq_true rfl)
          have V46 : Arv Z h46 al kl .int (4 : Int32) [(.int (Int32.ofNat b)), (.int (Int32.ofNat l1)), (.int (Int32.ofNat l2)), (.int (Int32.ofNat b))] (.int (0 : Int32)) := V46
          have N46 := Fr.snoc X46 N4 g_l
          refine own_st st46 ?_
          have z47 : n0 ≤ h46.size := Nat.le_trans z5 (Keep.of_wr W46).1
          have kk48 : Keep h0 h46 [al] := kk6.wr W46 (Or.inl (List.mem_of_getElem? (i := 0) rfl))
          show own_Go p.tables e below RR (T46.setTop (mkF m 44 #[.val (.ref al), .val (.int (Int32.ofNat a)), .val (.int (Int32.ofNat b))] []))
          obtain ⟨fs, hrt_, hrun, hended, hW, hsame⟩ := X46.leave (v := none) (fun _ => rfl)
          refine own_fin (X46.returnOut hx Bd.returns (hb hby own_dmethod_4_code_44) hrt_) (hRR _ ⟨_, hrun, hended, _, _, rfl, ?_, ⟨_, rfl⟩, hW, hsame.mono (by decide) (by decide)⟩)
          show own_QRL Z al kl a b l0 l1 l2 l3 h0 n0 _ T46.heap _
          rw [e46]
          exact ⟨rfl, N46, kk48, (by rw [own_ry (b := b) (Nat.lt_of_lt_of_le hl0 (by decide)) (Nat.lt_of_lt_of_le ha (by decide)) hc4_2, own_rn (b := b) hc15_8, own_rn (b := b) hc26_32, own_ry (b := b) (Nat.lt_of_lt_of_le hl3 (by decide)) (Nat.lt_of_lt_of_le ha (by decide)) hc37_44]; exact V46)⟩
        · refine own_st (fun _ k => XS.icmpYes X4.here hx rfl (pc0 := 37) (pc' := 44) rfl (hb hby own_dmethod_4_code_37) rfl (feq hc37_44).2 (by decide) (by decide) k) ?_
          show own_Go p.tables e below RR (T4.setTop (mkF m 44 #[.val (.ref al), .val (.int (Int32.ofNat a)), .val (.int (Int32.ofNat b))] []))
          obtain ⟨fs, hrt_, hrun, hended, hW, hsame⟩ := X4.leave (v := none) (fun _ => rfl)
          refine own_fin (X4.returnOut hx Bd.returns (hb hby own_dmethod_4_code_44) hrt_) (hRR _ ⟨_, hrun, hended, _, _, rfl, ?_, ⟨_, rfl⟩, hW, hsame.mono (by decide) (by decide)⟩)
          show own_QRL Z al kl a b l0 l1 l2 l3 h0 n0 _ T4.heap _
          rw [e4]
          exact ⟨rfl, N4, kk6, (by rw [own_ry (b := b) (Nat.lt_of_lt_of_le hl0 (by decide)) (Nat.lt_of_lt_of_le ha (by decide)) hc4_2, own_rn (b := b) hc15_8, own_rn (b := b) hc26_32, own_rn (b := b) hc37_44]; exact V4)⟩
  · refine own_st (fun _ k => XS.icmpYes X0.here hx rfl (pc0 := 4) (pc' := 11) rfl (hb hby own_dmethod_4_code_4) rfl (feq hc4_2).2 (by decide) (by decide) (XS.aloadN X0.here hx rfl (hb hby own_dmethod_4_code_11) rfl rfl (XS.iconst X0.here hx rfl (hb hby own_dmethod_4_code_12) k))) ?_
    show own_Go p.tables e below RR (s₁.setTop (mkF m 13 #[.val (.ref al), .val (.int (Int32.ofNat a)), .val (.int (Int32.ofNat b))] [(.int (1 : Int32)), (.ref al)]))
    obtain ⟨c49, A49, q49, s49, m49, H49, G49⟩ := id Al
    have b49 := inb_of (j := (1 : Int32)) s49 ⟨by decide, by decide⟩
    refine own_st (fun _ k => X0.iaload hx (j := (1 : Int32)) (v := (.int (Int32.ofNat l1))) (by rw [e0]; exact A49.1) (State.isArrayOf_alike hZ.alike A49.2.1) A49.2.2 b49 (Has.at H49 b49 rfl) (g := (mkF m 13 #[.val (.ref al), .val (.int (Int32.ofNat a)), .val (.int (Int32.ofNat b))] [(.int (1 : Int32)), (.ref al)])) rfl rfl (hb hby own_dmethod_4_code_13) _ (XS.iloadN X0.here hx rfl (hb hby own_dmethod_4_code_14) rfl k)) ?_
    show own_Go p.tables e below RR (s₁.setTop (mkF m 15 #[.val (.ref al), .val (.int (Int32.ofNat a)), .val (.int (Int32.ofNat b))] [(.int (Int32.ofNat a)), (.int (Int32.ofNat l1))]))
    by_cases hc15_50 : (Int32.ofNat l1) = (Int32.ofNat a)
    · refine own_st (fun _ k => XS.icmpNo X0.here hx rfl (hb hby own_dmethod_4_code_15) rfl (teq hc15_50).2 (XS.aloadN X0.here hx rfl (hb hby own_dmethod_4_code_18) rfl rfl (XS.iconst X0.here hx rfl (hb hby own_dmethod_4_code_19) (XS.iloadN X0.here hx rfl (hb hby own_dmethod_4_code_20) rfl k)))) ?_
      show own_Go p.tables e below RR (s₁.setTop (mkF m 21 #[.val (.ref al), .val (.int (Int32.ofNat a)), .val (.int (Int32.ofNat b))] [(.int (Int32.ofNat b)), (.int (1 : Int32)), (.ref al)]))
      obtain ⟨c51, A51, q51, s51, m51, H51, G51⟩ := id Al
      obtain ⟨T52, h52, X52, e52, W52, st52⟩ := stI X0 hx hZ e0 A51 (j := (1 : Int32)) (inb_of s51 ⟨by decide, by decide⟩) (g := (mkF m 21 #[.val (.ref al), .val (.int (Int32.ofNat a)), .val (.int (Int32.ofNat b))] [(.int (Int32.ofNat b)), (.int (1 : Int32)), (.ref al)])) rfl rfl (hb hby own_dmethod_4_code_21)
      have V52 := Arv.set A51 q51 s51 m51 H51 G51 rfl W52 1 rfl (Nat.le_of_ble_eq_true rfl)
      have V52 : Arv Z h52 al kl .int (4 : Int32) [(.int (Int32.ofNat l0)), (.int (Int32.ofNat b)), (.int (Int32.ofNat l2)), (.int (Int32.ofNat l3))] (.int (0 : Int32)) := V52
      have N52 := Fr.snoc X52 N0 g_l
      refine own_st st52 ?_
      have z53 : n0 ≤ h52.size := Nat.le_trans Z0 (Keep.of_wr W52).1
      have kk54 : Keep h0 h52 [al] := (Keep.refl h0 [al]).wr W52 (Or.inl (List.mem_of_getElem? (i := 0) rfl))
      show own_Go p.tables e below RR (T52.setTop (mkF m 22 #[.val (.ref al), .val (.int (Int32.ofNat a)), .val (.int (Int32.ofNat b))] []))
      refine own_st (fun _ k => XS.aloadN X52.here hx rfl (hb hby own_dmethod_4_code_22) rfl rfl (XS.iconst X52.here hx rfl (hb hby own_dmethod_4_code_23) k)) ?_
      show own_Go p.tables e below RR (T52.setTop (mkF m 24 #[.val (.ref al), .val (.int (Int32.ofNat a)), .val (.int (Int32.ofNat b))] [(.int (2 : Int32)), (.ref al)]))
      obtain ⟨c55, A55, q55, s55, m55, H55, G55⟩ := id V52
      have b55 := inb_of (j := (2 : Int32)) s55 ⟨by decide, by decide⟩
      refine own_st (fun _ k => X52.iaload hx (j := (2 : Int32)) (v := (.int (Int32.ofNat l2))) (by rw [e52]; exact A55.1) (State.isArrayOf_alike hZ.alike A55.2.1) A55.2.2 b55 (Has.at H55 b55 rfl) (g := (mkF m 24 #[.val (.ref al), .val (.int (Int32.ofNat a)), .val (.int (Int32.ofNat b))] [(.int (2 : Int32)), (.ref al)])) rfl rfl (hb hby own_dmethod_4_code_24) _ (XS.iloadN X52.here hx rfl (hb hby own_dmethod_4_code_25) rfl k)) ?_
      show own_Go p.tables e below RR (T52.setTop (mkF m 26 #[.val (.ref al), .val (.int (Int32.ofNat a)), .val (.int (Int32.ofNat b))] [(.int (Int32.ofNat a)), (.int (Int32.ofNat l2))]))
      by_cases hc26_56 : (Int32.ofNat l2) = (Int32.ofNat a)
      · refine own_st (fun _ k => XS.icmpNo X52.here hx rfl (hb hby own_dmethod_4_code_26) rfl (teq hc26_56).2 (XS.aloadN X52.here hx rfl (hb hby own_dmethod_4_code_29) rfl rfl (XS.iconst X52.here hx rfl (hb hby own_dmethod_4_code_30) (XS.iloadN X52.here hx rfl (hb hby own_dmethod_4_code_31) rfl k)))) ?_
        show own_Go p.tables e below RR (T52.setTop (mkF m 32 #[.val (.ref al), .val (.int (Int32.ofNat a)), .val (.int (Int32.ofNat b))] [(.int (Int32.ofNat b)), (.int (2 : Int32)), (.ref al)]))
        obtain ⟨c57, A57, q57, s57, m57, H57, G57⟩ := id V52
        obtain ⟨T58, h58, X58, e58, W58, st58⟩ := stI X52 hx hZ e52 A57 (j := (2 : Int32)) (inb_of s57 ⟨by decide, by decide⟩) (g := (mkF m 32 #[.val (.ref al), .val (.int (Int32.ofNat a)), .val (.int (Int32.ofNat b))] [(.int (Int32.ofNat b)), (.int (2 : Int32)), (.ref al)])) rfl rfl (hb hby own_dmethod_4_code_32)
        have V58 := Arv.set A57 q57 s57 m57 H57 G57 rfl W58 2 rfl (Nat.le_of_ble_eq_true rfl)
        have V58 : Arv Z h58 al kl .int (4 : Int32) [(.int (Int32.ofNat l0)), (.int (Int32.ofNat b)), (.int (Int32.ofNat b)), (.int (Int32.ofNat l3))] (.int (0 : Int32)) := V58
        have N58 := Fr.snoc X58 N52 g_l
        refine own_st st58 ?_
        have z59 : n0 ≤ h58.size := Nat.le_trans z53 (Keep.of_wr W58).1
        have kk60 : Keep h0 h58 [al] := kk54.wr W58 (Or.inl (List.mem_of_getElem? (i := 0) rfl))
        show own_Go p.tables e below RR (T58.setTop (mkF m 33 #[.val (.ref al), .val (.int (Int32.ofNat a)), .val (.int (Int32.ofNat b))] []))
        refine own_st (fun _ k => XS.aloadN X58.here hx rfl (hb hby own_dmethod_4_code_33) rfl rfl (XS.iconst X58.here hx rfl (hb hby own_dmethod_4_code_34) k)) ?_
        show own_Go p.tables e below RR (T58.setTop (mkF m 35 #[.val (.ref al), .val (.int (Int32.ofNat a)), .val (.int (Int32.ofNat b))] [(.int (3 : Int32)), (.ref al)]))
        obtain ⟨c61, A61, q61, s61, m61, H61, G61⟩ := id V58
        have b61 := inb_of (j := (3 : Int32)) s61 ⟨by decide, by decide⟩
        refine own_st (fun _ k => X58.iaload hx (j := (3 : Int32)) (v := (.int (Int32.ofNat l3))) (by rw [e58]; exact A61.1) (State.isArrayOf_alike hZ.alike A61.2.1) A61.2.2 b61 (Has.at H61 b61 rfl) (g := (mkF m 35 #[.val (.ref al), .val (.int (Int32.ofNat a)), .val (.int (Int32.ofNat b))] [(.int (3 : Int32)), (.ref al)])) rfl rfl (hb hby own_dmethod_4_code_35) _ (XS.iloadN X58.here hx rfl (hb hby own_dmethod_4_code_36) rfl k)) ?_
        show own_Go p.tables e below RR (T58.setTop (mkF m 37 #[.val (.ref al), .val (.int (Int32.ofNat a)), .val (.int (Int32.ofNat b))] [(.int (Int32.ofNat a)), (.int (Int32.ofNat l3))]))
        by_cases hc37_62 : (Int32.ofNat l3) = (Int32.ofNat a)
        · refine own_st (fun _ k => XS.icmpNo X58.here hx rfl (hb hby own_dmethod_4_code_37) rfl (teq hc37_62).2 (XS.aloadN X58.here hx rfl (hb hby own_dmethod_4_code_40) rfl rfl (XS.iconst X58.here hx rfl (hb hby own_dmethod_4_code_41) (XS.iloadN X58.here hx rfl (hb hby own_dmethod_4_code_42) rfl k)))) ?_
          show own_Go p.tables e below RR (T58.setTop (mkF m 43 #[.val (.ref al), .val (.int (Int32.ofNat a)), .val (.int (Int32.ofNat b))] [(.int (Int32.ofNat b)), (.int (3 : Int32)), (.ref al)]))
          obtain ⟨c63, A63, q63, s63, m63, H63, G63⟩ := id V58
          obtain ⟨T64, h64, X64, e64, W64, st64⟩ := stI X58 hx hZ e58 A63 (j := (3 : Int32)) (inb_of s63 ⟨by decide, by decide⟩) (g := (mkF m 43 #[.val (.ref al), .val (.int (Int32.ofNat a)), .val (.int (Int32.ofNat b))] [(.int (Int32.ofNat b)), (.int (3 : Int32)), (.ref al)])) rfl rfl (hb hby own_dmethod_4_code_43)
          have V64 := Arv.set A63 q63 s63 m63 H63 G63 rfl W64 3 rfl (Nat.le_of_ble_eq_true rfl)
          have V64 : Arv Z h64 al kl .int (4 : Int32) [(.int (Int32.ofNat l0)), (.int (Int32.ofNat b)), (.int (Int32.ofNat b)), (.int (Int32.ofNat b))] (.int (0 : Int32)) := V64
          have N64 := Fr.snoc X64 N58 g_l
          refine own_st st64 ?_
          have z65 : n0 ≤ h64.size := Nat.le_trans z59 (Keep.of_wr W64).1
          have kk66 : Keep h0 h64 [al] := kk60.wr W64 (Or.inl (List.mem_of_getElem? (i := 0) rfl))
          show own_Go p.tables e below RR (T64.setTop (mkF m 44 #[.val (.ref al), .val (.int (Int32.ofNat a)), .val (.int (Int32.ofNat b))] []))
          obtain ⟨fs, hrt_, hrun, hended, hW, hsame⟩ := X64.leave (v := none) (fun _ => rfl)
          refine own_fin (X64.returnOut hx Bd.returns (hb hby own_dmethod_4_code_44) hrt_) (hRR _ ⟨_, hrun, hended, _, _, rfl, ?_, ⟨_, rfl⟩, hW, hsame.mono (by decide) (by decide)⟩)
          show own_QRL Z al kl a b l0 l1 l2 l3 h0 n0 _ T64.heap _
          rw [e64]
          exact ⟨rfl, N64, kk66, (by rw [own_rn (b := b) hc4_2, own_ry (b := b) (Nat.lt_of_lt_of_le hl1 (by decide)) (Nat.lt_of_lt_of_le ha (by decide)) hc15_50, own_ry (b := b) (Nat.lt_of_lt_of_le hl2 (by decide)) (Nat.lt_of_lt_of_le ha (by decide)) hc26_56, own_ry (b := b) (Nat.lt_of_lt_of_le hl3 (by decide)) (Nat.lt_of_lt_of_le ha (by decide)) hc37_62]; exact V64)⟩
        · refine own_st (fun _ k => XS.icmpYes X58.here hx rfl (pc0 := 37) (pc' := 44) rfl (hb hby own_dmethod_4_code_37) rfl (feq hc37_62).2 (by decide) (by decide) k) ?_
          show own_Go p.tables e below RR (T58.setTop (mkF m 44 #[.val (.ref al), .val (.int (Int32.ofNat a)), .val (.int (Int32.ofNat b))] []))
          obtain ⟨fs, hrt_, hrun, hended, hW, hsame⟩ := X58.leave (v := none) (fun _ => rfl)
          refine own_fin (X58.returnOut hx Bd.returns (hb hby own_dmethod_4_code_44) hrt_) (hRR _ ⟨_, hrun, hended, _, _, rfl, ?_, ⟨_, rfl⟩, hW, hsame.mono (by decide) (by decide)⟩)
          show own_QRL Z al kl a b l0 l1 l2 l3 h0 n0 _ T58.heap _
          rw [e58]
          exact ⟨rfl, N58, kk60, (by rw [own_rn (b := b) hc4_2, own_ry (b := b) (Nat.lt_of_lt_of_le hl1 (by decide)) (Nat.lt_of_lt_of_le ha (by decide)) hc15_50, own_ry (b := b) (Nat.lt_of_lt_of_le hl2 (by decide)) (Nat.lt_of_lt_of_le ha (by decide)) hc26_56, own_rn (b := b) hc37_62]; exact V58)⟩
      · refine own_st (fun _ k => XS.icmpYes X52.here hx rfl (pc0 := 26) (pc' := 33) rfl (hb hby own_dmethod_4_code_26) rfl (feq hc26_56).2 (by decide) (by decide) (XS.aloadN X52.here hx rfl (hb hby own_dmethod_4_code_33) rfl rfl (XS.iconst X52.here hx rfl (hb hby own_dmethod_4_code_34) k))) ?_
        show own_Go p.tables e below RR (T52.setTop (mkF m 35 #[.val (.ref al), .val (.int (Int32.ofNat a)), .val (.int (Int32.ofNat b))] [(.int (3 : Int32)), (.ref al)]))
        obtain ⟨c67, A67, q67, s67, m67, H67, G67⟩ := id V52
        have b67 := inb_of (j := (3 : Int32)) s67 ⟨by decide, by decide⟩
        refine own_st (fun _ k => X52.iaload hx (j := (3 : Int32)) (v := (.int (Int32.ofNat l3))) (by rw [e52]; exact A67.1) (State.isArrayOf_alike hZ.alike A67.2.1) A67.2.2 b67 (Has.at H67 b67 rfl) (g := (mkF m 35 #[.val (.ref al), .val (.int (Int32.ofNat a)), .val (.int (Int32.ofNat b))] [(.int (3 : Int32)), (.ref al)])) rfl rfl (hb hby own_dmethod_4_code_35) _ (XS.iloadN X52.here hx rfl (hb hby own_dmethod_4_code_36) rfl k)) ?_
        show own_Go p.tables e below RR (T52.setTop (mkF m 37 #[.val (.ref al), .val (.int (Int32.ofNat a)), .val (.int (Int32.ofNat b))] [(.int (Int32.ofNat a)), (.int (Int32.ofNat l3))]))
        by_cases hc37_68 : (Int32.ofNat l3) = (Int32.ofNat a)
        · refine own_st (fun _ k => XS.icmpNo X52.here hx rfl (hb hby own_dmethod_4_code_37) rfl (teq hc37_68).2 (XS.aloadN X52.here hx rfl (hb hby own_dmethod_4_code_40) rfl rfl (XS.iconst X52.here hx rfl (hb hby own_dmethod_4_code_41) (XS.iloadN X52.here hx rfl (hb hby own_dmethod_4_code_42) rfl k)))) ?_
          show own_Go p.tables e below RR (T52.setTop (mkF m 43 #[.val (.ref al), .val (.int (Int32.ofNat a)), .val (.int (Int32.ofNat b))] [(.int (Int32.ofNat b)), (.int (3 : Int32)), (.ref al)]))
          obtain ⟨c69, A69, q69, s69, m69, H69, G69⟩ := id V52
          obtain ⟨T70, h70, X70, e70, W70, st70⟩ := stI X52 hx hZ e52 A69 (j := (3 : Int32)) (inb_of s69 ⟨by decide, by decide⟩) (g := (mkF m 43 #[.val (.ref al), .val (.int (Int32.ofNat a)), .val (.int (Int32.ofNat b))] [(.int (Int32.ofNat b)), (.int (3 : Int32)), (.ref al)])) rfl rfl (hb hby own_dmethod_4_code_43)
          have V70 := Arv.set A69 q69 s69 m69 H69 G69 rfl W70 3 rfl (Nat.le_of_ble_eq_true rfl)
          have V70 : Arv Z h70 al kl .int (4 : Int32) [(.int (Int32.ofNat l0)), (.int (Int32.ofNat b)), (.int (Int32.ofNat l2)), (.int (Int32.ofNat b))] (.int (0 : Int32)) := V70
          have N70 := Fr.snoc X70 N52 g_l
          refine own_st st70 ?_
          have z71 : n0 ≤ h70.size := Nat.le_trans z53 (Keep.of_wr W70).1
          have kk72 : Keep h0 h70 [al] := kk54.wr W70 (Or.inl (List.mem_of_getElem? (i := 0) rfl))
          show own_Go p.tables e below RR (T70.setTop (mkF m 44 #[.val (.ref al), .val (.int (Int32.ofNat a)), .val (.int (Int32.ofNat b))] []))
          obtain ⟨fs, hrt_, hrun, hended, hW, hsame⟩ := X70.leave (v := none) (fun _ => rfl)
          refine own_fin (X70.returnOut hx Bd.returns (hb hby own_dmethod_4_code_44) hrt_) (hRR _ ⟨_, hrun, hended, _, _, rfl, ?_, ⟨_, rfl⟩, hW, hsame.mono (by decide) (by decide)⟩)
          show own_QRL Z al kl a b l0 l1 l2 l3 h0 n0 _ T70.heap _
          rw [e70]
          exact ⟨rfl, N70, kk72, (by rw [own_rn (b := b) hc4_2, own_ry (b := b) (Nat.lt_of_lt_of_le hl1 (by decide)) (Nat.lt_of_lt_of_le ha (by decide)) hc15_50, own_rn (b := b) hc26_56, own_ry (b := b) (Nat.lt_of_lt_of_le hl3 (by decide)) (Nat.lt_of_lt_of_le ha (by decide)) hc37_68]; exact V70)⟩
        · refine own_st (fun _ k => XS.icmpYes X52.here hx rfl (pc0 := 37) (pc' := 44) rfl (hb hby own_dmethod_4_code_37) rfl (feq hc37_68).2 (by decide) (by decide) k) ?_
          show own_Go p.tables e below RR (T52.setTop (mkF m 44 #[.val (.ref al), .val (.int (Int32.ofNat a)), .val (.int (Int32.ofNat b))] []))
          obtain ⟨fs, hrt_, hrun, hended, hW, hsame⟩ := X52.leave (v := none) (fun _ => rfl)
          refine own_fin (X52.returnOut hx Bd.returns (hb hby own_dmethod_4_code_44) hrt_) (hRR _ ⟨_, hrun, hended, _, _, rfl, ?_, ⟨_, rfl⟩, hW, hsame.mono (by decide) (by decide)⟩)
          show own_QRL Z al kl a b l0 l1 l2 l3 h0 n0 _ T52.heap _
          rw [e52]
          exact ⟨rfl, N52, kk54, (by rw [own_rn (b := b) hc4_2, own_ry (b := b) (Nat.lt_of_lt_of_le hl1 (by decide)) (Nat.lt_of_lt_of_le ha (by decide)) hc15_50, own_rn (b := b) hc26_56, own_rn (b := b) hc37_68]; exact V52)⟩
    · refine own_st (fun _ k => XS.icmpYes X0.here hx rfl (pc0 := 15) (pc' := 22) rfl (hb hby own_dmethod_4_code_15) rfl (feq hc15_50).2 (by decide) (by decide) (XS.aloadN X0.here hx rfl (hb hby own_dmethod_4_code_22) rfl rfl (XS.iconst X0.here hx rfl (hb hby own_dmethod_4_code_23) k))) ?_
      show own_Go p.tables e below RR (s₁.setTop (mkF m 24 #[.val (.ref al), .val (.int (Int32.ofNat a)), .val (.int (Int32.ofNat b))] [(.int (2 : Int32)), (.ref al)]))
      obtain ⟨c73, A73, q73, s73, m73, H73, G73⟩ := id Al
      have b73 := inb_of (j := (2 : Int32)) s73 ⟨by decide, by decide⟩
      refine own_st (fun _ k => X0.iaload hx (j := (2 : Int32)) (v := (.int (Int32.ofNat l2))) (by rw [e0]; exact A73.1) (State.isArrayOf_alike hZ.alike A73.2.1) A73.2.2 b73 (Has.at H73 b73 rfl) (g := (mkF m 24 #[.val (.ref al), .val (.int (Int32.ofNat a)), .val (.int (Int32.ofNat b))] [(.int (2 : Int32)), (.ref al)])) rfl rfl (hb hby own_dmethod_4_code_24) _ (XS.iloadN X0.here hx rfl (hb hby own_dmethod_4_code_25) rfl k)) ?_
      show own_Go p.tables e below RR (s₁.setTop (mkF m 26 #[.val (.ref al), .val (.int (Int32.ofNat a)), .val (.int (Int32.ofNat b))] [(.int (Int32.ofNat a)), (.int (Int32.ofNat l2))]))
      by_cases hc26_74 : (Int32.ofNat l2) = (Int32.ofNat a)
      · refine own_st (fun _ k => XS.icmpNo X0.here hx rfl (hb hby own_dmethod_4_code_26) rfl (teq hc26_74).2 (XS.aloadN X0.here hx rfl (hb hby own_dmethod_4_code_29) rfl rfl (XS.iconst X0.here hx rfl (hb hby own_dmethod_4_code_30) (XS.iloadN X0.here hx rfl (hb hby own_dmethod_4_code_31) rfl k)))) ?_
        show own_Go p.tables e below RR (s₁.setTop (mkF m 32 #[.val (.ref al), .val (.int (Int32.ofNat a)), .val (.int (Int32.ofNat b))] [(.int (Int32.ofNat b)), (.int (2 : Int32)), (.ref al)]))
        obtain ⟨c75, A75, q75, s75, m75, H75, G75⟩ := id Al
        obtain ⟨T76, h76, X76, e76, W76, st76⟩ := stI X0 hx hZ e0 A75 (j := (2 : Int32)) (inb_of s75 ⟨by decide, by decide⟩) (g := (mkF m 32 #[.val (.ref al), .val (.int (Int32.ofNat a)), .val (.int (Int32.ofNat b))] [(.int (Int32.ofNat b)), (.int (2 : Int32)), (.ref al)])) rfl rfl (hb hby own_dmethod_4_code_32)
        have V76 := Arv.set A75 q75 s75 m75 H75 G75 rfl W76 2 rfl (Nat.le_of_ble_eq_true rfl)
        have V76 : Arv Z h76 al kl .int (4 : Int32) [(.int (Int32.ofNat l0)), (.int (Int32.ofNat l1)), (.int (Int32.ofNat b)), (.int (Int32.ofNat l3))] (.int (0 : Int32)) := V76
        have N76 := Fr.snoc X76 N0 g_l
        refine own_st st76 ?_
        have z77 : n0 ≤ h76.size := Nat.le_trans Z0 (Keep.of_wr W76).1
        have kk78 : Keep h0 h76 [al] := (Keep.refl h0 [al]).wr W76 (Or.inl (List.mem_of_getElem? (i := 0) rfl))
        show own_Go p.tables e below RR (T76.setTop (mkF m 33 #[.val (.ref al), .val (.int (Int32.ofNat a)), .val (.int (Int32.ofNat b))] []))
        refine own_st (fun _ k => XS.aloadN X76.here hx rfl (hb hby own_dmethod_4_code_33) rfl rfl (XS.iconst X76.here hx rfl (hb hby own_dmethod_4_code_34) k)) ?_
        show own_Go p.tables e below RR (T76.setTop (mkF m 35 #[.val (.ref al), .val (.int (Int32.ofNat a)), .val (.int (Int32.ofNat b))] [(.int (3 : Int32)), (.ref al)]))
        obtain ⟨c79, A79, q79, s79, m79, H79, G79⟩ := id V76
        have b79 := inb_of (j := (3 : Int32)) s79 ⟨by decide, by decide⟩
        refine own_st (fun _ k => X76.iaload hx (j := (3 : Int32)) (v := (.int (Int32.ofNat l3))) (by rw [e76]; exact A79.1) (State.isArrayOf_alike hZ.alike A79.2.1) A79.2.2 b79 (Has.at H79 b79 rfl) (g := (mkF m 35 #[.val (.ref al), .val (.int (Int32.ofNat a)), .val (.int (Int32.ofNat b))] [(.int (3 : Int32)), (.ref al)])) rfl rfl (hb hby own_dmethod_4_code_35) _ (XS.iloadN X76.here hx rfl (hb hby own_dmethod_4_code_36) rfl k)) ?_
        show own_Go p.tables e below RR (T76.setTop (mkF m 37 #[.val (.ref al), .val (.int (Int32.ofNat a)), .val (.int (Int32.ofNat b))] [(.int (Int32.ofNat a)), (.int (Int32.ofNat l3))]))
        by_cases hc37_80 : (Int32.ofNat l3) = (Int32.ofNat a)
        · refine own_st (fun _ k => XS.icmpNo X76.here hx rfl (hb hby own_dmethod_4_code_37) rfl (teq hc37_80).2 (XS.aloadN X76.here hx rfl (hb hby own_dmethod_4_code_40) rfl rfl (XS.iconst X76.here hx rfl (hb hby own_dmethod_4_code_41) (XS.iloadN X76.here hx rfl (hb hby own_dmethod_4_code_42) rfl k)))) ?_
          show own_Go p.tables e below RR (T76.setTop (mkF m 43 #[.val (.ref al), .val (.int (Int32.ofNat a)), .val (.int (Int32.ofNat b))] [(.int (Int32.ofNat b)), (.int (3 : Int32)), (.ref al)]))
          obtain ⟨c81, A81, q81, s81, m81, H81, G81⟩ := id V76
          obtain ⟨T82, h82, X82, e82, W82, st82⟩ := stI X76 hx hZ e76 A81 (j := (3 : Int32)) (inb_of s81 ⟨by decide, by decide⟩) (g := (mkF m 43 #[.val (.ref al), .val (.int (Int32.ofNat a)), .val (.int (Int32.ofNat b))] [(.int (Int32.ofNat b)), (.int (3 : Int32)), (.ref al)])) rfl rfl (hb hby own_dmethod_4_code_43)
          have V82 := Arv.set A81 q81 s81 m81 H81 G81 rfl W82 3 rfl (Nat.le_of_ble_eq_true rfl)
          have V82 : Arv Z h82 al kl .int (4 : Int32) [(.int (Int32.ofNat l0)), (.int (Int32.ofNat l1)), (.int (Int32.ofNat b)), (.int (Int32.ofNat b))] (.int (0 : Int32)) := V82
          have N82 := Fr.snoc X82 N76 g_l
          refine own_st st82 ?_
          have z83 : n0 ≤ h82.size := Nat.le_trans z77 (Keep.of_wr W82).1
          have kk84 : Keep h0 h82 [al] := kk78.wr W82 (Or.inl (List.mem_of_getElem? (i := 0) rfl))
          show own_Go p.tables e below RR (T82.setTop (mkF m 44 #[.val (.ref al), .val (.int (Int32.ofNat a)), .val (.int (Int32.ofNat b))] []))
          obtain ⟨fs, hrt_, hrun, hended, hW, hsame⟩ := X82.leave (v := none) (fun _ => rfl)
          refine own_fin (X82.returnOut hx Bd.returns (hb hby own_dmethod_4_code_44) hrt_) (hRR _ ⟨_, hrun, hended, _, _, rfl, ?_, ⟨_, rfl⟩, hW, hsame.mono (by decide) (by decide)⟩)
          show own_QRL Z al kl a b l0 l1 l2 l3 h0 n0 _ T82.heap _
          rw [e82]
          exact ⟨rfl, N82, kk84, (by rw [own_rn (b := b) hc4_2, own_rn (b := b) hc15_50, own_ry (b := b) (Nat.lt_of_lt_of_le hl2 (by decide)) (Nat.lt_of_lt_of_le ha (by decide)) hc26_74, own_ry (b := b) (Nat.lt_of_lt_of_le hl3 (by decide)) (Nat.lt_of_lt_of_le ha (by decide)) hc37_80]; exact V82)⟩
        · refine own_st (fun _ k => XS.icmpYes X76.here hx rfl (pc0 := 37) (pc' := 44) rfl (hb hby own_dmethod_4_code_37) rfl (feq hc37_80).2 (by decide) (by decide) k) ?_
          show own_Go p.tables e below RR (T76.setTop (mkF m 44 #[.val (.ref al), .val (.int (Int32.ofNat a)), .val (.int (Int32.ofNat b))] []))
          obtain ⟨fs, hrt_, hrun, hended, hW, hsame⟩ := X76.leave (v := none) (fun _ => rfl)
          refine own_fin (X76.returnOut hx Bd.returns (hb hby own_dmethod_4_code_44) hrt_) (hRR _ ⟨_, hrun, hended, _, _, rfl, ?_, ⟨_, rfl⟩, hW, hsame.mono (by decide) (by decide)⟩)
          show own_QRL Z al kl a b l0 l1 l2 l3 h0 n0 _ T76.heap _
          rw [e76]
          exact ⟨rfl, N76, kk78, (by rw [own_rn (b := b) hc4_2, own_rn (b := b) hc15_50, own_ry (b := b) (Nat.lt_of_lt_of_le hl2 (by decide)) (Nat.lt_of_lt_of_le ha (by decide)) hc26_74, own_rn (b := b) hc37_80]; exact V76)⟩
      · refine own_st (fun _ k => XS.icmpYes X0.here hx rfl (pc0 := 26) (pc' := 33) rfl (hb hby own_dmethod_4_code_26) rfl (feq hc26_74).2 (by decide) (by decide) (XS.aloadN X0.here hx rfl (hb hby own_dmethod_4_code_33) rfl rfl (XS.iconst X0.here hx rfl (hb hby own_dmethod_4_code_34) k))) ?_
        show own_Go p.tables e below RR (s₁.setTop (mkF m 35 #[.val (.ref al), .val (.int (Int32.ofNat a)), .val (.int (Int32.ofNat b))] [(.int (3 : Int32)), (.ref al)]))
        obtain ⟨c85, A85, q85, s85, m85, H85, G85⟩ := id Al
        have b85 := inb_of (j := (3 : Int32)) s85 ⟨by decide, by decide⟩
        refine own_st (fun _ k => X0.iaload hx (j := (3 : Int32)) (v := (.int (Int32.ofNat l3))) (by rw [e0]; exact A85.1) (State.isArrayOf_alike hZ.alike A85.2.1) A85.2.2 b85 (Has.at H85 b85 rfl) (g := (mkF m 35 #[.val (.ref al), .val (.int (Int32.ofNat a)), .val (.int (Int32.ofNat b))] [(.int (3 : Int32)), (.ref al)])) rfl rfl (hb hby own_dmethod_4_code_35) _ (XS.iloadN X0.here hx rfl (hb hby own_dmethod_4_code_36) rfl k)) ?_
        show own_Go p.tables e below RR (s₁.setTop (mkF m 37 #[.val (.ref al), .val (.int (Int32.ofNat a)), .val (.int (Int32.ofNat b))] [(.int (Int32.ofNat a)), (.int (Int32.ofNat l3))]))
        by_cases hc37_86 : (Int32.ofNat l3) = (Int32.ofNat a)
        · refine own_st (fun _ k => XS.icmpNo X0.here hx rfl (hb hby own_dmethod_4_code_37) rfl (teq hc37_86).2 (XS.aloadN X0.here hx rfl (hb hby own_dmethod_4_code_40) rfl rfl (XS.iconst X0.here hx rfl (hb hby own_dmethod_4_code_41) (XS.iloadN X0.here hx rfl (hb hby own_dmethod_4_code_42) rfl k)))) ?_
          show own_Go p.tables e below RR (s₁.setTop (mkF m 43 #[.val (.ref al), .val (.int (Int32.ofNat a)), .val (.int (Int32.ofNat b))] [(.int (Int32.ofNat b)), (.int (3 : Int32)), (.ref al)]))
          obtain ⟨c87, A87, q87, s87, m87, H87, G87⟩ := id Al
          obtain ⟨T88, h88, X88, e88, W88, st88⟩ := stI X0 hx hZ e0 A87 (j := (3 : Int32)) (inb_of s87 ⟨by decide, by decide⟩) (g := (mkF m 43 #[.val (.ref al), .val (.int (Int32.ofNat a)), .val (.int (Int32.ofNat b))] [(.int (Int32.ofNat b)), (.int (3 : Int32)), (.ref al)])) rfl rfl (hb hby own_dmethod_4_code_43)
          have V88 := Arv.set A87 q87 s87 m87 H87 G87 rfl W88 3 rfl (Nat.le_of_ble_eq_true rfl)
          have V88 : Arv Z h88 al kl .int (4 : Int32) [(.int (Int32.ofNat l0)), (.int (Int32.ofNat l1)), (.int (Int32.ofNat l2)), (.int (Int32.ofNat b))] (.int (0 : Int32)) := V88
          have N88 := Fr.snoc X88 N0 g_l
          refine own_st st88 ?_
          have z89 : n0 ≤ h88.size := Nat.le_trans Z0 (Keep.of_wr W88).1
          have kk90 : Keep h0 h88 [al] := (Keep.refl h0 [al]).wr W88 (Or.inl (List.mem_of_getElem? (i := 0) rfl))
          show own_Go p.tables e below RR (T88.setTop (mkF m 44 #[.val (.ref al), .val (.int (Int32.ofNat a)), .val (.int (Int32.ofNat b))] []))
          obtain ⟨fs, hrt_, hrun, hended, hW, hsame⟩ := X88.leave (v := none) (fun _ => rfl)
          refine own_fin (X88.returnOut hx Bd.returns (hb hby own_dmethod_4_code_44) hrt_) (hRR _ ⟨_, hrun, hended, _, _, rfl, ?_, ⟨_, rfl⟩, hW, hsame.mono (by decide) (by decide)⟩)
          show own_QRL Z al kl a b l0 l1 l2 l3 h0 n0 _ T88.heap _
          rw [e88]
          exact ⟨rfl, N88, kk90, (by rw [own_rn (b := b) hc4_2, own_rn (b := b) hc15_50, own_rn (b := b) hc26_74, own_ry (b := b) (Nat.lt_of_lt_of_le hl3 (by decide)) (Nat.lt_of_lt_of_le ha (by decide)) hc37_86]; exact V88)⟩
        · refine own_st (fun _ k => XS.icmpYes X0.here hx rfl (pc0 := 37) (pc' := 44) rfl (hb hby own_dmethod_4_code_37) rfl (feq hc37_86).2 (by decide) (by decide) k) ?_
          show own_Go p.tables e below RR (s₁.setTop (mkF m 44 #[.val (.ref al), .val (.int (Int32.ofNat a)), .val (.int (Int32.ofNat b))] []))
          obtain ⟨fs, hrt_, hrun, hended, hW, hsame⟩ := X0.leave (v := none) (fun _ => rfl)
          refine own_fin (X0.returnOut hx Bd.returns (hb hby own_dmethod_4_code_44) hrt_) (hRR _ ⟨_, hrun, hended, _, _, rfl, ?_, ⟨_, rfl⟩, hW, hsame.mono (by decide) (by decide)⟩)
          show own_QRL Z al kl a b l0 l1 l2 l3 h0 n0 _ s₁.heap _
          rw [e0]
          exact ⟨rfl, N0, (Keep.refl h0 [al]), (by rw [own_rn (b := b) hc4_2, own_rn (b := b) hc15_50, own_rn (b := b) hc26_74, own_rn (b := b) hc37_86]; exact Al)⟩
theorem own_dmethod_3_code_0 : decode method_3_code 0 = .ok (.aload_n 1, 1) := by decide +kernel
theorem own_dmethod_3_code_1 : decode method_3_code 1 = .ok (.iload_n 2, 1) := by decide +kernel
theorem own_dmethod_3_code_2 : decode method_3_code 2 = .ok (.iaload, 1) := by decide +kernel
theorem own_dmethod_3_code_3 : decode method_3_code 3 = .ok (.istore 4, 2) := by decide +kernel
theorem own_dmethod_3_code_5 : decode method_3_code 5 = .ok (.aload_n 1, 1) := by decide +kernel
theorem own_dmethod_3_code_6 : decode method_3_code 6 = .ok (.iload_n 3, 1) := by decide +kernel
theorem own_dmethod_3_code_7 : decode method_3_code 7 = .ok (.iaload, 1) := by decide +kernel
theorem own_dmethod_3_code_8 : decode method_3_code 8 = .ok (.istore 5, 2) := by decide +kernel
theorem own_dmethod_3_code_10 : decode method_3_code 10 = .ok (.aload_n 0, 1) := by decide +kernel
theorem own_dmethod_3_code_11 : decode method_3_code 11 = .ok (.iload_n 2, 1) := by decide +kernel
theorem own_dmethod_3_code_12 : decode method_3_code 12 = .ok (.iload_n 3, 1) := by decide +kernel
theorem own_pd__II_Z : parseMethodDescriptor "(II)Z" = some ⟨[.int, .int], some .boolean⟩ := by decide +kernel
theorem own_dmethod_3_code_13 : decode method_3_code 13 = .ok (.invokevirtual 22, 3) := by decide +kernel
theorem own_dmethod_3_code_16 : decode method_3_code 16 = .ok (.istore 6, 2) := by decide +kernel
theorem own_dmethod_3_code_18 : decode method_3_code 18 = .ok (.aload_n 1, 1) := by decide +kernel
theorem own_dmethod_3_code_19 : decode method_3_code 19 = .ok (.iload 4, 2) := by decide +kernel
theorem own_dmethod_3_code_21 : decode method_3_code 21 = .ok (.iload 5, 2) := by decide +kernel
theorem own_pd___III_V : parseMethodDescriptor "([III)V" = some ⟨[(.array .int), .int, .int], none⟩ := by decide +kernel
theorem own_dmethod_3_code_23 : decode method_3_code 23 = .ok (.invokestatic 26, 3) := by decide +kernel
theorem own_dmethod_3_code_26 : decode method_3_code 26 = .ok (.iload 6, 2) := by decide +kernel
theorem own_dmethod_3_code_28 : decode method_3_code 28 = .ok (.iload 4, 2) := by decide +kernel
theorem own_dmethod_3_code_30 : decode method_3_code 30 = .ok (.iload 5, 2) := by decide +kernel
theorem own_dmethod_3_code_32 : decode method_3_code 32 = .ok (.if_icmp .eq 7, 3) := by decide +kernel
theorem own_dmethod_3_code_39 : decode method_3_code 39 = .ok (.iconst 0, 1) := by decide +kernel
theorem own_dmethod_3_code_40 : decode method_3_code 40 = .ok (.if_icmp .ne 7, 3) := by decide +kernel
theorem own_dmethod_3_code_43 : decode method_3_code 43 = .ok (.iconst 1, 1) := by decide +kernel
theorem own_dmethod_3_code_44 : decode method_3_code 44 = .ok (.goto 4, 3) := by decide +kernel
theorem own_dmethod_3_code_48 : decode method_3_code 48 = .ok (.ireturn, 1) := by decide +kernel
theorem own_dmethod_3_code_35 : decode method_3_code 35 = .ok (.iconst 1, 1) := by decide +kernel
theorem own_dmethod_3_code_36 : decode method_3_code 36 = .ok (.goto 4, 3) := by decide +kernel
theorem own_efST (m : MethodId) (o : Addr) (al : Addr) : entryFrame m #[(.ref o), (.ref al), (.int (Int32.ofNat i)), (.int (Int32.ofNat j))] 7 = mkF m 0 #[.val (.ref o), .val (.ref al), .val (.int (Int32.ofNat i)), .val (.int (Int32.ofNat j)), .unset, .unset, .unset] [] := by first | (simp [entryFrame, mkF, argsToLocals, Value.category]; done) | rfl
def own_QST (Z : State) (o : Addr) (al : Addr) (ak : Addr) (kk : ClassId) (kl : ClassId) (P : List Nat) (d : Nat → Nat) (l0 : Nat) (l1 : Nat) (l2 : Nat) (l3 : Nat) (i : Nat) (j : Nat) (h0 : Heap) (n0 : Nat) (rv__ : Option Value) (h : Heap) (rL__ : List Loc) : Prop := rv__ = some (.int (1 : Int32)) ∧ Fr n0 rL__ ∧ Keep h0 h [ak, al] ∧ ∃ (P' : List Nat) (d' : Nat → Nat) (l0' : Nat) (l1' : Nat) (l2' : Nat) (l3' : Nat), own_Inv 4 P' [l0', l1', l2', l3'] d' ∧ Arv Z h ak kk .int (4 : Int32) (P'.map own_vi) (.int (0 : Int32)) ∧ Arv Z h al kl .int (4 : Int32) [(.int (Int32.ofNat l0')), (.int (Int32.ofNat l1')), (.int (Int32.ofNat l2')), (.int (Int32.ofNat l3'))] (.int (0 : Int32))
abbrev own_RST : Room := { frames := 2, cells := 0, slots := 0, locals := 30 }
set_option maxRecDepth 65536 in
set_option maxHeartbeats 40000000 in
theorem own_rmST (l : Launch) (Z : State) (a0 : Array Value) (hw : ∀ d ∈ tables_1, d.before a0 Z = true) (ws : List Jvm.Cond) (o : Addr) (al : Addr) (ak : Addr) (kk : ClassId) (kl : ClassId) (P : List Nat) (d : Nat → Nat) (l0 : Nat) (l1 : Nat) (l2 : Nat) (l3 : Nat) (i : Nat) (j : Nat) (h0 : Heap) (n0 : Nat) (Z0 : n0 ≤ h0.size) (E : Exa Z h0 o "com/example/saar/saar/sim/Parts") (Fk : Fld Z h0 o "com/example/saar/saar/sim/Parts" "known" "[I" (.ref ak)) (Ak : Arv Z h0 ak kk .int (4 : Int32) (P.map own_vi) (.int (0 : Int32))) (Al : Arv Z h0 al kl .int (4 : Int32) [(.int (Int32.ofNat l0)), (.int (Int32.ofNat l1)), (.int (Int32.ofNat l2)), (.int (Int32.ofNat l3))] (.int (0 : Int32))) (nk : o ≠ ak) (nl : o ≠ al) (nkl : ak ≠ al) (g_k : n0 ≤ ak) (g_l : n0 ≤ al) (I : own_Inv 4 P [l0, l1, l2, l3] d) (hi : i < 4) (hj : j < 4) :
    MetFree l (⟨"com/example/saar/saar/sim/PartsOfPinLaw", "step", "(Lcom/example/saar/saar/sim/Parts;[III)Z"⟩ : MethodName) (head1 (Jvm.Cond.code (⟨"com/example/saar/saar/sim/PartsOfPinLaw", "step", "(Lcom/example/saar/saar/sim/Parts;[III)Z"⟩ : MethodName) method_3_code 7 (some .boolean) :: ws) own_RST) (fun aa__ U => aa__ = #[(.ref o), (.ref al), (.int (Int32.ofNat i)), (.int (Int32.ofNat j))] ∧ Z.Warmed39 U.vm ∧ U.heap = h0) (fun _ _ _ _ _ => True) (fun _ U oc_ U' => ∃ rv__ rL__, oc_ = .returned rv__ ∧ own_QST Z o al ak kk kl P d l0 l1 l2 l3 i j h0 n0 rv__ U'.heap rL__ ∧ FrameEnd U oc_ U' rL__ own_RST.cells own_RST.slots) := by
  refine MetFree.of_bodySF (plainFor_of_name own_pn_com_example_saar_saar_sim_PartsOfPinLaw) hisR ?_
  intro p e s m args below meth c s₁ Bd hml0 hP hK
  obtain ⟨rfl, hZ, hh⟩ := hP
  have hx := Bd.exec
  have hby := Bd.bytes
  have hml : c.maxLocals = 7 := hml0
  have hown : s.vm.findClass "com/example/saar/saar/sim/PartsOfPinLaw" = some m.cls := findClass_of_methodNamed Bd.named
  have hnm := (name_of_methodNamed Bd.named Bd.method).1
  have X0 : Stand p l e own_RST s m #[(.ref o), (.ref al), (.int (Int32.ofNat i)), (.int (Int32.ofNat j))] below meth c s₁ [] 0 0 := Stand.of_body Bd
  have e0 : s₁.heap = h0 := by rw [← hh, Bd.state]; rfl
  have N0 := Fr.nil n0
  refine own_in (fun _ k => castTop (own_efST m o al) k) ?_
  intro RR hRR
  show own_Go p.tables e below RR (s₁.setTop (mkF m 0 #[.val (.ref o), .val (.ref al), .val (.int (Int32.ofNat i)), .val (.int (Int32.ofNat j)), .unset, .unset, .unset] []))
  refine own_st (fun _ k => XS.aloadN X0.here hx rfl (hb hby own_dmethod_3_code_0) rfl rfl (XS.iloadN X0.here hx rfl (hb hby own_dmethod_3_code_1) rfl k)) ?_
  show own_Go p.tables e below RR (s₁.setTop (mkF m 2 #[.val (.ref o), .val (.ref al), .val (.int (Int32.ofNat i)), .val (.int (Int32.ofNat j)), .unset, .unset, .unset] [(.int (Int32.ofNat i)), (.ref al)]))
  obtain ⟨c1, A1, q1, s1, m1, H1, G1⟩ := id Al
  have b1 := inb_of (j := (Int32.ofNat i)) s1 (own_nin (n := 4) hi (by decide))
  refine own_st (fun _ k => X0.iaload hx (j := (Int32.ofNat i)) (v := (.int (Int32.ofNat ([l0, l1, l2, l3].getD i 0)))) (by rw [e0]; exact A1.1) (State.isArrayOf_alike hZ.alike A1.2.1) A1.2.2 b1 (Has.at H1 b1 (own_get (n := 4) (P := [l0, l1, l2, l3]) rfl hi (by decide))) (g := (mkF m 2 #[.val (.ref o), .val (.ref al), .val (.int (Int32.ofNat i)), .val (.int (Int32.ofNat j)), .unset, .unset, .unset] [(.int (Int32.ofNat i)), (.ref al)])) rfl rfl (hb hby own_dmethod_3_code_2) _ (XS.istore X0.here hx rfl (hb hby own_dmethod_3_code_3) rfl (l' := #[.val (.ref o), .val (.ref al), .val (.int (Int32.ofNat i)), .val (.int (Int32.ofNat j)), .val (.int (Int32.ofNat ([l0, l1, l2, l3].getD i 0))), .unset, .unset]) rfl (XS.aloadN X0.here hx rfl (hb hby own_dmethod_3_code_5) rfl rfl (XS.iloadN X0.here hx rfl (hb hby own_dmethod_3_code_6) rfl k)))) ?_
  show own_Go p.tables e below RR (s₁.setTop (mkF m 7 #[.val (.ref o), .val (.ref al), .val (.int (Int32.ofNat i)), .val (.int (Int32.ofNat j)), .val (.int (Int32.ofNat ([l0, l1, l2, l3].getD i 0))), .unset, .unset] [(.int (Int32.ofNat j)), (.ref al)]))
  obtain ⟨c2, A2, q2, s2, m2, H2, G2⟩ := id Al
  have b2 := inb_of (j := (Int32.ofNat j)) s2 (own_nin (n := 4) hj (by decide))
  refine own_st (fun _ k => X0.iaload hx (j := (Int32.ofNat j)) (v := (.int (Int32.ofNat ([l0, l1, l2, l3].getD j 0)))) (by rw [e0]; exact A2.1) (State.isArrayOf_alike hZ.alike A2.2.1) A2.2.2 b2 (Has.at H2 b2 (own_get (n := 4) (P := [l0, l1, l2, l3]) rfl hj (by decide))) (g := (mkF m 7 #[.val (.ref o), .val (.ref al), .val (.int (Int32.ofNat i)), .val (.int (Int32.ofNat j)), .val (.int (Int32.ofNat ([l0, l1, l2, l3].getD i 0))), .unset, .unset] [(.int (Int32.ofNat j)), (.ref al)])) rfl rfl (hb hby own_dmethod_3_code_7) _ (XS.istore X0.here hx rfl (hb hby own_dmethod_3_code_8) rfl (l' := #[.val (.ref o), .val (.ref al), .val (.int (Int32.ofNat i)), .val (.int (Int32.ofNat j)), .val (.int (Int32.ofNat ([l0, l1, l2, l3].getD i 0))), .val (.int (Int32.ofNat ([l0, l1, l2, l3].getD j 0))), .unset]) rfl (XS.aloadN X0.here hx rfl (hb hby own_dmethod_3_code_10) rfl rfl (XS.iloadN X0.here hx rfl (hb hby own_dmethod_3_code_11) rfl (XS.iloadN X0.here hx rfl (hb hby own_dmethod_3_code_12) rfl k))))) ?_
  show own_Go p.tables e below RR (s₁.setTop (mkF m 13 #[.val (.ref o), .val (.ref al), .val (.int (Int32.ofNat i)), .val (.int (Int32.ofNat j)), .val (.int (Int32.ofNat ([l0, l1, l2, l3].getD i 0))), .val (.int (Int32.ofNat ([l0, l1, l2, l3].getD j 0))), .unset] [(.int (Int32.ofNat j)), (.int (Int32.ofNat i)), (.ref o)]))
  obtain ⟨cq3, kq3, q3a, q3b, q3c⟩ := isOf hZ e0 E
  obtain ⟨_, _, ⟨T3, L3, k3, n3⟩, -, X3, ⟨Lc3, hQ3, l3, y3, z3⟩, st3⟩ := X0.virtualBack hx (y := (⟨"com/example/saar/saar/sim/Parts", "join", "(II)Z"⟩ : MethodName)) (z := (⟨"com/example/saar/saar/sim/Parts", "join", "(II)Z"⟩ : MethodName)) hown (mvT hZ (hw _ (List.mem_of_getElem? (i := 32) rfl))) (mvT hZ (hw _ (List.mem_of_getElem? (i := 33) rfl))) (notFace_of_selects (args := #[]) (mvT hZ (hw _ (List.mem_of_getElem? (i := 35) rfl)))) (mvT hZ (hw _ (List.mem_of_getElem? (i := 35) rfl))) (mvT hZ (hw _ (List.mem_of_getElem? (i := 34) rfl))) (by decide) (backOf (W := 0) (own_rmJN l Z a0 hw [] o ak kk P [l0, l1, l2, l3] d i j h0 n0 Z0 E Fk Ak nk g_k I hi hj) hZ (hw _ (List.mem_of_getElem? (i := 36) rfl)) (hw _ (List.mem_of_getElem? (i := 2) rfl)) (by decide) (by decide)) q3a q3c (g := (mkF m 13 #[.val (.ref o), .val (.ref al), .val (.int (Int32.ofNat i)), .val (.int (Int32.ofNat j)), .val (.int (Int32.ofNat ([l0, l1, l2, l3].getD i 0))), .val (.int (Int32.ofNat ([l0, l1, l2, l3].getD j 0))), .unset] [(.int (Int32.ofNat j)), (.int (Int32.ofNat i)), (.ref o)])) rfl (by rw [hml]; rfl) (Steps.refl _) (argsL := [(.int (Int32.ofNat i)), (.int (Int32.ofNat j))]) (rest := []) (lenOf own_pd__II_Z rfl) rfl (by show 2 * 0 + _ ≤ _; exact Nat.le_of_eq rfl) (hb hby own_dmethod_3_code_13) (fun _ _ => ⟨rfl, e0, (by decide : 0 + 0 ≤ _), (by decide : 0 + 0 ≤ _)⟩)
  dsimp only [Pt.U, Pt.locs, Pt.cells, Pt.slots] at X3 l3 y3 z3 st3 hQ3
  subst l3 y3 z3
  obtain ⟨rfl, Nq3, Kq3, Pq3, dq3, Iq3, Vq3⟩ := hQ3
  have N3 := Fr.app N0 Nq3
  refine own_st (fun _ k => st3.trans k) ?_
  have z4 : n0 ≤ T3.heap.size := Nat.le_trans Z0 Kq3.1
  have kk5 : Keep h0 T3.heap [ak, al] := (Keep.refl h0 [ak, al]).trans Kq3 (allS (Or.inl (List.mem_of_getElem? (i := 0) rfl)) all0)
  show own_Go p.tables e below RR (T3.setTop (mkF m 16 #[.val (.ref o), .val (.ref al), .val (.int (Int32.ofNat i)), .val (.int (Int32.ofNat j)), .val (.int (Int32.ofNat ([l0, l1, l2, l3].getD i 0))), .val (.int (Int32.ofNat ([l0, l1, l2, l3].getD j 0))), .unset] [(.int (own_nq ([l0, l1, l2, l3].getD i 0) ([l0, l1, l2, l3].getD j 0)))]))
  refine own_st (fun _ k => XS.istore X3.here hx rfl (hb hby own_dmethod_3_code_16) rfl (l' := #[.val (.ref o), .val (.ref al), .val (.int (Int32.ofNat i)), .val (.int (Int32.ofNat j)), .val (.int (Int32.ofNat ([l0, l1, l2, l3].getD i 0))), .val (.int (Int32.ofNat ([l0, l1, l2, l3].getD j 0))), .val (.int (own_nq ([l0, l1, l2, l3].getD i 0) ([l0, l1, l2, l3].getD j 0)))]) rfl (XS.aloadN X3.here hx rfl (hb hby own_dmethod_3_code_18) rfl rfl (XS.iload X3.here hx rfl (hb hby own_dmethod_3_code_19) rfl (XS.iload X3.here hx rfl (hb hby own_dmethod_3_code_21) rfl k)))) ?_
  show own_Go p.tables e below RR (T3.setTop (mkF m 23 #[.val (.ref o), .val (.ref al), .val (.int (Int32.ofNat i)), .val (.int (Int32.ofNat j)), .val (.int (Int32.ofNat ([l0, l1, l2, l3].getD i 0))), .val (.int (Int32.ofNat ([l0, l1, l2, l3].getD j 0))), .val (.int (own_nq ([l0, l1, l2, l3].getD i 0) ([l0, l1, l2, l3].getD j 0)))] [(.int (Int32.ofNat ([l0, l1, l2, l3].getD j 0))), (.int (Int32.ofNat ([l0, l1, l2, l3].getD i 0))), (.ref al)]))
  have f6 := (Al.keep Kq3 (ninS (Ne.symm nkl) nin0))
  obtain ⟨_, _, ⟨T7, L7, k7, n7⟩, -, X7, ⟨Lc7, hQ7, l7, y7, z7⟩, st7⟩ := Jvm.LawKit.callS X3 hx (y := (⟨"com/example/saar/saar/sim/PartsOfPinLaw", "relabel", "([III)V"⟩ : MethodName)) hown (mvT hZ (hw _ (List.mem_of_getElem? (i := 42) rfl))) (mvT hZ (hw _ (List.mem_of_getElem? (i := 43) rfl))) (mvT hZ (hw _ (List.mem_of_getElem? (i := 30) rfl))) (mvT hZ (hw _ (List.mem_of_getElem? (i := 44) rfl))) (by decide) (backOf (W := 0) (own_rmRL l Z a0 hw [] al kl ([l0, l1, l2, l3].getD i 0) ([l0, l1, l2, l3].getD j 0) l0 l1 l2 l3 T3.heap n0 z4 g_l f6 (own_rootl I hi).1 (I.2.2 0 (by decide)).2.1 (I.2.2 1 (by decide)).2.1 (I.2.2 2 (by decide)).2.1 (I.2.2 3 (by decide)).2.1) hZ (hw _ (List.mem_of_getElem? (i := 44) rfl)) (hw _ (List.mem_of_getElem? (i := 30) rfl)) (by decide) (by decide)) (g := (mkF m 23 #[.val (.ref o), .val (.ref al), .val (.int (Int32.ofNat i)), .val (.int (Int32.ofNat j)), .val (.int (Int32.ofNat ([l0, l1, l2, l3].getD i 0))), .val (.int (Int32.ofNat ([l0, l1, l2, l3].getD j 0))), .val (.int (own_nq ([l0, l1, l2, l3].getD i 0) ([l0, l1, l2, l3].getD j 0)))] [(.int (Int32.ofNat ([l0, l1, l2, l3].getD j 0))), (.int (Int32.ofNat ([l0, l1, l2, l3].getD i 0))), (.ref al)])) rfl (by rw [hml]; rfl) (argsL := [(.ref al), (.int (Int32.ofNat ([l0, l1, l2, l3].getD i 0))), (.int (Int32.ofNat ([l0, l1, l2, l3].getD j 0)))]) (rest := []) (lenOf own_pd___III_V rfl) rfl (by show 2 * 0 + _ ≤ _; exact Nat.le_of_eq rfl) (hb hby own_dmethod_3_code_23) (fun _ _ => ⟨rfl, rfl, (by decide : 0 + 0 ≤ _), (by decide : 0 + 0 ≤ _)⟩)
  dsimp only [Pt.U, Pt.locs, Pt.cells, Pt.slots] at X7 l7 y7 z7 st7 hQ7
  subst l7 y7 z7
  obtain ⟨rfl, Nq7, Kq7, Vq7⟩ := hQ7
  have N7 := Fr.app N3 Nq7
  refine own_st st7 ?_
  have z8 : n0 ≤ T7.heap.size := Nat.le_trans z4 Kq7.1
  have kk9 : Keep h0 T7.heap [ak, al] := kk5.trans Kq7 (allS (Or.inl (List.mem_of_getElem? (i := 1) rfl)) all0)
  show own_Go p.tables e below RR (T7.setTop (mkF m 26 #[.val (.ref o), .val (.ref al), .val (.int (Int32.ofNat i)), .val (.int (Int32.ofNat j)), .val (.int (Int32.ofNat ([l0, l1, l2, l3].getD i 0))), .val (.int (Int32.ofNat ([l0, l1, l2, l3].getD j 0))), .val (.int (own_nq ([l0, l1, l2, l3].getD i 0) ([l0, l1, l2, l3].getD j 0)))] []))
  refine own_st (fun _ k => XS.iload X7.here hx rfl (hb hby own_dmethod_3_code_26) rfl (XS.iload X7.here hx rfl (hb hby own_dmethod_3_code_28) rfl (XS.iload X7.here hx rfl (hb hby own_dmethod_3_code_30) rfl k))) ?_
  show own_Go p.tables e below RR (T7.setTop (mkF m 32 #[.val (.ref o), .val (.ref al), .val (.int (Int32.ofNat i)), .val (.int (Int32.ofNat j)), .val (.int (Int32.ofNat ([l0, l1, l2, l3].getD i 0))), .val (.int (Int32.ofNat ([l0, l1, l2, l3].getD j 0))), .val (.int (own_nq ([l0, l1, l2, l3].getD i 0) ([l0, l1, l2, l3].getD j 0)))] [(.int (Int32.ofNat ([l0, l1, l2, l3].getD j 0))), (.int (Int32.ofNat ([l0, l1, l2, l3].getD i 0))), (.int (own_nq ([l0, l1, l2, l3].getD i 0) ([l0, l1, l2, l3].getD j 0)))]))
  by_cases hc32_10 : (Int32.ofNat ([l0, l1, l2, l3].getD i 0)) = (Int32.ofNat ([l0, l1, l2, l3].getD j 0))
  · refine own_st (fun _ k => XS.icmpYes X7.here hx rfl (pc0 := 32) (pc' := 39) rfl (hb hby own_dmethod_3_code_32) rfl (teq hc32_10).1 (by decide) (by decide) (XS.iconst X7.here hx rfl (hb hby own_dmethod_3_code_39) k)) ?_
    show own_Go p.tables e below RR (T7.setTop (mkF m 40 #[.val (.ref o), .val (.ref al), .val (.int (Int32.ofNat i)), .val (.int (Int32.ofNat j)), .val (.int (Int32.ofNat ([l0, l1, l2, l3].getD i 0))), .val (.int (Int32.ofNat ([l0, l1, l2, l3].getD j 0))), .val (.int (own_nq ([l0, l1, l2, l3].getD i 0) ([l0, l1, l2, l3].getD j 0)))] [(.int (0 : Int32)), (.int (own_nq ([l0, l1, l2, l3].getD i 0) ([l0, l1, l2, l3].getD j 0)))]))
    have hc40_11 : (own_nq ([l0, l1, l2, l3].getD i 0) ([l0, l1, l2, l3].getD j 0)) = (0 : Int32) := own_nqy (Nat.lt_of_lt_of_le (own_rootl I hi).1 (by decide)) (Nat.lt_of_lt_of_le (own_rootl I hj).1 (by decide)) hc32_10
    refine own_st (fun _ k => XS.icmpNo X7.here hx rfl (hb hby own_dmethod_3_code_40) rfl (teq hc40_11).2 (XS.iconst X7.here hx rfl (hb hby own_dmethod_3_code_43) (XS.goto X7.here hx rfl (pc0 := 44) (pc' := 48) rfl (hb hby own_dmethod_3_code_44) (by decide) (by decide) k))) ?_
    show own_Go p.tables e below RR (T7.setTop (mkF m 48 #[.val (.ref o), .val (.ref al), .val (.int (Int32.ofNat i)), .val (.int (Int32.ofNat j)), .val (.int (Int32.ofNat ([l0, l1, l2, l3].getD i 0))), .val (.int (Int32.ofNat ([l0, l1, l2, l3].getD j 0))), .val (.int (own_nq ([l0, l1, l2, l3].getD i 0) ([l0, l1, l2, l3].getD j 0)))] [(.int (1 : Int32))]))
    obtain ⟨fs, hrt_, hrun, hended, hW, hsame⟩ := X7.leave (v := some (.int (1 : Int32))) (fun h => by rw [Bd.returns] at h; cases h)
    refine own_fin (retN X7 hx (t := .boolean) Bd.returns (by simp) (hb hby own_dmethod_3_code_48) hrt_) (hRR _ ⟨_, hrun, hended, _, _, rfl, ?_, ⟨_, rfl⟩, hW, hsame.mono (by decide) (by decide)⟩)
    show own_QST Z o al ak kk kl P d l0 l1 l2 l3 i j h0 n0 _ T7.heap _
    have f12 := (Vq3.keep Kq7 (ninS nkl nin0))
    exact ⟨rfl, N7, kk9, _, _, _, _, _, _, Iq3, f12, Vq7⟩
  · refine own_st (fun _ k => XS.icmpNo X7.here hx rfl (hb hby own_dmethod_3_code_32) rfl (feq hc32_10).1 (XS.iconst X7.here hx rfl (hb hby own_dmethod_3_code_35) (XS.goto X7.here hx rfl (pc0 := 36) (pc' := 40) rfl (hb hby own_dmethod_3_code_36) (by decide) (by decide) k))) ?_
    show own_Go p.tables e below RR (T7.setTop (mkF m 40 #[.val (.ref o), .val (.ref al), .val (.int (Int32.ofNat i)), .val (.int (Int32.ofNat j)), .val (.int (Int32.ofNat ([l0, l1, l2, l3].getD i 0))), .val (.int (Int32.ofNat ([l0, l1, l2, l3].getD j 0))), .val (.int (own_nq ([l0, l1, l2, l3].getD i 0) ([l0, l1, l2, l3].getD j 0)))] [(.int (1 : Int32)), (.int (own_nq ([l0, l1, l2, l3].getD i 0) ([l0, l1, l2, l3].getD j 0)))]))
    have hc40_13 : (own_nq ([l0, l1, l2, l3].getD i 0) ([l0, l1, l2, l3].getD j 0)) = (1 : Int32) := own_nqn hc32_10
    refine own_st (fun _ k => XS.icmpNo X7.here hx rfl (hb hby own_dmethod_3_code_40) rfl (teq hc40_13).2 (XS.iconst X7.here hx rfl (hb hby own_dmethod_3_code_43) (XS.goto X7.here hx rfl (pc0 := 44) (pc' := 48) rfl (hb hby own_dmethod_3_code_44) (by decide) (by decide) k))) ?_
    show own_Go p.tables e below RR (T7.setTop (mkF m 48 #[.val (.ref o), .val (.ref al), .val (.int (Int32.ofNat i)), .val (.int (Int32.ofNat j)), .val (.int (Int32.ofNat ([l0, l1, l2, l3].getD i 0))), .val (.int (Int32.ofNat ([l0, l1, l2, l3].getD j 0))), .val (.int (own_nq ([l0, l1, l2, l3].getD i 0) ([l0, l1, l2, l3].getD j 0)))] [(.int (1 : Int32))]))
    obtain ⟨fs, hrt_, hrun, hended, hW, hsame⟩ := X7.leave (v := some (.int (1 : Int32))) (fun h => by rw [Bd.returns] at h; cases h)
    refine own_fin (retN X7 hx (t := .boolean) Bd.returns (by simp) (hb hby own_dmethod_3_code_48) hrt_) (hRR _ ⟨_, hrun, hended, _, _, rfl, ?_, ⟨_, rfl⟩, hW, hsame.mono (by decide) (by decide)⟩)
    show own_QST Z o al ak kk kl P d l0 l1 l2 l3 i j h0 n0 _ T7.heap _
    have f14 := (Vq3.keep Kq7 (ninS nkl nin0))
    exact ⟨rfl, N7, kk9, _, _, _, _, _, _, Iq3, f14, Vq7⟩
theorem own_and3 (x : Int32) : ∃ i, i < 4 ∧ x &&& (3 : Int32) = Int32.ofNat i := by
  have h := c_mask x 3 2 (by decide) (by decide)
  refine ⟨(x &&& 3).toInt.toNat, by omega, ?_⟩
  apply Int32.toInt_inj.mp
  rw [own_ti (by omega)]
  omega
theorem own_I0 : own_Inv 4 [0, 1, 2, 3] [0, 1, 2, 3] (fun _ => 0) := ⟨rfl, rfl, by decide⟩
theorem own_pd__I_V : parseMethodDescriptor "(I)V" = some ⟨[.int], none⟩ := by decide +kernel
theorem own_pd__Lcom_example_saar_saar_sim_Parts__III_Z : parseMethodDescriptor "(Lcom/example/saar/saar/sim/Parts;[III)Z" = some ⟨[(.object "com/example/saar/saar/sim/Parts"), (.array .int), .int, .int], some .boolean⟩ := by decide +kernel
theorem own_ef0 (m : MethodId) (p1 : Int32) (p2 : Int32) (p3 : Int32) (p4 : Int32) : entryFrame m #[(.int p1), (.int p2), (.int p3), (.int p4)] maxLocals = mkF m 0 #[.val (.int p1), .val (.int p2), .val (.int p3), .val (.int p4), .unset, .unset, .unset, .unset] [] := by first | (simp [entryFrame, mkF, argsToLocals, Value.category, maxLocals]; done) | rfl
def own_Q0 (Z : State) (p1 : Int32) (p2 : Int32) (p3 : Int32) (p4 : Int32) (cK : ClassId) (fa : Addr) (h0 : Heap) (n0 : Nat) (rv__ : Option Value) (h : Heap) (rL__ : List Loc) : Prop := rv__ = some (.int 1) ∧ Fr n0 rL__
set_option maxRecDepth 65536 in
set_option maxHeartbeats 40000000 in
theorem own_rm0 (l : Launch) (Z : State) (a0 : Array Value) (hw : ∀ d ∈ tables_1, d.before a0 Z = true) (ws : List Jvm.Cond) (p1 : Int32) (p2 : Int32) (p3 : Int32) (p4 : Int32) (cK : ClassId) (fa : Addr) (h0 : Heap) (n0 : Nat) (Z0 : n0 ≤ h0.size)  :
    MetFree l x (head1 (Jvm.Cond.code x code maxLocals ret :: ws) room_1) (fun aa__ U => aa__ = #[(.int p1), (.int p2), (.int p3), (.int p4)] ∧ Z.Warmed39 U.vm ∧ U.heap = h0 ∧ U.lambdaAt? (⟨"com/example/saar/saar/sim/Parts", "<init>", "(I)V"⟩ : MethodName) 15 13 own_sig = some (cK, some fa)) (fun _ _ _ _ _ => True) (fun _ U oc_ U' => ∃ rv__ rL__, oc_ = .returned rv__ ∧ own_Q0 Z p1 p2 p3 p4 cK fa h0 n0 rv__ U'.heap rL__ ∧ FrameEnd U oc_ U' rL__ room_1.cells room_1.slots) := by
  refine MetFree.of_bodySF (plainFor_of_name own_pn_com_example_saar_saar_sim_PartsOfPinLaw) hisR ?_
  intro p e s m args below meth c s₁ Bd hml0 hP hK
  obtain ⟨rfl, hZ, hh, hLam⟩ := hP
  have hx := Bd.exec
  have hby := Bd.bytes
  have hml : c.maxLocals = 8 := hml0
  have hown : s.vm.findClass "com/example/saar/saar/sim/PartsOfPinLaw" = some m.cls := findClass_of_methodNamed Bd.named
  have hnm := (name_of_methodNamed Bd.named Bd.method).1
  have X0 : Stand p l e room_1 s m #[(.int p1), (.int p2), (.int p3), (.int p4)] below meth c s₁ [] 0 0 := Stand.of_body Bd
  have e0 : s₁.heap = h0 := by rw [← hh, Bd.state]; rfl
  have N0 := Fr.nil n0
  refine own_in (fun _ k => castTop (own_ef0 m p1 p2 p3 p4) k) ?_
  intro RR hRR
  show own_Go p.tables e below RR (s₁.setTop (mkF m 0 #[.val (.int p1), .val (.int p2), .val (.int p3), .val (.int p4), .unset, .unset, .unset, .unset] []))
  obtain ⟨T1, h1, X1, e1, E1, A1, D1, -, st1⟩ := newO X0 hx hZ hown (hw _ (List.mem_of_getElem? (i := 0) rfl)) (hw _ (List.mem_of_getElem? (i := 1) rfl)) (hw _ (List.mem_of_getElem? (i := 2) rfl)) e0 (g := (mkF m 0 #[.val (.int p1), .val (.int p2), .val (.int p3), .val (.int p4), .unset, .unset, .unset, .unset] [])) rfl (hb hby at_0) (by decide) (by decide)
  obtain ⟨b1, gb1⟩ : ∃ z, z = h0.size := ⟨_, rfl⟩
  rw [← gb1] at A1 D1 st1
  have ge1 : n0 ≤ b1 := Nat.le_trans Z0 (Nat.le_of_eq gb1.symm)
  refine own_st st1 ?_
  have z2 : n0 ≤ h1.size := Nat.le_trans Z0 E1.1
  have F1_11 : Fld Z h1 b1 "com/example/saar/saar/sim/Parts" "known" "[I" .null := D1 (Or.inr (hw _ (List.mem_of_getElem? (i := 11) rfl))) (ty := (.array .int)) (by decide)
  show own_Go p.tables e below RR (T1.setTop (mkF m 3 #[.val (.int p1), .val (.int p2), .val (.int p3), .val (.int p4), .unset, .unset, .unset, .unset] [(.ref b1)]))
  refine own_st (fun _ k => XS.dup X1.here hx rfl (hb hby at_3) rfl rfl (XS.iconst X1.here hx rfl (hb hby at_4) k)) ?_
  show own_Go p.tables e below RR (T1.setTop (mkF m 5 #[.val (.int p1), .val (.int p2), .val (.int p3), .val (.int p4), .unset, .unset, .unset, .unset] [(.int (4 : Int32)), (.ref b1), (.ref b1)]))
  obtain ⟨b3, gb3⟩ : ∃ z, z = h1.size := ⟨_, rfl⟩
  have ge3 : n0 ≤ b3 := Nat.le_trans z2 (Nat.le_of_eq gb3.symm)
  obtain ⟨_, _, ⟨T4, L4, k4, n4⟩, -, X4, ⟨Lc4, hQ4, l4, y4, z4⟩, st4⟩ := X1.specialBack hx (y := (⟨"com/example/saar/saar/sim/Parts", "<init>", "(I)V"⟩ : MethodName)) rfl hown (mvT hZ (hw _ (List.mem_of_getElem? (i := 3) rfl))) (mvT hZ (hw _ (List.mem_of_getElem? (i := 4) rfl))) (mvT hZ (hw _ (List.mem_of_getElem? (i := 5) rfl))) (by decide) (own_backL (W := 1) (own_rmIN l Z a0 hw [] b1 cK fa b3 h1 n0 z2 ge1 gb3 A1 F1_11) hLam hZ (hw _ (List.mem_of_getElem? (i := 5) rfl)) (hw _ (List.mem_of_getElem? (i := 2) rfl)) (by decide) (by decide)) (g := (mkF m 5 #[.val (.int p1), .val (.int p2), .val (.int p3), .val (.int p4), .unset, .unset, .unset, .unset] [(.int (4 : Int32)), (.ref b1), (.ref b1)])) rfl (by rw [hml]; rfl) (Steps.refl _) (a := b1) (argsL := [(.int (4 : Int32))]) (rest := [(.ref b1)]) (lenOf own_pd__I_V rfl) rfl (by show 2 * 0 + _ ≤ _; exact Nat.le_of_eq rfl) (hb hby at_5) (fun _ _ => ⟨rfl, e1, (by decide : 1 + 1 ≤ _), (by decide : 1 + 4 ≤ _)⟩)
  dsimp only [Pt.U, Pt.locs, Pt.cells, Pt.slots] at X4 l4 y4 z4 st4 hQ4
  subst l4 y4 z4
  obtain ⟨rfl, Nq4, Kq4, Eq4, Fq4, kq4, Vq4⟩ := hQ4
  have N4 := Fr.app N0 Nq4
  refine own_st (fun _ k => st4.trans k) ?_
  have z5 : n0 ≤ T4.heap.size := Nat.le_trans z2 Kq4.1
  have nn4 : b1 ≠ b3 := Nat.ne_of_lt (Nat.lt_of_lt_of_le (A1).lt (Nat.le_of_eq gb3.symm))
  show own_Go p.tables e below RR (T4.setTop (mkF m 8 #[.val (.int p1), .val (.int p2), .val (.int p3), .val (.int p4), .unset, .unset, .unset, .unset] [(.ref b1)]))
  refine own_st (fun _ k => XS.astore X4.here hx rfl (hb hby at_8) rfl rfl (l' := #[.val (.int p1), .val (.int p2), .val (.int p3), .val (.int p4), .val (.ref b1), .unset, .unset, .unset]) rfl (XS.iconst X4.here hx rfl (hb hby at_10) k)) ?_
  show own_Go p.tables e below RR (T4.setTop (mkF m 11 #[.val (.int p1), .val (.int p2), .val (.int p3), .val (.int p4), .val (.ref b1), .unset, .unset, .unset] [(.int (4 : Int32))]))
  obtain ⟨T6, h6, k6, X6, e6, E6, A6, st6⟩ := newP X4 hx hZ (hw _ (List.mem_of_getElem? (i := 9) rfl)) rfl (g := (mkF m 11 #[.val (.int p1), .val (.int p2), .val (.int p3), .val (.int p4), .val (.ref b1), .unset, .unset, .unset] [(.int (4 : Int32))])) rfl (hb hby at_11) rfl (by decide) (cap := 4) (by decide) (by decide) (by decide) (by decide)
  obtain ⟨b6, gb6⟩ : ∃ z, z = T4.heap.size := ⟨_, rfl⟩
  rw [← gb6] at A6 st6
  have ge6 : n0 ≤ b6 := Nat.le_trans z5 (Nat.le_of_eq gb6.symm)
  refine own_st st6 ?_
  have z7 : n0 ≤ h6.size := Nat.le_trans z5 E6.1
  have V6 : Arv Z h6 b6 k6 .int (4 : Int32) [(.int (0 : Int32)), (.int (0 : Int32)), (.int (0 : Int32)), (.int (0 : Int32))] (.int (0 : Int32)) := (Arv.new A6 (by decide)).pad (pad_rep [] (.int (0 : Int32)) 4)
  show own_Go p.tables e below RR (T6.setTop (mkF m 13 #[.val (.int p1), .val (.int p2), .val (.int p3), .val (.int p4), .val (.ref b1), .unset, .unset, .unset] [(.ref b6)]))
  refine own_st (fun _ k => XS.dup X6.here hx rfl (hb hby at_13) rfl rfl (XS.iconst X6.here hx rfl (hb hby at_14) (XS.iconst X6.here hx rfl (hb hby at_15) k))) ?_
  show own_Go p.tables e below RR (T6.setTop (mkF m 16 #[.val (.int p1), .val (.int p2), .val (.int p3), .val (.int p4), .val (.ref b1), .unset, .unset, .unset] [(.int (0 : Int32)), (.int (0 : Int32)), (.ref b6), (.ref b6)]))
  obtain ⟨c8, A8, q8, s8, m8, H8, G8⟩ := id V6
  obtain ⟨T9, h9, X9, e9, W9, st9⟩ := stI X6 hx hZ e6 A8 (j := (0 : Int32)) (inb_of s8 ⟨by decide, by decide⟩) (g := (mkF m 16 #[.val (.int p1), .val (.int p2), .val (.int p3), .val (.int p4), .val (.ref b1), .unset, .unset, .unset] [(.int (0 : Int32)), (.int (0 : Int32)), (.ref b6), (.ref b6)])) rfl rfl (hb hby at_16)
  have V9 := Arv.set A8 q8 s8 m8 H8 G8 rfl W9 0 rfl (Nat.le_of_ble_eq_true rfl)
  have V9 : Arv Z h9 b6 k6 .int (4 : Int32) [(.int (0 : Int32)), (.int (0 : Int32)), (.int (0 : Int32)), (.int (0 : Int32))] (.int (0 : Int32)) := V9
  have N9 := Fr.snoc X9 N4 ge6
  refine own_st st9 ?_
  have z10 : n0 ≤ h9.size := Nat.le_trans z7 (Keep.of_wr W9).1
  show own_Go p.tables e below RR (T9.setTop (mkF m 17 #[.val (.int p1), .val (.int p2), .val (.int p3), .val (.int p4), .val (.ref b1), .unset, .unset, .unset] [(.ref b6)]))
  refine own_st (fun _ k => XS.dup X9.here hx rfl (hb hby at_17) rfl rfl (XS.iconst X9.here hx rfl (hb hby at_18) (XS.iconst X9.here hx rfl (hb hby at_19) k))) ?_
  show own_Go p.tables e below RR (T9.setTop (mkF m 20 #[.val (.int p1), .val (.int p2), .val (.int p3), .val (.int p4), .val (.ref b1), .unset, .unset, .unset] [(.int (1 : Int32)), (.int (1 : Int32)), (.ref b6), (.ref b6)]))
  obtain ⟨c11, A11, q11, s11, m11, H11, G11⟩ := id V9
  obtain ⟨T12, h12, X12, e12, W12, st12⟩ := stI X9 hx hZ e9 A11 (j := (1 : Int32)) (inb_of s11 ⟨by decide, by decide⟩) (g := (mkF m 20 #[.val (.int p1), .val (.int p2), .val (.int p3), .val (.int p4), .val (.ref b1), .unset, .unset, .unset] [(.int (1 : Int32)), (.int (1 : Int32)), (.ref b6), (.ref b6)])) rfl rfl (hb hby at_20)
  have V12 := Arv.set A11 q11 s11 m11 H11 G11 rfl W12 1 rfl (Nat.le_of_ble_eq_true rfl)
  have V12 : Arv Z h12 b6 k6 .int (4 : Int32) [(.int (0 : Int32)), (.int (1 : Int32)), (.int (0 : Int32)), (.int (0 : Int32))] (.int (0 : Int32)) := V12
  have N12 := Fr.snoc X12 N9 ge6
  refine own_st st12 ?_
  have z13 : n0 ≤ h12.size := Nat.le_trans z10 (Keep.of_wr W12).1
  show own_Go p.tables e below RR (T12.setTop (mkF m 21 #[.val (.int p1), .val (.int p2), .val (.int p3), .val (.int p4), .val (.ref b1), .unset, .unset, .unset] [(.ref b6)]))
  refine own_st (fun _ k => XS.dup X12.here hx rfl (hb hby at_21) rfl rfl (XS.iconst X12.here hx rfl (hb hby at_22) (XS.iconst X12.here hx rfl (hb hby at_23) k))) ?_
  show own_Go p.tables e below RR (T12.setTop (mkF m 24 #[.val (.int p1), .val (.int p2), .val (.int p3), .val (.int p4), .val (.ref b1), .unset, .unset, .unset] [(.int (2 : Int32)), (.int (2 : Int32)), (.ref b6), (.ref b6)]))
  obtain ⟨c14, A14, q14, s14, m14, H14, G14⟩ := id V12
  obtain ⟨T15, h15, X15, e15, W15, st15⟩ := stI X12 hx hZ e12 A14 (j := (2 : Int32)) (inb_of s14 ⟨by decide, by decide⟩) (g := (mkF m 24 #[.val (.int p1), .val (.int p2), .val (.int p3), .val (.int p4), .val (.ref b1), .unset, .unset, .unset] [(.int (2 : Int32)), (.int (2 : Int32)), (.ref b6), (.ref b6)])) rfl rfl (hb hby at_24)
  have V15 := Arv.set A14 q14 s14 m14 H14 G14 rfl W15 2 rfl (Nat.le_of_ble_eq_true rfl)
  have V15 : Arv Z h15 b6 k6 .int (4 : Int32) [(.int (0 : Int32)), (.int (1 : Int32)), (.int (2 : Int32)), (.int (0 : Int32))] (.int (0 : Int32)) := V15
  have N15 := Fr.snoc X15 N12 ge6
  refine own_st st15 ?_
  have z16 : n0 ≤ h15.size := Nat.le_trans z13 (Keep.of_wr W15).1
  show own_Go p.tables e below RR (T15.setTop (mkF m 25 #[.val (.int p1), .val (.int p2), .val (.int p3), .val (.int p4), .val (.ref b1), .unset, .unset, .unset] [(.ref b6)]))
  refine own_st (fun _ k => XS.dup X15.here hx rfl (hb hby at_25) rfl rfl (XS.iconst X15.here hx rfl (hb hby at_26) (XS.iconst X15.here hx rfl (hb hby at_27) k))) ?_
  show own_Go p.tables e below RR (T15.setTop (mkF m 28 #[.val (.int p1), .val (.int p2), .val (.int p3), .val (.int p4), .val (.ref b1), .unset, .unset, .unset] [(.int (3 : Int32)), (.int (3 : Int32)), (.ref b6), (.ref b6)]))
  obtain ⟨c17, A17, q17, s17, m17, H17, G17⟩ := id V15
  obtain ⟨T18, h18, X18, e18, W18, st18⟩ := stI X15 hx hZ e15 A17 (j := (3 : Int32)) (inb_of s17 ⟨by decide, by decide⟩) (g := (mkF m 28 #[.val (.int p1), .val (.int p2), .val (.int p3), .val (.int p4), .val (.ref b1), .unset, .unset, .unset] [(.int (3 : Int32)), (.int (3 : Int32)), (.ref b6), (.ref b6)])) rfl rfl (hb hby at_28)
  have V18 := Arv.set A17 q17 s17 m17 H17 G17 rfl W18 3 rfl (Nat.le_of_ble_eq_true rfl)
  have V18 : Arv Z h18 b6 k6 .int (4 : Int32) [(.int (0 : Int32)), (.int (1 : Int32)), (.int (2 : Int32)), (.int (3 : Int32))] (.int (0 : Int32)) := V18
  have N18 := Fr.snoc X18 N15 ge6
  refine own_st st18 ?_
  have z19 : n0 ≤ h18.size := Nat.le_trans z16 (Keep.of_wr W18).1
  show own_Go p.tables e below RR (T18.setTop (mkF m 29 #[.val (.int p1), .val (.int p2), .val (.int p3), .val (.int p4), .val (.ref b1), .unset, .unset, .unset] [(.ref b6)]))
  refine own_st (fun _ k => XS.astore X18.here hx rfl (hb hby at_29) rfl rfl (l' := #[.val (.int p1), .val (.int p2), .val (.int p3), .val (.int p4), .val (.ref b1), .val (.ref b6), .unset, .unset]) rfl (XS.iconst X18.here hx rfl (hb hby at_31) (XS.istore X18.here hx rfl (hb hby at_32) rfl (l' := #[.val (.int p1), .val (.int p2), .val (.int p3), .val (.int p4), .val (.ref b1), .val (.ref b6), .val (.int (1 : Int32)), .unset]) rfl (XS.iload X18.here hx rfl (hb hby at_34) rfl (XS.aload X18.here hx rfl (hb hby at_36) rfl rfl (XS.aload X18.here hx rfl (hb hby at_38) rfl rfl (XS.iloadN X18.here hx rfl (hb hby at_40) rfl (XS.iconst X18.here hx rfl (hb hby at_41) k)))))))) ?_
  show own_Go p.tables e below RR (T18.setTop (mkF m 42 #[.val (.int p1), .val (.int p2), .val (.int p3), .val (.int p4), .val (.ref b1), .val (.ref b6), .val (.int (1 : Int32)), .unset] [(.int (3 : Int32)), (.int p1), (.ref b6), (.ref b1), (.int (1 : Int32))]))
  refine own_st (fun _ k => XS.iand X18.here hx rfl (hb hby at_42) rfl k) ?_
  show own_Go p.tables e below RR (T18.setTop (mkF m 43 #[.val (.int p1), .val (.int p2), .val (.int p3), .val (.int p4), .val (.ref b1), .val (.ref b6), .val (.int (1 : Int32)), .unset] [(.int (p1 &&& (3 : Int32))), (.ref b6), (.ref b1), (.int (1 : Int32))]))
  generalize gv20 : (p1 &&& (3 : Int32)) = v20
  show own_Go p.tables e below RR (T18.setTop (mkF m 43 #[.val (.int p1), .val (.int p2), .val (.int p3), .val (.int p4), .val (.ref b1), .val (.ref b6), .val (.int (1 : Int32)), .unset] [(.int v20), (.ref b6), (.ref b1), (.int (1 : Int32))]))
  obtain ⟨iv20, hiv20, rfl⟩ : ∃ i, i < 4 ∧ v20 = Int32.ofNat i := by have q := own_and3 (p1); rw [gv20] at q; exact q
  show own_Go p.tables e below RR (T18.setTop (mkF m 43 #[.val (.int p1), .val (.int p2), .val (.int p3), .val (.int p4), .val (.ref b1), .val (.ref b6), .val (.int (1 : Int32)), .unset] [(.int (Int32.ofNat iv20)), (.ref b6), (.ref b1), (.int (1 : Int32))]))
  refine own_st (fun _ k => XS.iloadN X18.here hx rfl (hb hby at_43) rfl (XS.iconst X18.here hx rfl (hb hby at_44) (XS.iushr X18.here hx rfl (hb hby at_45) rfl (XS.iconst X18.here hx rfl (hb hby at_46) (XS.iand X18.here hx rfl (hb hby at_47) rfl k))))) ?_
  show own_Go p.tables e below RR (T18.setTop (mkF m 48 #[.val (.int p1), .val (.int p2), .val (.int p3), .val (.int p4), .val (.ref b1), .val (.ref b6), .val (.int (1 : Int32)), .unset] [(.int (((p1.toUInt32 >>> ((2 : Int32) &&& 31).toUInt32).toInt32) &&& (3 : Int32))), (.int (Int32.ofNat iv20)), (.ref b6), (.ref b1), (.int (1 : Int32))]))
  generalize gv21 : (((p1.toUInt32 >>> ((2 : Int32) &&& 31).toUInt32).toInt32) &&& (3 : Int32)) = v21
  show own_Go p.tables e below RR (T18.setTop (mkF m 48 #[.val (.int p1), .val (.int p2), .val (.int p3), .val (.int p4), .val (.ref b1), .val (.ref b6), .val (.int (1 : Int32)), .unset] [(.int v21), (.int (Int32.ofNat iv20)), (.ref b6), (.ref b1), (.int (1 : Int32))]))
  obtain ⟨iv21, hiv21, rfl⟩ : ∃ i, i < 4 ∧ v21 = Int32.ofNat i := by have q := own_and3 (((p1.toUInt32 >>> ((2 : Int32) &&& 31).toUInt32).toInt32)); rw [gv21] at q; exact q
  show own_Go p.tables e below RR (T18.setTop (mkF m 48 #[.val (.int p1), .val (.int p2), .val (.int p3), .val (.int p4), .val (.ref b1), .val (.ref b6), .val (.int (1 : Int32)), .unset] [(.int (Int32.ofNat iv21)), (.int (Int32.ofNat iv20)), (.ref b6), (.ref b1), (.int (1 : Int32))]))
  have ne22 : b3 ≠ b6 := (Nat.ne_of_lt (Nat.lt_of_lt_of_le Vq4.lt (Nat.le_of_eq gb6.symm)))
  have f23 := (((((Vq4.ext E6).other W9 ne22).other W12 ne22).other W15 ne22).other W18 ne22)
  have f24 := (((((Eq4.ext E6).wr W9).wr W12).wr W15).wr W18)
  have ne25 : b1 ≠ b6 := (Nat.ne_of_lt (Nat.lt_of_lt_of_le Eq4.lt (Nat.le_of_eq gb6.symm)))
  have f26 := (((((Fq4.ext E6).other W9 (Or.inl ne25)).other W12 (Or.inl ne25)).other W15 (Or.inl ne25)).other W18 (Or.inl ne25))
  obtain ⟨_, _, ⟨T27, L27, k27, n27⟩, -, X27, ⟨Lc27, hQ27, l27, y27, z27⟩, st27⟩ := Jvm.LawKit.callS X18 hx (y := (⟨"com/example/saar/saar/sim/PartsOfPinLaw", "step", "(Lcom/example/saar/saar/sim/Parts;[III)Z"⟩ : MethodName)) hown (mvT hZ (hw _ (List.mem_of_getElem? (i := 28) rfl))) (mvT hZ (hw _ (List.mem_of_getElem? (i := 29) rfl))) (mvT hZ (hw _ (List.mem_of_getElem? (i := 30) rfl))) (mvT hZ (hw _ (List.mem_of_getElem? (i := 31) rfl))) (by decide) (backOf (W := 1) (own_rmST l Z a0 hw [] b1 b6 b3 kq4 k6 [0, 1, 2, 3] (fun _ => 0) 0 1 2 3 iv20 iv21 h18 n0 z19 f24 f26 f23 V18 nn4 ne25 ne22 ge3 ge6 own_I0 hiv20 hiv21) hZ (hw _ (List.mem_of_getElem? (i := 31) rfl)) (hw _ (List.mem_of_getElem? (i := 30) rfl)) (by decide) (by decide)) (g := (mkF m 48 #[.val (.int p1), .val (.int p2), .val (.int p3), .val (.int p4), .val (.ref b1), .val (.ref b6), .val (.int (1 : Int32)), .unset] [(.int (Int32.ofNat iv21)), (.int (Int32.ofNat iv20)), (.ref b6), (.ref b1), (.int (1 : Int32))])) rfl (by rw [hml]; rfl) (argsL := [(.ref b1), (.ref b6), (.int (Int32.ofNat iv20)), (.int (Int32.ofNat iv21))]) (rest := [(.int (1 : Int32))]) (lenOf own_pd__Lcom_example_saar_saar_sim_Parts__III_Z rfl) rfl (by show 2 * 0 + _ ≤ _; exact Nat.le_of_eq rfl) (hb hby at_48) (fun _ _ => ⟨rfl, e18, (by decide : 3 + 0 ≤ _), (by decide : 9 + 0 ≤ _)⟩)
  dsimp only [Pt.U, Pt.locs, Pt.cells, Pt.slots] at X27 l27 y27 z27 st27 hQ27
  subst l27 y27 z27
  obtain ⟨rfl, Nq27, Kq27, Pq27, dq27, l0q27, l1q27, l2q27, l3q27, Iq27, Vq27, Wq27⟩ := hQ27
  have N27 := Fr.app N18 Nq27
  refine own_st st27 ?_
  have z28 : n0 ≤ T27.heap.size := Nat.le_trans z19 Kq27.1
  show own_Go p.tables e below RR (T27.setTop (mkF m 51 #[.val (.int p1), .val (.int p2), .val (.int p3), .val (.int p4), .val (.ref b1), .val (.ref b6), .val (.int (1 : Int32)), .unset] [(.int (1 : Int32)), (.int (1 : Int32))]))
  refine own_st (fun _ k => XS.iand X27.here hx rfl (hb hby at_51) rfl (XS.istore X27.here hx rfl (hb hby at_52) rfl (l' := #[.val (.int p1), .val (.int p2), .val (.int p3), .val (.int p4), .val (.ref b1), .val (.ref b6), .val (.int (1 : Int32)), .unset]) rfl (XS.iload X27.here hx rfl (hb hby at_54) rfl (XS.aload X27.here hx rfl (hb hby at_56) rfl rfl (XS.aload X27.here hx rfl (hb hby at_58) rfl rfl (XS.iloadN X27.here hx rfl (hb hby at_60) rfl (XS.iconst X27.here hx rfl (hb hby at_61) (XS.iand X27.here hx rfl (hb hby at_62) rfl k)))))))) ?_
  show own_Go p.tables e below RR (T27.setTop (mkF m 63 #[.val (.int p1), .val (.int p2), .val (.int p3), .val (.int p4), .val (.ref b1), .val (.ref b6), .val (.int (1 : Int32)), .unset] [(.int (p2 &&& (3 : Int32))), (.ref b6), (.ref b1), (.int (1 : Int32))]))
  generalize gv29 : (p2 &&& (3 : Int32)) = v29
  show own_Go p.tables e below RR (T27.setTop (mkF m 63 #[.val (.int p1), .val (.int p2), .val (.int p3), .val (.int p4), .val (.ref b1), .val (.ref b6), .val (.int (1 : Int32)), .unset] [(.int v29), (.ref b6), (.ref b1), (.int (1 : Int32))]))
  obtain ⟨iv29, hiv29, rfl⟩ : ∃ i, i < 4 ∧ v29 = Int32.ofNat i := by have q := own_and3 (p2); rw [gv29] at q; exact q
  show own_Go p.tables e below RR (T27.setTop (mkF m 63 #[.val (.int p1), .val (.int p2), .val (.int p3), .val (.int p4), .val (.ref b1), .val (.ref b6), .val (.int (1 : Int32)), .unset] [(.int (Int32.ofNat iv29)), (.ref b6), (.ref b1), (.int (1 : Int32))]))
  refine own_st (fun _ k => XS.iloadN X27.here hx rfl (hb hby at_63) rfl (XS.iconst X27.here hx rfl (hb hby at_64) (XS.iushr X27.here hx rfl (hb hby at_65) rfl (XS.iconst X27.here hx rfl (hb hby at_66) (XS.iand X27.here hx rfl (hb hby at_67) rfl k))))) ?_
  show own_Go p.tables e below RR (T27.setTop (mkF m 68 #[.val (.int p1), .val (.int p2), .val (.int p3), .val (.int p4), .val (.ref b1), .val (.ref b6), .val (.int (1 : Int32)), .unset] [(.int (((p2.toUInt32 >>> ((2 : Int32) &&& 31).toUInt32).toInt32) &&& (3 : Int32))), (.int (Int32.ofNat iv29)), (.ref b6), (.ref b1), (.int (1 : Int32))]))
  generalize gv30 : (((p2.toUInt32 >>> ((2 : Int32) &&& 31).toUInt32).toInt32) &&& (3 : Int32)) = v30
  show own_Go p.tables e below RR (T27.setTop (mkF m 68 #[.val (.int p1), .val (.int p2), .val (.int p3), .val (.int p4), .val (.ref b1), .val (.ref b6), .val (.int (1 : Int32)), .unset] [(.int v30), (.int (Int32.ofNat iv29)), (.ref b6), (.ref b1), (.int (1 : Int32))]))
  obtain ⟨iv30, hiv30, rfl⟩ : ∃ i, i < 4 ∧ v30 = Int32.ofNat i := by have q := own_and3 (((p2.toUInt32 >>> ((2 : Int32) &&& 31).toUInt32).toInt32)); rw [gv30] at q; exact q
  show own_Go p.tables e below RR (T27.setTop (mkF m 68 #[.val (.int p1), .val (.int p2), .val (.int p3), .val (.int p4), .val (.ref b1), .val (.ref b6), .val (.int (1 : Int32)), .unset] [(.int (Int32.ofNat iv30)), (.int (Int32.ofNat iv29)), (.ref b6), (.ref b1), (.int (1 : Int32))]))
  have f31 := (f24.keep Kq27)
  have f32 := (f26.keep Kq27 (ninS nn4 (ninS ne25 nin0)))
  obtain ⟨_, _, ⟨T33, L33, k33, n33⟩, -, X33, ⟨Lc33, hQ33, l33, y33, z33⟩, st33⟩ := Jvm.LawKit.callS X27 hx (y := (⟨"com/example/saar/saar/sim/PartsOfPinLaw", "step", "(Lcom/example/saar/saar/sim/Parts;[III)Z"⟩ : MethodName)) hown (mvT hZ (hw _ (List.mem_of_getElem? (i := 28) rfl))) (mvT hZ (hw _ (List.mem_of_getElem? (i := 29) rfl))) (mvT hZ (hw _ (List.mem_of_getElem? (i := 30) rfl))) (mvT hZ (hw _ (List.mem_of_getElem? (i := 31) rfl))) (by decide) (backOf (W := 1) (own_rmST l Z a0 hw [] b1 b6 b3 kq4 k6 Pq27 dq27 l0q27 l1q27 l2q27 l3q27 iv29 iv30 T27.heap n0 z28 f31 f32 Vq27 Wq27 nn4 ne25 ne22 ge3 ge6 Iq27 hiv29 hiv30) hZ (hw _ (List.mem_of_getElem? (i := 31) rfl)) (hw _ (List.mem_of_getElem? (i := 30) rfl)) (by decide) (by decide)) (g := (mkF m 68 #[.val (.int p1), .val (.int p2), .val (.int p3), .val (.int p4), .val (.ref b1), .val (.ref b6), .val (.int (1 : Int32)), .unset] [(.int (Int32.ofNat iv30)), (.int (Int32.ofNat iv29)), (.ref b6), (.ref b1), (.int (1 : Int32))])) rfl (by rw [hml]; rfl) (argsL := [(.ref b1), (.ref b6), (.int (Int32.ofNat iv29)), (.int (Int32.ofNat iv30))]) (rest := [(.int (1 : Int32))]) (lenOf own_pd__Lcom_example_saar_saar_sim_Parts__III_Z rfl) rfl (by show 2 * 0 + _ ≤ _; exact Nat.le_of_eq rfl) (hb hby at_68) (fun _ _ => ⟨rfl, rfl, (by decide : 3 + 0 ≤ _), (by decide : 9 + 0 ≤ _)⟩)
  dsimp only [Pt.U, Pt.locs, Pt.cells, Pt.slots] at X33 l33 y33 z33 st33 hQ33
  subst l33 y33 z33
  obtain ⟨rfl, Nq33, Kq33, Pq33, dq33, l0q33, l1q33, l2q33, l3q33, Iq33, Vq33, Wq33⟩ := hQ33
  have N33 := Fr.app N27 Nq33
  refine own_st st33 ?_
  have z34 : n0 ≤ T33.heap.size := Nat.le_trans z28 Kq33.1
  show own_Go p.tables e below RR (T33.setTop (mkF m 71 #[.val (.int p1), .val (.int p2), .val (.int p3), .val (.int p4), .val (.ref b1), .val (.ref b6), .val (.int (1 : Int32)), .unset] [(.int (1 : Int32)), (.int (1 : Int32))]))
  refine own_st (fun _ k => XS.iand X33.here hx rfl (hb hby at_71) rfl (XS.istore X33.here hx rfl (hb hby at_72) rfl (l' := #[.val (.int p1), .val (.int p2), .val (.int p3), .val (.int p4), .val (.ref b1), .val (.ref b6), .val (.int (1 : Int32)), .unset]) rfl (XS.iload X33.here hx rfl (hb hby at_74) rfl (XS.aload X33.here hx rfl (hb hby at_76) rfl rfl (XS.aload X33.here hx rfl (hb hby at_78) rfl rfl (XS.iloadN X33.here hx rfl (hb hby at_80) rfl (XS.iconst X33.here hx rfl (hb hby at_81) (XS.iand X33.here hx rfl (hb hby at_82) rfl k)))))))) ?_
  show own_Go p.tables e below RR (T33.setTop (mkF m 83 #[.val (.int p1), .val (.int p2), .val (.int p3), .val (.int p4), .val (.ref b1), .val (.ref b6), .val (.int (1 : Int32)), .unset] [(.int (p3 &&& (3 : Int32))), (.ref b6), (.ref b1), (.int (1 : Int32))]))
  generalize gv35 : (p3 &&& (3 : Int32)) = v35
  show own_Go p.tables e below RR (T33.setTop (mkF m 83 #[.val (.int p1), .val (.int p2), .val (.int p3), .val (.int p4), .val (.ref b1), .val (.ref b6), .val (.int (1 : Int32)), .unset] [(.int v35), (.ref b6), (.ref b1), (.int (1 : Int32))]))
  obtain ⟨iv35, hiv35, rfl⟩ : ∃ i, i < 4 ∧ v35 = Int32.ofNat i := by have q := own_and3 (p3); rw [gv35] at q; exact q
  show own_Go p.tables e below RR (T33.setTop (mkF m 83 #[.val (.int p1), .val (.int p2), .val (.int p3), .val (.int p4), .val (.ref b1), .val (.ref b6), .val (.int (1 : Int32)), .unset] [(.int (Int32.ofNat iv35)), (.ref b6), (.ref b1), (.int (1 : Int32))]))
  refine own_st (fun _ k => XS.iloadN X33.here hx rfl (hb hby at_83) rfl (XS.iconst X33.here hx rfl (hb hby at_84) (XS.iushr X33.here hx rfl (hb hby at_85) rfl (XS.iconst X33.here hx rfl (hb hby at_86) (XS.iand X33.here hx rfl (hb hby at_87) rfl k))))) ?_
  show own_Go p.tables e below RR (T33.setTop (mkF m 88 #[.val (.int p1), .val (.int p2), .val (.int p3), .val (.int p4), .val (.ref b1), .val (.ref b6), .val (.int (1 : Int32)), .unset] [(.int (((p3.toUInt32 >>> ((2 : Int32) &&& 31).toUInt32).toInt32) &&& (3 : Int32))), (.int (Int32.ofNat iv35)), (.ref b6), (.ref b1), (.int (1 : Int32))]))
  generalize gv36 : (((p3.toUInt32 >>> ((2 : Int32) &&& 31).toUInt32).toInt32) &&& (3 : Int32)) = v36
  show own_Go p.tables e below RR (T33.setTop (mkF m 88 #[.val (.int p1), .val (.int p2), .val (.int p3), .val (.int p4), .val (.ref b1), .val (.ref b6), .val (.int (1 : Int32)), .unset] [(.int v36), (.int (Int32.ofNat iv35)), (.ref b6), (.ref b1), (.int (1 : Int32))]))
  obtain ⟨iv36, hiv36, rfl⟩ : ∃ i, i < 4 ∧ v36 = Int32.ofNat i := by have q := own_and3 (((p3.toUInt32 >>> ((2 : Int32) &&& 31).toUInt32).toInt32)); rw [gv36] at q; exact q
  show own_Go p.tables e below RR (T33.setTop (mkF m 88 #[.val (.int p1), .val (.int p2), .val (.int p3), .val (.int p4), .val (.ref b1), .val (.ref b6), .val (.int (1 : Int32)), .unset] [(.int (Int32.ofNat iv36)), (.int (Int32.ofNat iv35)), (.ref b6), (.ref b1), (.int (1 : Int32))]))
  have f37 := (f31.keep Kq33)
  have f38 := (f32.keep Kq33 (ninS nn4 (ninS ne25 nin0)))
  obtain ⟨_, _, ⟨T39, L39, k39, n39⟩, -, X39, ⟨Lc39, hQ39, l39, y39, z39⟩, st39⟩ := Jvm.LawKit.callS X33 hx (y := (⟨"com/example/saar/saar/sim/PartsOfPinLaw", "step", "(Lcom/example/saar/saar/sim/Parts;[III)Z"⟩ : MethodName)) hown (mvT hZ (hw _ (List.mem_of_getElem? (i := 28) rfl))) (mvT hZ (hw _ (List.mem_of_getElem? (i := 29) rfl))) (mvT hZ (hw _ (List.mem_of_getElem? (i := 30) rfl))) (mvT hZ (hw _ (List.mem_of_getElem? (i := 31) rfl))) (by decide) (backOf (W := 1) (own_rmST l Z a0 hw [] b1 b6 b3 kq4 k6 Pq33 dq33 l0q33 l1q33 l2q33 l3q33 iv35 iv36 T33.heap n0 z34 f37 f38 Vq33 Wq33 nn4 ne25 ne22 ge3 ge6 Iq33 hiv35 hiv36) hZ (hw _ (List.mem_of_getElem? (i := 31) rfl)) (hw _ (List.mem_of_getElem? (i := 30) rfl)) (by decide) (by decide)) (g := (mkF m 88 #[.val (.int p1), .val (.int p2), .val (.int p3), .val (.int p4), .val (.ref b1), .val (.ref b6), .val (.int (1 : Int32)), .unset] [(.int (Int32.ofNat iv36)), (.int (Int32.ofNat iv35)), (.ref b6), (.ref b1), (.int (1 : Int32))])) rfl (by rw [hml]; rfl) (argsL := [(.ref b1), (.ref b6), (.int (Int32.ofNat iv35)), (.int (Int32.ofNat iv36))]) (rest := [(.int (1 : Int32))]) (lenOf own_pd__Lcom_example_saar_saar_sim_Parts__III_Z rfl) rfl (by show 2 * 0 + _ ≤ _; exact Nat.le_of_eq rfl) (hb hby at_88) (fun _ _ => ⟨rfl, rfl, (by decide : 3 + 0 ≤ _), (by decide : 9 + 0 ≤ _)⟩)
  dsimp only [Pt.U, Pt.locs, Pt.cells, Pt.slots] at X39 l39 y39 z39 st39 hQ39
  subst l39 y39 z39
  obtain ⟨rfl, Nq39, Kq39, Pq39, dq39, l0q39, l1q39, l2q39, l3q39, Iq39, Vq39, Wq39⟩ := hQ39
  have N39 := Fr.app N33 Nq39
  refine own_st st39 ?_
  have z40 : n0 ≤ T39.heap.size := Nat.le_trans z34 Kq39.1
  show own_Go p.tables e below RR (T39.setTop (mkF m 91 #[.val (.int p1), .val (.int p2), .val (.int p3), .val (.int p4), .val (.ref b1), .val (.ref b6), .val (.int (1 : Int32)), .unset] [(.int (1 : Int32)), (.int (1 : Int32))]))
  refine own_st (fun _ k => XS.iand X39.here hx rfl (hb hby at_91) rfl (XS.istore X39.here hx rfl (hb hby at_92) rfl (l' := #[.val (.int p1), .val (.int p2), .val (.int p3), .val (.int p4), .val (.ref b1), .val (.ref b6), .val (.int (1 : Int32)), .unset]) rfl (XS.iloadN X39.here hx rfl (hb hby at_94) rfl (XS.iconst X39.here hx rfl (hb hby at_95) (XS.iand X39.here hx rfl (hb hby at_96) rfl k))))) ?_
  show own_Go p.tables e below RR (T39.setTop (mkF m 97 #[.val (.int p1), .val (.int p2), .val (.int p3), .val (.int p4), .val (.ref b1), .val (.ref b6), .val (.int (1 : Int32)), .unset] [(.int (p4 &&& (3 : Int32)))]))
  generalize gv41 : (p4 &&& (3 : Int32)) = v41
  show own_Go p.tables e below RR (T39.setTop (mkF m 97 #[.val (.int p1), .val (.int p2), .val (.int p3), .val (.int p4), .val (.ref b1), .val (.ref b6), .val (.int (1 : Int32)), .unset] [(.int v41)]))
  obtain ⟨iv41, hiv41, rfl⟩ : ∃ i, i < 4 ∧ v41 = Int32.ofNat i := by have q := own_and3 (p4); rw [gv41] at q; exact q
  show own_Go p.tables e below RR (T39.setTop (mkF m 97 #[.val (.int p1), .val (.int p2), .val (.int p3), .val (.int p4), .val (.ref b1), .val (.ref b6), .val (.int (1 : Int32)), .unset] [(.int (Int32.ofNat iv41))]))
  refine own_st (fun _ k => XS.istore X39.here hx rfl (hb hby at_97) rfl (l' := #[.val (.int p1), .val (.int p2), .val (.int p3), .val (.int p4), .val (.ref b1), .val (.ref b6), .val (.int (1 : Int32)), .val (.int (Int32.ofNat iv41))]) rfl (XS.iload X39.here hx rfl (hb hby at_99) rfl (XS.aload X39.here hx rfl (hb hby at_101) rfl rfl (XS.iload X39.here hx rfl (hb hby at_103) rfl k)))) ?_
  show own_Go p.tables e below RR (T39.setTop (mkF m 105 #[.val (.int p1), .val (.int p2), .val (.int p3), .val (.int p4), .val (.ref b1), .val (.ref b6), .val (.int (1 : Int32)), .val (.int (Int32.ofNat iv41))] [(.int (Int32.ofNat iv41)), (.ref b1), (.int (1 : Int32))]))
  have f42 := (f38.keep Kq39 (ninS nn4 (ninS ne25 nin0)))
  have f44 := (f37.keep Kq39)
  obtain ⟨cq43, kq43, q43a, q43b, q43c⟩ := isOf hZ rfl f44
  obtain ⟨_, _, ⟨T43, L43, k43, n43⟩, -, X43, ⟨Lc43, hQ43, l43, y43, z43⟩, st43⟩ := X39.virtualBack hx (y := (⟨"com/example/saar/saar/sim/Parts", "of", "(I)I"⟩ : MethodName)) (z := (⟨"com/example/saar/saar/sim/Parts", "of", "(I)I"⟩ : MethodName)) hown (mvT hZ (hw _ (List.mem_of_getElem? (i := 45) rfl))) (mvT hZ (hw _ (List.mem_of_getElem? (i := 38) rfl))) (notFace_of_selects (args := #[]) (mvT hZ (hw _ (List.mem_of_getElem? (i := 40) rfl)))) (mvT hZ (hw _ (List.mem_of_getElem? (i := 40) rfl))) (mvT hZ (hw _ (List.mem_of_getElem? (i := 39) rfl))) (by decide) (backOf (W := 1) (own_rmOF l Z a0 hw [] b1 b3 kq4 Pq39 [l0q39, l1q39, l2q39, l3q39] dq39 iv41 T39.heap n0 z40 f42 Vq39 nn4 ge3 Iq39 hiv41) hZ (hw _ (List.mem_of_getElem? (i := 41) rfl)) (hw _ (List.mem_of_getElem? (i := 2) rfl)) (by decide) (by decide)) q43a q43c (g := (mkF m 105 #[.val (.int p1), .val (.int p2), .val (.int p3), .val (.int p4), .val (.ref b1), .val (.ref b6), .val (.int (1 : Int32)), .val (.int (Int32.ofNat iv41))] [(.int (Int32.ofNat iv41)), (.ref b1), (.int (1 : Int32))])) rfl (by rw [hml]; rfl) (Steps.refl _) (argsL := [(.int (Int32.ofNat iv41))]) (rest := [(.int (1 : Int32))]) (lenOf own_pd__I_I rfl) rfl (by show 2 * 0 + _ ≤ _; exact Nat.le_of_eq rfl) (hb hby at_105) (fun _ _ => ⟨rfl, rfl, (by decide : 3 + 0 ≤ _), (by decide : 9 + 0 ≤ _)⟩)
  dsimp only [Pt.U, Pt.locs, Pt.cells, Pt.slots] at X43 l43 y43 z43 st43 hQ43
  subst l43 y43 z43
  obtain ⟨rfl, Nq43, Kq43, Pq43, Iq43, Vq43⟩ := hQ43
  have N43 := Fr.app N39 Nq43
  refine own_st (fun _ k => st43.trans k) ?_
  have z45 : n0 ≤ T43.heap.size := Nat.le_trans z40 Kq43.1
  show own_Go p.tables e below RR (T43.setTop (mkF m 108 #[.val (.int p1), .val (.int p2), .val (.int p3), .val (.int p4), .val (.ref b1), .val (.ref b6), .val (.int (1 : Int32)), .val (.int (Int32.ofNat iv41))] [(.int (Int32.ofNat ([l0q39, l1q39, l2q39, l3q39].getD iv41 0))), (.int (1 : Int32))]))
  refine own_st (fun _ k => XS.aload X43.here hx rfl (hb hby at_108) rfl rfl (XS.iload X43.here hx rfl (hb hby at_110) rfl k)) ?_
  show own_Go p.tables e below RR (T43.setTop (mkF m 112 #[.val (.int p1), .val (.int p2), .val (.int p3), .val (.int p4), .val (.ref b1), .val (.ref b6), .val (.int (1 : Int32)), .val (.int (Int32.ofNat iv41))] [(.int (Int32.ofNat iv41)), (.ref b6), (.int (Int32.ofNat ([l0q39, l1q39, l2q39, l3q39].getD iv41 0))), (.int (1 : Int32))]))
  have f46 := (Wq39.keep Kq43 (ninS (Ne.symm ne22) nin0))
  obtain ⟨c47, A47, q47, s47, m47, H47, G47⟩ := id f46
  have b47 := inb_of (j := (Int32.ofNat iv41)) s47 (own_nin (n := 4) hiv41 (by decide))
  refine own_st (fun _ k => X43.iaload hx (j := (Int32.ofNat iv41)) (v := (.int (Int32.ofNat ([l0q39, l1q39, l2q39, l3q39].getD iv41 0)))) (by exact A47.1) (State.isArrayOf_alike hZ.alike A47.2.1) A47.2.2 b47 (Has.at H47 b47 (own_get (n := 4) (P := [l0q39, l1q39, l2q39, l3q39]) rfl hiv41 (by decide))) (g := (mkF m 112 #[.val (.int p1), .val (.int p2), .val (.int p3), .val (.int p4), .val (.ref b1), .val (.ref b6), .val (.int (1 : Int32)), .val (.int (Int32.ofNat iv41))] [(.int (Int32.ofNat iv41)), (.ref b6), (.int (Int32.ofNat ([l0q39, l1q39, l2q39, l3q39].getD iv41 0))), (.int (1 : Int32))])) rfl rfl (hb hby at_112) _ k) ?_
  show own_Go p.tables e below RR (T43.setTop (mkF m 113 #[.val (.int p1), .val (.int p2), .val (.int p3), .val (.int p4), .val (.ref b1), .val (.ref b6), .val (.int (1 : Int32)), .val (.int (Int32.ofNat iv41))] [(.int (Int32.ofNat ([l0q39, l1q39, l2q39, l3q39].getD iv41 0))), (.int (Int32.ofNat ([l0q39, l1q39, l2q39, l3q39].getD iv41 0))), (.int (1 : Int32))]))
  refine own_st (fun _ k => XS.icmpNo X43.here hx rfl (hb hby at_113) rfl (teq rfl).2 (XS.iconst X43.here hx rfl (hb hby at_116) (XS.goto X43.here hx rfl (pc0 := 117) (pc' := 121) rfl (hb hby at_117) (by decide) (by decide) (XS.iand X43.here hx rfl (hb hby at_121) rfl (XS.istore X43.here hx rfl (hb hby at_122) rfl (l' := #[.val (.int p1), .val (.int p2), .val (.int p3), .val (.int p4), .val (.ref b1), .val (.ref b6), .val (.int (1 : Int32)), .val (.int (Int32.ofNat iv41))]) rfl (XS.iload X43.here hx rfl (hb hby at_124) rfl (XS.aload X43.here hx rfl (hb hby at_126) rfl rfl (XS.iconst X43.here hx rfl (hb hby at_128) k)))))))) ?_
  show own_Go p.tables e below RR (T43.setTop (mkF m 129 #[.val (.int p1), .val (.int p2), .val (.int p3), .val (.int p4), .val (.ref b1), .val (.ref b6), .val (.int (1 : Int32)), .val (.int (Int32.ofNat iv41))] [(.int (0 : Int32)), (.ref b1), (.int (1 : Int32))]))
  have f48 := (f42.keep Kq43 (ninS nn4 nin0))
  have f50 := (f44.keep Kq43)
  obtain ⟨cq49, kq49, q49a, q49b, q49c⟩ := isOf hZ rfl f50
  obtain ⟨_, _, ⟨T49, L49, k49, n49⟩, -, X49, ⟨Lc49, hQ49, l49, y49, z49⟩, st49⟩ := X43.virtualBack hx (y := (⟨"com/example/saar/saar/sim/Parts", "of", "(I)I"⟩ : MethodName)) (z := (⟨"com/example/saar/saar/sim/Parts", "of", "(I)I"⟩ : MethodName)) hown (mvT hZ (hw _ (List.mem_of_getElem? (i := 45) rfl))) (mvT hZ (hw _ (List.mem_of_getElem? (i := 38) rfl))) (notFace_of_selects (args := #[]) (mvT hZ (hw _ (List.mem_of_getElem? (i := 40) rfl)))) (mvT hZ (hw _ (List.mem_of_getElem? (i := 40) rfl))) (mvT hZ (hw _ (List.mem_of_getElem? (i := 39) rfl))) (by decide) (backOf (W := 1) (own_rmOF l Z a0 hw [] b1 b3 kq4 Pq43 [l0q39, l1q39, l2q39, l3q39] dq39 0 T43.heap n0 z45 f48 Vq43 nn4 ge3 Iq43 (by decide)) hZ (hw _ (List.mem_of_getElem? (i := 41) rfl)) (hw _ (List.mem_of_getElem? (i := 2) rfl)) (by decide) (by decide)) q49a q49c (g := (mkF m 129 #[.val (.int p1), .val (.int p2), .val (.int p3), .val (.int p4), .val (.ref b1), .val (.ref b6), .val (.int (1 : Int32)), .val (.int (Int32.ofNat iv41))] [(.int (0 : Int32)), (.ref b1), (.int (1 : Int32))])) rfl (by rw [hml]; rfl) (Steps.refl _) (argsL := [(.int (0 : Int32))]) (rest := [(.int (1 : Int32))]) (lenOf own_pd__I_I rfl) rfl (by show 2 * 0 + _ ≤ _; exact Nat.le_of_eq rfl) (hb hby at_129) (fun _ _ => ⟨rfl, rfl, (by decide : 3 + 0 ≤ _), (by decide : 9 + 0 ≤ _)⟩)
  dsimp only [Pt.U, Pt.locs, Pt.cells, Pt.slots] at X49 l49 y49 z49 st49 hQ49
  subst l49 y49 z49
  obtain ⟨rfl, Nq49, Kq49, Pq49, Iq49, Vq49⟩ := hQ49
  have N49 := Fr.app N43 Nq49
  refine own_st (fun _ k => st49.trans k) ?_
  have z51 : n0 ≤ T49.heap.size := Nat.le_trans z45 Kq49.1
  show own_Go p.tables e below RR (T49.setTop (mkF m 132 #[.val (.int p1), .val (.int p2), .val (.int p3), .val (.int p4), .val (.ref b1), .val (.ref b6), .val (.int (1 : Int32)), .val (.int (Int32.ofNat iv41))] [(.int (Int32.ofNat l0q39)), (.int (1 : Int32))]))
  refine own_st (fun _ k => XS.aload X49.here hx rfl (hb hby at_132) rfl rfl (XS.iconst X49.here hx rfl (hb hby at_134) k)) ?_
  show own_Go p.tables e below RR (T49.setTop (mkF m 135 #[.val (.int p1), .val (.int p2), .val (.int p3), .val (.int p4), .val (.ref b1), .val (.ref b6), .val (.int (1 : Int32)), .val (.int (Int32.ofNat iv41))] [(.int (0 : Int32)), (.ref b6), (.int (Int32.ofNat l0q39)), (.int (1 : Int32))]))
  have f52 := (f46.keep Kq49 (ninS (Ne.symm ne22) nin0))
  obtain ⟨c53, A53, q53, s53, m53, H53, G53⟩ := id f52
  have b53 := inb_of (j := (0 : Int32)) s53 ⟨by decide, by decide⟩
  refine own_st (fun _ k => X49.iaload hx (j := (0 : Int32)) (v := (.int (Int32.ofNat l0q39))) (by exact A53.1) (State.isArrayOf_alike hZ.alike A53.2.1) A53.2.2 b53 (Has.at H53 b53 rfl) (g := (mkF m 135 #[.val (.int p1), .val (.int p2), .val (.int p3), .val (.int p4), .val (.ref b1), .val (.ref b6), .val (.int (1 : Int32)), .val (.int (Int32.ofNat iv41))] [(.int (0 : Int32)), (.ref b6), (.int (Int32.ofNat l0q39)), (.int (1 : Int32))])) rfl rfl (hb hby at_135) _ k) ?_
  show own_Go p.tables e below RR (T49.setTop (mkF m 136 #[.val (.int p1), .val (.int p2), .val (.int p3), .val (.int p4), .val (.ref b1), .val (.ref b6), .val (.int (1 : Int32)), .val (.int (Int32.ofNat iv41))] [(.int (Int32.ofNat l0q39)), (.int (Int32.ofNat l0q39)), (.int (1 : Int32))]))
  refine own_st (fun _ k => XS.icmpNo X49.here hx rfl (hb hby at_136) rfl (teq rfl).2 (XS.iconst X49.here hx rfl (hb hby at_139) (XS.goto X49.here hx rfl (pc0 := 140) (pc' := 144) rfl (hb hby at_140) (by decide) (by decide) (XS.iand X49.here hx rfl (hb hby at_144) rfl (XS.istore X49.here hx rfl (hb hby at_145) rfl (l' := #[.val (.int p1), .val (.int p2), .val (.int p3), .val (.int p4), .val (.ref b1), .val (.ref b6), .val (.int (1 : Int32)), .val (.int (Int32.ofNat iv41))]) rfl (XS.iload X49.here hx rfl (hb hby at_147) rfl (XS.aload X49.here hx rfl (hb hby at_149) rfl rfl (XS.iconst X49.here hx rfl (hb hby at_151) k)))))))) ?_
  show own_Go p.tables e below RR (T49.setTop (mkF m 152 #[.val (.int p1), .val (.int p2), .val (.int p3), .val (.int p4), .val (.ref b1), .val (.ref b6), .val (.int (1 : Int32)), .val (.int (Int32.ofNat iv41))] [(.int (1 : Int32)), (.ref b1), (.int (1 : Int32))]))
  have f54 := (f48.keep Kq49 (ninS nn4 nin0))
  have f56 := (f50.keep Kq49)
  obtain ⟨cq55, kq55, q55a, q55b, q55c⟩ := isOf hZ rfl f56
  obtain ⟨_, _, ⟨T55, L55, k55, n55⟩, -, X55, ⟨Lc55, hQ55, l55, y55, z55⟩, st55⟩ := X49.virtualBack hx (y := (⟨"com/example/saar/saar/sim/Parts", "of", "(I)I"⟩ : MethodName)) (z := (⟨"com/example/saar/saar/sim/Parts", "of", "(I)I"⟩ : MethodName)) hown (mvT hZ (hw _ (List.mem_of_getElem? (i := 45) rfl))) (mvT hZ (hw _ (List.mem_of_getElem? (i := 38) rfl))) (notFace_of_selects (args := #[]) (mvT hZ (hw _ (List.mem_of_getElem? (i := 40) rfl)))) (mvT hZ (hw _ (List.mem_of_getElem? (i := 40) rfl))) (mvT hZ (hw _ (List.mem_of_getElem? (i := 39) rfl))) (by decide) (backOf (W := 1) (own_rmOF l Z a0 hw [] b1 b3 kq4 Pq49 [l0q39, l1q39, l2q39, l3q39] dq39 1 T49.heap n0 z51 f54 Vq49 nn4 ge3 Iq49 (by decide)) hZ (hw _ (List.mem_of_getElem? (i := 41) rfl)) (hw _ (List.mem_of_getElem? (i := 2) rfl)) (by decide) (by decide)) q55a q55c (g := (mkF m 152 #[.val (.int p1), .val (.int p2), .val (.int p3), .val (.int p4), .val (.ref b1), .val (.ref b6), .val (.int (1 : Int32)), .val (.int (Int32.ofNat iv41))] [(.int (1 : Int32)), (.ref b1), (.int (1 : Int32))])) rfl (by rw [hml]; rfl) (Steps.refl _) (argsL := [(.int (1 : Int32))]) (rest := [(.int (1 : Int32))]) (lenOf own_pd__I_I rfl) rfl (by show 2 * 0 + _ ≤ _; exact Nat.le_of_eq rfl) (hb hby at_152) (fun _ _ => ⟨rfl, rfl, (by decide : 3 + 0 ≤ _), (by decide : 9 + 0 ≤ _)⟩)
  dsimp only [Pt.U, Pt.locs, Pt.cells, Pt.slots] at X55 l55 y55 z55 st55 hQ55
  subst l55 y55 z55
  obtain ⟨rfl, Nq55, Kq55, Pq55, Iq55, Vq55⟩ := hQ55
  have N55 := Fr.app N49 Nq55
  refine own_st (fun _ k => st55.trans k) ?_
  have z57 : n0 ≤ T55.heap.size := Nat.le_trans z51 Kq55.1
  show own_Go p.tables e below RR (T55.setTop (mkF m 155 #[.val (.int p1), .val (.int p2), .val (.int p3), .val (.int p4), .val (.ref b1), .val (.ref b6), .val (.int (1 : Int32)), .val (.int (Int32.ofNat iv41))] [(.int (Int32.ofNat l1q39)), (.int (1 : Int32))]))
  refine own_st (fun _ k => XS.aload X55.here hx rfl (hb hby at_155) rfl rfl (XS.iconst X55.here hx rfl (hb hby at_157) k)) ?_
  show own_Go p.tables e below RR (T55.setTop (mkF m 158 #[.val (.int p1), .val (.int p2), .val (.int p3), .val (.int p4), .val (.ref b1), .val (.ref b6), .val (.int (1 : Int32)), .val (.int (Int32.ofNat iv41))] [(.int (1 : Int32)), (.ref b6), (.int (Int32.ofNat l1q39)), (.int (1 : Int32))]))
  have f58 := (f52.keep Kq55 (ninS (Ne.symm ne22) nin0))
  obtain ⟨c59, A59, q59, s59, m59, H59, G59⟩ := id f58
  have b59 := inb_of (j := (1 : Int32)) s59 ⟨by decide, by decide⟩
  refine own_st (fun _ k => X55.iaload hx (j := (1 : Int32)) (v := (.int (Int32.ofNat l1q39))) (by exact A59.1) (State.isArrayOf_alike hZ.alike A59.2.1) A59.2.2 b59 (Has.at H59 b59 rfl) (g := (mkF m 158 #[.val (.int p1), .val (.int p2), .val (.int p3), .val (.int p4), .val (.ref b1), .val (.ref b6), .val (.int (1 : Int32)), .val (.int (Int32.ofNat iv41))] [(.int (1 : Int32)), (.ref b6), (.int (Int32.ofNat l1q39)), (.int (1 : Int32))])) rfl rfl (hb hby at_158) _ k) ?_
  show own_Go p.tables e below RR (T55.setTop (mkF m 159 #[.val (.int p1), .val (.int p2), .val (.int p3), .val (.int p4), .val (.ref b1), .val (.ref b6), .val (.int (1 : Int32)), .val (.int (Int32.ofNat iv41))] [(.int (Int32.ofNat l1q39)), (.int (Int32.ofNat l1q39)), (.int (1 : Int32))]))
  refine own_st (fun _ k => XS.icmpNo X55.here hx rfl (hb hby at_159) rfl (teq rfl).2 (XS.iconst X55.here hx rfl (hb hby at_162) (XS.goto X55.here hx rfl (pc0 := 163) (pc' := 167) rfl (hb hby at_163) (by decide) (by decide) (XS.iand X55.here hx rfl (hb hby at_167) rfl (XS.istore X55.here hx rfl (hb hby at_168) rfl (l' := #[.val (.int p1), .val (.int p2), .val (.int p3), .val (.int p4), .val (.ref b1), .val (.ref b6), .val (.int (1 : Int32)), .val (.int (Int32.ofNat iv41))]) rfl (XS.iload X55.here hx rfl (hb hby at_170) rfl (XS.aload X55.here hx rfl (hb hby at_172) rfl rfl (XS.iconst X55.here hx rfl (hb hby at_174) k)))))))) ?_
  show own_Go p.tables e below RR (T55.setTop (mkF m 175 #[.val (.int p1), .val (.int p2), .val (.int p3), .val (.int p4), .val (.ref b1), .val (.ref b6), .val (.int (1 : Int32)), .val (.int (Int32.ofNat iv41))] [(.int (2 : Int32)), (.ref b1), (.int (1 : Int32))]))
  have f60 := (f54.keep Kq55 (ninS nn4 nin0))
  have f62 := (f56.keep Kq55)
  obtain ⟨cq61, kq61, q61a, q61b, q61c⟩ := isOf hZ rfl f62
  obtain ⟨_, _, ⟨T61, L61, k61, n61⟩, -, X61, ⟨Lc61, hQ61, l61, y61, z61⟩, st61⟩ := X55.virtualBack hx (y := (⟨"com/example/saar/saar/sim/Parts", "of", "(I)I"⟩ : MethodName)) (z := (⟨"com/example/saar/saar/sim/Parts", "of", "(I)I"⟩ : MethodName)) hown (mvT hZ (hw _ (List.mem_of_getElem? (i := 45) rfl))) (mvT hZ (hw _ (List.mem_of_getElem? (i := 38) rfl))) (notFace_of_selects (args := #[]) (mvT hZ (hw _ (List.mem_of_getElem? (i := 40) rfl)))) (mvT hZ (hw _ (List.mem_of_getElem? (i := 40) rfl))) (mvT hZ (hw _ (List.mem_of_getElem? (i := 39) rfl))) (by decide) (backOf (W := 1) (own_rmOF l Z a0 hw [] b1 b3 kq4 Pq55 [l0q39, l1q39, l2q39, l3q39] dq39 2 T55.heap n0 z57 f60 Vq55 nn4 ge3 Iq55 (by decide)) hZ (hw _ (List.mem_of_getElem? (i := 41) rfl)) (hw _ (List.mem_of_getElem? (i := 2) rfl)) (by decide) (by decide)) q61a q61c (g := (mkF m 175 #[.val (.int p1), .val (.int p2), .val (.int p3), .val (.int p4), .val (.ref b1), .val (.ref b6), .val (.int (1 : Int32)), .val (.int (Int32.ofNat iv41))] [(.int (2 : Int32)), (.ref b1), (.int (1 : Int32))])) rfl (by rw [hml]; rfl) (Steps.refl _) (argsL := [(.int (2 : Int32))]) (rest := [(.int (1 : Int32))]) (lenOf own_pd__I_I rfl) rfl (by show 2 * 0 + _ ≤ _; exact Nat.le_of_eq rfl) (hb hby at_175) (fun _ _ => ⟨rfl, rfl, (by decide : 3 + 0 ≤ _), (by decide : 9 + 0 ≤ _)⟩)
  dsimp only [Pt.U, Pt.locs, Pt.cells, Pt.slots] at X61 l61 y61 z61 st61 hQ61
  subst l61 y61 z61
  obtain ⟨rfl, Nq61, Kq61, Pq61, Iq61, Vq61⟩ := hQ61
  have N61 := Fr.app N55 Nq61
  refine own_st (fun _ k => st61.trans k) ?_
  have z63 : n0 ≤ T61.heap.size := Nat.le_trans z57 Kq61.1
  show own_Go p.tables e below RR (T61.setTop (mkF m 178 #[.val (.int p1), .val (.int p2), .val (.int p3), .val (.int p4), .val (.ref b1), .val (.ref b6), .val (.int (1 : Int32)), .val (.int (Int32.ofNat iv41))] [(.int (Int32.ofNat l2q39)), (.int (1 : Int32))]))
  refine own_st (fun _ k => XS.aload X61.here hx rfl (hb hby at_178) rfl rfl (XS.iconst X61.here hx rfl (hb hby at_180) k)) ?_
  show own_Go p.tables e below RR (T61.setTop (mkF m 181 #[.val (.int p1), .val (.int p2), .val (.int p3), .val (.int p4), .val (.ref b1), .val (.ref b6), .val (.int (1 : Int32)), .val (.int (Int32.ofNat iv41))] [(.int (2 : Int32)), (.ref b6), (.int (Int32.ofNat l2q39)), (.int (1 : Int32))]))
  have f64 := (f58.keep Kq61 (ninS (Ne.symm ne22) nin0))
  obtain ⟨c65, A65, q65, s65, m65, H65, G65⟩ := id f64
  have b65 := inb_of (j := (2 : Int32)) s65 ⟨by decide, by decide⟩
  refine own_st (fun _ k => X61.iaload hx (j := (2 : Int32)) (v := (.int (Int32.ofNat l2q39))) (by exact A65.1) (State.isArrayOf_alike hZ.alike A65.2.1) A65.2.2 b65 (Has.at H65 b65 rfl) (g := (mkF m 181 #[.val (.int p1), .val (.int p2), .val (.int p3), .val (.int p4), .val (.ref b1), .val (.ref b6), .val (.int (1 : Int32)), .val (.int (Int32.ofNat iv41))] [(.int (2 : Int32)), (.ref b6), (.int (Int32.ofNat l2q39)), (.int (1 : Int32))])) rfl rfl (hb hby at_181) _ k) ?_
  show own_Go p.tables e below RR (T61.setTop (mkF m 182 #[.val (.int p1), .val (.int p2), .val (.int p3), .val (.int p4), .val (.ref b1), .val (.ref b6), .val (.int (1 : Int32)), .val (.int (Int32.ofNat iv41))] [(.int (Int32.ofNat l2q39)), (.int (Int32.ofNat l2q39)), (.int (1 : Int32))]))
  refine own_st (fun _ k => XS.icmpNo X61.here hx rfl (hb hby at_182) rfl (teq rfl).2 (XS.iconst X61.here hx rfl (hb hby at_185) (XS.goto X61.here hx rfl (pc0 := 186) (pc' := 190) rfl (hb hby at_186) (by decide) (by decide) (XS.iand X61.here hx rfl (hb hby at_190) rfl (XS.istore X61.here hx rfl (hb hby at_191) rfl (l' := #[.val (.int p1), .val (.int p2), .val (.int p3), .val (.int p4), .val (.ref b1), .val (.ref b6), .val (.int (1 : Int32)), .val (.int (Int32.ofNat iv41))]) rfl (XS.iload X61.here hx rfl (hb hby at_193) rfl (XS.aload X61.here hx rfl (hb hby at_195) rfl rfl (XS.iconst X61.here hx rfl (hb hby at_197) k)))))))) ?_
  show own_Go p.tables e below RR (T61.setTop (mkF m 198 #[.val (.int p1), .val (.int p2), .val (.int p3), .val (.int p4), .val (.ref b1), .val (.ref b6), .val (.int (1 : Int32)), .val (.int (Int32.ofNat iv41))] [(.int (3 : Int32)), (.ref b1), (.int (1 : Int32))]))
  have f66 := (f60.keep Kq61 (ninS nn4 nin0))
  have f68 := (f62.keep Kq61)
  obtain ⟨cq67, kq67, q67a, q67b, q67c⟩ := isOf hZ rfl f68
  obtain ⟨_, _, ⟨T67, L67, k67, n67⟩, -, X67, ⟨Lc67, hQ67, l67, y67, z67⟩, st67⟩ := X61.virtualBack hx (y := (⟨"com/example/saar/saar/sim/Parts", "of", "(I)I"⟩ : MethodName)) (z := (⟨"com/example/saar/saar/sim/Parts", "of", "(I)I"⟩ : MethodName)) hown (mvT hZ (hw _ (List.mem_of_getElem? (i := 45) rfl))) (mvT hZ (hw _ (List.mem_of_getElem? (i := 38) rfl))) (notFace_of_selects (args := #[]) (mvT hZ (hw _ (List.mem_of_getElem? (i := 40) rfl)))) (mvT hZ (hw _ (List.mem_of_getElem? (i := 40) rfl))) (mvT hZ (hw _ (List.mem_of_getElem? (i := 39) rfl))) (by decide) (backOf (W := 1) (own_rmOF l Z a0 hw [] b1 b3 kq4 Pq61 [l0q39, l1q39, l2q39, l3q39] dq39 3 T61.heap n0 z63 f66 Vq61 nn4 ge3 Iq61 (by decide)) hZ (hw _ (List.mem_of_getElem? (i := 41) rfl)) (hw _ (List.mem_of_getElem? (i := 2) rfl)) (by decide) (by decide)) q67a q67c (g := (mkF m 198 #[.val (.int p1), .val (.int p2), .val (.int p3), .val (.int p4), .val (.ref b1), .val (.ref b6), .val (.int (1 : Int32)), .val (.int (Int32.ofNat iv41))] [(.int (3 : Int32)), (.ref b1), (.int (1 : Int32))])) rfl (by rw [hml]; rfl) (Steps.refl _) (argsL := [(.int (3 : Int32))]) (rest := [(.int (1 : Int32))]) (lenOf own_pd__I_I rfl) rfl (by show 2 * 0 + _ ≤ _; exact Nat.le_of_eq rfl) (hb hby at_198) (fun _ _ => ⟨rfl, rfl, (by decide : 3 + 0 ≤ _), (by decide : 9 + 0 ≤ _)⟩)
  dsimp only [Pt.U, Pt.locs, Pt.cells, Pt.slots] at X67 l67 y67 z67 st67 hQ67
  subst l67 y67 z67
  obtain ⟨rfl, Nq67, Kq67, Pq67, Iq67, Vq67⟩ := hQ67
  have N67 := Fr.app N61 Nq67
  refine own_st (fun _ k => st67.trans k) ?_
  have z69 : n0 ≤ T67.heap.size := Nat.le_trans z63 Kq67.1
  show own_Go p.tables e below RR (T67.setTop (mkF m 201 #[.val (.int p1), .val (.int p2), .val (.int p3), .val (.int p4), .val (.ref b1), .val (.ref b6), .val (.int (1 : Int32)), .val (.int (Int32.ofNat iv41))] [(.int (Int32.ofNat l3q39)), (.int (1 : Int32))]))
  refine own_st (fun _ k => XS.aload X67.here hx rfl (hb hby at_201) rfl rfl (XS.iconst X67.here hx rfl (hb hby at_203) k)) ?_
  show own_Go p.tables e below RR (T67.setTop (mkF m 204 #[.val (.int p1), .val (.int p2), .val (.int p3), .val (.int p4), .val (.ref b1), .val (.ref b6), .val (.int (1 : Int32)), .val (.int (Int32.ofNat iv41))] [(.int (3 : Int32)), (.ref b6), (.int (Int32.ofNat l3q39)), (.int (1 : Int32))]))
  have f70 := (f64.keep Kq67 (ninS (Ne.symm ne22) nin0))
  obtain ⟨c71, A71, q71, s71, m71, H71, G71⟩ := id f70
  have b71 := inb_of (j := (3 : Int32)) s71 ⟨by decide, by decide⟩
  refine own_st (fun _ k => X67.iaload hx (j := (3 : Int32)) (v := (.int (Int32.ofNat l3q39))) (by exact A71.1) (State.isArrayOf_alike hZ.alike A71.2.1) A71.2.2 b71 (Has.at H71 b71 rfl) (g := (mkF m 204 #[.val (.int p1), .val (.int p2), .val (.int p3), .val (.int p4), .val (.ref b1), .val (.ref b6), .val (.int (1 : Int32)), .val (.int (Int32.ofNat iv41))] [(.int (3 : Int32)), (.ref b6), (.int (Int32.ofNat l3q39)), (.int (1 : Int32))])) rfl rfl (hb hby at_204) _ k) ?_
  show own_Go p.tables e below RR (T67.setTop (mkF m 205 #[.val (.int p1), .val (.int p2), .val (.int p3), .val (.int p4), .val (.ref b1), .val (.ref b6), .val (.int (1 : Int32)), .val (.int (Int32.ofNat iv41))] [(.int (Int32.ofNat l3q39)), (.int (Int32.ofNat l3q39)), (.int (1 : Int32))]))
  refine own_st (fun _ k => XS.icmpNo X67.here hx rfl (hb hby at_205) rfl (teq rfl).2 (XS.iconst X67.here hx rfl (hb hby at_208) (XS.goto X67.here hx rfl (pc0 := 209) (pc' := 213) rfl (hb hby at_209) (by decide) (by decide) (XS.iand X67.here hx rfl (hb hby at_213) rfl (XS.istore X67.here hx rfl (hb hby at_214) rfl (l' := #[.val (.int p1), .val (.int p2), .val (.int p3), .val (.int p4), .val (.ref b1), .val (.ref b6), .val (.int (1 : Int32)), .val (.int (Int32.ofNat iv41))]) rfl (XS.iload X67.here hx rfl (hb hby at_216) rfl k)))))) ?_
  show own_Go p.tables e below RR (T67.setTop (mkF m 218 #[.val (.int p1), .val (.int p2), .val (.int p3), .val (.int p4), .val (.ref b1), .val (.ref b6), .val (.int (1 : Int32)), .val (.int (Int32.ofNat iv41))] [(.int (1 : Int32))]))
  obtain ⟨fs, hrt_, hrun, hended, hW, hsame⟩ := X67.leave (v := some (.int (1 : Int32))) (fun h => by rw [Bd.returns] at h; cases h)
  refine own_fin (retN X67 hx (t := .boolean) Bd.returns (by simp) (hb hby at_218) hrt_) (hRR _ ⟨_, hrun, hended, _, _, rfl, ?_, ⟨_, rfl⟩, hW, hsame.mono (by decide) (by decide)⟩)
  show own_Q0 Z p1 p2 p3 p4 cK fa h0 n0 _ T67.heap _
  exact ⟨rfl, N67⟩
set_option maxRecDepth 65536 in
set_option maxHeartbeats 40000000 in
theorem own_comes {Post : Tables → Env → Array Value → State → Outcome → State → Prop} (hpost : ∀ tb e args s v u, (limb_1_1.after args s (.returned v) u = true ∧ limb_1_2.after args s (.returned v) u = true ∧ True) → ReturnedEndW s (.returned v) u (Jvm.fieldLocs frame_1_writes args s ++ Jvm.arrayLocs frame_1_arrays args s ++ Jvm.staticLocs frame_1_statics s) 16 128 → Post tb e args s (.returned v) u) :
    ArmFor flags0 classFile x code maxLocals ret World_1 tables_1 room_1 Calls_1 rest_1 Pre_1 Post := by
  intro l hfl _ _ p e ha hc hk s m args below hf hA hF happ hP
  obtain ⟨hcalls, hrest, hpre⟩ := hP
  obtain ⟨-, -, -, hnamed, -, -, -, hat⟩ := (Spec.applies_iff hf).mp happ
  obtain ⟨hg, hn⟩ := and_e (Cond.before_iff.mp (show (Jvm.Cond.and given_1 narrow_1).before args s = true from hpre))
  obtain ⟨u1a, u1b⟩ := and_e hg
  obtain ⟨u2a, u2b⟩ := and_e u1b
  obtain ⟨u3a, u3b⟩ := and_e u2b
  obtain ⟨u4a, u4b⟩ := and_e u3b
  obtain ⟨w0, w1, w2, w3, rfl⟩ : ∃ w0 w1 w2 w3 : Value, args = #[w0, w1, w2, w3] := by
    have hs : args.size = 4 := by simpa [Cond.value, given_1] using u1a
    obtain ⟨L⟩ := args
    match L, hs with
    | [w0, w1, w2, w3], _ => exact ⟨w0, w1, w2, w3, rfl⟩
  have hw := fun d (hd : d ∈ tables_1) => atoms_spec (ws := Jvm.Cond.code x code maxLocals ret :: tables_1) hat d (List.mem_cons_of_mem _ hd)
  have hfit : Fit s := fun {y c} hc i hi => by
    obtain ⟨ha, rfl⟩ := Array.getElem?_eq_some_iff.mp hc
    have q := List.all_eq_true.mp ((Array.all_eq_true_iff_forall_mem.mp hF) _ (Array.getElem_mem ha)) i (List.mem_range.mpr hi)
    simpa [Array.getElem?_eq_getElem hi] using q
  obtain ⟨i0, ei0⟩ := is_v u2a
  obtain rfl : w0 = (.int i0) := Option.some.inj ei0
  obtain ⟨i1, ei1⟩ := is_v u3a
  obtain rfl : w1 = (.int i1) := Option.some.inj ei1
  obtain ⟨i2, ei2⟩ := is_v u4a
  obtain rfl : w2 = (.int i2) := Option.some.inj ei2
  obtain ⟨i3, ei3⟩ := is_v u4b
  obtain rfl : w3 = (.int i3) := Option.some.inj ei3
  obtain ⟨cK, fa, hLam⟩ := own_site (hw _ (List.mem_of_getElem? (i := 12) rfl)) rfl
  obtain ⟨n, o, h1, h2, h3, _, L, rfl, ⟨rfl, N⟩, hq⟩ := own_rm0 l s _ hw tables_1 i0 i1 i2 i3 cK fa s.heap s.heap.size (Nat.le_refl _)  p e ha hc hk s m _ below hf ((Spec.applies_iff_loose hf).mp happ).1 ⟨rfl, State.Warmed39.refl s, rfl, hLam⟩ trivial
  refine ⟨n, _, h1, h2, h3, hpost _ _ _ _ _ _ ⟨Cond.after_iff.mpr rfl, Cond.after_iff.mpr (eq_i res_at (Term.int_eval (1)) rfl), trivial⟩ (ReturnedEndW.of_narrow hq.1 hq.2.1 ((hq.2.2.sift fun y hy => Or.inr (N y hy)).mono (by decide) (by decide)))⟩
theorem main_1_1 : Claimed_1_1 := own_comes fun _ _ _ _ _ _ h hF => ⟨h.1, hF⟩
theorem main_1_2 : Claimed_1_2 := own_comes fun _ _ _ _ _ _ h hF => ⟨h.2.1, hF⟩
end Jvm.Pilot.@@N@@
namespace Jvm.Pilot.@@N@@
open Jvm Jvm.ClassFile Sem Op Lib Jvm.Free Jvm.Stand Jvm.Pilot.@@N@@.Jvm.D
/-! MADE BY PROGRAM (witnessworld.py) out of the Statement's table words and the real class files: 13 classes; the members and pool entries that the words name. The judged class is class 1, her method 1. -/
namespace start1
open Jvm.ClassFile
def u (s : String) : CpInfo := .utf8 (stringToUtf16 s)
/-- a pool by its gaps: so many unusable entries, then the entry; so many at the end -/
def gap : Nat → List CpInfo → List CpInfo
  | 0, r => r
  | n + 1, r => .unusable :: gap n r
def poolList (es : List (Nat × CpInfo)) (last : Nat) : List CpInfo := es.foldr (fun e r => gap e.1 (e.2 :: r)) (gap last [])
def pool (es : List (Nat × CpInfo)) (last : Nat) : Array CpInfo := ⟨poolList es last⟩
def fileOf (pool : Array CpInfo) (this : Nat) (attrs : Array Attribute := #[]) (ms : Array MethodInfo := #[]) (fl : Nat := 33) (sup : Nat := 0) (ifs : Array Nat := #[]) (fds : Array FieldInfo := #[]) : ClassFile where
  minorVersion := 0
  majorVersion := 65
  constantPool := pool
  accessFlags := fl
  thisClass := this
  superClass := sup
  interfaces := ifs
  fields := fds
  methods := ms
  attributes := attrs
def plain (name : String) (sup : Option ClassId) : Class where
  name := name
  kind := .ordinary
  loader := none
  accessFlags := 33
  super := sup
  interfaces := #[]
  cf := none
  fields := #[]
  methods := #[]
  instanceTypes := #[]
  staticTypes := #[]
  resolved := #[]
  callSites := []
  init := .initialized
  statics := none
  mirror := none

def pool0 : Array CpInfo := pool [(5, u "<init>"), (0, u "()V"), (1, .class_ 10), (1, u "java/lang/Object")] 113

def k0c0 : Code := { maxStack := 0, maxLocals := 1, code := object_method_1_code, exceptionTable := #[], attributes := #[] }
def k0m0 : Method := { name := "<init>", desc := "()V", sig := { parameters := [], returnType := none }, accessFlags := 1, code := some k0c0 }
/-- java/lang/Object -/
def k0 : Class := { plain "java/lang/Object" none with
  accessFlags := 33
  interfaces := #[]
  cf := some (fileOf pool0 8 #[] #[{ accessFlags := 1, nameIndex := 5, descriptorIndex := 6, attributes := #[] }] 33 0 #[] #[])
  fields := #[]
  methods := #[k0m0]
  instanceTypes := #[]
  staticTypes := #[]
  resolved := Array.replicate 124 none
  statics := none }

def pool1 : Array CpInfo := pool [(2, .class_ 4), (1, u "java/lang/Object"), (0, u "<init>"), (0, u "()V"), (0, .class_ 8), (0, u "com/example/saar/saar/sim/Parts"), (0, .methodref 7 10), (0, .nameAndType 5 11), (0, u "(I)V"), (0, .methodref 13 14), (0, .class_ 15), (0, .nameAndType 16 17), (0, u "com/example/saar/saar/sim/PartsOfPinLaw"), (0, u "step"), (0, u "(Lcom/example/saar/saar/sim/Parts;[III)Z"), (0, .methodref 7 19), (0, .nameAndType 20 21), (0, u "of"), (0, u "(I)I"), (0, .methodref 7 23), (0, .nameAndType 24 25), (0, u "join"), (0, u "(II)Z"), (0, .methodref 13 27), (0, .nameAndType 28 29), (0, u "relabel"), (0, u "([III)V"), (2, u "law"), (0, u "(IIII)Z")] 5

def k1m0 : Method := { name := "<init>", desc := "()V", sig := { parameters := [], returnType := none }, accessFlags := 1, code := none }
def k1c1 : Code := { maxStack := 6, maxLocals := 8, code := code, exceptionTable := #[], attributes := #[] }
def k1m1 : Method := { name := "law", desc := "(IIII)Z", sig := { parameters := [.int, .int, .int, .int], returnType := some .boolean }, accessFlags := 9, code := some k1c1 }
def k1c2 : Code := { maxStack := 3, maxLocals := 7, code := method_3_code, exceptionTable := #[], attributes := #[] }
def k1m2 : Method := { name := "step", desc := "(Lcom/example/saar/saar/sim/Parts;[III)Z", sig := { parameters := [(.object "com/example/saar/saar/sim/Parts"), (.array .int), .int, .int], returnType := some .boolean }, accessFlags := 10, code := some k1c2 }
def k1c3 : Code := { maxStack := 3, maxLocals := 3, code := method_4_code, exceptionTable := #[], attributes := #[] }
def k1m3 : Method := { name := "relabel", desc := "([III)V", sig := { parameters := [(.array .int), .int, .int], returnType := none }, accessFlags := 10, code := some k1c3 }
/-- com/example/saar/saar/sim/PartsOfPinLaw -/
def k1 : Class := { plain "com/example/saar/saar/sim/PartsOfPinLaw" (some 0) with
  accessFlags := 49
  interfaces := #[]
  cf := some (fileOf pool1 13 #[] #[{ accessFlags := 1, nameIndex := 5, descriptorIndex := 6, attributes := #[] }, { accessFlags := 9, nameIndex := 32, descriptorIndex := 33, attributes := #[] }, { accessFlags := 10, nameIndex := 16, descriptorIndex := 17, attributes := #[] }, { accessFlags := 10, nameIndex := 28, descriptorIndex := 29, attributes := #[] }] 49 2 #[] #[])
  fields := #[]
  methods := #[k1m0, k1m1, k1m2, k1m3]
  instanceTypes := #[]
  staticTypes := #[]
  resolved := Array.replicate 39 none
  statics := none }

def pool2 : Array CpInfo := pool [(1, .methodref 2 3), (0, .class_ 4), (0, .nameAndType 5 6), (0, u "java/lang/Object"), (0, u "<init>"), (0, u "()V"), (0, .fieldref 8 9), (0, .class_ 10), (0, .nameAndType 11 12), (0, u "com/example/saar/saar/sim/Parts"), (0, u "known"), (0, u "[I"), (0, .invokeDynamic 0 14), (0, .nameAndType 15 16), (0, u "applyAsInt"), (0, u "()Ljava/util/function/IntUnaryOperator;"), (0, .methodref 18 19), (0, .class_ 20), (0, .nameAndType 21 22), (0, u "java/util/Arrays"), (0, u "setAll"), (0, u "([ILjava/util/function/IntUnaryOperator;)V"), (0, .methodref 8 24), (0, .nameAndType 25 26), (0, u "of"), (0, u "(I)I"), (0, u "(I)V"), (2, u "join"), (0, u "(II)Z"), (1, u "lambda$new$0"), (3, .methodType 26), (0, .methodHandle 6 39), (0, .methodref 8 40), (0, .nameAndType 33 26), (0, .methodHandle 6 42), (0, .methodref 43 44), (0, .class_ 45), (0, .nameAndType 46 47), (0, u "java/lang/invoke/LambdaMetafactory"), (0, u "metafactory"), (0, u "(Ljava/lang/invoke/MethodHandles$Lookup;Ljava/lang/String;Ljava/lang/invoke/MethodType;Ljava/lang/invoke/MethodType;Ljava/lang/invoke/MethodHandle;Ljava/lang/invoke/MethodType;)Ljava/lang/invoke/CallSite;")] 6

def k2c0 : Code := { maxStack := 2, maxLocals := 2, code := prog_63_method_1_code, exceptionTable := #[], attributes := #[] }
def k2m0 : Method := { name := "<init>", desc := "(I)V", sig := { parameters := [.int], returnType := none }, accessFlags := 0, code := some k2c0 }
def k2c1 : Code := { maxStack := 3, maxLocals := 5, code := prog_63_method_2_code, exceptionTable := #[], attributes := #[] }
def k2m1 : Method := { name := "join", desc := "(II)Z", sig := { parameters := [.int, .int], returnType := some .boolean }, accessFlags := 0, code := some k2c1 }
def k2c2 : Code := { maxStack := 5, maxLocals := 3, code := prog_63_method_3_code, exceptionTable := #[], attributes := #[] }
def k2m2 : Method := { name := "of", desc := "(I)I", sig := { parameters := [.int], returnType := some .int }, accessFlags := 0, code := some k2c2 }
def k2c3 : Code := { maxStack := 1, maxLocals := 1, code := prog_63_method_4_code, exceptionTable := #[], attributes := #[] }
def k2m3 : Method := { name := "lambda$new$0", desc := "(I)I", sig := { parameters := [.int], returnType := some .int }, accessFlags := 4106, code := some k2c3 }
/-- com/example/saar/saar/sim/Parts -/
def k2 : Class := { plain "com/example/saar/saar/sim/Parts" (some 0) with
  accessFlags := 48
  interfaces := #[]
  cf := some (fileOf pool2 8 #[.bootstrapMethods #[⟨41, #[37, 38, 37]⟩]] #[{ accessFlags := 0, nameIndex := 5, descriptorIndex := 27, attributes := #[] }, { accessFlags := 0, nameIndex := 30, descriptorIndex := 31, attributes := #[] }, { accessFlags := 0, nameIndex := 25, descriptorIndex := 26, attributes := #[] }, { accessFlags := 4106, nameIndex := 33, descriptorIndex := 26, attributes := #[] }] 48 2 #[] #[{ accessFlags := 18, nameIndex := 11, descriptorIndex := 12, attributes := #[] }])
  fields := #[{ name := "known", type := (.array .int), accessFlags := 18, slot := 0, constantValue := 0 }]
  methods := #[k2m0, k2m1, k2m2, k2m3]
  instanceTypes := #[(.array .int)]
  staticTypes := #[]
  resolved := Array.replicate 54 none
  callSites := [(0, 15, .constant 0)]
  statics := none }

def pool3 : Array CpInfo := pool [(9, u "applyAsInt"), (6, .class_ 18), (1, u "java/util/function/IntUnaryOperator"), (0, u "(I)I"), (0, .class_ 21), (0, u "java/lang/Object")] 46

def k3m0 : Method := { name := "applyAsInt", desc := "(I)I", sig := { parameters := [.int], returnType := some .int }, accessFlags := 1025, code := none }
/-- java/util/function/IntUnaryOperator -/
def k3 : Class := { plain "java/util/function/IntUnaryOperator" (some 0) with
  accessFlags := 1537
  interfaces := #[]
  cf := some (fileOf pool3 16 #[] #[{ accessFlags := 1025, nameIndex := 9, descriptorIndex := 19, attributes := #[] }] 1537 20 #[] #[])
  fields := #[]
  methods := #[k3m0]
  instanceTypes := #[]
  staticTypes := #[]
  resolved := Array.replicate 68 none
  statics := none }

def pool4 : Array CpInfo := pool [(2, .class_ 4), (1, u "java/lang/Object"), (0, u "<init>"), (0, u "()V"), (7, .class_ 16), (1, u "java/util/Arrays"), (57, .class_ 76), (1, u "java/util/Arrays$NaturalOrder"), (36, .class_ 115), (1, u "java/util/Arrays$LegacyMergeSort"), (1, u "Z"), (57, .methodref 176 177), (0, .class_ 178), (0, .nameAndType 179 180), (0, u "java/util/Objects"), (0, u "requireNonNull"), (0, u "(Ljava/lang/Object;)Ljava/lang/Object;"), (194, .class_ 376), (0, u "java/util/Arrays$ArrayList"), (68, u "$assertionsDisabled"), (136, .interfaceMethodref 583 584), (0, .class_ 585), (0, .nameAndType 586 587), (0, u "java/util/function/IntUnaryOperator"), (0, u "applyAsInt"), (0, u "(I)I"), (127, u "MIN_ARRAY_SORT_GRAN"), (0, u "I"), (2, u "INSERTIONSORT_THRESHOLD"), (187, u "setAll"), (6, u "([ILjava/util/function/IntUnaryOperator;)V"), (60, .class_ 976), (0, u "java/util/Arrays$ArrayItr")] 52

def k4m0 : Method := { name := "<init>", desc := "()V", sig := { parameters := [], returnType := none }, accessFlags := 2, code := none }
def k4c1 : Code := { maxStack := 4, maxLocals := 3, code := jdk_65_method_175_code, exceptionTable := #[], attributes := #[] }
def k4m1 : Method := { name := "setAll", desc := "([ILjava/util/function/IntUnaryOperator;)V", sig := { parameters := [(.array .int), (.object "java/util/function/IntUnaryOperator")], returnType := none }, accessFlags := 9, code := some k4c1 }
/-- java/util/Arrays -/
def k4 : Class := { plain "java/util/Arrays" (some 0) with
  accessFlags := 49
  interfaces := #[]
  cf := some (fileOf pool4 14 #[.nestMembers #[975, 375, 113, 74]] #[{ accessFlags := 2, nameIndex := 5, descriptorIndex := 6, attributes := #[] }, { accessFlags := 9, nameIndex := 907, descriptorIndex := 914, attributes := #[] }] 49 2 #[] #[{ accessFlags := 26, nameIndex := 715, descriptorIndex := 716, attributes := #[] }, { accessFlags := 26, nameIndex := 719, descriptorIndex := 716, attributes := #[] }, { accessFlags := 4120, nameIndex := 445, descriptorIndex := 117, attributes := #[] }])
  fields := #[{ name := "MIN_ARRAY_SORT_GRAN", type := .int, accessFlags := 26, slot := 0, constantValue := 0 }, { name := "INSERTIONSORT_THRESHOLD", type := .int, accessFlags := 26, slot := 1, constantValue := 0 }, { name := "$assertionsDisabled", type := .boolean, accessFlags := 4120, slot := 2, constantValue := 0 }]
  methods := #[k4m0, k4m1]
  instanceTypes := #[]
  staticTypes := #[.int, .int, .boolean]
  resolved := Array.replicate 1029 none
  statics := none }

def pool5 : Array CpInfo := pool [(2, .class_ 4), (1, u "java/lang/Object"), (0, u "<init>"), (0, u "()V"), (35, .class_ 44), (1, u "java/util/Objects"), (0, u "requireNonNull"), (0, u "(Ljava/lang/Object;)Ljava/lang/Object;")] 137

def k5m0 : Method := { name := "<init>", desc := "()V", sig := { parameters := [], returnType := none }, accessFlags := 2, code := none }
def k5c1 : Code := { maxStack := 2, maxLocals := 1, code := jdk_31_method_10_code, exceptionTable := #[], attributes := #[] }
def k5m1 : Method := { name := "requireNonNull", desc := "(Ljava/lang/Object;)Ljava/lang/Object;", sig := { parameters := [(.object "java/lang/Object")], returnType := some (.object "java/lang/Object") }, accessFlags := 9, code := some k5c1 }
/-- java/util/Objects -/
def k5 : Class := { plain "java/util/Objects" (some 0) with
  accessFlags := 49
  interfaces := #[]
  cf := some (fileOf pool5 42 #[] #[{ accessFlags := 2, nameIndex := 5, descriptorIndex := 6, attributes := #[] }, { accessFlags := 9, nameIndex := 45, descriptorIndex := 46, attributes := #[] }] 49 2 #[] #[])
  fields := #[]
  methods := #[k5m0, k5m1]
  instanceTypes := #[]
  staticTypes := #[]
  resolved := Array.replicate 184 none
  statics := none }

def pool6 : Array CpInfo := pool [(1, u "java/lang/Cloneable"), (0, .class_ 1), (0, u "java/lang/Object"), (0, .class_ 3)] 3

/-- java/lang/Cloneable -/
def k6 : Class := { plain "java/lang/Cloneable" (some 0) with
  accessFlags := 1537
  interfaces := #[]
  cf := some (fileOf pool6 2 #[] #[] 1537 4 #[] #[])
  fields := #[]
  methods := #[]
  instanceTypes := #[]
  staticTypes := #[]
  resolved := Array.replicate 8 none
  statics := none }

def pool7 : Array CpInfo := pool [(1, u "java/io/Serializable"), (0, .class_ 1), (0, u "java/lang/Object"), (0, .class_ 3)] 3

/-- java/io/Serializable -/
def k7 : Class := { plain "java/io/Serializable" (some 0) with
  accessFlags := 1537
  interfaces := #[]
  cf := some (fileOf pool7 2 #[] #[] 1537 4 #[] #[])
  fields := #[]
  methods := #[]
  instanceTypes := #[]
  staticTypes := #[]
  resolved := Array.replicate 8 none
  statics := none }

/-- the primitive byte -/
def k8 : Class := { plain "byte" none with kind := .primitive 'B', accessFlags := 0x411 }
/-- [B -/
def k9 : Class := { plain "[B" (some 0) with kind := .array 8 .byte, interfaces := #[6, 7], accessFlags := 1041 }

/-- the primitive int -/
def k10 : Class := { plain "int" none with kind := .primitive 'I', accessFlags := 0x411 }
/-- [I -/
def k11 : Class := { plain "[I" (some 0) with kind := .array 10 .int, interfaces := #[6, 7], accessFlags := 1041 }

def classes0 : Array Class := #[k0, k1, k2, k3, k4, k5, k6, k7, k8, k9, k10, k11]
/-- the class that the rule has made for the site at 15 of com/example/saar/saar/sim/Parts.<init> -/
def k12 : Class := Jvm.LamKit.madeRec { classes := classes0 } "com/example/saar/saar/sim/Parts" (Jvm.Lambda.Shape.mk "java/util/function/IntUnaryOperator" "applyAsInt" (Jvm.ClassFile.MethodDescriptor.mk ([Jvm.ClassFile.FieldType.int] : List Jvm.ClassFile.FieldType) (Option.some Jvm.ClassFile.FieldType.int)) ([] : List Jvm.ClassFile.FieldType) (6 : Nat) "com/example/saar/saar/sim/Parts" "lambda$new$0" (Jvm.ClassFile.MethodDescriptor.mk ([Jvm.ClassFile.FieldType.int] : List Jvm.ClassFile.FieldType) (Option.some Jvm.ClassFile.FieldType.int)) false (Jvm.ClassFile.MethodDescriptor.mk ([Jvm.ClassFile.FieldType.int] : List Jvm.ClassFile.FieldType) (Option.some Jvm.ClassFile.FieldType.int))) 12

def heap : Heap := #[{ cls := 12, slots := #[], vm := .none }]
def classes : Array Class := #[k0, k1, k2, k3, k4, k5, k6, k7, k8, k9, k10, k11, k12]
def interned : List (Array UInt16 × Addr) := []
def slotsUsed : Nat := 0
def theMethod : MethodId := ⟨1, 1⟩
def args0 : Array Value := #[.int 5, .int 3, .int 1, .int 2]
def aboutOver (below : List Frame) : State where
  vm := { classes := classes, interned := interned.toArray }
  heap := heap
  slotsUsed := slotsUsed
  threads := #[{ frames := .invoking theMethod args0 :: below }]
def below0 : List Frame := [.native { method := ⟨0, 0⟩, args := #[] }]
def about1 : State := aboutOver below0
def p0 : Program := .bare "" "" ""
def e0 : Env := launch0.env 0 0 0
theorem w_frames : about1.frames = Frame.invoking theMethod args0 :: below0 := rfl
set_option maxRecDepth 65536 in
theorem w_args : argsFit about1.vm theMethod args0 = true := by decide +kernel
set_option maxRecDepth 65536 in
theorem w_heap : heapFits about1 = true := by decide +kernel
set_option maxRecDepth 65536 in
theorem w_runnable : about1.curStatus? = some .runnable := by decide +kernel
set_option maxRecDepth 65536 in
theorem w_alone : about1.alone = true := by decide +kernel
set_option maxRecDepth 65536 in
theorem w_named : about1.methodNamed? x = some theMethod := by decide +kernel
set_option maxRecDepth 65536 in
theorem w_hears : about1.hears theMethod below0 = true := by decide +kernel
set_option maxRecDepth 65536 in
theorem w_ripe : about1.ripe theMethod args0 below0 = true := by decide +kernel
theorem w_running : about1.status = .running := rfl
set_option maxRecDepth 65536 in
theorem w_room : about1.hasRoom e0.platform room_1 = true :=
  launch0.hasRoom_least _ room_1 (by decide +kernel) (by decide +kernel) (by decide +kernel) (by decide +kernel) (by decide +kernel) (by decide +kernel)
theorem allAtoms_all (ts : List Jvm.Cond) (a : Array Jvm.Value) (st : Jvm.State) : (allAtoms ts).before a st = ts.all (fun c => c.before a st) := by
  induction ts with
  | nil => rfl
  | cons c t ih =>
    show (Jvm.Cond.and c (allAtoms t)).before a st = _
    rw [Jvm.Cond.before_and, ih, List.all_cons]
def words1 : List Jvm.Cond := Jvm.Cond.code x code maxLocals ret :: tables_1
/-- a 'code' word, met by the world's own term for the bytes: nothing is compared byte by byte -/
theorem code_word {y : MethodName} {bytes : ByteArray} {mx : Nat} {rt : Option FieldType} {a : Array Value} {s : State} {m : MethodId} {meth : Method} {c : Code} (h1 : s.methodNamed? y = some m) (h2 : s.vm.method? m = some meth) (h3 : meth.code = some c) (h4 : c.code = bytes)
    (h5 : (c.maxLocals == mx && c.exceptionTable.isEmpty && decide (c.maxStack ≤ mostOperands) && decide (meth.sig.returnType = rt) && !meth.locks && decide (parseMethodDescriptor y.desc = some meth.sig)) = true) : (Jvm.Cond.code y bytes mx rt).before a s = true := by
  simp only [Bool.and_eq_true, beq_iff_eq, Bool.not_eq_true', decide_eq_true_eq] at h5
  obtain ⟨⟨⟨⟨⟨g1, g2⟩, g3⟩, g4⟩, g5⟩, g6⟩ := h5
  simp [Cond.before, Cond.holds, Cond.value, h1, h2, h3, h4, g1, g2, g3, g4, g5, g6]
def isCode : Jvm.Cond → Bool
  | .code _ _ _ _ => true
  | _ => false
theorem all_split {L : List Jvm.Cond} {P : Jvm.Cond → Bool} (h1 : L.all (fun c => isCode c || P c) = true) (h2 : ∀ c ∈ L.filter isCode, P c = true) : L.all P = true := by
  refine List.all_eq_true.mpr fun c hc => ?_
  have h := List.all_eq_true.mp h1 c hc
  rcases Bool.eq_false_or_eq_true (isCode c) with hi | hi
  · exact h2 c (List.mem_filter.mpr ⟨hc, hi⟩)
  · simpa [hi] using h
set_option maxRecDepth 65536 in
theorem w_c0 : (Jvm.Cond.code x code maxLocals ret).before args0 about1 = true := code_word (m := ⟨1, 1⟩) (meth := k1m1) (c := k1c1) (by decide +kernel) rfl rfl rfl (by decide +kernel)
set_option maxRecDepth 65536 in
theorem w_c1 : (Jvm.Cond.code ({ cls := "com/example/saar/saar/sim/Parts", name := "<init>", desc := "(I)V" } : Jvm.MethodName) prog_63_method_1_code (2 : Nat) (Option.none : Option Jvm.ClassFile.FieldType)).before args0 about1 = true := code_word (m := ⟨2, 0⟩) (meth := k2m0) (c := k2c0) (by decide +kernel) rfl rfl rfl (by decide +kernel)
set_option maxRecDepth 65536 in
theorem w_c2 : (Jvm.Cond.code ({ cls := "java/lang/Object", name := "<init>", desc := "()V" } : Jvm.MethodName) object_method_1_code (1 : Nat) (Option.none : Option Jvm.ClassFile.FieldType)).before args0 about1 = true := code_word (m := ⟨0, 0⟩) (meth := k0m0) (c := k0c0) (by decide +kernel) rfl rfl rfl (by decide +kernel)
set_option maxRecDepth 65536 in
theorem w_c3 : (Jvm.Cond.code ({ cls := "java/util/Arrays", name := "setAll", desc := "([ILjava/util/function/IntUnaryOperator;)V" } : Jvm.MethodName) jdk_65_method_175_code (3 : Nat) (Option.none : Option Jvm.ClassFile.FieldType)).before args0 about1 = true := code_word (m := ⟨4, 1⟩) (meth := k4m1) (c := k4c1) (by decide +kernel) rfl rfl rfl (by decide +kernel)
set_option maxRecDepth 65536 in
theorem w_c4 : (Jvm.Cond.code ({ cls := "java/util/Objects", name := "requireNonNull", desc := "(Ljava/lang/Object;)Ljava/lang/Object;" } : Jvm.MethodName) jdk_31_method_10_code (1 : Nat) (Option.some (Jvm.ClassFile.FieldType.object "java/lang/Object"))).before args0 about1 = true := code_word (m := ⟨5, 1⟩) (meth := k5m1) (c := k5c1) (by decide +kernel) rfl rfl rfl (by decide +kernel)
set_option maxRecDepth 65536 in
theorem w_c5 : (Jvm.Cond.code ({ cls := "com/example/saar/saar/sim/Parts", name := "lambda$new$0", desc := "(I)I" } : Jvm.MethodName) prog_63_method_4_code (1 : Nat) (Option.some Jvm.ClassFile.FieldType.int)).before args0 about1 = true := code_word (m := ⟨2, 3⟩) (meth := k2m3) (c := k2c3) (by decide +kernel) rfl rfl rfl (by decide +kernel)
set_option maxRecDepth 65536 in
theorem w_c6 : (Jvm.Cond.code ({ cls := "com/example/saar/saar/sim/PartsOfPinLaw", name := "step", desc := "(Lcom/example/saar/saar/sim/Parts;[III)Z" } : Jvm.MethodName) method_3_code (7 : Nat) (Option.some Jvm.ClassFile.FieldType.boolean)).before args0 about1 = true := code_word (m := ⟨1, 2⟩) (meth := k1m2) (c := k1c2) (by decide +kernel) rfl rfl rfl (by decide +kernel)
set_option maxRecDepth 65536 in
theorem w_c7 : (Jvm.Cond.code ({ cls := "com/example/saar/saar/sim/Parts", name := "join", desc := "(II)Z" } : Jvm.MethodName) prog_63_method_2_code (5 : Nat) (Option.some Jvm.ClassFile.FieldType.boolean)).before args0 about1 = true := code_word (m := ⟨2, 1⟩) (meth := k2m1) (c := k2c1) (by decide +kernel) rfl rfl rfl (by decide +kernel)
set_option maxRecDepth 65536 in
theorem w_c8 : (Jvm.Cond.code ({ cls := "com/example/saar/saar/sim/Parts", name := "of", desc := "(I)I" } : Jvm.MethodName) prog_63_method_3_code (3 : Nat) (Option.some Jvm.ClassFile.FieldType.int)).before args0 about1 = true := code_word (m := ⟨2, 2⟩) (meth := k2m2) (c := k2c2) (by decide +kernel) rfl rfl rfl (by decide +kernel)
set_option maxRecDepth 65536 in
theorem w_c9 : (Jvm.Cond.code ({ cls := "com/example/saar/saar/sim/PartsOfPinLaw", name := "relabel", desc := "([III)V" } : Jvm.MethodName) method_4_code (3 : Nat) (Option.none : Option Jvm.ClassFile.FieldType)).before args0 about1 = true := code_word (m := ⟨1, 3⟩) (meth := k1m3) (c := k1c3) (by decide +kernel) rfl rfl rfl (by decide +kernel)
def codes1 : List Jvm.Cond := [Jvm.Cond.code x code maxLocals ret, Jvm.Cond.code ({ cls := "com/example/saar/saar/sim/Parts", name := "<init>", desc := "(I)V" } : Jvm.MethodName) prog_63_method_1_code (2 : Nat) (Option.none : Option Jvm.ClassFile.FieldType), Jvm.Cond.code ({ cls := "java/lang/Object", name := "<init>", desc := "()V" } : Jvm.MethodName) object_method_1_code (1 : Nat) (Option.none : Option Jvm.ClassFile.FieldType), Jvm.Cond.code ({ cls := "java/util/Arrays", name := "setAll", desc := "([ILjava/util/function/IntUnaryOperator;)V" } : Jvm.MethodName) jdk_65_method_175_code (3 : Nat) (Option.none : Option Jvm.ClassFile.FieldType), Jvm.Cond.code ({ cls := "java/util/Objects", name := "requireNonNull", desc := "(Ljava/lang/Object;)Ljava/lang/Object;" } : Jvm.MethodName) jdk_31_method_10_code (1 : Nat) (Option.some (Jvm.ClassFile.FieldType.object "java/lang/Object")), Jvm.Cond.code ({ cls := "com/example/saar/saar/sim/Parts", name := "lambda$new$0", desc := "(I)I" } : Jvm.MethodName) prog_63_method_4_code (1 : Nat) (Option.some Jvm.ClassFile.FieldType.int), Jvm.Cond.code ({ cls := "com/example/saar/saar/sim/PartsOfPinLaw", name := "step", desc := "(Lcom/example/saar/saar/sim/Parts;[III)Z" } : Jvm.MethodName) method_3_code (7 : Nat) (Option.some Jvm.ClassFile.FieldType.boolean), Jvm.Cond.code ({ cls := "com/example/saar/saar/sim/Parts", name := "join", desc := "(II)Z" } : Jvm.MethodName) prog_63_method_2_code (5 : Nat) (Option.some Jvm.ClassFile.FieldType.boolean), Jvm.Cond.code ({ cls := "com/example/saar/saar/sim/Parts", name := "of", desc := "(I)I" } : Jvm.MethodName) prog_63_method_3_code (3 : Nat) (Option.some Jvm.ClassFile.FieldType.int), Jvm.Cond.code ({ cls := "com/example/saar/saar/sim/PartsOfPinLaw", name := "relabel", desc := "([III)V" } : Jvm.MethodName) method_4_code (3 : Nat) (Option.none : Option Jvm.ClassFile.FieldType)]
set_option maxRecDepth 65536 in
theorem codes_eq : words1.filter isCode = codes1 := rfl
theorem w_codes : ∀ c ∈ words1.filter isCode, c.before args0 about1 = true := by
  rw [codes_eq]
  intro c hc
  simp only [codes1, List.mem_cons, List.not_mem_nil, or_false] at hc
  rcases hc with rfl | rfl | rfl | rfl | rfl | rfl | rfl | rfl | rfl | rfl
  · exact w_c0
  · exact w_c1
  · exact w_c2
  · exact w_c3
  · exact w_c4
  · exact w_c5
  · exact w_c6
  · exact w_c7
  · exact w_c8
  · exact w_c9
set_option maxRecDepth 65536 in
theorem w_t1 : (words1.take 24).all (fun c => isCode c || c.before args0 about1) = true := by decide +kernel
set_option maxRecDepth 65536 in
theorem w_t2 : (words1.drop 24).all (fun c => isCode c || c.before args0 about1) = true := by decide +kernel
theorem w_tables : (allAtoms (Jvm.Cond.code x code maxLocals ret :: tables_1)).before args0 about1 = true := by
  rw [allAtoms_all]
  show words1.all (fun c => c.before args0 about1) = true
  refine all_split ?_ w_codes
  rw [← List.take_append_drop 24 words1, List.all_append, w_t1, w_t2]
  rfl
set_option maxRecDepth 65536 in
theorem w_case : (Jvm.Cond.and given_1 narrow_1).before args0 about1 = true := by decide +kernel
theorem w_applies : (headSpec (Jvm.Cond.code x code maxLocals ret :: tables_1) room_1).applies x e0.platform about1 = true :=
  (Spec.applies_iff w_frames).mpr ⟨w_running, w_runnable, w_alone, w_named, w_hears, w_ripe, w_room, w_tables⟩
theorem atStart : AtStart classFile x code maxLocals ret World_1 tables_1 room_1 Calls_1 rest_1 Pre_1 launch0 p0 e0 about1 theMethod args0 below0 :=
  ⟨lists_1, trivial, launch0.admits_env _ _ _, launch0.least_env, fairChoices_fair.cas, fairChoices_fair.clock, w_frames, w_args, w_heap, w_applies, trivial, trivial, w_case⟩
end start1
theorem witness_1 : WitnessClaimed_1 := ⟨start1.p0, start1.e0, start1.about1, start1.theMethod, start1.args0, start1.below0, start1.atStart⟩
end Jvm.Pilot.@@N@@
