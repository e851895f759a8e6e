import JvmDerived
import JvmDerived.Pilot.@@N@@Statement
import JvmDerived.Pilot.@@N@@Code
set_option linter.unusedVariables false
set_option linter.unusedSimpArgs false
@@BLOCK:LamKit.lean.txt@@
namespace Jvm.RoadKit
open Sem ClassFile Op Lib Jvm.Stand Jvm.Free Jvm.LawKit
section Own
/-- from u a state is reached where R holds -/
def own_Go (tb : Tables) (e : Env) (below : List Frame) (R : State → Prop) (u : State) : Prop := ∃ t, Steps tb e below u t ∧ R t
theorem own_st {tb : Tables} {e : Env} {below : List Frame} {R : State → Prop} {u v : State} (h : ∀ t, Steps tb e below v t → Steps tb e below u t) (g : own_Go tb e below R v) : own_Go tb e below R u := by
  obtain ⟨t, h1, h2⟩ := g
  exact ⟨t, h t h1, h2⟩
theorem own_fin {tb : Tables} {e : Env} {below : List Frame} {R : State → Prop} {u t : State} (h : Steps tb e below u t) (r : R t) : own_Go tb e below R u := ⟨t, h, r⟩
theorem own_in {tb : Tables} {e : Env} {below : List Frame} {u v : State} {P : State → Outcome → Prop} (h : ∀ t, Steps tb e below v t → Steps tb e below u t)
    (g : ∀ RR : State → Prop, (∀ t, (∃ o, t.status = .running ∧ P t o) → RR t) → own_Go tb e below RR v) : ∃ t o, Steps tb e below u t ∧ t.status = .running ∧ P t o := by
  obtain ⟨t, h1, o, h2, h3⟩ := g (fun t => ∃ o, t.status = .running ∧ P t o) fun _ q => q
  exact ⟨t, o, h t h1, h2, h3⟩
theorem own_ri {x y : Int32} (h : x = y) : some (Value.int x) = some (Value.int y) := h ▸ rfl
theorem own_rj {x y : Int64} (h : x = y) : some (Value.long x) = some (Value.long y) := h ▸ rfl
theorem own_rr {x y : Addr} (h : x = y) : some (Value.ref x) = some (Value.ref y) := h ▸ rfl
theorem own_eq_int {args : Array Value} {first s : State} {o : Option Outcome} {idx : List Nat} {a : Term} {k : Int32} (h : (Cond.eq a (.int k)).value args first o s idx = some true) : a.eval args first o idx s = some (.int k) := by
  simp only [Cond.value, Term.eval] at h
  cases ht : a.eval args first o idx s with
  | none => simp [ht] at h
  | some x => cases x <;> simp [ht] at h ⊢; exact h
theorem own_eq_long {args : Array Value} {first s : State} {o : Option Outcome} {idx : List Nat} {a : Term} {k : Int64} (h : (Cond.eq a (.long k)).value args first o s idx = some true) : a.eval args first o idx s = some (.long k) := by
  simp only [Cond.value, Term.eval] at h
  cases ht : a.eval args first o idx s with
  | none => simp [ht] at h
  | some x => cases x <;> simp [ht] at h ⊢; exact h
theorem own_staK {Z : State} {h h' : Heap} {C n d : String} {w : Value} {ws : List Addr} (F : Sta Z h C n d w) (K : Keep h h' ws) (q : ∀ x ∈ ws, ∀ cell : Cell, h[x]? = some cell → cell.vm.isStatics = false) : Sta Z h' C n d w := by
  obtain ⟨cf, i, k, f, st, cell, h1, h2, h3, h4, h5, h6, h7⟩ := F
  exact ⟨cf, i, k, f, st, cell, h1, h2, h3, h4, K.2.1 st cell h5 (fun m => by have := q st m cell h5; rw [h6] at this; cases this), h6, h7⟩
theorem own_selP {s : State} {args : Array Value} {y : MethodName} {n : Nat} (wi : (Cond.instantiable y.cls n).before args s = true) (hp : s.PrivateAt y) (hi : (Cond.instanceMethod y).before args s = true) (hy : y.cls ≠ "java/lang/invoke/MethodHandle" ∧ y.cls ≠ "java/lang/invoke/VarHandle") : (Cond.selects y.cls y y).before args s = true := by
  obtain ⟨c, k, h1, h2, -, h4, -⟩ := Cond.instantiable_spec wi
  exact selects_self_of_private h1 h2 (Bool.or_eq_false_iff.mp h4).1 hp hi hy
variable {p : Program} {l : Launch} {e : Env} {R : Room} {s : State} {m : MethodId} {args : Array Value} {below : List Frame} {meth : Method} {c : Code} {T : State} {locs : List Loc} {cells slots : Nat} {Z : State} {h : Heap}
theorem retI (X : Stand p l e R s m args below meth c T locs cells slots) (hx : p.tables.exec = Jvm.exec) {pc : Nat} {Ls : Array Slot} {z : Int32} {rest : List Value} (hret : meth.sig.returnType = some .int) (hd : decode c.code pc = .ok (.ireturn, 1)) {fs : List Frame}
    (hl : ∀ (f : JFrame) (acts : List Action), f.method = m → f.locked = none → f.entered = [] → (doReturn e (T.setTop f) acts (some (.int z))).1 = T.setFrames fs) : Steps p.tables e below (T.setTop (mkF m pc Ls (.int z :: rest))) (T.setFrames fs) :=
  retOut X hx hret rfl (Or.inl ⟨rfl, Or.inl rfl, z, rfl⟩) hd hl
theorem own_len (X : Stand p l e R s m args below meth c T locs cells slots) (hx : p.tables.exec = Jvm.exec) (hZ : Z.Warmed39 s.vm) (eT : T.heap = h) {a : Addr} {cl : Cell} {ty : FieldType} (A : Arr Z h a cl ty) {z : Int32} (S : cl.slots.size = z.toNatClampNeg) (N : ¬ z < 0)
    {g : JFrame} (hg : g.method = m) {rest : List Value} (hs : g.stack = .ref a :: rest) (hd : decode c.code g.pc = .ok (.arraylength, 1)) {target : State}
    (k : Steps p.tables e below (T.setTop { g with pc := g.pc + 1, stack := .int z :: rest }) target) : Steps p.tables e below (T.setTop g) target :=
  X.arraylength hx (by rw [eT]; exact A.1) (State.isArrayOf_alike hZ.alike A.2.1) hg hs hd target (by rw [len_of S N]; exact k)
end Own
end Jvm.RoadKit
namespace Jvm.RoadKit
open Sem ClassFile Op Lib Jvm.Stand Jvm.Free Jvm.LawKit Jvm.LamKit
section OwnLam
variable {p : Program} {l : Launch} {e : Env} {R : Room} {s : State} {m : MethodId} {args : Array Value} {below : List Frame} {meth : Method} {c : Code} {T : State} {locs : List Loc} {cells slots : Nat} {Z : State} {h : Heap}
variable {x : MethodName} {pc index : Nat} {σ : Lambda.Shape} {cK : ClassId} {fa : Addr}
/-- the site's word: the one function object -/
theorem own_site (hw : (Cond.lambdaSite x pc index σ).before args s = true) (hcap : σ.captured = []) : ∃ cK fa, s.lambdaAt? x pc index σ = some (cK, some fa) := by
  obtain ⟨cK, one, h⟩ := Cond.lambdaSite_spec hw
  obtain ⟨mD, kD, cfD, i0, p0, lk, -, -, -, -, -, -, -, -, hl⟩ := State.lambdaAt?_spec h
  rcases hl with ⟨a, cell, -, e, -⟩ | ⟨-, -, hne⟩
  · exact ⟨cK, a, e ▸ h⟩
  · exact absurd hcap hne
theorem own_lam {U : State} (h : U.lambdaAt? x pc index σ = some (cK, some fa)) : Jvm.LamKit.Made U x.cls σ cK ∧ FnAt U.heap fa cK := by
  obtain ⟨mD, kD, cfD, i0, p0, lk, hmD, hkD, -, -, -, hfind, hmade, hcan, hl⟩ := State.lambdaAt?_spec h
  obtain ⟨kD', hkD', hnameD⟩ := className_of_methodNamed hmD
  cases hkD.symm.trans hkD'
  rcases hl with ⟨a, cell, -, e, -, hcell, hcls, hvm, -⟩ | ⟨-, e, -⟩
  · cases e
    exact ⟨⟨_, kD, hkD, hnameD, hmade, hcan⟩, cell, hcell, hcls, hvm⟩
  · cases e
theorem own_fnAt (X : Stand p l e R s m args below meth c T locs cells slots) (h : FnAt s.heap fa cK) : FnAt T.heap fa cK := by
  obtain ⟨cell, hc, h1, h2⟩ := h
  obtain ⟨cell', x1, x2, -⟩ := X.same.2.2.2.2.2 fa cell hc
  exact ⟨cell', x1, by rw [x2]; exact h1, by rw [x2]; exact h2⟩
/-- 'invokedynamic' there -/
theorem own_siteC (X : Stand p l e R s m args below meth c T locs cells slots) (hexec : p.tables.exec = Jvm.exec) (hnamed : s.methodNamed? x = some m) (hL : s.lambdaAt? x pc index σ = some (cK, some fa)) {g : JFrame} (hg : g.method = m) (hpc : g.pc = pc) (hsize : g.locals.size = c.maxLocals)
    (hdg : decode c.code g.pc = .ok (.invokedynamic index, 5)) (hwords : 2 * g.monitorRoom + (g.stack.map fun v => v.category).sum + 3072 ≤ R.locals) {target : State}
    (k : Steps p.tables e below (T.setTop { g with pc := g.pc + 5, stack := .ref fa :: g.stack }) target) : Steps p.tables e below (T.setTop g) target := by
  obtain ⟨mD, kD, cfD, i0, p0, lk, hmD, hkD, -, -, -, hfind, hmade, hcan, hl⟩ := State.lambdaAt?_spec hL
  cases hnamed.symm.trans hmD
  rcases hl with ⟨a, cell, rfl, e1, -⟩ | ⟨-, e1, -⟩
  · cases e1
    have hw : e.platform.lambdaLinkWords = 3072 := by rw [X.admits.platform]
    exact X.lambdaConstant hexec hg hsize hdg hkD (by rw [hpc]; exact hfind) (by rw [hw]; exact hwords) k
  · cases e1
/-- a call of a body whose contract asks that the site's object is there -/
theorem own_backL {y : MethodName} {bytes : ByteArray} {maxL : Nat} {ret : Option FieldType} {rm : Room} {len W : Nat} {as' a0 : Array Value} {Q : Option Value → Heap → List Loc → Prop} {r : ClassId × Option Addr}
    (hM : MetFree l y (head1 [Cond.code y bytes maxL ret] rm) (fun a U => a = as' ∧ Z.Warmed39 U.vm ∧ U.heap = h ∧ U.lambdaAt? x pc index σ = some r) (fun _ _ _ _ _ => True) (fun _ U o U' => ∃ v L, o = .returned v ∧ Q v U'.heap L ∧ FrameEnd U o U' L rm.cells rm.slots))
    (hL : s.lambdaAt? x pc index σ = some r)
    (hZ : Z.Warmed39 s.vm) (wc : (Cond.code y bytes maxL ret).before a0 Z = true) (wz : (Cond.initialized y.cls).before a0 Z = true) (hf : rm.frames + 1 ≤ R.frames) (hl : W + (maxL + 11) + rm.locals ≤ R.locals) :
    Back l R p e below s args y len W (fun A a => a = as' ∧ A.U.heap = h ∧ A.cells + rm.cells ≤ R.cells ∧ A.slots + rm.slots ≤ R.slots)
      (fun A _ v B => ∃ L, Q v B.U.heap L ∧ B.locs = A.locs ++ L ∧ B.cells = A.cells + rm.cells ∧ B.slots = A.slots + rm.slots) :=
  Back.of_free (bytes := bytes) (maxL := maxL) (ret := ret) (E := fun _ _ o t L k n => k = rm.cells ∧ n = rm.slots ∧ ∃ v, o = .returned v ∧ Q v t.heap L) hM hf hl
    (fun m meth c A a Y hp => have hU : Z.Warmed39 A.U.vm := wtrans hZ Y.warmed
      ⟨by show (Cond.and _ .tt).before a A.U = true; rw [Cond.before_and, mv hU wc]; rfl, mv hU wc, mv hU wz, hp.2.2.1, hp.2.2.2⟩)
    (fun m meth c A a g mk Y hp => ⟨hp.1, wtrans hZ Y.warmed, hp.2.1, State.lambdaAt?_rides (t := A.U) Y.warmed Y.same hL⟩) (fun _ _ _ _ _ _ _ _ _ => trivial)
    (fun _ _ _ _ ⟨v, L, h1, h2, h3⟩ => ⟨L, _, _, h3, rfl, rfl, v, h1, h2⟩)
    (fun m meth c A a g mk v t L k n Y hp _ _ ⟨e1, e2, v', e3, e4⟩ => by cases e3; subst e1 e2; exact ⟨L, e4, rfl, rfl, rfl⟩)
end OwnLam
end Jvm.RoadKit
namespace Jvm.Pilot.@@N@@
open Jvm Jvm.ClassFile Sem Op Lib Jvm.Free Jvm.Stand Jvm.LawKit Jvm.RoadKit Bundle Jvm.Pilot.@@N@@.Jvm.D
def own_Inv (n : Nat) (P lab : List Nat) (d : Nat → Nat) : Prop := P.length = n ∧ lab.length = n ∧ ∀ i, i < n → P.getD i 0 < n ∧ lab.getD i 0 < n ∧ lab.getD (P.getD i 0) 0 = lab.getD i 0 ∧ (P.getD i 0 ≠ i → d (P.getD i 0) < d i) ∧ (P.getD i 0 = i → lab.getD i 0 = i)
theorem own_gs {P : List Nat} {i v : Nat} (h : i < P.length) (j : Nat) : (P.set i v).getD j 0 = if j = i then v else P.getD j 0 := by
  rw [List.getD_eq_getElem?_getD, List.getD_eq_getElem?_getD]
  by_cases e : j = i
  · subst e
    rw [List.getElem?_set_self h, if_pos rfl]
    rfl
  · rw [List.getElem?_set_ne (Ne.symm e), if_neg e]
/-- a turn of the search: the way is halved -/
theorem own_turn {n : Nat} {P lab : List Nat} {d : Nat → Nat} (I : own_Inv n P lab d) {i : Nat} (hi : i < n) (h : P.getD i 0 ≠ i) :
    own_Inv n (P.set i (P.getD (P.getD i 0) 0)) lab d ∧ P.getD (P.getD i 0) 0 < n ∧ d (P.getD (P.getD i 0) 0) < d i ∧ lab.getD (P.getD (P.getD i 0) 0) 0 = lab.getD i 0 := by
  obtain ⟨l1, l2, H⟩ := I
  obtain ⟨a1, a2, a3, a4, a5⟩ := H i hi
  obtain ⟨b1, b2, b3, b4, b5⟩ := H _ a1
  have hd : d (P.getD (P.getD i 0) 0) < d i := by
    by_cases e : P.getD (P.getD i 0) 0 = P.getD i 0
    · rw [e]
      exact a4 h
    · exact Nat.lt_trans (b4 e) (a4 h)
  refine ⟨⟨by rw [List.length_set]; exact l1, l2, fun j hj => ?_⟩, b1, hd, b3.trans a3⟩
  rw [own_gs (by omega)]
  by_cases e : j = i
  · subst e
    rw [if_pos rfl]
    refine ⟨b1, a2, b3.trans a3, fun _ => hd, fun q => ?_⟩
    rw [q] at hd
    omega
  · rw [if_neg e]
    exact H j hj
theorem own_rl (lab : List Nat) (x y : Nat) (j : Nat) (hj : j < lab.length) : (lab.map fun z => if z = x then y else z).getD j 0 = if lab.getD j 0 = x then y else lab.getD j 0 := by
  rw [List.getD_eq_getElem?_getD, List.getD_eq_getElem?_getD, List.getElem?_map, List.getElem?_eq_getElem hj]
  rfl
/-- a join: the one root is hung under the other -/
theorem own_join {n : Nat} {P lab : List Nat} {d : Nat → Nat} (I : own_Inv n P lab d) {a b : Nat} (ha : a < n) (hb : b < n) (ea : P.getD a 0 = a) (eb : P.getD b 0 = b) :
    ∃ d' : Nat → Nat, own_Inv n (P.set a b) (lab.map fun z => if z = a then b else z) d' := by
  obtain ⟨l1, l2, H⟩ := I
  have la := (H a ha).2.2.2.2 ea
  have lb := (H b hb).2.2.2.2 eb
  refine ⟨fun x => if lab.getD x 0 = a then d x + (d b + 1) else d x, by rw [List.length_set]; exact l1, by rw [List.length_map]; exact l2, fun j hj => ?_⟩
  obtain ⟨a1, a2, a3, a4, a5⟩ := H j hj
  rw [own_gs (by omega), own_rl lab a b j (by omega)]
  by_cases e : j = a
  · subst e
    rw [if_pos rfl, own_rl lab j b b (by omega), if_pos la, lb]
    refine ⟨hb, hb, by by_cases q : b = j <;> simp [q], fun q => ?_, fun q => q ▸ rfl⟩
    show (if lab.getD b 0 = j then d b + (d b + 1) else d b) < (if lab.getD j 0 = j then d j + (d b + 1) else d j)
    rw [lb, la, if_neg q, if_pos rfl]
    omega
  · rw [if_neg e, own_rl lab a b _ (by omega), a3]
    refine ⟨a1, by split; exact hb; exact a2, rfl, fun q => ?_, fun q => ?_⟩
    · have := a4 q
      show (if lab.getD (P.getD j 0) 0 = a then d (P.getD j 0) + (d b + 1) else d (P.getD j 0)) < (if lab.getD j 0 = a then d j + (d b + 1) else d j)
      rw [a3]
      split <;> omega
    · have := a5 q
      rw [this, if_neg e]
theorem own_findr {n : Nat} {P lab : List Nat} {d : Nat → Nat} (I : own_Inv n P lab d) : ∀ (k i : Nat), d i = k → i < n → ∃ r, r < n ∧ d r ≤ d i ∧ P.getD r 0 = r ∧ lab.getD r 0 = lab.getD i 0 ∧ (P.getD i 0 ≠ i → d r < d i) := by
  intro k
  induction k using Nat.strongRecOn with
  | _ k ih =>
    intro i hk hi
    obtain ⟨a1, a2, a3, a4, a5⟩ := I.2.2 i hi
    by_cases e : P.getD i 0 = i
    · exact ⟨i, hi, Nat.le_refl _, e, rfl, fun q => absurd e q⟩
    · have hd := a4 e
      obtain ⟨r, r1, r2, r3, r4, -⟩ := ih _ (hk ▸ hd) _ rfl a1
      exact ⟨r, r1, by omega, r3, r4.trans a3, fun _ => by omega⟩
/-- the label of a place is a root, and is the root's own label -/
theorem own_rootl {n : Nat} {P lab : List Nat} {d : Nat → Nat} (I : own_Inv n P lab d) {i : Nat} (hi : i < n) : lab.getD i 0 < n ∧ P.getD (lab.getD i 0) 0 = lab.getD i 0 ∧ lab.getD (lab.getD i 0) 0 = lab.getD i 0 := by
  obtain ⟨r, r1, -, r3, r4, -⟩ := own_findr I _ i rfl hi
  have r5 := (I.2.2 r r1).2.2.2.2 r3
  rw [← r4, r5]
  exact ⟨r1, r3, r5⟩
def own_vi (i : Nat) : Value := .int (Int32.ofNat i)
theorem own_ti {i : Nat} (h : i < 16) : (Int32.ofNat i).toInt = (i : Int) := Int32.toInt_ofNat_of_lt (by omega)
theorem own_nc {i : Nat} (h : i < 16) : (Int32.ofNat i).toNatClampNeg = i := by
  have := own_ti h
  show (Int32.ofNat i).toInt.toNat = i
  omega
theorem own_inj {i j : Nat} (hi : i < 16) (hj : j < 16) (h : Int32.ofNat i = Int32.ofNat j) : i = j := by
  have := own_ti hi
  have := own_ti hj
  rw [h] at *
  omega
theorem own_nin {i n : Nat} (h : i < n) (hn : n < 16) : ¬ Int32.ofNat i < 0 ∧ Int32.ofNat i < Int32.ofNat n := by
  rw [Int32.lt_iff_toInt_lt, Int32.lt_iff_toInt_lt, own_ti (by omega), own_ti hn]
  have : (0 : Int32).toInt = 0 := by decide
  omega
theorem own_get {P : List Nat} {i n : Nat} (hl : P.length = n) (h : i < n) (hn : n < 16) : (P.map own_vi).getD (Int32.ofNat i).toNatClampNeg (.int (0 : Int32)) = .int (Int32.ofNat (P.getD i 0)) := by
  rw [own_nc (by omega), List.getD_eq_getElem?_getD, List.getD_eq_getElem?_getD, List.getElem?_map, List.getElem?_eq_getElem (by omega)]
  rfl
theorem own_ms (P : List Nat) (i v : Nat) : (P.set i v).map own_vi = (P.map own_vi).set i (.int (Int32.ofNat v)) := by
  rw [List.map_set]
  rfl
def own_r (a b z : Nat) : Nat := if z = a then b else z
theorem own_ry {a b z : Nat} (hz : z < 16) (ha : a < 16) (h : Int32.ofNat z = Int32.ofNat a) : own_r a b z = b := if_pos (own_inj hz ha h)
theorem own_rn {a b z : Nat} (h : ¬ Int32.ofNat z = Int32.ofNat a) : own_r a b z = z := if_neg fun q => h (by rw [q])
def own_nq (a b : Nat) : Int32 := if a = b then 0 else 1
theorem own_nqy {a b : Nat} (ha : a < 16) (hb : b < 16) (h : Int32.ofNat a = Int32.ofNat b) : own_nq a b = 0 := if_pos (own_inj ha hb h)
theorem own_nqn {a b : Nat} (h : ¬ Int32.ofNat a = Int32.ofNat b) : own_nq a b = 1 := if_neg fun q => h (by rw [q])
abbrev own_sig : Lambda.Shape := Lambda.Shape.mk "java/util/function/IntUnaryOperator" "applyAsInt" ⟨[.int], some .int⟩ [] 6 "com/example/saar/saar/sim/Parts" "lambda$new$0" ⟨[.int], some .int⟩ false ⟨[.int], some .int⟩
abbrev own_xi : MethodName := ⟨"java/util/function/IntUnaryOperator", "applyAsInt", "(I)I"⟩
abbrev own_ly : MethodName := ⟨"com/example/saar/saar/sim/Parts", "lambda$new$0", "(I)I"⟩
def own_fcode : ByteArray := ⟨#[0x1b, 0xb8, 0x00, 0x11, 0xac]⟩
theorem own_fwd : Jvm.LamKit.fwdOK own_sig "com/example/saar/saar/sim/Parts" own_fcode 2 (some .int) 17 14 = true := by decide +kernel
theorem own_f0 : decode own_fcode 0 = .ok (.iload_n 1, 1) := by decide +kernel
theorem own_f1 : decode own_fcode 1 = .ok (.invokestatic 17, 3) := by decide +kernel
theorem own_f4 : decode own_fcode 4 = .ok (.ireturn, 1) := by decide +kernel
theorem own_t0 : decode prog_63_method_4_code 0 = .ok (.iload_n 0, 1) := by decide +kernel
theorem own_t1 : decode prog_63_method_4_code 1 = .ok (.ireturn, 1) := by decide +kernel
theorem own_target (l : Launch) (v : Int32) : Met l own_ly [Cond.code own_ly prog_63_method_4_code 1 (some .int)] { frames := 0, cells := 0, slots := 0, locals := 0 } (fun args _ => args = #[.int v]) (fun _ U o U' => o = .returned (some (.int v)) ∧ U'.heap = U.heap) 0 0 (fun _ => False) := by
  refine MetFree.of_bodyS (code := prog_63_method_4_code) (maxLocals := 1) (ret := some .int) (by decide) (Jvm.LamKit.hisOf (List.mem_singleton.mpr rfl)) ?_
  intro p e s m args below meth c s₁ Bd hml hP _
  obtain rfl : args = #[.int v] := hP
  have X := Stand.of_body Bd
  have hh : s₁.heap = s.heap := by rw [Bd.state]; rfl
  obtain ⟨fs, hr, hrun, hended, hW, hsame⟩ := X.leave (v := some (.int v)) (fun h => by rw [Bd.returns] at h; cases h)
  refine ⟨s₁.setFrames fs, _, ?_, hrun, hended, ⟨rfl, hh⟩, [], ⟨⟨_, rfl⟩, hW, hsame⟩, fun q hq => nomatch hq⟩
  show Steps p.tables e below (s₁.setTop (mkF m 0 #[.val (.int v)] [])) _
  refine XS.iloadN X.here Bd.exec rfl (hb Bd.bytes own_t0) rfl ?_
  exact X.ireturnOut Bd.exec Bd.returns rfl (Or.inl rfl) (hb Bd.bytes own_t1) hr
theorem own_pn_java_util_Objects : plainName "java/util/Objects" = true := by first | (simp [plainName, overriddenIn]; done) | decide +kernel
theorem own_djdk_31_method_10_code_0 : decode jdk_31_method_10_code 0 = .ok (.aload_n 0, 1) := by decide +kernel
theorem own_djdk_31_method_10_code_1 : decode jdk_31_method_10_code 1 = .ok (.ifnonnull 11, 3) := by decide +kernel
theorem own_djdk_31_method_10_code_12 : decode jdk_31_method_10_code 12 = .ok (.aload_n 0, 1) := by decide +kernel
theorem own_djdk_31_method_10_code_13 : decode jdk_31_method_10_code 13 = .ok (.areturn, 1) := by decide +kernel
theorem own_efRN (m : MethodId) (o : Addr) : entryFrame m #[(.ref o)] 1 = mkF m 0 #[.val (.ref o)] [] := by first | (simp [entryFrame, mkF, argsToLocals, Value.category]; done) | rfl
def own_QRN (Z : State) (o : Addr) (h0 : Heap) (n0 : Nat) (rv__ : Option Value) (h : Heap) (rL__ : List Loc) : Prop := rv__ = some (.ref o) ∧ Fr n0 rL__ ∧ h = h0
abbrev own_RRN : Room := { frames := 0, cells := 0, slots := 0, locals := 0 }
set_option maxRecDepth 65536 in
set_option maxHeartbeats 40000000 in
theorem own_rmRN (l : Launch) (Z : State) (a0 : Array Value) (hw : ∀ d ∈ tables_1, d.before a0 Z = true) (ws : List Jvm.Cond) (o : Addr) (h0 : Heap) (n0 : Nat) (Z0 : n0 ≤ h0.size)  :
    MetFree l (⟨"java/util/Objects", "requireNonNull", "(Ljava/lang/Object;)Ljava/lang/Object;"⟩ : MethodName) (head1 (Jvm.Cond.code (⟨"java/util/Objects", "requireNonNull", "(Ljava/lang/Object;)Ljava/lang/Object;"⟩ : MethodName) jdk_31_method_10_code 1 (some (.object "java/lang/Object")) :: ws) own_RRN) (fun aa__ U => aa__ = #[(.ref o)] ∧ Z.Warmed39 U.vm ∧ U.heap = h0) (fun _ _ _ _ _ => True) (fun _ U oc_ U' => ∃ rv__ rL__, oc_ = .returned rv__ ∧ own_QRN Z o h0 n0 rv__ U'.heap rL__ ∧ FrameEnd U oc_ U' rL__ own_RRN.cells own_RRN.slots) := by
  refine MetFree.of_bodySF (plainFor_of_name own_pn_java_util_Objects) hisR ?_
  intro p e s m args below meth c s₁ Bd hml0 hP hK
  obtain ⟨rfl, hZ, hh⟩ := hP
  have hx := Bd.exec
  have hby := Bd.bytes
  have hml : c.maxLocals = 1 := hml0
  have hown : s.vm.findClass "java/util/Objects" = some m.cls := findClass_of_methodNamed Bd.named
  have hnm := (name_of_methodNamed Bd.named Bd.method).1
  have X0 : Stand p l e own_RRN s m #[(.ref o)] below meth c s₁ [] 0 0 := Stand.of_body Bd
  have e0 : s₁.heap = h0 := by rw [← hh, Bd.state]; rfl
  have N0 := Fr.nil n0
  refine own_in (fun _ k => castTop (own_efRN m o) k) ?_
  intro RR hRR
  show own_Go p.tables e below RR (s₁.setTop (mkF m 0 #[.val (.ref o)] []))
  refine own_st (fun _ k => XS.aloadN X0.here hx rfl (hb hby own_djdk_31_method_10_code_0) rfl rfl k) ?_
  show own_Go p.tables e below RR (s₁.setTop (mkF m 1 #[.val (.ref o)] [(.ref o)]))
  refine own_st (fun _ k => XS.ifnonnullYes X0.here hx rfl (pc0 := 1) (pc' := 12) rfl (hb hby own_djdk_31_method_10_code_1) rfl (by decide) (by decide) (XS.aloadN X0.here hx rfl (hb hby own_djdk_31_method_10_code_12) rfl rfl k)) ?_
  show own_Go p.tables e below RR (s₁.setTop (mkF m 13 #[.val (.ref o)] [(.ref o)]))
  obtain ⟨fs, hrt_, hrun, hended, hW, hsame⟩ := X0.leave (v := some (.ref o)) (fun h => by rw [Bd.returns] at h; cases h)
  refine own_fin (retOut X0 hx Bd.returns rfl (Or.inr (Or.inr (Or.inr (Or.inr ⟨rfl, rfl, rfl⟩)))) (hb hby own_djdk_31_method_10_code_13) hrt_) (hRR _ ⟨_, hrun, hended, _, _, rfl, ?_, ⟨_, rfl⟩, hW, hsame.mono (by decide) (by decide)⟩)
  show own_QRN Z o h0 n0 _ s₁.heap _
  rw [e0]
  exact ⟨rfl, N0, rfl⟩
theorem own_pn_java_util_Arrays : plainName "java/util/Arrays" = true := by first | (simp [plainName, overriddenIn]; done) | decide +kernel
theorem own_djdk_65_method_175_code_0 : decode jdk_65_method_175_code 0 = .ok (.aload_n 1, 1) := by decide +kernel
theorem own_pd__Ljava_lang_Object__Ljava_lang_Object_ : parseMethodDescriptor "(Ljava/lang/Object;)Ljava/lang/Object;" = some ⟨[(.object "java/lang/Object")], some (.object "java/lang/Object")⟩ := by decide +kernel
theorem own_djdk_65_method_175_code_1 : decode jdk_65_method_175_code 1 = .ok (.invokestatic 175, 3) := by decide +kernel
theorem own_djdk_65_method_175_code_4 : decode jdk_65_method_175_code 4 = .ok (.pop, 1) := by decide +kernel
theorem own_djdk_65_method_175_code_5 : decode jdk_65_method_175_code 5 = .ok (.iconst 0, 1) := by decide +kernel
theorem own_djdk_65_method_175_code_6 : decode jdk_65_method_175_code 6 = .ok (.istore_n 2, 1) := by decide +kernel
theorem own_djdk_65_method_175_code_7 : decode jdk_65_method_175_code 7 = .ok (.iload_n 2, 1) := by decide +kernel
theorem own_djdk_65_method_175_code_8 : decode jdk_65_method_175_code 8 = .ok (.aload_n 0, 1) := by decide +kernel
theorem own_djdk_65_method_175_code_9 : decode jdk_65_method_175_code 9 = .ok (.arraylength, 1) := by decide +kernel
theorem own_djdk_65_method_175_code_10 : decode jdk_65_method_175_code 10 = .ok (.if_icmp .ge 19, 3) := by decide +kernel
theorem own_djdk_65_method_175_code_13 : decode jdk_65_method_175_code 13 = .ok (.aload_n 0, 1) := by decide +kernel
theorem own_djdk_65_method_175_code_14 : decode jdk_65_method_175_code 14 = .ok (.iload_n 2, 1) := by decide +kernel
theorem own_djdk_65_method_175_code_15 : decode jdk_65_method_175_code 15 = .ok (.aload_n 1, 1) := by decide +kernel
theorem own_djdk_65_method_175_code_16 : decode jdk_65_method_175_code 16 = .ok (.iload_n 2, 1) := by decide +kernel
theorem own_pd__I_I : parseMethodDescriptor "(I)I" = some ⟨[.int], some .int⟩ := by decide +kernel
theorem own_djdk_65_method_175_code_17 : decode jdk_65_method_175_code 17 = .ok (.invokeinterface 582 2, 5) := by decide +kernel
theorem own_djdk_65_method_175_code_22 : decode jdk_65_method_175_code 22 = .ok (.iastore, 1) := by decide +kernel
theorem own_djdk_65_method_175_code_23 : decode jdk_65_method_175_code 23 = .ok (.iinc 2 1, 3) := by decide +kernel
theorem own_djdk_65_method_175_code_26 : decode jdk_65_method_175_code 26 = .ok (.goto (-19), 3) := by decide +kernel
theorem own_djdk_65_method_175_code_29 : decode jdk_65_method_175_code 29 = .ok (.return_, 1) := by decide +kernel
theorem own_efSA (m : MethodId) (o : Addr) (fa : Addr) : entryFrame m #[(.ref o), (.ref fa)] 3 = mkF m 0 #[.val (.ref o), .val (.ref fa), .unset] [] := by first | (simp [entryFrame, mkF, argsToLocals, Value.category]; done) | rfl
def own_QSA (Z : State) (o : Addr) (kc : ClassId) (cK : ClassId) (fa : Addr) (h0 : Heap) (n0 : Nat) (rv__ : Option Value) (h : Heap) (rL__ : List Loc) : Prop := rv__ = none ∧ Fr n0 rL__ ∧ Keep h0 h [o] ∧ Arv Z h o kc .int (5 : Int32) [(.int (0 : Int32)), (.int (1 : Int32)), (.int (2 : Int32)), (.int (3 : Int32)), (.int (4 : Int32))] (.int (0 : Int32))
abbrev own_RSA : Room := { frames := 2, cells := 0, slots := 0, locals := 27 }
set_option maxRecDepth 65536 in
set_option maxHeartbeats 40000000 in
theorem own_rmSA (l : Launch) (Z : State) (a0 : Array Value) (hw : ∀ d ∈ tables_1, d.before a0 Z = true) (ws : List Jvm.Cond) (o : Addr) (kc : ClassId) (cK : ClassId) (fa : Addr) (h0 : Heap) (n0 : Nat) (Z0 : n0 ≤ h0.size) (g_o : n0 ≤ o) (Va : Arv Z h0 o kc .int (5 : Int32) [(.int (0 : Int32)), (.int (0 : Int32)), (.int (0 : Int32)), (.int (0 : Int32)), (.int (0 : Int32))] (.int (0 : Int32))) :
    MetFree l (⟨"java/util/Arrays", "setAll", "([ILjava/util/function/IntUnaryOperator;)V"⟩ : MethodName) (head1 (Jvm.Cond.code (⟨"java/util/Arrays", "setAll", "([ILjava/util/function/IntUnaryOperator;)V"⟩ : MethodName) jdk_65_method_175_code 3 none :: ws) own_RSA) (fun aa__ U => aa__ = #[(.ref o), (.ref fa)] ∧ Z.Warmed39 U.vm ∧ U.heap = h0 ∧ U.lambdaAt? (⟨"com/example/saar/saar/sim/Parts", "<init>", "(I)V"⟩ : MethodName) 15 13 own_sig = some (cK, some fa)) (fun _ _ _ _ _ => True) (fun _ U oc_ U' => ∃ rv__ rL__, oc_ = .returned rv__ ∧ own_QSA Z o kc cK fa h0 n0 rv__ U'.heap rL__ ∧ FrameEnd U oc_ U' rL__ own_RSA.cells own_RSA.slots) := by
  refine MetFree.of_bodySF (plainFor_of_name own_pn_java_util_Arrays) hisR ?_
  intro p e s m args below meth c s₁ Bd hml0 hP hK
  obtain ⟨rfl, hZ, hh, hLam⟩ := hP
  have hx := Bd.exec
  have hby := Bd.bytes
  have hml : c.maxLocals = 3 := hml0
  have hown : s.vm.findClass "java/util/Arrays" = some m.cls := findClass_of_methodNamed Bd.named
  have hnm := (name_of_methodNamed Bd.named Bd.method).1
  have X0 : Stand p l e own_RSA s m #[(.ref o), (.ref fa)] below meth c s₁ [] 0 0 := Stand.of_body Bd
  have e0 : s₁.heap = h0 := by rw [← hh, Bd.state]; rfl
  have N0 := Fr.nil n0
  refine own_in (fun _ k => castTop (own_efSA m o fa) k) ?_
  intro RR hRR
  obtain ⟨hmd, hfn⟩ := own_lam hLam
  show own_Go p.tables e below RR (s₁.setTop (mkF m 0 #[.val (.ref o), .val (.ref fa), .unset] []))
  refine own_st (fun _ k => XS.aloadN X0.here hx rfl (hb hby own_djdk_65_method_175_code_0) rfl rfl k) ?_
  show own_Go p.tables e below RR (s₁.setTop (mkF m 1 #[.val (.ref o), .val (.ref fa), .unset] [(.ref fa)]))
  obtain ⟨_, _, ⟨T1, L1, k1, n1⟩, -, X1, ⟨Lc1, hQ1, l1, y1, z1⟩, st1⟩ := Jvm.LawKit.callS X0 hx (y := (⟨"java/util/Objects", "requireNonNull", "(Ljava/lang/Object;)Ljava/lang/Object;"⟩ : MethodName)) hown (mvT hZ (hw _ (List.mem_of_getElem? (i := 19) rfl))) (mvT hZ (hw _ (List.mem_of_getElem? (i := 20) rfl))) (mvT hZ (hw _ (List.mem_of_getElem? (i := 21) rfl))) (mvT hZ (hw _ (List.mem_of_getElem? (i := 22) rfl))) (by decide) (backOf (W := 0) (own_rmRN l Z a0 hw [] fa h0 n0 Z0 ) hZ (hw _ (List.mem_of_getElem? (i := 22) rfl)) (hw _ (List.mem_of_getElem? (i := 21) rfl)) (by decide) (by decide)) (g := (mkF m 1 #[.val (.ref o), .val (.ref fa), .unset] [(.ref fa)])) rfl (by rw [hml]; rfl) (argsL := [(.ref fa)]) (rest := []) (lenOf own_pd__Ljava_lang_Object__Ljava_lang_Object_ rfl) rfl (by show 2 * 0 + _ ≤ _; exact Nat.le_of_eq rfl) (hb hby own_djdk_65_method_175_code_1) (fun _ _ => ⟨rfl, e0, (by decide : 0 + 0 ≤ _), (by decide : 0 + 0 ≤ _)⟩)
  dsimp only [Pt.U, Pt.locs, Pt.cells, Pt.slots] at X1 l1 y1 z1 st1 hQ1
  rw [l1, y1, z1] at X1
  obtain ⟨rfl, Nq1, eq1⟩ := hQ1
  have N1 := Fr.app N0 Nq1
  refine own_st st1 ?_
  show own_Go p.tables e below RR (T1.setTop (mkF m 4 #[.val (.ref o), .val (.ref fa), .unset] [(.ref fa)]))
  refine own_st (fun _ k => XS.pop X1.here hx rfl (hb hby own_djdk_65_method_175_code_4) rfl rfl (XS.iconst X1.here hx rfl (hb hby own_djdk_65_method_175_code_5) (XS.istoreN X1.here hx rfl (hb hby own_djdk_65_method_175_code_6) rfl (l' := #[.val (.ref o), .val (.ref fa), .val (.int (0 : Int32))]) rfl (XS.iloadN X1.here hx rfl (hb hby own_djdk_65_method_175_code_7) rfl (XS.aloadN X1.here hx rfl (hb hby own_djdk_65_method_175_code_8) rfl rfl k))))) ?_
  show own_Go p.tables e below RR (T1.setTop (mkF m 9 #[.val (.ref o), .val (.ref fa), .val (.int (0 : Int32))] [(.ref o), (.int (0 : Int32))]))
  obtain ⟨c2, A2, -, s2, m2, -, -⟩ := id Va
  refine own_st (fun _ k => own_len X1 hx hZ eq1 A2 s2 m2 (g := (mkF m 9 #[.val (.ref o), .val (.ref fa), .val (.int (0 : Int32))] [(.ref o), (.int (0 : Int32))])) rfl rfl (hb hby own_djdk_65_method_175_code_9) k) ?_
  show own_Go p.tables e below RR (T1.setTop (mkF m 10 #[.val (.ref o), .val (.ref fa), .val (.int (0 : Int32))] [(.int (5 : Int32)), (.int (0 : Int32))]))
  refine own_st (fun _ k => XS.icmpNo X1.here hx rfl (hb hby own_djdk_65_method_175_code_10) rfl (tlt (by decide)).2.1 (XS.aloadN X1.here hx rfl (hb hby own_djdk_65_method_175_code_13) rfl rfl (XS.iloadN X1.here hx rfl (hb hby own_djdk_65_method_175_code_14) rfl (XS.aloadN X1.here hx rfl (hb hby own_djdk_65_method_175_code_15) rfl rfl (XS.iloadN X1.here hx rfl (hb hby own_djdk_65_method_175_code_16) rfl k))))) ?_
  show own_Go p.tables e below RR (T1.setTop (mkF m 17 #[.val (.ref o), .val (.ref fa), .val (.int (0 : Int32))] [(.int (0 : Int32)), (.ref fa), (.int (0 : Int32)), (.ref o)]))
  show own_Go p.tables e below RR (T1.setTop (mkF m 17 #[.val (.ref o), .val (.ref fa), .val (.int (0 : Int32))] [(.int (0 : Int32)), (.ref fa), (.int (0 : Int32)), (.ref o)]))
  obtain ⟨v3, r3, t3, T3, L3, X3a, hL3, e3a, e3b, hq3, st3⟩ := Jvm.LamKit.callLamS X1 hx (own := "java/util/Arrays") (host := "com/example/saar/saar/sim/Parts") (index := 582) (count := 2) (xi := own_xi) (y := own_ly) (σ := own_sig) (own_target l (0 : Int32)) (fun _ _ _ _ h => h) rfl rfl (fun w hw' a' U hU => by rw [List.mem_singleton.mp hw']; exact word_at (args := #[]) hU (Or.inl (by first | rfl | simp [Cond.onTables, Cond.keeps, Cond.steady])) (mvT hZ (hw _ (List.mem_of_getElem? (i := 27) rfl)))) (List.mem_singleton.mpr rfl) hown (mvT hZ (hw _ (List.mem_of_getElem? (i := 23) rfl))) (mvT hZ (hw _ (List.mem_of_getElem? (i := 24) rfl))) (mvT hZ (hw _ (List.mem_of_getElem? (i := 25) rfl))) (mvT hZ (hw _ (List.mem_of_getElem? (i := 27) rfl))) (mvT hZ (hw _ (List.mem_of_getElem? (i := 26) rfl))) (mvT hZ (hw _ (List.mem_of_getElem? (i := 2) rfl))) (by decide +kernel) (by decide +kernel) (by decide) hmd (own_fnAt X1 hfn) own_fwd own_f1 own_f4 (g := (mkF m 17 #[.val (.ref o), .val (.ref fa), .val (.int (0 : Int32))] [(.int (0 : Int32)), (.ref fa), (.int (0 : Int32)), (.ref o)])) rfl (by rw [hml]; rfl) (argsL := [(.int (0 : Int32))]) (argsT := [(.int (0 : Int32))]) (rest := [(.int (0 : Int32)), (.ref o)]) (L0 := #[.val (.ref fa), .val (.int (0 : Int32))]) (lenOf own_pd__I_I rfl) (lenOf own_pd__I_I rfl) rfl (hb hby own_djdk_65_method_175_code_17) (fun _ => rfl) rfl (fun U ck bl target hU hck _ _ k => XS.iloadN hU hx rfl (hb hck own_f0) rfl k) (fun st w t h => by cases h.1; exact Or.inl ⟨.int, _, rfl, Or.inl rfl, rfl, rfl, rfl⟩) (by decide) (by show 2 * 0 + 2 + (2 + 11) + (1 + 11 + 0) ≤ _; decide) (by decide) (by decide) (fun _ _ _ => rfl)
  obtain ⟨hv3, eh3⟩ := hq3
  cases hv3
  have X3 := Stand.forget (extra := L3) X3a (fun q hq => (hL3 q hq).elim)
  have e3 := (e3a.trans eh3).trans (e3b.trans eq1)
  refine own_st st3 ?_
  show own_Go p.tables e below RR (T3.setTop (mkF m 22 #[.val (.ref o), .val (.ref fa), .val (.int (0 : Int32))] [(.int (0 : Int32)), (.int (0 : Int32)), (.ref o)]))
  obtain ⟨c4, A4, q4, s4, m4, H4, G4⟩ := id Va
  obtain ⟨T5, h5, X5, e5, W5, st5⟩ := stI X3 hx hZ e3 A4 (j := (0 : Int32)) (inb_of s4 ⟨by decide, by decide⟩) (g := (mkF m 22 #[.val (.ref o), .val (.ref fa), .val (.int (0 : Int32))] [(.int (0 : Int32)), (.int (0 : Int32)), (.ref o)])) rfl rfl (hb hby own_djdk_65_method_175_code_22)
  have V5 := Arv.set A4 q4 s4 m4 H4 G4 rfl W5 0 rfl (Nat.le_of_ble_eq_true rfl)
  have V5 : Arv Z h5 o kc .int (5 : Int32) [(.int (0 : Int32)), (.int (0 : Int32)), (.int (0 : Int32)), (.int (0 : Int32)), (.int (0 : Int32))] (.int (0 : Int32)) := V5
  have N5 := Fr.snoc X5 N1 g_o
  refine own_st st5 ?_
  have z6 : n0 ≤ h5.size := Nat.le_trans Z0 (Keep.of_wr W5).1
  have kk7 : Keep h0 h5 [o] := (Keep.refl h0 [o]).wr W5 (Or.inl (List.mem_of_getElem? (i := 0) rfl))
  show own_Go p.tables e below RR (T5.setTop (mkF m 23 #[.val (.ref o), .val (.ref fa), .val (.int (0 : Int32))] []))
  refine own_st (fun _ k => XS.iinc X5.here hx rfl (hb hby own_djdk_65_method_175_code_23) rfl (l' := #[.val (.ref o), .val (.ref fa), .val (.int (1 : Int32))]) rfl (XS.goto X5.here hx rfl (pc0 := 26) (pc' := 7) rfl (hb hby own_djdk_65_method_175_code_26) (by decide) (by decide) (XS.iloadN X5.here hx rfl (hb hby own_djdk_65_method_175_code_7) rfl (XS.aloadN X5.here hx rfl (hb hby own_djdk_65_method_175_code_8) rfl rfl k)))) ?_
  show own_Go p.tables e below RR (T5.setTop (mkF m 9 #[.val (.ref o), .val (.ref fa), .val (.int (1 : Int32))] [(.ref o), (.int (1 : Int32))]))
  obtain ⟨c8, A8, -, s8, m8, -, -⟩ := id V5
  refine own_st (fun _ k => own_len X5 hx hZ e5 A8 s8 m8 (g := (mkF m 9 #[.val (.ref o), .val (.ref fa), .val (.int (1 : Int32))] [(.ref o), (.int (1 : Int32))])) rfl rfl (hb hby own_djdk_65_method_175_code_9) k) ?_
  show own_Go p.tables e below RR (T5.setTop (mkF m 10 #[.val (.ref o), .val (.ref fa), .val (.int (1 : Int32))] [(.int (5 : Int32)), (.int (1 : Int32))]))
  refine own_st (fun _ k => XS.icmpNo X5.here hx rfl (hb hby own_djdk_65_method_175_code_10) rfl (tlt (by decide)).2.1 (XS.aloadN X5.here hx rfl (hb hby own_djdk_65_method_175_code_13) rfl rfl (XS.iloadN X5.here hx rfl (hb hby own_djdk_65_method_175_code_14) rfl (XS.aloadN X5.here hx rfl (hb hby own_djdk_65_method_175_code_15) rfl rfl (XS.iloadN X5.here hx rfl (hb hby own_djdk_65_method_175_code_16) rfl k))))) ?_
  show own_Go p.tables e below RR (T5.setTop (mkF m 17 #[.val (.ref o), .val (.ref fa), .val (.int (1 : Int32))] [(.int (1 : Int32)), (.ref fa), (.int (1 : Int32)), (.ref o)]))
  show own_Go p.tables e below RR (T5.setTop (mkF m 17 #[.val (.ref o), .val (.ref fa), .val (.int (1 : Int32))] [(.int (1 : Int32)), (.ref fa), (.int (1 : Int32)), (.ref o)]))
  obtain ⟨v9, r9, t9, T9, L9, X9a, hL9, e9a, e9b, hq9, st9⟩ := Jvm.LamKit.callLamS X5 hx (own := "java/util/Arrays") (host := "com/example/saar/saar/sim/Parts") (index := 582) (count := 2) (xi := own_xi) (y := own_ly) (σ := own_sig) (own_target l (1 : Int32)) (fun _ _ _ _ h => h) rfl rfl (fun w hw' a' U hU => by rw [List.mem_singleton.mp hw']; exact word_at (args := #[]) hU (Or.inl (by first | rfl | simp [Cond.onTables, Cond.keeps, Cond.steady])) (mvT hZ (hw _ (List.mem_of_getElem? (i := 27) rfl)))) (List.mem_singleton.mpr rfl) hown (mvT hZ (hw _ (List.mem_of_getElem? (i := 23) rfl))) (mvT hZ (hw _ (List.mem_of_getElem? (i := 24) rfl))) (mvT hZ (hw _ (List.mem_of_getElem? (i := 25) rfl))) (mvT hZ (hw _ (List.mem_of_getElem? (i := 27) rfl))) (mvT hZ (hw _ (List.mem_of_getElem? (i := 26) rfl))) (mvT hZ (hw _ (List.mem_of_getElem? (i := 2) rfl))) (by decide +kernel) (by decide +kernel) (by decide) hmd (own_fnAt X5 hfn) own_fwd own_f1 own_f4 (g := (mkF m 17 #[.val (.ref o), .val (.ref fa), .val (.int (1 : Int32))] [(.int (1 : Int32)), (.ref fa), (.int (1 : Int32)), (.ref o)])) rfl (by rw [hml]; rfl) (argsL := [(.int (1 : Int32))]) (argsT := [(.int (1 : Int32))]) (rest := [(.int (1 : Int32)), (.ref o)]) (L0 := #[.val (.ref fa), .val (.int (1 : Int32))]) (lenOf own_pd__I_I rfl) (lenOf own_pd__I_I rfl) rfl (hb hby own_djdk_65_method_175_code_17) (fun _ => rfl) rfl (fun U ck bl target hU hck _ _ k => XS.iloadN hU hx rfl (hb hck own_f0) rfl k) (fun st w t h => by cases h.1; exact Or.inl ⟨.int, _, rfl, Or.inl rfl, rfl, rfl, rfl⟩) (by decide) (by show 2 * 0 + 2 + (2 + 11) + (1 + 11 + 0) ≤ _; decide) (by decide) (by decide) (fun _ _ _ => rfl)
  obtain ⟨hv9, eh9⟩ := hq9
  cases hv9
  have X9 := Stand.forget (extra := L9) X9a (fun q hq => (hL9 q hq).elim)
  have e9 := (e9a.trans eh9).trans (e9b.trans e5)
  refine own_st st9 ?_
  show own_Go p.tables e below RR (T9.setTop (mkF m 22 #[.val (.ref o), .val (.ref fa), .val (.int (1 : Int32))] [(.int (1 : Int32)), (.int (1 : Int32)), (.ref o)]))
  obtain ⟨c10, A10, q10, s10, m10, H10, G10⟩ := id V5
  obtain ⟨T11, h11, X11, e11, W11, st11⟩ := stI X9 hx hZ e9 A10 (j := (1 : Int32)) (inb_of s10 ⟨by decide, by decide⟩) (g := (mkF m 22 #[.val (.ref o), .val (.ref fa), .val (.int (1 : Int32))] [(.int (1 : Int32)), (.int (1 : Int32)), (.ref o)])) rfl rfl (hb hby own_djdk_65_method_175_code_22)
  have V11 := Arv.set A10 q10 s10 m10 H10 G10 rfl W11 1 rfl (Nat.le_of_ble_eq_true rfl)
  have V11 : Arv Z h11 o kc .int (5 : Int32) [(.int (0 : Int32)), (.int (1 : Int32)), (.int (0 : Int32)), (.int (0 : Int32)), (.int (0 : Int32))] (.int (0 : Int32)) := V11
  have N11 := Fr.snoc X11 N5 g_o
  refine own_st st11 ?_
  have z12 : n0 ≤ h11.size := Nat.le_trans z6 (Keep.of_wr W11).1
  have kk13 : Keep h0 h11 [o] := kk7.wr W11 (Or.inl (List.mem_of_getElem? (i := 0) rfl))
  show own_Go p.tables e below RR (T11.setTop (mkF m 23 #[.val (.ref o), .val (.ref fa), .val (.int (1 : Int32))] []))
  refine own_st (fun _ k => XS.iinc X11.here hx rfl (hb hby own_djdk_65_method_175_code_23) rfl (l' := #[.val (.ref o), .val (.ref fa), .val (.int (2 : Int32))]) rfl (XS.goto X11.here hx rfl (pc0 := 26) (pc' := 7) rfl (hb hby own_djdk_65_method_175_code_26) (by decide) (by decide) (XS.iloadN X11.here hx rfl (hb hby own_djdk_65_method_175_code_7) rfl (XS.aloadN X11.here hx rfl (hb hby own_djdk_65_method_175_code_8) rfl rfl k)))) ?_
  show own_Go p.tables e below RR (T11.setTop (mkF m 9 #[.val (.ref o), .val (.ref fa), .val (.int (2 : Int32))] [(.ref o), (.int (2 : Int32))]))
  obtain ⟨c14, A14, -, s14, m14, -, -⟩ := id V11
  refine own_st (fun _ k => own_len X11 hx hZ e11 A14 s14 m14 (g := (mkF m 9 #[.val (.ref o), .val (.ref fa), .val (.int (2 : Int32))] [(.ref o), (.int (2 : Int32))])) rfl rfl (hb hby own_djdk_65_method_175_code_9) k) ?_
  show own_Go p.tables e below RR (T11.setTop (mkF m 10 #[.val (.ref o), .val (.ref fa), .val (.int (2 : Int32))] [(.int (5 : Int32)), (.int (2 : Int32))]))
  refine own_st (fun _ k => XS.icmpNo X11.here hx rfl (hb hby own_djdk_65_method_175_code_10) rfl (tlt (by decide)).2.1 (XS.aloadN X11.here hx rfl (hb hby own_djdk_65_method_175_code_13) rfl rfl (XS.iloadN X11.here hx rfl (hb hby own_djdk_65_method_175_code_14) rfl (XS.aloadN X11.here hx rfl (hb hby own_djdk_65_method_175_code_15) rfl rfl (XS.iloadN X11.here hx rfl (hb hby own_djdk_65_method_175_code_16) rfl k))))) ?_
  show own_Go p.tables e below RR (T11.setTop (mkF m 17 #[.val (.ref o), .val (.ref fa), .val (.int (2 : Int32))] [(.int (2 : Int32)), (.ref fa), (.int (2 : Int32)), (.ref o)]))
  show own_Go p.tables e below RR (T11.setTop (mkF m 17 #[.val (.ref o), .val (.ref fa), .val (.int (2 : Int32))] [(.int (2 : Int32)), (.ref fa), (.int (2 : Int32)), (.ref o)]))
  obtain ⟨v15, r15, t15, T15, L15, X15a, hL15, e15a, e15b, hq15, st15⟩ := Jvm.LamKit.callLamS X11 hx (own := "java/util/Arrays") (host := "com/example/saar/saar/sim/Parts") (index := 582) (count := 2) (xi := own_xi) (y := own_ly) (σ := own_sig) (own_target l (2 : Int32)) (fun _ _ _ _ h => h) rfl rfl (fun w hw' a' U hU => by rw [List.mem_singleton.mp hw']; exact word_at (args := #[]) hU (Or.inl (by first | rfl | simp [Cond.onTables, Cond.keeps, Cond.steady])) (mvT hZ (hw _ (List.mem_of_getElem? (i := 27) rfl)))) (List.mem_singleton.mpr rfl) hown (mvT hZ (hw _ (List.mem_of_getElem? (i := 23) rfl))) (mvT hZ (hw _ (List.mem_of_getElem? (i := 24) rfl))) (mvT hZ (hw _ (List.mem_of_getElem? (i := 25) rfl))) (mvT hZ (hw _ (List.mem_of_getElem? (i := 27) rfl))) (mvT hZ (hw _ (List.mem_of_getElem? (i := 26) rfl))) (mvT hZ (hw _ (List.mem_of_getElem? (i := 2) rfl))) (by decide +kernel) (by decide +kernel) (by decide) hmd (own_fnAt X11 hfn) own_fwd own_f1 own_f4 (g := (mkF m 17 #[.val (.ref o), .val (.ref fa), .val (.int (2 : Int32))] [(.int (2 : Int32)), (.ref fa), (.int (2 : Int32)), (.ref o)])) rfl (by rw [hml]; rfl) (argsL := [(.int (2 : Int32))]) (argsT := [(.int (2 : Int32))]) (rest := [(.int (2 : Int32)), (.ref o)]) (L0 := #[.val (.ref fa), .val (.int (2 : Int32))]) (lenOf own_pd__I_I rfl) (lenOf own_pd__I_I rfl) rfl (hb hby own_djdk_65_method_175_code_17) (fun _ => rfl) rfl (fun U ck bl target hU hck _ _ k => XS.iloadN hU hx rfl (hb hck own_f0) rfl k) (fun st w t h => by cases h.1; exact Or.inl ⟨.int, _, rfl, Or.inl rfl, rfl, rfl, rfl⟩) (by decide) (by show 2 * 0 + 2 + (2 + 11) + (1 + 11 + 0) ≤ _; decide) (by decide) (by decide) (fun _ _ _ => rfl)
  obtain ⟨hv15, eh15⟩ := hq15
  cases hv15
  have X15 := Stand.forget (extra := L15) X15a (fun q hq => (hL15 q hq).elim)
  have e15 := (e15a.trans eh15).trans (e15b.trans e11)
  refine own_st st15 ?_
  show own_Go p.tables e below RR (T15.setTop (mkF m 22 #[.val (.ref o), .val (.ref fa), .val (.int (2 : Int32))] [(.int (2 : Int32)), (.int (2 : Int32)), (.ref o)]))
  obtain ⟨c16, A16, q16, s16, m16, H16, G16⟩ := id V11
  obtain ⟨T17, h17, X17, e17, W17, st17⟩ := stI X15 hx hZ e15 A16 (j := (2 : Int32)) (inb_of s16 ⟨by decide, by decide⟩) (g := (mkF m 22 #[.val (.ref o), .val (.ref fa), .val (.int (2 : Int32))] [(.int (2 : Int32)), (.int (2 : Int32)), (.ref o)])) rfl rfl (hb hby own_djdk_65_method_175_code_22)
  have V17 := Arv.set A16 q16 s16 m16 H16 G16 rfl W17 2 rfl (Nat.le_of_ble_eq_true rfl)
  have V17 : Arv Z h17 o kc .int (5 : Int32) [(.int (0 : Int32)), (.int (1 : Int32)), (.int (2 : Int32)), (.int (0 : Int32)), (.int (0 : Int32))] (.int (0 : Int32)) := V17
  have N17 := Fr.snoc X17 N11 g_o
  refine own_st st17 ?_
  have z18 : n0 ≤ h17.size := Nat.le_trans z12 (Keep.of_wr W17).1
  have kk19 : Keep h0 h17 [o] := kk13.wr W17 (Or.inl (List.mem_of_getElem? (i := 0) rfl))
  show own_Go p.tables e below RR (T17.setTop (mkF m 23 #[.val (.ref o), .val (.ref fa), .val (.int (2 : Int32))] []))
  refine own_st (fun _ k => XS.iinc X17.here hx rfl (hb hby own_djdk_65_method_175_code_23) rfl (l' := #[.val (.ref o), .val (.ref fa), .val (.int (3 : Int32))]) rfl (XS.goto X17.here hx rfl (pc0 := 26) (pc' := 7) rfl (hb hby own_djdk_65_method_175_code_26) (by decide) (by decide) (XS.iloadN X17.here hx rfl (hb hby own_djdk_65_method_175_code_7) rfl (XS.aloadN X17.here hx rfl (hb hby own_djdk_65_method_175_code_8) rfl rfl k)))) ?_
  show own_Go p.tables e below RR (T17.setTop (mkF m 9 #[.val (.ref o), .val (.ref fa), .val (.int (3 : Int32))] [(.ref o), (.int (3 : Int32))]))
  obtain ⟨c20, A20, -, s20, m20, -, -⟩ := id V17
  refine own_st (fun _ k => own_len X17 hx hZ e17 A20 s20 m20 (g := (mkF m 9 #[.val (.ref o), .val (.ref fa), .val (.int (3 : Int32))] [(.ref o), (.int (3 : Int32))])) rfl rfl (hb hby own_djdk_65_method_175_code_9) k) ?_
  show own_Go p.tables e below RR (T17.setTop (mkF m 10 #[.val (.ref o), .val (.ref fa), .val (.int (3 : Int32))] [(.int (5 : Int32)), (.int (3 : Int32))]))
  refine own_st (fun _ k => XS.icmpNo X17.here hx rfl (hb hby own_djdk_65_method_175_code_10) rfl (tlt (by decide)).2.1 (XS.aloadN X17.here hx rfl (hb hby own_djdk_65_method_175_code_13) rfl rfl (XS.iloadN X17.here hx rfl (hb hby own_djdk_65_method_175_code_14) rfl (XS.aloadN X17.here hx rfl (hb hby own_djdk_65_method_175_code_15) rfl rfl (XS.iloadN X17.here hx rfl (hb hby own_djdk_65_method_175_code_16) rfl k))))) ?_
  show own_Go p.tables e below RR (T17.setTop (mkF m 17 #[.val (.ref o), .val (.ref fa), .val (.int (3 : Int32))] [(.int (3 : Int32)), (.ref fa), (.int (3 : Int32)), (.ref o)]))
  show own_Go p.tables e below RR (T17.setTop (mkF m 17 #[.val (.ref o), .val (.ref fa), .val (.int (3 : Int32))] [(.int (3 : Int32)), (.ref fa), (.int (3 : Int32)), (.ref o)]))
  obtain ⟨v21, r21, t21, T21, L21, X21a, hL21, e21a, e21b, hq21, st21⟩ := Jvm.LamKit.callLamS X17 hx (own := "java/util/Arrays") (host := "com/example/saar/saar/sim/Parts") (index := 582) (count := 2) (xi := own_xi) (y := own_ly) (σ := own_sig) (own_target l (3 : Int32)) (fun _ _ _ _ h => h) rfl rfl (fun w hw' a' U hU => by rw [List.mem_singleton.mp hw']; exact word_at (args := #[]) hU (Or.inl (by first | rfl | simp [Cond.onTables, Cond.keeps, Cond.steady])) (mvT hZ (hw _ (List.mem_of_getElem? (i := 27) rfl)))) (List.mem_singleton.mpr rfl) hown (mvT hZ (hw _ (List.mem_of_getElem? (i := 23) rfl))) (mvT hZ (hw _ (List.mem_of_getElem? (i := 24) rfl))) (mvT hZ (hw _ (List.mem_of_getElem? (i := 25) rfl))) (mvT hZ (hw _ (List.mem_of_getElem? (i := 27) rfl))) (mvT hZ (hw _ (List.mem_of_getElem? (i := 26) rfl))) (mvT hZ (hw _ (List.mem_of_getElem? (i := 2) rfl))) (by decide +kernel) (by decide +kernel) (by decide) hmd (own_fnAt X17 hfn) own_fwd own_f1 own_f4 (g := (mkF m 17 #[.val (.ref o), .val (.ref fa), .val (.int (3 : Int32))] [(.int (3 : Int32)), (.ref fa), (.int (3 : Int32)), (.ref o)])) rfl (by rw [hml]; rfl) (argsL := [(.int (3 : Int32))]) (argsT := [(.int (3 : Int32))]) (rest := [(.int (3 : Int32)), (.ref o)]) (L0 := #[.val (.ref fa), .val (.int (3 : Int32))]) (lenOf own_pd__I_I rfl) (lenOf own_pd__I_I rfl) rfl (hb hby own_djdk_65_method_175_code_17) (fun _ => rfl) rfl (fun U ck bl target hU hck _ _ k => XS.iloadN hU hx rfl (hb hck own_f0) rfl k) (fun st w t h => by cases h.1; exact Or.inl ⟨.int, _, rfl, Or.inl rfl, rfl, rfl, rfl⟩) (by decide) (by show 2 * 0 + 2 + (2 + 11) + (1 + 11 + 0) ≤ _; decide) (by decide) (by decide) (fun _ _ _ => rfl)
  obtain ⟨hv21, eh21⟩ := hq21
  cases hv21
  have X21 := Stand.forget (extra := L21) X21a (fun q hq => (hL21 q hq).elim)
  have e21 := (e21a.trans eh21).trans (e21b.trans e17)
  refine own_st st21 ?_
  show own_Go p.tables e below RR (T21.setTop (mkF m 22 #[.val (.ref o), .val (.ref fa), .val (.int (3 : Int32))] [(.int (3 : Int32)), (.int (3 : Int32)), (.ref o)]))
  obtain ⟨c22, A22, q22, s22, m22, H22, G22⟩ := id V17
  obtain ⟨T23, h23, X23, e23, W23, st23⟩ := stI X21 hx hZ e21 A22 (j := (3 : Int32)) (inb_of s22 ⟨by decide, by decide⟩) (g := (mkF m 22 #[.val (.ref o), .val (.ref fa), .val (.int (3 : Int32))] [(.int (3 : Int32)), (.int (3 : Int32)), (.ref o)])) rfl rfl (hb hby own_djdk_65_method_175_code_22)
  have V23 := Arv.set A22 q22 s22 m22 H22 G22 rfl W23 3 rfl (Nat.le_of_ble_eq_true rfl)
  have V23 : Arv Z h23 o kc .int (5 : Int32) [(.int (0 : Int32)), (.int (1 : Int32)), (.int (2 : Int32)), (.int (3 : Int32)), (.int (0 : Int32))] (.int (0 : Int32)) := V23
  have N23 := Fr.snoc X23 N17 g_o
  refine own_st st23 ?_
  have z24 : n0 ≤ h23.size := Nat.le_trans z18 (Keep.of_wr W23).1
  have kk25 : Keep h0 h23 [o] := kk19.wr W23 (Or.inl (List.mem_of_getElem? (i := 0) rfl))
  show own_Go p.tables e below RR (T23.setTop (mkF m 23 #[.val (.ref o), .val (.ref fa), .val (.int (3 : Int32))] []))
  refine own_st (fun _ k => XS.iinc X23.here hx rfl (hb hby own_djdk_65_method_175_code_23) rfl (l' := #[.val (.ref o), .val (.ref fa), .val (.int (4 : Int32))]) rfl (XS.goto X23.here hx rfl (pc0 := 26) (pc' := 7) rfl (hb hby own_djdk_65_method_175_code_26) (by decide) (by decide) (XS.iloadN X23.here hx rfl (hb hby own_djdk_65_method_175_code_7) rfl (XS.aloadN X23.here hx rfl (hb hby own_djdk_65_method_175_code_8) rfl rfl k)))) ?_
  show own_Go p.tables e below RR (T23.setTop (mkF m 9 #[.val (.ref o), .val (.ref fa), .val (.int (4 : Int32))] [(.ref o), (.int (4 : Int32))]))
  obtain ⟨c26, A26, -, s26, m26, -, -⟩ := id V23
  refine own_st (fun _ k => own_len X23 hx hZ e23 A26 s26 m26 (g := (mkF m 9 #[.val (.ref o), .val (.ref fa), .val (.int (4 : Int32))] [(.ref o), (.int (4 : Int32))])) rfl rfl (hb hby own_djdk_65_method_175_code_9) k) ?_
  show own_Go p.tables e below RR (T23.setTop (mkF m 10 #[.val (.ref o), .val (.ref fa), .val (.int (4 : Int32))] [(.int (5 : Int32)), (.int (4 : Int32))]))
  refine own_st (fun _ k => XS.icmpNo X23.here hx rfl (hb hby own_djdk_65_method_175_code_10) rfl (tlt (by decide)).2.1 (XS.aloadN X23.here hx rfl (hb hby own_djdk_65_method_175_code_13) rfl rfl (XS.iloadN X23.here hx rfl (hb hby own_djdk_65_method_175_code_14) rfl (XS.aloadN X23.here hx rfl (hb hby own_djdk_65_method_175_code_15) rfl rfl (XS.iloadN X23.here hx rfl (hb hby own_djdk_65_method_175_code_16) rfl k))))) ?_
  show own_Go p.tables e below RR (T23.setTop (mkF m 17 #[.val (.ref o), .val (.ref fa), .val (.int (4 : Int32))] [(.int (4 : Int32)), (.ref fa), (.int (4 : Int32)), (.ref o)]))
  show own_Go p.tables e below RR (T23.setTop (mkF m 17 #[.val (.ref o), .val (.ref fa), .val (.int (4 : Int32))] [(.int (4 : Int32)), (.ref fa), (.int (4 : Int32)), (.ref o)]))
  obtain ⟨v27, r27, t27, T27, L27, X27a, hL27, e27a, e27b, hq27, st27⟩ := Jvm.LamKit.callLamS X23 hx (own := "java/util/Arrays") (host := "com/example/saar/saar/sim/Parts") (index := 582) (count := 2) (xi := own_xi) (y := own_ly) (σ := own_sig) (own_target l (4 : Int32)) (fun _ _ _ _ h => h) rfl rfl (fun w hw' a' U hU => by rw [List.mem_singleton.mp hw']; exact word_at (args := #[]) hU (Or.inl (by first | rfl | simp [Cond.onTables, Cond.keeps, Cond.steady])) (mvT hZ (hw _ (List.mem_of_getElem? (i := 27) rfl)))) (List.mem_singleton.mpr rfl) hown (mvT hZ (hw _ (List.mem_of_getElem? (i := 23) rfl))) (mvT hZ (hw _ (List.mem_of_getElem? (i := 24) rfl))) (mvT hZ (hw _ (List.mem_of_getElem? (i := 25) rfl))) (mvT hZ (hw _ (List.mem_of_getElem? (i := 27) rfl))) (mvT hZ (hw _ (List.mem_of_getElem? (i := 26) rfl))) (mvT hZ (hw _ (List.mem_of_getElem? (i := 2) rfl))) (by decide +kernel) (by decide +kernel) (by decide) hmd (own_fnAt X23 hfn) own_fwd own_f1 own_f4 (g := (mkF m 17 #[.val (.ref o), .val (.ref fa), .val (.int (4 : Int32))] [(.int (4 : Int32)), (.ref fa), (.int (4 : Int32)), (.ref o)])) rfl (by rw [hml]; rfl) (argsL := [(.int (4 : Int32))]) (argsT := [(.int (4 : Int32))]) (rest := [(.int (4 : Int32)), (.ref o)]) (L0 := #[.val (.ref fa), .val (.int (4 : Int32))]) (lenOf own_pd__I_I rfl) (lenOf own_pd__I_I rfl) rfl (hb hby own_djdk_65_method_175_code_17) (fun _ => rfl) rfl (fun U ck bl target hU hck _ _ k => XS.iloadN hU hx rfl (hb hck own_f0) rfl k) (fun st w t h => by cases h.1; exact Or.inl ⟨.int, _, rfl, Or.inl rfl, rfl, rfl, rfl⟩) (by decide) (by show 2 * 0 + 2 + (2 + 11) + (1 + 11 + 0) ≤ _; decide) (by decide) (by decide) (fun _ _ _ => rfl)
  obtain ⟨hv27, eh27⟩ := hq27
  cases hv27
  have X27 := Stand.forget (extra := L27) X27a (fun q hq => (hL27 q hq).elim)
  have e27 := (e27a.trans eh27).trans (e27b.trans e23)
  refine own_st st27 ?_
  show own_Go p.tables e below RR (T27.setTop (mkF m 22 #[.val (.ref o), .val (.ref fa), .val (.int (4 : Int32))] [(.int (4 : Int32)), (.int (4 : Int32)), (.ref o)]))
  obtain ⟨c28, A28, q28, s28, m28, H28, G28⟩ := id V23
  obtain ⟨T29, h29, X29, e29, W29, st29⟩ := stI X27 hx hZ e27 A28 (j := (4 : Int32)) (inb_of s28 ⟨by decide, by decide⟩) (g := (mkF m 22 #[.val (.ref o), .val (.ref fa), .val (.int (4 : Int32))] [(.int (4 : Int32)), (.int (4 : Int32)), (.ref o)])) rfl rfl (hb hby own_djdk_65_method_175_code_22)
  have V29 := Arv.set A28 q28 s28 m28 H28 G28 rfl W29 4 rfl (Nat.le_of_ble_eq_true rfl)
  have V29 : Arv Z h29 o kc .int (5 : Int32) [(.int (0 : Int32)), (.int (1 : Int32)), (.int (2 : Int32)), (.int (3 : Int32)), (.int (4 : Int32))] (.int (0 : Int32)) := V29
  have N29 := Fr.snoc X29 N23 g_o
  refine own_st st29 ?_
  have z30 : n0 ≤ h29.size := Nat.le_trans z24 (Keep.of_wr W29).1
  have kk31 : Keep h0 h29 [o] := kk25.wr W29 (Or.inl (List.mem_of_getElem? (i := 0) rfl))
  show own_Go p.tables e below RR (T29.setTop (mkF m 23 #[.val (.ref o), .val (.ref fa), .val (.int (4 : Int32))] []))
  refine own_st (fun _ k => XS.iinc X29.here hx rfl (hb hby own_djdk_65_method_175_code_23) rfl (l' := #[.val (.ref o), .val (.ref fa), .val (.int (5 : Int32))]) rfl (XS.goto X29.here hx rfl (pc0 := 26) (pc' := 7) rfl (hb hby own_djdk_65_method_175_code_26) (by decide) (by decide) (XS.iloadN X29.here hx rfl (hb hby own_djdk_65_method_175_code_7) rfl (XS.aloadN X29.here hx rfl (hb hby own_djdk_65_method_175_code_8) rfl rfl k)))) ?_
  show own_Go p.tables e below RR (T29.setTop (mkF m 9 #[.val (.ref o), .val (.ref fa), .val (.int (5 : Int32))] [(.ref o), (.int (5 : Int32))]))
  obtain ⟨c32, A32, -, s32, m32, -, -⟩ := id V29
  refine own_st (fun _ k => own_len X29 hx hZ e29 A32 s32 m32 (g := (mkF m 9 #[.val (.ref o), .val (.ref fa), .val (.int (5 : Int32))] [(.ref o), (.int (5 : Int32))])) rfl rfl (hb hby own_djdk_65_method_175_code_9) k) ?_
  show own_Go p.tables e below RR (T29.setTop (mkF m 10 #[.val (.ref o), .val (.ref fa), .val (.int (5 : Int32))] [(.int (5 : Int32)), (.int (5 : Int32))]))
  refine own_st (fun _ k => XS.icmpYes X29.here hx rfl (pc0 := 10) (pc' := 29) rfl (hb hby own_djdk_65_method_175_code_10) rfl (flt (by decide)).2.1 (by decide) (by decide) k) ?_
  show own_Go p.tables e below RR (T29.setTop (mkF m 29 #[.val (.ref o), .val (.ref fa), .val (.int (5 : Int32))] []))
  obtain ⟨fs, hrt_, hrun, hended, hW, hsame⟩ := X29.leave (v := none) (fun _ => rfl)
  refine own_fin (X29.returnOut hx Bd.returns (hb hby own_djdk_65_method_175_code_29) hrt_) (hRR _ ⟨_, hrun, hended, _, _, rfl, ?_, ⟨_, rfl⟩, hW, hsame.mono (by decide) (by decide)⟩)
  show own_QSA Z o kc cK fa h0 n0 _ T29.heap _
  rw [e29]
  exact ⟨rfl, N29, kk31, V29⟩
theorem own_pn_com_example_saar_saar_sim_Parts : plainName "com/example/saar/saar/sim/Parts" = true := by first | (simp [plainName, overriddenIn]; done) | decide +kernel
theorem own_dprog_63_method_1_code_0 : decode prog_63_method_1_code 0 = .ok (.aload_n 0, 1) := by decide +kernel
theorem own_dprog_63_method_1_code_1 : decode prog_63_method_1_code 1 = .ok (.invokespecial 1, 3) := by decide +kernel
theorem own_dprog_63_method_1_code_4 : decode prog_63_method_1_code 4 = .ok (.aload_n 0, 1) := by decide +kernel
theorem own_dprog_63_method_1_code_5 : decode prog_63_method_1_code 5 = .ok (.iload_n 1, 1) := by decide +kernel
theorem own_dprog_63_method_1_code_6 : decode prog_63_method_1_code 6 = .ok (.newarray .int, 2) := by decide +kernel
theorem own_dprog_63_method_1_code_8 : decode prog_63_method_1_code 8 = .ok (.putfield 7, 3) := by decide +kernel
theorem own_dprog_63_method_1_code_11 : decode prog_63_method_1_code 11 = .ok (.aload_n 0, 1) := by decide +kernel
theorem own_dprog_63_method_1_code_12 : decode prog_63_method_1_code 12 = .ok (.getfield 7, 3) := by decide +kernel
theorem own_dprog_63_method_1_code_15 : decode prog_63_method_1_code 15 = .ok (.invokedynamic 13, 5) := by decide +kernel
theorem own_pd___ILjava_util_function_IntUnaryOperator__V : parseMethodDescriptor "([ILjava/util/function/IntUnaryOperator;)V" = some ⟨[(.array .int), (.object "java/util/function/IntUnaryOperator")], none⟩ := by decide +kernel
theorem own_dprog_63_method_1_code_20 : decode prog_63_method_1_code 20 = .ok (.invokestatic 17, 3) := by decide +kernel
theorem own_dprog_63_method_1_code_23 : decode prog_63_method_1_code 23 = .ok (.return_, 1) := by decide +kernel
theorem own_efIN (m : MethodId) (o : Addr) : entryFrame m #[(.ref o), (.int (5 : Int32))] 2 = mkF m 0 #[.val (.ref o), .val (.int (5 : Int32))] [] := by first | (simp [entryFrame, mkF, argsToLocals, Value.category]; done) | rfl
def own_QIN (Z : State) (o : Addr) (cK : ClassId) (fa : Addr) (ak : Addr) (h0 : Heap) (n0 : Nat) (rv__ : Option Value) (h : Heap) (rL__ : List Loc) : Prop := rv__ = none ∧ Fr n0 rL__ ∧ Keep h0 h [o] ∧ Exa Z h o "com/example/saar/saar/sim/Parts" ∧ Fld Z h o "com/example/saar/saar/sim/Parts" "known" "[I" (.ref ak) ∧ ∃ kk : ClassId, Arv Z h ak kk .int (5 : Int32) [(.int (0 : Int32)), (.int (1 : Int32)), (.int (2 : Int32)), (.int (3 : Int32)), (.int (4 : Int32))] (.int (0 : Int32))
abbrev own_RIN : Room := { frames := 3, cells := 1, slots := 5, locals := 3073 }
set_option maxRecDepth 65536 in
set_option maxHeartbeats 40000000 in
theorem own_rmIN (l : Launch) (Z : State) (a0 : Array Value) (hw : ∀ d ∈ tables_1, d.before a0 Z = true) (ws : List Jvm.Cond) (o : Addr) (cK : ClassId) (fa : Addr) (ak : Addr) (h0 : Heap) (n0 : Nat) (Z0 : n0 ≤ h0.size) (g_o : n0 ≤ o) (hak : ak = h0.size) (E : Exa Z h0 o "com/example/saar/saar/sim/Parts") (F : Fld Z h0 o "com/example/saar/saar/sim/Parts" "known" "[I" .null) :
    MetFree l (⟨"com/example/saar/saar/sim/Parts", "<init>", "(I)V"⟩ : MethodName) (head1 (Jvm.Cond.code (⟨"com/example/saar/saar/sim/Parts", "<init>", "(I)V"⟩ : MethodName) prog_63_method_1_code 2 none :: ws) own_RIN) (fun aa__ U => aa__ = #[(.ref o), (.int (5 : Int32))] ∧ Z.Warmed39 U.vm ∧ U.heap = h0 ∧ U.lambdaAt? (⟨"com/example/saar/saar/sim/Parts", "<init>", "(I)V"⟩ : MethodName) 15 13 own_sig = some (cK, some fa)) (fun _ _ _ _ _ => True) (fun _ U oc_ U' => ∃ rv__ rL__, oc_ = .returned rv__ ∧ own_QIN Z o cK fa ak h0 n0 rv__ U'.heap rL__ ∧ FrameEnd U oc_ U' rL__ own_RIN.cells own_RIN.slots) := by
  refine MetFree.of_bodySF (plainFor_of_name own_pn_com_example_saar_saar_sim_Parts) hisR ?_
  intro p e s m args below meth c s₁ Bd hml0 hP hK
  obtain ⟨rfl, hZ, hh, hLam⟩ := hP
  have hx := Bd.exec
  have hby := Bd.bytes
  have hml : c.maxLocals = 2 := hml0
  have hown : s.vm.findClass "com/example/saar/saar/sim/Parts" = some m.cls := findClass_of_methodNamed Bd.named
  have hnm := (name_of_methodNamed Bd.named Bd.method).1
  have X0 : Stand p l e own_RIN s m #[(.ref o), (.int (5 : Int32))] below meth c s₁ [] 0 0 := Stand.of_body Bd
  have e0 : s₁.heap = h0 := by rw [← hh, Bd.state]; rfl
  have N0 := Fr.nil n0
  refine own_in (fun _ k => castTop (own_efIN m o) k) ?_
  intro RR hRR
  show own_Go p.tables e below RR (s₁.setTop (mkF m 0 #[.val (.ref o), .val (.int (5 : Int32))] []))
  refine own_st (fun _ k => XS.aloadN X0.here hx rfl (hb hby own_dprog_63_method_1_code_0) rfl rfl k) ?_
  show own_Go p.tables e below RR (s₁.setTop (mkF m 1 #[.val (.ref o), .val (.int (5 : Int32))] [(.ref o)]))
  obtain ⟨T1, X1, e1, st1⟩ := initO X0 hx hZ hown (hw _ (List.mem_of_getElem? (i := 6) rfl)) (hw _ (List.mem_of_getElem? (i := 7) rfl)) (hw _ (List.mem_of_getElem? (i := 8) rfl)) e0 (g := (mkF m 1 #[.val (.ref o), .val (.int (5 : Int32))] [(.ref o)])) rfl (by rw [hml]; rfl) rfl (hb hby own_dprog_63_method_1_code_1) (by decide) (W := 0) (by show 2 * 0 + _ ≤ _; exact Nat.le_of_eq rfl) (by decide)
  refine own_st st1 ?_
  show own_Go p.tables e below RR (T1.setTop (mkF m 4 #[.val (.ref o), .val (.int (5 : Int32))] []))
  refine own_st (fun _ k => XS.aloadN X1.here hx rfl (hb hby own_dprog_63_method_1_code_4) rfl rfl (XS.iloadN X1.here hx rfl (hb hby own_dprog_63_method_1_code_5) rfl k)) ?_
  show own_Go p.tables e below RR (T1.setTop (mkF m 6 #[.val (.ref o), .val (.int (5 : Int32))] [(.int (5 : Int32)), (.ref o)]))
  obtain ⟨T2, h2, k2, X2, e2, E2, A2, st2⟩ := newP X1 hx hZ (hw _ (List.mem_of_getElem? (i := 9) rfl)) e1 (g := (mkF m 6 #[.val (.ref o), .val (.int (5 : Int32))] [(.int (5 : Int32)), (.ref o)])) rfl (hb hby own_dprog_63_method_1_code_6) rfl (by decide) (cap := 5) (by decide) (by decide) (by decide) (by decide)
  obtain ⟨b2, gb2⟩ : ∃ z, z = h0.size := ⟨_, rfl⟩
  rw [← gb2] at A2 st2
  have ge2 : n0 ≤ b2 := Nat.le_trans Z0 (Nat.le_of_eq gb2.symm)
  have sz2 : h0.size ≤ b2 := Nat.le_trans (Keep.refl h0 [o]).1 (Nat.le_of_eq gb2.symm)
  refine own_st st2 ?_
  have z3 : n0 ≤ h2.size := Nat.le_trans Z0 E2.1
  have kk4 : Keep h0 h2 [o] := (Keep.refl h0 [o]).ext E2
  have V2 : Arv Z h2 b2 k2 .int (5 : Int32) [(.int (0 : Int32)), (.int (0 : Int32)), (.int (0 : Int32)), (.int (0 : Int32)), (.int (0 : Int32))] (.int (0 : Int32)) := (Arv.new A2 (by decide)).pad (pad_rep [] (.int (0 : Int32)) 5)
  show own_Go p.tables e below RR (T2.setTop (mkF m 8 #[.val (.ref o), .val (.int (5 : Int32))] [(.ref b2), (.ref o)]))
  show own_Go p.tables e below RR (T2.setTop (mkF m 8 #[.val (.ref o), .val (.int (5 : Int32))] [(.ref b2), (.ref o)]))
  have f5 := (F.ext E2)
  have f6 := (E.ext E2)
  obtain ⟨T7, h7, X7, e7, W7, st7⟩ := putF X2 hx hZ hown (host := "") (Or.inl (hw _ (List.mem_of_getElem? (i := 10) rfl))) Via.refl e2 f5 f6 (Or.inr ⟨(hw _ (List.mem_of_getElem? (i := 11) rfl)), rfl, hnm⟩) (hw _ (List.mem_of_getElem? (i := 1) rfl)) (ty := (.array .int)) (by decide) rfl rfl (g := (mkF m 8 #[.val (.ref o), .val (.int (5 : Int32))] [(.ref b2), (.ref o)])) rfl rfl (hb hby own_dprog_63_method_1_code_8)
  have Fw7 := f5.same W7
  have N7 := Fr.snoc X7 N0 g_o
  refine own_st st7 ?_
  have z8 : n0 ≤ h7.size := Nat.le_trans z3 (Keep.of_wr W7).1
  have kk9 : Keep h0 h7 [o] := kk4.wr W7 (Or.inl (List.mem_of_getElem? (i := 0) rfl))
  show own_Go p.tables e below RR (T7.setTop (mkF m 11 #[.val (.ref o), .val (.int (5 : Int32))] []))
  refine own_st (fun _ k => XS.aloadN X7.here hx rfl (hb hby own_dprog_63_method_1_code_11) rfl rfl k) ?_
  show own_Go p.tables e below RR (T7.setTop (mkF m 12 #[.val (.ref o), .val (.int (5 : Int32))] [(.ref o)]))
  obtain ⟨T10, X10, e10, st10⟩ := getF X7 hx hZ hown (host := "") (Or.inl (hw _ (List.mem_of_getElem? (i := 10) rfl))) Via.refl e7 Fw7 (g := (mkF m 12 #[.val (.ref o), .val (.int (5 : Int32))] [(.ref o)])) rfl rfl (hb hby own_dprog_63_method_1_code_12)
  refine own_st st10 ?_
  show own_Go p.tables e below RR (T10.setTop (mkF m 15 #[.val (.ref o), .val (.int (5 : Int32))] [(.ref b2)]))
  show own_Go p.tables e below RR (T10.setTop (mkF m 15 #[.val (.ref o), .val (.int (5 : Int32))] [(.ref b2)]))
  refine own_st (fun _ k => own_siteC X10 hx Bd.named hLam (g := (mkF m 15 #[.val (.ref o), .val (.int (5 : Int32))] [(.ref b2)])) rfl rfl (by rw [hml]; rfl) (hb hby own_dprog_63_method_1_code_15) (by show 2 * 0 + 1 + 3072 ≤ _; decide) k) ?_
  show own_Go p.tables e below RR (T10.setTop (mkF m 20 #[.val (.ref o), .val (.int (5 : Int32))] [(.ref fa), (.ref b2)]))
  have ne11 : o ≠ b2 := (Nat.ne_of_lt (Nat.lt_of_lt_of_le E.lt (Nat.le_of_eq gb2.symm)))
  have f12 := (V2.other W7 (Ne.symm ne11))
  obtain ⟨_, _, ⟨T13, L13, k13, n13⟩, -, X13, ⟨Lc13, hQ13, l13, y13, z13⟩, st13⟩ := Jvm.LawKit.callS X10 hx (y := (⟨"java/util/Arrays", "setAll", "([ILjava/util/function/IntUnaryOperator;)V"⟩ : MethodName)) hown (mvT hZ (hw _ (List.mem_of_getElem? (i := 15) rfl))) (mvT hZ (hw _ (List.mem_of_getElem? (i := 16) rfl))) (mvT hZ (hw _ (List.mem_of_getElem? (i := 17) rfl))) (mvT hZ (hw _ (List.mem_of_getElem? (i := 18) rfl))) (by decide) (own_backL (W := 0) (own_rmSA l Z a0 hw [] b2 k2 cK fa h7 n0 z8 ge2 f12) hLam hZ (hw _ (List.mem_of_getElem? (i := 18) rfl)) (hw _ (List.mem_of_getElem? (i := 17) rfl)) (by decide) (by decide)) (g := (mkF m 20 #[.val (.ref o), .val (.int (5 : Int32))] [(.ref fa), (.ref b2)])) rfl (by rw [hml]; rfl) (argsL := [(.ref b2), (.ref fa)]) (rest := []) (lenOf own_pd___ILjava_util_function_IntUnaryOperator__V rfl) rfl (by show 2 * 0 + _ ≤ _; exact Nat.le_of_eq rfl) (hb hby own_dprog_63_method_1_code_20) (fun _ _ => ⟨rfl, e10, (by decide : 1 + 0 ≤ _), (by decide : 5 + 0 ≤ _)⟩)
  dsimp only [Pt.U, Pt.locs, Pt.cells, Pt.slots] at X13 l13 y13 z13 st13 hQ13
  rw [l13, y13, z13] at X13
  obtain ⟨rfl, Nq13, Kq13, Vq13⟩ := hQ13
  have N13 := Fr.app N7 Nq13
  refine own_st st13 ?_
  have z14 : n0 ≤ T13.heap.size := Nat.le_trans z8 Kq13.1
  have kk15 : Keep h0 T13.heap [o] := kk9.trans Kq13 (allS (Or.inr sz2) all0)
  show own_Go p.tables e below RR (T13.setTop (mkF m 23 #[.val (.ref o), .val (.int (5 : Int32))] []))
  obtain ⟨fs, hrt_, hrun, hended, hW, hsame⟩ := X13.leave (v := none) (fun _ => rfl)
  refine own_fin (X13.returnOut hx Bd.returns (hb hby own_dprog_63_method_1_code_23) hrt_) (hRR _ ⟨_, hrun, hended, _, _, rfl, ?_, ⟨_, rfl⟩, hW, hsame.mono (by decide) (by decide)⟩)
  show own_QIN Z o cK fa ak h0 n0 _ T13.heap _
  obtain rfl : b2 = ak := gb2.trans hak.symm
  have f16 := ((f6.wr W7).keep Kq13)
  have f17 := (Fw7.keep Kq13 (ninS ne11 nin0))
  exact ⟨rfl, N13, kk15, f16, f17, _, Vq13⟩
theorem own_dprog_63_method_3_code_0 : decode prog_63_method_3_code 0 = .ok (.iload_n 1, 1) := by decide +kernel
theorem own_dprog_63_method_3_code_1 : decode prog_63_method_3_code 1 = .ok (.istore_n 2, 1) := by decide +kernel
theorem own_dprog_63_method_3_code_2 : decode prog_63_method_3_code 2 = .ok (.aload_n 0, 1) := by decide +kernel
theorem own_dprog_63_method_3_code_3 : decode prog_63_method_3_code 3 = .ok (.getfield 7, 3) := by decide +kernel
theorem own_dprog_63_method_3_code_6 : decode prog_63_method_3_code 6 = .ok (.iload_n 2, 1) := by decide +kernel
theorem own_dprog_63_method_3_code_7 : decode prog_63_method_3_code 7 = .ok (.iaload, 1) := by decide +kernel
theorem own_dprog_63_method_3_code_8 : decode prog_63_method_3_code 8 = .ok (.iload_n 2, 1) := by decide +kernel
theorem own_dprog_63_method_3_code_9 : decode prog_63_method_3_code 9 = .ok (.if_icmp .eq 30, 3) := by decide +kernel
theorem own_dprog_63_method_3_code_39 : decode prog_63_method_3_code 39 = .ok (.iload_n 2, 1) := by decide +kernel
theorem own_dprog_63_method_3_code_40 : decode prog_63_method_3_code 40 = .ok (.ireturn, 1) := by decide +kernel
theorem own_dprog_63_method_3_code_12 : decode prog_63_method_3_code 12 = .ok (.aload_n 0, 1) := by decide +kernel
theorem own_dprog_63_method_3_code_13 : decode prog_63_method_3_code 13 = .ok (.getfield 7, 3) := by decide +kernel
theorem own_dprog_63_method_3_code_16 : decode prog_63_method_3_code 16 = .ok (.iload_n 2, 1) := by decide +kernel
theorem own_dprog_63_method_3_code_17 : decode prog_63_method_3_code 17 = .ok (.aload_n 0, 1) := by decide +kernel
theorem own_dprog_63_method_3_code_18 : decode prog_63_method_3_code 18 = .ok (.getfield 7, 3) := by decide +kernel
theorem own_dprog_63_method_3_code_21 : decode prog_63_method_3_code 21 = .ok (.aload_n 0, 1) := by decide +kernel
theorem own_dprog_63_method_3_code_22 : decode prog_63_method_3_code 22 = .ok (.getfield 7, 3) := by decide +kernel
theorem own_dprog_63_method_3_code_25 : decode prog_63_method_3_code 25 = .ok (.iload_n 2, 1) := by decide +kernel
theorem own_dprog_63_method_3_code_26 : decode prog_63_method_3_code 26 = .ok (.iaload, 1) := by decide +kernel
theorem own_dprog_63_method_3_code_27 : decode prog_63_method_3_code 27 = .ok (.iaload, 1) := by decide +kernel
theorem own_dprog_63_method_3_code_28 : decode prog_63_method_3_code 28 = .ok (.iastore, 1) := by decide +kernel
theorem own_dprog_63_method_3_code_29 : decode prog_63_method_3_code 29 = .ok (.aload_n 0, 1) := by decide +kernel
theorem own_dprog_63_method_3_code_30 : decode prog_63_method_3_code 30 = .ok (.getfield 7, 3) := by decide +kernel
theorem own_dprog_63_method_3_code_33 : decode prog_63_method_3_code 33 = .ok (.iload_n 2, 1) := by decide +kernel
theorem own_dprog_63_method_3_code_34 : decode prog_63_method_3_code 34 = .ok (.iaload, 1) := by decide +kernel
theorem own_dprog_63_method_3_code_35 : decode prog_63_method_3_code 35 = .ok (.istore_n 2, 1) := by decide +kernel
theorem own_dprog_63_method_3_code_36 : decode prog_63_method_3_code 36 = .ok (.goto (-34), 3) := by decide +kernel
theorem own_efOF (m : MethodId) (o : Addr) : entryFrame m #[(.ref o), (.int (Int32.ofNat i))] 3 = mkF m 0 #[.val (.ref o), .val (.int (Int32.ofNat i)), .unset] [] := by first | (simp [entryFrame, mkF, argsToLocals, Value.category]; done) | rfl
def own_QOF (Z : State) (o : Addr) (ak : Addr) (kk : ClassId) (P : List Nat) (lab : List Nat) (d : Nat → Nat) (i : Nat) (h0 : Heap) (n0 : Nat) (rv__ : Option Value) (h : Heap) (rL__ : List Loc) : Prop := rv__ = some (.int (Int32.ofNat (lab.getD i 0))) ∧ Fr n0 rL__ ∧ Keep h0 h [ak] ∧ ∃ P' : List Nat, own_Inv 5 P' lab d ∧ Arv Z h ak kk .int (5 : Int32) (P'.map own_vi) (.int (0 : Int32))
abbrev own_ROF : Room := { frames := 0, cells := 0, slots := 0, locals := 0 }
set_option maxRecDepth 65536 in
set_option maxHeartbeats 40000000 in
theorem own_rmOF (l : Launch) (Z : State) (a0 : Array Value) (hw : ∀ d ∈ tables_1, d.before a0 Z = true) (ws : List Jvm.Cond) (o : Addr) (ak : Addr) (kk : ClassId) (P : List Nat) (lab : List Nat) (d : Nat → Nat) (i : Nat) (h0 : Heap) (n0 : Nat) (Z0 : n0 ≤ h0.size) (Fk : Fld Z h0 o "com/example/saar/saar/sim/Parts" "known" "[I" (.ref ak)) (Ak : Arv Z h0 ak kk .int (5 : Int32) (P.map own_vi) (.int (0 : Int32))) (nk : o ≠ ak) (g_k : n0 ≤ ak) (I : own_Inv 5 P lab d) (hi : i < 5) :
    MetFree l (⟨"com/example/saar/saar/sim/Parts", "of", "(I)I"⟩ : MethodName) (head1 (Jvm.Cond.code (⟨"com/example/saar/saar/sim/Parts", "of", "(I)I"⟩ : MethodName) prog_63_method_3_code 3 (some .int) :: ws) own_ROF) (fun aa__ U => aa__ = #[(.ref o), (.int (Int32.ofNat i))] ∧ Z.Warmed39 U.vm ∧ U.heap = h0) (fun _ _ _ _ _ => True) (fun _ U oc_ U' => ∃ rv__ rL__, oc_ = .returned rv__ ∧ own_QOF Z o ak kk P lab d i h0 n0 rv__ U'.heap rL__ ∧ FrameEnd U oc_ U' rL__ own_ROF.cells own_ROF.slots) := by
  refine MetFree.of_bodySF (plainFor_of_name own_pn_com_example_saar_saar_sim_Parts) hisR ?_
  intro p e s m args below meth c s₁ Bd hml0 hP hK
  obtain ⟨rfl, hZ, hh⟩ := hP
  have hx := Bd.exec
  have hby := Bd.bytes
  have hml : c.maxLocals = 3 := hml0
  have hown : s.vm.findClass "com/example/saar/saar/sim/Parts" = some m.cls := findClass_of_methodNamed Bd.named
  have hnm := (name_of_methodNamed Bd.named Bd.method).1
  have X0 : Stand p l e own_ROF s m #[(.ref o), (.int (Int32.ofNat i))] below meth c s₁ [] 0 0 := Stand.of_body Bd
  have e0 : s₁.heap = h0 := by rw [← hh, Bd.state]; rfl
  have N0 := Fr.nil n0
  refine own_in (fun _ k => castTop (own_efOF m o) k) ?_
  intro RR hRR
  show own_Go p.tables e below RR (s₁.setTop (mkF m 0 #[.val (.ref o), .val (.int (Int32.ofNat i)), .unset] []))
  refine own_st (fun _ k => XS.iloadN X0.here hx rfl (hb hby own_dprog_63_method_3_code_0) rfl (XS.istoreN X0.here hx rfl (hb hby own_dprog_63_method_3_code_1) rfl (l' := #[.val (.ref o), .val (.int (Int32.ofNat i)), .val (.int (Int32.ofNat i))]) rfl k)) ?_
  show own_Go p.tables e below RR (s₁.setTop (mkF m 2 #[.val (.ref o), .val (.int (Int32.ofNat i)), .val (.int (Int32.ofNat i))] []))
  have loop1 : ∀ (k : Nat) (T1 : State) (lo1 : List Loc) (hh2 : Heap) (P2 : List Nat) (k2 : Nat) (X1 : Stand p l e own_ROF s m #[(.ref o), (.int (Int32.ofNat i))] below meth c T1 lo1 0 0) (e1 : T1.heap = hh2) (N1 : Fr n0 lo1) (K2 : Keep h0 hh2 [ak]) (A2 : Arv Z hh2 ak kk .int (5 : Int32) (P2.map own_vi) (.int (0 : Int32))) (I2 : own_Inv 5 P2 lab d) (hk2 : k2 < 5) (hl2 : lab.getD k2 0 = lab.getD i 0) (_ : d k2 = k), own_Go p.tables e below RR (T1.setTop (mkF m 2 #[.val (.ref o), .val (.int (Int32.ofNat i)), .val (.int (Int32.ofNat k2))] [])) := by
    intro k
    induction k using Nat.strongRecOn with
    | _ k ih1 =>
      intro T1 lo1 hh2 P2 k2 X1 e1 N1 K2 A2 I2 hk2 hl2 hk
      have z2 : n0 ≤ hh2.size := Nat.le_trans Z0 K2.1
      show own_Go p.tables e below RR (T1.setTop (mkF m 2 #[.val (.ref o), .val (.int (Int32.ofNat i)), .val (.int (Int32.ofNat k2))] []))
      refine own_st (fun _ k => XS.aloadN X1.here hx rfl (hb hby own_dprog_63_method_3_code_2) rfl rfl k) ?_
      show own_Go p.tables e below RR (T1.setTop (mkF m 3 #[.val (.ref o), .val (.int (Int32.ofNat i)), .val (.int (Int32.ofNat k2))] [(.ref o)]))
      have f3 := (Fk.keep K2 (ninS nk nin0))
      obtain ⟨T4, X4, e4, st4⟩ := getF X1 hx hZ hown (host := "") (Or.inl (hw _ (List.mem_of_getElem? (i := 10) rfl))) Via.refl e1 f3 (g := (mkF m 3 #[.val (.ref o), .val (.int (Int32.ofNat i)), .val (.int (Int32.ofNat k2))] [(.ref o)])) rfl rfl (hb hby own_dprog_63_method_3_code_3)
      refine own_st st4 ?_
      show own_Go p.tables e below RR (T4.setTop (mkF m 6 #[.val (.ref o), .val (.int (Int32.ofNat i)), .val (.int (Int32.ofNat k2))] [(.ref ak)]))
      refine own_st (fun _ k => XS.iloadN X4.here hx rfl (hb hby own_dprog_63_method_3_code_6) rfl k) ?_
      show own_Go p.tables e below RR (T4.setTop (mkF m 7 #[.val (.ref o), .val (.int (Int32.ofNat i)), .val (.int (Int32.ofNat k2))] [(.int (Int32.ofNat k2)), (.ref ak)]))
      obtain ⟨c5, A5, q5, s5, m5, H5, G5⟩ := id A2
      have b5 := inb_of (j := (Int32.ofNat k2)) s5 (own_nin (i := k2) hk2 (by decide))
      refine own_st (fun _ k => X4.iaload hx (j := (Int32.ofNat k2)) (v := (.int (Int32.ofNat (P2.getD k2 0)))) (by rw [e4]; exact A5.1) (State.isArrayOf_alike hZ.alike A5.2.1) A5.2.2 b5 (Has.at H5 b5 (own_get (n := 5) I2.1 hk2 (by decide))) (g := (mkF m 7 #[.val (.ref o), .val (.int (Int32.ofNat i)), .val (.int (Int32.ofNat k2))] [(.int (Int32.ofNat k2)), (.ref ak)])) rfl rfl (hb hby own_dprog_63_method_3_code_7) _ (XS.iloadN X4.here hx rfl (hb hby own_dprog_63_method_3_code_8) rfl k)) ?_
      show own_Go p.tables e below RR (T4.setTop (mkF m 9 #[.val (.ref o), .val (.int (Int32.ofNat i)), .val (.int (Int32.ofNat k2))] [(.int (Int32.ofNat k2)), (.int (Int32.ofNat (P2.getD k2 0)))]))
      by_cases hc9_6 : (Int32.ofNat (P2.getD k2 0)) = (Int32.ofNat k2)
      · refine own_st (fun _ k => XS.icmpYes X4.here hx rfl (pc0 := 9) (pc' := 39) rfl (hb hby own_dprog_63_method_3_code_9) rfl (teq hc9_6).1 (by decide) (by decide) (XS.iloadN X4.here hx rfl (hb hby own_dprog_63_method_3_code_39) rfl k)) ?_
        show own_Go p.tables e below RR (T4.setTop (mkF m 40 #[.val (.ref o), .val (.int (Int32.ofNat i)), .val (.int (Int32.ofNat k2))] [(.int (Int32.ofNat k2))]))
        obtain ⟨fs, hrt_, hrun, hended, hW, hsame⟩ := X4.leave (v := some (.int (Int32.ofNat k2))) (fun h => by rw [Bd.returns] at h; cases h)
        refine own_fin (retI X4 hx Bd.returns (hb hby own_dprog_63_method_3_code_40) hrt_) (hRR _ ⟨_, hrun, hended, _, _, rfl, ?_, ⟨_, rfl⟩, hW, hsame.mono (by decide) (by decide)⟩)
        show own_QOF Z o ak kk P lab d i h0 n0 _ T4.heap _
        rw [e4]
        exact ⟨own_ri ((by have q := own_inj (by have := (I2.2.2 k2 hk2).1; omega) (by omega) hc9_6; rw [← hl2, (I2.2.2 k2 hk2).2.2.2.2 q])), N1, K2, P2, I2, A2⟩
      · refine own_st (fun _ k => XS.icmpNo X4.here hx rfl (hb hby own_dprog_63_method_3_code_9) rfl (feq hc9_6).1 (XS.aloadN X4.here hx rfl (hb hby own_dprog_63_method_3_code_12) rfl rfl k)) ?_
        show own_Go p.tables e below RR (T4.setTop (mkF m 13 #[.val (.ref o), .val (.int (Int32.ofNat i)), .val (.int (Int32.ofNat k2))] [(.ref o)]))
        obtain ⟨T7, X7, e7, st7⟩ := getF X4 hx hZ hown (host := "") (Or.inl (hw _ (List.mem_of_getElem? (i := 10) rfl))) Via.refl e4 f3 (g := (mkF m 13 #[.val (.ref o), .val (.int (Int32.ofNat i)), .val (.int (Int32.ofNat k2))] [(.ref o)])) rfl rfl (hb hby own_dprog_63_method_3_code_13)
        refine own_st st7 ?_
        show own_Go p.tables e below RR (T7.setTop (mkF m 16 #[.val (.ref o), .val (.int (Int32.ofNat i)), .val (.int (Int32.ofNat k2))] [(.ref ak)]))
        refine own_st (fun _ k => XS.iloadN X7.here hx rfl (hb hby own_dprog_63_method_3_code_16) rfl (XS.aloadN X7.here hx rfl (hb hby own_dprog_63_method_3_code_17) rfl rfl k)) ?_
        show own_Go p.tables e below RR (T7.setTop (mkF m 18 #[.val (.ref o), .val (.int (Int32.ofNat i)), .val (.int (Int32.ofNat k2))] [(.ref o), (.int (Int32.ofNat k2)), (.ref ak)]))
        obtain ⟨T8, X8, e8, st8⟩ := getF X7 hx hZ hown (host := "") (Or.inl (hw _ (List.mem_of_getElem? (i := 10) rfl))) Via.refl e7 f3 (g := (mkF m 18 #[.val (.ref o), .val (.int (Int32.ofNat i)), .val (.int (Int32.ofNat k2))] [(.ref o), (.int (Int32.ofNat k2)), (.ref ak)])) rfl rfl (hb hby own_dprog_63_method_3_code_18)
        refine own_st st8 ?_
        show own_Go p.tables e below RR (T8.setTop (mkF m 21 #[.val (.ref o), .val (.int (Int32.ofNat i)), .val (.int (Int32.ofNat k2))] [(.ref ak), (.int (Int32.ofNat k2)), (.ref ak)]))
        refine own_st (fun _ k => XS.aloadN X8.here hx rfl (hb hby own_dprog_63_method_3_code_21) rfl rfl k) ?_
        show own_Go p.tables e below RR (T8.setTop (mkF m 22 #[.val (.ref o), .val (.int (Int32.ofNat i)), .val (.int (Int32.ofNat k2))] [(.ref o), (.ref ak), (.int (Int32.ofNat k2)), (.ref ak)]))
        obtain ⟨T9, X9, e9, st9⟩ := getF X8 hx hZ hown (host := "") (Or.inl (hw _ (List.mem_of_getElem? (i := 10) rfl))) Via.refl e8 f3 (g := (mkF m 22 #[.val (.ref o), .val (.int (Int32.ofNat i)), .val (.int (Int32.ofNat k2))] [(.ref o), (.ref ak), (.int (Int32.ofNat k2)), (.ref ak)])) rfl rfl (hb hby own_dprog_63_method_3_code_22)
        refine own_st st9 ?_
        show own_Go p.tables e below RR (T9.setTop (mkF m 25 #[.val (.ref o), .val (.int (Int32.ofNat i)), .val (.int (Int32.ofNat k2))] [(.ref ak), (.ref ak), (.int (Int32.ofNat k2)), (.ref ak)]))
        refine own_st (fun _ k => XS.iloadN X9.here hx rfl (hb hby own_dprog_63_method_3_code_25) rfl k) ?_
        show own_Go p.tables e below RR (T9.setTop (mkF m 26 #[.val (.ref o), .val (.int (Int32.ofNat i)), .val (.int (Int32.ofNat k2))] [(.int (Int32.ofNat k2)), (.ref ak), (.ref ak), (.int (Int32.ofNat k2)), (.ref ak)]))
        obtain ⟨c10, A10, q10, s10, m10, H10, G10⟩ := id A2
        have b10 := inb_of (j := (Int32.ofNat k2)) s10 (own_nin (i := k2) hk2 (by decide))
        refine own_st (fun _ k => X9.iaload hx (j := (Int32.ofNat k2)) (v := (.int (Int32.ofNat (P2.getD k2 0)))) (by rw [e9]; exact A10.1) (State.isArrayOf_alike hZ.alike A10.2.1) A10.2.2 b10 (Has.at H10 b10 (own_get (n := 5) I2.1 hk2 (by decide))) (g := (mkF m 26 #[.val (.ref o), .val (.int (Int32.ofNat i)), .val (.int (Int32.ofNat k2))] [(.int (Int32.ofNat k2)), (.ref ak), (.ref ak), (.int (Int32.ofNat k2)), (.ref ak)])) rfl rfl (hb hby own_dprog_63_method_3_code_26) _ k) ?_
        show own_Go p.tables e below RR (T9.setTop (mkF m 27 #[.val (.ref o), .val (.int (Int32.ofNat i)), .val (.int (Int32.ofNat k2))] [(.int (Int32.ofNat (P2.getD k2 0))), (.ref ak), (.int (Int32.ofNat k2)), (.ref ak)]))
        obtain ⟨c11, A11, q11, s11, m11, H11, G11⟩ := id A2
        have b11 := inb_of (j := (Int32.ofNat (P2.getD k2 0))) s11 (own_nin (n := 5) (I2.2.2 k2 hk2).1 (by decide))
        refine own_st (fun _ k => X9.iaload hx (j := (Int32.ofNat (P2.getD k2 0))) (v := (.int (Int32.ofNat (P2.getD (P2.getD k2 0) 0)))) (by rw [e9]; exact A11.1) (State.isArrayOf_alike hZ.alike A11.2.1) A11.2.2 b11 (Has.at H11 b11 (own_get (n := 5) I2.1 (I2.2.2 k2 hk2).1 (by decide))) (g := (mkF m 27 #[.val (.ref o), .val (.int (Int32.ofNat i)), .val (.int (Int32.ofNat k2))] [(.int (Int32.ofNat (P2.getD k2 0))), (.ref ak), (.int (Int32.ofNat k2)), (.ref ak)])) rfl rfl (hb hby own_dprog_63_method_3_code_27) _ k) ?_
        show own_Go p.tables e below RR (T9.setTop (mkF m 28 #[.val (.ref o), .val (.int (Int32.ofNat i)), .val (.int (Int32.ofNat k2))] [(.int (Int32.ofNat (P2.getD (P2.getD k2 0) 0))), (.int (Int32.ofNat k2)), (.ref ak)]))
        obtain ⟨c12, A12, q12, s12, m12, H12, G12⟩ := id A2
        obtain ⟨T13, h13, X13, e13, W13, st13⟩ := stI X9 hx hZ e9 A12 (j := (Int32.ofNat k2)) (inb_of s12 (own_nin (i := k2) hk2 (by decide))) (g := (mkF m 28 #[.val (.ref o), .val (.int (Int32.ofNat i)), .val (.int (Int32.ofNat k2))] [(.int (Int32.ofNat (P2.getD (P2.getD k2 0) 0))), (.int (Int32.ofNat k2)), (.ref ak)])) rfl rfl (hb hby own_dprog_63_method_3_code_28)
        have U13 := Arv.set A12 q12 s12 m12 H12 G12 rfl W13 k2 (own_nc (Nat.lt_of_lt_of_le hk2 (by decide))) (by rw [List.length_map, I2.1]; exact hk2)
        have V13 : Arv Z h13 ak kk .int (5 : Int32) ((P2.set k2 (P2.getD (P2.getD k2 0) 0)).map own_vi) (.int (0 : Int32)) := by rw [own_ms]; exact U13
        have N13 := Fr.snoc X13 N1 g_k
        refine own_st st13 ?_
        have z14 : n0 ≤ h13.size := Nat.le_trans z2 (Keep.of_wr W13).1
        show own_Go p.tables e below RR (T13.setTop (mkF m 29 #[.val (.ref o), .val (.int (Int32.ofNat i)), .val (.int (Int32.ofNat k2))] []))
        refine own_st (fun _ k => XS.aloadN X13.here hx rfl (hb hby own_dprog_63_method_3_code_29) rfl rfl k) ?_
        show own_Go p.tables e below RR (T13.setTop (mkF m 30 #[.val (.ref o), .val (.int (Int32.ofNat i)), .val (.int (Int32.ofNat k2))] [(.ref o)]))
        have f15 := (f3.other W13 (Or.inl nk))
        obtain ⟨T16, X16, e16, st16⟩ := getF X13 hx hZ hown (host := "") (Or.inl (hw _ (List.mem_of_getElem? (i := 10) rfl))) Via.refl e13 f15 (g := (mkF m 30 #[.val (.ref o), .val (.int (Int32.ofNat i)), .val (.int (Int32.ofNat k2))] [(.ref o)])) rfl rfl (hb hby own_dprog_63_method_3_code_30)
        refine own_st st16 ?_
        show own_Go p.tables e below RR (T16.setTop (mkF m 33 #[.val (.ref o), .val (.int (Int32.ofNat i)), .val (.int (Int32.ofNat k2))] [(.ref ak)]))
        refine own_st (fun _ k => XS.iloadN X16.here hx rfl (hb hby own_dprog_63_method_3_code_33) rfl k) ?_
        show own_Go p.tables e below RR (T16.setTop (mkF m 34 #[.val (.ref o), .val (.int (Int32.ofNat i)), .val (.int (Int32.ofNat k2))] [(.int (Int32.ofNat k2)), (.ref ak)]))
        obtain ⟨c17, A17, q17, s17, m17, H17, G17⟩ := id V13
        have b17 := inb_of (j := (Int32.ofNat k2)) s17 (own_nin (i := k2) hk2 (by decide))
        refine own_st (fun _ k => X16.iaload hx (j := (Int32.ofNat k2)) (v := (.int (Int32.ofNat (P2.getD (P2.getD k2 0) 0)))) (by rw [e16]; exact A17.1) (State.isArrayOf_alike hZ.alike A17.2.1) A17.2.2 b17 (Has.at H17 b17 (by rw [own_get (n := 5) (P := P2.set k2 (P2.getD (P2.getD k2 0) 0)) (by rw [List.length_set]; exact I2.1) hk2 (by decide), own_gs (by rw [I2.1]; exact hk2), if_pos rfl])) (g := (mkF m 34 #[.val (.ref o), .val (.int (Int32.ofNat i)), .val (.int (Int32.ofNat k2))] [(.int (Int32.ofNat k2)), (.ref ak)])) rfl rfl (hb hby own_dprog_63_method_3_code_34) _ (XS.istoreN X16.here hx rfl (hb hby own_dprog_63_method_3_code_35) rfl (l' := #[.val (.ref o), .val (.int (Int32.ofNat i)), .val (.int (Int32.ofNat (P2.getD (P2.getD k2 0) 0)))]) rfl (XS.goto X16.here hx rfl (pc0 := 36) (pc' := 2) rfl (hb hby own_dprog_63_method_3_code_36) (by decide) (by decide) k))) ?_
        show own_Go p.tables e below RR (T16.setTop (mkF m 2 #[.val (.ref o), .val (.int (Int32.ofNat i)), .val (.int (Int32.ofNat (P2.getD (P2.getD k2 0) 0)))] []))
        have tt18 := own_turn I2 hk2 (fun q => hc9_6 (by rw [q]))
        exact ih1 _ (hk ▸ tt18.2.2.1) T16 _ h13 (P2.set k2 (P2.getD (P2.getD k2 0) 0)) (P2.getD (P2.getD k2 0) 0) X16 e16 N13 (K2.wr W13 (Or.inl (List.mem_of_getElem? (i := 0) rfl))) V13 tt18.1 tt18.2.1 (tt18.2.2.2.trans hl2) rfl
  exact loop1 _ s₁ _ h0 P i X0 e0 N0 (Keep.refl h0 [ak]) Ak I hi rfl rfl
theorem own_dprog_63_method_2_code_0 : decode prog_63_method_2_code 0 = .ok (.aload_n 0, 1) := by decide +kernel
theorem own_dprog_63_method_2_code_1 : decode prog_63_method_2_code 1 = .ok (.iload_n 1, 1) := by decide +kernel
theorem own_dprog_63_method_2_code_2 : decode prog_63_method_2_code 2 = .ok (.invokevirtual 23, 3) := by decide +kernel
theorem own_dprog_63_method_2_code_5 : decode prog_63_method_2_code 5 = .ok (.istore_n 3, 1) := by decide +kernel
theorem own_dprog_63_method_2_code_6 : decode prog_63_method_2_code 6 = .ok (.aload_n 0, 1) := by decide +kernel
theorem own_dprog_63_method_2_code_7 : decode prog_63_method_2_code 7 = .ok (.iload_n 2, 1) := by decide +kernel
theorem own_dprog_63_method_2_code_8 : decode prog_63_method_2_code 8 = .ok (.invokevirtual 23, 3) := by decide +kernel
theorem own_dprog_63_method_2_code_11 : decode prog_63_method_2_code 11 = .ok (.istore 4, 2) := by decide +kernel
theorem own_dprog_63_method_2_code_13 : decode prog_63_method_2_code 13 = .ok (.aload_n 0, 1) := by decide +kernel
theorem own_dprog_63_method_2_code_14 : decode prog_63_method_2_code 14 = .ok (.getfield 7, 3) := by decide +kernel
theorem own_dprog_63_method_2_code_17 : decode prog_63_method_2_code 17 = .ok (.iload_n 3, 1) := by decide +kernel
theorem own_dprog_63_method_2_code_18 : decode prog_63_method_2_code 18 = .ok (.iload 4, 2) := by decide +kernel
theorem own_dprog_63_method_2_code_20 : decode prog_63_method_2_code 20 = .ok (.iastore, 1) := by decide +kernel
theorem own_dprog_63_method_2_code_21 : decode prog_63_method_2_code 21 = .ok (.iload_n 3, 1) := by decide +kernel
theorem own_dprog_63_method_2_code_22 : decode prog_63_method_2_code 22 = .ok (.iload 4, 2) := by decide +kernel
theorem own_dprog_63_method_2_code_24 : decode prog_63_method_2_code 24 = .ok (.if_icmp .eq 7, 3) := by decide +kernel
theorem own_dprog_63_method_2_code_31 : decode prog_63_method_2_code 31 = .ok (.iconst 0, 1) := by decide +kernel
theorem own_dprog_63_method_2_code_32 : decode prog_63_method_2_code 32 = .ok (.ireturn, 1) := by decide +kernel
theorem own_dprog_63_method_2_code_27 : decode prog_63_method_2_code 27 = .ok (.iconst 1, 1) := by decide +kernel
theorem own_dprog_63_method_2_code_28 : decode prog_63_method_2_code 28 = .ok (.goto 4, 3) := by decide +kernel
theorem own_efJN (m : MethodId) (o : Addr) : entryFrame m #[(.ref o), (.int (Int32.ofNat i)), (.int (Int32.ofNat j))] 5 = mkF m 0 #[.val (.ref o), .val (.int (Int32.ofNat i)), .val (.int (Int32.ofNat j)), .unset, .unset] [] := by first | (simp [entryFrame, mkF, argsToLocals, Value.category]; done) | rfl
def own_QJN (Z : State) (o : Addr) (ak : Addr) (kk : ClassId) (P : List Nat) (lab : List Nat) (d : Nat → Nat) (i : Nat) (j : Nat) (h0 : Heap) (n0 : Nat) (rv__ : Option Value) (h : Heap) (rL__ : List Loc) : Prop := rv__ = some (.int (own_nq (lab.getD i 0) (lab.getD j 0))) ∧ Fr n0 rL__ ∧ Keep h0 h [ak] ∧ ∃ (P' : List Nat) (d' : Nat → Nat), own_Inv 5 P' (lab.map (own_r (lab.getD i 0) (lab.getD j 0))) d' ∧ Arv Z h ak kk .int (5 : Int32) (P'.map own_vi) (.int (0 : Int32))
abbrev own_RJN : Room := { frames := 1, cells := 0, slots := 0, locals := 14 }
set_option maxRecDepth 65536 in
set_option maxHeartbeats 40000000 in
theorem own_rmJN (l : Launch) (Z : State) (a0 : Array Value) (hw : ∀ d ∈ tables_1, d.before a0 Z = true) (ws : List Jvm.Cond) (o : Addr) (ak : Addr) (kk : ClassId) (P : List Nat) (lab : List Nat) (d : Nat → Nat) (i : Nat) (j : Nat) (h0 : Heap) (n0 : Nat) (Z0 : n0 ≤ h0.size) (E : Exa Z h0 o "com/example/saar/saar/sim/Parts") (Fk : Fld Z h0 o "com/example/saar/saar/sim/Parts" "known" "[I" (.ref ak)) (Ak : Arv Z h0 ak kk .int (5 : Int32) (P.map own_vi) (.int (0 : Int32))) (nk : o ≠ ak) (g_k : n0 ≤ ak) (I : own_Inv 5 P lab d) (hi : i < 5) (hj : j < 5) :
    MetFree l (⟨"com/example/saar/saar/sim/Parts", "join", "(II)Z"⟩ : MethodName) (head1 (Jvm.Cond.code (⟨"com/example/saar/saar/sim/Parts", "join", "(II)Z"⟩ : MethodName) prog_63_method_2_code 5 (some .boolean) :: ws) own_RJN) (fun aa__ U => aa__ = #[(.ref o), (.int (Int32.ofNat i)), (.int (Int32.ofNat j))] ∧ Z.Warmed39 U.vm ∧ U.heap = h0) (fun _ _ _ _ _ => True) (fun _ U oc_ U' => ∃ rv__ rL__, oc_ = .returned rv__ ∧ own_QJN Z o ak kk P lab d i j h0 n0 rv__ U'.heap rL__ ∧ FrameEnd U oc_ U' rL__ own_RJN.cells own_RJN.slots) := by
  refine MetFree.of_bodySF (plainFor_of_name own_pn_com_example_saar_saar_sim_Parts) hisR ?_
  intro p e s m args below meth c s₁ Bd hml0 hP hK
  obtain ⟨rfl, hZ, hh⟩ := hP
  have hx := Bd.exec
  have hby := Bd.bytes
  have hml : c.maxLocals = 5 := hml0
  have hown : s.vm.findClass "com/example/saar/saar/sim/Parts" = some m.cls := findClass_of_methodNamed Bd.named
  have hnm := (name_of_methodNamed Bd.named Bd.method).1
  have X0 : Stand p l e own_RJN s m #[(.ref o), (.int (Int32.ofNat i)), (.int (Int32.ofNat j))] below meth c s₁ [] 0 0 := Stand.of_body Bd
  have e0 : s₁.heap = h0 := by rw [← hh, Bd.state]; rfl
  have N0 := Fr.nil n0
  refine own_in (fun _ k => castTop (own_efJN m o) k) ?_
  intro RR hRR
  show own_Go p.tables e below RR (s₁.setTop (mkF m 0 #[.val (.ref o), .val (.int (Int32.ofNat i)), .val (.int (Int32.ofNat j)), .unset, .unset] []))
  refine own_st (fun _ k => XS.aloadN X0.here hx rfl (hb hby own_dprog_63_method_2_code_0) rfl rfl (XS.iloadN X0.here hx rfl (hb hby own_dprog_63_method_2_code_1) rfl k)) ?_
  show own_Go p.tables e below RR (s₁.setTop (mkF m 2 #[.val (.ref o), .val (.int (Int32.ofNat i)), .val (.int (Int32.ofNat j)), .unset, .unset] [(.int (Int32.ofNat i)), (.ref o)]))
  obtain ⟨cq1, kq1, q1a, q1b, q1c⟩ := isOf hZ e0 E
  obtain ⟨_, _, ⟨T1, L1, k1, n1⟩, -, X1, ⟨Lc1, hQ1, l1, y1, z1⟩, st1⟩ := X0.virtualBack hx (y := (⟨"com/example/saar/saar/sim/Parts", "of", "(I)I"⟩ : MethodName)) (z := (⟨"com/example/saar/saar/sim/Parts", "of", "(I)I"⟩ : MethodName)) hown (mvT hZ (hw _ (List.mem_of_getElem? (i := 40) rfl))) (mvT hZ (hw _ (List.mem_of_getElem? (i := 41) rfl))) (notFace_of_selects (args := #[]) (mvT hZ (hw _ (List.mem_of_getElem? (i := 43) rfl)))) (mvT hZ (hw _ (List.mem_of_getElem? (i := 43) rfl))) (mvT hZ (hw _ (List.mem_of_getElem? (i := 42) rfl))) (by decide) (backOf (W := 0) (own_rmOF l Z a0 hw [] o ak kk P lab d i h0 n0 Z0 Fk Ak nk g_k I hi) hZ (hw _ (List.mem_of_getElem? (i := 44) rfl)) (hw _ (List.mem_of_getElem? (i := 2) rfl)) (by decide) (by decide)) q1a q1c (g := (mkF m 2 #[.val (.ref o), .val (.int (Int32.ofNat i)), .val (.int (Int32.ofNat j)), .unset, .unset] [(.int (Int32.ofNat i)), (.ref o)])) rfl (by rw [hml]; rfl) (Steps.refl _) (argsL := [(.int (Int32.ofNat i))]) (rest := []) (lenOf own_pd__I_I rfl) rfl (by show 2 * 0 + _ ≤ _; exact Nat.le_of_eq rfl) (hb hby own_dprog_63_method_2_code_2) (fun _ _ => ⟨rfl, e0, (by decide : 0 + 0 ≤ _), (by decide : 0 + 0 ≤ _)⟩)
  dsimp only [Pt.U, Pt.locs, Pt.cells, Pt.slots] at X1 l1 y1 z1 st1 hQ1
  rw [l1, y1, z1] at X1
  obtain ⟨rfl, Nq1, Kq1, Pq1, Iq1, Vq1⟩ := hQ1
  have N1 := Fr.app N0 Nq1
  refine own_st (fun _ k => st1.trans k) ?_
  have z2 : n0 ≤ T1.heap.size := Nat.le_trans Z0 Kq1.1
  have kk3 : Keep h0 T1.heap [ak] := (Keep.refl h0 [ak]).trans Kq1 (allS (Or.inl (List.mem_of_getElem? (i := 0) rfl)) all0)
  show own_Go p.tables e below RR (T1.setTop (mkF m 5 #[.val (.ref o), .val (.int (Int32.ofNat i)), .val (.int (Int32.ofNat j)), .unset, .unset] [(.int (Int32.ofNat (lab.getD i 0)))]))
  refine own_st (fun _ k => XS.istoreN X1.here hx rfl (hb hby own_dprog_63_method_2_code_5) rfl (l' := #[.val (.ref o), .val (.int (Int32.ofNat i)), .val (.int (Int32.ofNat j)), .val (.int (Int32.ofNat (lab.getD i 0))), .unset]) rfl (XS.aloadN X1.here hx rfl (hb hby own_dprog_63_method_2_code_6) rfl rfl (XS.iloadN X1.here hx rfl (hb hby own_dprog_63_method_2_code_7) rfl k))) ?_
  show own_Go p.tables e below RR (T1.setTop (mkF m 8 #[.val (.ref o), .val (.int (Int32.ofNat i)), .val (.int (Int32.ofNat j)), .val (.int (Int32.ofNat (lab.getD i 0))), .unset] [(.int (Int32.ofNat j)), (.ref o)]))
  have f4 := (Fk.keep Kq1 (ninS nk nin0))
  have f6 := (E.keep Kq1)
  obtain ⟨cq5, kq5, q5a, q5b, q5c⟩ := isOf hZ rfl f6
  obtain ⟨_, _, ⟨T5, L5, k5, n5⟩, -, X5, ⟨Lc5, hQ5, l5, y5, z5⟩, st5⟩ := X1.virtualBack hx (y := (⟨"com/example/saar/saar/sim/Parts", "of", "(I)I"⟩ : MethodName)) (z := (⟨"com/example/saar/saar/sim/Parts", "of", "(I)I"⟩ : MethodName)) hown (mvT hZ (hw _ (List.mem_of_getElem? (i := 40) rfl))) (mvT hZ (hw _ (List.mem_of_getElem? (i := 41) rfl))) (notFace_of_selects (args := #[]) (mvT hZ (hw _ (List.mem_of_getElem? (i := 43) rfl)))) (mvT hZ (hw _ (List.mem_of_getElem? (i := 43) rfl))) (mvT hZ (hw _ (List.mem_of_getElem? (i := 42) rfl))) (by decide) (backOf (W := 0) (own_rmOF l Z a0 hw [] o ak kk Pq1 lab d j T1.heap n0 z2 f4 Vq1 nk g_k Iq1 hj) hZ (hw _ (List.mem_of_getElem? (i := 44) rfl)) (hw _ (List.mem_of_getElem? (i := 2) rfl)) (by decide) (by decide)) q5a q5c (g := (mkF m 8 #[.val (.ref o), .val (.int (Int32.ofNat i)), .val (.int (Int32.ofNat j)), .val (.int (Int32.ofNat (lab.getD i 0))), .unset] [(.int (Int32.ofNat j)), (.ref o)])) rfl (by rw [hml]; rfl) (Steps.refl _) (argsL := [(.int (Int32.ofNat j))]) (rest := []) (lenOf own_pd__I_I rfl) rfl (by show 2 * 0 + _ ≤ _; exact Nat.le_of_eq rfl) (hb hby own_dprog_63_method_2_code_8) (fun _ _ => ⟨rfl, rfl, (by decide : 0 + 0 ≤ _), (by decide : 0 + 0 ≤ _)⟩)
  dsimp only [Pt.U, Pt.locs, Pt.cells, Pt.slots] at X5 l5 y5 z5 st5 hQ5
  rw [l5, y5, z5] at X5
  obtain ⟨rfl, Nq5, Kq5, Pq5, Iq5, Vq5⟩ := hQ5
  have N5 := Fr.app N1 Nq5
  refine own_st (fun _ k => st5.trans k) ?_
  have z7 : n0 ≤ T5.heap.size := Nat.le_trans z2 Kq5.1
  have kk8 : Keep h0 T5.heap [ak] := kk3.trans Kq5 (allS (Or.inl (List.mem_of_getElem? (i := 0) rfl)) all0)
  show own_Go p.tables e below RR (T5.setTop (mkF m 11 #[.val (.ref o), .val (.int (Int32.ofNat i)), .val (.int (Int32.ofNat j)), .val (.int (Int32.ofNat (lab.getD i 0))), .unset] [(.int (Int32.ofNat (lab.getD j 0)))]))
  refine own_st (fun _ k => XS.istore X5.here hx rfl (hb hby own_dprog_63_method_2_code_11) rfl (l' := #[.val (.ref o), .val (.int (Int32.ofNat i)), .val (.int (Int32.ofNat j)), .val (.int (Int32.ofNat (lab.getD i 0))), .val (.int (Int32.ofNat (lab.getD j 0)))]) rfl (XS.aloadN X5.here hx rfl (hb hby own_dprog_63_method_2_code_13) rfl rfl k)) ?_
  show own_Go p.tables e below RR (T5.setTop (mkF m 14 #[.val (.ref o), .val (.int (Int32.ofNat i)), .val (.int (Int32.ofNat j)), .val (.int (Int32.ofNat (lab.getD i 0))), .val (.int (Int32.ofNat (lab.getD j 0)))] [(.ref o)]))
  have f9 := (f4.keep Kq5 (ninS nk nin0))
  obtain ⟨T10, X10, e10, st10⟩ := getF X5 hx hZ hown (host := "") (Or.inl (hw _ (List.mem_of_getElem? (i := 10) rfl))) Via.refl rfl f9 (g := (mkF m 14 #[.val (.ref o), .val (.int (Int32.ofNat i)), .val (.int (Int32.ofNat j)), .val (.int (Int32.ofNat (lab.getD i 0))), .val (.int (Int32.ofNat (lab.getD j 0)))] [(.ref o)])) rfl rfl (hb hby own_dprog_63_method_2_code_14)
  refine own_st st10 ?_
  show own_Go p.tables e below RR (T10.setTop (mkF m 17 #[.val (.ref o), .val (.int (Int32.ofNat i)), .val (.int (Int32.ofNat j)), .val (.int (Int32.ofNat (lab.getD i 0))), .val (.int (Int32.ofNat (lab.getD j 0)))] [(.ref ak)]))
  refine own_st (fun _ k => XS.iloadN X10.here hx rfl (hb hby own_dprog_63_method_2_code_17) rfl (XS.iload X10.here hx rfl (hb hby own_dprog_63_method_2_code_18) rfl k)) ?_
  show own_Go p.tables e below RR (T10.setTop (mkF m 20 #[.val (.ref o), .val (.int (Int32.ofNat i)), .val (.int (Int32.ofNat j)), .val (.int (Int32.ofNat (lab.getD i 0))), .val (.int (Int32.ofNat (lab.getD j 0)))] [(.int (Int32.ofNat (lab.getD j 0))), (.int (Int32.ofNat (lab.getD i 0))), (.ref ak)]))
  obtain ⟨c11, A11, q11, s11, m11, H11, G11⟩ := id Vq5
  obtain ⟨T12, h12, X12, e12, W12, st12⟩ := stI X10 hx hZ e10 A11 (j := (Int32.ofNat (lab.getD i 0))) (inb_of s11 (own_nin (n := 5) (own_rootl I hi).1 (by decide))) (g := (mkF m 20 #[.val (.ref o), .val (.int (Int32.ofNat i)), .val (.int (Int32.ofNat j)), .val (.int (Int32.ofNat (lab.getD i 0))), .val (.int (Int32.ofNat (lab.getD j 0)))] [(.int (Int32.ofNat (lab.getD j 0))), (.int (Int32.ofNat (lab.getD i 0))), (.ref ak)])) rfl rfl (hb hby own_dprog_63_method_2_code_20)
  have R12 := own_rootl Iq5 hi
  have U12 := Arv.set A11 q11 s11 m11 H11 G11 rfl W12 (lab.getD i 0) (own_nc (Nat.lt_of_lt_of_le R12.1 (by decide))) (by rw [List.length_map, Iq5.1]; exact R12.1)
  have V12 : Arv Z h12 ak kk .int (5 : Int32) ((Pq5.set (lab.getD i 0) (lab.getD j 0)).map own_vi) (.int (0 : Int32)) := by rw [own_ms]; exact U12
  have N12 := Fr.snoc X12 N5 g_k
  refine own_st st12 ?_
  have z13 : n0 ≤ h12.size := Nat.le_trans z7 (Keep.of_wr W12).1
  have kk14 : Keep h0 h12 [ak] := kk8.wr W12 (Or.inl (List.mem_of_getElem? (i := 0) rfl))
  show own_Go p.tables e below RR (T12.setTop (mkF m 21 #[.val (.ref o), .val (.int (Int32.ofNat i)), .val (.int (Int32.ofNat j)), .val (.int (Int32.ofNat (lab.getD i 0))), .val (.int (Int32.ofNat (lab.getD j 0)))] []))
  refine own_st (fun _ k => XS.iloadN X12.here hx rfl (hb hby own_dprog_63_method_2_code_21) rfl (XS.iload X12.here hx rfl (hb hby own_dprog_63_method_2_code_22) rfl k)) ?_
  show own_Go p.tables e below RR (T12.setTop (mkF m 24 #[.val (.ref o), .val (.int (Int32.ofNat i)), .val (.int (Int32.ofNat j)), .val (.int (Int32.ofNat (lab.getD i 0))), .val (.int (Int32.ofNat (lab.getD j 0)))] [(.int (Int32.ofNat (lab.getD j 0))), (.int (Int32.ofNat (lab.getD i 0)))]))
  by_cases hc24_15 : (Int32.ofNat (lab.getD i 0)) = (Int32.ofNat (lab.getD j 0))
  · refine own_st (fun _ k => XS.icmpYes X12.here hx rfl (pc0 := 24) (pc' := 31) rfl (hb hby own_dprog_63_method_2_code_24) rfl (teq hc24_15).1 (by decide) (by decide) (XS.iconst X12.here hx rfl (hb hby own_dprog_63_method_2_code_31) k)) ?_
    show own_Go p.tables e below RR (T12.setTop (mkF m 32 #[.val (.ref o), .val (.int (Int32.ofNat i)), .val (.int (Int32.ofNat j)), .val (.int (Int32.ofNat (lab.getD i 0))), .val (.int (Int32.ofNat (lab.getD j 0)))] [(.int (0 : Int32))]))
    obtain ⟨fs, hrt_, hrun, hended, hW, hsame⟩ := X12.leave (v := some (.int (0 : Int32))) (fun h => by rw [Bd.returns] at h; cases h)
    refine own_fin (retN X12 hx (t := .boolean) Bd.returns (by simp) (hb hby own_dprog_63_method_2_code_32) hrt_) (hRR _ ⟨_, hrun, hended, _, _, rfl, ?_, ⟨_, rfl⟩, hW, hsame.mono (by decide) (by decide)⟩)
    show own_QJN Z o ak kk P lab d i j h0 n0 _ T12.heap _
    rw [e12]
    exact ⟨own_ri ((own_nqy (by have := (own_rootl I hi).1; omega) (by have := (own_rootl I hj).1; omega) hc24_15).symm), N12, kk14, _, _, (own_join Iq5 (own_rootl I hi).1 (own_rootl I hj).1 (own_rootl Iq5 hi).2.1 (own_rootl Iq5 hj).2.1).choose_spec, V12⟩
  · refine own_st (fun _ k => XS.icmpNo X12.here hx rfl (hb hby own_dprog_63_method_2_code_24) rfl (feq hc24_15).1 (XS.iconst X12.here hx rfl (hb hby own_dprog_63_method_2_code_27) (XS.goto X12.here hx rfl (pc0 := 28) (pc' := 32) rfl (hb hby own_dprog_63_method_2_code_28) (by decide) (by decide) k))) ?_
    show own_Go p.tables e below RR (T12.setTop (mkF m 32 #[.val (.ref o), .val (.int (Int32.ofNat i)), .val (.int (Int32.ofNat j)), .val (.int (Int32.ofNat (lab.getD i 0))), .val (.int (Int32.ofNat (lab.getD j 0)))] [(.int (1 : Int32))]))
    obtain ⟨fs, hrt_, hrun, hended, hW, hsame⟩ := X12.leave (v := some (.int (1 : Int32))) (fun h => by rw [Bd.returns] at h; cases h)
    refine own_fin (retN X12 hx (t := .boolean) Bd.returns (by simp) (hb hby own_dprog_63_method_2_code_32) hrt_) (hRR _ ⟨_, hrun, hended, _, _, rfl, ?_, ⟨_, rfl⟩, hW, hsame.mono (by decide) (by decide)⟩)
    show own_QJN Z o ak kk P lab d i j h0 n0 _ T12.heap _
    rw [e12]
    exact ⟨own_ri ((own_nqn hc24_15).symm), N12, kk14, _, _, (own_join Iq5 (own_rootl I hi).1 (own_rootl I hj).1 (own_rootl Iq5 hi).2.1 (own_rootl Iq5 hj).2.1).choose_spec, V12⟩
theorem own_m5 (y : Int32) : ∃ i, i < 5 ∧ (y &&& (255 : Int32)) % (5 : Int32) = Int32.ofNat i := by
  have h := c_mask y 255 8 (by decide) (by decide)
  have h2 := c_irem (y &&& 255) 5 5 (by decide)
  refine ⟨((y &&& 255) % 5).toInt.toNat, by omega, ?_⟩
  apply Int32.toInt_inj.mp
  rw [own_ti (by omega)]
  omega
theorem own_I0 : own_Inv 5 [0, 1, 2, 3, 4] [0, 1, 2, 3, 4] (fun _ => 0) := ⟨rfl, rfl, by decide⟩
theorem own_pn_com_example_saar_saar_sim_PartsJoinPinLaw : plainName "com/example/saar/saar/sim/PartsJoinPinLaw" = true := by first | (simp [plainName, overriddenIn]; done) | decide +kernel
theorem own_dmethod_2_code_0 : decode method_2_code 0 = .ok (.iload_n 0, 1) := by decide +kernel
theorem own_dmethod_2_code_1 : decode method_2_code 1 = .ok (.sipush 255, 3) := by decide +kernel
theorem own_dmethod_2_code_4 : decode method_2_code 4 = .ok (.iand, 1) := by decide +kernel
theorem own_dmethod_2_code_5 : decode method_2_code 5 = .ok (.iconst 5, 1) := by decide +kernel
theorem own_dmethod_2_code_6 : decode method_2_code 6 = .ok (.irem, 1) := by decide +kernel
theorem own_dmethod_2_code_7 : decode method_2_code 7 = .ok (.ireturn, 1) := by decide +kernel
theorem own_efLO (m : MethodId) (p1 : Int32) : entryFrame m #[(.int p1)] 1 = mkF m 0 #[.val (.int p1)] [] := by first | (simp [entryFrame, mkF, argsToLocals, Value.category]; done) | rfl
def own_QLO (Z : State) (p1 : Int32) (i : Nat) (h0 : Heap) (n0 : Nat) (rv__ : Option Value) (h : Heap) (rL__ : List Loc) : Prop := rv__ = some (.int (Int32.ofNat i)) ∧ Fr n0 rL__ ∧ h = h0
abbrev own_RLO : Room := { frames := 0, cells := 0, slots := 0, locals := 0 }
set_option maxRecDepth 65536 in
set_option maxHeartbeats 40000000 in
theorem own_rmLO (l : Launch) (Z : State) (a0 : Array Value) (hw : ∀ d ∈ tables_1, d.before a0 Z = true) (ws : List Jvm.Cond) (p1 : Int32) (i : Nat) (h0 : Heap) (n0 : Nat) (Z0 : n0 ≤ h0.size) (hi : (p1 &&& (255 : Int32)) % (5 : Int32) = Int32.ofNat i) :
    MetFree l (⟨"com/example/saar/saar/sim/PartsJoinPinLaw", "lo", "(I)I"⟩ : MethodName) (head1 (Jvm.Cond.code (⟨"com/example/saar/saar/sim/PartsJoinPinLaw", "lo", "(I)I"⟩ : MethodName) method_2_code 1 (some .int) :: ws) own_RLO) (fun aa__ U => aa__ = #[(.int p1)] ∧ Z.Warmed39 U.vm ∧ U.heap = h0) (fun _ _ _ _ _ => True) (fun _ U oc_ U' => ∃ rv__ rL__, oc_ = .returned rv__ ∧ own_QLO Z p1 i h0 n0 rv__ U'.heap rL__ ∧ FrameEnd U oc_ U' rL__ own_RLO.cells own_RLO.slots) := by
  refine MetFree.of_bodySF (plainFor_of_name own_pn_com_example_saar_saar_sim_PartsJoinPinLaw) hisR ?_
  intro p e s m args below meth c s₁ Bd hml0 hP hK
  obtain ⟨rfl, hZ, hh⟩ := hP
  have hx := Bd.exec
  have hby := Bd.bytes
  have hml : c.maxLocals = 1 := hml0
  have hown : s.vm.findClass "com/example/saar/saar/sim/PartsJoinPinLaw" = some m.cls := findClass_of_methodNamed Bd.named
  have hnm := (name_of_methodNamed Bd.named Bd.method).1
  have X0 : Stand p l e own_RLO s m #[(.int p1)] below meth c s₁ [] 0 0 := Stand.of_body Bd
  have e0 : s₁.heap = h0 := by rw [← hh, Bd.state]; rfl
  have N0 := Fr.nil n0
  refine own_in (fun _ k => castTop (own_efLO m p1) k) ?_
  intro RR hRR
  show own_Go p.tables e below RR (s₁.setTop (mkF m 0 #[.val (.int p1)] []))
  refine own_st (fun _ k => XS.iloadN X0.here hx rfl (hb hby own_dmethod_2_code_0) rfl (XS.sipush X0.here hx rfl (hb hby own_dmethod_2_code_1) (XS.iand X0.here hx rfl (hb hby own_dmethod_2_code_4) rfl (XS.iconst X0.here hx rfl (hb hby own_dmethod_2_code_5) k)))) ?_
  show own_Go p.tables e below RR (s₁.setTop (mkF m 6 #[.val (.int p1)] [(.int (5 : Int32)), (.int (p1 &&& (255 : Int32)))]))
  refine own_st (fun _ k => XS.irem X0.here hx rfl (hb hby own_dmethod_2_code_6) rfl (by decide) k) ?_
  show own_Go p.tables e below RR (s₁.setTop (mkF m 7 #[.val (.int p1)] [(.int ((p1 &&& (255 : Int32)) - ((p1 &&& (255 : Int32)) / (5 : Int32)) * (5 : Int32)))]))
  rw [irem_eq_mod (p1 &&& (255 : Int32)) (5 : Int32)]
  show own_Go p.tables e below RR (s₁.setTop (mkF m 7 #[.val (.int p1)] [(.int ((p1 &&& (255 : Int32)) % (5 : Int32)))]))
  obtain ⟨fs, hrt_, hrun, hended, hW, hsame⟩ := X0.leave (v := some (.int ((p1 &&& (255 : Int32)) % (5 : Int32)))) (fun h => by rw [Bd.returns] at h; cases h)
  refine own_fin (retI X0 hx Bd.returns (hb hby own_dmethod_2_code_7) hrt_) (hRR _ ⟨_, hrun, hended, _, _, rfl, ?_, ⟨_, rfl⟩, hW, hsame.mono (by decide) (by decide)⟩)
  show own_QLO Z p1 i h0 n0 _ s₁.heap _
  rw [e0]
  exact ⟨own_ri (hi), N0, rfl⟩
theorem own_dmethod_3_code_0 : decode method_3_code 0 = .ok (.iload_n 0, 1) := by decide +kernel
theorem own_dmethod_3_code_1 : decode method_3_code 1 = .ok (.bipush 8, 2) := by decide +kernel
theorem own_dmethod_3_code_3 : decode method_3_code 3 = .ok (.iushr, 1) := by decide +kernel
theorem own_dmethod_3_code_4 : decode method_3_code 4 = .ok (.sipush 255, 3) := by decide +kernel
theorem own_dmethod_3_code_7 : decode method_3_code 7 = .ok (.iand, 1) := by decide +kernel
theorem own_dmethod_3_code_8 : decode method_3_code 8 = .ok (.iconst 5, 1) := by decide +kernel
theorem own_dmethod_3_code_9 : decode method_3_code 9 = .ok (.irem, 1) := by decide +kernel
theorem own_dmethod_3_code_10 : decode method_3_code 10 = .ok (.ireturn, 1) := by decide +kernel
theorem own_efHI (m : MethodId) (p1 : Int32) : entryFrame m #[(.int p1)] 1 = mkF m 0 #[.val (.int p1)] [] := by first | (simp [entryFrame, mkF, argsToLocals, Value.category]; done) | rfl
def own_QHI (Z : State) (p1 : Int32) (i : Nat) (h0 : Heap) (n0 : Nat) (rv__ : Option Value) (h : Heap) (rL__ : List Loc) : Prop := rv__ = some (.int (Int32.ofNat i)) ∧ Fr n0 rL__ ∧ h = h0
abbrev own_RHI : Room := { frames := 0, cells := 0, slots := 0, locals := 0 }
set_option maxRecDepth 65536 in
set_option maxHeartbeats 40000000 in
theorem own_rmHI (l : Launch) (Z : State) (a0 : Array Value) (hw : ∀ d ∈ tables_1, d.before a0 Z = true) (ws : List Jvm.Cond) (p1 : Int32) (i : Nat) (h0 : Heap) (n0 : Nat) (Z0 : n0 ≤ h0.size) (hi : (((p1.toUInt32 >>> ((8 : Int32) &&& 31).toUInt32).toInt32) &&& (255 : Int32)) % (5 : Int32) = Int32.ofNat i) :
    MetFree l (⟨"com/example/saar/saar/sim/PartsJoinPinLaw", "hi", "(I)I"⟩ : MethodName) (head1 (Jvm.Cond.code (⟨"com/example/saar/saar/sim/PartsJoinPinLaw", "hi", "(I)I"⟩ : MethodName) method_3_code 1 (some .int) :: ws) own_RHI) (fun aa__ U => aa__ = #[(.int p1)] ∧ Z.Warmed39 U.vm ∧ U.heap = h0) (fun _ _ _ _ _ => True) (fun _ U oc_ U' => ∃ rv__ rL__, oc_ = .returned rv__ ∧ own_QHI Z p1 i h0 n0 rv__ U'.heap rL__ ∧ FrameEnd U oc_ U' rL__ own_RHI.cells own_RHI.slots) := by
  refine MetFree.of_bodySF (plainFor_of_name own_pn_com_example_saar_saar_sim_PartsJoinPinLaw) hisR ?_
  intro p e s m args below meth c s₁ Bd hml0 hP hK
  obtain ⟨rfl, hZ, hh⟩ := hP
  have hx := Bd.exec
  have hby := Bd.bytes
  have hml : c.maxLocals = 1 := hml0
  have hown : s.vm.findClass "com/example/saar/saar/sim/PartsJoinPinLaw" = some m.cls := findClass_of_methodNamed Bd.named
  have hnm := (name_of_methodNamed Bd.named Bd.method).1
  have X0 : Stand p l e own_RHI s m #[(.int p1)] below meth c s₁ [] 0 0 := Stand.of_body Bd
  have e0 : s₁.heap = h0 := by rw [← hh, Bd.state]; rfl
  have N0 := Fr.nil n0
  refine own_in (fun _ k => castTop (own_efHI m p1) k) ?_
  intro RR hRR
  show own_Go p.tables e below RR (s₁.setTop (mkF m 0 #[.val (.int p1)] []))
  refine own_st (fun _ k => XS.iloadN X0.here hx rfl (hb hby own_dmethod_3_code_0) rfl (XS.bipush X0.here hx rfl (hb hby own_dmethod_3_code_1) (XS.iushr X0.here hx rfl (hb hby own_dmethod_3_code_3) rfl (XS.sipush X0.here hx rfl (hb hby own_dmethod_3_code_4) (XS.iand X0.here hx rfl (hb hby own_dmethod_3_code_7) rfl (XS.iconst X0.here hx rfl (hb hby own_dmethod_3_code_8) k)))))) ?_
  show own_Go p.tables e below RR (s₁.setTop (mkF m 9 #[.val (.int p1)] [(.int (5 : Int32)), (.int (((p1.toUInt32 >>> ((8 : Int32) &&& 31).toUInt32).toInt32) &&& (255 : Int32)))]))
  refine own_st (fun _ k => XS.irem X0.here hx rfl (hb hby own_dmethod_3_code_9) rfl (by decide) k) ?_
  show own_Go p.tables e below RR (s₁.setTop (mkF m 10 #[.val (.int p1)] [(.int ((((p1.toUInt32 >>> ((8 : Int32) &&& 31).toUInt32).toInt32) &&& (255 : Int32)) - ((((p1.toUInt32 >>> ((8 : Int32) &&& 31).toUInt32).toInt32) &&& (255 : Int32)) / (5 : Int32)) * (5 : Int32)))]))
  rw [irem_eq_mod (((p1.toUInt32 >>> ((8 : Int32) &&& 31).toUInt32).toInt32) &&& (255 : Int32)) (5 : Int32)]
  show own_Go p.tables e below RR (s₁.setTop (mkF m 10 #[.val (.int p1)] [(.int ((((p1.toUInt32 >>> ((8 : Int32) &&& 31).toUInt32).toInt32) &&& (255 : Int32)) % (5 : Int32)))]))
  obtain ⟨fs, hrt_, hrun, hended, hW, hsame⟩ := X0.leave (v := some (.int ((((p1.toUInt32 >>> ((8 : Int32) &&& 31).toUInt32).toInt32) &&& (255 : Int32)) % (5 : Int32)))) (fun h => by rw [Bd.returns] at h; cases h)
  refine own_fin (retI X0 hx Bd.returns (hb hby own_dmethod_3_code_10) hrt_) (hRR _ ⟨_, hrun, hended, _, _, rfl, ?_, ⟨_, rfl⟩, hW, hsame.mono (by decide) (by decide)⟩)
  show own_QHI Z p1 i h0 n0 _ s₁.heap _
  rw [e0]
  exact ⟨own_ri (hi), N0, rfl⟩
theorem own_dmethod_4_code_0 : decode method_4_code 0 = .ok (.aload_n 0, 1) := by decide +kernel
theorem own_dmethod_4_code_1 : decode method_4_code 1 = .ok (.iload_n 1, 1) := by decide +kernel
theorem own_dmethod_4_code_2 : decode method_4_code 2 = .ok (.iaload, 1) := by decide +kernel
theorem own_dmethod_4_code_3 : decode method_4_code 3 = .ok (.istore_n 3, 1) := by decide +kernel
theorem own_dmethod_4_code_4 : decode method_4_code 4 = .ok (.aload_n 0, 1) := by decide +kernel
theorem own_dmethod_4_code_5 : decode method_4_code 5 = .ok (.iload_n 2, 1) := by decide +kernel
theorem own_dmethod_4_code_6 : decode method_4_code 6 = .ok (.iaload, 1) := by decide +kernel
theorem own_dmethod_4_code_7 : decode method_4_code 7 = .ok (.istore 4, 2) := by decide +kernel
theorem own_dmethod_4_code_9 : decode method_4_code 9 = .ok (.aload_n 0, 1) := by decide +kernel
theorem own_dmethod_4_code_21 : decode method_4_code 21 = .ok (.aload_n 0, 1) := by decide +kernel
theorem own_dmethod_4_code_33 : decode method_4_code 33 = .ok (.aload_n 0, 1) := by decide +kernel
theorem own_dmethod_4_code_45 : decode method_4_code 45 = .ok (.aload_n 0, 1) := by decide +kernel
theorem own_dmethod_4_code_57 : decode method_4_code 57 = .ok (.aload_n 0, 1) := by decide +kernel
theorem own_dmethod_4_code_69 : decode method_4_code 69 = .ok (.iload_n 3, 1) := by decide +kernel
theorem own_dmethod_4_code_70 : decode method_4_code 70 = .ok (.iload 4, 2) := by decide +kernel
theorem own_dmethod_4_code_72 : decode method_4_code 72 = .ok (.if_icmp .eq 7, 3) := by decide +kernel
theorem own_dmethod_4_code_79 : decode method_4_code 79 = .ok (.iconst 0, 1) := by decide +kernel
theorem own_dmethod_4_code_80 : decode method_4_code 80 = .ok (.ireturn, 1) := by decide +kernel
theorem own_dmethod_4_code_75 : decode method_4_code 75 = .ok (.iconst 1, 1) := by decide +kernel
theorem own_dmethod_4_code_76 : decode method_4_code 76 = .ok (.goto 4, 3) := by decide +kernel
theorem own_dmethod_4_code_58 : decode method_4_code 58 = .ok (.iconst 4, 1) := by decide +kernel
theorem own_dmethod_4_code_59 : decode method_4_code 59 = .ok (.iaload, 1) := by decide +kernel
theorem own_dmethod_4_code_60 : decode method_4_code 60 = .ok (.iload_n 3, 1) := by decide +kernel
theorem own_dmethod_4_code_61 : decode method_4_code 61 = .ok (.if_icmp .ne 8, 3) := by decide +kernel
theorem own_dmethod_4_code_64 : decode method_4_code 64 = .ok (.aload_n 0, 1) := by decide +kernel
theorem own_dmethod_4_code_65 : decode method_4_code 65 = .ok (.iconst 4, 1) := by decide +kernel
theorem own_dmethod_4_code_66 : decode method_4_code 66 = .ok (.iload 4, 2) := by decide +kernel
theorem own_dmethod_4_code_68 : decode method_4_code 68 = .ok (.iastore, 1) := by decide +kernel
theorem own_dmethod_4_code_46 : decode method_4_code 46 = .ok (.iconst 3, 1) := by decide +kernel
theorem own_dmethod_4_code_47 : decode method_4_code 47 = .ok (.iaload, 1) := by decide +kernel
theorem own_dmethod_4_code_48 : decode method_4_code 48 = .ok (.iload_n 3, 1) := by decide +kernel
theorem own_dmethod_4_code_49 : decode method_4_code 49 = .ok (.if_icmp .ne 8, 3) := by decide +kernel
theorem own_dmethod_4_code_52 : decode method_4_code 52 = .ok (.aload_n 0, 1) := by decide +kernel
theorem own_dmethod_4_code_53 : decode method_4_code 53 = .ok (.iconst 3, 1) := by decide +kernel
theorem own_dmethod_4_code_54 : decode method_4_code 54 = .ok (.iload 4, 2) := by decide +kernel
theorem own_dmethod_4_code_56 : decode method_4_code 56 = .ok (.iastore, 1) := by decide +kernel
theorem own_dmethod_4_code_34 : decode method_4_code 34 = .ok (.iconst 2, 1) := by decide +kernel
theorem own_dmethod_4_code_35 : decode method_4_code 35 = .ok (.iaload, 1) := by decide +kernel
theorem own_dmethod_4_code_36 : decode method_4_code 36 = .ok (.iload_n 3, 1) := by decide +kernel
theorem own_dmethod_4_code_37 : decode method_4_code 37 = .ok (.if_icmp .ne 8, 3) := by decide +kernel
theorem own_dmethod_4_code_40 : decode method_4_code 40 = .ok (.aload_n 0, 1) := by decide +kernel
theorem own_dmethod_4_code_41 : decode method_4_code 41 = .ok (.iconst 2, 1) := by decide +kernel
theorem own_dmethod_4_code_42 : decode method_4_code 42 = .ok (.iload 4, 2) := by decide +kernel
theorem own_dmethod_4_code_44 : decode method_4_code 44 = .ok (.iastore, 1) := by decide +kernel
theorem own_dmethod_4_code_22 : decode method_4_code 22 = .ok (.iconst 1, 1) := by decide +kernel
theorem own_dmethod_4_code_23 : decode method_4_code 23 = .ok (.iaload, 1) := by decide +kernel
theorem own_dmethod_4_code_24 : decode method_4_code 24 = .ok (.iload_n 3, 1) := by decide +kernel
theorem own_dmethod_4_code_25 : decode method_4_code 25 = .ok (.if_icmp .ne 8, 3) := by decide +kernel
theorem own_dmethod_4_code_28 : decode method_4_code 28 = .ok (.aload_n 0, 1) := by decide +kernel
theorem own_dmethod_4_code_29 : decode method_4_code 29 = .ok (.iconst 1, 1) := by decide +kernel
theorem own_dmethod_4_code_30 : decode method_4_code 30 = .ok (.iload 4, 2) := by decide +kernel
theorem own_dmethod_4_code_32 : decode method_4_code 32 = .ok (.iastore, 1) := by decide +kernel
theorem own_dmethod_4_code_10 : decode method_4_code 10 = .ok (.iconst 0, 1) := by decide +kernel
theorem own_dmethod_4_code_11 : decode method_4_code 11 = .ok (.iaload, 1) := by decide +kernel
theorem own_dmethod_4_code_12 : decode method_4_code 12 = .ok (.iload_n 3, 1) := by decide +kernel
theorem own_dmethod_4_code_13 : decode method_4_code 13 = .ok (.if_icmp .ne 8, 3) := by decide +kernel
theorem own_dmethod_4_code_16 : decode method_4_code 16 = .ok (.aload_n 0, 1) := by decide +kernel
theorem own_dmethod_4_code_17 : decode method_4_code 17 = .ok (.iconst 0, 1) := by decide +kernel
theorem own_dmethod_4_code_18 : decode method_4_code 18 = .ok (.iload 4, 2) := by decide +kernel
theorem own_dmethod_4_code_20 : decode method_4_code 20 = .ok (.iastore, 1) := by decide +kernel
theorem own_efST (m : MethodId) (al : Addr) : entryFrame m #[(.ref al), (.int (Int32.ofNat i)), (.int (Int32.ofNat j))] 5 = mkF m 0 #[.val (.ref al), .val (.int (Int32.ofNat i)), .val (.int (Int32.ofNat j)), .unset, .unset] [] := by first | (simp [entryFrame, mkF, argsToLocals, Value.category]; done) | rfl
def own_QST (Z : State) (al : Addr) (kl : ClassId) (i : Nat) (j : Nat) (l0 : Nat) (l1 : Nat) (l2 : Nat) (l3 : Nat) (l4 : Nat) (h0 : Heap) (n0 : Nat) (rv__ : Option Value) (h : Heap) (rL__ : List Loc) : Prop := rv__ = some (.int (own_nq ([l0, l1, l2, l3, l4].getD i 0) ([l0, l1, l2, l3, l4].getD j 0))) ∧ Fr n0 rL__ ∧ Keep h0 h [al] ∧ Arv Z h al kl .int (5 : Int32) [(.int (Int32.ofNat (own_r ([l0, l1, l2, l3, l4].getD i 0) ([l0, l1, l2, l3, l4].getD j 0) l0))), (.int (Int32.ofNat (own_r ([l0, l1, l2, l3, l4].getD i 0) ([l0, l1, l2, l3, l4].getD j 0) l1))), (.int (Int32.ofNat (own_r ([l0, l1, l2, l3, l4].getD i 0) ([l0, l1, l2, l3, l4].getD j 0) l2))), (.int (Int32.ofNat (own_r ([l0, l1, l2, l3, l4].getD i 0) ([l0, l1, l2, l3, l4].getD j 0) l3))), (.int (Int32.ofNat (own_r ([l0, l1, l2, l3, l4].getD i 0) ([l0, l1, l2, l3, l4].getD j 0) l4)))] (.int (0 : Int32))
abbrev own_RST : Room := { frames := 0, cells := 0, slots := 0, locals := 0 }
set_option maxRecDepth 65536 in
set_option maxHeartbeats 40000000 in
theorem own_rmST (l : Launch) (Z : State) (a0 : Array Value) (hw : ∀ d ∈ tables_1, d.before a0 Z = true) (ws : List Jvm.Cond) (al : Addr) (kl : ClassId) (i : Nat) (j : Nat) (l0 : Nat) (l1 : Nat) (l2 : Nat) (l3 : Nat) (l4 : Nat) (h0 : Heap) (n0 : Nat) (Z0 : n0 ≤ h0.size) (g_l : n0 ≤ al) (Al : Arv Z h0 al kl .int (5 : Int32) [(.int (Int32.ofNat l0)), (.int (Int32.ofNat l1)), (.int (Int32.ofNat l2)), (.int (Int32.ofNat l3)), (.int (Int32.ofNat l4))] (.int (0 : Int32))) (hi : i < 5) (hj : j < 5) (ha : ([l0, l1, l2, l3, l4].getD i 0) < 5) (hb_ : ([l0, l1, l2, l3, l4].getD j 0) < 5) (hl0 : l0 < 5) (hl1 : l1 < 5) (hl2 : l2 < 5) (hl3 : l3 < 5) (hl4 : l4 < 5) :
    MetFree l (⟨"com/example/saar/saar/sim/PartsJoinPinLaw", "step", "([III)Z"⟩ : MethodName) (head1 (Jvm.Cond.code (⟨"com/example/saar/saar/sim/PartsJoinPinLaw", "step", "([III)Z"⟩ : MethodName) method_4_code 5 (some .boolean) :: ws) own_RST) (fun aa__ U => aa__ = #[(.ref al), (.int (Int32.ofNat i)), (.int (Int32.ofNat j))] ∧ Z.Warmed39 U.vm ∧ U.heap = h0) (fun _ _ _ _ _ => True) (fun _ U oc_ U' => ∃ rv__ rL__, oc_ = .returned rv__ ∧ own_QST Z al kl i j l0 l1 l2 l3 l4 h0 n0 rv__ U'.heap rL__ ∧ FrameEnd U oc_ U' rL__ own_RST.cells own_RST.slots) := by
  refine MetFree.of_bodySF (plainFor_of_name own_pn_com_example_saar_saar_sim_PartsJoinPinLaw) hisR ?_
  intro p e s m args below meth c s₁ Bd hml0 hP hK
  obtain ⟨rfl, hZ, hh⟩ := hP
  have hx := Bd.exec
  have hby := Bd.bytes
  have hml : c.maxLocals = 5 := hml0
  have hown : s.vm.findClass "com/example/saar/saar/sim/PartsJoinPinLaw" = some m.cls := findClass_of_methodNamed Bd.named
  have hnm := (name_of_methodNamed Bd.named Bd.method).1
  have X0 : Stand p l e own_RST s m #[(.ref al), (.int (Int32.ofNat i)), (.int (Int32.ofNat j))] below meth c s₁ [] 0 0 := Stand.of_body Bd
  have e0 : s₁.heap = h0 := by rw [← hh, Bd.state]; rfl
  have N0 := Fr.nil n0
  refine own_in (fun _ k => castTop (own_efST m al) k) ?_
  intro RR hRR
  show own_Go p.tables e below RR (s₁.setTop (mkF m 0 #[.val (.ref al), .val (.int (Int32.ofNat i)), .val (.int (Int32.ofNat j)), .unset, .unset] []))
  refine own_st (fun _ k => XS.aloadN X0.here hx rfl (hb hby own_dmethod_4_code_0) rfl rfl (XS.iloadN X0.here hx rfl (hb hby own_dmethod_4_code_1) rfl k)) ?_
  show own_Go p.tables e below RR (s₁.setTop (mkF m 2 #[.val (.ref al), .val (.int (Int32.ofNat i)), .val (.int (Int32.ofNat j)), .unset, .unset] [(.int (Int32.ofNat i)), (.ref al)]))
  obtain ⟨c1, A1, q1, s1, m1, H1, G1⟩ := id Al
  have b1 := inb_of (j := (Int32.ofNat i)) s1 (own_nin (n := 5) hi (by decide))
  refine own_st (fun _ k => X0.iaload hx (j := (Int32.ofNat i)) (v := (.int (Int32.ofNat ([l0, l1, l2, l3, l4].getD i 0)))) (by rw [e0]; exact A1.1) (State.isArrayOf_alike hZ.alike A1.2.1) A1.2.2 b1 (Has.at H1 b1 (own_get (n := 5) (P := [l0, l1, l2, l3, l4]) rfl hi (by decide))) (g := (mkF m 2 #[.val (.ref al), .val (.int (Int32.ofNat i)), .val (.int (Int32.ofNat j)), .unset, .unset] [(.int (Int32.ofNat i)), (.ref al)])) rfl rfl (hb hby own_dmethod_4_code_2) _ (XS.istoreN X0.here hx rfl (hb hby own_dmethod_4_code_3) rfl (l' := #[.val (.ref al), .val (.int (Int32.ofNat i)), .val (.int (Int32.ofNat j)), .val (.int (Int32.ofNat ([l0, l1, l2, l3, l4].getD i 0))), .unset]) rfl (XS.aloadN X0.here hx rfl (hb hby own_dmethod_4_code_4) rfl rfl (XS.iloadN X0.here hx rfl (hb hby own_dmethod_4_code_5) rfl k)))) ?_
  show own_Go p.tables e below RR (s₁.setTop (mkF m 6 #[.val (.ref al), .val (.int (Int32.ofNat i)), .val (.int (Int32.ofNat j)), .val (.int (Int32.ofNat ([l0, l1, l2, l3, l4].getD i 0))), .unset] [(.int (Int32.ofNat j)), (.ref al)]))
  obtain ⟨c2, A2, q2, s2, m2, H2, G2⟩ := id Al
  have b2 := inb_of (j := (Int32.ofNat j)) s2 (own_nin (n := 5) hj (by decide))
  refine own_st (fun _ k => X0.iaload hx (j := (Int32.ofNat j)) (v := (.int (Int32.ofNat ([l0, l1, l2, l3, l4].getD j 0)))) (by rw [e0]; exact A2.1) (State.isArrayOf_alike hZ.alike A2.2.1) A2.2.2 b2 (Has.at H2 b2 (own_get (n := 5) (P := [l0, l1, l2, l3, l4]) rfl hj (by decide))) (g := (mkF m 6 #[.val (.ref al), .val (.int (Int32.ofNat i)), .val (.int (Int32.ofNat j)), .val (.int (Int32.ofNat ([l0, l1, l2, l3, l4].getD i 0))), .unset] [(.int (Int32.ofNat j)), (.ref al)])) rfl rfl (hb hby own_dmethod_4_code_6) _ (XS.istore X0.here hx rfl (hb hby own_dmethod_4_code_7) rfl (l' := #[.val (.ref al), .val (.int (Int32.ofNat i)), .val (.int (Int32.ofNat j)), .val (.int (Int32.ofNat ([l0, l1, l2, l3, l4].getD i 0))), .val (.int (Int32.ofNat ([l0, l1, l2, l3, l4].getD j 0)))]) rfl (XS.aloadN X0.here hx rfl (hb hby own_dmethod_4_code_9) rfl rfl k))) ?_
  show own_Go p.tables e below RR (s₁.setTop (mkF m 10 #[.val (.ref al), .val (.int (Int32.ofNat i)), .val (.int (Int32.ofNat j)), .val (.int (Int32.ofNat ([l0, l1, l2, l3, l4].getD i 0))), .val (.int (Int32.ofNat ([l0, l1, l2, l3, l4].getD j 0)))] [(.ref al)]))
  have jnh3 : ∀ (T3 : State) (lo3 : List Loc) (hh0 : Heap) (X3 : Stand p l e own_RST s m #[(.ref al), (.int (Int32.ofNat i)), (.int (Int32.ofNat j))] below meth c T3 lo3 0 0) (e3 : T3.heap = hh0) (N3 : Fr n0 lo3) (KK0 : Keep h0 hh0 [al]) (VV0 : Arv Z hh0 al kl .int (5 : Int32) [(.int (Int32.ofNat (own_r ([l0, l1, l2, l3, l4].getD i 0) ([l0, l1, l2, l3, l4].getD j 0) l0))), (.int (Int32.ofNat l1)), (.int (Int32.ofNat l2)), (.int (Int32.ofNat l3)), (.int (Int32.ofNat l4))] (.int (0 : Int32))), own_Go p.tables e below RR (T3.setTop (mkF m 21 #[.val (.ref al), .val (.int (Int32.ofNat i)), .val (.int (Int32.ofNat j)), .val (.int (Int32.ofNat ([l0, l1, l2, l3, l4].getD i 0))), .val (.int (Int32.ofNat ([l0, l1, l2, l3, l4].getD j 0)))] [])) := by
    intro T3 lo3 hh0  X3 e3 N3 KK0 VV0
    have z4 : n0 ≤ hh0.size := Nat.le_trans Z0 KK0.1
    have kk5 : Keep h0 hh0 [al] := (Keep.refl h0 [al]).trans KK0 (allS (Or.inl (List.mem_of_getElem? (i := 0) rfl)) all0)
    show own_Go p.tables e below RR (T3.setTop (mkF m 21 #[.val (.ref al), .val (.int (Int32.ofNat i)), .val (.int (Int32.ofNat j)), .val (.int (Int32.ofNat ([l0, l1, l2, l3, l4].getD i 0))), .val (.int (Int32.ofNat ([l0, l1, l2, l3, l4].getD j 0)))] []))
    refine own_st (fun _ k => XS.aloadN X3.here hx rfl (hb hby own_dmethod_4_code_21) rfl rfl k) ?_
    show own_Go p.tables e below RR (T3.setTop (mkF m 22 #[.val (.ref al), .val (.int (Int32.ofNat i)), .val (.int (Int32.ofNat j)), .val (.int (Int32.ofNat ([l0, l1, l2, l3, l4].getD i 0))), .val (.int (Int32.ofNat ([l0, l1, l2, l3, l4].getD j 0)))] [(.ref al)]))
    have jnh6 : ∀ (T6 : State) (lo6 : List Loc) (hh1 : Heap) (X6 : Stand p l e own_RST s m #[(.ref al), (.int (Int32.ofNat i)), (.int (Int32.ofNat j))] below meth c T6 lo6 0 0) (e6 : T6.heap = hh1) (N6 : Fr n0 lo6) (KK1 : Keep hh0 hh1 [al]) (VV1 : Arv Z hh1 al kl .int (5 : Int32) [(.int (Int32.ofNat (own_r ([l0, l1, l2, l3, l4].getD i 0) ([l0, l1, l2, l3, l4].getD j 0) l0))), (.int (Int32.ofNat (own_r ([l0, l1, l2, l3, l4].getD i 0) ([l0, l1, l2, l3, l4].getD j 0) l1))), (.int (Int32.ofNat l2)), (.int (Int32.ofNat l3)), (.int (Int32.ofNat l4))] (.int (0 : Int32))), own_Go p.tables e below RR (T6.setTop (mkF m 33 #[.val (.ref al), .val (.int (Int32.ofNat i)), .val (.int (Int32.ofNat j)), .val (.int (Int32.ofNat ([l0, l1, l2, l3, l4].getD i 0))), .val (.int (Int32.ofNat ([l0, l1, l2, l3, l4].getD j 0)))] [])) := by
      intro T6 lo6 hh1  X6 e6 N6 KK1 VV1
      have z7 : n0 ≤ hh1.size := Nat.le_trans z4 KK1.1
      have kk8 : Keep h0 hh1 [al] := kk5.trans KK1 (allS (Or.inl (List.mem_of_getElem? (i := 0) rfl)) all0)
      show own_Go p.tables e below RR (T6.setTop (mkF m 33 #[.val (.ref al), .val (.int (Int32.ofNat i)), .val (.int (Int32.ofNat j)), .val (.int (Int32.ofNat ([l0, l1, l2, l3, l4].getD i 0))), .val (.int (Int32.ofNat ([l0, l1, l2, l3, l4].getD j 0)))] []))
      refine own_st (fun _ k => XS.aloadN X6.here hx rfl (hb hby own_dmethod_4_code_33) rfl rfl k) ?_
      show own_Go p.tables e below RR (T6.setTop (mkF m 34 #[.val (.ref al), .val (.int (Int32.ofNat i)), .val (.int (Int32.ofNat j)), .val (.int (Int32.ofNat ([l0, l1, l2, l3, l4].getD i 0))), .val (.int (Int32.ofNat ([l0, l1, l2, l3, l4].getD j 0)))] [(.ref al)]))
      have jnh9 : ∀ (T9 : State) (lo9 : List Loc) (hh2 : Heap) (X9 : Stand p l e own_RST s m #[(.ref al), (.int (Int32.ofNat i)), (.int (Int32.ofNat j))] below meth c T9 lo9 0 0) (e9 : T9.heap = hh2) (N9 : Fr n0 lo9) (KK2 : Keep hh1 hh2 [al]) (VV2 : Arv Z hh2 al kl .int (5 : Int32) [(.int (Int32.ofNat (own_r ([l0, l1, l2, l3, l4].getD i 0) ([l0, l1, l2, l3, l4].getD j 0) l0))), (.int (Int32.ofNat (own_r ([l0, l1, l2, l3, l4].getD i 0) ([l0, l1, l2, l3, l4].getD j 0) l1))), (.int (Int32.ofNat (own_r ([l0, l1, l2, l3, l4].getD i 0) ([l0, l1, l2, l3, l4].getD j 0) l2))), (.int (Int32.ofNat l3)), (.int (Int32.ofNat l4))] (.int (0 : Int32))), own_Go p.tables e below RR (T9.setTop (mkF m 45 #[.val (.ref al), .val (.int (Int32.ofNat i)), .val (.int (Int32.ofNat j)), .val (.int (Int32.ofNat ([l0, l1, l2, l3, l4].getD i 0))), .val (.int (Int32.ofNat ([l0, l1, l2, l3, l4].getD j 0)))] [])) := by
        intro T9 lo9 hh2  X9 e9 N9 KK2 VV2
        have z10 : n0 ≤ hh2.size := Nat.le_trans z7 KK2.1
        have kk11 : Keep h0 hh2 [al] := kk8.trans KK2 (allS (Or.inl (List.mem_of_getElem? (i := 0) rfl)) all0)
        show own_Go p.tables e below RR (T9.setTop (mkF m 45 #[.val (.ref al), .val (.int (Int32.ofNat i)), .val (.int (Int32.ofNat j)), .val (.int (Int32.ofNat ([l0, l1, l2, l3, l4].getD i 0))), .val (.int (Int32.ofNat ([l0, l1, l2, l3, l4].getD j 0)))] []))
        refine own_st (fun _ k => XS.aloadN X9.here hx rfl (hb hby own_dmethod_4_code_45) rfl rfl k) ?_
        show own_Go p.tables e below RR (T9.setTop (mkF m 46 #[.val (.ref al), .val (.int (Int32.ofNat i)), .val (.int (Int32.ofNat j)), .val (.int (Int32.ofNat ([l0, l1, l2, l3, l4].getD i 0))), .val (.int (Int32.ofNat ([l0, l1, l2, l3, l4].getD j 0)))] [(.ref al)]))
        have jnh12 : ∀ (T12 : State) (lo12 : List Loc) (hh3 : Heap) (X12 : Stand p l e own_RST s m #[(.ref al), (.int (Int32.ofNat i)), (.int (Int32.ofNat j))] below meth c T12 lo12 0 0) (e12 : T12.heap = hh3) (N12 : Fr n0 lo12) (KK3 : Keep hh2 hh3 [al]) (VV3 : Arv Z hh3 al kl .int (5 : Int32) [(.int (Int32.ofNat (own_r ([l0, l1, l2, l3, l4].getD i 0) ([l0, l1, l2, l3, l4].getD j 0) l0))), (.int (Int32.ofNat (own_r ([l0, l1, l2, l3, l4].getD i 0) ([l0, l1, l2, l3, l4].getD j 0) l1))), (.int (Int32.ofNat (own_r ([l0, l1, l2, l3, l4].getD i 0) ([l0, l1, l2, l3, l4].getD j 0) l2))), (.int (Int32.ofNat (own_r ([l0, l1, l2, l3, l4].getD i 0) ([l0, l1, l2, l3, l4].getD j 0) l3))), (.int (Int32.ofNat l4))] (.int (0 : Int32))), own_Go p.tables e below RR (T12.setTop (mkF m 57 #[.val (.ref al), .val (.int (Int32.ofNat i)), .val (.int (Int32.ofNat j)), .val (.int (Int32.ofNat ([l0, l1, l2, l3, l4].getD i 0))), .val (.int (Int32.ofNat ([l0, l1, l2, l3, l4].getD j 0)))] [])) := by
          intro T12 lo12 hh3  X12 e12 N12 KK3 VV3
          have z13 : n0 ≤ hh3.size := Nat.le_trans z10 KK3.1
          have kk14 : Keep h0 hh3 [al] := kk11.trans KK3 (allS (Or.inl (List.mem_of_getElem? (i := 0) rfl)) all0)
          show own_Go p.tables e below RR (T12.setTop (mkF m 57 #[.val (.ref al), .val (.int (Int32.ofNat i)), .val (.int (Int32.ofNat j)), .val (.int (Int32.ofNat ([l0, l1, l2, l3, l4].getD i 0))), .val (.int (Int32.ofNat ([l0, l1, l2, l3, l4].getD j 0)))] []))
          refine own_st (fun _ k => XS.aloadN X12.here hx rfl (hb hby own_dmethod_4_code_57) rfl rfl k) ?_
          show own_Go p.tables e below RR (T12.setTop (mkF m 58 #[.val (.ref al), .val (.int (Int32.ofNat i)), .val (.int (Int32.ofNat j)), .val (.int (Int32.ofNat ([l0, l1, l2, l3, l4].getD i 0))), .val (.int (Int32.ofNat ([l0, l1, l2, l3, l4].getD j 0)))] [(.ref al)]))
          have jnh15 : ∀ (T15 : State) (lo15 : List Loc) (hh4 : Heap) (X15 : Stand p l e own_RST s m #[(.ref al), (.int (Int32.ofNat i)), (.int (Int32.ofNat j))] below meth c T15 lo15 0 0) (e15 : T15.heap = hh4) (N15 : Fr n0 lo15) (KK4 : Keep hh3 hh4 [al]) (VV4 : Arv Z hh4 al kl .int (5 : Int32) [(.int (Int32.ofNat (own_r ([l0, l1, l2, l3, l4].getD i 0) ([l0, l1, l2, l3, l4].getD j 0) l0))), (.int (Int32.ofNat (own_r ([l0, l1, l2, l3, l4].getD i 0) ([l0, l1, l2, l3, l4].getD j 0) l1))), (.int (Int32.ofNat (own_r ([l0, l1, l2, l3, l4].getD i 0) ([l0, l1, l2, l3, l4].getD j 0) l2))), (.int (Int32.ofNat (own_r ([l0, l1, l2, l3, l4].getD i 0) ([l0, l1, l2, l3, l4].getD j 0) l3))), (.int (Int32.ofNat (own_r ([l0, l1, l2, l3, l4].getD i 0) ([l0, l1, l2, l3, l4].getD j 0) l4)))] (.int (0 : Int32))), own_Go p.tables e below RR (T15.setTop (mkF m 69 #[.val (.ref al), .val (.int (Int32.ofNat i)), .val (.int (Int32.ofNat j)), .val (.int (Int32.ofNat ([l0, l1, l2, l3, l4].getD i 0))), .val (.int (Int32.ofNat ([l0, l1, l2, l3, l4].getD j 0)))] [])) := by
            intro T15 lo15 hh4  X15 e15 N15 KK4 VV4
            have z16 : n0 ≤ hh4.size := Nat.le_trans z13 KK4.1
            have kk17 : Keep h0 hh4 [al] := kk14.trans KK4 (allS (Or.inl (List.mem_of_getElem? (i := 0) rfl)) all0)
            show own_Go p.tables e below RR (T15.setTop (mkF m 69 #[.val (.ref al), .val (.int (Int32.ofNat i)), .val (.int (Int32.ofNat j)), .val (.int (Int32.ofNat ([l0, l1, l2, l3, l4].getD i 0))), .val (.int (Int32.ofNat ([l0, l1, l2, l3, l4].getD j 0)))] []))
            refine own_st (fun _ k => XS.iloadN X15.here hx rfl (hb hby own_dmethod_4_code_69) rfl (XS.iload X15.here hx rfl (hb hby own_dmethod_4_code_70) rfl k)) ?_
            show own_Go p.tables e below RR (T15.setTop (mkF m 72 #[.val (.ref al), .val (.int (Int32.ofNat i)), .val (.int (Int32.ofNat j)), .val (.int (Int32.ofNat ([l0, l1, l2, l3, l4].getD i 0))), .val (.int (Int32.ofNat ([l0, l1, l2, l3, l4].getD j 0)))] [(.int (Int32.ofNat ([l0, l1, l2, l3, l4].getD j 0))), (.int (Int32.ofNat ([l0, l1, l2, l3, l4].getD i 0)))]))
            by_cases hc72_18 : (Int32.ofNat ([l0, l1, l2, l3, l4].getD i 0)) = (Int32.ofNat ([l0, l1, l2, l3, l4].getD j 0))
            · refine own_st (fun _ k => XS.icmpYes X15.here hx rfl (pc0 := 72) (pc' := 79) rfl (hb hby own_dmethod_4_code_72) rfl (teq hc72_18).1 (by decide) (by decide) (XS.iconst X15.here hx rfl (hb hby own_dmethod_4_code_79) k)) ?_
              show own_Go p.tables e below RR (T15.setTop (mkF m 80 #[.val (.ref al), .val (.int (Int32.ofNat i)), .val (.int (Int32.ofNat j)), .val (.int (Int32.ofNat ([l0, l1, l2, l3, l4].getD i 0))), .val (.int (Int32.ofNat ([l0, l1, l2, l3, l4].getD j 0)))] [(.int (0 : Int32))]))
              obtain ⟨fs, hrt_, hrun, hended, hW, hsame⟩ := X15.leave (v := some (.int (0 : Int32))) (fun h => by rw [Bd.returns] at h; cases h)
              refine own_fin (retN X15 hx (t := .boolean) Bd.returns (by simp) (hb hby own_dmethod_4_code_80) hrt_) (hRR _ ⟨_, hrun, hended, _, _, rfl, ?_, ⟨_, rfl⟩, hW, hsame.mono (by decide) (by decide)⟩)
              show own_QST Z al kl i j l0 l1 l2 l3 l4 h0 n0 _ T15.heap _
              rw [e15]
              exact ⟨own_ri ((own_nqy (Nat.lt_of_lt_of_le ha (by decide)) (Nat.lt_of_lt_of_le hb_ (by decide)) hc72_18).symm), N15, kk17, VV4⟩
            · refine own_st (fun _ k => XS.icmpNo X15.here hx rfl (hb hby own_dmethod_4_code_72) rfl (feq hc72_18).1 (XS.iconst X15.here hx rfl (hb hby own_dmethod_4_code_75) (XS.goto X15.here hx rfl (pc0 := 76) (pc' := 80) rfl (hb hby own_dmethod_4_code_76) (by decide) (by decide) k))) ?_
              show own_Go p.tables e below RR (T15.setTop (mkF m 80 #[.val (.ref al), .val (.int (Int32.ofNat i)), .val (.int (Int32.ofNat j)), .val (.int (Int32.ofNat ([l0, l1, l2, l3, l4].getD i 0))), .val (.int (Int32.ofNat ([l0, l1, l2, l3, l4].getD j 0)))] [(.int (1 : Int32))]))
              obtain ⟨fs, hrt_, hrun, hended, hW, hsame⟩ := X15.leave (v := some (.int (1 : Int32))) (fun h => by rw [Bd.returns] at h; cases h)
              refine own_fin (retN X15 hx (t := .boolean) Bd.returns (by simp) (hb hby own_dmethod_4_code_80) hrt_) (hRR _ ⟨_, hrun, hended, _, _, rfl, ?_, ⟨_, rfl⟩, hW, hsame.mono (by decide) (by decide)⟩)
              show own_QST Z al kl i j l0 l1 l2 l3 l4 h0 n0 _ T15.heap _
              rw [e15]
              exact ⟨own_ri ((own_nqn hc72_18).symm), N15, kk17, VV4⟩
          show own_Go p.tables e below RR (T12.setTop (mkF m 58 #[.val (.ref al), .val (.int (Int32.ofNat i)), .val (.int (Int32.ofNat j)), .val (.int (Int32.ofNat ([l0, l1, l2, l3, l4].getD i 0))), .val (.int (Int32.ofNat ([l0, l1, l2, l3, l4].getD j 0)))] [(.ref al)]))
          refine own_st (fun _ k => XS.iconst X12.here hx rfl (hb hby own_dmethod_4_code_58) k) ?_
          show own_Go p.tables e below RR (T12.setTop (mkF m 59 #[.val (.ref al), .val (.int (Int32.ofNat i)), .val (.int (Int32.ofNat j)), .val (.int (Int32.ofNat ([l0, l1, l2, l3, l4].getD i 0))), .val (.int (Int32.ofNat ([l0, l1, l2, l3, l4].getD j 0)))] [(.int (4 : Int32)), (.ref al)]))
          obtain ⟨c19, A19, q19, s19, m19, H19, G19⟩ := id VV3
          have b19 := inb_of (j := (4 : Int32)) s19 ⟨by decide, by decide⟩
          refine own_st (fun _ k => X12.iaload hx (j := (4 : Int32)) (v := (.int (Int32.ofNat l4))) (by rw [e12]; exact A19.1) (State.isArrayOf_alike hZ.alike A19.2.1) A19.2.2 b19 (Has.at H19 b19 rfl) (g := (mkF m 59 #[.val (.ref al), .val (.int (Int32.ofNat i)), .val (.int (Int32.ofNat j)), .val (.int (Int32.ofNat ([l0, l1, l2, l3, l4].getD i 0))), .val (.int (Int32.ofNat ([l0, l1, l2, l3, l4].getD j 0)))] [(.int (4 : Int32)), (.ref al)])) rfl rfl (hb hby own_dmethod_4_code_59) _ (XS.iloadN X12.here hx rfl (hb hby own_dmethod_4_code_60) rfl k)) ?_
          show own_Go p.tables e below RR (T12.setTop (mkF m 61 #[.val (.ref al), .val (.int (Int32.ofNat i)), .val (.int (Int32.ofNat j)), .val (.int (Int32.ofNat ([l0, l1, l2, l3, l4].getD i 0))), .val (.int (Int32.ofNat ([l0, l1, l2, l3, l4].getD j 0)))] [(.int (Int32.ofNat ([l0, l1, l2, l3, l4].getD i 0))), (.int (Int32.ofNat l4))]))
          by_cases hc61_20 : (Int32.ofNat l4) = (Int32.ofNat ([l0, l1, l2, l3, l4].getD i 0))
          · refine own_st (fun _ k => XS.icmpNo X12.here hx rfl (hb hby own_dmethod_4_code_61) rfl (teq hc61_20).2 (XS.aloadN X12.here hx rfl (hb hby own_dmethod_4_code_64) rfl rfl (XS.iconst X12.here hx rfl (hb hby own_dmethod_4_code_65) (XS.iload X12.here hx rfl (hb hby own_dmethod_4_code_66) rfl k)))) ?_
            show own_Go p.tables e below RR (T12.setTop (mkF m 68 #[.val (.ref al), .val (.int (Int32.ofNat i)), .val (.int (Int32.ofNat j)), .val (.int (Int32.ofNat ([l0, l1, l2, l3, l4].getD i 0))), .val (.int (Int32.ofNat ([l0, l1, l2, l3, l4].getD j 0)))] [(.int (Int32.ofNat ([l0, l1, l2, l3, l4].getD j 0))), (.int (4 : Int32)), (.ref al)]))
            obtain ⟨c21, A21, q21, s21, m21, H21, G21⟩ := id VV3
            obtain ⟨T22, h22, X22, e22, W22, st22⟩ := stI X12 hx hZ e12 A21 (j := (4 : Int32)) (inb_of s21 ⟨by decide, by decide⟩) (g := (mkF m 68 #[.val (.ref al), .val (.int (Int32.ofNat i)), .val (.int (Int32.ofNat j)), .val (.int (Int32.ofNat ([l0, l1, l2, l3, l4].getD i 0))), .val (.int (Int32.ofNat ([l0, l1, l2, l3, l4].getD j 0)))] [(.int (Int32.ofNat ([l0, l1, l2, l3, l4].getD j 0))), (.int (4 : Int32)), (.ref al)])) rfl rfl (hb hby own_dmethod_4_code_68)
            have V22 := Arv.set A21 q21 s21 m21 H21 G21 rfl W22 4 rfl (Nat.le_of_ble_eq_true rfl)
            have V22 : Arv Z h22 al kl .int (5 : Int32) [(.int (Int32.ofNat (own_r ([l0, l1, l2, l3, l4].getD i 0) ([l0, l1, l2, l3, l4].getD j 0) l0))), (.int (Int32.ofNat (own_r ([l0, l1, l2, l3, l4].getD i 0) ([l0, l1, l2, l3, l4].getD j 0) l1))), (.int (Int32.ofNat (own_r ([l0, l1, l2, l3, l4].getD i 0) ([l0, l1, l2, l3, l4].getD j 0) l2))), (.int (Int32.ofNat (own_r ([l0, l1, l2, l3, l4].getD i 0) ([l0, l1, l2, l3, l4].getD j 0) l3))), (.int (Int32.ofNat ([l0, l1, l2, l3, l4].getD j 0)))] (.int (0 : Int32)) := V22
            have N22 := Fr.snoc X22 N12 g_l
            refine own_st st22 ?_
            have z23 : n0 ≤ h22.size := Nat.le_trans z13 (Keep.of_wr W22).1
            have kk24 : Keep h0 h22 [al] := kk14.wr W22 (Or.inl (List.mem_of_getElem? (i := 0) rfl))
            show own_Go p.tables e below RR (T22.setTop (mkF m 69 #[.val (.ref al), .val (.int (Int32.ofNat i)), .val (.int (Int32.ofNat j)), .val (.int (Int32.ofNat ([l0, l1, l2, l3, l4].getD i 0))), .val (.int (Int32.ofNat ([l0, l1, l2, l3, l4].getD j 0)))] []))
            exact jnh15 T22 _ h22  X22 e22 N22 ((Keep.refl _ _).wr W22 (Or.inl (List.mem_of_getElem? (i := 0) rfl))) (by rw [own_ry (b := ([l0, l1, l2, l3, l4].getD j 0)) (Nat.lt_of_lt_of_le hl4 (by decide)) (Nat.lt_of_lt_of_le ha (by decide)) hc61_20]; exact V22)
          · refine own_st (fun _ k => XS.icmpYes X12.here hx rfl (pc0 := 61) (pc' := 69) rfl (hb hby own_dmethod_4_code_61) rfl (feq hc61_20).2 (by decide) (by decide) k) ?_
            show own_Go p.tables e below RR (T12.setTop (mkF m 69 #[.val (.ref al), .val (.int (Int32.ofNat i)), .val (.int (Int32.ofNat j)), .val (.int (Int32.ofNat ([l0, l1, l2, l3, l4].getD i 0))), .val (.int (Int32.ofNat ([l0, l1, l2, l3, l4].getD j 0)))] []))
            exact jnh15 T12 _ hh3  X12 e12 N12 (Keep.refl _ _) (by rw [own_rn (b := ([l0, l1, l2, l3, l4].getD j 0)) hc61_20]; exact VV3)
        show own_Go p.tables e below RR (T9.setTop (mkF m 46 #[.val (.ref al), .val (.int (Int32.ofNat i)), .val (.int (Int32.ofNat j)), .val (.int (Int32.ofNat ([l0, l1, l2, l3, l4].getD i 0))), .val (.int (Int32.ofNat ([l0, l1, l2, l3, l4].getD j 0)))] [(.ref al)]))
        refine own_st (fun _ k => XS.iconst X9.here hx rfl (hb hby own_dmethod_4_code_46) k) ?_
        show own_Go p.tables e below RR (T9.setTop (mkF m 47 #[.val (.ref al), .val (.int (Int32.ofNat i)), .val (.int (Int32.ofNat j)), .val (.int (Int32.ofNat ([l0, l1, l2, l3, l4].getD i 0))), .val (.int (Int32.ofNat ([l0, l1, l2, l3, l4].getD j 0)))] [(.int (3 : Int32)), (.ref al)]))
        obtain ⟨c25, A25, q25, s25, m25, H25, G25⟩ := id VV2
        have b25 := inb_of (j := (3 : Int32)) s25 ⟨by decide, by decide⟩
        refine own_st (fun _ k => X9.iaload hx (j := (3 : Int32)) (v := (.int (Int32.ofNat l3))) (by rw [e9]; exact A25.1) (State.isArrayOf_alike hZ.alike A25.2.1) A25.2.2 b25 (Has.at H25 b25 rfl) (g := (mkF m 47 #[.val (.ref al), .val (.int (Int32.ofNat i)), .val (.int (Int32.ofNat j)), .val (.int (Int32.ofNat ([l0, l1, l2, l3, l4].getD i 0))), .val (.int (Int32.ofNat ([l0, l1, l2, l3, l4].getD j 0)))] [(.int (3 : Int32)), (.ref al)])) rfl rfl (hb hby own_dmethod_4_code_47) _ (XS.iloadN X9.here hx rfl (hb hby own_dmethod_4_code_48) rfl k)) ?_
        show own_Go p.tables e below RR (T9.setTop (mkF m 49 #[.val (.ref al), .val (.int (Int32.ofNat i)), .val (.int (Int32.ofNat j)), .val (.int (Int32.ofNat ([l0, l1, l2, l3, l4].getD i 0))), .val (.int (Int32.ofNat ([l0, l1, l2, l3, l4].getD j 0)))] [(.int (Int32.ofNat ([l0, l1, l2, l3, l4].getD i 0))), (.int (Int32.ofNat l3))]))
        by_cases hc49_26 : (Int32.ofNat l3) = (Int32.ofNat ([l0, l1, l2, l3, l4].getD i 0))
        · refine own_st (fun _ k => XS.icmpNo X9.here hx rfl (hb hby own_dmethod_4_code_49) rfl (teq hc49_26).2 (XS.aloadN X9.here hx rfl (hb hby own_dmethod_4_code_52) rfl rfl (XS.iconst X9.here hx rfl (hb hby own_dmethod_4_code_53) (XS.iload X9.here hx rfl (hb hby own_dmethod_4_code_54) rfl k)))) ?_
          show own_Go p.tables e below RR (T9.setTop (mkF m 56 #[.val (.ref al), .val (.int (Int32.ofNat i)), .val (.int (Int32.ofNat j)), .val (.int (Int32.ofNat ([l0, l1, l2, l3, l4].getD i 0))), .val (.int (Int32.ofNat ([l0, l1, l2, l3, l4].getD j 0)))] [(.int (Int32.ofNat ([l0, l1, l2, l3, l4].getD j 0))), (.int (3 : Int32)), (.ref al)]))
          obtain ⟨c27, A27, q27, s27, m27, H27, G27⟩ := id VV2
          obtain ⟨T28, h28, X28, e28, W28, st28⟩ := stI X9 hx hZ e9 A27 (j := (3 : Int32)) (inb_of s27 ⟨by decide, by decide⟩) (g := (mkF m 56 #[.val (.ref al), .val (.int (Int32.ofNat i)), .val (.int (Int32.ofNat j)), .val (.int (Int32.ofNat ([l0, l1, l2, l3, l4].getD i 0))), .val (.int (Int32.ofNat ([l0, l1, l2, l3, l4].getD j 0)))] [(.int (Int32.ofNat ([l0, l1, l2, l3, l4].getD j 0))), (.int (3 : Int32)), (.ref al)])) rfl rfl (hb hby own_dmethod_4_code_56)
          have V28 := Arv.set A27 q27 s27 m27 H27 G27 rfl W28 3 rfl (Nat.le_of_ble_eq_true rfl)
          have V28 : Arv Z h28 al kl .int (5 : Int32) [(.int (Int32.ofNat (own_r ([l0, l1, l2, l3, l4].getD i 0) ([l0, l1, l2, l3, l4].getD j 0) l0))), (.int (Int32.ofNat (own_r ([l0, l1, l2, l3, l4].getD i 0) ([l0, l1, l2, l3, l4].getD j 0) l1))), (.int (Int32.ofNat (own_r ([l0, l1, l2, l3, l4].getD i 0) ([l0, l1, l2, l3, l4].getD j 0) l2))), (.int (Int32.ofNat ([l0, l1, l2, l3, l4].getD j 0))), (.int (Int32.ofNat l4))] (.int (0 : Int32)) := V28
          have N28 := Fr.snoc X28 N9 g_l
          refine own_st st28 ?_
          have z29 : n0 ≤ h28.size := Nat.le_trans z10 (Keep.of_wr W28).1
          have kk30 : Keep h0 h28 [al] := kk11.wr W28 (Or.inl (List.mem_of_getElem? (i := 0) rfl))
          show own_Go p.tables e below RR (T28.setTop (mkF m 57 #[.val (.ref al), .val (.int (Int32.ofNat i)), .val (.int (Int32.ofNat j)), .val (.int (Int32.ofNat ([l0, l1, l2, l3, l4].getD i 0))), .val (.int (Int32.ofNat ([l0, l1, l2, l3, l4].getD j 0)))] []))
          exact jnh12 T28 _ h28  X28 e28 N28 ((Keep.refl _ _).wr W28 (Or.inl (List.mem_of_getElem? (i := 0) rfl))) (by rw [own_ry (b := ([l0, l1, l2, l3, l4].getD j 0)) (Nat.lt_of_lt_of_le hl3 (by decide)) (Nat.lt_of_lt_of_le ha (by decide)) hc49_26]; exact V28)
        · refine own_st (fun _ k => XS.icmpYes X9.here hx rfl (pc0 := 49) (pc' := 57) rfl (hb hby own_dmethod_4_code_49) rfl (feq hc49_26).2 (by decide) (by decide) k) ?_
          show own_Go p.tables e below RR (T9.setTop (mkF m 57 #[.val (.ref al), .val (.int (Int32.ofNat i)), .val (.int (Int32.ofNat j)), .val (.int (Int32.ofNat ([l0, l1, l2, l3, l4].getD i 0))), .val (.int (Int32.ofNat ([l0, l1, l2, l3, l4].getD j 0)))] []))
          exact jnh12 T9 _ hh2  X9 e9 N9 (Keep.refl _ _) (by rw [own_rn (b := ([l0, l1, l2, l3, l4].getD j 0)) hc49_26]; exact VV2)
      show own_Go p.tables e below RR (T6.setTop (mkF m 34 #[.val (.ref al), .val (.int (Int32.ofNat i)), .val (.int (Int32.ofNat j)), .val (.int (Int32.ofNat ([l0, l1, l2, l3, l4].getD i 0))), .val (.int (Int32.ofNat ([l0, l1, l2, l3, l4].getD j 0)))] [(.ref al)]))
      refine own_st (fun _ k => XS.iconst X6.here hx rfl (hb hby own_dmethod_4_code_34) k) ?_
      show own_Go p.tables e below RR (T6.setTop (mkF m 35 #[.val (.ref al), .val (.int (Int32.ofNat i)), .val (.int (Int32.ofNat j)), .val (.int (Int32.ofNat ([l0, l1, l2, l3, l4].getD i 0))), .val (.int (Int32.ofNat ([l0, l1, l2, l3, l4].getD j 0)))] [(.int (2 : Int32)), (.ref al)]))
      obtain ⟨c31, A31, q31, s31, m31, H31, G31⟩ := id VV1
      have b31 := inb_of (j := (2 : Int32)) s31 ⟨by decide, by decide⟩
      refine own_st (fun _ k => X6.iaload hx (j := (2 : Int32)) (v := (.int (Int32.ofNat l2))) (by rw [e6]; exact A31.1) (State.isArrayOf_alike hZ.alike A31.2.1) A31.2.2 b31 (Has.at H31 b31 rfl) (g := (mkF m 35 #[.val (.ref al), .val (.int (Int32.ofNat i)), .val (.int (Int32.ofNat j)), .val (.int (Int32.ofNat ([l0, l1, l2, l3, l4].getD i 0))), .val (.int (Int32.ofNat ([l0, l1, l2, l3, l4].getD j 0)))] [(.int (2 : Int32)), (.ref al)])) rfl rfl (hb hby own_dmethod_4_code_35) _ (XS.iloadN X6.here hx rfl (hb hby own_dmethod_4_code_36) rfl k)) ?_
      show own_Go p.tables e below RR (T6.setTop (mkF m 37 #[.val (.ref al), .val (.int (Int32.ofNat i)), .val (.int (Int32.ofNat j)), .val (.int (Int32.ofNat ([l0, l1, l2, l3, l4].getD i 0))), .val (.int (Int32.ofNat ([l0, l1, l2, l3, l4].getD j 0)))] [(.int (Int32.ofNat ([l0, l1, l2, l3, l4].getD i 0))), (.int (Int32.ofNat l2))]))
      by_cases hc37_32 : (Int32.ofNat l2) = (Int32.ofNat ([l0, l1, l2, l3, l4].getD i 0))
      · refine own_st (fun _ k => XS.icmpNo X6.here hx rfl (hb hby own_dmethod_4_code_37) rfl (teq hc37_32).2 (XS.aloadN X6.here hx rfl (hb hby own_dmethod_4_code_40) rfl rfl (XS.iconst X6.here hx rfl (hb hby own_dmethod_4_code_41) (XS.iload X6.here hx rfl (hb hby own_dmethod_4_code_42) rfl k)))) ?_
        show own_Go p.tables e below RR (T6.setTop (mkF m 44 #[.val (.ref al), .val (.int (Int32.ofNat i)), .val (.int (Int32.ofNat j)), .val (.int (Int32.ofNat ([l0, l1, l2, l3, l4].getD i 0))), .val (.int (Int32.ofNat ([l0, l1, l2, l3, l4].getD j 0)))] [(.int (Int32.ofNat ([l0, l1, l2, l3, l4].getD j 0))), (.int (2 : Int32)), (.ref al)]))
        obtain ⟨c33, A33, q33, s33, m33, H33, G33⟩ := id VV1
        obtain ⟨T34, h34, X34, e34, W34, st34⟩ := stI X6 hx hZ e6 A33 (j := (2 : Int32)) (inb_of s33 ⟨by decide, by decide⟩) (g := (mkF m 44 #[.val (.ref al), .val (.int (Int32.ofNat i)), .val (.int (Int32.ofNat j)), .val (.int (Int32.ofNat ([l0, l1, l2, l3, l4].getD i 0))), .val (.int (Int32.ofNat ([l0, l1, l2, l3, l4].getD j 0)))] [(.int (Int32.ofNat ([l0, l1, l2, l3, l4].getD j 0))), (.int (2 : Int32)), (.ref al)])) rfl rfl (hb hby own_dmethod_4_code_44)
        have V34 := Arv.set A33 q33 s33 m33 H33 G33 rfl W34 2 rfl (Nat.le_of_ble_eq_true rfl)
        have V34 : Arv Z h34 al kl .int (5 : Int32) [(.int (Int32.ofNat (own_r ([l0, l1, l2, l3, l4].getD i 0) ([l0, l1, l2, l3, l4].getD j 0) l0))), (.int (Int32.ofNat (own_r ([l0, l1, l2, l3, l4].getD i 0) ([l0, l1, l2, l3, l4].getD j 0) l1))), (.int (Int32.ofNat ([l0, l1, l2, l3, l4].getD j 0))), (.int (Int32.ofNat l3)), (.int (Int32.ofNat l4))] (.int (0 : Int32)) := V34
        have N34 := Fr.snoc X34 N6 g_l
        refine own_st st34 ?_
        have z35 : n0 ≤ h34.size := Nat.le_trans z7 (Keep.of_wr W34).1
        have kk36 : Keep h0 h34 [al] := kk8.wr W34 (Or.inl (List.mem_of_getElem? (i := 0) rfl))
        show own_Go p.tables e below RR (T34.setTop (mkF m 45 #[.val (.ref al), .val (.int (Int32.ofNat i)), .val (.int (Int32.ofNat j)), .val (.int (Int32.ofNat ([l0, l1, l2, l3, l4].getD i 0))), .val (.int (Int32.ofNat ([l0, l1, l2, l3, l4].getD j 0)))] []))
        exact jnh9 T34 _ h34  X34 e34 N34 ((Keep.refl _ _).wr W34 (Or.inl (List.mem_of_getElem? (i := 0) rfl))) (by rw [own_ry (b := ([l0, l1, l2, l3, l4].getD j 0)) (Nat.lt_of_lt_of_le hl2 (by decide)) (Nat.lt_of_lt_of_le ha (by decide)) hc37_32]; exact V34)
      · refine own_st (fun _ k => XS.icmpYes X6.here hx rfl (pc0 := 37) (pc' := 45) rfl (hb hby own_dmethod_4_code_37) rfl (feq hc37_32).2 (by decide) (by decide) k) ?_
        show own_Go p.tables e below RR (T6.setTop (mkF m 45 #[.val (.ref al), .val (.int (Int32.ofNat i)), .val (.int (Int32.ofNat j)), .val (.int (Int32.ofNat ([l0, l1, l2, l3, l4].getD i 0))), .val (.int (Int32.ofNat ([l0, l1, l2, l3, l4].getD j 0)))] []))
        exact jnh9 T6 _ hh1  X6 e6 N6 (Keep.refl _ _) (by rw [own_rn (b := ([l0, l1, l2, l3, l4].getD j 0)) hc37_32]; exact VV1)
    show own_Go p.tables e below RR (T3.setTop (mkF m 22 #[.val (.ref al), .val (.int (Int32.ofNat i)), .val (.int (Int32.ofNat j)), .val (.int (Int32.ofNat ([l0, l1, l2, l3, l4].getD i 0))), .val (.int (Int32.ofNat ([l0, l1, l2, l3, l4].getD j 0)))] [(.ref al)]))
    refine own_st (fun _ k => XS.iconst X3.here hx rfl (hb hby own_dmethod_4_code_22) k) ?_
    show own_Go p.tables e below RR (T3.setTop (mkF m 23 #[.val (.ref al), .val (.int (Int32.ofNat i)), .val (.int (Int32.ofNat j)), .val (.int (Int32.ofNat ([l0, l1, l2, l3, l4].getD i 0))), .val (.int (Int32.ofNat ([l0, l1, l2, l3, l4].getD j 0)))] [(.int (1 : Int32)), (.ref al)]))
    obtain ⟨c37, A37, q37, s37, m37, H37, G37⟩ := id VV0
    have b37 := inb_of (j := (1 : Int32)) s37 ⟨by decide, by decide⟩
    refine own_st (fun _ k => X3.iaload hx (j := (1 : Int32)) (v := (.int (Int32.ofNat l1))) (by rw [e3]; exact A37.1) (State.isArrayOf_alike hZ.alike A37.2.1) A37.2.2 b37 (Has.at H37 b37 rfl) (g := (mkF m 23 #[.val (.ref al), .val (.int (Int32.ofNat i)), .val (.int (Int32.ofNat j)), .val (.int (Int32.ofNat ([l0, l1, l2, l3, l4].getD i 0))), .val (.int (Int32.ofNat ([l0, l1, l2, l3, l4].getD j 0)))] [(.int (1 : Int32)), (.ref al)])) rfl rfl (hb hby own_dmethod_4_code_23) _ (XS.iloadN X3.here hx rfl (hb hby own_dmethod_4_code_24) rfl k)) ?_
    show own_Go p.tables e below RR (T3.setTop (mkF m 25 #[.val (.ref al), .val (.int (Int32.ofNat i)), .val (.int (Int32.ofNat j)), .val (.int (Int32.ofNat ([l0, l1, l2, l3, l4].getD i 0))), .val (.int (Int32.ofNat ([l0, l1, l2, l3, l4].getD j 0)))] [(.int (Int32.ofNat ([l0, l1, l2, l3, l4].getD i 0))), (.int (Int32.ofNat l1))]))
    by_cases hc25_38 : (Int32.ofNat l1) = (Int32.ofNat ([l0, l1, l2, l3, l4].getD i 0))
    · refine own_st (fun _ k => XS.icmpNo X3.here hx rfl (hb hby own_dmethod_4_code_25) rfl (teq hc25_38).2 (XS.aloadN X3.here hx rfl (hb hby own_dmethod_4_code_28) rfl rfl (XS.iconst X3.here hx rfl (hb hby own_dmethod_4_code_29) (XS.iload X3.here hx rfl (hb hby own_dmethod_4_code_30) rfl k)))) ?_
      show own_Go p.tables e below RR (T3.setTop (mkF m 32 #[.val (.ref al), .val (.int (Int32.ofNat i)), .val (.int (Int32.ofNat j)), .val (.int (Int32.ofNat ([l0, l1, l2, l3, l4].getD i 0))), .val (.int (Int32.ofNat ([l0, l1, l2, l3, l4].getD j 0)))] [(.int (Int32.ofNat ([l0, l1, l2, l3, l4].getD j 0))), (.int (1 : Int32)), (.ref al)]))
      obtain ⟨c39, A39, q39, s39, m39, H39, G39⟩ := id VV0
      obtain ⟨T40, h40, X40, e40, W40, st40⟩ := stI X3 hx hZ e3 A39 (j := (1 : Int32)) (inb_of s39 ⟨by decide, by decide⟩) (g := (mkF m 32 #[.val (.ref al), .val (.int (Int32.ofNat i)), .val (.int (Int32.ofNat j)), .val (.int (Int32.ofNat ([l0, l1, l2, l3, l4].getD i 0))), .val (.int (Int32.ofNat ([l0, l1, l2, l3, l4].getD j 0)))] [(.int (Int32.ofNat ([l0, l1, l2, l3, l4].getD j 0))), (.int (1 : Int32)), (.ref al)])) rfl rfl (hb hby own_dmethod_4_code_32)
      have V40 := Arv.set A39 q39 s39 m39 H39 G39 rfl W40 1 rfl (Nat.le_of_ble_eq_true rfl)
      have V40 : Arv Z h40 al kl .int (5 : Int32) [(.int (Int32.ofNat (own_r ([l0, l1, l2, l3, l4].getD i 0) ([l0, l1, l2, l3, l4].getD j 0) l0))), (.int (Int32.ofNat ([l0, l1, l2, l3, l4].getD j 0))), (.int (Int32.ofNat l2)), (.int (Int32.ofNat l3)), (.int (Int32.ofNat l4))] (.int (0 : Int32)) := V40
      have N40 := Fr.snoc X40 N3 g_l
      refine own_st st40 ?_
      have z41 : n0 ≤ h40.size := Nat.le_trans z4 (Keep.of_wr W40).1
      have kk42 : Keep h0 h40 [al] := kk5.wr W40 (Or.inl (List.mem_of_getElem? (i := 0) rfl))
      show own_Go p.tables e below RR (T40.setTop (mkF m 33 #[.val (.ref al), .val (.int (Int32.ofNat i)), .val (.int (Int32.ofNat j)), .val (.int (Int32.ofNat ([l0, l1, l2, l3, l4].getD i 0))), .val (.int (Int32.ofNat ([l0, l1, l2, l3, l4].getD j 0)))] []))
      exact jnh6 T40 _ h40  X40 e40 N40 ((Keep.refl _ _).wr W40 (Or.inl (List.mem_of_getElem? (i := 0) rfl))) (by rw [own_ry (b := ([l0, l1, l2, l3, l4].getD j 0)) (Nat.lt_of_lt_of_le hl1 (by decide)) (Nat.lt_of_lt_of_le ha (by decide)) hc25_38]; exact V40)
    · refine own_st (fun _ k => XS.icmpYes X3.here hx rfl (pc0 := 25) (pc' := 33) rfl (hb hby own_dmethod_4_code_25) rfl (feq hc25_38).2 (by decide) (by decide) k) ?_
      show own_Go p.tables e below RR (T3.setTop (mkF m 33 #[.val (.ref al), .val (.int (Int32.ofNat i)), .val (.int (Int32.ofNat j)), .val (.int (Int32.ofNat ([l0, l1, l2, l3, l4].getD i 0))), .val (.int (Int32.ofNat ([l0, l1, l2, l3, l4].getD j 0)))] []))
      exact jnh6 T3 _ hh0  X3 e3 N3 (Keep.refl _ _) (by rw [own_rn (b := ([l0, l1, l2, l3, l4].getD j 0)) hc25_38]; exact VV0)
  show own_Go p.tables e below RR (s₁.setTop (mkF m 10 #[.val (.ref al), .val (.int (Int32.ofNat i)), .val (.int (Int32.ofNat j)), .val (.int (Int32.ofNat ([l0, l1, l2, l3, l4].getD i 0))), .val (.int (Int32.ofNat ([l0, l1, l2, l3, l4].getD j 0)))] [(.ref al)]))
  refine own_st (fun _ k => XS.iconst X0.here hx rfl (hb hby own_dmethod_4_code_10) k) ?_
  show own_Go p.tables e below RR (s₁.setTop (mkF m 11 #[.val (.ref al), .val (.int (Int32.ofNat i)), .val (.int (Int32.ofNat j)), .val (.int (Int32.ofNat ([l0, l1, l2, l3, l4].getD i 0))), .val (.int (Int32.ofNat ([l0, l1, l2, l3, l4].getD j 0)))] [(.int (0 : Int32)), (.ref al)]))
  obtain ⟨c43, A43, q43, s43, m43, H43, G43⟩ := id Al
  have b43 := inb_of (j := (0 : Int32)) s43 ⟨by decide, by decide⟩
  refine own_st (fun _ k => X0.iaload hx (j := (0 : Int32)) (v := (.int (Int32.ofNat l0))) (by rw [e0]; exact A43.1) (State.isArrayOf_alike hZ.alike A43.2.1) A43.2.2 b43 (Has.at H43 b43 rfl) (g := (mkF m 11 #[.val (.ref al), .val (.int (Int32.ofNat i)), .val (.int (Int32.ofNat j)), .val (.int (Int32.ofNat ([l0, l1, l2, l3, l4].getD i 0))), .val (.int (Int32.ofNat ([l0, l1, l2, l3, l4].getD j 0)))] [(.int (0 : Int32)), (.ref al)])) rfl rfl (hb hby own_dmethod_4_code_11) _ (XS.iloadN X0.here hx rfl (hb hby own_dmethod_4_code_12) rfl k)) ?_
  show own_Go p.tables e below RR (s₁.setTop (mkF m 13 #[.val (.ref al), .val (.int (Int32.ofNat i)), .val (.int (Int32.ofNat j)), .val (.int (Int32.ofNat ([l0, l1, l2, l3, l4].getD i 0))), .val (.int (Int32.ofNat ([l0, l1, l2, l3, l4].getD j 0)))] [(.int (Int32.ofNat ([l0, l1, l2, l3, l4].getD i 0))), (.int (Int32.ofNat l0))]))
  by_cases hc13_44 : (Int32.ofNat l0) = (Int32.ofNat ([l0, l1, l2, l3, l4].getD i 0))
  · refine own_st (fun _ k => XS.icmpNo X0.here hx rfl (hb hby own_dmethod_4_code_13) rfl (teq hc13_44).2 (XS.aloadN X0.here hx rfl (hb hby own_dmethod_4_code_16) rfl rfl (XS.iconst X0.here hx rfl (hb hby own_dmethod_4_code_17) (XS.iload X0.here hx rfl (hb hby own_dmethod_4_code_18) rfl k)))) ?_
    show own_Go p.tables e below RR (s₁.setTop (mkF m 20 #[.val (.ref al), .val (.int (Int32.ofNat i)), .val (.int (Int32.ofNat j)), .val (.int (Int32.ofNat ([l0, l1, l2, l3, l4].getD i 0))), .val (.int (Int32.ofNat ([l0, l1, l2, l3, l4].getD j 0)))] [(.int (Int32.ofNat ([l0, l1, l2, l3, l4].getD j 0))), (.int (0 : Int32)), (.ref al)]))
    obtain ⟨c45, A45, q45, s45, m45, H45, G45⟩ := id Al
    obtain ⟨T46, h46, X46, e46, W46, st46⟩ := stI X0 hx hZ e0 A45 (j := (0 : Int32)) (inb_of s45 ⟨by decide, by decide⟩) (g := (mkF m 20 #[.val (.ref al), .val (.int (Int32.ofNat i)), .val (.int (Int32.ofNat j)), .val (.int (Int32.ofNat ([l0, l1, l2, l3, l4].getD i 0))), .val (.int (Int32.ofNat ([l0, l1, l2, l3, l4].getD j 0)))] [(.int (Int32.ofNat ([l0, l1, l2, l3, l4].getD j 0))), (.int (0 : Int32)), (.ref al)])) rfl rfl (hb hby own_dmethod_4_code_20)
    have V46 := Arv.set A45 q45 s45 m45 H45 G45 rfl W46 0 rfl (Nat.le_of_ble_eq_true rfl)
    have V46 : Arv Z h46 al kl .int (5 : Int32) [(.int (Int32.ofNat ([l0, l1, l2, l3, l4].getD j 0))), (.int (Int32.ofNat l1)), (.int (Int32.ofNat l2)), (.int (Int32.ofNat l3)), (.int (Int32.ofNat l4))] (.int (0 : Int32)) := V46
    have N46 := Fr.snoc X46 N0 g_l
    refine own_st st46 ?_
    have z47 : n0 ≤ h46.size := Nat.le_trans Z0 (Keep.of_wr W46).1
    have kk48 : Keep h0 h46 [al] := (Keep.refl h0 [al]).wr W46 (Or.inl (List.mem_of_getElem? (i := 0) rfl))
    show own_Go p.tables e below RR (T46.setTop (mkF m 21 #[.val (.ref al), .val (.int (Int32.ofNat i)), .val (.int (Int32.ofNat j)), .val (.int (Int32.ofNat ([l0, l1, l2, l3, l4].getD i 0))), .val (.int (Int32.ofNat ([l0, l1, l2, l3, l4].getD j 0)))] []))
    exact jnh3 T46 _ h46  X46 e46 N46 ((Keep.refl _ _).wr W46 (Or.inl (List.mem_of_getElem? (i := 0) rfl))) (by rw [own_ry (b := ([l0, l1, l2, l3, l4].getD j 0)) (Nat.lt_of_lt_of_le hl0 (by decide)) (Nat.lt_of_lt_of_le ha (by decide)) hc13_44]; exact V46)
  · refine own_st (fun _ k => XS.icmpYes X0.here hx rfl (pc0 := 13) (pc' := 21) rfl (hb hby own_dmethod_4_code_13) rfl (feq hc13_44).2 (by decide) (by decide) k) ?_
    show own_Go p.tables e below RR (s₁.setTop (mkF m 21 #[.val (.ref al), .val (.int (Int32.ofNat i)), .val (.int (Int32.ofNat j)), .val (.int (Int32.ofNat ([l0, l1, l2, l3, l4].getD i 0))), .val (.int (Int32.ofNat ([l0, l1, l2, l3, l4].getD j 0)))] []))
    exact jnh3 s₁ _ h0  X0 e0 N0 (Keep.refl _ _) (by rw [own_rn (b := ([l0, l1, l2, l3, l4].getD j 0)) hc13_44]; exact Al)
theorem own_pd__I_V : parseMethodDescriptor "(I)V" = some ⟨[.int], none⟩ := by decide +kernel
theorem own_pd__II_Z : parseMethodDescriptor "(II)Z" = some ⟨[.int, .int], some .boolean⟩ := by decide +kernel
theorem own_pd___III_Z : parseMethodDescriptor "([III)Z" = some ⟨[(.array .int), .int, .int], some .boolean⟩ := by decide +kernel
theorem own_ef0 (m : MethodId) (p1 : Int32) (p2 : Int32) (p3 : Int32) (p4 : Int32) (p5 : Int32) : entryFrame m #[(.int p1), (.int p2), (.int p3), (.int p4), (.int p5)] maxLocals = mkF m 0 #[.val (.int p1), .val (.int p2), .val (.int p3), .val (.int p4), .val (.int p5), .unset, .unset, .unset, .unset, .unset, .unset, .unset, .unset, .unset, .unset, .unset, .unset, .unset, .unset, .unset, .unset, .unset, .unset, .unset, .unset, .unset, .unset, .unset, .unset, .unset] [] := by first | (simp [entryFrame, mkF, argsToLocals, Value.category, maxLocals]; done) | rfl
def own_Q0 (Z : State) (p1 : Int32) (p2 : Int32) (p3 : Int32) (p4 : Int32) (p5 : Int32) (cK : ClassId) (fa : Addr) (h0 : Heap) (n0 : Nat) (rv__ : Option Value) (h : Heap) (rL__ : List Loc) : Prop := rv__ = some (.int 1) ∧ Fr n0 rL__
set_option maxRecDepth 65536 in
set_option maxHeartbeats 40000000 in
theorem own_rm0 (l : Launch) (Z : State) (a0 : Array Value) (hw : ∀ d ∈ tables_1, d.before a0 Z = true) (ws : List Jvm.Cond) (p1 : Int32) (p2 : Int32) (p3 : Int32) (p4 : Int32) (p5 : Int32) (cK : ClassId) (fa : Addr) (h0 : Heap) (n0 : Nat) (Z0 : n0 ≤ h0.size)  :
    MetFree l x (head1 (Jvm.Cond.code x code maxLocals ret :: ws) room_1) (fun aa__ U => aa__ = #[(.int p1), (.int p2), (.int p3), (.int p4), (.int p5)] ∧ Z.Warmed39 U.vm ∧ U.heap = h0 ∧ U.lambdaAt? (⟨"com/example/saar/saar/sim/Parts", "<init>", "(I)V"⟩ : MethodName) 15 13 own_sig = some (cK, some fa)) (fun _ _ _ _ _ => True) (fun _ U oc_ U' => ∃ rv__ rL__, oc_ = .returned rv__ ∧ own_Q0 Z p1 p2 p3 p4 p5 cK fa h0 n0 rv__ U'.heap rL__ ∧ FrameEnd U oc_ U' rL__ room_1.cells room_1.slots) := by
  refine MetFree.of_bodySF (plainFor_of_name own_pn_com_example_saar_saar_sim_PartsJoinPinLaw) hisR ?_
  intro p e s m args below meth c s₁ Bd hml0 hP hK
  obtain ⟨rfl, hZ, hh, hLam⟩ := hP
  have hx := Bd.exec
  have hby := Bd.bytes
  have hml : c.maxLocals = 30 := hml0
  have hown : s.vm.findClass "com/example/saar/saar/sim/PartsJoinPinLaw" = some m.cls := findClass_of_methodNamed Bd.named
  have hnm := (name_of_methodNamed Bd.named Bd.method).1
  have X0 : Stand p l e room_1 s m #[(.int p1), (.int p2), (.int p3), (.int p4), (.int p5)] below meth c s₁ [] 0 0 := Stand.of_body Bd
  have e0 : s₁.heap = h0 := by rw [← hh, Bd.state]; rfl
  have N0 := Fr.nil n0
  refine own_in (fun _ k => castTop (own_ef0 m p1 p2 p3 p4 p5) k) ?_
  intro RR hRR
  show own_Go p.tables e below RR (s₁.setTop (mkF m 0 #[.val (.int p1), .val (.int p2), .val (.int p3), .val (.int p4), .val (.int p5), .unset, .unset, .unset, .unset, .unset, .unset, .unset, .unset, .unset, .unset, .unset, .unset, .unset, .unset, .unset, .unset, .unset, .unset, .unset, .unset, .unset, .unset, .unset, .unset, .unset] []))
  obtain ⟨T1, h1, X1, e1, E1, A1, D1, -, st1⟩ := newO X0 hx hZ hown (hw _ (List.mem_of_getElem? (i := 0) rfl)) (hw _ (List.mem_of_getElem? (i := 1) rfl)) (hw _ (List.mem_of_getElem? (i := 2) rfl)) e0 (g := (mkF m 0 #[.val (.int p1), .val (.int p2), .val (.int p3), .val (.int p4), .val (.int p5), .unset, .unset, .unset, .unset, .unset, .unset, .unset, .unset, .unset, .unset, .unset, .unset, .unset, .unset, .unset, .unset, .unset, .unset, .unset, .unset, .unset, .unset, .unset, .unset, .unset] [])) rfl (hb hby at_0) (by decide) (by decide)
  obtain ⟨b1, gb1⟩ : ∃ z, z = h0.size := ⟨_, rfl⟩
  rw [← gb1] at A1 D1 st1
  have ge1 : n0 ≤ b1 := Nat.le_trans Z0 (Nat.le_of_eq gb1.symm)
  refine own_st st1 ?_
  have z2 : n0 ≤ h1.size := Nat.le_trans Z0 E1.1
  have F1_11 : Fld Z h1 b1 "com/example/saar/saar/sim/Parts" "known" "[I" .null := D1 (Or.inr (hw _ (List.mem_of_getElem? (i := 11) rfl))) (ty := (.array .int)) (by decide)
  show own_Go p.tables e below RR (T1.setTop (mkF m 3 #[.val (.int p1), .val (.int p2), .val (.int p3), .val (.int p4), .val (.int p5), .unset, .unset, .unset, .unset, .unset, .unset, .unset, .unset, .unset, .unset, .unset, .unset, .unset, .unset, .unset, .unset, .unset, .unset, .unset, .unset, .unset, .unset, .unset, .unset, .unset] [(.ref b1)]))
  refine own_st (fun _ k => XS.dup X1.here hx rfl (hb hby at_3) rfl rfl (XS.iconst X1.here hx rfl (hb hby at_4) k)) ?_
  show own_Go p.tables e below RR (T1.setTop (mkF m 5 #[.val (.int p1), .val (.int p2), .val (.int p3), .val (.int p4), .val (.int p5), .unset, .unset, .unset, .unset, .unset, .unset, .unset, .unset, .unset, .unset, .unset, .unset, .unset, .unset, .unset, .unset, .unset, .unset, .unset, .unset, .unset, .unset, .unset, .unset, .unset] [(.int (5 : Int32)), (.ref b1), (.ref b1)]))
  obtain ⟨b3, gb3⟩ : ∃ z, z = h1.size := ⟨_, rfl⟩
  have ge3 : n0 ≤ b3 := Nat.le_trans z2 (Nat.le_of_eq gb3.symm)
  obtain ⟨_, _, ⟨T4, L4, k4, n4⟩, -, X4, ⟨Lc4, hQ4, l4, y4, z4⟩, st4⟩ := X1.specialBack hx (y := (⟨"com/example/saar/saar/sim/Parts", "<init>", "(I)V"⟩ : MethodName)) rfl hown (mvT hZ (hw _ (List.mem_of_getElem? (i := 3) rfl))) (mvT hZ (hw _ (List.mem_of_getElem? (i := 4) rfl))) (mvT hZ (hw _ (List.mem_of_getElem? (i := 5) rfl))) (by decide) (own_backL (W := 1) (own_rmIN l Z a0 hw [] b1 cK fa b3 h1 n0 z2 ge1 gb3 A1 F1_11) hLam hZ (hw _ (List.mem_of_getElem? (i := 5) rfl)) (hw _ (List.mem_of_getElem? (i := 2) rfl)) (by decide) (by decide)) (g := (mkF m 5 #[.val (.int p1), .val (.int p2), .val (.int p3), .val (.int p4), .val (.int p5), .unset, .unset, .unset, .unset, .unset, .unset, .unset, .unset, .unset, .unset, .unset, .unset, .unset, .unset, .unset, .unset, .unset, .unset, .unset, .unset, .unset, .unset, .unset, .unset, .unset] [(.int (5 : Int32)), (.ref b1), (.ref b1)])) rfl (by rw [hml]; rfl) (Steps.refl _) (a := b1) (argsL := [(.int (5 : Int32))]) (rest := [(.ref b1)]) (lenOf own_pd__I_V rfl) rfl (by show 2 * 0 + _ ≤ _; exact Nat.le_of_eq rfl) (hb hby at_5) (fun _ _ => ⟨rfl, e1, (by decide : 1 + 1 ≤ _), (by decide : 1 + 5 ≤ _)⟩)
  dsimp only [Pt.U, Pt.locs, Pt.cells, Pt.slots] at X4 l4 y4 z4 st4 hQ4
  rw [l4, y4, z4] at X4
  obtain ⟨rfl, Nq4, Kq4, Eq4, Fq4, kq4, Vq4⟩ := hQ4
  have N4 := Fr.app N0 Nq4
  refine own_st (fun _ k => st4.trans k) ?_
  have z5 : n0 ≤ T4.heap.size := Nat.le_trans z2 Kq4.1
  have nn4 : b1 ≠ b3 := Nat.ne_of_lt (Nat.lt_of_lt_of_le (A1).lt (Nat.le_of_eq gb3.symm))
  show own_Go p.tables e below RR (T4.setTop (mkF m 8 #[.val (.int p1), .val (.int p2), .val (.int p3), .val (.int p4), .val (.int p5), .unset, .unset, .unset, .unset, .unset, .unset, .unset, .unset, .unset, .unset, .unset, .unset, .unset, .unset, .unset, .unset, .unset, .unset, .unset, .unset, .unset, .unset, .unset, .unset, .unset] [(.ref b1)]))
  refine own_st (fun _ k => XS.astore X4.here hx rfl (hb hby at_8) rfl rfl (l' := #[.val (.int p1), .val (.int p2), .val (.int p3), .val (.int p4), .val (.int p5), .val (.ref b1), .unset, .unset, .unset, .unset, .unset, .unset, .unset, .unset, .unset, .unset, .unset, .unset, .unset, .unset, .unset, .unset, .unset, .unset, .unset, .unset, .unset, .unset, .unset, .unset]) rfl (XS.iconst X4.here hx rfl (hb hby at_10) k)) ?_
  show own_Go p.tables e below RR (T4.setTop (mkF m 11 #[.val (.int p1), .val (.int p2), .val (.int p3), .val (.int p4), .val (.int p5), .val (.ref b1), .unset, .unset, .unset, .unset, .unset, .unset, .unset, .unset, .unset, .unset, .unset, .unset, .unset, .unset, .unset, .unset, .unset, .unset, .unset, .unset, .unset, .unset, .unset, .unset] [(.int (5 : Int32))]))
  obtain ⟨T6, h6, k6, X6, e6, E6, A6, st6⟩ := newP X4 hx hZ (hw _ (List.mem_of_getElem? (i := 9) rfl)) rfl (g := (mkF m 11 #[.val (.int p1), .val (.int p2), .val (.int p3), .val (.int p4), .val (.int p5), .val (.ref b1), .unset, .unset, .unset, .unset, .unset, .unset, .unset, .unset, .unset, .unset, .unset, .unset, .unset, .unset, .unset, .unset, .unset, .unset, .unset, .unset, .unset, .unset, .unset, .unset] [(.int (5 : Int32))])) rfl (hb hby at_11) rfl (by decide) (cap := 5) (by decide) (by decide) (by decide) (by decide)
  obtain ⟨b6, gb6⟩ : ∃ z, z = T4.heap.size := ⟨_, rfl⟩
  rw [← gb6] at A6 st6
  have ge6 : n0 ≤ b6 := Nat.le_trans z5 (Nat.le_of_eq gb6.symm)
  refine own_st st6 ?_
  have z7 : n0 ≤ h6.size := Nat.le_trans z5 E6.1
  have V6 : Arv Z h6 b6 k6 .int (5 : Int32) [(.int (0 : Int32)), (.int (0 : Int32)), (.int (0 : Int32)), (.int (0 : Int32)), (.int (0 : Int32))] (.int (0 : Int32)) := (Arv.new A6 (by decide)).pad (pad_rep [] (.int (0 : Int32)) 5)
  show own_Go p.tables e below RR (T6.setTop (mkF m 13 #[.val (.int p1), .val (.int p2), .val (.int p3), .val (.int p4), .val (.int p5), .val (.ref b1), .unset, .unset, .unset, .unset, .unset, .unset, .unset, .unset, .unset, .unset, .unset, .unset, .unset, .unset, .unset, .unset, .unset, .unset, .unset, .unset, .unset, .unset, .unset, .unset] [(.ref b6)]))
  refine own_st (fun _ k => XS.dup X6.here hx rfl (hb hby at_13) rfl rfl (XS.iconst X6.here hx rfl (hb hby at_14) (XS.iconst X6.here hx rfl (hb hby at_15) k))) ?_
  show own_Go p.tables e below RR (T6.setTop (mkF m 16 #[.val (.int p1), .val (.int p2), .val (.int p3), .val (.int p4), .val (.int p5), .val (.ref b1), .unset, .unset, .unset, .unset, .unset, .unset, .unset, .unset, .unset, .unset, .unset, .unset, .unset, .unset, .unset, .unset, .unset, .unset, .unset, .unset, .unset, .unset, .unset, .unset] [(.int (0 : Int32)), (.int (0 : Int32)), (.ref b6), (.ref b6)]))
  obtain ⟨c8, A8, q8, s8, m8, H8, G8⟩ := id V6
  obtain ⟨T9, h9, X9, e9, W9, st9⟩ := stI X6 hx hZ e6 A8 (j := (0 : Int32)) (inb_of s8 ⟨by decide, by decide⟩) (g := (mkF m 16 #[.val (.int p1), .val (.int p2), .val (.int p3), .val (.int p4), .val (.int p5), .val (.ref b1), .unset, .unset, .unset, .unset, .unset, .unset, .unset, .unset, .unset, .unset, .unset, .unset, .unset, .unset, .unset, .unset, .unset, .unset, .unset, .unset, .unset, .unset, .unset, .unset] [(.int (0 : Int32)), (.int (0 : Int32)), (.ref b6), (.ref b6)])) rfl rfl (hb hby at_16)
  have V9 := Arv.set A8 q8 s8 m8 H8 G8 rfl W9 0 rfl (Nat.le_of_ble_eq_true rfl)
  have V9 : Arv Z h9 b6 k6 .int (5 : Int32) [(.int (0 : Int32)), (.int (0 : Int32)), (.int (0 : Int32)), (.int (0 : Int32)), (.int (0 : Int32))] (.int (0 : Int32)) := V9
  have N9 := Fr.snoc X9 N4 ge6
  refine own_st st9 ?_
  have z10 : n0 ≤ h9.size := Nat.le_trans z7 (Keep.of_wr W9).1
  show own_Go p.tables e below RR (T9.setTop (mkF m 17 #[.val (.int p1), .val (.int p2), .val (.int p3), .val (.int p4), .val (.int p5), .val (.ref b1), .unset, .unset, .unset, .unset, .unset, .unset, .unset, .unset, .unset, .unset, .unset, .unset, .unset, .unset, .unset, .unset, .unset, .unset, .unset, .unset, .unset, .unset, .unset, .unset] [(.ref b6)]))
  refine own_st (fun _ k => XS.dup X9.here hx rfl (hb hby at_17) rfl rfl (XS.iconst X9.here hx rfl (hb hby at_18) (XS.iconst X9.here hx rfl (hb hby at_19) k))) ?_
  show own_Go p.tables e below RR (T9.setTop (mkF m 20 #[.val (.int p1), .val (.int p2), .val (.int p3), .val (.int p4), .val (.int p5), .val (.ref b1), .unset, .unset, .unset, .unset, .unset, .unset, .unset, .unset, .unset, .unset, .unset, .unset, .unset, .unset, .unset, .unset, .unset, .unset, .unset, .unset, .unset, .unset, .unset, .unset] [(.int (1 : Int32)), (.int (1 : Int32)), (.ref b6), (.ref b6)]))
  obtain ⟨c11, A11, q11, s11, m11, H11, G11⟩ := id V9
  obtain ⟨T12, h12, X12, e12, W12, st12⟩ := stI X9 hx hZ e9 A11 (j := (1 : Int32)) (inb_of s11 ⟨by decide, by decide⟩) (g := (mkF m 20 #[.val (.int p1), .val (.int p2), .val (.int p3), .val (.int p4), .val (.int p5), .val (.ref b1), .unset, .unset, .unset, .unset, .unset, .unset, .unset, .unset, .unset, .unset, .unset, .unset, .unset, .unset, .unset, .unset, .unset, .unset, .unset, .unset, .unset, .unset, .unset, .unset] [(.int (1 : Int32)), (.int (1 : Int32)), (.ref b6), (.ref b6)])) rfl rfl (hb hby at_20)
  have V12 := Arv.set A11 q11 s11 m11 H11 G11 rfl W12 1 rfl (Nat.le_of_ble_eq_true rfl)
  have V12 : Arv Z h12 b6 k6 .int (5 : Int32) [(.int (0 : Int32)), (.int (1 : Int32)), (.int (0 : Int32)), (.int (0 : Int32)), (.int (0 : Int32))] (.int (0 : Int32)) := V12
  have N12 := Fr.snoc X12 N9 ge6
  refine own_st st12 ?_
  have z13 : n0 ≤ h12.size := Nat.le_trans z10 (Keep.of_wr W12).1
  show own_Go p.tables e below RR (T12.setTop (mkF m 21 #[.val (.int p1), .val (.int p2), .val (.int p3), .val (.int p4), .val (.int p5), .val (.ref b1), .unset, .unset, .unset, .unset, .unset, .unset, .unset, .unset, .unset, .unset, .unset, .unset, .unset, .unset, .unset, .unset, .unset, .unset, .unset, .unset, .unset, .unset, .unset, .unset] [(.ref b6)]))
  refine own_st (fun _ k => XS.dup X12.here hx rfl (hb hby at_21) rfl rfl (XS.iconst X12.here hx rfl (hb hby at_22) (XS.iconst X12.here hx rfl (hb hby at_23) k))) ?_
  show own_Go p.tables e below RR (T12.setTop (mkF m 24 #[.val (.int p1), .val (.int p2), .val (.int p3), .val (.int p4), .val (.int p5), .val (.ref b1), .unset, .unset, .unset, .unset, .unset, .unset, .unset, .unset, .unset, .unset, .unset, .unset, .unset, .unset, .unset, .unset, .unset, .unset, .unset, .unset, .unset, .unset, .unset, .unset] [(.int (2 : Int32)), (.int (2 : Int32)), (.ref b6), (.ref b6)]))
  obtain ⟨c14, A14, q14, s14, m14, H14, G14⟩ := id V12
  obtain ⟨T15, h15, X15, e15, W15, st15⟩ := stI X12 hx hZ e12 A14 (j := (2 : Int32)) (inb_of s14 ⟨by decide, by decide⟩) (g := (mkF m 24 #[.val (.int p1), .val (.int p2), .val (.int p3), .val (.int p4), .val (.int p5), .val (.ref b1), .unset, .unset, .unset, .unset, .unset, .unset, .unset, .unset, .unset, .unset, .unset, .unset, .unset, .unset, .unset, .unset, .unset, .unset, .unset, .unset, .unset, .unset, .unset, .unset] [(.int (2 : Int32)), (.int (2 : Int32)), (.ref b6), (.ref b6)])) rfl rfl (hb hby at_24)
  have V15 := Arv.set A14 q14 s14 m14 H14 G14 rfl W15 2 rfl (Nat.le_of_ble_eq_true rfl)
  have V15 : Arv Z h15 b6 k6 .int (5 : Int32) [(.int (0 : Int32)), (.int (1 : Int32)), (.int (2 : Int32)), (.int (0 : Int32)), (.int (0 : Int32))] (.int (0 : Int32)) := V15
  have N15 := Fr.snoc X15 N12 ge6
  refine own_st st15 ?_
  have z16 : n0 ≤ h15.size := Nat.le_trans z13 (Keep.of_wr W15).1
  show own_Go p.tables e below RR (T15.setTop (mkF m 25 #[.val (.int p1), .val (.int p2), .val (.int p3), .val (.int p4), .val (.int p5), .val (.ref b1), .unset, .unset, .unset, .unset, .unset, .unset, .unset, .unset, .unset, .unset, .unset, .unset, .unset, .unset, .unset, .unset, .unset, .unset, .unset, .unset, .unset, .unset, .unset, .unset] [(.ref b6)]))
  refine own_st (fun _ k => XS.dup X15.here hx rfl (hb hby at_25) rfl rfl (XS.iconst X15.here hx rfl (hb hby at_26) (XS.iconst X15.here hx rfl (hb hby at_27) k))) ?_
  show own_Go p.tables e below RR (T15.setTop (mkF m 28 #[.val (.int p1), .val (.int p2), .val (.int p3), .val (.int p4), .val (.int p5), .val (.ref b1), .unset, .unset, .unset, .unset, .unset, .unset, .unset, .unset, .unset, .unset, .unset, .unset, .unset, .unset, .unset, .unset, .unset, .unset, .unset, .unset, .unset, .unset, .unset, .unset] [(.int (3 : Int32)), (.int (3 : Int32)), (.ref b6), (.ref b6)]))
  obtain ⟨c17, A17, q17, s17, m17, H17, G17⟩ := id V15
  obtain ⟨T18, h18, X18, e18, W18, st18⟩ := stI X15 hx hZ e15 A17 (j := (3 : Int32)) (inb_of s17 ⟨by decide, by decide⟩) (g := (mkF m 28 #[.val (.int p1), .val (.int p2), .val (.int p3), .val (.int p4), .val (.int p5), .val (.ref b1), .unset, .unset, .unset, .unset, .unset, .unset, .unset, .unset, .unset, .unset, .unset, .unset, .unset, .unset, .unset, .unset, .unset, .unset, .unset, .unset, .unset, .unset, .unset, .unset] [(.int (3 : Int32)), (.int (3 : Int32)), (.ref b6), (.ref b6)])) rfl rfl (hb hby at_28)
  have V18 := Arv.set A17 q17 s17 m17 H17 G17 rfl W18 3 rfl (Nat.le_of_ble_eq_true rfl)
  have V18 : Arv Z h18 b6 k6 .int (5 : Int32) [(.int (0 : Int32)), (.int (1 : Int32)), (.int (2 : Int32)), (.int (3 : Int32)), (.int (0 : Int32))] (.int (0 : Int32)) := V18
  have N18 := Fr.snoc X18 N15 ge6
  refine own_st st18 ?_
  have z19 : n0 ≤ h18.size := Nat.le_trans z16 (Keep.of_wr W18).1
  show own_Go p.tables e below RR (T18.setTop (mkF m 29 #[.val (.int p1), .val (.int p2), .val (.int p3), .val (.int p4), .val (.int p5), .val (.ref b1), .unset, .unset, .unset, .unset, .unset, .unset, .unset, .unset, .unset, .unset, .unset, .unset, .unset, .unset, .unset, .unset, .unset, .unset, .unset, .unset, .unset, .unset, .unset, .unset] [(.ref b6)]))
  refine own_st (fun _ k => XS.dup X18.here hx rfl (hb hby at_29) rfl rfl (XS.iconst X18.here hx rfl (hb hby at_30) (XS.iconst X18.here hx rfl (hb hby at_31) k))) ?_
  show own_Go p.tables e below RR (T18.setTop (mkF m 32 #[.val (.int p1), .val (.int p2), .val (.int p3), .val (.int p4), .val (.int p5), .val (.ref b1), .unset, .unset, .unset, .unset, .unset, .unset, .unset, .unset, .unset, .unset, .unset, .unset, .unset, .unset, .unset, .unset, .unset, .unset, .unset, .unset, .unset, .unset, .unset, .unset] [(.int (4 : Int32)), (.int (4 : Int32)), (.ref b6), (.ref b6)]))
  obtain ⟨c20, A20, q20, s20, m20, H20, G20⟩ := id V18
  obtain ⟨T21, h21, X21, e21, W21, st21⟩ := stI X18 hx hZ e18 A20 (j := (4 : Int32)) (inb_of s20 ⟨by decide, by decide⟩) (g := (mkF m 32 #[.val (.int p1), .val (.int p2), .val (.int p3), .val (.int p4), .val (.int p5), .val (.ref b1), .unset, .unset, .unset, .unset, .unset, .unset, .unset, .unset, .unset, .unset, .unset, .unset, .unset, .unset, .unset, .unset, .unset, .unset, .unset, .unset, .unset, .unset, .unset, .unset] [(.int (4 : Int32)), (.int (4 : Int32)), (.ref b6), (.ref b6)])) rfl rfl (hb hby at_32)
  have V21 := Arv.set A20 q20 s20 m20 H20 G20 rfl W21 4 rfl (Nat.le_of_ble_eq_true rfl)
  have V21 : Arv Z h21 b6 k6 .int (5 : Int32) [(.int (0 : Int32)), (.int (1 : Int32)), (.int (2 : Int32)), (.int (3 : Int32)), (.int (4 : Int32))] (.int (0 : Int32)) := V21
  have N21 := Fr.snoc X21 N18 ge6
  refine own_st st21 ?_
  have z22 : n0 ≤ h21.size := Nat.le_trans z19 (Keep.of_wr W21).1
  show own_Go p.tables e below RR (T21.setTop (mkF m 33 #[.val (.int p1), .val (.int p2), .val (.int p3), .val (.int p4), .val (.int p5), .val (.ref b1), .unset, .unset, .unset, .unset, .unset, .unset, .unset, .unset, .unset, .unset, .unset, .unset, .unset, .unset, .unset, .unset, .unset, .unset, .unset, .unset, .unset, .unset, .unset, .unset] [(.ref b6)]))
  refine own_st (fun _ k => XS.astore X21.here hx rfl (hb hby at_33) rfl rfl (l' := #[.val (.int p1), .val (.int p2), .val (.int p3), .val (.int p4), .val (.int p5), .val (.ref b1), .val (.ref b6), .unset, .unset, .unset, .unset, .unset, .unset, .unset, .unset, .unset, .unset, .unset, .unset, .unset, .unset, .unset, .unset, .unset, .unset, .unset, .unset, .unset, .unset, .unset]) rfl (XS.iconst X21.here hx rfl (hb hby at_35) (XS.istore X21.here hx rfl (hb hby at_36) rfl (l' := #[.val (.int p1), .val (.int p2), .val (.int p3), .val (.int p4), .val (.int p5), .val (.ref b1), .val (.ref b6), .val (.int (1 : Int32)), .unset, .unset, .unset, .unset, .unset, .unset, .unset, .unset, .unset, .unset, .unset, .unset, .unset, .unset, .unset, .unset, .unset, .unset, .unset, .unset, .unset, .unset]) rfl (XS.iloadN X21.here hx rfl (hb hby at_38) rfl k)))) ?_
  show own_Go p.tables e below RR (T21.setTop (mkF m 39 #[.val (.int p1), .val (.int p2), .val (.int p3), .val (.int p4), .val (.int p5), .val (.ref b1), .val (.ref b6), .val (.int (1 : Int32)), .unset, .unset, .unset, .unset, .unset, .unset, .unset, .unset, .unset, .unset, .unset, .unset, .unset, .unset, .unset, .unset, .unset, .unset, .unset, .unset, .unset, .unset] [(.int p1)]))
  obtain ⟨x23, hx23, ex23⟩ := own_m5 (p1)
  obtain ⟨_, _, ⟨T24, L24, k24, n24⟩, -, X24, ⟨Lc24, hQ24, l24, y24, z24⟩, st24⟩ := Jvm.LawKit.callS X21 hx (y := (⟨"com/example/saar/saar/sim/PartsJoinPinLaw", "lo", "(I)I"⟩ : MethodName)) hown (mvT hZ (hw _ (List.mem_of_getElem? (i := 28) rfl))) (mvT hZ (hw _ (List.mem_of_getElem? (i := 29) rfl))) (mvT hZ (hw _ (List.mem_of_getElem? (i := 30) rfl))) (mvT hZ (hw _ (List.mem_of_getElem? (i := 31) rfl))) (by decide) (backOf (W := 0) (own_rmLO l Z a0 hw [] p1 x23 h21 n0 z22 ex23) hZ (hw _ (List.mem_of_getElem? (i := 31) rfl)) (hw _ (List.mem_of_getElem? (i := 30) rfl)) (by decide) (by decide)) (g := (mkF m 39 #[.val (.int p1), .val (.int p2), .val (.int p3), .val (.int p4), .val (.int p5), .val (.ref b1), .val (.ref b6), .val (.int (1 : Int32)), .unset, .unset, .unset, .unset, .unset, .unset, .unset, .unset, .unset, .unset, .unset, .unset, .unset, .unset, .unset, .unset, .unset, .unset, .unset, .unset, .unset, .unset] [(.int p1)])) rfl (by rw [hml]; rfl) (argsL := [(.int p1)]) (rest := []) (lenOf own_pd__I_I rfl) rfl (by show 2 * 0 + _ ≤ _; exact Nat.le_of_eq rfl) (hb hby at_39) (fun _ _ => ⟨rfl, e21, (by decide : 3 + 0 ≤ _), (by decide : 11 + 0 ≤ _)⟩)
  dsimp only [Pt.U, Pt.locs, Pt.cells, Pt.slots] at X24 l24 y24 z24 st24 hQ24
  rw [l24, y24, z24] at X24
  obtain ⟨rfl, Nq24, eq24⟩ := hQ24
  have N24 := Fr.app N21 Nq24
  refine own_st st24 ?_
  show own_Go p.tables e below RR (T24.setTop (mkF m 42 #[.val (.int p1), .val (.int p2), .val (.int p3), .val (.int p4), .val (.int p5), .val (.ref b1), .val (.ref b6), .val (.int (1 : Int32)), .unset, .unset, .unset, .unset, .unset, .unset, .unset, .unset, .unset, .unset, .unset, .unset, .unset, .unset, .unset, .unset, .unset, .unset, .unset, .unset, .unset, .unset] [(.int (Int32.ofNat x23))]))
  refine own_st (fun _ k => XS.istore X24.here hx rfl (hb hby at_42) rfl (l' := #[.val (.int p1), .val (.int p2), .val (.int p3), .val (.int p4), .val (.int p5), .val (.ref b1), .val (.ref b6), .val (.int (1 : Int32)), .val (.int (Int32.ofNat x23)), .unset, .unset, .unset, .unset, .unset, .unset, .unset, .unset, .unset, .unset, .unset, .unset, .unset, .unset, .unset, .unset, .unset, .unset, .unset, .unset, .unset]) rfl (XS.iloadN X24.here hx rfl (hb hby at_44) rfl k)) ?_
  show own_Go p.tables e below RR (T24.setTop (mkF m 45 #[.val (.int p1), .val (.int p2), .val (.int p3), .val (.int p4), .val (.int p5), .val (.ref b1), .val (.ref b6), .val (.int (1 : Int32)), .val (.int (Int32.ofNat x23)), .unset, .unset, .unset, .unset, .unset, .unset, .unset, .unset, .unset, .unset, .unset, .unset, .unset, .unset, .unset, .unset, .unset, .unset, .unset, .unset, .unset] [(.int p1)]))
  obtain ⟨x25, hx25, ex25⟩ := own_m5 (((p1.toUInt32 >>> ((8 : Int32) &&& 31).toUInt32).toInt32))
  obtain ⟨_, _, ⟨T26, L26, k26, n26⟩, -, X26, ⟨Lc26, hQ26, l26, y26, z26⟩, st26⟩ := Jvm.LawKit.callS X24 hx (y := (⟨"com/example/saar/saar/sim/PartsJoinPinLaw", "hi", "(I)I"⟩ : MethodName)) hown (mvT hZ (hw _ (List.mem_of_getElem? (i := 32) rfl))) (mvT hZ (hw _ (List.mem_of_getElem? (i := 33) rfl))) (mvT hZ (hw _ (List.mem_of_getElem? (i := 30) rfl))) (mvT hZ (hw _ (List.mem_of_getElem? (i := 34) rfl))) (by decide) (backOf (W := 0) (own_rmHI l Z a0 hw [] p1 x25 h21 n0 z22 ex25) hZ (hw _ (List.mem_of_getElem? (i := 34) rfl)) (hw _ (List.mem_of_getElem? (i := 30) rfl)) (by decide) (by decide)) (g := (mkF m 45 #[.val (.int p1), .val (.int p2), .val (.int p3), .val (.int p4), .val (.int p5), .val (.ref b1), .val (.ref b6), .val (.int (1 : Int32)), .val (.int (Int32.ofNat x23)), .unset, .unset, .unset, .unset, .unset, .unset, .unset, .unset, .unset, .unset, .unset, .unset, .unset, .unset, .unset, .unset, .unset, .unset, .unset, .unset, .unset] [(.int p1)])) rfl (by rw [hml]; rfl) (argsL := [(.int p1)]) (rest := []) (lenOf own_pd__I_I rfl) rfl (by show 2 * 0 + _ ≤ _; exact Nat.le_of_eq rfl) (hb hby at_45) (fun _ _ => ⟨rfl, eq24, (by decide : 3 + 0 ≤ _), (by decide : 11 + 0 ≤ _)⟩)
  dsimp only [Pt.U, Pt.locs, Pt.cells, Pt.slots] at X26 l26 y26 z26 st26 hQ26
  rw [l26, y26, z26] at X26
  obtain ⟨rfl, Nq26, eq26⟩ := hQ26
  have N26 := Fr.app N24 Nq26
  refine own_st st26 ?_
  show own_Go p.tables e below RR (T26.setTop (mkF m 48 #[.val (.int p1), .val (.int p2), .val (.int p3), .val (.int p4), .val (.int p5), .val (.ref b1), .val (.ref b6), .val (.int (1 : Int32)), .val (.int (Int32.ofNat x23)), .unset, .unset, .unset, .unset, .unset, .unset, .unset, .unset, .unset, .unset, .unset, .unset, .unset, .unset, .unset, .unset, .unset, .unset, .unset, .unset, .unset] [(.int (Int32.ofNat x25))]))
  refine own_st (fun _ k => XS.istore X26.here hx rfl (hb hby at_48) rfl (l' := #[.val (.int p1), .val (.int p2), .val (.int p3), .val (.int p4), .val (.int p5), .val (.ref b1), .val (.ref b6), .val (.int (1 : Int32)), .val (.int (Int32.ofNat x23)), .val (.int (Int32.ofNat x25)), .unset, .unset, .unset, .unset, .unset, .unset, .unset, .unset, .unset, .unset, .unset, .unset, .unset, .unset, .unset, .unset, .unset, .unset, .unset, .unset]) rfl (XS.iloadN X26.here hx rfl (hb hby at_50) rfl k)) ?_
  show own_Go p.tables e below RR (T26.setTop (mkF m 51 #[.val (.int p1), .val (.int p2), .val (.int p3), .val (.int p4), .val (.int p5), .val (.ref b1), .val (.ref b6), .val (.int (1 : Int32)), .val (.int (Int32.ofNat x23)), .val (.int (Int32.ofNat x25)), .unset, .unset, .unset, .unset, .unset, .unset, .unset, .unset, .unset, .unset, .unset, .unset, .unset, .unset, .unset, .unset, .unset, .unset, .unset, .unset] [(.int p2)]))
  obtain ⟨x27, hx27, ex27⟩ := own_m5 (p2)
  obtain ⟨_, _, ⟨T28, L28, k28, n28⟩, -, X28, ⟨Lc28, hQ28, l28, y28, z28⟩, st28⟩ := Jvm.LawKit.callS X26 hx (y := (⟨"com/example/saar/saar/sim/PartsJoinPinLaw", "lo", "(I)I"⟩ : MethodName)) hown (mvT hZ (hw _ (List.mem_of_getElem? (i := 28) rfl))) (mvT hZ (hw _ (List.mem_of_getElem? (i := 29) rfl))) (mvT hZ (hw _ (List.mem_of_getElem? (i := 30) rfl))) (mvT hZ (hw _ (List.mem_of_getElem? (i := 31) rfl))) (by decide) (backOf (W := 0) (own_rmLO l Z a0 hw [] p2 x27 h21 n0 z22 ex27) hZ (hw _ (List.mem_of_getElem? (i := 31) rfl)) (hw _ (List.mem_of_getElem? (i := 30) rfl)) (by decide) (by decide)) (g := (mkF m 51 #[.val (.int p1), .val (.int p2), .val (.int p3), .val (.int p4), .val (.int p5), .val (.ref b1), .val (.ref b6), .val (.int (1 : Int32)), .val (.int (Int32.ofNat x23)), .val (.int (Int32.ofNat x25)), .unset, .unset, .unset, .unset, .unset, .unset, .unset, .unset, .unset, .unset, .unset, .unset, .unset, .unset, .unset, .unset, .unset, .unset, .unset, .unset] [(.int p2)])) rfl (by rw [hml]; rfl) (argsL := [(.int p2)]) (rest := []) (lenOf own_pd__I_I rfl) rfl (by show 2 * 0 + _ ≤ _; exact Nat.le_of_eq rfl) (hb hby at_51) (fun _ _ => ⟨rfl, eq26, (by decide : 3 + 0 ≤ _), (by decide : 11 + 0 ≤ _)⟩)
  dsimp only [Pt.U, Pt.locs, Pt.cells, Pt.slots] at X28 l28 y28 z28 st28 hQ28
  rw [l28, y28, z28] at X28
  obtain ⟨rfl, Nq28, eq28⟩ := hQ28
  have N28 := Fr.app N26 Nq28
  refine own_st st28 ?_
  show own_Go p.tables e below RR (T28.setTop (mkF m 54 #[.val (.int p1), .val (.int p2), .val (.int p3), .val (.int p4), .val (.int p5), .val (.ref b1), .val (.ref b6), .val (.int (1 : Int32)), .val (.int (Int32.ofNat x23)), .val (.int (Int32.ofNat x25)), .unset, .unset, .unset, .unset, .unset, .unset, .unset, .unset, .unset, .unset, .unset, .unset, .unset, .unset, .unset, .unset, .unset, .unset, .unset, .unset] [(.int (Int32.ofNat x27))]))
  refine own_st (fun _ k => XS.istore X28.here hx rfl (hb hby at_54) rfl (l' := #[.val (.int p1), .val (.int p2), .val (.int p3), .val (.int p4), .val (.int p5), .val (.ref b1), .val (.ref b6), .val (.int (1 : Int32)), .val (.int (Int32.ofNat x23)), .val (.int (Int32.ofNat x25)), .val (.int (Int32.ofNat x27)), .unset, .unset, .unset, .unset, .unset, .unset, .unset, .unset, .unset, .unset, .unset, .unset, .unset, .unset, .unset, .unset, .unset, .unset, .unset]) rfl (XS.iloadN X28.here hx rfl (hb hby at_56) rfl k)) ?_
  show own_Go p.tables e below RR (T28.setTop (mkF m 57 #[.val (.int p1), .val (.int p2), .val (.int p3), .val (.int p4), .val (.int p5), .val (.ref b1), .val (.ref b6), .val (.int (1 : Int32)), .val (.int (Int32.ofNat x23)), .val (.int (Int32.ofNat x25)), .val (.int (Int32.ofNat x27)), .unset, .unset, .unset, .unset, .unset, .unset, .unset, .unset, .unset, .unset, .unset, .unset, .unset, .unset, .unset, .unset, .unset, .unset, .unset] [(.int p2)]))
  obtain ⟨x29, hx29, ex29⟩ := own_m5 (((p2.toUInt32 >>> ((8 : Int32) &&& 31).toUInt32).toInt32))
  obtain ⟨_, _, ⟨T30, L30, k30, n30⟩, -, X30, ⟨Lc30, hQ30, l30, y30, z30⟩, st30⟩ := Jvm.LawKit.callS X28 hx (y := (⟨"com/example/saar/saar/sim/PartsJoinPinLaw", "hi", "(I)I"⟩ : MethodName)) hown (mvT hZ (hw _ (List.mem_of_getElem? (i := 32) rfl))) (mvT hZ (hw _ (List.mem_of_getElem? (i := 33) rfl))) (mvT hZ (hw _ (List.mem_of_getElem? (i := 30) rfl))) (mvT hZ (hw _ (List.mem_of_getElem? (i := 34) rfl))) (by decide) (backOf (W := 0) (own_rmHI l Z a0 hw [] p2 x29 h21 n0 z22 ex29) hZ (hw _ (List.mem_of_getElem? (i := 34) rfl)) (hw _ (List.mem_of_getElem? (i := 30) rfl)) (by decide) (by decide)) (g := (mkF m 57 #[.val (.int p1), .val (.int p2), .val (.int p3), .val (.int p4), .val (.int p5), .val (.ref b1), .val (.ref b6), .val (.int (1 : Int32)), .val (.int (Int32.ofNat x23)), .val (.int (Int32.ofNat x25)), .val (.int (Int32.ofNat x27)), .unset, .unset, .unset, .unset, .unset, .unset, .unset, .unset, .unset, .unset, .unset, .unset, .unset, .unset, .unset, .unset, .unset, .unset, .unset] [(.int p2)])) rfl (by rw [hml]; rfl) (argsL := [(.int p2)]) (rest := []) (lenOf own_pd__I_I rfl) rfl (by show 2 * 0 + _ ≤ _; exact Nat.le_of_eq rfl) (hb hby at_57) (fun _ _ => ⟨rfl, eq28, (by decide : 3 + 0 ≤ _), (by decide : 11 + 0 ≤ _)⟩)
  dsimp only [Pt.U, Pt.locs, Pt.cells, Pt.slots] at X30 l30 y30 z30 st30 hQ30
  rw [l30, y30, z30] at X30
  obtain ⟨rfl, Nq30, eq30⟩ := hQ30
  have N30 := Fr.app N28 Nq30
  refine own_st st30 ?_
  show own_Go p.tables e below RR (T30.setTop (mkF m 60 #[.val (.int p1), .val (.int p2), .val (.int p3), .val (.int p4), .val (.int p5), .val (.ref b1), .val (.ref b6), .val (.int (1 : Int32)), .val (.int (Int32.ofNat x23)), .val (.int (Int32.ofNat x25)), .val (.int (Int32.ofNat x27)), .unset, .unset, .unset, .unset, .unset, .unset, .unset, .unset, .unset, .unset, .unset, .unset, .unset, .unset, .unset, .unset, .unset, .unset, .unset] [(.int (Int32.ofNat x29))]))
  refine own_st (fun _ k => XS.istore X30.here hx rfl (hb hby at_60) rfl (l' := #[.val (.int p1), .val (.int p2), .val (.int p3), .val (.int p4), .val (.int p5), .val (.ref b1), .val (.ref b6), .val (.int (1 : Int32)), .val (.int (Int32.ofNat x23)), .val (.int (Int32.ofNat x25)), .val (.int (Int32.ofNat x27)), .val (.int (Int32.ofNat x29)), .unset, .unset, .unset, .unset, .unset, .unset, .unset, .unset, .unset, .unset, .unset, .unset, .unset, .unset, .unset, .unset, .unset, .unset]) rfl (XS.iloadN X30.here hx rfl (hb hby at_62) rfl k)) ?_
  show own_Go p.tables e below RR (T30.setTop (mkF m 63 #[.val (.int p1), .val (.int p2), .val (.int p3), .val (.int p4), .val (.int p5), .val (.ref b1), .val (.ref b6), .val (.int (1 : Int32)), .val (.int (Int32.ofNat x23)), .val (.int (Int32.ofNat x25)), .val (.int (Int32.ofNat x27)), .val (.int (Int32.ofNat x29)), .unset, .unset, .unset, .unset, .unset, .unset, .unset, .unset, .unset, .unset, .unset, .unset, .unset, .unset, .unset, .unset, .unset, .unset] [(.int p3)]))
  obtain ⟨x31, hx31, ex31⟩ := own_m5 (p3)
  obtain ⟨_, _, ⟨T32, L32, k32, n32⟩, -, X32, ⟨Lc32, hQ32, l32, y32, z32⟩, st32⟩ := Jvm.LawKit.callS X30 hx (y := (⟨"com/example/saar/saar/sim/PartsJoinPinLaw", "lo", "(I)I"⟩ : MethodName)) hown (mvT hZ (hw _ (List.mem_of_getElem? (i := 28) rfl))) (mvT hZ (hw _ (List.mem_of_getElem? (i := 29) rfl))) (mvT hZ (hw _ (List.mem_of_getElem? (i := 30) rfl))) (mvT hZ (hw _ (List.mem_of_getElem? (i := 31) rfl))) (by decide) (backOf (W := 0) (own_rmLO l Z a0 hw [] p3 x31 h21 n0 z22 ex31) hZ (hw _ (List.mem_of_getElem? (i := 31) rfl)) (hw _ (List.mem_of_getElem? (i := 30) rfl)) (by decide) (by decide)) (g := (mkF m 63 #[.val (.int p1), .val (.int p2), .val (.int p3), .val (.int p4), .val (.int p5), .val (.ref b1), .val (.ref b6), .val (.int (1 : Int32)), .val (.int (Int32.ofNat x23)), .val (.int (Int32.ofNat x25)), .val (.int (Int32.ofNat x27)), .val (.int (Int32.ofNat x29)), .unset, .unset, .unset, .unset, .unset, .unset, .unset, .unset, .unset, .unset, .unset, .unset, .unset, .unset, .unset, .unset, .unset, .unset] [(.int p3)])) rfl (by rw [hml]; rfl) (argsL := [(.int p3)]) (rest := []) (lenOf own_pd__I_I rfl) rfl (by show 2 * 0 + _ ≤ _; exact Nat.le_of_eq rfl) (hb hby at_63) (fun _ _ => ⟨rfl, eq30, (by decide : 3 + 0 ≤ _), (by decide : 11 + 0 ≤ _)⟩)
  dsimp only [Pt.U, Pt.locs, Pt.cells, Pt.slots] at X32 l32 y32 z32 st32 hQ32
  rw [l32, y32, z32] at X32
  obtain ⟨rfl, Nq32, eq32⟩ := hQ32
  have N32 := Fr.app N30 Nq32
  refine own_st st32 ?_
  show own_Go p.tables e below RR (T32.setTop (mkF m 66 #[.val (.int p1), .val (.int p2), .val (.int p3), .val (.int p4), .val (.int p5), .val (.ref b1), .val (.ref b6), .val (.int (1 : Int32)), .val (.int (Int32.ofNat x23)), .val (.int (Int32.ofNat x25)), .val (.int (Int32.ofNat x27)), .val (.int (Int32.ofNat x29)), .unset, .unset, .unset, .unset, .unset, .unset, .unset, .unset, .unset, .unset, .unset, .unset, .unset, .unset, .unset, .unset, .unset, .unset] [(.int (Int32.ofNat x31))]))
  refine own_st (fun _ k => XS.istore X32.here hx rfl (hb hby at_66) rfl (l' := #[.val (.int p1), .val (.int p2), .val (.int p3), .val (.int p4), .val (.int p5), .val (.ref b1), .val (.ref b6), .val (.int (1 : Int32)), .val (.int (Int32.ofNat x23)), .val (.int (Int32.ofNat x25)), .val (.int (Int32.ofNat x27)), .val (.int (Int32.ofNat x29)), .val (.int (Int32.ofNat x31)), .unset, .unset, .unset, .unset, .unset, .unset, .unset, .unset, .unset, .unset, .unset, .unset, .unset, .unset, .unset, .unset, .unset]) rfl (XS.iloadN X32.here hx rfl (hb hby at_68) rfl k)) ?_
  show own_Go p.tables e below RR (T32.setTop (mkF m 69 #[.val (.int p1), .val (.int p2), .val (.int p3), .val (.int p4), .val (.int p5), .val (.ref b1), .val (.ref b6), .val (.int (1 : Int32)), .val (.int (Int32.ofNat x23)), .val (.int (Int32.ofNat x25)), .val (.int (Int32.ofNat x27)), .val (.int (Int32.ofNat x29)), .val (.int (Int32.ofNat x31)), .unset, .unset, .unset, .unset, .unset, .unset, .unset, .unset, .unset, .unset, .unset, .unset, .unset, .unset, .unset, .unset, .unset] [(.int p3)]))
  obtain ⟨x33, hx33, ex33⟩ := own_m5 (((p3.toUInt32 >>> ((8 : Int32) &&& 31).toUInt32).toInt32))
  obtain ⟨_, _, ⟨T34, L34, k34, n34⟩, -, X34, ⟨Lc34, hQ34, l34, y34, z34⟩, st34⟩ := Jvm.LawKit.callS X32 hx (y := (⟨"com/example/saar/saar/sim/PartsJoinPinLaw", "hi", "(I)I"⟩ : MethodName)) hown (mvT hZ (hw _ (List.mem_of_getElem? (i := 32) rfl))) (mvT hZ (hw _ (List.mem_of_getElem? (i := 33) rfl))) (mvT hZ (hw _ (List.mem_of_getElem? (i := 30) rfl))) (mvT hZ (hw _ (List.mem_of_getElem? (i := 34) rfl))) (by decide) (backOf (W := 0) (own_rmHI l Z a0 hw [] p3 x33 h21 n0 z22 ex33) hZ (hw _ (List.mem_of_getElem? (i := 34) rfl)) (hw _ (List.mem_of_getElem? (i := 30) rfl)) (by decide) (by decide)) (g := (mkF m 69 #[.val (.int p1), .val (.int p2), .val (.int p3), .val (.int p4), .val (.int p5), .val (.ref b1), .val (.ref b6), .val (.int (1 : Int32)), .val (.int (Int32.ofNat x23)), .val (.int (Int32.ofNat x25)), .val (.int (Int32.ofNat x27)), .val (.int (Int32.ofNat x29)), .val (.int (Int32.ofNat x31)), .unset, .unset, .unset, .unset, .unset, .unset, .unset, .unset, .unset, .unset, .unset, .unset, .unset, .unset, .unset, .unset, .unset] [(.int p3)])) rfl (by rw [hml]; rfl) (argsL := [(.int p3)]) (rest := []) (lenOf own_pd__I_I rfl) rfl (by show 2 * 0 + _ ≤ _; exact Nat.le_of_eq rfl) (hb hby at_69) (fun _ _ => ⟨rfl, eq32, (by decide : 3 + 0 ≤ _), (by decide : 11 + 0 ≤ _)⟩)
  dsimp only [Pt.U, Pt.locs, Pt.cells, Pt.slots] at X34 l34 y34 z34 st34 hQ34
  rw [l34, y34, z34] at X34
  obtain ⟨rfl, Nq34, eq34⟩ := hQ34
  have N34 := Fr.app N32 Nq34
  refine own_st st34 ?_
  show own_Go p.tables e below RR (T34.setTop (mkF m 72 #[.val (.int p1), .val (.int p2), .val (.int p3), .val (.int p4), .val (.int p5), .val (.ref b1), .val (.ref b6), .val (.int (1 : Int32)), .val (.int (Int32.ofNat x23)), .val (.int (Int32.ofNat x25)), .val (.int (Int32.ofNat x27)), .val (.int (Int32.ofNat x29)), .val (.int (Int32.ofNat x31)), .unset, .unset, .unset, .unset, .unset, .unset, .unset, .unset, .unset, .unset, .unset, .unset, .unset, .unset, .unset, .unset, .unset] [(.int (Int32.ofNat x33))]))
  refine own_st (fun _ k => XS.istore X34.here hx rfl (hb hby at_72) rfl (l' := #[.val (.int p1), .val (.int p2), .val (.int p3), .val (.int p4), .val (.int p5), .val (.ref b1), .val (.ref b6), .val (.int (1 : Int32)), .val (.int (Int32.ofNat x23)), .val (.int (Int32.ofNat x25)), .val (.int (Int32.ofNat x27)), .val (.int (Int32.ofNat x29)), .val (.int (Int32.ofNat x31)), .val (.int (Int32.ofNat x33)), .unset, .unset, .unset, .unset, .unset, .unset, .unset, .unset, .unset, .unset, .unset, .unset, .unset, .unset, .unset, .unset]) rfl (XS.iloadN X34.here hx rfl (hb hby at_74) rfl k)) ?_
  show own_Go p.tables e below RR (T34.setTop (mkF m 75 #[.val (.int p1), .val (.int p2), .val (.int p3), .val (.int p4), .val (.int p5), .val (.ref b1), .val (.ref b6), .val (.int (1 : Int32)), .val (.int (Int32.ofNat x23)), .val (.int (Int32.ofNat x25)), .val (.int (Int32.ofNat x27)), .val (.int (Int32.ofNat x29)), .val (.int (Int32.ofNat x31)), .val (.int (Int32.ofNat x33)), .unset, .unset, .unset, .unset, .unset, .unset, .unset, .unset, .unset, .unset, .unset, .unset, .unset, .unset, .unset, .unset] [(.int p4)]))
  obtain ⟨x35, hx35, ex35⟩ := own_m5 (p4)
  obtain ⟨_, _, ⟨T36, L36, k36, n36⟩, -, X36, ⟨Lc36, hQ36, l36, y36, z36⟩, st36⟩ := Jvm.LawKit.callS X34 hx (y := (⟨"com/example/saar/saar/sim/PartsJoinPinLaw", "lo", "(I)I"⟩ : MethodName)) hown (mvT hZ (hw _ (List.mem_of_getElem? (i := 28) rfl))) (mvT hZ (hw _ (List.mem_of_getElem? (i := 29) rfl))) (mvT hZ (hw _ (List.mem_of_getElem? (i := 30) rfl))) (mvT hZ (hw _ (List.mem_of_getElem? (i := 31) rfl))) (by decide) (backOf (W := 0) (own_rmLO l Z a0 hw [] p4 x35 h21 n0 z22 ex35) hZ (hw _ (List.mem_of_getElem? (i := 31) rfl)) (hw _ (List.mem_of_getElem? (i := 30) rfl)) (by decide) (by decide)) (g := (mkF m 75 #[.val (.int p1), .val (.int p2), .val (.int p3), .val (.int p4), .val (.int p5), .val (.ref b1), .val (.ref b6), .val (.int (1 : Int32)), .val (.int (Int32.ofNat x23)), .val (.int (Int32.ofNat x25)), .val (.int (Int32.ofNat x27)), .val (.int (Int32.ofNat x29)), .val (.int (Int32.ofNat x31)), .val (.int (Int32.ofNat x33)), .unset, .unset, .unset, .unset, .unset, .unset, .unset, .unset, .unset, .unset, .unset, .unset, .unset, .unset, .unset, .unset] [(.int p4)])) rfl (by rw [hml]; rfl) (argsL := [(.int p4)]) (rest := []) (lenOf own_pd__I_I rfl) rfl (by show 2 * 0 + _ ≤ _; exact Nat.le_of_eq rfl) (hb hby at_75) (fun _ _ => ⟨rfl, eq34, (by decide : 3 + 0 ≤ _), (by decide : 11 + 0 ≤ _)⟩)
  dsimp only [Pt.U, Pt.locs, Pt.cells, Pt.slots] at X36 l36 y36 z36 st36 hQ36
  rw [l36, y36, z36] at X36
  obtain ⟨rfl, Nq36, eq36⟩ := hQ36
  have N36 := Fr.app N34 Nq36
  refine own_st st36 ?_
  show own_Go p.tables e below RR (T36.setTop (mkF m 78 #[.val (.int p1), .val (.int p2), .val (.int p3), .val (.int p4), .val (.int p5), .val (.ref b1), .val (.ref b6), .val (.int (1 : Int32)), .val (.int (Int32.ofNat x23)), .val (.int (Int32.ofNat x25)), .val (.int (Int32.ofNat x27)), .val (.int (Int32.ofNat x29)), .val (.int (Int32.ofNat x31)), .val (.int (Int32.ofNat x33)), .unset, .unset, .unset, .unset, .unset, .unset, .unset, .unset, .unset, .unset, .unset, .unset, .unset, .unset, .unset, .unset] [(.int (Int32.ofNat x35))]))
  refine own_st (fun _ k => XS.istore X36.here hx rfl (hb hby at_78) rfl (l' := #[.val (.int p1), .val (.int p2), .val (.int p3), .val (.int p4), .val (.int p5), .val (.ref b1), .val (.ref b6), .val (.int (1 : Int32)), .val (.int (Int32.ofNat x23)), .val (.int (Int32.ofNat x25)), .val (.int (Int32.ofNat x27)), .val (.int (Int32.ofNat x29)), .val (.int (Int32.ofNat x31)), .val (.int (Int32.ofNat x33)), .val (.int (Int32.ofNat x35)), .unset, .unset, .unset, .unset, .unset, .unset, .unset, .unset, .unset, .unset, .unset, .unset, .unset, .unset, .unset]) rfl (XS.iloadN X36.here hx rfl (hb hby at_80) rfl k)) ?_
  show own_Go p.tables e below RR (T36.setTop (mkF m 81 #[.val (.int p1), .val (.int p2), .val (.int p3), .val (.int p4), .val (.int p5), .val (.ref b1), .val (.ref b6), .val (.int (1 : Int32)), .val (.int (Int32.ofNat x23)), .val (.int (Int32.ofNat x25)), .val (.int (Int32.ofNat x27)), .val (.int (Int32.ofNat x29)), .val (.int (Int32.ofNat x31)), .val (.int (Int32.ofNat x33)), .val (.int (Int32.ofNat x35)), .unset, .unset, .unset, .unset, .unset, .unset, .unset, .unset, .unset, .unset, .unset, .unset, .unset, .unset, .unset] [(.int p4)]))
  obtain ⟨x37, hx37, ex37⟩ := own_m5 (((p4.toUInt32 >>> ((8 : Int32) &&& 31).toUInt32).toInt32))
  obtain ⟨_, _, ⟨T38, L38, k38, n38⟩, -, X38, ⟨Lc38, hQ38, l38, y38, z38⟩, st38⟩ := Jvm.LawKit.callS X36 hx (y := (⟨"com/example/saar/saar/sim/PartsJoinPinLaw", "hi", "(I)I"⟩ : MethodName)) hown (mvT hZ (hw _ (List.mem_of_getElem? (i := 32) rfl))) (mvT hZ (hw _ (List.mem_of_getElem? (i := 33) rfl))) (mvT hZ (hw _ (List.mem_of_getElem? (i := 30) rfl))) (mvT hZ (hw _ (List.mem_of_getElem? (i := 34) rfl))) (by decide) (backOf (W := 0) (own_rmHI l Z a0 hw [] p4 x37 h21 n0 z22 ex37) hZ (hw _ (List.mem_of_getElem? (i := 34) rfl)) (hw _ (List.mem_of_getElem? (i := 30) rfl)) (by decide) (by decide)) (g := (mkF m 81 #[.val (.int p1), .val (.int p2), .val (.int p3), .val (.int p4), .val (.int p5), .val (.ref b1), .val (.ref b6), .val (.int (1 : Int32)), .val (.int (Int32.ofNat x23)), .val (.int (Int32.ofNat x25)), .val (.int (Int32.ofNat x27)), .val (.int (Int32.ofNat x29)), .val (.int (Int32.ofNat x31)), .val (.int (Int32.ofNat x33)), .val (.int (Int32.ofNat x35)), .unset, .unset, .unset, .unset, .unset, .unset, .unset, .unset, .unset, .unset, .unset, .unset, .unset, .unset, .unset] [(.int p4)])) rfl (by rw [hml]; rfl) (argsL := [(.int p4)]) (rest := []) (lenOf own_pd__I_I rfl) rfl (by show 2 * 0 + _ ≤ _; exact Nat.le_of_eq rfl) (hb hby at_81) (fun _ _ => ⟨rfl, eq36, (by decide : 3 + 0 ≤ _), (by decide : 11 + 0 ≤ _)⟩)
  dsimp only [Pt.U, Pt.locs, Pt.cells, Pt.slots] at X38 l38 y38 z38 st38 hQ38
  rw [l38, y38, z38] at X38
  obtain ⟨rfl, Nq38, eq38⟩ := hQ38
  have N38 := Fr.app N36 Nq38
  refine own_st st38 ?_
  show own_Go p.tables e below RR (T38.setTop (mkF m 84 #[.val (.int p1), .val (.int p2), .val (.int p3), .val (.int p4), .val (.int p5), .val (.ref b1), .val (.ref b6), .val (.int (1 : Int32)), .val (.int (Int32.ofNat x23)), .val (.int (Int32.ofNat x25)), .val (.int (Int32.ofNat x27)), .val (.int (Int32.ofNat x29)), .val (.int (Int32.ofNat x31)), .val (.int (Int32.ofNat x33)), .val (.int (Int32.ofNat x35)), .unset, .unset, .unset, .unset, .unset, .unset, .unset, .unset, .unset, .unset, .unset, .unset, .unset, .unset, .unset] [(.int (Int32.ofNat x37))]))
  refine own_st (fun _ k => XS.istore X38.here hx rfl (hb hby at_84) rfl (l' := #[.val (.int p1), .val (.int p2), .val (.int p3), .val (.int p4), .val (.int p5), .val (.ref b1), .val (.ref b6), .val (.int (1 : Int32)), .val (.int (Int32.ofNat x23)), .val (.int (Int32.ofNat x25)), .val (.int (Int32.ofNat x27)), .val (.int (Int32.ofNat x29)), .val (.int (Int32.ofNat x31)), .val (.int (Int32.ofNat x33)), .val (.int (Int32.ofNat x35)), .val (.int (Int32.ofNat x37)), .unset, .unset, .unset, .unset, .unset, .unset, .unset, .unset, .unset, .unset, .unset, .unset, .unset, .unset]) rfl (XS.aload X38.here hx rfl (hb hby at_86) rfl rfl (XS.iload X38.here hx rfl (hb hby at_88) rfl (XS.iload X38.here hx rfl (hb hby at_90) rfl k)))) ?_
  show own_Go p.tables e below RR (T38.setTop (mkF m 92 #[.val (.int p1), .val (.int p2), .val (.int p3), .val (.int p4), .val (.int p5), .val (.ref b1), .val (.ref b6), .val (.int (1 : Int32)), .val (.int (Int32.ofNat x23)), .val (.int (Int32.ofNat x25)), .val (.int (Int32.ofNat x27)), .val (.int (Int32.ofNat x29)), .val (.int (Int32.ofNat x31)), .val (.int (Int32.ofNat x33)), .val (.int (Int32.ofNat x35)), .val (.int (Int32.ofNat x37)), .unset, .unset, .unset, .unset, .unset, .unset, .unset, .unset, .unset, .unset, .unset, .unset, .unset, .unset] [(.int (Int32.ofNat x25)), (.int (Int32.ofNat x23)), (.ref b1)]))
  have ne39 : b3 ≠ b6 := (Nat.ne_of_lt (Nat.lt_of_lt_of_le Vq4.lt (Nat.le_of_eq gb6.symm)))
  have f40 := ((((((Vq4.ext E6).other W9 ne39).other W12 ne39).other W15 ne39).other W18 ne39).other W21 ne39)
  have f41 := ((((((Eq4.ext E6).wr W9).wr W12).wr W15).wr W18).wr W21)
  have ne42 : b1 ≠ b6 := (Nat.ne_of_lt (Nat.lt_of_lt_of_le Eq4.lt (Nat.le_of_eq gb6.symm)))
  have f43 := ((((((Fq4.ext E6).other W9 (Or.inl ne42)).other W12 (Or.inl ne42)).other W15 (Or.inl ne42)).other W18 (Or.inl ne42)).other W21 (Or.inl ne42))
  obtain ⟨cq44, kq44, q44a, q44b, q44c⟩ := isOf hZ eq38 f41
  obtain ⟨_, _, ⟨T44, L44, k44, n44⟩, -, X44, ⟨Lc44, hQ44, l44, y44, z44⟩, st44⟩ := X38.virtualBack hx (y := (⟨"com/example/saar/saar/sim/Parts", "join", "(II)Z"⟩ : MethodName)) (z := (⟨"com/example/saar/saar/sim/Parts", "join", "(II)Z"⟩ : MethodName)) hown (mvT hZ (hw _ (List.mem_of_getElem? (i := 35) rfl))) (mvT hZ (hw _ (List.mem_of_getElem? (i := 36) rfl))) (notFace_of_selects (args := #[]) (mvT hZ (hw _ (List.mem_of_getElem? (i := 38) rfl)))) (mvT hZ (hw _ (List.mem_of_getElem? (i := 38) rfl))) (mvT hZ (hw _ (List.mem_of_getElem? (i := 37) rfl))) (by decide) (backOf (W := 0) (own_rmJN l Z a0 hw [] b1 b3 kq4 [0, 1, 2, 3, 4] [0, 1, 2, 3, 4] (fun _ => 0) x23 x25 h21 n0 z22 f41 f43 f40 nn4 ge3 own_I0 hx23 hx25) hZ (hw _ (List.mem_of_getElem? (i := 39) rfl)) (hw _ (List.mem_of_getElem? (i := 2) rfl)) (by decide) (by decide)) q44a q44c (g := (mkF m 92 #[.val (.int p1), .val (.int p2), .val (.int p3), .val (.int p4), .val (.int p5), .val (.ref b1), .val (.ref b6), .val (.int (1 : Int32)), .val (.int (Int32.ofNat x23)), .val (.int (Int32.ofNat x25)), .val (.int (Int32.ofNat x27)), .val (.int (Int32.ofNat x29)), .val (.int (Int32.ofNat x31)), .val (.int (Int32.ofNat x33)), .val (.int (Int32.ofNat x35)), .val (.int (Int32.ofNat x37)), .unset, .unset, .unset, .unset, .unset, .unset, .unset, .unset, .unset, .unset, .unset, .unset, .unset, .unset] [(.int (Int32.ofNat x25)), (.int (Int32.ofNat x23)), (.ref b1)])) rfl (by rw [hml]; rfl) (Steps.refl _) (argsL := [(.int (Int32.ofNat x23)), (.int (Int32.ofNat x25))]) (rest := []) (lenOf own_pd__II_Z rfl) rfl (by show 2 * 0 + _ ≤ _; exact Nat.le_of_eq rfl) (hb hby at_92) (fun _ _ => ⟨rfl, eq38, (by decide : 3 + 0 ≤ _), (by decide : 11 + 0 ≤ _)⟩)
  dsimp only [Pt.U, Pt.locs, Pt.cells, Pt.slots] at X44 l44 y44 z44 st44 hQ44
  rw [l44, y44, z44] at X44
  obtain ⟨rfl, Nq44, Kq44, Pq44, dq44, Iq44, Vq44⟩ := hQ44
  have N44 := Fr.app N38 Nq44
  refine own_st (fun _ k => st44.trans k) ?_
  have z45 : n0 ≤ T44.heap.size := Nat.le_trans z22 Kq44.1
  show own_Go p.tables e below RR (T44.setTop (mkF m 95 #[.val (.int p1), .val (.int p2), .val (.int p3), .val (.int p4), .val (.int p5), .val (.ref b1), .val (.ref b6), .val (.int (1 : Int32)), .val (.int (Int32.ofNat x23)), .val (.int (Int32.ofNat x25)), .val (.int (Int32.ofNat x27)), .val (.int (Int32.ofNat x29)), .val (.int (Int32.ofNat x31)), .val (.int (Int32.ofNat x33)), .val (.int (Int32.ofNat x35)), .val (.int (Int32.ofNat x37)), .unset, .unset, .unset, .unset, .unset, .unset, .unset, .unset, .unset, .unset, .unset, .unset, .unset, .unset] [(.int (own_nq ([0, 1, 2, 3, 4].getD x23 0) ([0, 1, 2, 3, 4].getD x25 0)))]))
  refine own_st (fun _ k => XS.istore X44.here hx rfl (hb hby at_95) rfl (l' := #[.val (.int p1), .val (.int p2), .val (.int p3), .val (.int p4), .val (.int p5), .val (.ref b1), .val (.ref b6), .val (.int (1 : Int32)), .val (.int (Int32.ofNat x23)), .val (.int (Int32.ofNat x25)), .val (.int (Int32.ofNat x27)), .val (.int (Int32.ofNat x29)), .val (.int (Int32.ofNat x31)), .val (.int (Int32.ofNat x33)), .val (.int (Int32.ofNat x35)), .val (.int (Int32.ofNat x37)), .val (.int (own_nq ([0, 1, 2, 3, 4].getD x23 0) ([0, 1, 2, 3, 4].getD x25 0))), .unset, .unset, .unset, .unset, .unset, .unset, .unset, .unset, .unset, .unset, .unset, .unset, .unset]) rfl (XS.aload X44.here hx rfl (hb hby at_97) rfl rfl (XS.iload X44.here hx rfl (hb hby at_99) rfl (XS.iload X44.here hx rfl (hb hby at_101) rfl k)))) ?_
  show own_Go p.tables e below RR (T44.setTop (mkF m 103 #[.val (.int p1), .val (.int p2), .val (.int p3), .val (.int p4), .val (.int p5), .val (.ref b1), .val (.ref b6), .val (.int (1 : Int32)), .val (.int (Int32.ofNat x23)), .val (.int (Int32.ofNat x25)), .val (.int (Int32.ofNat x27)), .val (.int (Int32.ofNat x29)), .val (.int (Int32.ofNat x31)), .val (.int (Int32.ofNat x33)), .val (.int (Int32.ofNat x35)), .val (.int (Int32.ofNat x37)), .val (.int (own_nq ([0, 1, 2, 3, 4].getD x23 0) ([0, 1, 2, 3, 4].getD x25 0))), .unset, .unset, .unset, .unset, .unset, .unset, .unset, .unset, .unset, .unset, .unset, .unset, .unset] [(.int (Int32.ofNat x25)), (.int (Int32.ofNat x23)), (.ref b6)]))
  have f46 := (V21.keep Kq44 (ninS (Ne.symm ne39) nin0))
  obtain ⟨_, _, ⟨T47, L47, k47, n47⟩, -, X47, ⟨Lc47, hQ47, l47, y47, z47⟩, st47⟩ := Jvm.LawKit.callS X44 hx (y := (⟨"com/example/saar/saar/sim/PartsJoinPinLaw", "step", "([III)Z"⟩ : MethodName)) hown (mvT hZ (hw _ (List.mem_of_getElem? (i := 45) rfl))) (mvT hZ (hw _ (List.mem_of_getElem? (i := 46) rfl))) (mvT hZ (hw _ (List.mem_of_getElem? (i := 30) rfl))) (mvT hZ (hw _ (List.mem_of_getElem? (i := 47) rfl))) (by decide) (backOf (W := 0) (own_rmST l Z a0 hw [] b6 k6 x23 x25 0 1 2 3 4 T44.heap n0 z45 ge6 f46 hx23 hx25 (own_rootl own_I0 hx23).1 (own_rootl own_I0 hx25).1 (own_I0.2.2 0 (by decide)).2.1 (own_I0.2.2 1 (by decide)).2.1 (own_I0.2.2 2 (by decide)).2.1 (own_I0.2.2 3 (by decide)).2.1 (own_I0.2.2 4 (by decide)).2.1) hZ (hw _ (List.mem_of_getElem? (i := 47) rfl)) (hw _ (List.mem_of_getElem? (i := 30) rfl)) (by decide) (by decide)) (g := (mkF m 103 #[.val (.int p1), .val (.int p2), .val (.int p3), .val (.int p4), .val (.int p5), .val (.ref b1), .val (.ref b6), .val (.int (1 : Int32)), .val (.int (Int32.ofNat x23)), .val (.int (Int32.ofNat x25)), .val (.int (Int32.ofNat x27)), .val (.int (Int32.ofNat x29)), .val (.int (Int32.ofNat x31)), .val (.int (Int32.ofNat x33)), .val (.int (Int32.ofNat x35)), .val (.int (Int32.ofNat x37)), .val (.int (own_nq ([0, 1, 2, 3, 4].getD x23 0) ([0, 1, 2, 3, 4].getD x25 0))), .unset, .unset, .unset, .unset, .unset, .unset, .unset, .unset, .unset, .unset, .unset, .unset, .unset] [(.int (Int32.ofNat x25)), (.int (Int32.ofNat x23)), (.ref b6)])) rfl (by rw [hml]; rfl) (argsL := [(.ref b6), (.int (Int32.ofNat x23)), (.int (Int32.ofNat x25))]) (rest := []) (lenOf own_pd___III_Z rfl) rfl (by show 2 * 0 + _ ≤ _; exact Nat.le_of_eq rfl) (hb hby at_103) (fun _ _ => ⟨rfl, rfl, (by decide : 3 + 0 ≤ _), (by decide : 11 + 0 ≤ _)⟩)
  dsimp only [Pt.U, Pt.locs, Pt.cells, Pt.slots] at X47 l47 y47 z47 st47 hQ47
  rw [l47, y47, z47] at X47
  obtain ⟨rfl, Nq47, Kq47, Vq47⟩ := hQ47
  have N47 := Fr.app N44 Nq47
  refine own_st st47 ?_
  have z48 : n0 ≤ T47.heap.size := Nat.le_trans z45 Kq47.1
  obtain ⟨m0q47, m1q47, m2q47, m3q47, m4q47, Im47, Vm47⟩ : ∃ m0q47 m1q47 m2q47 m3q47 m4q47 : Nat, own_Inv 5 Pq44 [m0q47, m1q47, m2q47, m3q47, m4q47] dq44 ∧ Arv Z T47.heap b6 k6 .int (5 : Int32) [(.int (Int32.ofNat m0q47)), (.int (Int32.ofNat m1q47)), (.int (Int32.ofNat m2q47)), (.int (Int32.ofNat m3q47)), (.int (Int32.ofNat m4q47))] (.int (0 : Int32)) := ⟨_, _, _, _, _, Iq44, Vq47⟩
  show own_Go p.tables e below RR (T47.setTop (mkF m 106 #[.val (.int p1), .val (.int p2), .val (.int p3), .val (.int p4), .val (.int p5), .val (.ref b1), .val (.ref b6), .val (.int (1 : Int32)), .val (.int (Int32.ofNat x23)), .val (.int (Int32.ofNat x25)), .val (.int (Int32.ofNat x27)), .val (.int (Int32.ofNat x29)), .val (.int (Int32.ofNat x31)), .val (.int (Int32.ofNat x33)), .val (.int (Int32.ofNat x35)), .val (.int (Int32.ofNat x37)), .val (.int (own_nq ([0, 1, 2, 3, 4].getD x23 0) ([0, 1, 2, 3, 4].getD x25 0))), .unset, .unset, .unset, .unset, .unset, .unset, .unset, .unset, .unset, .unset, .unset, .unset, .unset] [(.int (own_nq ([0, 1, 2, 3, 4].getD x23 0) ([0, 1, 2, 3, 4].getD x25 0)))]))
  refine own_st (fun _ k => XS.istore X47.here hx rfl (hb hby at_106) rfl (l' := #[.val (.int p1), .val (.int p2), .val (.int p3), .val (.int p4), .val (.int p5), .val (.ref b1), .val (.ref b6), .val (.int (1 : Int32)), .val (.int (Int32.ofNat x23)), .val (.int (Int32.ofNat x25)), .val (.int (Int32.ofNat x27)), .val (.int (Int32.ofNat x29)), .val (.int (Int32.ofNat x31)), .val (.int (Int32.ofNat x33)), .val (.int (Int32.ofNat x35)), .val (.int (Int32.ofNat x37)), .val (.int (own_nq ([0, 1, 2, 3, 4].getD x23 0) ([0, 1, 2, 3, 4].getD x25 0))), .val (.int (own_nq ([0, 1, 2, 3, 4].getD x23 0) ([0, 1, 2, 3, 4].getD x25 0))), .unset, .unset, .unset, .unset, .unset, .unset, .unset, .unset, .unset, .unset, .unset, .unset]) rfl (XS.iload X47.here hx rfl (hb hby at_108) rfl k)) ?_
  show own_Go p.tables e below RR (T47.setTop (mkF m 110 #[.val (.int p1), .val (.int p2), .val (.int p3), .val (.int p4), .val (.int p5), .val (.ref b1), .val (.ref b6), .val (.int (1 : Int32)), .val (.int (Int32.ofNat x23)), .val (.int (Int32.ofNat x25)), .val (.int (Int32.ofNat x27)), .val (.int (Int32.ofNat x29)), .val (.int (Int32.ofNat x31)), .val (.int (Int32.ofNat x33)), .val (.int (Int32.ofNat x35)), .val (.int (Int32.ofNat x37)), .val (.int (own_nq ([0, 1, 2, 3, 4].getD x23 0) ([0, 1, 2, 3, 4].getD x25 0))), .val (.int (own_nq ([0, 1, 2, 3, 4].getD x23 0) ([0, 1, 2, 3, 4].getD x25 0))), .unset, .unset, .unset, .unset, .unset, .unset, .unset, .unset, .unset, .unset, .unset, .unset] [(.int (1 : Int32))]))
  refine own_st (fun _ k => XS.ifNo X47.here hx rfl (hb hby at_110) rfl ((if0 _ _).trans (feq (by decide)).1) (XS.iload X47.here hx rfl (hb hby at_113) rfl (XS.iload X47.here hx rfl (hb hby at_115) rfl k))) ?_
  show own_Go p.tables e below RR (T47.setTop (mkF m 117 #[.val (.int p1), .val (.int p2), .val (.int p3), .val (.int p4), .val (.int p5), .val (.ref b1), .val (.ref b6), .val (.int (1 : Int32)), .val (.int (Int32.ofNat x23)), .val (.int (Int32.ofNat x25)), .val (.int (Int32.ofNat x27)), .val (.int (Int32.ofNat x29)), .val (.int (Int32.ofNat x31)), .val (.int (Int32.ofNat x33)), .val (.int (Int32.ofNat x35)), .val (.int (Int32.ofNat x37)), .val (.int (own_nq ([0, 1, 2, 3, 4].getD x23 0) ([0, 1, 2, 3, 4].getD x25 0))), .val (.int (own_nq ([0, 1, 2, 3, 4].getD x23 0) ([0, 1, 2, 3, 4].getD x25 0))), .unset, .unset, .unset, .unset, .unset, .unset, .unset, .unset, .unset, .unset, .unset, .unset] [(.int (own_nq ([0, 1, 2, 3, 4].getD x23 0) ([0, 1, 2, 3, 4].getD x25 0))), (.int (own_nq ([0, 1, 2, 3, 4].getD x23 0) ([0, 1, 2, 3, 4].getD x25 0)))]))
  refine own_st (fun _ k => XS.icmpNo X47.here hx rfl (hb hby at_117) rfl (teq rfl).2 (XS.iconst X47.here hx rfl (hb hby at_120) (XS.goto X47.here hx rfl (pc0 := 121) (pc' := 125) rfl (hb hby at_121) (by decide) (by decide) (XS.istore X47.here hx rfl (hb hby at_125) rfl (l' := #[.val (.int p1), .val (.int p2), .val (.int p3), .val (.int p4), .val (.int p5), .val (.ref b1), .val (.ref b6), .val (.int (1 : Int32)), .val (.int (Int32.ofNat x23)), .val (.int (Int32.ofNat x25)), .val (.int (Int32.ofNat x27)), .val (.int (Int32.ofNat x29)), .val (.int (Int32.ofNat x31)), .val (.int (Int32.ofNat x33)), .val (.int (Int32.ofNat x35)), .val (.int (Int32.ofNat x37)), .val (.int (own_nq ([0, 1, 2, 3, 4].getD x23 0) ([0, 1, 2, 3, 4].getD x25 0))), .val (.int (own_nq ([0, 1, 2, 3, 4].getD x23 0) ([0, 1, 2, 3, 4].getD x25 0))), .unset, .unset, .unset, .unset, .unset, .unset, .unset, .unset, .unset, .unset, .unset, .unset]) rfl (XS.aload X47.here hx rfl (hb hby at_127) rfl rfl (XS.iload X47.here hx rfl (hb hby at_129) rfl (XS.iload X47.here hx rfl (hb hby at_131) rfl k))))))) ?_
  show own_Go p.tables e below RR (T47.setTop (mkF m 133 #[.val (.int p1), .val (.int p2), .val (.int p3), .val (.int p4), .val (.int p5), .val (.ref b1), .val (.ref b6), .val (.int (1 : Int32)), .val (.int (Int32.ofNat x23)), .val (.int (Int32.ofNat x25)), .val (.int (Int32.ofNat x27)), .val (.int (Int32.ofNat x29)), .val (.int (Int32.ofNat x31)), .val (.int (Int32.ofNat x33)), .val (.int (Int32.ofNat x35)), .val (.int (Int32.ofNat x37)), .val (.int (own_nq ([0, 1, 2, 3, 4].getD x23 0) ([0, 1, 2, 3, 4].getD x25 0))), .val (.int (own_nq ([0, 1, 2, 3, 4].getD x23 0) ([0, 1, 2, 3, 4].getD x25 0))), .unset, .unset, .unset, .unset, .unset, .unset, .unset, .unset, .unset, .unset, .unset, .unset] [(.int (Int32.ofNat x29)), (.int (Int32.ofNat x27)), (.ref b1)]))
  have f49 := (Vq44.keep Kq47 (ninS ne39 nin0))
  have f50 := ((f41.keep Kq44).keep Kq47)
  have f51 := ((f43.keep Kq44 (ninS nn4 nin0)).keep Kq47 (ninS ne42 nin0))
  obtain ⟨cq52, kq52, q52a, q52b, q52c⟩ := isOf hZ rfl f50
  obtain ⟨_, _, ⟨T52, L52, k52, n52⟩, -, X52, ⟨Lc52, hQ52, l52, y52, z52⟩, st52⟩ := X47.virtualBack hx (y := (⟨"com/example/saar/saar/sim/Parts", "join", "(II)Z"⟩ : MethodName)) (z := (⟨"com/example/saar/saar/sim/Parts", "join", "(II)Z"⟩ : MethodName)) hown (mvT hZ (hw _ (List.mem_of_getElem? (i := 35) rfl))) (mvT hZ (hw _ (List.mem_of_getElem? (i := 36) rfl))) (notFace_of_selects (args := #[]) (mvT hZ (hw _ (List.mem_of_getElem? (i := 38) rfl)))) (mvT hZ (hw _ (List.mem_of_getElem? (i := 38) rfl))) (mvT hZ (hw _ (List.mem_of_getElem? (i := 37) rfl))) (by decide) (backOf (W := 0) (own_rmJN l Z a0 hw [] b1 b3 kq4 Pq44 [m0q47, m1q47, m2q47, m3q47, m4q47] dq44 x27 x29 T47.heap n0 z48 f50 f51 f49 nn4 ge3 Im47 hx27 hx29) hZ (hw _ (List.mem_of_getElem? (i := 39) rfl)) (hw _ (List.mem_of_getElem? (i := 2) rfl)) (by decide) (by decide)) q52a q52c (g := (mkF m 133 #[.val (.int p1), .val (.int p2), .val (.int p3), .val (.int p4), .val (.int p5), .val (.ref b1), .val (.ref b6), .val (.int (1 : Int32)), .val (.int (Int32.ofNat x23)), .val (.int (Int32.ofNat x25)), .val (.int (Int32.ofNat x27)), .val (.int (Int32.ofNat x29)), .val (.int (Int32.ofNat x31)), .val (.int (Int32.ofNat x33)), .val (.int (Int32.ofNat x35)), .val (.int (Int32.ofNat x37)), .val (.int (own_nq ([0, 1, 2, 3, 4].getD x23 0) ([0, 1, 2, 3, 4].getD x25 0))), .val (.int (own_nq ([0, 1, 2, 3, 4].getD x23 0) ([0, 1, 2, 3, 4].getD x25 0))), .unset, .unset, .unset, .unset, .unset, .unset, .unset, .unset, .unset, .unset, .unset, .unset] [(.int (Int32.ofNat x29)), (.int (Int32.ofNat x27)), (.ref b1)])) rfl (by rw [hml]; rfl) (Steps.refl _) (argsL := [(.int (Int32.ofNat x27)), (.int (Int32.ofNat x29))]) (rest := []) (lenOf own_pd__II_Z rfl) rfl (by show 2 * 0 + _ ≤ _; exact Nat.le_of_eq rfl) (hb hby at_133) (fun _ _ => ⟨rfl, rfl, (by decide : 3 + 0 ≤ _), (by decide : 11 + 0 ≤ _)⟩)
  dsimp only [Pt.U, Pt.locs, Pt.cells, Pt.slots] at X52 l52 y52 z52 st52 hQ52
  rw [l52, y52, z52] at X52
  obtain ⟨rfl, Nq52, Kq52, Pq52, dq52, Iq52, Vq52⟩ := hQ52
  have N52 := Fr.app N47 Nq52
  refine own_st (fun _ k => st52.trans k) ?_
  have z53 : n0 ≤ T52.heap.size := Nat.le_trans z48 Kq52.1
  show own_Go p.tables e below RR (T52.setTop (mkF m 136 #[.val (.int p1), .val (.int p2), .val (.int p3), .val (.int p4), .val (.int p5), .val (.ref b1), .val (.ref b6), .val (.int (1 : Int32)), .val (.int (Int32.ofNat x23)), .val (.int (Int32.ofNat x25)), .val (.int (Int32.ofNat x27)), .val (.int (Int32.ofNat x29)), .val (.int (Int32.ofNat x31)), .val (.int (Int32.ofNat x33)), .val (.int (Int32.ofNat x35)), .val (.int (Int32.ofNat x37)), .val (.int (own_nq ([0, 1, 2, 3, 4].getD x23 0) ([0, 1, 2, 3, 4].getD x25 0))), .val (.int (own_nq ([0, 1, 2, 3, 4].getD x23 0) ([0, 1, 2, 3, 4].getD x25 0))), .unset, .unset, .unset, .unset, .unset, .unset, .unset, .unset, .unset, .unset, .unset, .unset] [(.int (own_nq ([m0q47, m1q47, m2q47, m3q47, m4q47].getD x27 0) ([m0q47, m1q47, m2q47, m3q47, m4q47].getD x29 0)))]))
  refine own_st (fun _ k => XS.istore X52.here hx rfl (hb hby at_136) rfl (l' := #[.val (.int p1), .val (.int p2), .val (.int p3), .val (.int p4), .val (.int p5), .val (.ref b1), .val (.ref b6), .val (.int (1 : Int32)), .val (.int (Int32.ofNat x23)), .val (.int (Int32.ofNat x25)), .val (.int (Int32.ofNat x27)), .val (.int (Int32.ofNat x29)), .val (.int (Int32.ofNat x31)), .val (.int (Int32.ofNat x33)), .val (.int (Int32.ofNat x35)), .val (.int (Int32.ofNat x37)), .val (.int (own_nq ([0, 1, 2, 3, 4].getD x23 0) ([0, 1, 2, 3, 4].getD x25 0))), .val (.int (own_nq ([0, 1, 2, 3, 4].getD x23 0) ([0, 1, 2, 3, 4].getD x25 0))), .val (.int (own_nq ([m0q47, m1q47, m2q47, m3q47, m4q47].getD x27 0) ([m0q47, m1q47, m2q47, m3q47, m4q47].getD x29 0))), .unset, .unset, .unset, .unset, .unset, .unset, .unset, .unset, .unset, .unset, .unset]) rfl (XS.aload X52.here hx rfl (hb hby at_138) rfl rfl (XS.iload X52.here hx rfl (hb hby at_140) rfl (XS.iload X52.here hx rfl (hb hby at_142) rfl k)))) ?_
  show own_Go p.tables e below RR (T52.setTop (mkF m 144 #[.val (.int p1), .val (.int p2), .val (.int p3), .val (.int p4), .val (.int p5), .val (.ref b1), .val (.ref b6), .val (.int (1 : Int32)), .val (.int (Int32.ofNat x23)), .val (.int (Int32.ofNat x25)), .val (.int (Int32.ofNat x27)), .val (.int (Int32.ofNat x29)), .val (.int (Int32.ofNat x31)), .val (.int (Int32.ofNat x33)), .val (.int (Int32.ofNat x35)), .val (.int (Int32.ofNat x37)), .val (.int (own_nq ([0, 1, 2, 3, 4].getD x23 0) ([0, 1, 2, 3, 4].getD x25 0))), .val (.int (own_nq ([0, 1, 2, 3, 4].getD x23 0) ([0, 1, 2, 3, 4].getD x25 0))), .val (.int (own_nq ([m0q47, m1q47, m2q47, m3q47, m4q47].getD x27 0) ([m0q47, m1q47, m2q47, m3q47, m4q47].getD x29 0))), .unset, .unset, .unset, .unset, .unset, .unset, .unset, .unset, .unset, .unset, .unset] [(.int (Int32.ofNat x29)), (.int (Int32.ofNat x27)), (.ref b6)]))
  have f54 := (Vm47.keep Kq52 (ninS (Ne.symm ne39) nin0))
  obtain ⟨_, _, ⟨T55, L55, k55, n55⟩, -, X55, ⟨Lc55, hQ55, l55, y55, z55⟩, st55⟩ := Jvm.LawKit.callS X52 hx (y := (⟨"com/example/saar/saar/sim/PartsJoinPinLaw", "step", "([III)Z"⟩ : MethodName)) hown (mvT hZ (hw _ (List.mem_of_getElem? (i := 45) rfl))) (mvT hZ (hw _ (List.mem_of_getElem? (i := 46) rfl))) (mvT hZ (hw _ (List.mem_of_getElem? (i := 30) rfl))) (mvT hZ (hw _ (List.mem_of_getElem? (i := 47) rfl))) (by decide) (backOf (W := 0) (own_rmST l Z a0 hw [] b6 k6 x27 x29 m0q47 m1q47 m2q47 m3q47 m4q47 T52.heap n0 z53 ge6 f54 hx27 hx29 (own_rootl Im47 hx27).1 (own_rootl Im47 hx29).1 (Im47.2.2 0 (by decide)).2.1 (Im47.2.2 1 (by decide)).2.1 (Im47.2.2 2 (by decide)).2.1 (Im47.2.2 3 (by decide)).2.1 (Im47.2.2 4 (by decide)).2.1) hZ (hw _ (List.mem_of_getElem? (i := 47) rfl)) (hw _ (List.mem_of_getElem? (i := 30) rfl)) (by decide) (by decide)) (g := (mkF m 144 #[.val (.int p1), .val (.int p2), .val (.int p3), .val (.int p4), .val (.int p5), .val (.ref b1), .val (.ref b6), .val (.int (1 : Int32)), .val (.int (Int32.ofNat x23)), .val (.int (Int32.ofNat x25)), .val (.int (Int32.ofNat x27)), .val (.int (Int32.ofNat x29)), .val (.int (Int32.ofNat x31)), .val (.int (Int32.ofNat x33)), .val (.int (Int32.ofNat x35)), .val (.int (Int32.ofNat x37)), .val (.int (own_nq ([0, 1, 2, 3, 4].getD x23 0) ([0, 1, 2, 3, 4].getD x25 0))), .val (.int (own_nq ([0, 1, 2, 3, 4].getD x23 0) ([0, 1, 2, 3, 4].getD x25 0))), .val (.int (own_nq ([m0q47, m1q47, m2q47, m3q47, m4q47].getD x27 0) ([m0q47, m1q47, m2q47, m3q47, m4q47].getD x29 0))), .unset, .unset, .unset, .unset, .unset, .unset, .unset, .unset, .unset, .unset, .unset] [(.int (Int32.ofNat x29)), (.int (Int32.ofNat x27)), (.ref b6)])) rfl (by rw [hml]; rfl) (argsL := [(.ref b6), (.int (Int32.ofNat x27)), (.int (Int32.ofNat x29))]) (rest := []) (lenOf own_pd___III_Z rfl) rfl (by show 2 * 0 + _ ≤ _; exact Nat.le_of_eq rfl) (hb hby at_144) (fun _ _ => ⟨rfl, rfl, (by decide : 3 + 0 ≤ _), (by decide : 11 + 0 ≤ _)⟩)
  dsimp only [Pt.U, Pt.locs, Pt.cells, Pt.slots] at X55 l55 y55 z55 st55 hQ55
  rw [l55, y55, z55] at X55
  obtain ⟨rfl, Nq55, Kq55, Vq55⟩ := hQ55
  have N55 := Fr.app N52 Nq55
  refine own_st st55 ?_
  have z56 : n0 ≤ T55.heap.size := Nat.le_trans z53 Kq55.1
  obtain ⟨m0q55, m1q55, m2q55, m3q55, m4q55, Im55, Vm55⟩ : ∃ m0q55 m1q55 m2q55 m3q55 m4q55 : Nat, own_Inv 5 Pq52 [m0q55, m1q55, m2q55, m3q55, m4q55] dq52 ∧ Arv Z T55.heap b6 k6 .int (5 : Int32) [(.int (Int32.ofNat m0q55)), (.int (Int32.ofNat m1q55)), (.int (Int32.ofNat m2q55)), (.int (Int32.ofNat m3q55)), (.int (Int32.ofNat m4q55))] (.int (0 : Int32)) := ⟨_, _, _, _, _, Iq52, Vq55⟩
  show own_Go p.tables e below RR (T55.setTop (mkF m 147 #[.val (.int p1), .val (.int p2), .val (.int p3), .val (.int p4), .val (.int p5), .val (.ref b1), .val (.ref b6), .val (.int (1 : Int32)), .val (.int (Int32.ofNat x23)), .val (.int (Int32.ofNat x25)), .val (.int (Int32.ofNat x27)), .val (.int (Int32.ofNat x29)), .val (.int (Int32.ofNat x31)), .val (.int (Int32.ofNat x33)), .val (.int (Int32.ofNat x35)), .val (.int (Int32.ofNat x37)), .val (.int (own_nq ([0, 1, 2, 3, 4].getD x23 0) ([0, 1, 2, 3, 4].getD x25 0))), .val (.int (own_nq ([0, 1, 2, 3, 4].getD x23 0) ([0, 1, 2, 3, 4].getD x25 0))), .val (.int (own_nq ([m0q47, m1q47, m2q47, m3q47, m4q47].getD x27 0) ([m0q47, m1q47, m2q47, m3q47, m4q47].getD x29 0))), .unset, .unset, .unset, .unset, .unset, .unset, .unset, .unset, .unset, .unset, .unset] [(.int (own_nq ([m0q47, m1q47, m2q47, m3q47, m4q47].getD x27 0) ([m0q47, m1q47, m2q47, m3q47, m4q47].getD x29 0)))]))
  refine own_st (fun _ k => XS.istore X55.here hx rfl (hb hby at_147) rfl (l' := #[.val (.int p1), .val (.int p2), .val (.int p3), .val (.int p4), .val (.int p5), .val (.ref b1), .val (.ref b6), .val (.int (1 : Int32)), .val (.int (Int32.ofNat x23)), .val (.int (Int32.ofNat x25)), .val (.int (Int32.ofNat x27)), .val (.int (Int32.ofNat x29)), .val (.int (Int32.ofNat x31)), .val (.int (Int32.ofNat x33)), .val (.int (Int32.ofNat x35)), .val (.int (Int32.ofNat x37)), .val (.int (own_nq ([0, 1, 2, 3, 4].getD x23 0) ([0, 1, 2, 3, 4].getD x25 0))), .val (.int (own_nq ([0, 1, 2, 3, 4].getD x23 0) ([0, 1, 2, 3, 4].getD x25 0))), .val (.int (own_nq ([m0q47, m1q47, m2q47, m3q47, m4q47].getD x27 0) ([m0q47, m1q47, m2q47, m3q47, m4q47].getD x29 0))), .val (.int (own_nq ([m0q47, m1q47, m2q47, m3q47, m4q47].getD x27 0) ([m0q47, m1q47, m2q47, m3q47, m4q47].getD x29 0))), .unset, .unset, .unset, .unset, .unset, .unset, .unset, .unset, .unset, .unset]) rfl (XS.iload X55.here hx rfl (hb hby at_149) rfl k)) ?_
  show own_Go p.tables e below RR (T55.setTop (mkF m 151 #[.val (.int p1), .val (.int p2), .val (.int p3), .val (.int p4), .val (.int p5), .val (.ref b1), .val (.ref b6), .val (.int (1 : Int32)), .val (.int (Int32.ofNat x23)), .val (.int (Int32.ofNat x25)), .val (.int (Int32.ofNat x27)), .val (.int (Int32.ofNat x29)), .val (.int (Int32.ofNat x31)), .val (.int (Int32.ofNat x33)), .val (.int (Int32.ofNat x35)), .val (.int (Int32.ofNat x37)), .val (.int (own_nq ([0, 1, 2, 3, 4].getD x23 0) ([0, 1, 2, 3, 4].getD x25 0))), .val (.int (own_nq ([0, 1, 2, 3, 4].getD x23 0) ([0, 1, 2, 3, 4].getD x25 0))), .val (.int (own_nq ([m0q47, m1q47, m2q47, m3q47, m4q47].getD x27 0) ([m0q47, m1q47, m2q47, m3q47, m4q47].getD x29 0))), .val (.int (own_nq ([m0q47, m1q47, m2q47, m3q47, m4q47].getD x27 0) ([m0q47, m1q47, m2q47, m3q47, m4q47].getD x29 0))), .unset, .unset, .unset, .unset, .unset, .unset, .unset, .unset, .unset, .unset] [(.int (1 : Int32))]))
  refine own_st (fun _ k => XS.ifNo X55.here hx rfl (hb hby at_151) rfl ((if0 _ _).trans (feq (by decide)).1) (XS.iload X55.here hx rfl (hb hby at_154) rfl (XS.iload X55.here hx rfl (hb hby at_156) rfl k))) ?_
  show own_Go p.tables e below RR (T55.setTop (mkF m 158 #[.val (.int p1), .val (.int p2), .val (.int p3), .val (.int p4), .val (.int p5), .val (.ref b1), .val (.ref b6), .val (.int (1 : Int32)), .val (.int (Int32.ofNat x23)), .val (.int (Int32.ofNat x25)), .val (.int (Int32.ofNat x27)), .val (.int (Int32.ofNat x29)), .val (.int (Int32.ofNat x31)), .val (.int (Int32.ofNat x33)), .val (.int (Int32.ofNat x35)), .val (.int (Int32.ofNat x37)), .val (.int (own_nq ([0, 1, 2, 3, 4].getD x23 0) ([0, 1, 2, 3, 4].getD x25 0))), .val (.int (own_nq ([0, 1, 2, 3, 4].getD x23 0) ([0, 1, 2, 3, 4].getD x25 0))), .val (.int (own_nq ([m0q47, m1q47, m2q47, m3q47, m4q47].getD x27 0) ([m0q47, m1q47, m2q47, m3q47, m4q47].getD x29 0))), .val (.int (own_nq ([m0q47, m1q47, m2q47, m3q47, m4q47].getD x27 0) ([m0q47, m1q47, m2q47, m3q47, m4q47].getD x29 0))), .unset, .unset, .unset, .unset, .unset, .unset, .unset, .unset, .unset, .unset] [(.int (own_nq ([m0q47, m1q47, m2q47, m3q47, m4q47].getD x27 0) ([m0q47, m1q47, m2q47, m3q47, m4q47].getD x29 0))), (.int (own_nq ([m0q47, m1q47, m2q47, m3q47, m4q47].getD x27 0) ([m0q47, m1q47, m2q47, m3q47, m4q47].getD x29 0)))]))
  refine own_st (fun _ k => XS.icmpNo X55.here hx rfl (hb hby at_158) rfl (teq rfl).2 (XS.iconst X55.here hx rfl (hb hby at_161) (XS.goto X55.here hx rfl (pc0 := 162) (pc' := 166) rfl (hb hby at_162) (by decide) (by decide) (XS.istore X55.here hx rfl (hb hby at_166) rfl (l' := #[.val (.int p1), .val (.int p2), .val (.int p3), .val (.int p4), .val (.int p5), .val (.ref b1), .val (.ref b6), .val (.int (1 : Int32)), .val (.int (Int32.ofNat x23)), .val (.int (Int32.ofNat x25)), .val (.int (Int32.ofNat x27)), .val (.int (Int32.ofNat x29)), .val (.int (Int32.ofNat x31)), .val (.int (Int32.ofNat x33)), .val (.int (Int32.ofNat x35)), .val (.int (Int32.ofNat x37)), .val (.int (own_nq ([0, 1, 2, 3, 4].getD x23 0) ([0, 1, 2, 3, 4].getD x25 0))), .val (.int (own_nq ([0, 1, 2, 3, 4].getD x23 0) ([0, 1, 2, 3, 4].getD x25 0))), .val (.int (own_nq ([m0q47, m1q47, m2q47, m3q47, m4q47].getD x27 0) ([m0q47, m1q47, m2q47, m3q47, m4q47].getD x29 0))), .val (.int (own_nq ([m0q47, m1q47, m2q47, m3q47, m4q47].getD x27 0) ([m0q47, m1q47, m2q47, m3q47, m4q47].getD x29 0))), .unset, .unset, .unset, .unset, .unset, .unset, .unset, .unset, .unset, .unset]) rfl (XS.aload X55.here hx rfl (hb hby at_168) rfl rfl (XS.iload X55.here hx rfl (hb hby at_170) rfl (XS.iload X55.here hx rfl (hb hby at_172) rfl k))))))) ?_
  show own_Go p.tables e below RR (T55.setTop (mkF m 174 #[.val (.int p1), .val (.int p2), .val (.int p3), .val (.int p4), .val (.int p5), .val (.ref b1), .val (.ref b6), .val (.int (1 : Int32)), .val (.int (Int32.ofNat x23)), .val (.int (Int32.ofNat x25)), .val (.int (Int32.ofNat x27)), .val (.int (Int32.ofNat x29)), .val (.int (Int32.ofNat x31)), .val (.int (Int32.ofNat x33)), .val (.int (Int32.ofNat x35)), .val (.int (Int32.ofNat x37)), .val (.int (own_nq ([0, 1, 2, 3, 4].getD x23 0) ([0, 1, 2, 3, 4].getD x25 0))), .val (.int (own_nq ([0, 1, 2, 3, 4].getD x23 0) ([0, 1, 2, 3, 4].getD x25 0))), .val (.int (own_nq ([m0q47, m1q47, m2q47, m3q47, m4q47].getD x27 0) ([m0q47, m1q47, m2q47, m3q47, m4q47].getD x29 0))), .val (.int (own_nq ([m0q47, m1q47, m2q47, m3q47, m4q47].getD x27 0) ([m0q47, m1q47, m2q47, m3q47, m4q47].getD x29 0))), .unset, .unset, .unset, .unset, .unset, .unset, .unset, .unset, .unset, .unset] [(.int (Int32.ofNat x33)), (.int (Int32.ofNat x31)), (.ref b1)]))
  have f57 := (Vq52.keep Kq55 (ninS ne39 nin0))
  have f58 := ((f50.keep Kq52).keep Kq55)
  have f59 := ((f51.keep Kq52 (ninS nn4 nin0)).keep Kq55 (ninS ne42 nin0))
  obtain ⟨cq60, kq60, q60a, q60b, q60c⟩ := isOf hZ rfl f58
  obtain ⟨_, _, ⟨T60, L60, k60, n60⟩, -, X60, ⟨Lc60, hQ60, l60, y60, z60⟩, st60⟩ := X55.virtualBack hx (y := (⟨"com/example/saar/saar/sim/Parts", "join", "(II)Z"⟩ : MethodName)) (z := (⟨"com/example/saar/saar/sim/Parts", "join", "(II)Z"⟩ : MethodName)) hown (mvT hZ (hw _ (List.mem_of_getElem? (i := 35) rfl))) (mvT hZ (hw _ (List.mem_of_getElem? (i := 36) rfl))) (notFace_of_selects (args := #[]) (mvT hZ (hw _ (List.mem_of_getElem? (i := 38) rfl)))) (mvT hZ (hw _ (List.mem_of_getElem? (i := 38) rfl))) (mvT hZ (hw _ (List.mem_of_getElem? (i := 37) rfl))) (by decide) (backOf (W := 0) (own_rmJN l Z a0 hw [] b1 b3 kq4 Pq52 [m0q55, m1q55, m2q55, m3q55, m4q55] dq52 x31 x33 T55.heap n0 z56 f58 f59 f57 nn4 ge3 Im55 hx31 hx33) hZ (hw _ (List.mem_of_getElem? (i := 39) rfl)) (hw _ (List.mem_of_getElem? (i := 2) rfl)) (by decide) (by decide)) q60a q60c (g := (mkF m 174 #[.val (.int p1), .val (.int p2), .val (.int p3), .val (.int p4), .val (.int p5), .val (.ref b1), .val (.ref b6), .val (.int (1 : Int32)), .val (.int (Int32.ofNat x23)), .val (.int (Int32.ofNat x25)), .val (.int (Int32.ofNat x27)), .val (.int (Int32.ofNat x29)), .val (.int (Int32.ofNat x31)), .val (.int (Int32.ofNat x33)), .val (.int (Int32.ofNat x35)), .val (.int (Int32.ofNat x37)), .val (.int (own_nq ([0, 1, 2, 3, 4].getD x23 0) ([0, 1, 2, 3, 4].getD x25 0))), .val (.int (own_nq ([0, 1, 2, 3, 4].getD x23 0) ([0, 1, 2, 3, 4].getD x25 0))), .val (.int (own_nq ([m0q47, m1q47, m2q47, m3q47, m4q47].getD x27 0) ([m0q47, m1q47, m2q47, m3q47, m4q47].getD x29 0))), .val (.int (own_nq ([m0q47, m1q47, m2q47, m3q47, m4q47].getD x27 0) ([m0q47, m1q47, m2q47, m3q47, m4q47].getD x29 0))), .unset, .unset, .unset, .unset, .unset, .unset, .unset, .unset, .unset, .unset] [(.int (Int32.ofNat x33)), (.int (Int32.ofNat x31)), (.ref b1)])) rfl (by rw [hml]; rfl) (Steps.refl _) (argsL := [(.int (Int32.ofNat x31)), (.int (Int32.ofNat x33))]) (rest := []) (lenOf own_pd__II_Z rfl) rfl (by show 2 * 0 + _ ≤ _; exact Nat.le_of_eq rfl) (hb hby at_174) (fun _ _ => ⟨rfl, rfl, (by decide : 3 + 0 ≤ _), (by decide : 11 + 0 ≤ _)⟩)
  dsimp only [Pt.U, Pt.locs, Pt.cells, Pt.slots] at X60 l60 y60 z60 st60 hQ60
  rw [l60, y60, z60] at X60
  obtain ⟨rfl, Nq60, Kq60, Pq60, dq60, Iq60, Vq60⟩ := hQ60
  have N60 := Fr.app N55 Nq60
  refine own_st (fun _ k => st60.trans k) ?_
  have z61 : n0 ≤ T60.heap.size := Nat.le_trans z56 Kq60.1
  show own_Go p.tables e below RR (T60.setTop (mkF m 177 #[.val (.int p1), .val (.int p2), .val (.int p3), .val (.int p4), .val (.int p5), .val (.ref b1), .val (.ref b6), .val (.int (1 : Int32)), .val (.int (Int32.ofNat x23)), .val (.int (Int32.ofNat x25)), .val (.int (Int32.ofNat x27)), .val (.int (Int32.ofNat x29)), .val (.int (Int32.ofNat x31)), .val (.int (Int32.ofNat x33)), .val (.int (Int32.ofNat x35)), .val (.int (Int32.ofNat x37)), .val (.int (own_nq ([0, 1, 2, 3, 4].getD x23 0) ([0, 1, 2, 3, 4].getD x25 0))), .val (.int (own_nq ([0, 1, 2, 3, 4].getD x23 0) ([0, 1, 2, 3, 4].getD x25 0))), .val (.int (own_nq ([m0q47, m1q47, m2q47, m3q47, m4q47].getD x27 0) ([m0q47, m1q47, m2q47, m3q47, m4q47].getD x29 0))), .val (.int (own_nq ([m0q47, m1q47, m2q47, m3q47, m4q47].getD x27 0) ([m0q47, m1q47, m2q47, m3q47, m4q47].getD x29 0))), .unset, .unset, .unset, .unset, .unset, .unset, .unset, .unset, .unset, .unset] [(.int (own_nq ([m0q55, m1q55, m2q55, m3q55, m4q55].getD x31 0) ([m0q55, m1q55, m2q55, m3q55, m4q55].getD x33 0)))]))
  refine own_st (fun _ k => XS.istore X60.here hx rfl (hb hby at_177) rfl (l' := #[.val (.int p1), .val (.int p2), .val (.int p3), .val (.int p4), .val (.int p5), .val (.ref b1), .val (.ref b6), .val (.int (1 : Int32)), .val (.int (Int32.ofNat x23)), .val (.int (Int32.ofNat x25)), .val (.int (Int32.ofNat x27)), .val (.int (Int32.ofNat x29)), .val (.int (Int32.ofNat x31)), .val (.int (Int32.ofNat x33)), .val (.int (Int32.ofNat x35)), .val (.int (Int32.ofNat x37)), .val (.int (own_nq ([0, 1, 2, 3, 4].getD x23 0) ([0, 1, 2, 3, 4].getD x25 0))), .val (.int (own_nq ([0, 1, 2, 3, 4].getD x23 0) ([0, 1, 2, 3, 4].getD x25 0))), .val (.int (own_nq ([m0q47, m1q47, m2q47, m3q47, m4q47].getD x27 0) ([m0q47, m1q47, m2q47, m3q47, m4q47].getD x29 0))), .val (.int (own_nq ([m0q47, m1q47, m2q47, m3q47, m4q47].getD x27 0) ([m0q47, m1q47, m2q47, m3q47, m4q47].getD x29 0))), .val (.int (own_nq ([m0q55, m1q55, m2q55, m3q55, m4q55].getD x31 0) ([m0q55, m1q55, m2q55, m3q55, m4q55].getD x33 0))), .unset, .unset, .unset, .unset, .unset, .unset, .unset, .unset, .unset]) rfl (XS.aload X60.here hx rfl (hb hby at_179) rfl rfl (XS.iload X60.here hx rfl (hb hby at_181) rfl (XS.iload X60.here hx rfl (hb hby at_183) rfl k)))) ?_
  show own_Go p.tables e below RR (T60.setTop (mkF m 185 #[.val (.int p1), .val (.int p2), .val (.int p3), .val (.int p4), .val (.int p5), .val (.ref b1), .val (.ref b6), .val (.int (1 : Int32)), .val (.int (Int32.ofNat x23)), .val (.int (Int32.ofNat x25)), .val (.int (Int32.ofNat x27)), .val (.int (Int32.ofNat x29)), .val (.int (Int32.ofNat x31)), .val (.int (Int32.ofNat x33)), .val (.int (Int32.ofNat x35)), .val (.int (Int32.ofNat x37)), .val (.int (own_nq ([0, 1, 2, 3, 4].getD x23 0) ([0, 1, 2, 3, 4].getD x25 0))), .val (.int (own_nq ([0, 1, 2, 3, 4].getD x23 0) ([0, 1, 2, 3, 4].getD x25 0))), .val (.int (own_nq ([m0q47, m1q47, m2q47, m3q47, m4q47].getD x27 0) ([m0q47, m1q47, m2q47, m3q47, m4q47].getD x29 0))), .val (.int (own_nq ([m0q47, m1q47, m2q47, m3q47, m4q47].getD x27 0) ([m0q47, m1q47, m2q47, m3q47, m4q47].getD x29 0))), .val (.int (own_nq ([m0q55, m1q55, m2q55, m3q55, m4q55].getD x31 0) ([m0q55, m1q55, m2q55, m3q55, m4q55].getD x33 0))), .unset, .unset, .unset, .unset, .unset, .unset, .unset, .unset, .unset] [(.int (Int32.ofNat x33)), (.int (Int32.ofNat x31)), (.ref b6)]))
  have f62 := (Vm55.keep Kq60 (ninS (Ne.symm ne39) nin0))
  obtain ⟨_, _, ⟨T63, L63, k63, n63⟩, -, X63, ⟨Lc63, hQ63, l63, y63, z63⟩, st63⟩ := Jvm.LawKit.callS X60 hx (y := (⟨"com/example/saar/saar/sim/PartsJoinPinLaw", "step", "([III)Z"⟩ : MethodName)) hown (mvT hZ (hw _ (List.mem_of_getElem? (i := 45) rfl))) (mvT hZ (hw _ (List.mem_of_getElem? (i := 46) rfl))) (mvT hZ (hw _ (List.mem_of_getElem? (i := 30) rfl))) (mvT hZ (hw _ (List.mem_of_getElem? (i := 47) rfl))) (by decide) (backOf (W := 0) (own_rmST l Z a0 hw [] b6 k6 x31 x33 m0q55 m1q55 m2q55 m3q55 m4q55 T60.heap n0 z61 ge6 f62 hx31 hx33 (own_rootl Im55 hx31).1 (own_rootl Im55 hx33).1 (Im55.2.2 0 (by decide)).2.1 (Im55.2.2 1 (by decide)).2.1 (Im55.2.2 2 (by decide)).2.1 (Im55.2.2 3 (by decide)).2.1 (Im55.2.2 4 (by decide)).2.1) hZ (hw _ (List.mem_of_getElem? (i := 47) rfl)) (hw _ (List.mem_of_getElem? (i := 30) rfl)) (by decide) (by decide)) (g := (mkF m 185 #[.val (.int p1), .val (.int p2), .val (.int p3), .val (.int p4), .val (.int p5), .val (.ref b1), .val (.ref b6), .val (.int (1 : Int32)), .val (.int (Int32.ofNat x23)), .val (.int (Int32.ofNat x25)), .val (.int (Int32.ofNat x27)), .val (.int (Int32.ofNat x29)), .val (.int (Int32.ofNat x31)), .val (.int (Int32.ofNat x33)), .val (.int (Int32.ofNat x35)), .val (.int (Int32.ofNat x37)), .val (.int (own_nq ([0, 1, 2, 3, 4].getD x23 0) ([0, 1, 2, 3, 4].getD x25 0))), .val (.int (own_nq ([0, 1, 2, 3, 4].getD x23 0) ([0, 1, 2, 3, 4].getD x25 0))), .val (.int (own_nq ([m0q47, m1q47, m2q47, m3q47, m4q47].getD x27 0) ([m0q47, m1q47, m2q47, m3q47, m4q47].getD x29 0))), .val (.int (own_nq ([m0q47, m1q47, m2q47, m3q47, m4q47].getD x27 0) ([m0q47, m1q47, m2q47, m3q47, m4q47].getD x29 0))), .val (.int (own_nq ([m0q55, m1q55, m2q55, m3q55, m4q55].getD x31 0) ([m0q55, m1q55, m2q55, m3q55, m4q55].getD x33 0))), .unset, .unset, .unset, .unset, .unset, .unset, .unset, .unset, .unset] [(.int (Int32.ofNat x33)), (.int (Int32.ofNat x31)), (.ref b6)])) rfl (by rw [hml]; rfl) (argsL := [(.ref b6), (.int (Int32.ofNat x31)), (.int (Int32.ofNat x33))]) (rest := []) (lenOf own_pd___III_Z rfl) rfl (by show 2 * 0 + _ ≤ _; exact Nat.le_of_eq rfl) (hb hby at_185) (fun _ _ => ⟨rfl, rfl, (by decide : 3 + 0 ≤ _), (by decide : 11 + 0 ≤ _)⟩)
  dsimp only [Pt.U, Pt.locs, Pt.cells, Pt.slots] at X63 l63 y63 z63 st63 hQ63
  rw [l63, y63, z63] at X63
  obtain ⟨rfl, Nq63, Kq63, Vq63⟩ := hQ63
  have N63 := Fr.app N60 Nq63
  refine own_st st63 ?_
  have z64 : n0 ≤ T63.heap.size := Nat.le_trans z61 Kq63.1
  obtain ⟨m0q63, m1q63, m2q63, m3q63, m4q63, Im63, Vm63⟩ : ∃ m0q63 m1q63 m2q63 m3q63 m4q63 : Nat, own_Inv 5 Pq60 [m0q63, m1q63, m2q63, m3q63, m4q63] dq60 ∧ Arv Z T63.heap b6 k6 .int (5 : Int32) [(.int (Int32.ofNat m0q63)), (.int (Int32.ofNat m1q63)), (.int (Int32.ofNat m2q63)), (.int (Int32.ofNat m3q63)), (.int (Int32.ofNat m4q63))] (.int (0 : Int32)) := ⟨_, _, _, _, _, Iq60, Vq63⟩
  show own_Go p.tables e below RR (T63.setTop (mkF m 188 #[.val (.int p1), .val (.int p2), .val (.int p3), .val (.int p4), .val (.int p5), .val (.ref b1), .val (.ref b6), .val (.int (1 : Int32)), .val (.int (Int32.ofNat x23)), .val (.int (Int32.ofNat x25)), .val (.int (Int32.ofNat x27)), .val (.int (Int32.ofNat x29)), .val (.int (Int32.ofNat x31)), .val (.int (Int32.ofNat x33)), .val (.int (Int32.ofNat x35)), .val (.int (Int32.ofNat x37)), .val (.int (own_nq ([0, 1, 2, 3, 4].getD x23 0) ([0, 1, 2, 3, 4].getD x25 0))), .val (.int (own_nq ([0, 1, 2, 3, 4].getD x23 0) ([0, 1, 2, 3, 4].getD x25 0))), .val (.int (own_nq ([m0q47, m1q47, m2q47, m3q47, m4q47].getD x27 0) ([m0q47, m1q47, m2q47, m3q47, m4q47].getD x29 0))), .val (.int (own_nq ([m0q47, m1q47, m2q47, m3q47, m4q47].getD x27 0) ([m0q47, m1q47, m2q47, m3q47, m4q47].getD x29 0))), .val (.int (own_nq ([m0q55, m1q55, m2q55, m3q55, m4q55].getD x31 0) ([m0q55, m1q55, m2q55, m3q55, m4q55].getD x33 0))), .unset, .unset, .unset, .unset, .unset, .unset, .unset, .unset, .unset] [(.int (own_nq ([m0q55, m1q55, m2q55, m3q55, m4q55].getD x31 0) ([m0q55, m1q55, m2q55, m3q55, m4q55].getD x33 0)))]))
  refine own_st (fun _ k => XS.istore X63.here hx rfl (hb hby at_188) rfl (l' := #[.val (.int p1), .val (.int p2), .val (.int p3), .val (.int p4), .val (.int p5), .val (.ref b1), .val (.ref b6), .val (.int (1 : Int32)), .val (.int (Int32.ofNat x23)), .val (.int (Int32.ofNat x25)), .val (.int (Int32.ofNat x27)), .val (.int (Int32.ofNat x29)), .val (.int (Int32.ofNat x31)), .val (.int (Int32.ofNat x33)), .val (.int (Int32.ofNat x35)), .val (.int (Int32.ofNat x37)), .val (.int (own_nq ([0, 1, 2, 3, 4].getD x23 0) ([0, 1, 2, 3, 4].getD x25 0))), .val (.int (own_nq ([0, 1, 2, 3, 4].getD x23 0) ([0, 1, 2, 3, 4].getD x25 0))), .val (.int (own_nq ([m0q47, m1q47, m2q47, m3q47, m4q47].getD x27 0) ([m0q47, m1q47, m2q47, m3q47, m4q47].getD x29 0))), .val (.int (own_nq ([m0q47, m1q47, m2q47, m3q47, m4q47].getD x27 0) ([m0q47, m1q47, m2q47, m3q47, m4q47].getD x29 0))), .val (.int (own_nq ([m0q55, m1q55, m2q55, m3q55, m4q55].getD x31 0) ([m0q55, m1q55, m2q55, m3q55, m4q55].getD x33 0))), .val (.int (own_nq ([m0q55, m1q55, m2q55, m3q55, m4q55].getD x31 0) ([m0q55, m1q55, m2q55, m3q55, m4q55].getD x33 0))), .unset, .unset, .unset, .unset, .unset, .unset, .unset, .unset]) rfl (XS.iload X63.here hx rfl (hb hby at_190) rfl k)) ?_
  show own_Go p.tables e below RR (T63.setTop (mkF m 192 #[.val (.int p1), .val (.int p2), .val (.int p3), .val (.int p4), .val (.int p5), .val (.ref b1), .val (.ref b6), .val (.int (1 : Int32)), .val (.int (Int32.ofNat x23)), .val (.int (Int32.ofNat x25)), .val (.int (Int32.ofNat x27)), .val (.int (Int32.ofNat x29)), .val (.int (Int32.ofNat x31)), .val (.int (Int32.ofNat x33)), .val (.int (Int32.ofNat x35)), .val (.int (Int32.ofNat x37)), .val (.int (own_nq ([0, 1, 2, 3, 4].getD x23 0) ([0, 1, 2, 3, 4].getD x25 0))), .val (.int (own_nq ([0, 1, 2, 3, 4].getD x23 0) ([0, 1, 2, 3, 4].getD x25 0))), .val (.int (own_nq ([m0q47, m1q47, m2q47, m3q47, m4q47].getD x27 0) ([m0q47, m1q47, m2q47, m3q47, m4q47].getD x29 0))), .val (.int (own_nq ([m0q47, m1q47, m2q47, m3q47, m4q47].getD x27 0) ([m0q47, m1q47, m2q47, m3q47, m4q47].getD x29 0))), .val (.int (own_nq ([m0q55, m1q55, m2q55, m3q55, m4q55].getD x31 0) ([m0q55, m1q55, m2q55, m3q55, m4q55].getD x33 0))), .val (.int (own_nq ([m0q55, m1q55, m2q55, m3q55, m4q55].getD x31 0) ([m0q55, m1q55, m2q55, m3q55, m4q55].getD x33 0))), .unset, .unset, .unset, .unset, .unset, .unset, .unset, .unset] [(.int (1 : Int32))]))
  refine own_st (fun _ k => XS.ifNo X63.here hx rfl (hb hby at_192) rfl ((if0 _ _).trans (feq (by decide)).1) (XS.iload X63.here hx rfl (hb hby at_195) rfl (XS.iload X63.here hx rfl (hb hby at_197) rfl k))) ?_
  show own_Go p.tables e below RR (T63.setTop (mkF m 199 #[.val (.int p1), .val (.int p2), .val (.int p3), .val (.int p4), .val (.int p5), .val (.ref b1), .val (.ref b6), .val (.int (1 : Int32)), .val (.int (Int32.ofNat x23)), .val (.int (Int32.ofNat x25)), .val (.int (Int32.ofNat x27)), .val (.int (Int32.ofNat x29)), .val (.int (Int32.ofNat x31)), .val (.int (Int32.ofNat x33)), .val (.int (Int32.ofNat x35)), .val (.int (Int32.ofNat x37)), .val (.int (own_nq ([0, 1, 2, 3, 4].getD x23 0) ([0, 1, 2, 3, 4].getD x25 0))), .val (.int (own_nq ([0, 1, 2, 3, 4].getD x23 0) ([0, 1, 2, 3, 4].getD x25 0))), .val (.int (own_nq ([m0q47, m1q47, m2q47, m3q47, m4q47].getD x27 0) ([m0q47, m1q47, m2q47, m3q47, m4q47].getD x29 0))), .val (.int (own_nq ([m0q47, m1q47, m2q47, m3q47, m4q47].getD x27 0) ([m0q47, m1q47, m2q47, m3q47, m4q47].getD x29 0))), .val (.int (own_nq ([m0q55, m1q55, m2q55, m3q55, m4q55].getD x31 0) ([m0q55, m1q55, m2q55, m3q55, m4q55].getD x33 0))), .val (.int (own_nq ([m0q55, m1q55, m2q55, m3q55, m4q55].getD x31 0) ([m0q55, m1q55, m2q55, m3q55, m4q55].getD x33 0))), .unset, .unset, .unset, .unset, .unset, .unset, .unset, .unset] [(.int (own_nq ([m0q55, m1q55, m2q55, m3q55, m4q55].getD x31 0) ([m0q55, m1q55, m2q55, m3q55, m4q55].getD x33 0))), (.int (own_nq ([m0q55, m1q55, m2q55, m3q55, m4q55].getD x31 0) ([m0q55, m1q55, m2q55, m3q55, m4q55].getD x33 0)))]))
  refine own_st (fun _ k => XS.icmpNo X63.here hx rfl (hb hby at_199) rfl (teq rfl).2 (XS.iconst X63.here hx rfl (hb hby at_202) (XS.goto X63.here hx rfl (pc0 := 203) (pc' := 207) rfl (hb hby at_203) (by decide) (by decide) (XS.istore X63.here hx rfl (hb hby at_207) rfl (l' := #[.val (.int p1), .val (.int p2), .val (.int p3), .val (.int p4), .val (.int p5), .val (.ref b1), .val (.ref b6), .val (.int (1 : Int32)), .val (.int (Int32.ofNat x23)), .val (.int (Int32.ofNat x25)), .val (.int (Int32.ofNat x27)), .val (.int (Int32.ofNat x29)), .val (.int (Int32.ofNat x31)), .val (.int (Int32.ofNat x33)), .val (.int (Int32.ofNat x35)), .val (.int (Int32.ofNat x37)), .val (.int (own_nq ([0, 1, 2, 3, 4].getD x23 0) ([0, 1, 2, 3, 4].getD x25 0))), .val (.int (own_nq ([0, 1, 2, 3, 4].getD x23 0) ([0, 1, 2, 3, 4].getD x25 0))), .val (.int (own_nq ([m0q47, m1q47, m2q47, m3q47, m4q47].getD x27 0) ([m0q47, m1q47, m2q47, m3q47, m4q47].getD x29 0))), .val (.int (own_nq ([m0q47, m1q47, m2q47, m3q47, m4q47].getD x27 0) ([m0q47, m1q47, m2q47, m3q47, m4q47].getD x29 0))), .val (.int (own_nq ([m0q55, m1q55, m2q55, m3q55, m4q55].getD x31 0) ([m0q55, m1q55, m2q55, m3q55, m4q55].getD x33 0))), .val (.int (own_nq ([m0q55, m1q55, m2q55, m3q55, m4q55].getD x31 0) ([m0q55, m1q55, m2q55, m3q55, m4q55].getD x33 0))), .unset, .unset, .unset, .unset, .unset, .unset, .unset, .unset]) rfl (XS.aload X63.here hx rfl (hb hby at_209) rfl rfl (XS.iload X63.here hx rfl (hb hby at_211) rfl (XS.iload X63.here hx rfl (hb hby at_213) rfl k))))))) ?_
  show own_Go p.tables e below RR (T63.setTop (mkF m 215 #[.val (.int p1), .val (.int p2), .val (.int p3), .val (.int p4), .val (.int p5), .val (.ref b1), .val (.ref b6), .val (.int (1 : Int32)), .val (.int (Int32.ofNat x23)), .val (.int (Int32.ofNat x25)), .val (.int (Int32.ofNat x27)), .val (.int (Int32.ofNat x29)), .val (.int (Int32.ofNat x31)), .val (.int (Int32.ofNat x33)), .val (.int (Int32.ofNat x35)), .val (.int (Int32.ofNat x37)), .val (.int (own_nq ([0, 1, 2, 3, 4].getD x23 0) ([0, 1, 2, 3, 4].getD x25 0))), .val (.int (own_nq ([0, 1, 2, 3, 4].getD x23 0) ([0, 1, 2, 3, 4].getD x25 0))), .val (.int (own_nq ([m0q47, m1q47, m2q47, m3q47, m4q47].getD x27 0) ([m0q47, m1q47, m2q47, m3q47, m4q47].getD x29 0))), .val (.int (own_nq ([m0q47, m1q47, m2q47, m3q47, m4q47].getD x27 0) ([m0q47, m1q47, m2q47, m3q47, m4q47].getD x29 0))), .val (.int (own_nq ([m0q55, m1q55, m2q55, m3q55, m4q55].getD x31 0) ([m0q55, m1q55, m2q55, m3q55, m4q55].getD x33 0))), .val (.int (own_nq ([m0q55, m1q55, m2q55, m3q55, m4q55].getD x31 0) ([m0q55, m1q55, m2q55, m3q55, m4q55].getD x33 0))), .unset, .unset, .unset, .unset, .unset, .unset, .unset, .unset] [(.int (Int32.ofNat x37)), (.int (Int32.ofNat x35)), (.ref b1)]))
  have f65 := (Vq60.keep Kq63 (ninS ne39 nin0))
  have f66 := ((f58.keep Kq60).keep Kq63)
  have f67 := ((f59.keep Kq60 (ninS nn4 nin0)).keep Kq63 (ninS ne42 nin0))
  obtain ⟨cq68, kq68, q68a, q68b, q68c⟩ := isOf hZ rfl f66
  obtain ⟨_, _, ⟨T68, L68, k68, n68⟩, -, X68, ⟨Lc68, hQ68, l68, y68, z68⟩, st68⟩ := X63.virtualBack hx (y := (⟨"com/example/saar/saar/sim/Parts", "join", "(II)Z"⟩ : MethodName)) (z := (⟨"com/example/saar/saar/sim/Parts", "join", "(II)Z"⟩ : MethodName)) hown (mvT hZ (hw _ (List.mem_of_getElem? (i := 35) rfl))) (mvT hZ (hw _ (List.mem_of_getElem? (i := 36) rfl))) (notFace_of_selects (args := #[]) (mvT hZ (hw _ (List.mem_of_getElem? (i := 38) rfl)))) (mvT hZ (hw _ (List.mem_of_getElem? (i := 38) rfl))) (mvT hZ (hw _ (List.mem_of_getElem? (i := 37) rfl))) (by decide) (backOf (W := 0) (own_rmJN l Z a0 hw [] b1 b3 kq4 Pq60 [m0q63, m1q63, m2q63, m3q63, m4q63] dq60 x35 x37 T63.heap n0 z64 f66 f67 f65 nn4 ge3 Im63 hx35 hx37) hZ (hw _ (List.mem_of_getElem? (i := 39) rfl)) (hw _ (List.mem_of_getElem? (i := 2) rfl)) (by decide) (by decide)) q68a q68c (g := (mkF m 215 #[.val (.int p1), .val (.int p2), .val (.int p3), .val (.int p4), .val (.int p5), .val (.ref b1), .val (.ref b6), .val (.int (1 : Int32)), .val (.int (Int32.ofNat x23)), .val (.int (Int32.ofNat x25)), .val (.int (Int32.ofNat x27)), .val (.int (Int32.ofNat x29)), .val (.int (Int32.ofNat x31)), .val (.int (Int32.ofNat x33)), .val (.int (Int32.ofNat x35)), .val (.int (Int32.ofNat x37)), .val (.int (own_nq ([0, 1, 2, 3, 4].getD x23 0) ([0, 1, 2, 3, 4].getD x25 0))), .val (.int (own_nq ([0, 1, 2, 3, 4].getD x23 0) ([0, 1, 2, 3, 4].getD x25 0))), .val (.int (own_nq ([m0q47, m1q47, m2q47, m3q47, m4q47].getD x27 0) ([m0q47, m1q47, m2q47, m3q47, m4q47].getD x29 0))), .val (.int (own_nq ([m0q47, m1q47, m2q47, m3q47, m4q47].getD x27 0) ([m0q47, m1q47, m2q47, m3q47, m4q47].getD x29 0))), .val (.int (own_nq ([m0q55, m1q55, m2q55, m3q55, m4q55].getD x31 0) ([m0q55, m1q55, m2q55, m3q55, m4q55].getD x33 0))), .val (.int (own_nq ([m0q55, m1q55, m2q55, m3q55, m4q55].getD x31 0) ([m0q55, m1q55, m2q55, m3q55, m4q55].getD x33 0))), .unset, .unset, .unset, .unset, .unset, .unset, .unset, .unset] [(.int (Int32.ofNat x37)), (.int (Int32.ofNat x35)), (.ref b1)])) rfl (by rw [hml]; rfl) (Steps.refl _) (argsL := [(.int (Int32.ofNat x35)), (.int (Int32.ofNat x37))]) (rest := []) (lenOf own_pd__II_Z rfl) rfl (by show 2 * 0 + _ ≤ _; exact Nat.le_of_eq rfl) (hb hby at_215) (fun _ _ => ⟨rfl, rfl, (by decide : 3 + 0 ≤ _), (by decide : 11 + 0 ≤ _)⟩)
  dsimp only [Pt.U, Pt.locs, Pt.cells, Pt.slots] at X68 l68 y68 z68 st68 hQ68
  rw [l68, y68, z68] at X68
  obtain ⟨rfl, Nq68, Kq68, Pq68, dq68, Iq68, Vq68⟩ := hQ68
  have N68 := Fr.app N63 Nq68
  refine own_st (fun _ k => st68.trans k) ?_
  have z69 : n0 ≤ T68.heap.size := Nat.le_trans z64 Kq68.1
  show own_Go p.tables e below RR (T68.setTop (mkF m 218 #[.val (.int p1), .val (.int p2), .val (.int p3), .val (.int p4), .val (.int p5), .val (.ref b1), .val (.ref b6), .val (.int (1 : Int32)), .val (.int (Int32.ofNat x23)), .val (.int (Int32.ofNat x25)), .val (.int (Int32.ofNat x27)), .val (.int (Int32.ofNat x29)), .val (.int (Int32.ofNat x31)), .val (.int (Int32.ofNat x33)), .val (.int (Int32.ofNat x35)), .val (.int (Int32.ofNat x37)), .val (.int (own_nq ([0, 1, 2, 3, 4].getD x23 0) ([0, 1, 2, 3, 4].getD x25 0))), .val (.int (own_nq ([0, 1, 2, 3, 4].getD x23 0) ([0, 1, 2, 3, 4].getD x25 0))), .val (.int (own_nq ([m0q47, m1q47, m2q47, m3q47, m4q47].getD x27 0) ([m0q47, m1q47, m2q47, m3q47, m4q47].getD x29 0))), .val (.int (own_nq ([m0q47, m1q47, m2q47, m3q47, m4q47].getD x27 0) ([m0q47, m1q47, m2q47, m3q47, m4q47].getD x29 0))), .val (.int (own_nq ([m0q55, m1q55, m2q55, m3q55, m4q55].getD x31 0) ([m0q55, m1q55, m2q55, m3q55, m4q55].getD x33 0))), .val (.int (own_nq ([m0q55, m1q55, m2q55, m3q55, m4q55].getD x31 0) ([m0q55, m1q55, m2q55, m3q55, m4q55].getD x33 0))), .unset, .unset, .unset, .unset, .unset, .unset, .unset, .unset] [(.int (own_nq ([m0q63, m1q63, m2q63, m3q63, m4q63].getD x35 0) ([m0q63, m1q63, m2q63, m3q63, m4q63].getD x37 0)))]))
  refine own_st (fun _ k => XS.istore X68.here hx rfl (hb hby at_218) rfl (l' := #[.val (.int p1), .val (.int p2), .val (.int p3), .val (.int p4), .val (.int p5), .val (.ref b1), .val (.ref b6), .val (.int (1 : Int32)), .val (.int (Int32.ofNat x23)), .val (.int (Int32.ofNat x25)), .val (.int (Int32.ofNat x27)), .val (.int (Int32.ofNat x29)), .val (.int (Int32.ofNat x31)), .val (.int (Int32.ofNat x33)), .val (.int (Int32.ofNat x35)), .val (.int (Int32.ofNat x37)), .val (.int (own_nq ([0, 1, 2, 3, 4].getD x23 0) ([0, 1, 2, 3, 4].getD x25 0))), .val (.int (own_nq ([0, 1, 2, 3, 4].getD x23 0) ([0, 1, 2, 3, 4].getD x25 0))), .val (.int (own_nq ([m0q47, m1q47, m2q47, m3q47, m4q47].getD x27 0) ([m0q47, m1q47, m2q47, m3q47, m4q47].getD x29 0))), .val (.int (own_nq ([m0q47, m1q47, m2q47, m3q47, m4q47].getD x27 0) ([m0q47, m1q47, m2q47, m3q47, m4q47].getD x29 0))), .val (.int (own_nq ([m0q55, m1q55, m2q55, m3q55, m4q55].getD x31 0) ([m0q55, m1q55, m2q55, m3q55, m4q55].getD x33 0))), .val (.int (own_nq ([m0q55, m1q55, m2q55, m3q55, m4q55].getD x31 0) ([m0q55, m1q55, m2q55, m3q55, m4q55].getD x33 0))), .val (.int (own_nq ([m0q63, m1q63, m2q63, m3q63, m4q63].getD x35 0) ([m0q63, m1q63, m2q63, m3q63, m4q63].getD x37 0))), .unset, .unset, .unset, .unset, .unset, .unset, .unset]) rfl (XS.aload X68.here hx rfl (hb hby at_220) rfl rfl (XS.iload X68.here hx rfl (hb hby at_222) rfl (XS.iload X68.here hx rfl (hb hby at_224) rfl k)))) ?_
  show own_Go p.tables e below RR (T68.setTop (mkF m 226 #[.val (.int p1), .val (.int p2), .val (.int p3), .val (.int p4), .val (.int p5), .val (.ref b1), .val (.ref b6), .val (.int (1 : Int32)), .val (.int (Int32.ofNat x23)), .val (.int (Int32.ofNat x25)), .val (.int (Int32.ofNat x27)), .val (.int (Int32.ofNat x29)), .val (.int (Int32.ofNat x31)), .val (.int (Int32.ofNat x33)), .val (.int (Int32.ofNat x35)), .val (.int (Int32.ofNat x37)), .val (.int (own_nq ([0, 1, 2, 3, 4].getD x23 0) ([0, 1, 2, 3, 4].getD x25 0))), .val (.int (own_nq ([0, 1, 2, 3, 4].getD x23 0) ([0, 1, 2, 3, 4].getD x25 0))), .val (.int (own_nq ([m0q47, m1q47, m2q47, m3q47, m4q47].getD x27 0) ([m0q47, m1q47, m2q47, m3q47, m4q47].getD x29 0))), .val (.int (own_nq ([m0q47, m1q47, m2q47, m3q47, m4q47].getD x27 0) ([m0q47, m1q47, m2q47, m3q47, m4q47].getD x29 0))), .val (.int (own_nq ([m0q55, m1q55, m2q55, m3q55, m4q55].getD x31 0) ([m0q55, m1q55, m2q55, m3q55, m4q55].getD x33 0))), .val (.int (own_nq ([m0q55, m1q55, m2q55, m3q55, m4q55].getD x31 0) ([m0q55, m1q55, m2q55, m3q55, m4q55].getD x33 0))), .val (.int (own_nq ([m0q63, m1q63, m2q63, m3q63, m4q63].getD x35 0) ([m0q63, m1q63, m2q63, m3q63, m4q63].getD x37 0))), .unset, .unset, .unset, .unset, .unset, .unset, .unset] [(.int (Int32.ofNat x37)), (.int (Int32.ofNat x35)), (.ref b6)]))
  have f70 := (Vm63.keep Kq68 (ninS (Ne.symm ne39) nin0))
  obtain ⟨_, _, ⟨T71, L71, k71, n71⟩, -, X71, ⟨Lc71, hQ71, l71, y71, z71⟩, st71⟩ := Jvm.LawKit.callS X68 hx (y := (⟨"com/example/saar/saar/sim/PartsJoinPinLaw", "step", "([III)Z"⟩ : MethodName)) hown (mvT hZ (hw _ (List.mem_of_getElem? (i := 45) rfl))) (mvT hZ (hw _ (List.mem_of_getElem? (i := 46) rfl))) (mvT hZ (hw _ (List.mem_of_getElem? (i := 30) rfl))) (mvT hZ (hw _ (List.mem_of_getElem? (i := 47) rfl))) (by decide) (backOf (W := 0) (own_rmST l Z a0 hw [] b6 k6 x35 x37 m0q63 m1q63 m2q63 m3q63 m4q63 T68.heap n0 z69 ge6 f70 hx35 hx37 (own_rootl Im63 hx35).1 (own_rootl Im63 hx37).1 (Im63.2.2 0 (by decide)).2.1 (Im63.2.2 1 (by decide)).2.1 (Im63.2.2 2 (by decide)).2.1 (Im63.2.2 3 (by decide)).2.1 (Im63.2.2 4 (by decide)).2.1) hZ (hw _ (List.mem_of_getElem? (i := 47) rfl)) (hw _ (List.mem_of_getElem? (i := 30) rfl)) (by decide) (by decide)) (g := (mkF m 226 #[.val (.int p1), .val (.int p2), .val (.int p3), .val (.int p4), .val (.int p5), .val (.ref b1), .val (.ref b6), .val (.int (1 : Int32)), .val (.int (Int32.ofNat x23)), .val (.int (Int32.ofNat x25)), .val (.int (Int32.ofNat x27)), .val (.int (Int32.ofNat x29)), .val (.int (Int32.ofNat x31)), .val (.int (Int32.ofNat x33)), .val (.int (Int32.ofNat x35)), .val (.int (Int32.ofNat x37)), .val (.int (own_nq ([0, 1, 2, 3, 4].getD x23 0) ([0, 1, 2, 3, 4].getD x25 0))), .val (.int (own_nq ([0, 1, 2, 3, 4].getD x23 0) ([0, 1, 2, 3, 4].getD x25 0))), .val (.int (own_nq ([m0q47, m1q47, m2q47, m3q47, m4q47].getD x27 0) ([m0q47, m1q47, m2q47, m3q47, m4q47].getD x29 0))), .val (.int (own_nq ([m0q47, m1q47, m2q47, m3q47, m4q47].getD x27 0) ([m0q47, m1q47, m2q47, m3q47, m4q47].getD x29 0))), .val (.int (own_nq ([m0q55, m1q55, m2q55, m3q55, m4q55].getD x31 0) ([m0q55, m1q55, m2q55, m3q55, m4q55].getD x33 0))), .val (.int (own_nq ([m0q55, m1q55, m2q55, m3q55, m4q55].getD x31 0) ([m0q55, m1q55, m2q55, m3q55, m4q55].getD x33 0))), .val (.int (own_nq ([m0q63, m1q63, m2q63, m3q63, m4q63].getD x35 0) ([m0q63, m1q63, m2q63, m3q63, m4q63].getD x37 0))), .unset, .unset, .unset, .unset, .unset, .unset, .unset] [(.int (Int32.ofNat x37)), (.int (Int32.ofNat x35)), (.ref b6)])) rfl (by rw [hml]; rfl) (argsL := [(.ref b6), (.int (Int32.ofNat x35)), (.int (Int32.ofNat x37))]) (rest := []) (lenOf own_pd___III_Z rfl) rfl (by show 2 * 0 + _ ≤ _; exact Nat.le_of_eq rfl) (hb hby at_226) (fun _ _ => ⟨rfl, rfl, (by decide : 3 + 0 ≤ _), (by decide : 11 + 0 ≤ _)⟩)
  dsimp only [Pt.U, Pt.locs, Pt.cells, Pt.slots] at X71 l71 y71 z71 st71 hQ71
  rw [l71, y71, z71] at X71
  obtain ⟨rfl, Nq71, Kq71, Vq71⟩ := hQ71
  have N71 := Fr.app N68 Nq71
  refine own_st st71 ?_
  have z72 : n0 ≤ T71.heap.size := Nat.le_trans z69 Kq71.1
  obtain ⟨m0q71, m1q71, m2q71, m3q71, m4q71, Im71, Vm71⟩ : ∃ m0q71 m1q71 m2q71 m3q71 m4q71 : Nat, own_Inv 5 Pq68 [m0q71, m1q71, m2q71, m3q71, m4q71] dq68 ∧ Arv Z T71.heap b6 k6 .int (5 : Int32) [(.int (Int32.ofNat m0q71)), (.int (Int32.ofNat m1q71)), (.int (Int32.ofNat m2q71)), (.int (Int32.ofNat m3q71)), (.int (Int32.ofNat m4q71))] (.int (0 : Int32)) := ⟨_, _, _, _, _, Iq68, Vq71⟩
  show own_Go p.tables e below RR (T71.setTop (mkF m 229 #[.val (.int p1), .val (.int p2), .val (.int p3), .val (.int p4), .val (.int p5), .val (.ref b1), .val (.ref b6), .val (.int (1 : Int32)), .val (.int (Int32.ofNat x23)), .val (.int (Int32.ofNat x25)), .val (.int (Int32.ofNat x27)), .val (.int (Int32.ofNat x29)), .val (.int (Int32.ofNat x31)), .val (.int (Int32.ofNat x33)), .val (.int (Int32.ofNat x35)), .val (.int (Int32.ofNat x37)), .val (.int (own_nq ([0, 1, 2, 3, 4].getD x23 0) ([0, 1, 2, 3, 4].getD x25 0))), .val (.int (own_nq ([0, 1, 2, 3, 4].getD x23 0) ([0, 1, 2, 3, 4].getD x25 0))), .val (.int (own_nq ([m0q47, m1q47, m2q47, m3q47, m4q47].getD x27 0) ([m0q47, m1q47, m2q47, m3q47, m4q47].getD x29 0))), .val (.int (own_nq ([m0q47, m1q47, m2q47, m3q47, m4q47].getD x27 0) ([m0q47, m1q47, m2q47, m3q47, m4q47].getD x29 0))), .val (.int (own_nq ([m0q55, m1q55, m2q55, m3q55, m4q55].getD x31 0) ([m0q55, m1q55, m2q55, m3q55, m4q55].getD x33 0))), .val (.int (own_nq ([m0q55, m1q55, m2q55, m3q55, m4q55].getD x31 0) ([m0q55, m1q55, m2q55, m3q55, m4q55].getD x33 0))), .val (.int (own_nq ([m0q63, m1q63, m2q63, m3q63, m4q63].getD x35 0) ([m0q63, m1q63, m2q63, m3q63, m4q63].getD x37 0))), .unset, .unset, .unset, .unset, .unset, .unset, .unset] [(.int (own_nq ([m0q63, m1q63, m2q63, m3q63, m4q63].getD x35 0) ([m0q63, m1q63, m2q63, m3q63, m4q63].getD x37 0)))]))
  refine own_st (fun _ k => XS.istore X71.here hx rfl (hb hby at_229) rfl (l' := #[.val (.int p1), .val (.int p2), .val (.int p3), .val (.int p4), .val (.int p5), .val (.ref b1), .val (.ref b6), .val (.int (1 : Int32)), .val (.int (Int32.ofNat x23)), .val (.int (Int32.ofNat x25)), .val (.int (Int32.ofNat x27)), .val (.int (Int32.ofNat x29)), .val (.int (Int32.ofNat x31)), .val (.int (Int32.ofNat x33)), .val (.int (Int32.ofNat x35)), .val (.int (Int32.ofNat x37)), .val (.int (own_nq ([0, 1, 2, 3, 4].getD x23 0) ([0, 1, 2, 3, 4].getD x25 0))), .val (.int (own_nq ([0, 1, 2, 3, 4].getD x23 0) ([0, 1, 2, 3, 4].getD x25 0))), .val (.int (own_nq ([m0q47, m1q47, m2q47, m3q47, m4q47].getD x27 0) ([m0q47, m1q47, m2q47, m3q47, m4q47].getD x29 0))), .val (.int (own_nq ([m0q47, m1q47, m2q47, m3q47, m4q47].getD x27 0) ([m0q47, m1q47, m2q47, m3q47, m4q47].getD x29 0))), .val (.int (own_nq ([m0q55, m1q55, m2q55, m3q55, m4q55].getD x31 0) ([m0q55, m1q55, m2q55, m3q55, m4q55].getD x33 0))), .val (.int (own_nq ([m0q55, m1q55, m2q55, m3q55, m4q55].getD x31 0) ([m0q55, m1q55, m2q55, m3q55, m4q55].getD x33 0))), .val (.int (own_nq ([m0q63, m1q63, m2q63, m3q63, m4q63].getD x35 0) ([m0q63, m1q63, m2q63, m3q63, m4q63].getD x37 0))), .val (.int (own_nq ([m0q63, m1q63, m2q63, m3q63, m4q63].getD x35 0) ([m0q63, m1q63, m2q63, m3q63, m4q63].getD x37 0))), .unset, .unset, .unset, .unset, .unset, .unset]) rfl (XS.iload X71.here hx rfl (hb hby at_231) rfl k)) ?_
  show own_Go p.tables e below RR (T71.setTop (mkF m 233 #[.val (.int p1), .val (.int p2), .val (.int p3), .val (.int p4), .val (.int p5), .val (.ref b1), .val (.ref b6), .val (.int (1 : Int32)), .val (.int (Int32.ofNat x23)), .val (.int (Int32.ofNat x25)), .val (.int (Int32.ofNat x27)), .val (.int (Int32.ofNat x29)), .val (.int (Int32.ofNat x31)), .val (.int (Int32.ofNat x33)), .val (.int (Int32.ofNat x35)), .val (.int (Int32.ofNat x37)), .val (.int (own_nq ([0, 1, 2, 3, 4].getD x23 0) ([0, 1, 2, 3, 4].getD x25 0))), .val (.int (own_nq ([0, 1, 2, 3, 4].getD x23 0) ([0, 1, 2, 3, 4].getD x25 0))), .val (.int (own_nq ([m0q47, m1q47, m2q47, m3q47, m4q47].getD x27 0) ([m0q47, m1q47, m2q47, m3q47, m4q47].getD x29 0))), .val (.int (own_nq ([m0q47, m1q47, m2q47, m3q47, m4q47].getD x27 0) ([m0q47, m1q47, m2q47, m3q47, m4q47].getD x29 0))), .val (.int (own_nq ([m0q55, m1q55, m2q55, m3q55, m4q55].getD x31 0) ([m0q55, m1q55, m2q55, m3q55, m4q55].getD x33 0))), .val (.int (own_nq ([m0q55, m1q55, m2q55, m3q55, m4q55].getD x31 0) ([m0q55, m1q55, m2q55, m3q55, m4q55].getD x33 0))), .val (.int (own_nq ([m0q63, m1q63, m2q63, m3q63, m4q63].getD x35 0) ([m0q63, m1q63, m2q63, m3q63, m4q63].getD x37 0))), .val (.int (own_nq ([m0q63, m1q63, m2q63, m3q63, m4q63].getD x35 0) ([m0q63, m1q63, m2q63, m3q63, m4q63].getD x37 0))), .unset, .unset, .unset, .unset, .unset, .unset] [(.int (1 : Int32))]))
  refine own_st (fun _ k => XS.ifNo X71.here hx rfl (hb hby at_233) rfl ((if0 _ _).trans (feq (by decide)).1) (XS.iload X71.here hx rfl (hb hby at_236) rfl (XS.iload X71.here hx rfl (hb hby at_238) rfl k))) ?_
  show own_Go p.tables e below RR (T71.setTop (mkF m 240 #[.val (.int p1), .val (.int p2), .val (.int p3), .val (.int p4), .val (.int p5), .val (.ref b1), .val (.ref b6), .val (.int (1 : Int32)), .val (.int (Int32.ofNat x23)), .val (.int (Int32.ofNat x25)), .val (.int (Int32.ofNat x27)), .val (.int (Int32.ofNat x29)), .val (.int (Int32.ofNat x31)), .val (.int (Int32.ofNat x33)), .val (.int (Int32.ofNat x35)), .val (.int (Int32.ofNat x37)), .val (.int (own_nq ([0, 1, 2, 3, 4].getD x23 0) ([0, 1, 2, 3, 4].getD x25 0))), .val (.int (own_nq ([0, 1, 2, 3, 4].getD x23 0) ([0, 1, 2, 3, 4].getD x25 0))), .val (.int (own_nq ([m0q47, m1q47, m2q47, m3q47, m4q47].getD x27 0) ([m0q47, m1q47, m2q47, m3q47, m4q47].getD x29 0))), .val (.int (own_nq ([m0q47, m1q47, m2q47, m3q47, m4q47].getD x27 0) ([m0q47, m1q47, m2q47, m3q47, m4q47].getD x29 0))), .val (.int (own_nq ([m0q55, m1q55, m2q55, m3q55, m4q55].getD x31 0) ([m0q55, m1q55, m2q55, m3q55, m4q55].getD x33 0))), .val (.int (own_nq ([m0q55, m1q55, m2q55, m3q55, m4q55].getD x31 0) ([m0q55, m1q55, m2q55, m3q55, m4q55].getD x33 0))), .val (.int (own_nq ([m0q63, m1q63, m2q63, m3q63, m4q63].getD x35 0) ([m0q63, m1q63, m2q63, m3q63, m4q63].getD x37 0))), .val (.int (own_nq ([m0q63, m1q63, m2q63, m3q63, m4q63].getD x35 0) ([m0q63, m1q63, m2q63, m3q63, m4q63].getD x37 0))), .unset, .unset, .unset, .unset, .unset, .unset] [(.int (own_nq ([m0q63, m1q63, m2q63, m3q63, m4q63].getD x35 0) ([m0q63, m1q63, m2q63, m3q63, m4q63].getD x37 0))), (.int (own_nq ([m0q63, m1q63, m2q63, m3q63, m4q63].getD x35 0) ([m0q63, m1q63, m2q63, m3q63, m4q63].getD x37 0)))]))
  refine own_st (fun _ k => XS.icmpNo X71.here hx rfl (hb hby at_240) rfl (teq rfl).2 (XS.iconst X71.here hx rfl (hb hby at_243) (XS.goto X71.here hx rfl (pc0 := 244) (pc' := 248) rfl (hb hby at_244) (by decide) (by decide) (XS.istore X71.here hx rfl (hb hby at_248) rfl (l' := #[.val (.int p1), .val (.int p2), .val (.int p3), .val (.int p4), .val (.int p5), .val (.ref b1), .val (.ref b6), .val (.int (1 : Int32)), .val (.int (Int32.ofNat x23)), .val (.int (Int32.ofNat x25)), .val (.int (Int32.ofNat x27)), .val (.int (Int32.ofNat x29)), .val (.int (Int32.ofNat x31)), .val (.int (Int32.ofNat x33)), .val (.int (Int32.ofNat x35)), .val (.int (Int32.ofNat x37)), .val (.int (own_nq ([0, 1, 2, 3, 4].getD x23 0) ([0, 1, 2, 3, 4].getD x25 0))), .val (.int (own_nq ([0, 1, 2, 3, 4].getD x23 0) ([0, 1, 2, 3, 4].getD x25 0))), .val (.int (own_nq ([m0q47, m1q47, m2q47, m3q47, m4q47].getD x27 0) ([m0q47, m1q47, m2q47, m3q47, m4q47].getD x29 0))), .val (.int (own_nq ([m0q47, m1q47, m2q47, m3q47, m4q47].getD x27 0) ([m0q47, m1q47, m2q47, m3q47, m4q47].getD x29 0))), .val (.int (own_nq ([m0q55, m1q55, m2q55, m3q55, m4q55].getD x31 0) ([m0q55, m1q55, m2q55, m3q55, m4q55].getD x33 0))), .val (.int (own_nq ([m0q55, m1q55, m2q55, m3q55, m4q55].getD x31 0) ([m0q55, m1q55, m2q55, m3q55, m4q55].getD x33 0))), .val (.int (own_nq ([m0q63, m1q63, m2q63, m3q63, m4q63].getD x35 0) ([m0q63, m1q63, m2q63, m3q63, m4q63].getD x37 0))), .val (.int (own_nq ([m0q63, m1q63, m2q63, m3q63, m4q63].getD x35 0) ([m0q63, m1q63, m2q63, m3q63, m4q63].getD x37 0))), .unset, .unset, .unset, .unset, .unset, .unset]) rfl (XS.iload X71.here hx rfl (hb hby at_250) rfl k))))) ?_
  show own_Go p.tables e below RR (T71.setTop (mkF m 252 #[.val (.int p1), .val (.int p2), .val (.int p3), .val (.int p4), .val (.int p5), .val (.ref b1), .val (.ref b6), .val (.int (1 : Int32)), .val (.int (Int32.ofNat x23)), .val (.int (Int32.ofNat x25)), .val (.int (Int32.ofNat x27)), .val (.int (Int32.ofNat x29)), .val (.int (Int32.ofNat x31)), .val (.int (Int32.ofNat x33)), .val (.int (Int32.ofNat x35)), .val (.int (Int32.ofNat x37)), .val (.int (own_nq ([0, 1, 2, 3, 4].getD x23 0) ([0, 1, 2, 3, 4].getD x25 0))), .val (.int (own_nq ([0, 1, 2, 3, 4].getD x23 0) ([0, 1, 2, 3, 4].getD x25 0))), .val (.int (own_nq ([m0q47, m1q47, m2q47, m3q47, m4q47].getD x27 0) ([m0q47, m1q47, m2q47, m3q47, m4q47].getD x29 0))), .val (.int (own_nq ([m0q47, m1q47, m2q47, m3q47, m4q47].getD x27 0) ([m0q47, m1q47, m2q47, m3q47, m4q47].getD x29 0))), .val (.int (own_nq ([m0q55, m1q55, m2q55, m3q55, m4q55].getD x31 0) ([m0q55, m1q55, m2q55, m3q55, m4q55].getD x33 0))), .val (.int (own_nq ([m0q55, m1q55, m2q55, m3q55, m4q55].getD x31 0) ([m0q55, m1q55, m2q55, m3q55, m4q55].getD x33 0))), .val (.int (own_nq ([m0q63, m1q63, m2q63, m3q63, m4q63].getD x35 0) ([m0q63, m1q63, m2q63, m3q63, m4q63].getD x37 0))), .val (.int (own_nq ([m0q63, m1q63, m2q63, m3q63, m4q63].getD x35 0) ([m0q63, m1q63, m2q63, m3q63, m4q63].getD x37 0))), .unset, .unset, .unset, .unset, .unset, .unset] [(.int p5)]))
  obtain ⟨x73, hx73, ex73⟩ := own_m5 (p5)
  obtain ⟨_, _, ⟨T74, L74, k74, n74⟩, -, X74, ⟨Lc74, hQ74, l74, y74, z74⟩, st74⟩ := Jvm.LawKit.callS X71 hx (y := (⟨"com/example/saar/saar/sim/PartsJoinPinLaw", "lo", "(I)I"⟩ : MethodName)) hown (mvT hZ (hw _ (List.mem_of_getElem? (i := 28) rfl))) (mvT hZ (hw _ (List.mem_of_getElem? (i := 29) rfl))) (mvT hZ (hw _ (List.mem_of_getElem? (i := 30) rfl))) (mvT hZ (hw _ (List.mem_of_getElem? (i := 31) rfl))) (by decide) (backOf (W := 0) (own_rmLO l Z a0 hw [] p5 x73 T71.heap n0 z72 ex73) hZ (hw _ (List.mem_of_getElem? (i := 31) rfl)) (hw _ (List.mem_of_getElem? (i := 30) rfl)) (by decide) (by decide)) (g := (mkF m 252 #[.val (.int p1), .val (.int p2), .val (.int p3), .val (.int p4), .val (.int p5), .val (.ref b1), .val (.ref b6), .val (.int (1 : Int32)), .val (.int (Int32.ofNat x23)), .val (.int (Int32.ofNat x25)), .val (.int (Int32.ofNat x27)), .val (.int (Int32.ofNat x29)), .val (.int (Int32.ofNat x31)), .val (.int (Int32.ofNat x33)), .val (.int (Int32.ofNat x35)), .val (.int (Int32.ofNat x37)), .val (.int (own_nq ([0, 1, 2, 3, 4].getD x23 0) ([0, 1, 2, 3, 4].getD x25 0))), .val (.int (own_nq ([0, 1, 2, 3, 4].getD x23 0) ([0, 1, 2, 3, 4].getD x25 0))), .val (.int (own_nq ([m0q47, m1q47, m2q47, m3q47, m4q47].getD x27 0) ([m0q47, m1q47, m2q47, m3q47, m4q47].getD x29 0))), .val (.int (own_nq ([m0q47, m1q47, m2q47, m3q47, m4q47].getD x27 0) ([m0q47, m1q47, m2q47, m3q47, m4q47].getD x29 0))), .val (.int (own_nq ([m0q55, m1q55, m2q55, m3q55, m4q55].getD x31 0) ([m0q55, m1q55, m2q55, m3q55, m4q55].getD x33 0))), .val (.int (own_nq ([m0q55, m1q55, m2q55, m3q55, m4q55].getD x31 0) ([m0q55, m1q55, m2q55, m3q55, m4q55].getD x33 0))), .val (.int (own_nq ([m0q63, m1q63, m2q63, m3q63, m4q63].getD x35 0) ([m0q63, m1q63, m2q63, m3q63, m4q63].getD x37 0))), .val (.int (own_nq ([m0q63, m1q63, m2q63, m3q63, m4q63].getD x35 0) ([m0q63, m1q63, m2q63, m3q63, m4q63].getD x37 0))), .unset, .unset, .unset, .unset, .unset, .unset] [(.int p5)])) rfl (by rw [hml]; rfl) (argsL := [(.int p5)]) (rest := []) (lenOf own_pd__I_I rfl) rfl (by show 2 * 0 + _ ≤ _; exact Nat.le_of_eq rfl) (hb hby at_252) (fun _ _ => ⟨rfl, rfl, (by decide : 3 + 0 ≤ _), (by decide : 11 + 0 ≤ _)⟩)
  dsimp only [Pt.U, Pt.locs, Pt.cells, Pt.slots] at X74 l74 y74 z74 st74 hQ74
  rw [l74, y74, z74] at X74
  obtain ⟨rfl, Nq74, eq74⟩ := hQ74
  have N74 := Fr.app N71 Nq74
  refine own_st st74 ?_
  show own_Go p.tables e below RR (T74.setTop (mkF m 255 #[.val (.int p1), .val (.int p2), .val (.int p3), .val (.int p4), .val (.int p5), .val (.ref b1), .val (.ref b6), .val (.int (1 : Int32)), .val (.int (Int32.ofNat x23)), .val (.int (Int32.ofNat x25)), .val (.int (Int32.ofNat x27)), .val (.int (Int32.ofNat x29)), .val (.int (Int32.ofNat x31)), .val (.int (Int32.ofNat x33)), .val (.int (Int32.ofNat x35)), .val (.int (Int32.ofNat x37)), .val (.int (own_nq ([0, 1, 2, 3, 4].getD x23 0) ([0, 1, 2, 3, 4].getD x25 0))), .val (.int (own_nq ([0, 1, 2, 3, 4].getD x23 0) ([0, 1, 2, 3, 4].getD x25 0))), .val (.int (own_nq ([m0q47, m1q47, m2q47, m3q47, m4q47].getD x27 0) ([m0q47, m1q47, m2q47, m3q47, m4q47].getD x29 0))), .val (.int (own_nq ([m0q47, m1q47, m2q47, m3q47, m4q47].getD x27 0) ([m0q47, m1q47, m2q47, m3q47, m4q47].getD x29 0))), .val (.int (own_nq ([m0q55, m1q55, m2q55, m3q55, m4q55].getD x31 0) ([m0q55, m1q55, m2q55, m3q55, m4q55].getD x33 0))), .val (.int (own_nq ([m0q55, m1q55, m2q55, m3q55, m4q55].getD x31 0) ([m0q55, m1q55, m2q55, m3q55, m4q55].getD x33 0))), .val (.int (own_nq ([m0q63, m1q63, m2q63, m3q63, m4q63].getD x35 0) ([m0q63, m1q63, m2q63, m3q63, m4q63].getD x37 0))), .val (.int (own_nq ([m0q63, m1q63, m2q63, m3q63, m4q63].getD x35 0) ([m0q63, m1q63, m2q63, m3q63, m4q63].getD x37 0))), .unset, .unset, .unset, .unset, .unset, .unset] [(.int (Int32.ofNat x73))]))
  refine own_st (fun _ k => XS.istore X74.here hx rfl (hb hby at_255) rfl (l' := #[.val (.int p1), .val (.int p2), .val (.int p3), .val (.int p4), .val (.int p5), .val (.ref b1), .val (.ref b6), .val (.int (1 : Int32)), .val (.int (Int32.ofNat x23)), .val (.int (Int32.ofNat x25)), .val (.int (Int32.ofNat x27)), .val (.int (Int32.ofNat x29)), .val (.int (Int32.ofNat x31)), .val (.int (Int32.ofNat x33)), .val (.int (Int32.ofNat x35)), .val (.int (Int32.ofNat x37)), .val (.int (own_nq ([0, 1, 2, 3, 4].getD x23 0) ([0, 1, 2, 3, 4].getD x25 0))), .val (.int (own_nq ([0, 1, 2, 3, 4].getD x23 0) ([0, 1, 2, 3, 4].getD x25 0))), .val (.int (own_nq ([m0q47, m1q47, m2q47, m3q47, m4q47].getD x27 0) ([m0q47, m1q47, m2q47, m3q47, m4q47].getD x29 0))), .val (.int (own_nq ([m0q47, m1q47, m2q47, m3q47, m4q47].getD x27 0) ([m0q47, m1q47, m2q47, m3q47, m4q47].getD x29 0))), .val (.int (own_nq ([m0q55, m1q55, m2q55, m3q55, m4q55].getD x31 0) ([m0q55, m1q55, m2q55, m3q55, m4q55].getD x33 0))), .val (.int (own_nq ([m0q55, m1q55, m2q55, m3q55, m4q55].getD x31 0) ([m0q55, m1q55, m2q55, m3q55, m4q55].getD x33 0))), .val (.int (own_nq ([m0q63, m1q63, m2q63, m3q63, m4q63].getD x35 0) ([m0q63, m1q63, m2q63, m3q63, m4q63].getD x37 0))), .val (.int (own_nq ([m0q63, m1q63, m2q63, m3q63, m4q63].getD x35 0) ([m0q63, m1q63, m2q63, m3q63, m4q63].getD x37 0))), .val (.int (Int32.ofNat x73)), .unset, .unset, .unset, .unset, .unset]) rfl (XS.iload X74.here hx rfl (hb hby at_257) rfl k)) ?_
  show own_Go p.tables e below RR (T74.setTop (mkF m 259 #[.val (.int p1), .val (.int p2), .val (.int p3), .val (.int p4), .val (.int p5), .val (.ref b1), .val (.ref b6), .val (.int (1 : Int32)), .val (.int (Int32.ofNat x23)), .val (.int (Int32.ofNat x25)), .val (.int (Int32.ofNat x27)), .val (.int (Int32.ofNat x29)), .val (.int (Int32.ofNat x31)), .val (.int (Int32.ofNat x33)), .val (.int (Int32.ofNat x35)), .val (.int (Int32.ofNat x37)), .val (.int (own_nq ([0, 1, 2, 3, 4].getD x23 0) ([0, 1, 2, 3, 4].getD x25 0))), .val (.int (own_nq ([0, 1, 2, 3, 4].getD x23 0) ([0, 1, 2, 3, 4].getD x25 0))), .val (.int (own_nq ([m0q47, m1q47, m2q47, m3q47, m4q47].getD x27 0) ([m0q47, m1q47, m2q47, m3q47, m4q47].getD x29 0))), .val (.int (own_nq ([m0q47, m1q47, m2q47, m3q47, m4q47].getD x27 0) ([m0q47, m1q47, m2q47, m3q47, m4q47].getD x29 0))), .val (.int (own_nq ([m0q55, m1q55, m2q55, m3q55, m4q55].getD x31 0) ([m0q55, m1q55, m2q55, m3q55, m4q55].getD x33 0))), .val (.int (own_nq ([m0q55, m1q55, m2q55, m3q55, m4q55].getD x31 0) ([m0q55, m1q55, m2q55, m3q55, m4q55].getD x33 0))), .val (.int (own_nq ([m0q63, m1q63, m2q63, m3q63, m4q63].getD x35 0) ([m0q63, m1q63, m2q63, m3q63, m4q63].getD x37 0))), .val (.int (own_nq ([m0q63, m1q63, m2q63, m3q63, m4q63].getD x35 0) ([m0q63, m1q63, m2q63, m3q63, m4q63].getD x37 0))), .val (.int (Int32.ofNat x73)), .unset, .unset, .unset, .unset, .unset] [(.int p5)]))
  obtain ⟨x75, hx75, ex75⟩ := own_m5 (((p5.toUInt32 >>> ((8 : Int32) &&& 31).toUInt32).toInt32))
  obtain ⟨_, _, ⟨T76, L76, k76, n76⟩, -, X76, ⟨Lc76, hQ76, l76, y76, z76⟩, st76⟩ := Jvm.LawKit.callS X74 hx (y := (⟨"com/example/saar/saar/sim/PartsJoinPinLaw", "hi", "(I)I"⟩ : MethodName)) hown (mvT hZ (hw _ (List.mem_of_getElem? (i := 32) rfl))) (mvT hZ (hw _ (List.mem_of_getElem? (i := 33) rfl))) (mvT hZ (hw _ (List.mem_of_getElem? (i := 30) rfl))) (mvT hZ (hw _ (List.mem_of_getElem? (i := 34) rfl))) (by decide) (backOf (W := 0) (own_rmHI l Z a0 hw [] p5 x75 T71.heap n0 z72 ex75) hZ (hw _ (List.mem_of_getElem? (i := 34) rfl)) (hw _ (List.mem_of_getElem? (i := 30) rfl)) (by decide) (by decide)) (g := (mkF m 259 #[.val (.int p1), .val (.int p2), .val (.int p3), .val (.int p4), .val (.int p5), .val (.ref b1), .val (.ref b6), .val (.int (1 : Int32)), .val (.int (Int32.ofNat x23)), .val (.int (Int32.ofNat x25)), .val (.int (Int32.ofNat x27)), .val (.int (Int32.ofNat x29)), .val (.int (Int32.ofNat x31)), .val (.int (Int32.ofNat x33)), .val (.int (Int32.ofNat x35)), .val (.int (Int32.ofNat x37)), .val (.int (own_nq ([0, 1, 2, 3, 4].getD x23 0) ([0, 1, 2, 3, 4].getD x25 0))), .val (.int (own_nq ([0, 1, 2, 3, 4].getD x23 0) ([0, 1, 2, 3, 4].getD x25 0))), .val (.int (own_nq ([m0q47, m1q47, m2q47, m3q47, m4q47].getD x27 0) ([m0q47, m1q47, m2q47, m3q47, m4q47].getD x29 0))), .val (.int (own_nq ([m0q47, m1q47, m2q47, m3q47, m4q47].getD x27 0) ([m0q47, m1q47, m2q47, m3q47, m4q47].getD x29 0))), .val (.int (own_nq ([m0q55, m1q55, m2q55, m3q55, m4q55].getD x31 0) ([m0q55, m1q55, m2q55, m3q55, m4q55].getD x33 0))), .val (.int (own_nq ([m0q55, m1q55, m2q55, m3q55, m4q55].getD x31 0) ([m0q55, m1q55, m2q55, m3q55, m4q55].getD x33 0))), .val (.int (own_nq ([m0q63, m1q63, m2q63, m3q63, m4q63].getD x35 0) ([m0q63, m1q63, m2q63, m3q63, m4q63].getD x37 0))), .val (.int (own_nq ([m0q63, m1q63, m2q63, m3q63, m4q63].getD x35 0) ([m0q63, m1q63, m2q63, m3q63, m4q63].getD x37 0))), .val (.int (Int32.ofNat x73)), .unset, .unset, .unset, .unset, .unset] [(.int p5)])) rfl (by rw [hml]; rfl) (argsL := [(.int p5)]) (rest := []) (lenOf own_pd__I_I rfl) rfl (by show 2 * 0 + _ ≤ _; exact Nat.le_of_eq rfl) (hb hby at_259) (fun _ _ => ⟨rfl, eq74, (by decide : 3 + 0 ≤ _), (by decide : 11 + 0 ≤ _)⟩)
  dsimp only [Pt.U, Pt.locs, Pt.cells, Pt.slots] at X76 l76 y76 z76 st76 hQ76
  rw [l76, y76, z76] at X76
  obtain ⟨rfl, Nq76, eq76⟩ := hQ76
  have N76 := Fr.app N74 Nq76
  refine own_st st76 ?_
  show own_Go p.tables e below RR (T76.setTop (mkF m 262 #[.val (.int p1), .val (.int p2), .val (.int p3), .val (.int p4), .val (.int p5), .val (.ref b1), .val (.ref b6), .val (.int (1 : Int32)), .val (.int (Int32.ofNat x23)), .val (.int (Int32.ofNat x25)), .val (.int (Int32.ofNat x27)), .val (.int (Int32.ofNat x29)), .val (.int (Int32.ofNat x31)), .val (.int (Int32.ofNat x33)), .val (.int (Int32.ofNat x35)), .val (.int (Int32.ofNat x37)), .val (.int (own_nq ([0, 1, 2, 3, 4].getD x23 0) ([0, 1, 2, 3, 4].getD x25 0))), .val (.int (own_nq ([0, 1, 2, 3, 4].getD x23 0) ([0, 1, 2, 3, 4].getD x25 0))), .val (.int (own_nq ([m0q47, m1q47, m2q47, m3q47, m4q47].getD x27 0) ([m0q47, m1q47, m2q47, m3q47, m4q47].getD x29 0))), .val (.int (own_nq ([m0q47, m1q47, m2q47, m3q47, m4q47].getD x27 0) ([m0q47, m1q47, m2q47, m3q47, m4q47].getD x29 0))), .val (.int (own_nq ([m0q55, m1q55, m2q55, m3q55, m4q55].getD x31 0) ([m0q55, m1q55, m2q55, m3q55, m4q55].getD x33 0))), .val (.int (own_nq ([m0q55, m1q55, m2q55, m3q55, m4q55].getD x31 0) ([m0q55, m1q55, m2q55, m3q55, m4q55].getD x33 0))), .val (.int (own_nq ([m0q63, m1q63, m2q63, m3q63, m4q63].getD x35 0) ([m0q63, m1q63, m2q63, m3q63, m4q63].getD x37 0))), .val (.int (own_nq ([m0q63, m1q63, m2q63, m3q63, m4q63].getD x35 0) ([m0q63, m1q63, m2q63, m3q63, m4q63].getD x37 0))), .val (.int (Int32.ofNat x73)), .unset, .unset, .unset, .unset, .unset] [(.int (Int32.ofNat x75))]))
  refine own_st (fun _ k => XS.istore X76.here hx rfl (hb hby at_262) rfl (l' := #[.val (.int p1), .val (.int p2), .val (.int p3), .val (.int p4), .val (.int p5), .val (.ref b1), .val (.ref b6), .val (.int (1 : Int32)), .val (.int (Int32.ofNat x23)), .val (.int (Int32.ofNat x25)), .val (.int (Int32.ofNat x27)), .val (.int (Int32.ofNat x29)), .val (.int (Int32.ofNat x31)), .val (.int (Int32.ofNat x33)), .val (.int (Int32.ofNat x35)), .val (.int (Int32.ofNat x37)), .val (.int (own_nq ([0, 1, 2, 3, 4].getD x23 0) ([0, 1, 2, 3, 4].getD x25 0))), .val (.int (own_nq ([0, 1, 2, 3, 4].getD x23 0) ([0, 1, 2, 3, 4].getD x25 0))), .val (.int (own_nq ([m0q47, m1q47, m2q47, m3q47, m4q47].getD x27 0) ([m0q47, m1q47, m2q47, m3q47, m4q47].getD x29 0))), .val (.int (own_nq ([m0q47, m1q47, m2q47, m3q47, m4q47].getD x27 0) ([m0q47, m1q47, m2q47, m3q47, m4q47].getD x29 0))), .val (.int (own_nq ([m0q55, m1q55, m2q55, m3q55, m4q55].getD x31 0) ([m0q55, m1q55, m2q55, m3q55, m4q55].getD x33 0))), .val (.int (own_nq ([m0q55, m1q55, m2q55, m3q55, m4q55].getD x31 0) ([m0q55, m1q55, m2q55, m3q55, m4q55].getD x33 0))), .val (.int (own_nq ([m0q63, m1q63, m2q63, m3q63, m4q63].getD x35 0) ([m0q63, m1q63, m2q63, m3q63, m4q63].getD x37 0))), .val (.int (own_nq ([m0q63, m1q63, m2q63, m3q63, m4q63].getD x35 0) ([m0q63, m1q63, m2q63, m3q63, m4q63].getD x37 0))), .val (.int (Int32.ofNat x73)), .val (.int (Int32.ofNat x75)), .unset, .unset, .unset, .unset]) rfl (XS.aload X76.here hx rfl (hb hby at_264) rfl rfl (XS.iload X76.here hx rfl (hb hby at_266) rfl k))) ?_
  show own_Go p.tables e below RR (T76.setTop (mkF m 268 #[.val (.int p1), .val (.int p2), .val (.int p3), .val (.int p4), .val (.int p5), .val (.ref b1), .val (.ref b6), .val (.int (1 : Int32)), .val (.int (Int32.ofNat x23)), .val (.int (Int32.ofNat x25)), .val (.int (Int32.ofNat x27)), .val (.int (Int32.ofNat x29)), .val (.int (Int32.ofNat x31)), .val (.int (Int32.ofNat x33)), .val (.int (Int32.ofNat x35)), .val (.int (Int32.ofNat x37)), .val (.int (own_nq ([0, 1, 2, 3, 4].getD x23 0) ([0, 1, 2, 3, 4].getD x25 0))), .val (.int (own_nq ([0, 1, 2, 3, 4].getD x23 0) ([0, 1, 2, 3, 4].getD x25 0))), .val (.int (own_nq ([m0q47, m1q47, m2q47, m3q47, m4q47].getD x27 0) ([m0q47, m1q47, m2q47, m3q47, m4q47].getD x29 0))), .val (.int (own_nq ([m0q47, m1q47, m2q47, m3q47, m4q47].getD x27 0) ([m0q47, m1q47, m2q47, m3q47, m4q47].getD x29 0))), .val (.int (own_nq ([m0q55, m1q55, m2q55, m3q55, m4q55].getD x31 0) ([m0q55, m1q55, m2q55, m3q55, m4q55].getD x33 0))), .val (.int (own_nq ([m0q55, m1q55, m2q55, m3q55, m4q55].getD x31 0) ([m0q55, m1q55, m2q55, m3q55, m4q55].getD x33 0))), .val (.int (own_nq ([m0q63, m1q63, m2q63, m3q63, m4q63].getD x35 0) ([m0q63, m1q63, m2q63, m3q63, m4q63].getD x37 0))), .val (.int (own_nq ([m0q63, m1q63, m2q63, m3q63, m4q63].getD x35 0) ([m0q63, m1q63, m2q63, m3q63, m4q63].getD x37 0))), .val (.int (Int32.ofNat x73)), .val (.int (Int32.ofNat x75)), .unset, .unset, .unset, .unset] [(.int (Int32.ofNat x73)), (.ref b1)]))
  have f77 := (Vq68.keep Kq71 (ninS ne39 nin0))
  have f78 := ((f67.keep Kq68 (ninS nn4 nin0)).keep Kq71 (ninS ne42 nin0))
  have f80 := ((f66.keep Kq68).keep Kq71)
  obtain ⟨cq79, kq79, q79a, q79b, q79c⟩ := isOf hZ eq76 f80
  obtain ⟨_, _, ⟨T79, L79, k79, n79⟩, -, X79, ⟨Lc79, hQ79, l79, y79, z79⟩, st79⟩ := X76.virtualBack hx (y := (⟨"com/example/saar/saar/sim/Parts", "of", "(I)I"⟩ : MethodName)) (z := (⟨"com/example/saar/saar/sim/Parts", "of", "(I)I"⟩ : MethodName)) hown (mvT hZ (hw _ (List.mem_of_getElem? (i := 48) rfl))) (mvT hZ (hw _ (List.mem_of_getElem? (i := 41) rfl))) (notFace_of_selects (args := #[]) (mvT hZ (hw _ (List.mem_of_getElem? (i := 43) rfl)))) (mvT hZ (hw _ (List.mem_of_getElem? (i := 43) rfl))) (mvT hZ (hw _ (List.mem_of_getElem? (i := 42) rfl))) (by decide) (backOf (W := 0) (own_rmOF l Z a0 hw [] b1 b3 kq4 Pq68 [m0q71, m1q71, m2q71, m3q71, m4q71] dq68 x73 T71.heap n0 z72 f78 f77 nn4 ge3 Im71 hx73) hZ (hw _ (List.mem_of_getElem? (i := 44) rfl)) (hw _ (List.mem_of_getElem? (i := 2) rfl)) (by decide) (by decide)) q79a q79c (g := (mkF m 268 #[.val (.int p1), .val (.int p2), .val (.int p3), .val (.int p4), .val (.int p5), .val (.ref b1), .val (.ref b6), .val (.int (1 : Int32)), .val (.int (Int32.ofNat x23)), .val (.int (Int32.ofNat x25)), .val (.int (Int32.ofNat x27)), .val (.int (Int32.ofNat x29)), .val (.int (Int32.ofNat x31)), .val (.int (Int32.ofNat x33)), .val (.int (Int32.ofNat x35)), .val (.int (Int32.ofNat x37)), .val (.int (own_nq ([0, 1, 2, 3, 4].getD x23 0) ([0, 1, 2, 3, 4].getD x25 0))), .val (.int (own_nq ([0, 1, 2, 3, 4].getD x23 0) ([0, 1, 2, 3, 4].getD x25 0))), .val (.int (own_nq ([m0q47, m1q47, m2q47, m3q47, m4q47].getD x27 0) ([m0q47, m1q47, m2q47, m3q47, m4q47].getD x29 0))), .val (.int (own_nq ([m0q47, m1q47, m2q47, m3q47, m4q47].getD x27 0) ([m0q47, m1q47, m2q47, m3q47, m4q47].getD x29 0))), .val (.int (own_nq ([m0q55, m1q55, m2q55, m3q55, m4q55].getD x31 0) ([m0q55, m1q55, m2q55, m3q55, m4q55].getD x33 0))), .val (.int (own_nq ([m0q55, m1q55, m2q55, m3q55, m4q55].getD x31 0) ([m0q55, m1q55, m2q55, m3q55, m4q55].getD x33 0))), .val (.int (own_nq ([m0q63, m1q63, m2q63, m3q63, m4q63].getD x35 0) ([m0q63, m1q63, m2q63, m3q63, m4q63].getD x37 0))), .val (.int (own_nq ([m0q63, m1q63, m2q63, m3q63, m4q63].getD x35 0) ([m0q63, m1q63, m2q63, m3q63, m4q63].getD x37 0))), .val (.int (Int32.ofNat x73)), .val (.int (Int32.ofNat x75)), .unset, .unset, .unset, .unset] [(.int (Int32.ofNat x73)), (.ref b1)])) rfl (by rw [hml]; rfl) (Steps.refl _) (argsL := [(.int (Int32.ofNat x73))]) (rest := []) (lenOf own_pd__I_I rfl) rfl (by show 2 * 0 + _ ≤ _; exact Nat.le_of_eq rfl) (hb hby at_268) (fun _ _ => ⟨rfl, eq76, (by decide : 3 + 0 ≤ _), (by decide : 11 + 0 ≤ _)⟩)
  dsimp only [Pt.U, Pt.locs, Pt.cells, Pt.slots] at X79 l79 y79 z79 st79 hQ79
  rw [l79, y79, z79] at X79
  obtain ⟨rfl, Nq79, Kq79, Pq79, Iq79, Vq79⟩ := hQ79
  have N79 := Fr.app N76 Nq79
  refine own_st (fun _ k => st79.trans k) ?_
  have z81 : n0 ≤ T79.heap.size := Nat.le_trans z72 Kq79.1
  show own_Go p.tables e below RR (T79.setTop (mkF m 271 #[.val (.int p1), .val (.int p2), .val (.int p3), .val (.int p4), .val (.int p5), .val (.ref b1), .val (.ref b6), .val (.int (1 : Int32)), .val (.int (Int32.ofNat x23)), .val (.int (Int32.ofNat x25)), .val (.int (Int32.ofNat x27)), .val (.int (Int32.ofNat x29)), .val (.int (Int32.ofNat x31)), .val (.int (Int32.ofNat x33)), .val (.int (Int32.ofNat x35)), .val (.int (Int32.ofNat x37)), .val (.int (own_nq ([0, 1, 2, 3, 4].getD x23 0) ([0, 1, 2, 3, 4].getD x25 0))), .val (.int (own_nq ([0, 1, 2, 3, 4].getD x23 0) ([0, 1, 2, 3, 4].getD x25 0))), .val (.int (own_nq ([m0q47, m1q47, m2q47, m3q47, m4q47].getD x27 0) ([m0q47, m1q47, m2q47, m3q47, m4q47].getD x29 0))), .val (.int (own_nq ([m0q47, m1q47, m2q47, m3q47, m4q47].getD x27 0) ([m0q47, m1q47, m2q47, m3q47, m4q47].getD x29 0))), .val (.int (own_nq ([m0q55, m1q55, m2q55, m3q55, m4q55].getD x31 0) ([m0q55, m1q55, m2q55, m3q55, m4q55].getD x33 0))), .val (.int (own_nq ([m0q55, m1q55, m2q55, m3q55, m4q55].getD x31 0) ([m0q55, m1q55, m2q55, m3q55, m4q55].getD x33 0))), .val (.int (own_nq ([m0q63, m1q63, m2q63, m3q63, m4q63].getD x35 0) ([m0q63, m1q63, m2q63, m3q63, m4q63].getD x37 0))), .val (.int (own_nq ([m0q63, m1q63, m2q63, m3q63, m4q63].getD x35 0) ([m0q63, m1q63, m2q63, m3q63, m4q63].getD x37 0))), .val (.int (Int32.ofNat x73)), .val (.int (Int32.ofNat x75)), .unset, .unset, .unset, .unset] [(.int (Int32.ofNat ([m0q71, m1q71, m2q71, m3q71, m4q71].getD x73 0)))]))
  refine own_st (fun _ k => XS.istore X79.here hx rfl (hb hby at_271) rfl (l' := #[.val (.int p1), .val (.int p2), .val (.int p3), .val (.int p4), .val (.int p5), .val (.ref b1), .val (.ref b6), .val (.int (1 : Int32)), .val (.int (Int32.ofNat x23)), .val (.int (Int32.ofNat x25)), .val (.int (Int32.ofNat x27)), .val (.int (Int32.ofNat x29)), .val (.int (Int32.ofNat x31)), .val (.int (Int32.ofNat x33)), .val (.int (Int32.ofNat x35)), .val (.int (Int32.ofNat x37)), .val (.int (own_nq ([0, 1, 2, 3, 4].getD x23 0) ([0, 1, 2, 3, 4].getD x25 0))), .val (.int (own_nq ([0, 1, 2, 3, 4].getD x23 0) ([0, 1, 2, 3, 4].getD x25 0))), .val (.int (own_nq ([m0q47, m1q47, m2q47, m3q47, m4q47].getD x27 0) ([m0q47, m1q47, m2q47, m3q47, m4q47].getD x29 0))), .val (.int (own_nq ([m0q47, m1q47, m2q47, m3q47, m4q47].getD x27 0) ([m0q47, m1q47, m2q47, m3q47, m4q47].getD x29 0))), .val (.int (own_nq ([m0q55, m1q55, m2q55, m3q55, m4q55].getD x31 0) ([m0q55, m1q55, m2q55, m3q55, m4q55].getD x33 0))), .val (.int (own_nq ([m0q55, m1q55, m2q55, m3q55, m4q55].getD x31 0) ([m0q55, m1q55, m2q55, m3q55, m4q55].getD x33 0))), .val (.int (own_nq ([m0q63, m1q63, m2q63, m3q63, m4q63].getD x35 0) ([m0q63, m1q63, m2q63, m3q63, m4q63].getD x37 0))), .val (.int (own_nq ([m0q63, m1q63, m2q63, m3q63, m4q63].getD x35 0) ([m0q63, m1q63, m2q63, m3q63, m4q63].getD x37 0))), .val (.int (Int32.ofNat x73)), .val (.int (Int32.ofNat x75)), .val (.int (Int32.ofNat ([m0q71, m1q71, m2q71, m3q71, m4q71].getD x73 0))), .unset, .unset, .unset]) rfl (XS.aload X79.here hx rfl (hb hby at_273) rfl rfl (XS.iload X79.here hx rfl (hb hby at_275) rfl k))) ?_
  show own_Go p.tables e below RR (T79.setTop (mkF m 277 #[.val (.int p1), .val (.int p2), .val (.int p3), .val (.int p4), .val (.int p5), .val (.ref b1), .val (.ref b6), .val (.int (1 : Int32)), .val (.int (Int32.ofNat x23)), .val (.int (Int32.ofNat x25)), .val (.int (Int32.ofNat x27)), .val (.int (Int32.ofNat x29)), .val (.int (Int32.ofNat x31)), .val (.int (Int32.ofNat x33)), .val (.int (Int32.ofNat x35)), .val (.int (Int32.ofNat x37)), .val (.int (own_nq ([0, 1, 2, 3, 4].getD x23 0) ([0, 1, 2, 3, 4].getD x25 0))), .val (.int (own_nq ([0, 1, 2, 3, 4].getD x23 0) ([0, 1, 2, 3, 4].getD x25 0))), .val (.int (own_nq ([m0q47, m1q47, m2q47, m3q47, m4q47].getD x27 0) ([m0q47, m1q47, m2q47, m3q47, m4q47].getD x29 0))), .val (.int (own_nq ([m0q47, m1q47, m2q47, m3q47, m4q47].getD x27 0) ([m0q47, m1q47, m2q47, m3q47, m4q47].getD x29 0))), .val (.int (own_nq ([m0q55, m1q55, m2q55, m3q55, m4q55].getD x31 0) ([m0q55, m1q55, m2q55, m3q55, m4q55].getD x33 0))), .val (.int (own_nq ([m0q55, m1q55, m2q55, m3q55, m4q55].getD x31 0) ([m0q55, m1q55, m2q55, m3q55, m4q55].getD x33 0))), .val (.int (own_nq ([m0q63, m1q63, m2q63, m3q63, m4q63].getD x35 0) ([m0q63, m1q63, m2q63, m3q63, m4q63].getD x37 0))), .val (.int (own_nq ([m0q63, m1q63, m2q63, m3q63, m4q63].getD x35 0) ([m0q63, m1q63, m2q63, m3q63, m4q63].getD x37 0))), .val (.int (Int32.ofNat x73)), .val (.int (Int32.ofNat x75)), .val (.int (Int32.ofNat ([m0q71, m1q71, m2q71, m3q71, m4q71].getD x73 0))), .unset, .unset, .unset] [(.int (Int32.ofNat x75)), (.ref b1)]))
  have f82 := (f78.keep Kq79 (ninS nn4 nin0))
  have f84 := (f80.keep Kq79)
  obtain ⟨cq83, kq83, q83a, q83b, q83c⟩ := isOf hZ rfl f84
  obtain ⟨_, _, ⟨T83, L83, k83, n83⟩, -, X83, ⟨Lc83, hQ83, l83, y83, z83⟩, st83⟩ := X79.virtualBack hx (y := (⟨"com/example/saar/saar/sim/Parts", "of", "(I)I"⟩ : MethodName)) (z := (⟨"com/example/saar/saar/sim/Parts", "of", "(I)I"⟩ : MethodName)) hown (mvT hZ (hw _ (List.mem_of_getElem? (i := 48) rfl))) (mvT hZ (hw _ (List.mem_of_getElem? (i := 41) rfl))) (notFace_of_selects (args := #[]) (mvT hZ (hw _ (List.mem_of_getElem? (i := 43) rfl)))) (mvT hZ (hw _ (List.mem_of_getElem? (i := 43) rfl))) (mvT hZ (hw _ (List.mem_of_getElem? (i := 42) rfl))) (by decide) (backOf (W := 0) (own_rmOF l Z a0 hw [] b1 b3 kq4 Pq79 [m0q71, m1q71, m2q71, m3q71, m4q71] dq68 x75 T79.heap n0 z81 f82 Vq79 nn4 ge3 Iq79 hx75) hZ (hw _ (List.mem_of_getElem? (i := 44) rfl)) (hw _ (List.mem_of_getElem? (i := 2) rfl)) (by decide) (by decide)) q83a q83c (g := (mkF m 277 #[.val (.int p1), .val (.int p2), .val (.int p3), .val (.int p4), .val (.int p5), .val (.ref b1), .val (.ref b6), .val (.int (1 : Int32)), .val (.int (Int32.ofNat x23)), .val (.int (Int32.ofNat x25)), .val (.int (Int32.ofNat x27)), .val (.int (Int32.ofNat x29)), .val (.int (Int32.ofNat x31)), .val (.int (Int32.ofNat x33)), .val (.int (Int32.ofNat x35)), .val (.int (Int32.ofNat x37)), .val (.int (own_nq ([0, 1, 2, 3, 4].getD x23 0) ([0, 1, 2, 3, 4].getD x25 0))), .val (.int (own_nq ([0, 1, 2, 3, 4].getD x23 0) ([0, 1, 2, 3, 4].getD x25 0))), .val (.int (own_nq ([m0q47, m1q47, m2q47, m3q47, m4q47].getD x27 0) ([m0q47, m1q47, m2q47, m3q47, m4q47].getD x29 0))), .val (.int (own_nq ([m0q47, m1q47, m2q47, m3q47, m4q47].getD x27 0) ([m0q47, m1q47, m2q47, m3q47, m4q47].getD x29 0))), .val (.int (own_nq ([m0q55, m1q55, m2q55, m3q55, m4q55].getD x31 0) ([m0q55, m1q55, m2q55, m3q55, m4q55].getD x33 0))), .val (.int (own_nq ([m0q55, m1q55, m2q55, m3q55, m4q55].getD x31 0) ([m0q55, m1q55, m2q55, m3q55, m4q55].getD x33 0))), .val (.int (own_nq ([m0q63, m1q63, m2q63, m3q63, m4q63].getD x35 0) ([m0q63, m1q63, m2q63, m3q63, m4q63].getD x37 0))), .val (.int (own_nq ([m0q63, m1q63, m2q63, m3q63, m4q63].getD x35 0) ([m0q63, m1q63, m2q63, m3q63, m4q63].getD x37 0))), .val (.int (Int32.ofNat x73)), .val (.int (Int32.ofNat x75)), .val (.int (Int32.ofNat ([m0q71, m1q71, m2q71, m3q71, m4q71].getD x73 0))), .unset, .unset, .unset] [(.int (Int32.ofNat x75)), (.ref b1)])) rfl (by rw [hml]; rfl) (Steps.refl _) (argsL := [(.int (Int32.ofNat x75))]) (rest := []) (lenOf own_pd__I_I rfl) rfl (by show 2 * 0 + _ ≤ _; exact Nat.le_of_eq rfl) (hb hby at_277) (fun _ _ => ⟨rfl, rfl, (by decide : 3 + 0 ≤ _), (by decide : 11 + 0 ≤ _)⟩)
  dsimp only [Pt.U, Pt.locs, Pt.cells, Pt.slots] at X83 l83 y83 z83 st83 hQ83
  rw [l83, y83, z83] at X83
  obtain ⟨rfl, Nq83, Kq83, Pq83, Iq83, Vq83⟩ := hQ83
  have N83 := Fr.app N79 Nq83
  refine own_st (fun _ k => st83.trans k) ?_
  have z85 : n0 ≤ T83.heap.size := Nat.le_trans z81 Kq83.1
  show own_Go p.tables e below RR (T83.setTop (mkF m 280 #[.val (.int p1), .val (.int p2), .val (.int p3), .val (.int p4), .val (.int p5), .val (.ref b1), .val (.ref b6), .val (.int (1 : Int32)), .val (.int (Int32.ofNat x23)), .val (.int (Int32.ofNat x25)), .val (.int (Int32.ofNat x27)), .val (.int (Int32.ofNat x29)), .val (.int (Int32.ofNat x31)), .val (.int (Int32.ofNat x33)), .val (.int (Int32.ofNat x35)), .val (.int (Int32.ofNat x37)), .val (.int (own_nq ([0, 1, 2, 3, 4].getD x23 0) ([0, 1, 2, 3, 4].getD x25 0))), .val (.int (own_nq ([0, 1, 2, 3, 4].getD x23 0) ([0, 1, 2, 3, 4].getD x25 0))), .val (.int (own_nq ([m0q47, m1q47, m2q47, m3q47, m4q47].getD x27 0) ([m0q47, m1q47, m2q47, m3q47, m4q47].getD x29 0))), .val (.int (own_nq ([m0q47, m1q47, m2q47, m3q47, m4q47].getD x27 0) ([m0q47, m1q47, m2q47, m3q47, m4q47].getD x29 0))), .val (.int (own_nq ([m0q55, m1q55, m2q55, m3q55, m4q55].getD x31 0) ([m0q55, m1q55, m2q55, m3q55, m4q55].getD x33 0))), .val (.int (own_nq ([m0q55, m1q55, m2q55, m3q55, m4q55].getD x31 0) ([m0q55, m1q55, m2q55, m3q55, m4q55].getD x33 0))), .val (.int (own_nq ([m0q63, m1q63, m2q63, m3q63, m4q63].getD x35 0) ([m0q63, m1q63, m2q63, m3q63, m4q63].getD x37 0))), .val (.int (own_nq ([m0q63, m1q63, m2q63, m3q63, m4q63].getD x35 0) ([m0q63, m1q63, m2q63, m3q63, m4q63].getD x37 0))), .val (.int (Int32.ofNat x73)), .val (.int (Int32.ofNat x75)), .val (.int (Int32.ofNat ([m0q71, m1q71, m2q71, m3q71, m4q71].getD x73 0))), .unset, .unset, .unset] [(.int (Int32.ofNat ([m0q71, m1q71, m2q71, m3q71, m4q71].getD x75 0)))]))
  refine own_st (fun _ k => XS.istore X83.here hx rfl (hb hby at_280) rfl (l' := #[.val (.int p1), .val (.int p2), .val (.int p3), .val (.int p4), .val (.int p5), .val (.ref b1), .val (.ref b6), .val (.int (1 : Int32)), .val (.int (Int32.ofNat x23)), .val (.int (Int32.ofNat x25)), .val (.int (Int32.ofNat x27)), .val (.int (Int32.ofNat x29)), .val (.int (Int32.ofNat x31)), .val (.int (Int32.ofNat x33)), .val (.int (Int32.ofNat x35)), .val (.int (Int32.ofNat x37)), .val (.int (own_nq ([0, 1, 2, 3, 4].getD x23 0) ([0, 1, 2, 3, 4].getD x25 0))), .val (.int (own_nq ([0, 1, 2, 3, 4].getD x23 0) ([0, 1, 2, 3, 4].getD x25 0))), .val (.int (own_nq ([m0q47, m1q47, m2q47, m3q47, m4q47].getD x27 0) ([m0q47, m1q47, m2q47, m3q47, m4q47].getD x29 0))), .val (.int (own_nq ([m0q47, m1q47, m2q47, m3q47, m4q47].getD x27 0) ([m0q47, m1q47, m2q47, m3q47, m4q47].getD x29 0))), .val (.int (own_nq ([m0q55, m1q55, m2q55, m3q55, m4q55].getD x31 0) ([m0q55, m1q55, m2q55, m3q55, m4q55].getD x33 0))), .val (.int (own_nq ([m0q55, m1q55, m2q55, m3q55, m4q55].getD x31 0) ([m0q55, m1q55, m2q55, m3q55, m4q55].getD x33 0))), .val (.int (own_nq ([m0q63, m1q63, m2q63, m3q63, m4q63].getD x35 0) ([m0q63, m1q63, m2q63, m3q63, m4q63].getD x37 0))), .val (.int (own_nq ([m0q63, m1q63, m2q63, m3q63, m4q63].getD x35 0) ([m0q63, m1q63, m2q63, m3q63, m4q63].getD x37 0))), .val (.int (Int32.ofNat x73)), .val (.int (Int32.ofNat x75)), .val (.int (Int32.ofNat ([m0q71, m1q71, m2q71, m3q71, m4q71].getD x73 0))), .val (.int (Int32.ofNat ([m0q71, m1q71, m2q71, m3q71, m4q71].getD x75 0))), .unset, .unset]) rfl (XS.iload X83.here hx rfl (hb hby at_282) rfl (XS.iload X83.here hx rfl (hb hby at_284) rfl k))) ?_
  show own_Go p.tables e below RR (T83.setTop (mkF m 286 #[.val (.int p1), .val (.int p2), .val (.int p3), .val (.int p4), .val (.int p5), .val (.ref b1), .val (.ref b6), .val (.int (1 : Int32)), .val (.int (Int32.ofNat x23)), .val (.int (Int32.ofNat x25)), .val (.int (Int32.ofNat x27)), .val (.int (Int32.ofNat x29)), .val (.int (Int32.ofNat x31)), .val (.int (Int32.ofNat x33)), .val (.int (Int32.ofNat x35)), .val (.int (Int32.ofNat x37)), .val (.int (own_nq ([0, 1, 2, 3, 4].getD x23 0) ([0, 1, 2, 3, 4].getD x25 0))), .val (.int (own_nq ([0, 1, 2, 3, 4].getD x23 0) ([0, 1, 2, 3, 4].getD x25 0))), .val (.int (own_nq ([m0q47, m1q47, m2q47, m3q47, m4q47].getD x27 0) ([m0q47, m1q47, m2q47, m3q47, m4q47].getD x29 0))), .val (.int (own_nq ([m0q47, m1q47, m2q47, m3q47, m4q47].getD x27 0) ([m0q47, m1q47, m2q47, m3q47, m4q47].getD x29 0))), .val (.int (own_nq ([m0q55, m1q55, m2q55, m3q55, m4q55].getD x31 0) ([m0q55, m1q55, m2q55, m3q55, m4q55].getD x33 0))), .val (.int (own_nq ([m0q55, m1q55, m2q55, m3q55, m4q55].getD x31 0) ([m0q55, m1q55, m2q55, m3q55, m4q55].getD x33 0))), .val (.int (own_nq ([m0q63, m1q63, m2q63, m3q63, m4q63].getD x35 0) ([m0q63, m1q63, m2q63, m3q63, m4q63].getD x37 0))), .val (.int (own_nq ([m0q63, m1q63, m2q63, m3q63, m4q63].getD x35 0) ([m0q63, m1q63, m2q63, m3q63, m4q63].getD x37 0))), .val (.int (Int32.ofNat x73)), .val (.int (Int32.ofNat x75)), .val (.int (Int32.ofNat ([m0q71, m1q71, m2q71, m3q71, m4q71].getD x73 0))), .val (.int (Int32.ofNat ([m0q71, m1q71, m2q71, m3q71, m4q71].getD x75 0))), .unset, .unset] [(.int (Int32.ofNat ([m0q71, m1q71, m2q71, m3q71, m4q71].getD x75 0))), (.int (Int32.ofNat ([m0q71, m1q71, m2q71, m3q71, m4q71].getD x73 0)))]))
  by_cases hc286_86 : (Int32.ofNat ([m0q71, m1q71, m2q71, m3q71, m4q71].getD x73 0)) = (Int32.ofNat ([m0q71, m1q71, m2q71, m3q71, m4q71].getD x75 0))
  · refine own_st (fun _ k => XS.icmpNo X83.here hx rfl (hb hby at_286) rfl (teq hc286_86).2 (XS.iconst X83.here hx rfl (hb hby at_289) (XS.goto X83.here hx rfl (pc0 := 290) (pc' := 294) rfl (hb hby at_290) (by decide) (by decide) (XS.istore X83.here hx rfl (hb hby at_294) rfl (l' := #[.val (.int p1), .val (.int p2), .val (.int p3), .val (.int p4), .val (.int p5), .val (.ref b1), .val (.ref b6), .val (.int (1 : Int32)), .val (.int (Int32.ofNat x23)), .val (.int (Int32.ofNat x25)), .val (.int (Int32.ofNat x27)), .val (.int (Int32.ofNat x29)), .val (.int (Int32.ofNat x31)), .val (.int (Int32.ofNat x33)), .val (.int (Int32.ofNat x35)), .val (.int (Int32.ofNat x37)), .val (.int (own_nq ([0, 1, 2, 3, 4].getD x23 0) ([0, 1, 2, 3, 4].getD x25 0))), .val (.int (own_nq ([0, 1, 2, 3, 4].getD x23 0) ([0, 1, 2, 3, 4].getD x25 0))), .val (.int (own_nq ([m0q47, m1q47, m2q47, m3q47, m4q47].getD x27 0) ([m0q47, m1q47, m2q47, m3q47, m4q47].getD x29 0))), .val (.int (own_nq ([m0q47, m1q47, m2q47, m3q47, m4q47].getD x27 0) ([m0q47, m1q47, m2q47, m3q47, m4q47].getD x29 0))), .val (.int (own_nq ([m0q55, m1q55, m2q55, m3q55, m4q55].getD x31 0) ([m0q55, m1q55, m2q55, m3q55, m4q55].getD x33 0))), .val (.int (own_nq ([m0q55, m1q55, m2q55, m3q55, m4q55].getD x31 0) ([m0q55, m1q55, m2q55, m3q55, m4q55].getD x33 0))), .val (.int (own_nq ([m0q63, m1q63, m2q63, m3q63, m4q63].getD x35 0) ([m0q63, m1q63, m2q63, m3q63, m4q63].getD x37 0))), .val (.int (own_nq ([m0q63, m1q63, m2q63, m3q63, m4q63].getD x35 0) ([m0q63, m1q63, m2q63, m3q63, m4q63].getD x37 0))), .val (.int (Int32.ofNat x73)), .val (.int (Int32.ofNat x75)), .val (.int (Int32.ofNat ([m0q71, m1q71, m2q71, m3q71, m4q71].getD x73 0))), .val (.int (Int32.ofNat ([m0q71, m1q71, m2q71, m3q71, m4q71].getD x75 0))), .val (.int (1 : Int32)), .unset]) rfl (XS.aload X83.here hx rfl (hb hby at_296) rfl rfl (XS.iload X83.here hx rfl (hb hby at_298) rfl k)))))) ?_
    show own_Go p.tables e below RR (T83.setTop (mkF m 300 #[.val (.int p1), .val (.int p2), .val (.int p3), .val (.int p4), .val (.int p5), .val (.ref b1), .val (.ref b6), .val (.int (1 : Int32)), .val (.int (Int32.ofNat x23)), .val (.int (Int32.ofNat x25)), .val (.int (Int32.ofNat x27)), .val (.int (Int32.ofNat x29)), .val (.int (Int32.ofNat x31)), .val (.int (Int32.ofNat x33)), .val (.int (Int32.ofNat x35)), .val (.int (Int32.ofNat x37)), .val (.int (own_nq ([0, 1, 2, 3, 4].getD x23 0) ([0, 1, 2, 3, 4].getD x25 0))), .val (.int (own_nq ([0, 1, 2, 3, 4].getD x23 0) ([0, 1, 2, 3, 4].getD x25 0))), .val (.int (own_nq ([m0q47, m1q47, m2q47, m3q47, m4q47].getD x27 0) ([m0q47, m1q47, m2q47, m3q47, m4q47].getD x29 0))), .val (.int (own_nq ([m0q47, m1q47, m2q47, m3q47, m4q47].getD x27 0) ([m0q47, m1q47, m2q47, m3q47, m4q47].getD x29 0))), .val (.int (own_nq ([m0q55, m1q55, m2q55, m3q55, m4q55].getD x31 0) ([m0q55, m1q55, m2q55, m3q55, m4q55].getD x33 0))), .val (.int (own_nq ([m0q55, m1q55, m2q55, m3q55, m4q55].getD x31 0) ([m0q55, m1q55, m2q55, m3q55, m4q55].getD x33 0))), .val (.int (own_nq ([m0q63, m1q63, m2q63, m3q63, m4q63].getD x35 0) ([m0q63, m1q63, m2q63, m3q63, m4q63].getD x37 0))), .val (.int (own_nq ([m0q63, m1q63, m2q63, m3q63, m4q63].getD x35 0) ([m0q63, m1q63, m2q63, m3q63, m4q63].getD x37 0))), .val (.int (Int32.ofNat x73)), .val (.int (Int32.ofNat x75)), .val (.int (Int32.ofNat ([m0q71, m1q71, m2q71, m3q71, m4q71].getD x73 0))), .val (.int (Int32.ofNat ([m0q71, m1q71, m2q71, m3q71, m4q71].getD x75 0))), .val (.int (1 : Int32)), .unset] [(.int (Int32.ofNat x73)), (.ref b6)]))
    have f87 := ((Vm71.keep Kq79 (ninS (Ne.symm ne39) nin0)).keep Kq83 (ninS (Ne.symm ne39) nin0))
    obtain ⟨c88, A88, q88, s88, m88, H88, G88⟩ := id f87
    have b88 := inb_of (j := (Int32.ofNat x73)) s88 (own_nin (n := 5) hx73 (by decide))
    refine own_st (fun _ k => X83.iaload hx (j := (Int32.ofNat x73)) (v := (.int (Int32.ofNat ([m0q71, m1q71, m2q71, m3q71, m4q71].getD x73 0)))) (by exact A88.1) (State.isArrayOf_alike hZ.alike A88.2.1) A88.2.2 b88 (Has.at H88 b88 (own_get (n := 5) (P := [m0q71, m1q71, m2q71, m3q71, m4q71]) rfl hx73 (by decide))) (g := (mkF m 300 #[.val (.int p1), .val (.int p2), .val (.int p3), .val (.int p4), .val (.int p5), .val (.ref b1), .val (.ref b6), .val (.int (1 : Int32)), .val (.int (Int32.ofNat x23)), .val (.int (Int32.ofNat x25)), .val (.int (Int32.ofNat x27)), .val (.int (Int32.ofNat x29)), .val (.int (Int32.ofNat x31)), .val (.int (Int32.ofNat x33)), .val (.int (Int32.ofNat x35)), .val (.int (Int32.ofNat x37)), .val (.int (own_nq ([0, 1, 2, 3, 4].getD x23 0) ([0, 1, 2, 3, 4].getD x25 0))), .val (.int (own_nq ([0, 1, 2, 3, 4].getD x23 0) ([0, 1, 2, 3, 4].getD x25 0))), .val (.int (own_nq ([m0q47, m1q47, m2q47, m3q47, m4q47].getD x27 0) ([m0q47, m1q47, m2q47, m3q47, m4q47].getD x29 0))), .val (.int (own_nq ([m0q47, m1q47, m2q47, m3q47, m4q47].getD x27 0) ([m0q47, m1q47, m2q47, m3q47, m4q47].getD x29 0))), .val (.int (own_nq ([m0q55, m1q55, m2q55, m3q55, m4q55].getD x31 0) ([m0q55, m1q55, m2q55, m3q55, m4q55].getD x33 0))), .val (.int (own_nq ([m0q55, m1q55, m2q55, m3q55, m4q55].getD x31 0) ([m0q55, m1q55, m2q55, m3q55, m4q55].getD x33 0))), .val (.int (own_nq ([m0q63, m1q63, m2q63, m3q63, m4q63].getD x35 0) ([m0q63, m1q63, m2q63, m3q63, m4q63].getD x37 0))), .val (.int (own_nq ([m0q63, m1q63, m2q63, m3q63, m4q63].getD x35 0) ([m0q63, m1q63, m2q63, m3q63, m4q63].getD x37 0))), .val (.int (Int32.ofNat x73)), .val (.int (Int32.ofNat x75)), .val (.int (Int32.ofNat ([m0q71, m1q71, m2q71, m3q71, m4q71].getD x73 0))), .val (.int (Int32.ofNat ([m0q71, m1q71, m2q71, m3q71, m4q71].getD x75 0))), .val (.int (1 : Int32)), .unset] [(.int (Int32.ofNat x73)), (.ref b6)])) rfl rfl (hb hby at_300) _ (XS.aload X83.here hx rfl (hb hby at_301) rfl rfl (XS.iload X83.here hx rfl (hb hby at_303) rfl k))) ?_
    show own_Go p.tables e below RR (T83.setTop (mkF m 305 #[.val (.int p1), .val (.int p2), .val (.int p3), .val (.int p4), .val (.int p5), .val (.ref b1), .val (.ref b6), .val (.int (1 : Int32)), .val (.int (Int32.ofNat x23)), .val (.int (Int32.ofNat x25)), .val (.int (Int32.ofNat x27)), .val (.int (Int32.ofNat x29)), .val (.int (Int32.ofNat x31)), .val (.int (Int32.ofNat x33)), .val (.int (Int32.ofNat x35)), .val (.int (Int32.ofNat x37)), .val (.int (own_nq ([0, 1, 2, 3, 4].getD x23 0) ([0, 1, 2, 3, 4].getD x25 0))), .val (.int (own_nq ([0, 1, 2, 3, 4].getD x23 0) ([0, 1, 2, 3, 4].getD x25 0))), .val (.int (own_nq ([m0q47, m1q47, m2q47, m3q47, m4q47].getD x27 0) ([m0q47, m1q47, m2q47, m3q47, m4q47].getD x29 0))), .val (.int (own_nq ([m0q47, m1q47, m2q47, m3q47, m4q47].getD x27 0) ([m0q47, m1q47, m2q47, m3q47, m4q47].getD x29 0))), .val (.int (own_nq ([m0q55, m1q55, m2q55, m3q55, m4q55].getD x31 0) ([m0q55, m1q55, m2q55, m3q55, m4q55].getD x33 0))), .val (.int (own_nq ([m0q55, m1q55, m2q55, m3q55, m4q55].getD x31 0) ([m0q55, m1q55, m2q55, m3q55, m4q55].getD x33 0))), .val (.int (own_nq ([m0q63, m1q63, m2q63, m3q63, m4q63].getD x35 0) ([m0q63, m1q63, m2q63, m3q63, m4q63].getD x37 0))), .val (.int (own_nq ([m0q63, m1q63, m2q63, m3q63, m4q63].getD x35 0) ([m0q63, m1q63, m2q63, m3q63, m4q63].getD x37 0))), .val (.int (Int32.ofNat x73)), .val (.int (Int32.ofNat x75)), .val (.int (Int32.ofNat ([m0q71, m1q71, m2q71, m3q71, m4q71].getD x73 0))), .val (.int (Int32.ofNat ([m0q71, m1q71, m2q71, m3q71, m4q71].getD x75 0))), .val (.int (1 : Int32)), .unset] [(.int (Int32.ofNat x75)), (.ref b6), (.int (Int32.ofNat ([m0q71, m1q71, m2q71, m3q71, m4q71].getD x73 0)))]))
    obtain ⟨c89, A89, q89, s89, m89, H89, G89⟩ := id f87
    have b89 := inb_of (j := (Int32.ofNat x75)) s89 (own_nin (n := 5) hx75 (by decide))
    refine own_st (fun _ k => X83.iaload hx (j := (Int32.ofNat x75)) (v := (.int (Int32.ofNat ([m0q71, m1q71, m2q71, m3q71, m4q71].getD x75 0)))) (by exact A89.1) (State.isArrayOf_alike hZ.alike A89.2.1) A89.2.2 b89 (Has.at H89 b89 (own_get (n := 5) (P := [m0q71, m1q71, m2q71, m3q71, m4q71]) rfl hx75 (by decide))) (g := (mkF m 305 #[.val (.int p1), .val (.int p2), .val (.int p3), .val (.int p4), .val (.int p5), .val (.ref b1), .val (.ref b6), .val (.int (1 : Int32)), .val (.int (Int32.ofNat x23)), .val (.int (Int32.ofNat x25)), .val (.int (Int32.ofNat x27)), .val (.int (Int32.ofNat x29)), .val (.int (Int32.ofNat x31)), .val (.int (Int32.ofNat x33)), .val (.int (Int32.ofNat x35)), .val (.int (Int32.ofNat x37)), .val (.int (own_nq ([0, 1, 2, 3, 4].getD x23 0) ([0, 1, 2, 3, 4].getD x25 0))), .val (.int (own_nq ([0, 1, 2, 3, 4].getD x23 0) ([0, 1, 2, 3, 4].getD x25 0))), .val (.int (own_nq ([m0q47, m1q47, m2q47, m3q47, m4q47].getD x27 0) ([m0q47, m1q47, m2q47, m3q47, m4q47].getD x29 0))), .val (.int (own_nq ([m0q47, m1q47, m2q47, m3q47, m4q47].getD x27 0) ([m0q47, m1q47, m2q47, m3q47, m4q47].getD x29 0))), .val (.int (own_nq ([m0q55, m1q55, m2q55, m3q55, m4q55].getD x31 0) ([m0q55, m1q55, m2q55, m3q55, m4q55].getD x33 0))), .val (.int (own_nq ([m0q55, m1q55, m2q55, m3q55, m4q55].getD x31 0) ([m0q55, m1q55, m2q55, m3q55, m4q55].getD x33 0))), .val (.int (own_nq ([m0q63, m1q63, m2q63, m3q63, m4q63].getD x35 0) ([m0q63, m1q63, m2q63, m3q63, m4q63].getD x37 0))), .val (.int (own_nq ([m0q63, m1q63, m2q63, m3q63, m4q63].getD x35 0) ([m0q63, m1q63, m2q63, m3q63, m4q63].getD x37 0))), .val (.int (Int32.ofNat x73)), .val (.int (Int32.ofNat x75)), .val (.int (Int32.ofNat ([m0q71, m1q71, m2q71, m3q71, m4q71].getD x73 0))), .val (.int (Int32.ofNat ([m0q71, m1q71, m2q71, m3q71, m4q71].getD x75 0))), .val (.int (1 : Int32)), .unset] [(.int (Int32.ofNat x75)), (.ref b6), (.int (Int32.ofNat ([m0q71, m1q71, m2q71, m3q71, m4q71].getD x73 0)))])) rfl rfl (hb hby at_305) _ k) ?_
    show own_Go p.tables e below RR (T83.setTop (mkF m 306 #[.val (.int p1), .val (.int p2), .val (.int p3), .val (.int p4), .val (.int p5), .val (.ref b1), .val (.ref b6), .val (.int (1 : Int32)), .val (.int (Int32.ofNat x23)), .val (.int (Int32.ofNat x25)), .val (.int (Int32.ofNat x27)), .val (.int (Int32.ofNat x29)), .val (.int (Int32.ofNat x31)), .val (.int (Int32.ofNat x33)), .val (.int (Int32.ofNat x35)), .val (.int (Int32.ofNat x37)), .val (.int (own_nq ([0, 1, 2, 3, 4].getD x23 0) ([0, 1, 2, 3, 4].getD x25 0))), .val (.int (own_nq ([0, 1, 2, 3, 4].getD x23 0) ([0, 1, 2, 3, 4].getD x25 0))), .val (.int (own_nq ([m0q47, m1q47, m2q47, m3q47, m4q47].getD x27 0) ([m0q47, m1q47, m2q47, m3q47, m4q47].getD x29 0))), .val (.int (own_nq ([m0q47, m1q47, m2q47, m3q47, m4q47].getD x27 0) ([m0q47, m1q47, m2q47, m3q47, m4q47].getD x29 0))), .val (.int (own_nq ([m0q55, m1q55, m2q55, m3q55, m4q55].getD x31 0) ([m0q55, m1q55, m2q55, m3q55, m4q55].getD x33 0))), .val (.int (own_nq ([m0q55, m1q55, m2q55, m3q55, m4q55].getD x31 0) ([m0q55, m1q55, m2q55, m3q55, m4q55].getD x33 0))), .val (.int (own_nq ([m0q63, m1q63, m2q63, m3q63, m4q63].getD x35 0) ([m0q63, m1q63, m2q63, m3q63, m4q63].getD x37 0))), .val (.int (own_nq ([m0q63, m1q63, m2q63, m3q63, m4q63].getD x35 0) ([m0q63, m1q63, m2q63, m3q63, m4q63].getD x37 0))), .val (.int (Int32.ofNat x73)), .val (.int (Int32.ofNat x75)), .val (.int (Int32.ofNat ([m0q71, m1q71, m2q71, m3q71, m4q71].getD x73 0))), .val (.int (Int32.ofNat ([m0q71, m1q71, m2q71, m3q71, m4q71].getD x75 0))), .val (.int (1 : Int32)), .unset] [(.int (Int32.ofNat ([m0q71, m1q71, m2q71, m3q71, m4q71].getD x75 0))), (.int (Int32.ofNat ([m0q71, m1q71, m2q71, m3q71, m4q71].getD x73 0)))]))
    refine own_st (fun _ k => XS.icmpNo X83.here hx rfl (hb hby at_306) rfl (teq hc286_86).2 (XS.iconst X83.here hx rfl (hb hby at_309) (XS.goto X83.here hx rfl (pc0 := 310) (pc' := 314) rfl (hb hby at_310) (by decide) (by decide) (XS.istore X83.here hx rfl (hb hby at_314) rfl (l' := #[.val (.int p1), .val (.int p2), .val (.int p3), .val (.int p4), .val (.int p5), .val (.ref b1), .val (.ref b6), .val (.int (1 : Int32)), .val (.int (Int32.ofNat x23)), .val (.int (Int32.ofNat x25)), .val (.int (Int32.ofNat x27)), .val (.int (Int32.ofNat x29)), .val (.int (Int32.ofNat x31)), .val (.int (Int32.ofNat x33)), .val (.int (Int32.ofNat x35)), .val (.int (Int32.ofNat x37)), .val (.int (own_nq ([0, 1, 2, 3, 4].getD x23 0) ([0, 1, 2, 3, 4].getD x25 0))), .val (.int (own_nq ([0, 1, 2, 3, 4].getD x23 0) ([0, 1, 2, 3, 4].getD x25 0))), .val (.int (own_nq ([m0q47, m1q47, m2q47, m3q47, m4q47].getD x27 0) ([m0q47, m1q47, m2q47, m3q47, m4q47].getD x29 0))), .val (.int (own_nq ([m0q47, m1q47, m2q47, m3q47, m4q47].getD x27 0) ([m0q47, m1q47, m2q47, m3q47, m4q47].getD x29 0))), .val (.int (own_nq ([m0q55, m1q55, m2q55, m3q55, m4q55].getD x31 0) ([m0q55, m1q55, m2q55, m3q55, m4q55].getD x33 0))), .val (.int (own_nq ([m0q55, m1q55, m2q55, m3q55, m4q55].getD x31 0) ([m0q55, m1q55, m2q55, m3q55, m4q55].getD x33 0))), .val (.int (own_nq ([m0q63, m1q63, m2q63, m3q63, m4q63].getD x35 0) ([m0q63, m1q63, m2q63, m3q63, m4q63].getD x37 0))), .val (.int (own_nq ([m0q63, m1q63, m2q63, m3q63, m4q63].getD x35 0) ([m0q63, m1q63, m2q63, m3q63, m4q63].getD x37 0))), .val (.int (Int32.ofNat x73)), .val (.int (Int32.ofNat x75)), .val (.int (Int32.ofNat ([m0q71, m1q71, m2q71, m3q71, m4q71].getD x73 0))), .val (.int (Int32.ofNat ([m0q71, m1q71, m2q71, m3q71, m4q71].getD x75 0))), .val (.int (1 : Int32)), .val (.int (1 : Int32))]) rfl (XS.iload X83.here hx rfl (hb hby at_316) rfl k))))) ?_
    show own_Go p.tables e below RR (T83.setTop (mkF m 318 #[.val (.int p1), .val (.int p2), .val (.int p3), .val (.int p4), .val (.int p5), .val (.ref b1), .val (.ref b6), .val (.int (1 : Int32)), .val (.int (Int32.ofNat x23)), .val (.int (Int32.ofNat x25)), .val (.int (Int32.ofNat x27)), .val (.int (Int32.ofNat x29)), .val (.int (Int32.ofNat x31)), .val (.int (Int32.ofNat x33)), .val (.int (Int32.ofNat x35)), .val (.int (Int32.ofNat x37)), .val (.int (own_nq ([0, 1, 2, 3, 4].getD x23 0) ([0, 1, 2, 3, 4].getD x25 0))), .val (.int (own_nq ([0, 1, 2, 3, 4].getD x23 0) ([0, 1, 2, 3, 4].getD x25 0))), .val (.int (own_nq ([m0q47, m1q47, m2q47, m3q47, m4q47].getD x27 0) ([m0q47, m1q47, m2q47, m3q47, m4q47].getD x29 0))), .val (.int (own_nq ([m0q47, m1q47, m2q47, m3q47, m4q47].getD x27 0) ([m0q47, m1q47, m2q47, m3q47, m4q47].getD x29 0))), .val (.int (own_nq ([m0q55, m1q55, m2q55, m3q55, m4q55].getD x31 0) ([m0q55, m1q55, m2q55, m3q55, m4q55].getD x33 0))), .val (.int (own_nq ([m0q55, m1q55, m2q55, m3q55, m4q55].getD x31 0) ([m0q55, m1q55, m2q55, m3q55, m4q55].getD x33 0))), .val (.int (own_nq ([m0q63, m1q63, m2q63, m3q63, m4q63].getD x35 0) ([m0q63, m1q63, m2q63, m3q63, m4q63].getD x37 0))), .val (.int (own_nq ([m0q63, m1q63, m2q63, m3q63, m4q63].getD x35 0) ([m0q63, m1q63, m2q63, m3q63, m4q63].getD x37 0))), .val (.int (Int32.ofNat x73)), .val (.int (Int32.ofNat x75)), .val (.int (Int32.ofNat ([m0q71, m1q71, m2q71, m3q71, m4q71].getD x73 0))), .val (.int (Int32.ofNat ([m0q71, m1q71, m2q71, m3q71, m4q71].getD x75 0))), .val (.int (1 : Int32)), .val (.int (1 : Int32))] [(.int (1 : Int32))]))
    refine own_st (fun _ k => XS.ifNo X83.here hx rfl (hb hby at_318) rfl ((if0 _ _).trans (feq (by decide)).1) (XS.iload X83.here hx rfl (hb hby at_321) rfl (XS.iload X83.here hx rfl (hb hby at_323) rfl k))) ?_
    show own_Go p.tables e below RR (T83.setTop (mkF m 325 #[.val (.int p1), .val (.int p2), .val (.int p3), .val (.int p4), .val (.int p5), .val (.ref b1), .val (.ref b6), .val (.int (1 : Int32)), .val (.int (Int32.ofNat x23)), .val (.int (Int32.ofNat x25)), .val (.int (Int32.ofNat x27)), .val (.int (Int32.ofNat x29)), .val (.int (Int32.ofNat x31)), .val (.int (Int32.ofNat x33)), .val (.int (Int32.ofNat x35)), .val (.int (Int32.ofNat x37)), .val (.int (own_nq ([0, 1, 2, 3, 4].getD x23 0) ([0, 1, 2, 3, 4].getD x25 0))), .val (.int (own_nq ([0, 1, 2, 3, 4].getD x23 0) ([0, 1, 2, 3, 4].getD x25 0))), .val (.int (own_nq ([m0q47, m1q47, m2q47, m3q47, m4q47].getD x27 0) ([m0q47, m1q47, m2q47, m3q47, m4q47].getD x29 0))), .val (.int (own_nq ([m0q47, m1q47, m2q47, m3q47, m4q47].getD x27 0) ([m0q47, m1q47, m2q47, m3q47, m4q47].getD x29 0))), .val (.int (own_nq ([m0q55, m1q55, m2q55, m3q55, m4q55].getD x31 0) ([m0q55, m1q55, m2q55, m3q55, m4q55].getD x33 0))), .val (.int (own_nq ([m0q55, m1q55, m2q55, m3q55, m4q55].getD x31 0) ([m0q55, m1q55, m2q55, m3q55, m4q55].getD x33 0))), .val (.int (own_nq ([m0q63, m1q63, m2q63, m3q63, m4q63].getD x35 0) ([m0q63, m1q63, m2q63, m3q63, m4q63].getD x37 0))), .val (.int (own_nq ([m0q63, m1q63, m2q63, m3q63, m4q63].getD x35 0) ([m0q63, m1q63, m2q63, m3q63, m4q63].getD x37 0))), .val (.int (Int32.ofNat x73)), .val (.int (Int32.ofNat x75)), .val (.int (Int32.ofNat ([m0q71, m1q71, m2q71, m3q71, m4q71].getD x73 0))), .val (.int (Int32.ofNat ([m0q71, m1q71, m2q71, m3q71, m4q71].getD x75 0))), .val (.int (1 : Int32)), .val (.int (1 : Int32))] [(.int (1 : Int32)), (.int (1 : Int32))]))
    refine own_st (fun _ k => XS.icmpNo X83.here hx rfl (hb hby at_325) rfl (teq (by decide)).2 (XS.iconst X83.here hx rfl (hb hby at_328) (XS.goto X83.here hx rfl (pc0 := 329) (pc' := 333) rfl (hb hby at_329) (by decide) (by decide) k))) ?_
    show own_Go p.tables e below RR (T83.setTop (mkF m 333 #[.val (.int p1), .val (.int p2), .val (.int p3), .val (.int p4), .val (.int p5), .val (.ref b1), .val (.ref b6), .val (.int (1 : Int32)), .val (.int (Int32.ofNat x23)), .val (.int (Int32.ofNat x25)), .val (.int (Int32.ofNat x27)), .val (.int (Int32.ofNat x29)), .val (.int (Int32.ofNat x31)), .val (.int (Int32.ofNat x33)), .val (.int (Int32.ofNat x35)), .val (.int (Int32.ofNat x37)), .val (.int (own_nq ([0, 1, 2, 3, 4].getD x23 0) ([0, 1, 2, 3, 4].getD x25 0))), .val (.int (own_nq ([0, 1, 2, 3, 4].getD x23 0) ([0, 1, 2, 3, 4].getD x25 0))), .val (.int (own_nq ([m0q47, m1q47, m2q47, m3q47, m4q47].getD x27 0) ([m0q47, m1q47, m2q47, m3q47, m4q47].getD x29 0))), .val (.int (own_nq ([m0q47, m1q47, m2q47, m3q47, m4q47].getD x27 0) ([m0q47, m1q47, m2q47, m3q47, m4q47].getD x29 0))), .val (.int (own_nq ([m0q55, m1q55, m2q55, m3q55, m4q55].getD x31 0) ([m0q55, m1q55, m2q55, m3q55, m4q55].getD x33 0))), .val (.int (own_nq ([m0q55, m1q55, m2q55, m3q55, m4q55].getD x31 0) ([m0q55, m1q55, m2q55, m3q55, m4q55].getD x33 0))), .val (.int (own_nq ([m0q63, m1q63, m2q63, m3q63, m4q63].getD x35 0) ([m0q63, m1q63, m2q63, m3q63, m4q63].getD x37 0))), .val (.int (own_nq ([m0q63, m1q63, m2q63, m3q63, m4q63].getD x35 0) ([m0q63, m1q63, m2q63, m3q63, m4q63].getD x37 0))), .val (.int (Int32.ofNat x73)), .val (.int (Int32.ofNat x75)), .val (.int (Int32.ofNat ([m0q71, m1q71, m2q71, m3q71, m4q71].getD x73 0))), .val (.int (Int32.ofNat ([m0q71, m1q71, m2q71, m3q71, m4q71].getD x75 0))), .val (.int (1 : Int32)), .val (.int (1 : Int32))] [(.int (1 : Int32))]))
    obtain ⟨fs, hrt_, hrun, hended, hW, hsame⟩ := X83.leave (v := some (.int (1 : Int32))) (fun h => by rw [Bd.returns] at h; cases h)
    refine own_fin (retN X83 hx (t := .boolean) Bd.returns (by simp) (hb hby at_333) hrt_) (hRR _ ⟨_, hrun, hended, _, _, rfl, ?_, ⟨_, rfl⟩, hW, hsame.mono (by decide) (by decide)⟩)
    show own_Q0 Z p1 p2 p3 p4 p5 cK fa h0 n0 _ T83.heap _
    exact ⟨rfl, N83⟩
  · refine own_st (fun _ k => XS.icmpYes X83.here hx rfl (pc0 := 286) (pc' := 293) rfl (hb hby at_286) rfl (feq hc286_86).2 (by decide) (by decide) (XS.iconst X83.here hx rfl (hb hby at_293) (XS.istore X83.here hx rfl (hb hby at_294) rfl (l' := #[.val (.int p1), .val (.int p2), .val (.int p3), .val (.int p4), .val (.int p5), .val (.ref b1), .val (.ref b6), .val (.int (1 : Int32)), .val (.int (Int32.ofNat x23)), .val (.int (Int32.ofNat x25)), .val (.int (Int32.ofNat x27)), .val (.int (Int32.ofNat x29)), .val (.int (Int32.ofNat x31)), .val (.int (Int32.ofNat x33)), .val (.int (Int32.ofNat x35)), .val (.int (Int32.ofNat x37)), .val (.int (own_nq ([0, 1, 2, 3, 4].getD x23 0) ([0, 1, 2, 3, 4].getD x25 0))), .val (.int (own_nq ([0, 1, 2, 3, 4].getD x23 0) ([0, 1, 2, 3, 4].getD x25 0))), .val (.int (own_nq ([m0q47, m1q47, m2q47, m3q47, m4q47].getD x27 0) ([m0q47, m1q47, m2q47, m3q47, m4q47].getD x29 0))), .val (.int (own_nq ([m0q47, m1q47, m2q47, m3q47, m4q47].getD x27 0) ([m0q47, m1q47, m2q47, m3q47, m4q47].getD x29 0))), .val (.int (own_nq ([m0q55, m1q55, m2q55, m3q55, m4q55].getD x31 0) ([m0q55, m1q55, m2q55, m3q55, m4q55].getD x33 0))), .val (.int (own_nq ([m0q55, m1q55, m2q55, m3q55, m4q55].getD x31 0) ([m0q55, m1q55, m2q55, m3q55, m4q55].getD x33 0))), .val (.int (own_nq ([m0q63, m1q63, m2q63, m3q63, m4q63].getD x35 0) ([m0q63, m1q63, m2q63, m3q63, m4q63].getD x37 0))), .val (.int (own_nq ([m0q63, m1q63, m2q63, m3q63, m4q63].getD x35 0) ([m0q63, m1q63, m2q63, m3q63, m4q63].getD x37 0))), .val (.int (Int32.ofNat x73)), .val (.int (Int32.ofNat x75)), .val (.int (Int32.ofNat ([m0q71, m1q71, m2q71, m3q71, m4q71].getD x73 0))), .val (.int (Int32.ofNat ([m0q71, m1q71, m2q71, m3q71, m4q71].getD x75 0))), .val (.int (0 : Int32)), .unset]) rfl (XS.aload X83.here hx rfl (hb hby at_296) rfl rfl (XS.iload X83.here hx rfl (hb hby at_298) rfl k))))) ?_
    show own_Go p.tables e below RR (T83.setTop (mkF m 300 #[.val (.int p1), .val (.int p2), .val (.int p3), .val (.int p4), .val (.int p5), .val (.ref b1), .val (.ref b6), .val (.int (1 : Int32)), .val (.int (Int32.ofNat x23)), .val (.int (Int32.ofNat x25)), .val (.int (Int32.ofNat x27)), .val (.int (Int32.ofNat x29)), .val (.int (Int32.ofNat x31)), .val (.int (Int32.ofNat x33)), .val (.int (Int32.ofNat x35)), .val (.int (Int32.ofNat x37)), .val (.int (own_nq ([0, 1, 2, 3, 4].getD x23 0) ([0, 1, 2, 3, 4].getD x25 0))), .val (.int (own_nq ([0, 1, 2, 3, 4].getD x23 0) ([0, 1, 2, 3, 4].getD x25 0))), .val (.int (own_nq ([m0q47, m1q47, m2q47, m3q47, m4q47].getD x27 0) ([m0q47, m1q47, m2q47, m3q47, m4q47].getD x29 0))), .val (.int (own_nq ([m0q47, m1q47, m2q47, m3q47, m4q47].getD x27 0) ([m0q47, m1q47, m2q47, m3q47, m4q47].getD x29 0))), .val (.int (own_nq ([m0q55, m1q55, m2q55, m3q55, m4q55].getD x31 0) ([m0q55, m1q55, m2q55, m3q55, m4q55].getD x33 0))), .val (.int (own_nq ([m0q55, m1q55, m2q55, m3q55, m4q55].getD x31 0) ([m0q55, m1q55, m2q55, m3q55, m4q55].getD x33 0))), .val (.int (own_nq ([m0q63, m1q63, m2q63, m3q63, m4q63].getD x35 0) ([m0q63, m1q63, m2q63, m3q63, m4q63].getD x37 0))), .val (.int (own_nq ([m0q63, m1q63, m2q63, m3q63, m4q63].getD x35 0) ([m0q63, m1q63, m2q63, m3q63, m4q63].getD x37 0))), .val (.int (Int32.ofNat x73)), .val (.int (Int32.ofNat x75)), .val (.int (Int32.ofNat ([m0q71, m1q71, m2q71, m3q71, m4q71].getD x73 0))), .val (.int (Int32.ofNat ([m0q71, m1q71, m2q71, m3q71, m4q71].getD x75 0))), .val (.int (0 : Int32)), .unset] [(.int (Int32.ofNat x73)), (.ref b6)]))
    have f90 := ((Vm71.keep Kq79 (ninS (Ne.symm ne39) nin0)).keep Kq83 (ninS (Ne.symm ne39) nin0))
    obtain ⟨c91, A91, q91, s91, m91, H91, G91⟩ := id f90
    have b91 := inb_of (j := (Int32.ofNat x73)) s91 (own_nin (n := 5) hx73 (by decide))
    refine own_st (fun _ k => X83.iaload hx (j := (Int32.ofNat x73)) (v := (.int (Int32.ofNat ([m0q71, m1q71, m2q71, m3q71, m4q71].getD x73 0)))) (by exact A91.1) (State.isArrayOf_alike hZ.alike A91.2.1) A91.2.2 b91 (Has.at H91 b91 (own_get (n := 5) (P := [m0q71, m1q71, m2q71, m3q71, m4q71]) rfl hx73 (by decide))) (g := (mkF m 300 #[.val (.int p1), .val (.int p2), .val (.int p3), .val (.int p4), .val (.int p5), .val (.ref b1), .val (.ref b6), .val (.int (1 : Int32)), .val (.int (Int32.ofNat x23)), .val (.int (Int32.ofNat x25)), .val (.int (Int32.ofNat x27)), .val (.int (Int32.ofNat x29)), .val (.int (Int32.ofNat x31)), .val (.int (Int32.ofNat x33)), .val (.int (Int32.ofNat x35)), .val (.int (Int32.ofNat x37)), .val (.int (own_nq ([0, 1, 2, 3, 4].getD x23 0) ([0, 1, 2, 3, 4].getD x25 0))), .val (.int (own_nq ([0, 1, 2, 3, 4].getD x23 0) ([0, 1, 2, 3, 4].getD x25 0))), .val (.int (own_nq ([m0q47, m1q47, m2q47, m3q47, m4q47].getD x27 0) ([m0q47, m1q47, m2q47, m3q47, m4q47].getD x29 0))), .val (.int (own_nq ([m0q47, m1q47, m2q47, m3q47, m4q47].getD x27 0) ([m0q47, m1q47, m2q47, m3q47, m4q47].getD x29 0))), .val (.int (own_nq ([m0q55, m1q55, m2q55, m3q55, m4q55].getD x31 0) ([m0q55, m1q55, m2q55, m3q55, m4q55].getD x33 0))), .val (.int (own_nq ([m0q55, m1q55, m2q55, m3q55, m4q55].getD x31 0) ([m0q55, m1q55, m2q55, m3q55, m4q55].getD x33 0))), .val (.int (own_nq ([m0q63, m1q63, m2q63, m3q63, m4q63].getD x35 0) ([m0q63, m1q63, m2q63, m3q63, m4q63].getD x37 0))), .val (.int (own_nq ([m0q63, m1q63, m2q63, m3q63, m4q63].getD x35 0) ([m0q63, m1q63, m2q63, m3q63, m4q63].getD x37 0))), .val (.int (Int32.ofNat x73)), .val (.int (Int32.ofNat x75)), .val (.int (Int32.ofNat ([m0q71, m1q71, m2q71, m3q71, m4q71].getD x73 0))), .val (.int (Int32.ofNat ([m0q71, m1q71, m2q71, m3q71, m4q71].getD x75 0))), .val (.int (0 : Int32)), .unset] [(.int (Int32.ofNat x73)), (.ref b6)])) rfl rfl (hb hby at_300) _ (XS.aload X83.here hx rfl (hb hby at_301) rfl rfl (XS.iload X83.here hx rfl (hb hby at_303) rfl k))) ?_
    show own_Go p.tables e below RR (T83.setTop (mkF m 305 #[.val (.int p1), .val (.int p2), .val (.int p3), .val (.int p4), .val (.int p5), .val (.ref b1), .val (.ref b6), .val (.int (1 : Int32)), .val (.int (Int32.ofNat x23)), .val (.int (Int32.ofNat x25)), .val (.int (Int32.ofNat x27)), .val (.int (Int32.ofNat x29)), .val (.int (Int32.ofNat x31)), .val (.int (Int32.ofNat x33)), .val (.int (Int32.ofNat x35)), .val (.int (Int32.ofNat x37)), .val (.int (own_nq ([0, 1, 2, 3, 4].getD x23 0) ([0, 1, 2, 3, 4].getD x25 0))), .val (.int (own_nq ([0, 1, 2, 3, 4].getD x23 0) ([0, 1, 2, 3, 4].getD x25 0))), .val (.int (own_nq ([m0q47, m1q47, m2q47, m3q47, m4q47].getD x27 0) ([m0q47, m1q47, m2q47, m3q47, m4q47].getD x29 0))), .val (.int (own_nq ([m0q47, m1q47, m2q47, m3q47, m4q47].getD x27 0) ([m0q47, m1q47, m2q47, m3q47, m4q47].getD x29 0))), .val (.int (own_nq ([m0q55, m1q55, m2q55, m3q55, m4q55].getD x31 0) ([m0q55, m1q55, m2q55, m3q55, m4q55].getD x33 0))), .val (.int (own_nq ([m0q55, m1q55, m2q55, m3q55, m4q55].getD x31 0) ([m0q55, m1q55, m2q55, m3q55, m4q55].getD x33 0))), .val (.int (own_nq ([m0q63, m1q63, m2q63, m3q63, m4q63].getD x35 0) ([m0q63, m1q63, m2q63, m3q63, m4q63].getD x37 0))), .val (.int (own_nq ([m0q63, m1q63, m2q63, m3q63, m4q63].getD x35 0) ([m0q63, m1q63, m2q63, m3q63, m4q63].getD x37 0))), .val (.int (Int32.ofNat x73)), .val (.int (Int32.ofNat x75)), .val (.int (Int32.ofNat ([m0q71, m1q71, m2q71, m3q71, m4q71].getD x73 0))), .val (.int (Int32.ofNat ([m0q71, m1q71, m2q71, m3q71, m4q71].getD x75 0))), .val (.int (0 : Int32)), .unset] [(.int (Int32.ofNat x75)), (.ref b6), (.int (Int32.ofNat ([m0q71, m1q71, m2q71, m3q71, m4q71].getD x73 0)))]))
    obtain ⟨c92, A92, q92, s92, m92, H92, G92⟩ := id f90
    have b92 := inb_of (j := (Int32.ofNat x75)) s92 (own_nin (n := 5) hx75 (by decide))
    refine own_st (fun _ k => X83.iaload hx (j := (Int32.ofNat x75)) (v := (.int (Int32.ofNat ([m0q71, m1q71, m2q71, m3q71, m4q71].getD x75 0)))) (by exact A92.1) (State.isArrayOf_alike hZ.alike A92.2.1) A92.2.2 b92 (Has.at H92 b92 (own_get (n := 5) (P := [m0q71, m1q71, m2q71, m3q71, m4q71]) rfl hx75 (by decide))) (g := (mkF m 305 #[.val (.int p1), .val (.int p2), .val (.int p3), .val (.int p4), .val (.int p5), .val (.ref b1), .val (.ref b6), .val (.int (1 : Int32)), .val (.int (Int32.ofNat x23)), .val (.int (Int32.ofNat x25)), .val (.int (Int32.ofNat x27)), .val (.int (Int32.ofNat x29)), .val (.int (Int32.ofNat x31)), .val (.int (Int32.ofNat x33)), .val (.int (Int32.ofNat x35)), .val (.int (Int32.ofNat x37)), .val (.int (own_nq ([0, 1, 2, 3, 4].getD x23 0) ([0, 1, 2, 3, 4].getD x25 0))), .val (.int (own_nq ([0, 1, 2, 3, 4].getD x23 0) ([0, 1, 2, 3, 4].getD x25 0))), .val (.int (own_nq ([m0q47, m1q47, m2q47, m3q47, m4q47].getD x27 0) ([m0q47, m1q47, m2q47, m3q47, m4q47].getD x29 0))), .val (.int (own_nq ([m0q47, m1q47, m2q47, m3q47, m4q47].getD x27 0) ([m0q47, m1q47, m2q47, m3q47, m4q47].getD x29 0))), .val (.int (own_nq ([m0q55, m1q55, m2q55, m3q55, m4q55].getD x31 0) ([m0q55, m1q55, m2q55, m3q55, m4q55].getD x33 0))), .val (.int (own_nq ([m0q55, m1q55, m2q55, m3q55, m4q55].getD x31 0) ([m0q55, m1q55, m2q55, m3q55, m4q55].getD x33 0))), .val (.int (own_nq ([m0q63, m1q63, m2q63, m3q63, m4q63].getD x35 0) ([m0q63, m1q63, m2q63, m3q63, m4q63].getD x37 0))), .val (.int (own_nq ([m0q63, m1q63, m2q63, m3q63, m4q63].getD x35 0) ([m0q63, m1q63, m2q63, m3q63, m4q63].getD x37 0))), .val (.int (Int32.ofNat x73)), .val (.int (Int32.ofNat x75)), .val (.int (Int32.ofNat ([m0q71, m1q71, m2q71, m3q71, m4q71].getD x73 0))), .val (.int (Int32.ofNat ([m0q71, m1q71, m2q71, m3q71, m4q71].getD x75 0))), .val (.int (0 : Int32)), .unset] [(.int (Int32.ofNat x75)), (.ref b6), (.int (Int32.ofNat ([m0q71, m1q71, m2q71, m3q71, m4q71].getD x73 0)))])) rfl rfl (hb hby at_305) _ k) ?_
    show own_Go p.tables e below RR (T83.setTop (mkF m 306 #[.val (.int p1), .val (.int p2), .val (.int p3), .val (.int p4), .val (.int p5), .val (.ref b1), .val (.ref b6), .val (.int (1 : Int32)), .val (.int (Int32.ofNat x23)), .val (.int (Int32.ofNat x25)), .val (.int (Int32.ofNat x27)), .val (.int (Int32.ofNat x29)), .val (.int (Int32.ofNat x31)), .val (.int (Int32.ofNat x33)), .val (.int (Int32.ofNat x35)), .val (.int (Int32.ofNat x37)), .val (.int (own_nq ([0, 1, 2, 3, 4].getD x23 0) ([0, 1, 2, 3, 4].getD x25 0))), .val (.int (own_nq ([0, 1, 2, 3, 4].getD x23 0) ([0, 1, 2, 3, 4].getD x25 0))), .val (.int (own_nq ([m0q47, m1q47, m2q47, m3q47, m4q47].getD x27 0) ([m0q47, m1q47, m2q47, m3q47, m4q47].getD x29 0))), .val (.int (own_nq ([m0q47, m1q47, m2q47, m3q47, m4q47].getD x27 0) ([m0q47, m1q47, m2q47, m3q47, m4q47].getD x29 0))), .val (.int (own_nq ([m0q55, m1q55, m2q55, m3q55, m4q55].getD x31 0) ([m0q55, m1q55, m2q55, m3q55, m4q55].getD x33 0))), .val (.int (own_nq ([m0q55, m1q55, m2q55, m3q55, m4q55].getD x31 0) ([m0q55, m1q55, m2q55, m3q55, m4q55].getD x33 0))), .val (.int (own_nq ([m0q63, m1q63, m2q63, m3q63, m4q63].getD x35 0) ([m0q63, m1q63, m2q63, m3q63, m4q63].getD x37 0))), .val (.int (own_nq ([m0q63, m1q63, m2q63, m3q63, m4q63].getD x35 0) ([m0q63, m1q63, m2q63, m3q63, m4q63].getD x37 0))), .val (.int (Int32.ofNat x73)), .val (.int (Int32.ofNat x75)), .val (.int (Int32.ofNat ([m0q71, m1q71, m2q71, m3q71, m4q71].getD x73 0))), .val (.int (Int32.ofNat ([m0q71, m1q71, m2q71, m3q71, m4q71].getD x75 0))), .val (.int (0 : Int32)), .unset] [(.int (Int32.ofNat ([m0q71, m1q71, m2q71, m3q71, m4q71].getD x75 0))), (.int (Int32.ofNat ([m0q71, m1q71, m2q71, m3q71, m4q71].getD x73 0)))]))
    refine own_st (fun _ k => XS.icmpYes X83.here hx rfl (pc0 := 306) (pc' := 313) rfl (hb hby at_306) rfl (feq hc286_86).2 (by decide) (by decide) (XS.iconst X83.here hx rfl (hb hby at_313) (XS.istore X83.here hx rfl (hb hby at_314) rfl (l' := #[.val (.int p1), .val (.int p2), .val (.int p3), .val (.int p4), .val (.int p5), .val (.ref b1), .val (.ref b6), .val (.int (1 : Int32)), .val (.int (Int32.ofNat x23)), .val (.int (Int32.ofNat x25)), .val (.int (Int32.ofNat x27)), .val (.int (Int32.ofNat x29)), .val (.int (Int32.ofNat x31)), .val (.int (Int32.ofNat x33)), .val (.int (Int32.ofNat x35)), .val (.int (Int32.ofNat x37)), .val (.int (own_nq ([0, 1, 2, 3, 4].getD x23 0) ([0, 1, 2, 3, 4].getD x25 0))), .val (.int (own_nq ([0, 1, 2, 3, 4].getD x23 0) ([0, 1, 2, 3, 4].getD x25 0))), .val (.int (own_nq ([m0q47, m1q47, m2q47, m3q47, m4q47].getD x27 0) ([m0q47, m1q47, m2q47, m3q47, m4q47].getD x29 0))), .val (.int (own_nq ([m0q47, m1q47, m2q47, m3q47, m4q47].getD x27 0) ([m0q47, m1q47, m2q47, m3q47, m4q47].getD x29 0))), .val (.int (own_nq ([m0q55, m1q55, m2q55, m3q55, m4q55].getD x31 0) ([m0q55, m1q55, m2q55, m3q55, m4q55].getD x33 0))), .val (.int (own_nq ([m0q55, m1q55, m2q55, m3q55, m4q55].getD x31 0) ([m0q55, m1q55, m2q55, m3q55, m4q55].getD x33 0))), .val (.int (own_nq ([m0q63, m1q63, m2q63, m3q63, m4q63].getD x35 0) ([m0q63, m1q63, m2q63, m3q63, m4q63].getD x37 0))), .val (.int (own_nq ([m0q63, m1q63, m2q63, m3q63, m4q63].getD x35 0) ([m0q63, m1q63, m2q63, m3q63, m4q63].getD x37 0))), .val (.int (Int32.ofNat x73)), .val (.int (Int32.ofNat x75)), .val (.int (Int32.ofNat ([m0q71, m1q71, m2q71, m3q71, m4q71].getD x73 0))), .val (.int (Int32.ofNat ([m0q71, m1q71, m2q71, m3q71, m4q71].getD x75 0))), .val (.int (0 : Int32)), .val (.int (0 : Int32))]) rfl (XS.iload X83.here hx rfl (hb hby at_316) rfl k)))) ?_
    show own_Go p.tables e below RR (T83.setTop (mkF m 318 #[.val (.int p1), .val (.int p2), .val (.int p3), .val (.int p4), .val (.int p5), .val (.ref b1), .val (.ref b6), .val (.int (1 : Int32)), .val (.int (Int32.ofNat x23)), .val (.int (Int32.ofNat x25)), .val (.int (Int32.ofNat x27)), .val (.int (Int32.ofNat x29)), .val (.int (Int32.ofNat x31)), .val (.int (Int32.ofNat x33)), .val (.int (Int32.ofNat x35)), .val (.int (Int32.ofNat x37)), .val (.int (own_nq ([0, 1, 2, 3, 4].getD x23 0) ([0, 1, 2, 3, 4].getD x25 0))), .val (.int (own_nq ([0, 1, 2, 3, 4].getD x23 0) ([0, 1, 2, 3, 4].getD x25 0))), .val (.int (own_nq ([m0q47, m1q47, m2q47, m3q47, m4q47].getD x27 0) ([m0q47, m1q47, m2q47, m3q47, m4q47].getD x29 0))), .val (.int (own_nq ([m0q47, m1q47, m2q47, m3q47, m4q47].getD x27 0) ([m0q47, m1q47, m2q47, m3q47, m4q47].getD x29 0))), .val (.int (own_nq ([m0q55, m1q55, m2q55, m3q55, m4q55].getD x31 0) ([m0q55, m1q55, m2q55, m3q55, m4q55].getD x33 0))), .val (.int (own_nq ([m0q55, m1q55, m2q55, m3q55, m4q55].getD x31 0) ([m0q55, m1q55, m2q55, m3q55, m4q55].getD x33 0))), .val (.int (own_nq ([m0q63, m1q63, m2q63, m3q63, m4q63].getD x35 0) ([m0q63, m1q63, m2q63, m3q63, m4q63].getD x37 0))), .val (.int (own_nq ([m0q63, m1q63, m2q63, m3q63, m4q63].getD x35 0) ([m0q63, m1q63, m2q63, m3q63, m4q63].getD x37 0))), .val (.int (Int32.ofNat x73)), .val (.int (Int32.ofNat x75)), .val (.int (Int32.ofNat ([m0q71, m1q71, m2q71, m3q71, m4q71].getD x73 0))), .val (.int (Int32.ofNat ([m0q71, m1q71, m2q71, m3q71, m4q71].getD x75 0))), .val (.int (0 : Int32)), .val (.int (0 : Int32))] [(.int (1 : Int32))]))
    refine own_st (fun _ k => XS.ifNo X83.here hx rfl (hb hby at_318) rfl ((if0 _ _).trans (feq (by decide)).1) (XS.iload X83.here hx rfl (hb hby at_321) rfl (XS.iload X83.here hx rfl (hb hby at_323) rfl k))) ?_
    show own_Go p.tables e below RR (T83.setTop (mkF m 325 #[.val (.int p1), .val (.int p2), .val (.int p3), .val (.int p4), .val (.int p5), .val (.ref b1), .val (.ref b6), .val (.int (1 : Int32)), .val (.int (Int32.ofNat x23)), .val (.int (Int32.ofNat x25)), .val (.int (Int32.ofNat x27)), .val (.int (Int32.ofNat x29)), .val (.int (Int32.ofNat x31)), .val (.int (Int32.ofNat x33)), .val (.int (Int32.ofNat x35)), .val (.int (Int32.ofNat x37)), .val (.int (own_nq ([0, 1, 2, 3, 4].getD x23 0) ([0, 1, 2, 3, 4].getD x25 0))), .val (.int (own_nq ([0, 1, 2, 3, 4].getD x23 0) ([0, 1, 2, 3, 4].getD x25 0))), .val (.int (own_nq ([m0q47, m1q47, m2q47, m3q47, m4q47].getD x27 0) ([m0q47, m1q47, m2q47, m3q47, m4q47].getD x29 0))), .val (.int (own_nq ([m0q47, m1q47, m2q47, m3q47, m4q47].getD x27 0) ([m0q47, m1q47, m2q47, m3q47, m4q47].getD x29 0))), .val (.int (own_nq ([m0q55, m1q55, m2q55, m3q55, m4q55].getD x31 0) ([m0q55, m1q55, m2q55, m3q55, m4q55].getD x33 0))), .val (.int (own_nq ([m0q55, m1q55, m2q55, m3q55, m4q55].getD x31 0) ([m0q55, m1q55, m2q55, m3q55, m4q55].getD x33 0))), .val (.int (own_nq ([m0q63, m1q63, m2q63, m3q63, m4q63].getD x35 0) ([m0q63, m1q63, m2q63, m3q63, m4q63].getD x37 0))), .val (.int (own_nq ([m0q63, m1q63, m2q63, m3q63, m4q63].getD x35 0) ([m0q63, m1q63, m2q63, m3q63, m4q63].getD x37 0))), .val (.int (Int32.ofNat x73)), .val (.int (Int32.ofNat x75)), .val (.int (Int32.ofNat ([m0q71, m1q71, m2q71, m3q71, m4q71].getD x73 0))), .val (.int (Int32.ofNat ([m0q71, m1q71, m2q71, m3q71, m4q71].getD x75 0))), .val (.int (0 : Int32)), .val (.int (0 : Int32))] [(.int (0 : Int32)), (.int (0 : Int32))]))
    refine own_st (fun _ k => XS.icmpNo X83.here hx rfl (hb hby at_325) rfl (teq (by decide)).2 (XS.iconst X83.here hx rfl (hb hby at_328) (XS.goto X83.here hx rfl (pc0 := 329) (pc' := 333) rfl (hb hby at_329) (by decide) (by decide) k))) ?_
    show own_Go p.tables e below RR (T83.setTop (mkF m 333 #[.val (.int p1), .val (.int p2), .val (.int p3), .val (.int p4), .val (.int p5), .val (.ref b1), .val (.ref b6), .val (.int (1 : Int32)), .val (.int (Int32.ofNat x23)), .val (.int (Int32.ofNat x25)), .val (.int (Int32.ofNat x27)), .val (.int (Int32.ofNat x29)), .val (.int (Int32.ofNat x31)), .val (.int (Int32.ofNat x33)), .val (.int (Int32.ofNat x35)), .val (.int (Int32.ofNat x37)), .val (.int (own_nq ([0, 1, 2, 3, 4].getD x23 0) ([0, 1, 2, 3, 4].getD x25 0))), .val (.int (own_nq ([0, 1, 2, 3, 4].getD x23 0) ([0, 1, 2, 3, 4].getD x25 0))), .val (.int (own_nq ([m0q47, m1q47, m2q47, m3q47, m4q47].getD x27 0) ([m0q47, m1q47, m2q47, m3q47, m4q47].getD x29 0))), .val (.int (own_nq ([m0q47, m1q47, m2q47, m3q47, m4q47].getD x27 0) ([m0q47, m1q47, m2q47, m3q47, m4q47].getD x29 0))), .val (.int (own_nq ([m0q55, m1q55, m2q55, m3q55, m4q55].getD x31 0) ([m0q55, m1q55, m2q55, m3q55, m4q55].getD x33 0))), .val (.int (own_nq ([m0q55, m1q55, m2q55, m3q55, m4q55].getD x31 0) ([m0q55, m1q55, m2q55, m3q55, m4q55].getD x33 0))), .val (.int (own_nq ([m0q63, m1q63, m2q63, m3q63, m4q63].getD x35 0) ([m0q63, m1q63, m2q63, m3q63, m4q63].getD x37 0))), .val (.int (own_nq ([m0q63, m1q63, m2q63, m3q63, m4q63].getD x35 0) ([m0q63, m1q63, m2q63, m3q63, m4q63].getD x37 0))), .val (.int (Int32.ofNat x73)), .val (.int (Int32.ofNat x75)), .val (.int (Int32.ofNat ([m0q71, m1q71, m2q71, m3q71, m4q71].getD x73 0))), .val (.int (Int32.ofNat ([m0q71, m1q71, m2q71, m3q71, m4q71].getD x75 0))), .val (.int (0 : Int32)), .val (.int (0 : Int32))] [(.int (1 : Int32))]))
    obtain ⟨fs, hrt_, hrun, hended, hW, hsame⟩ := X83.leave (v := some (.int (1 : Int32))) (fun h => by rw [Bd.returns] at h; cases h)
    refine own_fin (retN X83 hx (t := .boolean) Bd.returns (by simp) (hb hby at_333) hrt_) (hRR _ ⟨_, hrun, hended, _, _, rfl, ?_, ⟨_, rfl⟩, hW, hsame.mono (by decide) (by decide)⟩)
    show own_Q0 Z p1 p2 p3 p4 p5 cK fa h0 n0 _ T83.heap _
    exact ⟨rfl, N83⟩
set_option maxRecDepth 65536 in
set_option maxHeartbeats 40000000 in
theorem own_comes {Post : Tables → Env → Array Value → State → Outcome → State → Prop} (hpost : ∀ tb e args s v u, (limb_1_1.after args s (.returned v) u = true ∧ limb_1_2.after args s (.returned v) u = true ∧ True) → ReturnedEndW s (.returned v) u (Jvm.fieldLocs frame_1_writes args s ++ Jvm.arrayLocs frame_1_arrays args s ++ Jvm.staticLocs frame_1_statics s) 16 128 → Post tb e args s (.returned v) u) :
    ArmFor flags0 classFile x code maxLocals ret World_1 tables_1 room_1 Calls_1 rest_1 Pre_1 Post := by
  intro l hfl _ _ p e ha hc hk s m args below hf hA hF happ hP
  obtain ⟨hcalls, hrest, hpre⟩ := hP
  obtain ⟨-, -, -, hnamed, -, -, -, hat⟩ := (Spec.applies_iff hf).mp happ
  obtain ⟨hg, hn⟩ := and_e (Cond.before_iff.mp (show (Jvm.Cond.and given_1 narrow_1).before args s = true from hpre))
  obtain ⟨u1a, u1b⟩ := and_e hg
  obtain ⟨u2a, u2b⟩ := and_e u1b
  obtain ⟨u3a, u3b⟩ := and_e u2b
  obtain ⟨u4a, u4b⟩ := and_e u3b
  obtain ⟨u5a, u5b⟩ := and_e u4b
  obtain ⟨w0, w1, w2, w3, w4, rfl⟩ : ∃ w0 w1 w2 w3 w4 : Value, args = #[w0, w1, w2, w3, w4] := by
    have hs : args.size = 5 := by simpa [Cond.value, given_1] using u1a
    obtain ⟨L⟩ := args
    match L, hs with
    | [w0, w1, w2, w3, w4], _ => exact ⟨w0, w1, w2, w3, w4, rfl⟩
  have hw := fun d (hd : d ∈ tables_1) => atoms_spec (ws := Jvm.Cond.code x code maxLocals ret :: tables_1) hat d (List.mem_cons_of_mem _ hd)
  have hfit : Fit s := fun {y c} hc i hi => by
    obtain ⟨ha, rfl⟩ := Array.getElem?_eq_some_iff.mp hc
    have q := List.all_eq_true.mp ((Array.all_eq_true_iff_forall_mem.mp hF) _ (Array.getElem_mem ha)) i (List.mem_range.mpr hi)
    simpa [Array.getElem?_eq_getElem hi] using q
  obtain ⟨i0, ei0⟩ := is_v u2a
  obtain rfl : w0 = (.int i0) := Option.some.inj ei0
  obtain ⟨i1, ei1⟩ := is_v u3a
  obtain rfl : w1 = (.int i1) := Option.some.inj ei1
  obtain ⟨i2, ei2⟩ := is_v u4a
  obtain rfl : w2 = (.int i2) := Option.some.inj ei2
  obtain ⟨i3, ei3⟩ := is_v u5a
  obtain rfl : w3 = (.int i3) := Option.some.inj ei3
  obtain ⟨i4, ei4⟩ := is_v u5b
  obtain rfl : w4 = (.int i4) := Option.some.inj ei4
  obtain ⟨cK, fa, hLam⟩ := own_site (hw _ (List.mem_of_getElem? (i := 12) rfl)) rfl
  obtain ⟨n, o, h1, h2, h3, _, L, rfl, ⟨rfl, N⟩, hq⟩ := own_rm0 l s _ hw tables_1 i0 i1 i2 i3 i4 cK fa s.heap s.heap.size (Nat.le_refl _)  p e ha hc hk s m _ below hf ((Spec.applies_iff_loose hf).mp happ).1 ⟨rfl, State.Warmed39.refl s, rfl, hLam⟩ trivial
  refine ⟨n, _, h1, h2, h3, hpost _ _ _ _ _ _ ⟨Cond.after_iff.mpr rfl, Cond.after_iff.mpr (eq_i res_at (Term.int_eval (1)) rfl), trivial⟩ (ReturnedEndW.of_narrow hq.1 hq.2.1 ((hq.2.2.sift fun y hy => Or.inr (N y hy)).mono (by decide) (by decide)))⟩
theorem main_1_1 : Claimed_1_1 := own_comes fun _ _ _ _ _ _ h hF => ⟨h.1, hF⟩
theorem main_1_2 : Claimed_1_2 := own_comes fun _ _ _ _ _ _ h hF => ⟨h.2.1, hF⟩
end Jvm.Pilot.@@N@@
namespace Jvm.Pilot.@@N@@
open Jvm Jvm.ClassFile Sem Op Lib Jvm.Free Jvm.Stand Jvm.Pilot.@@N@@.Jvm.D
/-! MADE BY PROGRAM (witnessworld.py) out of the Statement's table words and the real class files: 13 classes; the members and pool entries that the words name. The judged class is class 1, her method 4. -/
namespace start1
open Jvm.ClassFile
def u (s : String) : CpInfo := .utf8 (stringToUtf16 s)
/-- a pool by its gaps: so many unusable entries, then the entry; so many at the end -/
def gap : Nat → List CpInfo → List CpInfo
  | 0, r => r
  | n + 1, r => .unusable :: gap n r
def poolList (es : List (Nat × CpInfo)) (last : Nat) : List CpInfo := es.foldr (fun e r => gap e.1 (e.2 :: r)) (gap last [])
def pool (es : List (Nat × CpInfo)) (last : Nat) : Array CpInfo := ⟨poolList es last⟩
def fileOf (pool : Array CpInfo) (this : Nat) (attrs : Array Attribute := #[]) (ms : Array MethodInfo := #[]) (fl : Nat := 33) (sup : Nat := 0) (ifs : Array Nat := #[]) (fds : Array FieldInfo := #[]) : ClassFile where
  minorVersion := 0
  majorVersion := 65
  constantPool := pool
  accessFlags := fl
  thisClass := this
  superClass := sup
  interfaces := ifs
  fields := fds
  methods := ms
  attributes := attrs
def plain (name : String) (sup : Option ClassId) : Class where
  name := name
  kind := .ordinary
  loader := none
  accessFlags := 33
  super := sup
  interfaces := #[]
  cf := none
  fields := #[]
  methods := #[]
  instanceTypes := #[]
  staticTypes := #[]
  resolved := #[]
  callSites := []
  init := .initialized
  statics := none
  mirror := none

def pool0 : Array CpInfo := pool [(5, u "<init>"), (0, u "()V"), (1, .class_ 10), (1, u "java/lang/Object")] 113

def k0c0 : Code := { maxStack := 0, maxLocals := 1, code := object_method_1_code, exceptionTable := #[], attributes := #[] }
def k0m0 : Method := { name := "<init>", desc := "()V", sig := { parameters := [], returnType := none }, accessFlags := 1, code := some k0c0 }
/-- java/lang/Object -/
def k0 : Class := { plain "java/lang/Object" none with
  accessFlags := 33
  interfaces := #[]
  cf := some (fileOf pool0 8 #[] #[{ accessFlags := 1, nameIndex := 5, descriptorIndex := 6, attributes := #[] }] 33 0 #[] #[])
  fields := #[]
  methods := #[k0m0]
  instanceTypes := #[]
  staticTypes := #[]
  resolved := Array.replicate 124 none
  statics := none }

def pool1 : Array CpInfo := pool [(2, .class_ 4), (1, u "java/lang/Object"), (0, u "<init>"), (0, u "()V"), (0, .class_ 8), (0, u "com/example/saar/saar/sim/Parts"), (0, .methodref 7 10), (0, .nameAndType 5 11), (0, u "(I)V"), (0, .methodref 13 14), (0, .class_ 15), (0, .nameAndType 16 17), (0, u "com/example/saar/saar/sim/PartsJoinPinLaw"), (0, u "lo"), (0, u "(I)I"), (0, .methodref 13 19), (0, .nameAndType 20 17), (0, u "hi"), (0, .methodref 7 22), (0, .nameAndType 23 24), (0, u "join"), (0, u "(II)Z"), (0, .methodref 13 26), (0, .nameAndType 27 28), (0, u "step"), (0, u "([III)Z"), (0, .methodref 7 30), (0, .nameAndType 31 17), (0, u "of"), (3, u "law"), (0, u "(IIIII)Z")] 4

def k1m0 : Method := { name := "<init>", desc := "()V", sig := { parameters := [], returnType := none }, accessFlags := 1, code := none }
def k1c1 : Code := { maxStack := 2, maxLocals := 1, code := method_2_code, exceptionTable := #[], attributes := #[] }
def k1m1 : Method := { name := "lo", desc := "(I)I", sig := { parameters := [.int], returnType := some .int }, accessFlags := 10, code := some k1c1 }
def k1c2 : Code := { maxStack := 2, maxLocals := 1, code := method_3_code, exceptionTable := #[], attributes := #[] }
def k1m2 : Method := { name := "hi", desc := "(I)I", sig := { parameters := [.int], returnType := some .int }, accessFlags := 10, code := some k1c2 }
def k1c3 : Code := { maxStack := 3, maxLocals := 5, code := method_4_code, exceptionTable := #[], attributes := #[] }
def k1m3 : Method := { name := "step", desc := "([III)Z", sig := { parameters := [(.array .int), .int, .int], returnType := some .boolean }, accessFlags := 10, code := some k1c3 }
def k1c4 : Code := { maxStack := 4, maxLocals := 30, code := code, exceptionTable := #[], attributes := #[] }
def k1m4 : Method := { name := "law", desc := "(IIIII)Z", sig := { parameters := [.int, .int, .int, .int, .int], returnType := some .boolean }, accessFlags := 9, code := some k1c4 }
/-- com/example/saar/saar/sim/PartsJoinPinLaw -/
def k1 : Class := { plain "com/example/saar/saar/sim/PartsJoinPinLaw" (some 0) with
  accessFlags := 49
  interfaces := #[]
  cf := some (fileOf pool1 13 #[] #[{ accessFlags := 1, nameIndex := 5, descriptorIndex := 6, attributes := #[] }, { accessFlags := 10, nameIndex := 16, descriptorIndex := 17, attributes := #[] }, { accessFlags := 10, nameIndex := 20, descriptorIndex := 17, attributes := #[] }, { accessFlags := 10, nameIndex := 27, descriptorIndex := 28, attributes := #[] }, { accessFlags := 9, nameIndex := 35, descriptorIndex := 36, attributes := #[] }] 49 2 #[] #[])
  fields := #[]
  methods := #[k1m0, k1m1, k1m2, k1m3, k1m4]
  instanceTypes := #[]
  staticTypes := #[]
  resolved := Array.replicate 41 none
  statics := none }

def pool2 : Array CpInfo := pool [(1, .methodref 2 3), (0, .class_ 4), (0, .nameAndType 5 6), (0, u "java/lang/Object"), (0, u "<init>"), (0, u "()V"), (0, .fieldref 8 9), (0, .class_ 10), (0, .nameAndType 11 12), (0, u "com/example/saar/saar/sim/Parts"), (0, u "known"), (0, u "[I"), (0, .invokeDynamic 0 14), (0, .nameAndType 15 16), (0, u "applyAsInt"), (0, u "()Ljava/util/function/IntUnaryOperator;"), (0, .methodref 18 19), (0, .class_ 20), (0, .nameAndType 21 22), (0, u "java/util/Arrays"), (0, u "setAll"), (0, u "([ILjava/util/function/IntUnaryOperator;)V"), (0, .methodref 8 24), (0, .nameAndType 25 26), (0, u "of"), (0, u "(I)I"), (0, u "(I)V"), (2, u "join"), (0, u "(II)Z"), (1, u "lambda$new$0"), (3, .methodType 26), (0, .methodHandle 6 39), (0, .methodref 8 40), (0, .nameAndType 33 26), (0, .methodHandle 6 42), (0, .methodref 43 44), (0, .class_ 45), (0, .nameAndType 46 47), (0, u "java/lang/invoke/LambdaMetafactory"), (0, u "metafactory"), (0, u "(Ljava/lang/invoke/MethodHandles$Lookup;Ljava/lang/String;Ljava/lang/invoke/MethodType;Ljava/lang/invoke/MethodType;Ljava/lang/invoke/MethodHandle;Ljava/lang/invoke/MethodType;)Ljava/lang/invoke/CallSite;")] 6

def k2c0 : Code := { maxStack := 2, maxLocals := 2, code := prog_63_method_1_code, exceptionTable := #[], attributes := #[] }
def k2m0 : Method := { name := "<init>", desc := "(I)V", sig := { parameters := [.int], returnType := none }, accessFlags := 0, code := some k2c0 }
def k2c1 : Code := { maxStack := 3, maxLocals := 5, code := prog_63_method_2_code, exceptionTable := #[], attributes := #[] }
def k2m1 : Method := { name := "join", desc := "(II)Z", sig := { parameters := [.int, .int], returnType := some .boolean }, accessFlags := 0, code := some k2c1 }
def k2c2 : Code := { maxStack := 5, maxLocals := 3, code := prog_63_method_3_code, exceptionTable := #[], attributes := #[] }
def k2m2 : Method := { name := "of", desc := "(I)I", sig := { parameters := [.int], returnType := some .int }, accessFlags := 0, code := some k2c2 }
def k2c3 : Code := { maxStack := 1, maxLocals := 1, code := prog_63_method_4_code, exceptionTable := #[], attributes := #[] }
def k2m3 : Method := { name := "lambda$new$0", desc := "(I)I", sig := { parameters := [.int], returnType := some .int }, accessFlags := 4106, code := some k2c3 }
/-- com/example/saar/saar/sim/Parts -/
def k2 : Class := { plain "com/example/saar/saar/sim/Parts" (some 0) with
  accessFlags := 48
  interfaces := #[]
  cf := some (fileOf pool2 8 #[.bootstrapMethods #[⟨41, #[37, 38, 37]⟩]] #[{ accessFlags := 0, nameIndex := 5, descriptorIndex := 27, attributes := #[] }, { accessFlags := 0, nameIndex := 30, descriptorIndex := 31, attributes := #[] }, { accessFlags := 0, nameIndex := 25, descriptorIndex := 26, attributes := #[] }, { accessFlags := 4106, nameIndex := 33, descriptorIndex := 26, attributes := #[] }] 48 2 #[] #[{ accessFlags := 18, nameIndex := 11, descriptorIndex := 12, attributes := #[] }])
  fields := #[{ name := "known", type := (.array .int), accessFlags := 18, slot := 0, constantValue := 0 }]
  methods := #[k2m0, k2m1, k2m2, k2m3]
  instanceTypes := #[(.array .int)]
  staticTypes := #[]
  resolved := Array.replicate 54 none
  callSites := [(0, 15, .constant 0)]
  statics := none }

def pool3 : Array CpInfo := pool [(9, u "applyAsInt"), (6, .class_ 18), (1, u "java/util/function/IntUnaryOperator"), (0, u "(I)I"), (0, .class_ 21), (0, u "java/lang/Object")] 46

def k3m0 : Method := { name := "applyAsInt", desc := "(I)I", sig := { parameters := [.int], returnType := some .int }, accessFlags := 1025, code := none }
/-- java/util/function/IntUnaryOperator -/
def k3 : Class := { plain "java/util/function/IntUnaryOperator" (some 0) with
  accessFlags := 1537
  interfaces := #[]
  cf := some (fileOf pool3 16 #[] #[{ accessFlags := 1025, nameIndex := 9, descriptorIndex := 19, attributes := #[] }] 1537 20 #[] #[])
  fields := #[]
  methods := #[k3m0]
  instanceTypes := #[]
  staticTypes := #[]
  resolved := Array.replicate 68 none
  statics := none }

def pool4 : Array CpInfo := pool [(2, .class_ 4), (1, u "java/lang/Object"), (0, u "<init>"), (0, u "()V"), (7, .class_ 16), (1, u "java/util/Arrays"), (57, .class_ 76), (1, u "java/util/Arrays$NaturalOrder"), (36, .class_ 115), (1, u "java/util/Arrays$LegacyMergeSort"), (1, u "Z"), (57, .methodref 176 177), (0, .class_ 178), (0, .nameAndType 179 180), (0, u "java/util/Objects"), (0, u "requireNonNull"), (0, u "(Ljava/lang/Object;)Ljava/lang/Object;"), (194, .class_ 376), (0, u "java/util/Arrays$ArrayList"), (68, u "$assertionsDisabled"), (136, .interfaceMethodref 583 584), (0, .class_ 585), (0, .nameAndType 586 587), (0, u "java/util/function/IntUnaryOperator"), (0, u "applyAsInt"), (0, u "(I)I"), (127, u "MIN_ARRAY_SORT_GRAN"), (0, u "I"), (2, u "INSERTIONSORT_THRESHOLD"), (187, u "setAll"), (6, u "([ILjava/util/function/IntUnaryOperator;)V"), (60, .class_ 976), (0, u "java/util/Arrays$ArrayItr")] 52

def k4m0 : Method := { name := "<init>", desc := "()V", sig := { parameters := [], returnType := none }, accessFlags := 2, code := none }
def k4c1 : Code := { maxStack := 4, maxLocals := 3, code := jdk_65_method_175_code, exceptionTable := #[], attributes := #[] }
def k4m1 : Method := { name := "setAll", desc := "([ILjava/util/function/IntUnaryOperator;)V", sig := { parameters := [(.array .int), (.object "java/util/function/IntUnaryOperator")], returnType := none }, accessFlags := 9, code := some k4c1 }
/-- java/util/Arrays -/
def k4 : Class := { plain "java/util/Arrays" (some 0) with
  accessFlags := 49
  interfaces := #[]
  cf := some (fileOf pool4 14 #[.nestMembers #[975, 375, 113, 74]] #[{ accessFlags := 2, nameIndex := 5, descriptorIndex := 6, attributes := #[] }, { accessFlags := 9, nameIndex := 907, descriptorIndex := 914, attributes := #[] }] 49 2 #[] #[{ accessFlags := 26, nameIndex := 715, descriptorIndex := 716, attributes := #[] }, { accessFlags := 26, nameIndex := 719, descriptorIndex := 716, attributes := #[] }, { accessFlags := 4120, nameIndex := 445, descriptorIndex := 117, attributes := #[] }])
  fields := #[{ name := "MIN_ARRAY_SORT_GRAN", type := .int, accessFlags := 26, slot := 0, constantValue := 0 }, { name := "INSERTIONSORT_THRESHOLD", type := .int, accessFlags := 26, slot := 1, constantValue := 0 }, { name := "$assertionsDisabled", type := .boolean, accessFlags := 4120, slot := 2, constantValue := 0 }]
  methods := #[k4m0, k4m1]
  instanceTypes := #[]
  staticTypes := #[.int, .int, .boolean]
  resolved := Array.replicate 1029 none
  statics := none }

def pool5 : Array CpInfo := pool [(2, .class_ 4), (1, u "java/lang/Object"), (0, u "<init>"), (0, u "()V"), (35, .class_ 44), (1, u "java/util/Objects"), (0, u "requireNonNull"), (0, u "(Ljava/lang/Object;)Ljava/lang/Object;")] 137

def k5m0 : Method := { name := "<init>", desc := "()V", sig := { parameters := [], returnType := none }, accessFlags := 2, code := none }
def k5c1 : Code := { maxStack := 2, maxLocals := 1, code := jdk_31_method_10_code, exceptionTable := #[], attributes := #[] }
def k5m1 : Method := { name := "requireNonNull", desc := "(Ljava/lang/Object;)Ljava/lang/Object;", sig := { parameters := [(.object "java/lang/Object")], returnType := some (.object "java/lang/Object") }, accessFlags := 9, code := some k5c1 }
/-- java/util/Objects -/
def k5 : Class := { plain "java/util/Objects" (some 0) with
  accessFlags := 49
  interfaces := #[]
  cf := some (fileOf pool5 42 #[] #[{ accessFlags := 2, nameIndex := 5, descriptorIndex := 6, attributes := #[] }, { accessFlags := 9, nameIndex := 45, descriptorIndex := 46, attributes := #[] }] 49 2 #[] #[])
  fields := #[]
  methods := #[k5m0, k5m1]
  instanceTypes := #[]
  staticTypes := #[]
  resolved := Array.replicate 184 none
  statics := none }

def pool6 : Array CpInfo := pool [(1, u "java/lang/Cloneable"), (0, .class_ 1), (0, u "java/lang/Object"), (0, .class_ 3)] 3

/-- java/lang/Cloneable -/
def k6 : Class := { plain "java/lang/Cloneable" (some 0) with
  accessFlags := 1537
  interfaces := #[]
  cf := some (fileOf pool6 2 #[] #[] 1537 4 #[] #[])
  fields := #[]
  methods := #[]
  instanceTypes := #[]
  staticTypes := #[]
  resolved := Array.replicate 8 none
  statics := none }

def pool7 : Array CpInfo := pool [(1, u "java/io/Serializable"), (0, .class_ 1), (0, u "java/lang/Object"), (0, .class_ 3)] 3

/-- java/io/Serializable -/
def k7 : Class := { plain "java/io/Serializable" (some 0) with
  accessFlags := 1537
  interfaces := #[]
  cf := some (fileOf pool7 2 #[] #[] 1537 4 #[] #[])
  fields := #[]
  methods := #[]
  instanceTypes := #[]
  staticTypes := #[]
  resolved := Array.replicate 8 none
  statics := none }

/-- the primitive byte -/
def k8 : Class := { plain "byte" none with kind := .primitive 'B', accessFlags := 0x411 }
/-- [B -/
def k9 : Class := { plain "[B" (some 0) with kind := .array 8 .byte, interfaces := #[6, 7], accessFlags := 1041 }

/-- the primitive int -/
def k10 : Class := { plain "int" none with kind := .primitive 'I', accessFlags := 0x411 }
/-- [I -/
def k11 : Class := { plain "[I" (some 0) with kind := .array 10 .int, interfaces := #[6, 7], accessFlags := 1041 }

def classes0 : Array Class := #[k0, k1, k2, k3, k4, k5, k6, k7, k8, k9, k10, k11]
/-- the class that the rule has made for the site at 15 of com/example/saar/saar/sim/Parts.<init> -/
def k12 : Class := Jvm.LamKit.madeRec { classes := classes0 } "com/example/saar/saar/sim/Parts" (Jvm.Lambda.Shape.mk "java/util/function/IntUnaryOperator" "applyAsInt" (Jvm.ClassFile.MethodDescriptor.mk ([Jvm.ClassFile.FieldType.int] : List Jvm.ClassFile.FieldType) (Option.some Jvm.ClassFile.FieldType.int)) ([] : List Jvm.ClassFile.FieldType) (6 : Nat) "com/example/saar/saar/sim/Parts" "lambda$new$0" (Jvm.ClassFile.MethodDescriptor.mk ([Jvm.ClassFile.FieldType.int] : List Jvm.ClassFile.FieldType) (Option.some Jvm.ClassFile.FieldType.int)) false (Jvm.ClassFile.MethodDescriptor.mk ([Jvm.ClassFile.FieldType.int] : List Jvm.ClassFile.FieldType) (Option.some Jvm.ClassFile.FieldType.int))) 12

def heap : Heap := #[{ cls := 12, slots := #[], vm := .none }]
def classes : Array Class := #[k0, k1, k2, k3, k4, k5, k6, k7, k8, k9, k10, k11, k12]
def interned : List (Array UInt16 × Addr) := []
def slotsUsed : Nat := 0
def theMethod : MethodId := ⟨1, 4⟩
def args0 : Array Value := #[.int 5, .int 3, .int 1, .int 2, .int 7]
def aboutOver (below : List Frame) : State where
  vm := { classes := classes, interned := interned.toArray }
  heap := heap
  slotsUsed := slotsUsed
  threads := #[{ frames := .invoking theMethod args0 :: below }]
def below0 : List Frame := [.native { method := ⟨0, 0⟩, args := #[] }]
def about1 : State := aboutOver below0
def p0 : Program := .bare "" "" ""
def e0 : Env := launch0.env 0 0 0
theorem w_frames : about1.frames = Frame.invoking theMethod args0 :: below0 := rfl
set_option maxRecDepth 65536 in
theorem w_args : argsFit about1.vm theMethod args0 = true := by decide +kernel
set_option maxRecDepth 65536 in
theorem w_heap : heapFits about1 = true := by decide +kernel
set_option maxRecDepth 65536 in
theorem w_runnable : about1.curStatus? = some .runnable := by decide +kernel
set_option maxRecDepth 65536 in
theorem w_alone : about1.alone = true := by decide +kernel
set_option maxRecDepth 65536 in
theorem w_named : about1.methodNamed? x = some theMethod := by decide +kernel
set_option maxRecDepth 65536 in
theorem w_hears : about1.hears theMethod below0 = true := by decide +kernel
set_option maxRecDepth 65536 in
theorem w_ripe : about1.ripe theMethod args0 below0 = true := by decide +kernel
theorem w_running : about1.status = .running := rfl
set_option maxRecDepth 65536 in
theorem w_room : about1.hasRoom e0.platform room_1 = true :=
  launch0.hasRoom_least _ room_1 (by decide +kernel) (by decide +kernel) (by decide +kernel) (by decide +kernel) (by decide +kernel) (by decide +kernel)
theorem allAtoms_all (ts : List Jvm.Cond) (a : Array Jvm.Value) (st : Jvm.State) : (allAtoms ts).before a st = ts.all (fun c => c.before a st) := by
  induction ts with
  | nil => rfl
  | cons c t ih =>
    show (Jvm.Cond.and c (allAtoms t)).before a st = _
    rw [Jvm.Cond.before_and, ih, List.all_cons]
def words1 : List Jvm.Cond := Jvm.Cond.code x code maxLocals ret :: tables_1
/-- a 'code' word, met by the world's own term for the bytes: nothing is compared byte by byte -/
theorem code_word {y : MethodName} {bytes : ByteArray} {mx : Nat} {rt : Option FieldType} {a : Array Value} {s : State} {m : MethodId} {meth : Method} {c : Code} (h1 : s.methodNamed? y = some m) (h2 : s.vm.method? m = some meth) (h3 : meth.code = some c) (h4 : c.code = bytes)
    (h5 : (c.maxLocals == mx && c.exceptionTable.isEmpty && decide (c.maxStack ≤ mostOperands) && decide (meth.sig.returnType = rt) && !meth.locks && decide (parseMethodDescriptor y.desc = some meth.sig)) = true) : (Jvm.Cond.code y bytes mx rt).before a s = true := by
  simp only [Bool.and_eq_true, beq_iff_eq, Bool.not_eq_true', decide_eq_true_eq] at h5
  obtain ⟨⟨⟨⟨⟨g1, g2⟩, g3⟩, g4⟩, g5⟩, g6⟩ := h5
  simp [Cond.before, Cond.holds, Cond.value, h1, h2, h3, h4, g1, g2, g3, g4, g5, g6]
def isCode : Jvm.Cond → Bool
  | .code _ _ _ _ => true
  | _ => false
theorem all_split {L : List Jvm.Cond} {P : Jvm.Cond → Bool} (h1 : L.all (fun c => isCode c || P c) = true) (h2 : ∀ c ∈ L.filter isCode, P c = true) : L.all P = true := by
  refine List.all_eq_true.mpr fun c hc => ?_
  have h := List.all_eq_true.mp h1 c hc
  rcases Bool.eq_false_or_eq_true (isCode c) with hi | hi
  · exact h2 c (List.mem_filter.mpr ⟨hc, hi⟩)
  · simpa [hi] using h
set_option maxRecDepth 65536 in
theorem w_c0 : (Jvm.Cond.code x code maxLocals ret).before args0 about1 = true := code_word (m := ⟨1, 4⟩) (meth := k1m4) (c := k1c4) (by decide +kernel) rfl rfl rfl (by decide +kernel)
set_option maxRecDepth 65536 in
theorem w_c1 : (Jvm.Cond.code ({ cls := "com/example/saar/saar/sim/Parts", name := "<init>", desc := "(I)V" } : Jvm.MethodName) prog_63_method_1_code (2 : Nat) (Option.none : Option Jvm.ClassFile.FieldType)).before args0 about1 = true := code_word (m := ⟨2, 0⟩) (meth := k2m0) (c := k2c0) (by decide +kernel) rfl rfl rfl (by decide +kernel)
set_option maxRecDepth 65536 in
theorem w_c2 : (Jvm.Cond.code ({ cls := "java/lang/Object", name := "<init>", desc := "()V" } : Jvm.MethodName) object_method_1_code (1 : Nat) (Option.none : Option Jvm.ClassFile.FieldType)).before args0 about1 = true := code_word (m := ⟨0, 0⟩) (meth := k0m0) (c := k0c0) (by decide +kernel) rfl rfl rfl (by decide +kernel)
set_option maxRecDepth 65536 in
theorem w_c3 : (Jvm.Cond.code ({ cls := "java/util/Arrays", name := "setAll", desc := "([ILjava/util/function/IntUnaryOperator;)V" } : Jvm.MethodName) jdk_65_method_175_code (3 : Nat) (Option.none : Option Jvm.ClassFile.FieldType)).before args0 about1 = true := code_word (m := ⟨4, 1⟩) (meth := k4m1) (c := k4c1) (by decide +kernel) rfl rfl rfl (by decide +kernel)
set_option maxRecDepth 65536 in
theorem w_c4 : (Jvm.Cond.code ({ cls := "java/util/Objects", name := "requireNonNull", desc := "(Ljava/lang/Object;)Ljava/lang/Object;" } : Jvm.MethodName) jdk_31_method_10_code (1 : Nat) (Option.some (Jvm.ClassFile.FieldType.object "java/lang/Object"))).before args0 about1 = true := code_word (m := ⟨5, 1⟩) (meth := k5m1) (c := k5c1) (by decide +kernel) rfl rfl rfl (by decide +kernel)
set_option maxRecDepth 65536 in
theorem w_c5 : (Jvm.Cond.code ({ cls := "com/example/saar/saar/sim/Parts", name := "lambda$new$0", desc := "(I)I" } : Jvm.MethodName) prog_63_method_4_code (1 : Nat) (Option.some Jvm.ClassFile.FieldType.int)).before args0 about1 = true := code_word (m := ⟨2, 3⟩) (meth := k2m3) (c := k2c3) (by decide +kernel) rfl rfl rfl (by decide +kernel)
set_option maxRecDepth 65536 in
theorem w_c6 : (Jvm.Cond.code ({ cls := "com/example/saar/saar/sim/PartsJoinPinLaw", name := "lo", desc := "(I)I" } : Jvm.MethodName) method_2_code (1 : Nat) (Option.some Jvm.ClassFile.FieldType.int)).before args0 about1 = true := code_word (m := ⟨1, 1⟩) (meth := k1m1) (c := k1c1) (by decide +kernel) rfl rfl rfl (by decide +kernel)
set_option maxRecDepth 65536 in
theorem w_c7 : (Jvm.Cond.code ({ cls := "com/example/saar/saar/sim/PartsJoinPinLaw", name := "hi", desc := "(I)I" } : Jvm.MethodName) method_3_code (1 : Nat) (Option.some Jvm.ClassFile.FieldType.int)).before args0 about1 = true := code_word (m := ⟨1, 2⟩) (meth := k1m2) (c := k1c2) (by decide +kernel) rfl rfl rfl (by decide +kernel)
set_option maxRecDepth 65536 in
theorem w_c8 : (Jvm.Cond.code ({ cls := "com/example/saar/saar/sim/Parts", name := "join", desc := "(II)Z" } : Jvm.MethodName) prog_63_method_2_code (5 : Nat) (Option.some Jvm.ClassFile.FieldType.boolean)).before args0 about1 = true := code_word (m := ⟨2, 1⟩) (meth := k2m1) (c := k2c1) (by decide +kernel) rfl rfl rfl (by decide +kernel)
set_option maxRecDepth 65536 in
theorem w_c9 : (Jvm.Cond.code ({ cls := "com/example/saar/saar/sim/Parts", name := "of", desc := "(I)I" } : Jvm.MethodName) prog_63_method_3_code (3 : Nat) (Option.some Jvm.ClassFile.FieldType.int)).before args0 about1 = true := code_word (m := ⟨2, 2⟩) (meth := k2m2) (c := k2c2) (by decide +kernel) rfl rfl rfl (by decide +kernel)
set_option maxRecDepth 65536 in
theorem w_c10 : (Jvm.Cond.code ({ cls := "com/example/saar/saar/sim/PartsJoinPinLaw", name := "step", desc := "([III)Z" } : Jvm.MethodName) method_4_code (5 : Nat) (Option.some Jvm.ClassFile.FieldType.boolean)).before args0 about1 = true := code_word (m := ⟨1, 3⟩) (meth := k1m3) (c := k1c3) (by decide +kernel) rfl rfl rfl (by decide +kernel)
def codes1 : List Jvm.Cond := [Jvm.Cond.code x code maxLocals ret, Jvm.Cond.code ({ cls := "com/example/saar/saar/sim/Parts", name := "<init>", desc := "(I)V" } : Jvm.MethodName) prog_63_method_1_code (2 : Nat) (Option.none : Option Jvm.ClassFile.FieldType), Jvm.Cond.code ({ cls := "java/lang/Object", name := "<init>", desc := "()V" } : Jvm.MethodName) object_method_1_code (1 : Nat) (Option.none : Option Jvm.ClassFile.FieldType), Jvm.Cond.code ({ cls := "java/util/Arrays", name := "setAll", desc := "([ILjava/util/function/IntUnaryOperator;)V" } : Jvm.MethodName) jdk_65_method_175_code (3 : Nat) (Option.none : Option Jvm.ClassFile.FieldType), Jvm.Cond.code ({ cls := "java/util/Objects", name := "requireNonNull", desc := "(Ljava/lang/Object;)Ljava/lang/Object;" } : Jvm.MethodName) jdk_31_method_10_code (1 : Nat) (Option.some (Jvm.ClassFile.FieldType.object "java/lang/Object")), Jvm.Cond.code ({ cls := "com/example/saar/saar/sim/Parts", name := "lambda$new$0", desc := "(I)I" } : Jvm.MethodName) prog_63_method_4_code (1 : Nat) (Option.some Jvm.ClassFile.FieldType.int), Jvm.Cond.code ({ cls := "com/example/saar/saar/sim/PartsJoinPinLaw", name := "lo", desc := "(I)I" } : Jvm.MethodName) method_2_code (1 : Nat) (Option.some Jvm.ClassFile.FieldType.int), Jvm.Cond.code ({ cls := "com/example/saar/saar/sim/PartsJoinPinLaw", name := "hi", desc := "(I)I" } : Jvm.MethodName) method_3_code (1 : Nat) (Option.some Jvm.ClassFile.FieldType.int), Jvm.Cond.code ({ cls := "com/example/saar/saar/sim/Parts", name := "join", desc := "(II)Z" } : Jvm.MethodName) prog_63_method_2_code (5 : Nat) (Option.some Jvm.ClassFile.FieldType.boolean), Jvm.Cond.code ({ cls := "com/example/saar/saar/sim/Parts", name := "of", desc := "(I)I" } : Jvm.MethodName) prog_63_method_3_code (3 : Nat) (Option.some Jvm.ClassFile.FieldType.int), Jvm.Cond.code ({ cls := "com/example/saar/saar/sim/PartsJoinPinLaw", name := "step", desc := "([III)Z" } : Jvm.MethodName) method_4_code (5 : Nat) (Option.some Jvm.ClassFile.FieldType.boolean)]
set_option maxRecDepth 65536 in
theorem codes_eq : words1.filter isCode = codes1 := rfl
theorem w_codes : ∀ c ∈ words1.filter isCode, c.before args0 about1 = true := by
  rw [codes_eq]
  intro c hc
  simp only [codes1, List.mem_cons, List.not_mem_nil, or_false] at hc
  rcases hc with rfl | rfl | rfl | rfl | rfl | rfl | rfl | rfl | rfl | rfl | rfl
  · exact w_c0
  · exact w_c1
  · exact w_c2
  · exact w_c3
  · exact w_c4
  · exact w_c5
  · exact w_c6
  · exact w_c7
  · exact w_c8
  · exact w_c9
  · exact w_c10
set_option maxRecDepth 65536 in
theorem w_t1 : (words1.take 24).all (fun c => isCode c || c.before args0 about1) = true := by decide +kernel
set_option maxRecDepth 65536 in
theorem w_t2 : ((words1.drop 24).take 24).all (fun c => isCode c || c.before args0 about1) = true := by decide +kernel
set_option maxRecDepth 65536 in
theorem w_t3 : ((words1.drop 24).drop 24).all (fun c => isCode c || c.before args0 about1) = true := by decide +kernel
theorem w_tables : (allAtoms (Jvm.Cond.code x code maxLocals ret :: tables_1)).before args0 about1 = true := by
  rw [allAtoms_all]
  show words1.all (fun c => c.before args0 about1) = true
  refine all_split ?_ w_codes
  rw [← List.take_append_drop 24 words1, List.all_append, w_t1, ← List.take_append_drop 24 (words1.drop 24), List.all_append, w_t2, w_t3]
  rfl
set_option maxRecDepth 65536 in
theorem w_case : (Jvm.Cond.and given_1 narrow_1).before args0 about1 = true := by decide +kernel
theorem w_applies : (headSpec (Jvm.Cond.code x code maxLocals ret :: tables_1) room_1).applies x e0.platform about1 = true :=
  (Spec.applies_iff w_frames).mpr ⟨w_running, w_runnable, w_alone, w_named, w_hears, w_ripe, w_room, w_tables⟩
theorem atStart : AtStart classFile x code maxLocals ret World_1 tables_1 room_1 Calls_1 rest_1 Pre_1 launch0 p0 e0 about1 theMethod args0 below0 :=
  ⟨lists_1, trivial, launch0.admits_env _ _ _, launch0.least_env, fairChoices_fair.cas, fairChoices_fair.clock, w_frames, w_args, w_heap, w_applies, trivial, trivial, w_case⟩
end start1
theorem witness_1 : WitnessClaimed_1 := ⟨start1.p0, start1.e0, start1.about1, start1.theMethod, start1.args0, start1.below0, start1.atStart⟩
end Jvm.Pilot.@@N@@
