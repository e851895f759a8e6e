import JvmDerived
import JvmDerived.Pilot.@@N@@Statement
import JvmDerived.Pilot.@@N@@Code
set_option linter.unusedVariables false
set_option linter.unusedSimpArgs false
namespace Jvm.RoadKit
open Sem ClassFile Op Lib Jvm.Stand Jvm.Free Jvm.LawKit
section Own
/-- from u a state is reached where R holds -/
def own_Go (tb : Tables) (e : Env) (below : List Frame) (R : State → Prop) (u : State) : Prop := ∃ t, Steps tb e below u t ∧ R t
theorem own_st {tb : Tables} {e : Env} {below : List Frame} {R : State → Prop} {u v : State} (h : ∀ t, Steps tb e below v t → Steps tb e below u t) (g : own_Go tb e below R v) : own_Go tb e below R u := by
  obtain ⟨t, h1, h2⟩ := g
  exact ⟨t, h t h1, h2⟩
theorem own_fin {tb : Tables} {e : Env} {below : List Frame} {R : State → Prop} {u t : State} (h : Steps tb e below u t) (r : R t) : own_Go tb e below R u := ⟨t, h, r⟩
theorem own_in {tb : Tables} {e : Env} {below : List Frame} {u v : State} {P : State → Outcome → Prop} (h : ∀ t, Steps tb e below v t → Steps tb e below u t)
    (g : ∀ RR : State → Prop, (∀ t, (∃ o, t.status = .running ∧ P t o) → RR t) → own_Go tb e below RR v) : ∃ t o, Steps tb e below u t ∧ t.status = .running ∧ P t o := by
  obtain ⟨t, h1, o, h2, h3⟩ := g (fun t => ∃ o, t.status = .running ∧ P t o) fun _ q => q
  exact ⟨t, o, h t h1, h2, h3⟩
theorem own_ri {x y : Int32} (h : x = y) : some (Value.int x) = some (Value.int y) := h ▸ rfl
theorem own_rj {x y : Int64} (h : x = y) : some (Value.long x) = some (Value.long y) := h ▸ rfl
theorem own_rr {x y : Addr} (h : x = y) : some (Value.ref x) = some (Value.ref y) := h ▸ rfl
theorem own_eq_int {args : Array Value} {first s : State} {o : Option Outcome} {idx : List Nat} {a : Term} {k : Int32} (h : (Cond.eq a (.int k)).value args first o s idx = some true) : a.eval args first o idx s = some (.int k) := by
  simp only [Cond.value, Term.eval] at h
  cases ht : a.eval args first o idx s with
  | none => simp [ht] at h
  | some x => cases x <;> simp [ht] at h ⊢; exact h
theorem own_eq_long {args : Array Value} {first s : State} {o : Option Outcome} {idx : List Nat} {a : Term} {k : Int64} (h : (Cond.eq a (.long k)).value args first o s idx = some true) : a.eval args first o idx s = some (.long k) := by
  simp only [Cond.value, Term.eval] at h
  cases ht : a.eval args first o idx s with
  | none => simp [ht] at h
  | some x => cases x <;> simp [ht] at h ⊢; exact h
theorem own_selP {s : State} {args : Array Value} {y : MethodName} {n : Nat} (wi : (Cond.instantiable y.cls n).before args s = true) (hp : s.PrivateAt y) (hi : (Cond.instanceMethod y).before args s = true) (hy : y.cls ≠ "java/lang/invoke/MethodHandle" ∧ y.cls ≠ "java/lang/invoke/VarHandle") : (Cond.selects y.cls y y).before args s = true := by
  obtain ⟨c, k, h1, h2, -, h4, -⟩ := Cond.instantiable_spec wi
  exact selects_self_of_private h1 h2 (Bool.or_eq_false_iff.mp h4).1 hp hi hy
variable {p : Program} {l : Launch} {e : Env} {R : Room} {s : State} {m : MethodId} {args : Array Value} {below : List Frame} {meth : Method} {c : Code} {T : State} {locs : List Loc} {cells slots : Nat} {Z : State} {h : Heap}
theorem retI (X : Stand p l e R s m args below meth c T locs cells slots) (hx : p.tables.exec = Jvm.exec) {pc : Nat} {Ls : Array Slot} {z : Int32} {rest : List Value} (hret : meth.sig.returnType = some .int) (hd : decode c.code pc = .ok (.ireturn, 1)) {fs : List Frame}
    (hl : ∀ (f : JFrame) (acts : List Action), f.method = m → f.locked = none → f.entered = [] → (doReturn e (T.setTop f) acts (some (.int z))).1 = T.setFrames fs) : Steps p.tables e below (T.setTop (mkF m pc Ls (.int z :: rest))) (T.setFrames fs) :=
  retOut X hx hret rfl (Or.inl ⟨rfl, Or.inl rfl, z, rfl⟩) hd hl
theorem own_len (X : Stand p l e R s m args below meth c T locs cells slots) (hx : p.tables.exec = Jvm.exec) (hZ : Z.Warmed39 s.vm) (eT : T.heap = h) {a : Addr} {cl : Cell} {ty : FieldType} (A : Arr Z h a cl ty) {z : Int32} (S : cl.slots.size = z.toNatClampNeg) (N : ¬ z < 0)
    {g : JFrame} (hg : g.method = m) {rest : List Value} (hs : g.stack = .ref a :: rest) (hd : decode c.code g.pc = .ok (.arraylength, 1)) {target : State}
    (k : Steps p.tables e below (T.setTop { g with pc := g.pc + 1, stack := .int z :: rest }) target) : Steps p.tables e below (T.setTop g) target :=
  X.arraylength hx (by rw [eT]; exact A.1) (State.isArrayOf_alike hZ.alike A.2.1) hg hs hd target (by rw [len_of S N]; exact k)
end Own
end Jvm.RoadKit
namespace Jvm.Pilot.@@N@@
open Jvm Jvm.ClassFile Sem Op Lib Jvm.Free Jvm.Stand Jvm.LawKit Jvm.RoadKit Bundle Jvm.Pilot.@@N@@.Jvm.D
def own_cmp (a b : Int64) : Int32 := if a < b then -1 else if a = b then 0 else 1
def own_ucmp (a b : Int64) : Int32 := own_cmp (a + (-9223372036854775808 : Int64)) (b + (-9223372036854775808 : Int64))
def own_span (a b c : Int64) : Int32 := if a < b then -1 else if (18446744073709551 : Int64) < c then -1 else own_ucmp (a - b) (c * (1000 : Int64))
def own_sign (x : Int32) : Int32 := if x < 0 then -1 else if 0 < x then 1 else 0
theorem own_sc (a b : Int64) : own_sign (own_cmp a b) = own_cmp a b := by
  unfold own_cmp
  split
  · rfl
  · split <;> rfl
theorem own_lit : (18446744073709551 : Int64).toInt = 18446744073709551 ∧ (1000 : Int64).toInt = 1000 ∧ (0 : Int64).toInt = 0 ∧ (-9223372036854775808 : Int64).toInt = -9223372036854775808 ∧ (500 : Int64).toInt = 500 := by decide
/-- where the span isn't negative: the quotient and the rest -/
theorem own_q {a b d q r : Int64} (hd : a - b = d) (hq : ((d.toUInt64 >>> ((1 : Int32) &&& 0x3f).toInt64.toUInt64).toInt64) / (500 : Int64) = q) (hr : d - q * (1000 : Int64) = r) (h : ¬ a < b) :
    0 ≤ q.toInt ∧ q.toInt * 1000 ≤ a.toInt - b.toInt ∧ a.toInt - b.toInt < q.toInt * 1000 + 1000 ∧ r.toInt = a.toInt - b.toInt - q.toInt * 1000 := by
  have e1 := c_lushr d 1 1 (by decide) (by decide)
  generalize hu : ((d.toUInt64 >>> ((1 : Int32) &&& 0x3f).toInt64.toUInt64).toInt64) = u at *
  have e2 := (c_ldiv u 500 500 (by decide) (by decide)).1
  rw [hq] at e2
  have e3 := c_lsub a b
  rw [hd] at e3
  have e4 := c_lsub d (q * 1000)
  rw [hr] at e4
  have e5 := c_lmul q 1000
  rw [own_lit.2.1] at e5
  have ra := rng64 a
  have rb := rng64 b
  have rd := rng64 d
  have rr := rng64 r
  rw [Int64.lt_iff_toInt_lt] at h
  have e1' : u.toInt = (d.toInt % 18446744073709551616) / 2 := e1
  clear e1
  omega
theorem own_x {a b : Int64} (h : ¬ a < b) : (a - b + (-9223372036854775808 : Int64)).toInt = a.toInt - b.toInt - 9223372036854775808 := by
  have e1 := c_ladd (a - b) (-9223372036854775808)
  have e3 := c_lsub a b
  rw [own_lit.2.2.2.1] at e1
  have r3 := rng64 (a - b + (-9223372036854775808 : Int64))
  have ra := rng64 a
  have rb := rng64 b
  rw [Int64.lt_iff_toInt_lt] at h
  generalize (a - b + (-9223372036854775808 : Int64)).toInt = x at *
  generalize (a - b).toInt = y at *
  omega
theorem own_y {c : Int64} (h0 : 0 ≤ c.toInt) (h : c.toInt ≤ 18446744073709551) : (c * (1000 : Int64) + (-9223372036854775808 : Int64)).toInt = c.toInt * 1000 - 9223372036854775808 := by
  have e1 := c_ladd (c * 1000) (-9223372036854775808)
  have e3 := c_lmul c 1000
  rw [own_lit.2.1] at e3
  rw [own_lit.2.2.2.1] at e1
  have r3 := rng64 (c * 1000 + (-9223372036854775808 : Int64))
  generalize (c * (1000 : Int64) + (-9223372036854775808 : Int64)).toInt = x at *
  generalize (c * (1000 : Int64)).toInt = y at *
  omega
theorem own_main {a b d q r c : Int64} {w : Int32} (hd : a - b = d) (hq : ((d.toUInt64 >>> ((1 : Int32) &&& 0x3f).toInt64.toUInt64).toInt64) / (500 : Int64) = q) (hr : d - q * (1000 : Int64) = r) (hc : 0 ≤ c.toInt)
    (hw : (if a < b then -1 else if q < c then -1 else if c < q then 1 else if 0 < r then 1 else (0 : Int32)) = w) : own_sign (own_span a b c) = w := by
  unfold own_span
  by_cases h : a < b
  · rw [if_pos h] at hw ⊢
    exact hw
  · rw [if_neg h] at hw ⊢
    obtain ⟨h1, h2, h3, h4⟩ := own_q hd hq hr h
    have hx := own_x h
    have ra := rng64 a
    have rb := rng64 b
    have l1 := own_lit.1
    have l0 := own_lit.2.2.1
    clear hd hq hr
    by_cases g : (18446744073709551 : Int64) < c
    · rw [if_pos g]
      have : q < c := by
        rw [Int64.lt_iff_toInt_lt] at g ⊢
        omega
      rw [if_pos this] at hw
      exact hw
    · rw [if_neg g]
      have hy := own_y hc (by rw [Int64.lt_iff_toInt_lt] at g; omega)
      unfold own_ucmp
      rw [own_sc, ← hw]
      unfold own_cmp
      simp only [Int64.lt_iff_toInt_lt, ← Int64.toInt_inj, hx, hy, l0]
      clear hx hy hw g h
      generalize a.toInt = A at *
      generalize b.toInt = B at *
      generalize c.toInt = C at *
      generalize q.toInt = Q at *
      generalize r.toInt = R at *
      rcases Int.lt_trichotomy Q C with t | t | t
      · rw [if_pos (by omega), if_pos (by omega)]
      · by_cases z : 0 < R
        · rw [if_neg (by omega), if_neg (by omega), if_neg (by omega), if_neg (by omega), if_pos z]
        · rw [if_neg (by omega), if_pos (by omega), if_neg (by omega), if_neg (by omega), if_neg z]
      · rw [if_neg (by omega), if_neg (by omega), if_neg (by omega), if_pos t]
theorem own_nn {x a : Int64} (h : x &&& (9223372036854775807 : Int64) = a) : 0 ≤ a.toInt := by
  have := c_maskL x 9223372036854775807 63 (by decide) (by decide)
  rw [h] at this
  omega
theorem own_nn2 {a : Int64} (h : ¬ a < (0 : Int64)) : 0 ≤ a.toInt := by
  rw [Int64.lt_iff_toInt_lt] at h
  have := own_lit.2.2.1
  omega
theorem own_pn_java_lang_Long : plainName "java/lang/Long" = true := by first | (simp [plainName, overriddenIn]; done) | decide +kernel
theorem own_djdk_35_method_42_code_0 : decode jdk_35_method_42_code 0 = .ok (.lload_n 0, 1) := by decide +kernel
theorem own_djdk_35_method_42_code_1 : decode jdk_35_method_42_code 1 = .ok (.lload_n 2, 1) := by decide +kernel
theorem own_djdk_35_method_42_code_2 : decode jdk_35_method_42_code 2 = .ok (.lcmp, 1) := by decide +kernel
theorem own_djdk_35_method_42_code_3 : decode jdk_35_method_42_code 3 = .ok (.ifCond .ge 7, 3) := by decide +kernel
theorem own_djdk_35_method_42_code_6 : decode jdk_35_method_42_code 6 = .ok (.iconst (-1), 1) := by decide +kernel
theorem own_djdk_35_method_42_code_7 : decode jdk_35_method_42_code 7 = .ok (.goto 14, 3) := by decide +kernel
theorem own_djdk_35_method_42_code_21 : decode jdk_35_method_42_code 21 = .ok (.ireturn, 1) := by decide +kernel
theorem own_djdk_35_method_42_code_10 : decode jdk_35_method_42_code 10 = .ok (.lload_n 0, 1) := by decide +kernel
theorem own_djdk_35_method_42_code_11 : decode jdk_35_method_42_code 11 = .ok (.lload_n 2, 1) := by decide +kernel
theorem own_djdk_35_method_42_code_12 : decode jdk_35_method_42_code 12 = .ok (.lcmp, 1) := by decide +kernel
theorem own_djdk_35_method_42_code_13 : decode jdk_35_method_42_code 13 = .ok (.ifCond .ne 7, 3) := by decide +kernel
theorem own_djdk_35_method_42_code_16 : decode jdk_35_method_42_code 16 = .ok (.iconst 0, 1) := by decide +kernel
theorem own_djdk_35_method_42_code_17 : decode jdk_35_method_42_code 17 = .ok (.goto 4, 3) := by decide +kernel
theorem own_djdk_35_method_42_code_20 : decode jdk_35_method_42_code 20 = .ok (.iconst 1, 1) := by decide +kernel
theorem own_efC (m : MethodId) (q1 : Int64) (q2 : Int64) : entryFrame m #[(.long q1), (.long q2)] 4 = mkF m 0 #[.val (.long q1), .second, .val (.long q2), .second] [] := by first | (simp [entryFrame, mkF, argsToLocals, Value.category]; done) | rfl
def own_QC (Z : State) (q1 : Int64) (q2 : Int64) (h0 : Heap) (n0 : Nat) (rv__ : Option Value) (h : Heap) (rL__ : List Loc) : Prop := rv__ = some (.int (own_cmp q1 q2)) ∧ Fr n0 rL__ ∧ h = h0
abbrev own_RC : Room := { frames := 0, cells := 0, slots := 0, locals := 0 }
set_option maxRecDepth 65536 in
set_option maxHeartbeats 40000000 in
theorem own_rmC (l : Launch) (Z : State) (a0 : Array Value) (hw : ∀ d ∈ tables_1, d.before a0 Z = true) (ws : List Jvm.Cond) (q1 : Int64) (q2 : Int64) (h0 : Heap) (n0 : Nat) (Z0 : n0 ≤ h0.size)  :
    MetFree l (⟨"java/lang/Long", "compare", "(JJ)I"⟩ : MethodName) (head1 (Jvm.Cond.code (⟨"java/lang/Long", "compare", "(JJ)I"⟩ : MethodName) jdk_35_method_42_code 4 (some .int) :: ws) own_RC) (fun aa__ U => aa__ = #[(.long q1), (.long q2)] ∧ Z.Warmed39 U.vm ∧ U.heap = h0) (fun _ _ _ _ _ => True) (fun _ U oc_ U' => ∃ rv__ rL__, oc_ = .returned rv__ ∧ own_QC Z q1 q2 h0 n0 rv__ U'.heap rL__ ∧ FrameEnd U oc_ U' rL__ own_RC.cells own_RC.slots) := by
  refine MetFree.of_bodySF (plainFor_of_name own_pn_java_lang_Long) hisR ?_
  intro p e s m args below meth c s₁ Bd hml0 hP hK
  obtain ⟨rfl, hZ, hh⟩ := hP
  have hx := Bd.exec
  have hby := Bd.bytes
  have hml : c.maxLocals = 4 := hml0
  have hown : s.vm.findClass "java/lang/Long" = some m.cls := findClass_of_methodNamed Bd.named
  have hnm := (name_of_methodNamed Bd.named Bd.method).1
  have X0 : Stand p l e own_RC s m #[(.long q1), (.long q2)] below meth c s₁ [] 0 0 := Stand.of_body Bd
  have e0 : s₁.heap = h0 := by rw [← hh, Bd.state]; rfl
  have N0 := Fr.nil n0
  refine own_in (fun _ k => castTop (own_efC m q1 q2) k) ?_
  intro RR hRR
  show own_Go p.tables e below RR (s₁.setTop (mkF m 0 #[.val (.long q1), .second, .val (.long q2), .second] []))
  refine own_st (fun _ k => XS.lloadN X0.here hx rfl (hb hby own_djdk_35_method_42_code_0) rfl (XS.lloadN X0.here hx rfl (hb hby own_djdk_35_method_42_code_1) rfl (XS.lcmp X0.here hx rfl (hb hby own_djdk_35_method_42_code_2) rfl k))) ?_
  show own_Go p.tables e below RR (s₁.setTop (mkF m 3 #[.val (.long q1), .second, .val (.long q2), .second] [(.int (lcmpW q1 q2))]))
  by_cases hc3_1 : q1 < q2
  · refine own_st (fun _ k => XS.ifNo X0.here hx rfl (hb hby own_djdk_35_method_42_code_3) rfl ((if0 _ _).trans (tlt ((lw_lt _ _).mpr hc3_1)).2.1) (XS.iconst X0.here hx rfl (hb hby own_djdk_35_method_42_code_6) (XS.goto X0.here hx rfl (pc0 := 7) (pc' := 21) rfl (hb hby own_djdk_35_method_42_code_7) (by decide) (by decide) k))) ?_
    show own_Go p.tables e below RR (s₁.setTop (mkF m 21 #[.val (.long q1), .second, .val (.long q2), .second] [(.int (-1 : Int32))]))
    obtain ⟨fs, hrt_, hrun, hended, hW, hsame⟩ := X0.leave (v := some (.int (-1 : Int32))) (fun h => by rw [Bd.returns] at h; cases h)
    refine own_fin (retI X0 hx Bd.returns (hb hby own_djdk_35_method_42_code_21) hrt_) (hRR _ ⟨_, hrun, hended, _, _, rfl, ?_, ⟨_, rfl⟩, hW, hsame.mono (by decide) (by decide)⟩)
    show own_QC Z q1 q2 h0 n0 _ s₁.heap _
    rw [e0]
    exact ⟨own_ri (by first | (simp only [own_cmp, hc3_1, if_true, if_false]; done) | simp [own_cmp, hc3_1]), N0, rfl⟩
  · refine own_st (fun _ k => XS.ifYes X0.here hx rfl (pc0 := 3) (pc' := 10) rfl (hb hby own_djdk_35_method_42_code_3) rfl ((if0 _ _).trans (flt (fun q => hc3_1 ((lw_lt _ _).mp q))).2.1) (by decide) (by decide) (XS.lloadN X0.here hx rfl (hb hby own_djdk_35_method_42_code_10) rfl (XS.lloadN X0.here hx rfl (hb hby own_djdk_35_method_42_code_11) rfl (XS.lcmp X0.here hx rfl (hb hby own_djdk_35_method_42_code_12) rfl k)))) ?_
    show own_Go p.tables e below RR (s₁.setTop (mkF m 13 #[.val (.long q1), .second, .val (.long q2), .second] [(.int (lcmpW q1 q2))]))
    by_cases hc13_2 : q1 = q2
    · refine own_st (fun _ k => XS.ifNo X0.here hx rfl (hb hby own_djdk_35_method_42_code_13) rfl ((if0 _ _).trans (teq ((lw_eq _ _).mpr hc13_2)).2) (XS.iconst X0.here hx rfl (hb hby own_djdk_35_method_42_code_16) (XS.goto X0.here hx rfl (pc0 := 17) (pc' := 21) rfl (hb hby own_djdk_35_method_42_code_17) (by decide) (by decide) k))) ?_
      show own_Go p.tables e below RR (s₁.setTop (mkF m 21 #[.val (.long q1), .second, .val (.long q2), .second] [(.int (0 : Int32))]))
      obtain ⟨fs, hrt_, hrun, hended, hW, hsame⟩ := X0.leave (v := some (.int (0 : Int32))) (fun h => by rw [Bd.returns] at h; cases h)
      refine own_fin (retI X0 hx Bd.returns (hb hby own_djdk_35_method_42_code_21) hrt_) (hRR _ ⟨_, hrun, hended, _, _, rfl, ?_, ⟨_, rfl⟩, hW, hsame.mono (by decide) (by decide)⟩)
      show own_QC Z q1 q2 h0 n0 _ s₁.heap _
      rw [e0]
      exact ⟨own_ri (by first | (simp only [own_cmp, hc3_1, hc13_2, if_true, if_false]; done) | simp [own_cmp, hc3_1, hc13_2]), N0, rfl⟩
    · refine own_st (fun _ k => XS.ifYes X0.here hx rfl (pc0 := 13) (pc' := 20) rfl (hb hby own_djdk_35_method_42_code_13) rfl ((if0 _ _).trans (feq (fun q => hc13_2 ((lw_eq _ _).mp q))).2) (by decide) (by decide) (XS.iconst X0.here hx rfl (hb hby own_djdk_35_method_42_code_20) k)) ?_
      show own_Go p.tables e below RR (s₁.setTop (mkF m 21 #[.val (.long q1), .second, .val (.long q2), .second] [(.int (1 : Int32))]))
      obtain ⟨fs, hrt_, hrun, hended, hW, hsame⟩ := X0.leave (v := some (.int (1 : Int32))) (fun h => by rw [Bd.returns] at h; cases h)
      refine own_fin (retI X0 hx Bd.returns (hb hby own_djdk_35_method_42_code_21) hrt_) (hRR _ ⟨_, hrun, hended, _, _, rfl, ?_, ⟨_, rfl⟩, hW, hsame.mono (by decide) (by decide)⟩)
      show own_QC Z q1 q2 h0 n0 _ s₁.heap _
      rw [e0]
      exact ⟨own_ri (by first | (simp only [own_cmp, hc3_1, hc13_2, if_true, if_false]; done) | simp [own_cmp, hc3_1, hc13_2]), N0, rfl⟩
theorem own_djdk_35_method_43_code_0 : decode jdk_35_method_43_code 0 = .ok (.lload_n 0, 1) := by decide +kernel
theorem own_djdk_35_method_43_code_1 : decode jdk_35_method_43_code 1 = .ok (.ldc2_w 168, 3) := by decide +kernel
theorem own_djdk_35_method_43_code_4 : decode jdk_35_method_43_code 4 = .ok (.ladd, 1) := by decide +kernel
theorem own_djdk_35_method_43_code_5 : decode jdk_35_method_43_code 5 = .ok (.lload_n 2, 1) := by decide +kernel
theorem own_djdk_35_method_43_code_6 : decode jdk_35_method_43_code 6 = .ok (.ldc2_w 168, 3) := by decide +kernel
theorem own_djdk_35_method_43_code_9 : decode jdk_35_method_43_code 9 = .ok (.ladd, 1) := by decide +kernel
theorem own_pd__JJ_I : parseMethodDescriptor "(JJ)I" = some ⟨[.long, .long], some .int⟩ := by decide +kernel
theorem own_djdk_35_method_43_code_10 : decode jdk_35_method_43_code 10 = .ok (.invokestatic 302, 3) := by decide +kernel
theorem own_djdk_35_method_43_code_13 : decode jdk_35_method_43_code 13 = .ok (.ireturn, 1) := by decide +kernel
theorem own_efU (m : MethodId) (q1 : Int64) (q2 : Int64) : entryFrame m #[(.long q1), (.long q2)] 4 = mkF m 0 #[.val (.long q1), .second, .val (.long q2), .second] [] := by first | (simp [entryFrame, mkF, argsToLocals, Value.category]; done) | rfl
def own_QU (Z : State) (q1 : Int64) (q2 : Int64) (h0 : Heap) (n0 : Nat) (rv__ : Option Value) (h : Heap) (rL__ : List Loc) : Prop := rv__ = some (.int (own_ucmp q1 q2)) ∧ Fr n0 rL__ ∧ h = h0
abbrev own_RU : Room := { frames := 1, cells := 0, slots := 0, locals := 15 }
set_option maxRecDepth 65536 in
set_option maxHeartbeats 40000000 in
theorem own_rmU (l : Launch) (Z : State) (a0 : Array Value) (hw : ∀ d ∈ tables_1, d.before a0 Z = true) (ws : List Jvm.Cond) (q1 : Int64) (q2 : Int64) (h0 : Heap) (n0 : Nat) (Z0 : n0 ≤ h0.size)  :
    MetFree l (⟨"java/lang/Long", "compareUnsigned", "(JJ)I"⟩ : MethodName) (head1 (Jvm.Cond.code (⟨"java/lang/Long", "compareUnsigned", "(JJ)I"⟩ : MethodName) jdk_35_method_43_code 4 (some .int) :: ws) own_RU) (fun aa__ U => aa__ = #[(.long q1), (.long q2)] ∧ Z.Warmed39 U.vm ∧ U.heap = h0) (fun _ _ _ _ _ => True) (fun _ U oc_ U' => ∃ rv__ rL__, oc_ = .returned rv__ ∧ own_QU Z q1 q2 h0 n0 rv__ U'.heap rL__ ∧ FrameEnd U oc_ U' rL__ own_RU.cells own_RU.slots) := by
  refine MetFree.of_bodySF (plainFor_of_name own_pn_java_lang_Long) hisR ?_
  intro p e s m args below meth c s₁ Bd hml0 hP hK
  obtain ⟨rfl, hZ, hh⟩ := hP
  have hx := Bd.exec
  have hby := Bd.bytes
  have hml : c.maxLocals = 4 := hml0
  have hown : s.vm.findClass "java/lang/Long" = some m.cls := findClass_of_methodNamed Bd.named
  have hnm := (name_of_methodNamed Bd.named Bd.method).1
  have X0 : Stand p l e own_RU s m #[(.long q1), (.long q2)] below meth c s₁ [] 0 0 := Stand.of_body Bd
  have e0 : s₁.heap = h0 := by rw [← hh, Bd.state]; rfl
  have N0 := Fr.nil n0
  refine own_in (fun _ k => castTop (own_efU m q1 q2) k) ?_
  intro RR hRR
  show own_Go p.tables e below RR (s₁.setTop (mkF m 0 #[.val (.long q1), .second, .val (.long q2), .second] []))
  refine own_st (fun _ k => XS.lloadN X0.here hx rfl (hb hby own_djdk_35_method_43_code_0) rfl (X0.ldc2Long hx hown (mvT hZ (hw _ (List.mem_of_getElem? (i := 13) rfl))) (g := (mkF m 1 #[.val (.long q1), .second, .val (.long q2), .second] [(.long q1)])) rfl (hb hby own_djdk_35_method_43_code_1) _ (XS.ladd X0.here hx rfl (hb hby own_djdk_35_method_43_code_4) rfl (XS.lloadN X0.here hx rfl (hb hby own_djdk_35_method_43_code_5) rfl (X0.ldc2Long hx hown (mvT hZ (hw _ (List.mem_of_getElem? (i := 13) rfl))) (g := (mkF m 6 #[.val (.long q1), .second, .val (.long q2), .second] [(.long q2), (.long (q1 + (-9223372036854775808 : Int64)))])) rfl (hb hby own_djdk_35_method_43_code_6) _ (XS.ladd X0.here hx rfl (hb hby own_djdk_35_method_43_code_9) rfl k)))))) ?_
  show own_Go p.tables e below RR (s₁.setTop (mkF m 10 #[.val (.long q1), .second, .val (.long q2), .second] [(.long (q2 + (-9223372036854775808 : Int64))), (.long (q1 + (-9223372036854775808 : Int64)))]))
  obtain ⟨_, _, ⟨T1, L1, k1, n1⟩, -, X1, ⟨Lc1, hQ1, l1, y1, z1⟩, st1⟩ := Jvm.LawKit.callS X0 hx (y := (⟨"java/lang/Long", "compare", "(JJ)I"⟩ : MethodName)) hown (mvT hZ (hw _ (List.mem_of_getElem? (i := 14) rfl))) (mvT hZ (hw _ (List.mem_of_getElem? (i := 15) rfl))) (mvT hZ (hw _ (List.mem_of_getElem? (i := 11) rfl))) (mvT hZ (hw _ (List.mem_of_getElem? (i := 16) rfl))) (by decide) (backOf (W := 0) (own_rmC l Z a0 hw [] (q1 + (-9223372036854775808 : Int64)) (q2 + (-9223372036854775808 : Int64)) h0 n0 Z0 ) hZ (hw _ (List.mem_of_getElem? (i := 16) rfl)) (hw _ (List.mem_of_getElem? (i := 11) rfl)) (by decide) (by decide)) (g := (mkF m 10 #[.val (.long q1), .second, .val (.long q2), .second] [(.long (q2 + (-9223372036854775808 : Int64))), (.long (q1 + (-9223372036854775808 : Int64)))])) rfl (by rw [hml]; rfl) (argsL := [(.long (q1 + (-9223372036854775808 : Int64))), (.long (q2 + (-9223372036854775808 : Int64)))]) (rest := []) (lenOf own_pd__JJ_I rfl) rfl (by show 2 * 0 + _ ≤ _; exact Nat.le_of_eq rfl) (hb hby own_djdk_35_method_43_code_10) (fun _ _ => ⟨rfl, e0, (by decide : 0 + 0 ≤ _), (by decide : 0 + 0 ≤ _)⟩)
  dsimp only [Pt.U, Pt.locs, Pt.cells, Pt.slots] at X1 l1 y1 z1 st1 hQ1
  subst l1 y1 z1
  obtain ⟨rfl, Nq1, eq1⟩ := hQ1
  have N1 := Fr.app N0 Nq1
  refine own_st st1 ?_
  show own_Go p.tables e below RR (T1.setTop (mkF m 13 #[.val (.long q1), .second, .val (.long q2), .second] [(.int (own_cmp (q1 + (-9223372036854775808 : Int64)) (q2 + (-9223372036854775808 : Int64))))]))
  obtain ⟨fs, hrt_, hrun, hended, hW, hsame⟩ := X1.leave (v := some (.int (own_cmp (q1 + (-9223372036854775808 : Int64)) (q2 + (-9223372036854775808 : Int64))))) (fun h => by rw [Bd.returns] at h; cases h)
  refine own_fin (retI X1 hx Bd.returns (hb hby own_djdk_35_method_43_code_13) hrt_) (hRR _ ⟨_, hrun, hended, _, _, rfl, ?_, ⟨_, rfl⟩, hW, hsame.mono (by decide) (by decide)⟩)
  show own_QU Z q1 q2 h0 n0 _ T1.heap _
  rw [eq1]
  exact ⟨rfl, N1, rfl⟩
theorem own_pn_com_example_vigilant_cells_vigilantcells_model_VersionRules : plainName "com/example/vigilant_cells/vigilantcells/model/VersionRules" = true := by first | (simp [plainName, overriddenIn]; done) | decide +kernel
theorem own_dprog_27_method_5_code_0 : decode prog_27_method_5_code 0 = .ok (.lload_n 0, 1) := by decide +kernel
theorem own_dprog_27_method_5_code_1 : decode prog_27_method_5_code 1 = .ok (.lload_n 2, 1) := by decide +kernel
theorem own_dprog_27_method_5_code_2 : decode prog_27_method_5_code 2 = .ok (.lcmp, 1) := by decide +kernel
theorem own_dprog_27_method_5_code_3 : decode prog_27_method_5_code 3 = .ok (.ifCond .lt 12, 3) := by decide +kernel
theorem own_dprog_27_method_5_code_15 : decode prog_27_method_5_code 15 = .ok (.iconst (-1), 1) := by decide +kernel
theorem own_dprog_27_method_5_code_16 : decode prog_27_method_5_code 16 = .ok (.istore 6, 2) := by decide +kernel
theorem own_dprog_27_method_5_code_18 : decode prog_27_method_5_code 18 = .ok (.goto 17, 3) := by decide +kernel
theorem own_dprog_27_method_5_code_35 : decode prog_27_method_5_code 35 = .ok (.iload 6, 2) := by decide +kernel
theorem own_dprog_27_method_5_code_37 : decode prog_27_method_5_code 37 = .ok (.ireturn, 1) := by decide +kernel
theorem own_dprog_27_method_5_code_6 : decode prog_27_method_5_code 6 = .ok (.lload 4, 2) := by decide +kernel
theorem own_dprog_27_method_5_code_8 : decode prog_27_method_5_code 8 = .ok (.getstatic 103, 3) := by decide +kernel
theorem own_dprog_27_method_5_code_11 : decode prog_27_method_5_code 11 = .ok (.lcmp, 1) := by decide +kernel
theorem own_dprog_27_method_5_code_12 : decode prog_27_method_5_code 12 = .ok (.ifCond .le 9, 3) := by decide +kernel
theorem own_dprog_27_method_5_code_21 : decode prog_27_method_5_code 21 = .ok (.lload_n 0, 1) := by decide +kernel
theorem own_dprog_27_method_5_code_22 : decode prog_27_method_5_code 22 = .ok (.lload_n 2, 1) := by decide +kernel
theorem own_dprog_27_method_5_code_23 : decode prog_27_method_5_code 23 = .ok (.lsub, 1) := by decide +kernel
theorem own_dprog_27_method_5_code_24 : decode prog_27_method_5_code 24 = .ok (.lload 4, 2) := by decide +kernel
theorem own_dprog_27_method_5_code_26 : decode prog_27_method_5_code 26 = .ok (.ldc2_w 107, 3) := by decide +kernel
theorem own_dprog_27_method_5_code_29 : decode prog_27_method_5_code 29 = .ok (.lmul, 1) := by decide +kernel
theorem own_dprog_27_method_5_code_30 : decode prog_27_method_5_code 30 = .ok (.invokestatic 109, 3) := by decide +kernel
theorem own_dprog_27_method_5_code_33 : decode prog_27_method_5_code 33 = .ok (.istore 6, 2) := by decide +kernel
theorem own_efS (m : MethodId) (q1 : Int64) (q2 : Int64) (q3 : Int64) : entryFrame m #[(.long q1), (.long q2), (.long q3)] 7 = mkF m 0 #[.val (.long q1), .second, .val (.long q2), .second, .val (.long q3), .second, .unset] [] := by first | (simp [entryFrame, mkF, argsToLocals, Value.category]; done) | rfl
def own_QS (Z : State) (q1 : Int64) (q2 : Int64) (q3 : Int64) (h0 : Heap) (n0 : Nat) (rv__ : Option Value) (h : Heap) (rL__ : List Loc) : Prop := rv__ = some (.int (own_span q1 q2 q3)) ∧ Fr n0 rL__ ∧ h = h0
abbrev own_RS : Room := { frames := 2, cells := 0, slots := 0, locals := 30 }
set_option maxRecDepth 65536 in
set_option maxHeartbeats 40000000 in
theorem own_rmS (l : Launch) (Z : State) (a0 : Array Value) (hw : ∀ d ∈ tables_1, d.before a0 Z = true) (ws : List Jvm.Cond) (q1 : Int64) (q2 : Int64) (q3 : Int64) (h0 : Heap) (n0 : Nat) (Z0 : n0 ≤ h0.size) (S_MAX_SPAN_SECONDS : Sta Z h0 "com/example/vigilant_cells/vigilantcells/model/VersionRules" "MAX_SPAN_SECONDS" "J" (.long (18446744073709551 : Int64))) :
    MetFree l (⟨"com/example/vigilant_cells/vigilantcells/model/VersionRules", "compareSpan", "(JJJ)I"⟩ : MethodName) (head1 (Jvm.Cond.code (⟨"com/example/vigilant_cells/vigilantcells/model/VersionRules", "compareSpan", "(JJJ)I"⟩ : MethodName) prog_27_method_5_code 7 (some .int) :: ws) own_RS) (fun aa__ U => aa__ = #[(.long q1), (.long q2), (.long q3)] ∧ Z.Warmed39 U.vm ∧ U.heap = h0) (fun _ _ _ _ _ => True) (fun _ U oc_ U' => ∃ rv__ rL__, oc_ = .returned rv__ ∧ own_QS Z q1 q2 q3 h0 n0 rv__ U'.heap rL__ ∧ FrameEnd U oc_ U' rL__ own_RS.cells own_RS.slots) := by
  refine MetFree.of_bodySF (plainFor_of_name own_pn_com_example_vigilant_cells_vigilantcells_model_VersionRules) hisR ?_
  intro p e s m args below meth c s₁ Bd hml0 hP hK
  obtain ⟨rfl, hZ, hh⟩ := hP
  have hx := Bd.exec
  have hby := Bd.bytes
  have hml : c.maxLocals = 7 := hml0
  have hown : s.vm.findClass "com/example/vigilant_cells/vigilantcells/model/VersionRules" = some m.cls := findClass_of_methodNamed Bd.named
  have hnm := (name_of_methodNamed Bd.named Bd.method).1
  have X0 : Stand p l e own_RS s m #[(.long q1), (.long q2), (.long q3)] below meth c s₁ [] 0 0 := Stand.of_body Bd
  have e0 : s₁.heap = h0 := by rw [← hh, Bd.state]; rfl
  have N0 := Fr.nil n0
  refine own_in (fun _ k => castTop (own_efS m q1 q2 q3) k) ?_
  intro RR hRR
  show own_Go p.tables e below RR (s₁.setTop (mkF m 0 #[.val (.long q1), .second, .val (.long q2), .second, .val (.long q3), .second, .unset] []))
  refine own_st (fun _ k => XS.lloadN X0.here hx rfl (hb hby own_dprog_27_method_5_code_0) rfl (XS.lloadN X0.here hx rfl (hb hby own_dprog_27_method_5_code_1) rfl (XS.lcmp X0.here hx rfl (hb hby own_dprog_27_method_5_code_2) rfl k))) ?_
  show own_Go p.tables e below RR (s₁.setTop (mkF m 3 #[.val (.long q1), .second, .val (.long q2), .second, .val (.long q3), .second, .unset] [(.int (lcmpW q1 q2))]))
  by_cases hc3_1 : q1 < q2
  · refine own_st (fun _ k => XS.ifYes X0.here hx rfl (pc0 := 3) (pc' := 15) rfl (hb hby own_dprog_27_method_5_code_3) rfl ((if0 _ _).trans (tlt ((lw_lt _ _).mpr hc3_1)).1) (by decide) (by decide) (XS.iconst X0.here hx rfl (hb hby own_dprog_27_method_5_code_15) (XS.istore X0.here hx rfl (hb hby own_dprog_27_method_5_code_16) rfl (l' := #[.val (.long q1), .second, .val (.long q2), .second, .val (.long q3), .second, .val (.int (-1 : Int32))]) rfl (XS.goto X0.here hx rfl (pc0 := 18) (pc' := 35) rfl (hb hby own_dprog_27_method_5_code_18) (by decide) (by decide) (XS.iload X0.here hx rfl (hb hby own_dprog_27_method_5_code_35) rfl k))))) ?_
    show own_Go p.tables e below RR (s₁.setTop (mkF m 37 #[.val (.long q1), .second, .val (.long q2), .second, .val (.long q3), .second, .val (.int (-1 : Int32))] [(.int (-1 : Int32))]))
    obtain ⟨fs, hrt_, hrun, hended, hW, hsame⟩ := X0.leave (v := some (.int (-1 : Int32))) (fun h => by rw [Bd.returns] at h; cases h)
    refine own_fin (retI X0 hx Bd.returns (hb hby own_dprog_27_method_5_code_37) hrt_) (hRR _ ⟨_, hrun, hended, _, _, rfl, ?_, ⟨_, rfl⟩, hW, hsame.mono (by decide) (by decide)⟩)
    show own_QS Z q1 q2 q3 h0 n0 _ s₁.heap _
    rw [e0]
    exact ⟨own_ri (by simp only [own_span, hc3_1, if_true, if_false]), N0, rfl⟩
  · refine own_st (fun _ k => XS.ifNo X0.here hx rfl (hb hby own_dprog_27_method_5_code_3) rfl ((if0 _ _).trans (flt (fun q => hc3_1 ((lw_lt _ _).mp q))).1) (XS.lload X0.here hx rfl (hb hby own_dprog_27_method_5_code_6) rfl k)) ?_
    show own_Go p.tables e below RR (s₁.setTop (mkF m 8 #[.val (.long q1), .second, .val (.long q2), .second, .val (.long q3), .second, .unset] [(.long q3)]))
    obtain ⟨T2, X2, e2, st2⟩ := getS2 X0 hx hZ hown (host := "") (Or.inl (hw _ (List.mem_of_getElem? (i := 6) rfl))) Via.refl e0 S_MAX_SPAN_SECONDS (g := (mkF m 8 #[.val (.long q1), .second, .val (.long q2), .second, .val (.long q3), .second, .unset] [(.long q3)])) rfl (hb hby own_dprog_27_method_5_code_8)
    refine own_st st2 ?_
    show own_Go p.tables e below RR (T2.setTop (mkF m 11 #[.val (.long q1), .second, .val (.long q2), .second, .val (.long q3), .second, .unset] [(.long (18446744073709551 : Int64)), (.long q3)]))
    refine own_st (fun _ k => XS.lcmp X2.here hx rfl (hb hby own_dprog_27_method_5_code_11) rfl k) ?_
    show own_Go p.tables e below RR (T2.setTop (mkF m 12 #[.val (.long q1), .second, .val (.long q2), .second, .val (.long q3), .second, .unset] [(.int (lcmpW q3 (18446744073709551 : Int64)))]))
    by_cases hc12_3 : (18446744073709551 : Int64) < q3
    · refine own_st (fun _ k => XS.ifNo X2.here hx rfl (hb hby own_dprog_27_method_5_code_12) rfl ((if0 _ _).trans (tlt ((lw_gt _ _).mpr hc12_3)).2.2.2) (XS.iconst X2.here hx rfl (hb hby own_dprog_27_method_5_code_15) (XS.istore X2.here hx rfl (hb hby own_dprog_27_method_5_code_16) rfl (l' := #[.val (.long q1), .second, .val (.long q2), .second, .val (.long q3), .second, .val (.int (-1 : Int32))]) rfl (XS.goto X2.here hx rfl (pc0 := 18) (pc' := 35) rfl (hb hby own_dprog_27_method_5_code_18) (by decide) (by decide) (XS.iload X2.here hx rfl (hb hby own_dprog_27_method_5_code_35) rfl k))))) ?_
      show own_Go p.tables e below RR (T2.setTop (mkF m 37 #[.val (.long q1), .second, .val (.long q2), .second, .val (.long q3), .second, .val (.int (-1 : Int32))] [(.int (-1 : Int32))]))
      obtain ⟨fs, hrt_, hrun, hended, hW, hsame⟩ := X2.leave (v := some (.int (-1 : Int32))) (fun h => by rw [Bd.returns] at h; cases h)
      refine own_fin (retI X2 hx Bd.returns (hb hby own_dprog_27_method_5_code_37) hrt_) (hRR _ ⟨_, hrun, hended, _, _, rfl, ?_, ⟨_, rfl⟩, hW, hsame.mono (by decide) (by decide)⟩)
      show own_QS Z q1 q2 q3 h0 n0 _ T2.heap _
      rw [e2]
      exact ⟨own_ri (by simp only [own_span, hc3_1, hc12_3, if_true, if_false]), N0, rfl⟩
    · refine own_st (fun _ k => XS.ifYes X2.here hx rfl (pc0 := 12) (pc' := 21) rfl (hb hby own_dprog_27_method_5_code_12) rfl ((if0 _ _).trans (flt (fun q => hc12_3 ((lw_gt _ _).mp q))).2.2.2) (by decide) (by decide) (XS.lloadN X2.here hx rfl (hb hby own_dprog_27_method_5_code_21) rfl (XS.lloadN X2.here hx rfl (hb hby own_dprog_27_method_5_code_22) rfl (XS.lsub X2.here hx rfl (hb hby own_dprog_27_method_5_code_23) rfl (XS.lload X2.here hx rfl (hb hby own_dprog_27_method_5_code_24) rfl (X2.ldc2Long hx hown (mvT hZ (hw _ (List.mem_of_getElem? (i := 8) rfl))) (g := (mkF m 26 #[.val (.long q1), .second, .val (.long q2), .second, .val (.long q3), .second, .unset] [(.long q3), (.long (q1 - q2))])) rfl (hb hby own_dprog_27_method_5_code_26) _ (XS.lmul X2.here hx rfl (hb hby own_dprog_27_method_5_code_29) rfl k))))))) ?_
      show own_Go p.tables e below RR (T2.setTop (mkF m 30 #[.val (.long q1), .second, .val (.long q2), .second, .val (.long q3), .second, .unset] [(.long (q3 * (1000 : Int64))), (.long (q1 - q2))]))
      obtain ⟨_, _, ⟨T4, L4, k4, n4⟩, -, X4, ⟨Lc4, hQ4, l4, y4, z4⟩, st4⟩ := Jvm.LawKit.callS X2 hx (y := (⟨"java/lang/Long", "compareUnsigned", "(JJ)I"⟩ : MethodName)) hown (mvT hZ (hw _ (List.mem_of_getElem? (i := 9) rfl))) (mvT hZ (hw _ (List.mem_of_getElem? (i := 10) rfl))) (mvT hZ (hw _ (List.mem_of_getElem? (i := 11) rfl))) (mvT hZ (hw _ (List.mem_of_getElem? (i := 12) rfl))) (by decide) (backOf (W := 0) (own_rmU l Z a0 hw [] (q1 - q2) (q3 * (1000 : Int64)) h0 n0 Z0 ) hZ (hw _ (List.mem_of_getElem? (i := 12) rfl)) (hw _ (List.mem_of_getElem? (i := 11) rfl)) (by decide) (by decide)) (g := (mkF m 30 #[.val (.long q1), .second, .val (.long q2), .second, .val (.long q3), .second, .unset] [(.long (q3 * (1000 : Int64))), (.long (q1 - q2))])) rfl (by rw [hml]; rfl) (argsL := [(.long (q1 - q2)), (.long (q3 * (1000 : Int64)))]) (rest := []) (lenOf own_pd__JJ_I rfl) rfl (by show 2 * 0 + _ ≤ _; exact Nat.le_of_eq rfl) (hb hby own_dprog_27_method_5_code_30) (fun _ _ => ⟨rfl, e2, (by decide : 0 + 0 ≤ _), (by decide : 0 + 0 ≤ _)⟩)
      dsimp only [Pt.U, Pt.locs, Pt.cells, Pt.slots] at X4 l4 y4 z4 st4 hQ4
      subst l4 y4 z4
      obtain ⟨rfl, Nq4, eq4⟩ := hQ4
      have N4 := Fr.app N0 Nq4
      refine own_st st4 ?_
      show own_Go p.tables e below RR (T4.setTop (mkF m 33 #[.val (.long q1), .second, .val (.long q2), .second, .val (.long q3), .second, .unset] [(.int (own_ucmp (q1 - q2) (q3 * (1000 : Int64))))]))
      refine own_st (fun _ k => XS.istore X4.here hx rfl (hb hby own_dprog_27_method_5_code_33) rfl (l' := #[.val (.long q1), .second, .val (.long q2), .second, .val (.long q3), .second, .val (.int (own_ucmp (q1 - q2) (q3 * (1000 : Int64))))]) rfl (XS.iload X4.here hx rfl (hb hby own_dprog_27_method_5_code_35) rfl k)) ?_
      show own_Go p.tables e below RR (T4.setTop (mkF m 37 #[.val (.long q1), .second, .val (.long q2), .second, .val (.long q3), .second, .val (.int (own_ucmp (q1 - q2) (q3 * (1000 : Int64))))] [(.int (own_ucmp (q1 - q2) (q3 * (1000 : Int64))))]))
      obtain ⟨fs, hrt_, hrun, hended, hW, hsame⟩ := X4.leave (v := some (.int (own_ucmp (q1 - q2) (q3 * (1000 : Int64))))) (fun h => by rw [Bd.returns] at h; cases h)
      refine own_fin (retI X4 hx Bd.returns (hb hby own_dprog_27_method_5_code_37) hrt_) (hRR _ ⟨_, hrun, hended, _, _, rfl, ?_, ⟨_, rfl⟩, hW, hsame.mono (by decide) (by decide)⟩)
      show own_QS Z q1 q2 q3 h0 n0 _ T4.heap _
      rw [eq4]
      exact ⟨own_ri (by simp only [own_span, hc3_1, hc12_3, if_true, if_false]), N4, rfl⟩
theorem own_pn_com_example_vigilant_cells_vigilantcells_model_VersionRulesCompareSpanPinLaw : plainName "com/example/vigilant_cells/vigilantcells/model/VersionRulesCompareSpanPinLaw" = true := by first | (simp [plainName, overriddenIn]; done) | decide +kernel
theorem own_dmethod_2_code_0 : decode method_2_code 0 = .ok (.iload_n 0, 1) := by decide +kernel
theorem own_dmethod_2_code_1 : decode method_2_code 1 = .ok (.ifCond .ge 5, 3) := by decide +kernel
theorem own_dmethod_2_code_4 : decode method_2_code 4 = .ok (.iconst (-1), 1) := by decide +kernel
theorem own_dmethod_2_code_5 : decode method_2_code 5 = .ok (.ireturn, 1) := by decide +kernel
theorem own_dmethod_2_code_6 : decode method_2_code 6 = .ok (.iload_n 0, 1) := by decide +kernel
theorem own_dmethod_2_code_7 : decode method_2_code 7 = .ok (.ifCond .le 5, 3) := by decide +kernel
theorem own_dmethod_2_code_10 : decode method_2_code 10 = .ok (.iconst 1, 1) := by decide +kernel
theorem own_dmethod_2_code_11 : decode method_2_code 11 = .ok (.ireturn, 1) := by decide +kernel
theorem own_dmethod_2_code_12 : decode method_2_code 12 = .ok (.iconst 0, 1) := by decide +kernel
theorem own_dmethod_2_code_13 : decode method_2_code 13 = .ok (.ireturn, 1) := by decide +kernel
theorem own_efG (m : MethodId) (p1 : Int32) : entryFrame m #[(.int p1)] 1 = mkF m 0 #[.val (.int p1)] [] := by first | (simp [entryFrame, mkF, argsToLocals, Value.category]; done) | rfl
def own_QG (Z : State) (p1 : Int32) (h0 : Heap) (n0 : Nat) (rv__ : Option Value) (h : Heap) (rL__ : List Loc) : Prop := rv__ = some (.int (own_sign p1)) ∧ Fr n0 rL__ ∧ h = h0
abbrev own_RG : Room := { frames := 0, cells := 0, slots := 0, locals := 0 }
set_option maxRecDepth 65536 in
set_option maxHeartbeats 40000000 in
theorem own_rmG (l : Launch) (Z : State) (a0 : Array Value) (hw : ∀ d ∈ tables_1, d.before a0 Z = true) (ws : List Jvm.Cond) (p1 : Int32) (h0 : Heap) (n0 : Nat) (Z0 : n0 ≤ h0.size)  :
    MetFree l (⟨"com/example/vigilant_cells/vigilantcells/model/VersionRulesCompareSpanPinLaw", "sign", "(I)I"⟩ : MethodName) (head1 (Jvm.Cond.code (⟨"com/example/vigilant_cells/vigilantcells/model/VersionRulesCompareSpanPinLaw", "sign", "(I)I"⟩ : MethodName) method_2_code 1 (some .int) :: ws) own_RG) (fun aa__ U => aa__ = #[(.int p1)] ∧ Z.Warmed39 U.vm ∧ U.heap = h0) (fun _ _ _ _ _ => True) (fun _ U oc_ U' => ∃ rv__ rL__, oc_ = .returned rv__ ∧ own_QG Z p1 h0 n0 rv__ U'.heap rL__ ∧ FrameEnd U oc_ U' rL__ own_RG.cells own_RG.slots) := by
  refine MetFree.of_bodySF (plainFor_of_name own_pn_com_example_vigilant_cells_vigilantcells_model_VersionRulesCompareSpanPinLaw) hisR ?_
  intro p e s m args below meth c s₁ Bd hml0 hP hK
  obtain ⟨rfl, hZ, hh⟩ := hP
  have hx := Bd.exec
  have hby := Bd.bytes
  have hml : c.maxLocals = 1 := hml0
  have hown : s.vm.findClass "com/example/vigilant_cells/vigilantcells/model/VersionRulesCompareSpanPinLaw" = some m.cls := findClass_of_methodNamed Bd.named
  have hnm := (name_of_methodNamed Bd.named Bd.method).1
  have X0 : Stand p l e own_RG s m #[(.int p1)] below meth c s₁ [] 0 0 := Stand.of_body Bd
  have e0 : s₁.heap = h0 := by rw [← hh, Bd.state]; rfl
  have N0 := Fr.nil n0
  refine own_in (fun _ k => castTop (own_efG m p1) k) ?_
  intro RR hRR
  show own_Go p.tables e below RR (s₁.setTop (mkF m 0 #[.val (.int p1)] []))
  refine own_st (fun _ k => XS.iloadN X0.here hx rfl (hb hby own_dmethod_2_code_0) rfl k) ?_
  show own_Go p.tables e below RR (s₁.setTop (mkF m 1 #[.val (.int p1)] [(.int p1)]))
  by_cases hc1_1 : p1 < (0 : Int32)
  · refine own_st (fun _ k => XS.ifNo X0.here hx rfl (hb hby own_dmethod_2_code_1) rfl ((if0 _ _).trans (tlt hc1_1).2.1) (XS.iconst X0.here hx rfl (hb hby own_dmethod_2_code_4) k)) ?_
    show own_Go p.tables e below RR (s₁.setTop (mkF m 5 #[.val (.int p1)] [(.int (-1 : Int32))]))
    obtain ⟨fs, hrt_, hrun, hended, hW, hsame⟩ := X0.leave (v := some (.int (-1 : Int32))) (fun h => by rw [Bd.returns] at h; cases h)
    refine own_fin (retI X0 hx Bd.returns (hb hby own_dmethod_2_code_5) hrt_) (hRR _ ⟨_, hrun, hended, _, _, rfl, ?_, ⟨_, rfl⟩, hW, hsame.mono (by decide) (by decide)⟩)
    show own_QG Z p1 h0 n0 _ s₁.heap _
    rw [e0]
    exact ⟨own_ri (by simp only [own_sign, hc1_1, if_true, if_false]), N0, rfl⟩
  · refine own_st (fun _ k => XS.ifYes X0.here hx rfl (pc0 := 1) (pc' := 6) rfl (hb hby own_dmethod_2_code_1) rfl ((if0 _ _).trans (flt hc1_1).2.1) (by decide) (by decide) (XS.iloadN X0.here hx rfl (hb hby own_dmethod_2_code_6) rfl k)) ?_
    show own_Go p.tables e below RR (s₁.setTop (mkF m 7 #[.val (.int p1)] [(.int p1)]))
    by_cases hc7_2 : (0 : Int32) < p1
    · refine own_st (fun _ k => XS.ifNo X0.here hx rfl (hb hby own_dmethod_2_code_7) rfl ((if0 _ _).trans (tlt hc7_2).2.2.2) (XS.iconst X0.here hx rfl (hb hby own_dmethod_2_code_10) k)) ?_
      show own_Go p.tables e below RR (s₁.setTop (mkF m 11 #[.val (.int p1)] [(.int (1 : Int32))]))
      obtain ⟨fs, hrt_, hrun, hended, hW, hsame⟩ := X0.leave (v := some (.int (1 : Int32))) (fun h => by rw [Bd.returns] at h; cases h)
      refine own_fin (retI X0 hx Bd.returns (hb hby own_dmethod_2_code_11) hrt_) (hRR _ ⟨_, hrun, hended, _, _, rfl, ?_, ⟨_, rfl⟩, hW, hsame.mono (by decide) (by decide)⟩)
      show own_QG Z p1 h0 n0 _ s₁.heap _
      rw [e0]
      exact ⟨own_ri (by simp only [own_sign, hc1_1, hc7_2, if_true, if_false]), N0, rfl⟩
    · refine own_st (fun _ k => XS.ifYes X0.here hx rfl (pc0 := 7) (pc' := 12) rfl (hb hby own_dmethod_2_code_7) rfl ((if0 _ _).trans (flt hc7_2).2.2.2) (by decide) (by decide) (XS.iconst X0.here hx rfl (hb hby own_dmethod_2_code_12) k)) ?_
      show own_Go p.tables e below RR (s₁.setTop (mkF m 13 #[.val (.int p1)] [(.int (0 : Int32))]))
      obtain ⟨fs, hrt_, hrun, hended, hW, hsame⟩ := X0.leave (v := some (.int (0 : Int32))) (fun h => by rw [Bd.returns] at h; cases h)
      refine own_fin (retI X0 hx Bd.returns (hb hby own_dmethod_2_code_13) hrt_) (hRR _ ⟨_, hrun, hended, _, _, rfl, ?_, ⟨_, rfl⟩, hW, hsame.mono (by decide) (by decide)⟩)
      show own_QG Z p1 h0 n0 _ s₁.heap _
      rw [e0]
      exact ⟨own_ri (by simp only [own_sign, hc1_1, hc7_2, if_true, if_false]), N0, rfl⟩
theorem own_pd__JJJ_I : parseMethodDescriptor "(JJJ)I" = some ⟨[.long, .long, .long], some .int⟩ := by decide +kernel
theorem own_pd__I_I : parseMethodDescriptor "(I)I" = some ⟨[.int], some .int⟩ := by decide +kernel
theorem own_ef0 (m : MethodId) (q1 : Int64) (q2 : Int64) (q3 : Int64) (p4 : Int32) : entryFrame m #[(.long q1), (.long q2), (.long q3), (.int p4)] maxLocals = mkF m 0 #[.val (.long q1), .second, .val (.long q2), .second, .val (.long q3), .second, .val (.int p4), .unset, .unset, .unset, .unset, .unset, .unset, .unset, .unset, .unset, .unset, .unset] [] := by first | (simp [entryFrame, mkF, argsToLocals, Value.category, maxLocals]; done) | rfl
def own_Q0 (Z : State) (q1 : Int64) (q2 : Int64) (q3 : Int64) (p4 : Int32) (h0 : Heap) (n0 : Nat) (rv__ : Option Value) (h : Heap) (rL__ : List Loc) : Prop := rv__ = some (.int 1) ∧ Fr n0 rL__
set_option maxRecDepth 65536 in
set_option maxHeartbeats 40000000 in
theorem own_rm0 (l : Launch) (Z : State) (a0 : Array Value) (hw : ∀ d ∈ tables_1, d.before a0 Z = true) (ws : List Jvm.Cond) (q1 : Int64) (q2 : Int64) (q3 : Int64) (p4 : Int32) (h0 : Heap) (n0 : Nat) (Z0 : n0 ≤ h0.size) (S_MAX_SPAN_SECONDS : Sta Z h0 "com/example/vigilant_cells/vigilantcells/model/VersionRules" "MAX_SPAN_SECONDS" "J" (.long (18446744073709551 : Int64))) :
    MetFree l x (head1 (Jvm.Cond.code x code maxLocals ret :: ws) room_1) (fun aa__ U => aa__ = #[(.long q1), (.long q2), (.long q3), (.int p4)] ∧ Z.Warmed39 U.vm ∧ U.heap = h0) (fun _ _ _ _ _ => True) (fun _ U oc_ U' => ∃ rv__ rL__, oc_ = .returned rv__ ∧ own_Q0 Z q1 q2 q3 p4 h0 n0 rv__ U'.heap rL__ ∧ FrameEnd U oc_ U' rL__ room_1.cells room_1.slots) := by
  refine MetFree.of_bodySF (plainFor_of_name own_pn_com_example_vigilant_cells_vigilantcells_model_VersionRulesCompareSpanPinLaw) hisR ?_
  intro p e s m args below meth c s₁ Bd hml0 hP hK
  obtain ⟨rfl, hZ, hh⟩ := hP
  have hx := Bd.exec
  have hby := Bd.bytes
  have hml : c.maxLocals = 18 := hml0
  have hown : s.vm.findClass "com/example/vigilant_cells/vigilantcells/model/VersionRulesCompareSpanPinLaw" = some m.cls := findClass_of_methodNamed Bd.named
  have hnm := (name_of_methodNamed Bd.named Bd.method).1
  have X0 : Stand p l e room_1 s m #[(.long q1), (.long q2), (.long q3), (.int p4)] below meth c s₁ [] 0 0 := Stand.of_body Bd
  have e0 : s₁.heap = h0 := by rw [← hh, Bd.state]; rfl
  have N0 := Fr.nil n0
  refine own_in (fun _ k => castTop (own_ef0 m q1 q2 q3 p4) k) ?_
  intro RR hRR
  show own_Go p.tables e below RR (s₁.setTop (mkF m 0 #[.val (.long q1), .second, .val (.long q2), .second, .val (.long q3), .second, .val (.int p4), .unset, .unset, .unset, .unset, .unset, .unset, .unset, .unset, .unset, .unset, .unset] []))
  refine own_st (fun _ k => XS.lloadN X0.here hx rfl (hb hby at_0) rfl (XS.lloadN X0.here hx rfl (hb hby at_1) rfl (XS.lsub X0.here hx rfl (hb hby at_2) rfl k))) ?_
  show own_Go p.tables e below RR (s₁.setTop (mkF m 3 #[.val (.long q1), .second, .val (.long q2), .second, .val (.long q3), .second, .val (.int p4), .unset, .unset, .unset, .unset, .unset, .unset, .unset, .unset, .unset, .unset, .unset] [(.long (q1 - q2))]))
  generalize gv1 : (q1 - q2) = v1
  show own_Go p.tables e below RR (s₁.setTop (mkF m 3 #[.val (.long q1), .second, .val (.long q2), .second, .val (.long q3), .second, .val (.int p4), .unset, .unset, .unset, .unset, .unset, .unset, .unset, .unset, .unset, .unset, .unset] [(.long v1)]))
  refine own_st (fun _ k => XS.lstore X0.here hx rfl (hb hby at_3) rfl (l' := #[.val (.long q1), .second, .val (.long q2), .second, .val (.long q3), .second, .val (.int p4), .val (.long v1), .second, .unset, .unset, .unset, .unset, .unset, .unset, .unset, .unset, .unset]) rfl (XS.lload X0.here hx rfl (hb hby at_5) rfl (XS.iconst X0.here hx rfl (hb hby at_7) (XS.lushr X0.here hx rfl (hb hby at_8) rfl (X0.ldc2Long hx hown (mvT hZ (hw _ (List.mem_of_getElem? (i := 0) rfl))) (g := (mkF m 9 #[.val (.long q1), .second, .val (.long q2), .second, .val (.long q3), .second, .val (.int p4), .val (.long v1), .second, .unset, .unset, .unset, .unset, .unset, .unset, .unset, .unset, .unset] [(.long ((v1.toUInt64 >>> ((1 : Int32) &&& 0x3f).toInt64.toUInt64).toInt64))])) rfl (hb hby at_9) _ k))))) ?_
  show own_Go p.tables e below RR (s₁.setTop (mkF m 12 #[.val (.long q1), .second, .val (.long q2), .second, .val (.long q3), .second, .val (.int p4), .val (.long v1), .second, .unset, .unset, .unset, .unset, .unset, .unset, .unset, .unset, .unset] [(.long (500 : Int64)), (.long ((v1.toUInt64 >>> ((1 : Int32) &&& 0x3f).toInt64.toUInt64).toInt64))]))
  refine own_st (fun _ k => XS.ldiv X0.here hx rfl (hb hby at_12) rfl (by decide) k) ?_
  show own_Go p.tables e below RR (s₁.setTop (mkF m 13 #[.val (.long q1), .second, .val (.long q2), .second, .val (.long q3), .second, .val (.int p4), .val (.long v1), .second, .unset, .unset, .unset, .unset, .unset, .unset, .unset, .unset, .unset] [(.long (((v1.toUInt64 >>> ((1 : Int32) &&& 0x3f).toInt64.toUInt64).toInt64) / (500 : Int64)))]))
  generalize gv2 : (((v1.toUInt64 >>> ((1 : Int32) &&& 0x3f).toInt64.toUInt64).toInt64) / (500 : Int64)) = v2
  show own_Go p.tables e below RR (s₁.setTop (mkF m 13 #[.val (.long q1), .second, .val (.long q2), .second, .val (.long q3), .second, .val (.int p4), .val (.long v1), .second, .unset, .unset, .unset, .unset, .unset, .unset, .unset, .unset, .unset] [(.long v2)]))
  refine own_st (fun _ k => XS.lstore X0.here hx rfl (hb hby at_13) rfl (l' := #[.val (.long q1), .second, .val (.long q2), .second, .val (.long q3), .second, .val (.int p4), .val (.long v1), .second, .val (.long v2), .second, .unset, .unset, .unset, .unset, .unset, .unset, .unset]) rfl (XS.lload X0.here hx rfl (hb hby at_15) rfl (XS.lload X0.here hx rfl (hb hby at_17) rfl (X0.ldc2Long hx hown (mvT hZ (hw _ (List.mem_of_getElem? (i := 1) rfl))) (g := (mkF m 19 #[.val (.long q1), .second, .val (.long q2), .second, .val (.long q3), .second, .val (.int p4), .val (.long v1), .second, .val (.long v2), .second, .unset, .unset, .unset, .unset, .unset, .unset, .unset] [(.long v2), (.long v1)])) rfl (hb hby at_19) _ (XS.lmul X0.here hx rfl (hb hby at_22) rfl (XS.lsub X0.here hx rfl (hb hby at_23) rfl k)))))) ?_
  show own_Go p.tables e below RR (s₁.setTop (mkF m 24 #[.val (.long q1), .second, .val (.long q2), .second, .val (.long q3), .second, .val (.int p4), .val (.long v1), .second, .val (.long v2), .second, .unset, .unset, .unset, .unset, .unset, .unset, .unset] [(.long (v1 - (v2 * (1000 : Int64))))]))
  generalize gv3 : (v1 - (v2 * (1000 : Int64))) = v3
  show own_Go p.tables e below RR (s₁.setTop (mkF m 24 #[.val (.long q1), .second, .val (.long q2), .second, .val (.long q3), .second, .val (.int p4), .val (.long v1), .second, .val (.long v2), .second, .unset, .unset, .unset, .unset, .unset, .unset, .unset] [(.long v3)]))
  refine own_st (fun _ k => XS.lstore X0.here hx rfl (hb hby at_24) rfl (l' := #[.val (.long q1), .second, .val (.long q2), .second, .val (.long q3), .second, .val (.int p4), .val (.long v1), .second, .val (.long v2), .second, .val (.long v3), .second, .unset, .unset, .unset, .unset, .unset]) rfl (XS.iload X0.here hx rfl (hb hby at_26) rfl (XS.iconst X0.here hx rfl (hb hby at_28) (XS.iand X0.here hx rfl (hb hby at_29) rfl k)))) ?_
  show own_Go p.tables e below RR (s₁.setTop (mkF m 30 #[.val (.long q1), .second, .val (.long q2), .second, .val (.long q3), .second, .val (.int p4), .val (.long v1), .second, .val (.long v2), .second, .val (.long v3), .second, .unset, .unset, .unset, .unset, .unset] [(.int (p4 &&& (3 : Int32)))]))
  generalize gv4 : (p4 &&& (3 : Int32)) = v4
  show own_Go p.tables e below RR (s₁.setTop (mkF m 30 #[.val (.long q1), .second, .val (.long q2), .second, .val (.long q3), .second, .val (.int p4), .val (.long v1), .second, .val (.long v2), .second, .val (.long v3), .second, .unset, .unset, .unset, .unset, .unset] [(.int v4)]))
  refine own_st (fun _ k => XS.istore X0.here hx rfl (hb hby at_30) rfl (l' := #[.val (.long q1), .second, .val (.long q2), .second, .val (.long q3), .second, .val (.int p4), .val (.long v1), .second, .val (.long v2), .second, .val (.long v3), .second, .unset, .unset, .val (.int v4), .unset, .unset]) rfl (XS.iload X0.here hx rfl (hb hby at_32) rfl k)) ?_
  show own_Go p.tables e below RR (s₁.setTop (mkF m 34 #[.val (.long q1), .second, .val (.long q2), .second, .val (.long q3), .second, .val (.int p4), .val (.long v1), .second, .val (.long v2), .second, .val (.long v3), .second, .unset, .unset, .val (.int v4), .unset, .unset] [(.int v4)]))
  by_cases hc34_5 : v4 = (0 : Int32)
  · refine own_st (fun _ k => XS.ifNo X0.here hx rfl (hb hby at_34) rfl ((if0 _ _).trans (teq hc34_5).2) (XS.lload X0.here hx rfl (hb hby at_37) rfl (X0.ldc2Long hx hown (mvT hZ (hw _ (List.mem_of_getElem? (i := 21) rfl))) (g := (mkF m 39 #[.val (.long q1), .second, .val (.long q2), .second, .val (.long q3), .second, .val (.int p4), .val (.long v1), .second, .val (.long v2), .second, .val (.long v3), .second, .unset, .unset, .val (.int v4), .unset, .unset] [(.long q3)])) rfl (hb hby at_39) _ (XS.land X0.here hx rfl (hb hby at_42) rfl k)))) ?_
    show own_Go p.tables e below RR (s₁.setTop (mkF m 43 #[.val (.long q1), .second, .val (.long q2), .second, .val (.long q3), .second, .val (.int p4), .val (.long v1), .second, .val (.long v2), .second, .val (.long v3), .second, .unset, .unset, .val (.int v4), .unset, .unset] [(.long (q3 &&& (9223372036854775807 : Int64)))]))
    generalize gv6 : (q3 &&& (9223372036854775807 : Int64)) = v6
    show own_Go p.tables e below RR (s₁.setTop (mkF m 43 #[.val (.long q1), .second, .val (.long q2), .second, .val (.long q3), .second, .val (.int p4), .val (.long v1), .second, .val (.long v2), .second, .val (.long v3), .second, .unset, .unset, .val (.int v4), .unset, .unset] [(.long v6)]))
    refine own_st (fun _ k => XS.lstore X0.here hx rfl (hb hby at_43) rfl (l' := #[.val (.long q1), .second, .val (.long q2), .second, .val (.long q3), .second, .val (.int p4), .val (.long v1), .second, .val (.long v2), .second, .val (.long v3), .second, .val (.long v6), .second, .val (.int v4), .unset, .unset]) rfl (XS.goto X0.here hx rfl (pc0 := 45) (pc' := 72) rfl (hb hby at_45) (by decide) (by decide) (XS.lloadN X0.here hx rfl (hb hby at_72) rfl (XS.lloadN X0.here hx rfl (hb hby at_73) rfl (XS.lcmp X0.here hx rfl (hb hby at_74) rfl k))))) ?_
    show own_Go p.tables e below RR (s₁.setTop (mkF m 75 #[.val (.long q1), .second, .val (.long q2), .second, .val (.long q3), .second, .val (.int p4), .val (.long v1), .second, .val (.long v2), .second, .val (.long v3), .second, .val (.long v6), .second, .val (.int v4), .unset, .unset] [(.int (lcmpW q1 q2))]))
    by_cases hc75_7 : q1 < q2
    · refine own_st (fun _ k => XS.ifNo X0.here hx rfl (hb hby at_75) rfl ((if0 _ _).trans (tlt ((lw_lt _ _).mpr hc75_7)).2.1) (XS.iconst X0.here hx rfl (hb hby at_78) (XS.istore X0.here hx rfl (hb hby at_79) rfl (l' := #[.val (.long q1), .second, .val (.long q2), .second, .val (.long q3), .second, .val (.int p4), .val (.long v1), .second, .val (.long v2), .second, .val (.long v3), .second, .val (.long v6), .second, .val (.int v4), .val (.int (-1 : Int32)), .unset]) rfl (XS.goto X0.here hx rfl (pc0 := 81) (pc' := 128) rfl (hb hby at_81) (by decide) (by decide) (XS.lloadN X0.here hx rfl (hb hby at_128) rfl (XS.lloadN X0.here hx rfl (hb hby at_129) rfl (XS.lload X0.here hx rfl (hb hby at_130) rfl k))))))) ?_
      show own_Go p.tables e below RR (s₁.setTop (mkF m 132 #[.val (.long q1), .second, .val (.long q2), .second, .val (.long q3), .second, .val (.int p4), .val (.long v1), .second, .val (.long v2), .second, .val (.long v3), .second, .val (.long v6), .second, .val (.int v4), .val (.int (-1 : Int32)), .unset] [(.long v6), (.long q2), (.long q1)]))
      obtain ⟨_, _, ⟨T8, L8, k8, n8⟩, -, X8, ⟨Lc8, hQ8, l8, y8, z8⟩, st8⟩ := Jvm.LawKit.callS X0 hx (y := (⟨"com/example/vigilant_cells/vigilantcells/model/VersionRules", "compareSpan", "(JJJ)I"⟩ : MethodName)) hown (mvT hZ (hw _ (List.mem_of_getElem? (i := 2) rfl))) (mvT hZ (hw _ (List.mem_of_getElem? (i := 3) rfl))) (mvT hZ (hw _ (List.mem_of_getElem? (i := 4) rfl))) (mvT hZ (hw _ (List.mem_of_getElem? (i := 5) rfl))) (by decide) (backOf (W := 0) (own_rmS l Z a0 hw [] q1 q2 v6 h0 n0 Z0 S_MAX_SPAN_SECONDS) hZ (hw _ (List.mem_of_getElem? (i := 5) rfl)) (hw _ (List.mem_of_getElem? (i := 4) rfl)) (by decide) (by decide)) (g := (mkF m 132 #[.val (.long q1), .second, .val (.long q2), .second, .val (.long q3), .second, .val (.int p4), .val (.long v1), .second, .val (.long v2), .second, .val (.long v3), .second, .val (.long v6), .second, .val (.int v4), .val (.int (-1 : Int32)), .unset] [(.long v6), (.long q2), (.long q1)])) rfl (by rw [hml]; rfl) (argsL := [(.long q1), (.long q2), (.long v6)]) (rest := []) (lenOf own_pd__JJJ_I rfl) rfl (by show 2 * 0 + _ ≤ _; exact Nat.le_of_eq rfl) (hb hby at_132) (fun _ _ => ⟨rfl, e0, (by decide : 0 + 0 ≤ _), (by decide : 0 + 0 ≤ _)⟩)
      dsimp only [Pt.U, Pt.locs, Pt.cells, Pt.slots] at X8 l8 y8 z8 st8 hQ8
      subst l8 y8 z8
      obtain ⟨rfl, Nq8, eq8⟩ := hQ8
      have N8 := Fr.app N0 Nq8
      refine own_st st8 ?_
      show own_Go p.tables e below RR (T8.setTop (mkF m 135 #[.val (.long q1), .second, .val (.long q2), .second, .val (.long q3), .second, .val (.int p4), .val (.long v1), .second, .val (.long v2), .second, .val (.long v3), .second, .val (.long v6), .second, .val (.int v4), .val (.int (-1 : Int32)), .unset] [(.int (own_span q1 q2 v6))]))
      refine own_st (fun _ k => XS.istore X8.here hx rfl (hb hby at_135) rfl (l' := #[.val (.long q1), .second, .val (.long q2), .second, .val (.long q3), .second, .val (.int p4), .val (.long v1), .second, .val (.long v2), .second, .val (.long v3), .second, .val (.long v6), .second, .val (.int v4), .val (.int (-1 : Int32)), .val (.int (own_span q1 q2 v6))]) rfl (XS.iload X8.here hx rfl (hb hby at_137) rfl k)) ?_
      show own_Go p.tables e below RR (T8.setTop (mkF m 139 #[.val (.long q1), .second, .val (.long q2), .second, .val (.long q3), .second, .val (.int p4), .val (.long v1), .second, .val (.long v2), .second, .val (.long v3), .second, .val (.long v6), .second, .val (.int v4), .val (.int (-1 : Int32)), .val (.int (own_span q1 q2 v6))] [(.int (own_span q1 q2 v6))]))
      obtain ⟨_, _, ⟨T9, L9, k9, n9⟩, -, X9, ⟨Lc9, hQ9, l9, y9, z9⟩, st9⟩ := Jvm.LawKit.callS X8 hx (y := (⟨"com/example/vigilant_cells/vigilantcells/model/VersionRulesCompareSpanPinLaw", "sign", "(I)I"⟩ : MethodName)) hown (mvT hZ (hw _ (List.mem_of_getElem? (i := 17) rfl))) (mvT hZ (hw _ (List.mem_of_getElem? (i := 18) rfl))) (mvT hZ (hw _ (List.mem_of_getElem? (i := 19) rfl))) (mvT hZ (hw _ (List.mem_of_getElem? (i := 20) rfl))) (by decide) (backOf (W := 0) (own_rmG l Z a0 hw [] (own_span q1 q2 v6) h0 n0 Z0 ) hZ (hw _ (List.mem_of_getElem? (i := 20) rfl)) (hw _ (List.mem_of_getElem? (i := 19) rfl)) (by decide) (by decide)) (g := (mkF m 139 #[.val (.long q1), .second, .val (.long q2), .second, .val (.long q3), .second, .val (.int p4), .val (.long v1), .second, .val (.long v2), .second, .val (.long v3), .second, .val (.long v6), .second, .val (.int v4), .val (.int (-1 : Int32)), .val (.int (own_span q1 q2 v6))] [(.int (own_span q1 q2 v6))])) rfl (by rw [hml]; rfl) (argsL := [(.int (own_span q1 q2 v6))]) (rest := []) (lenOf own_pd__I_I rfl) rfl (by show 2 * 0 + _ ≤ _; exact Nat.le_of_eq rfl) (hb hby at_139) (fun _ _ => ⟨rfl, eq8, (by decide : 0 + 0 ≤ _), (by decide : 0 + 0 ≤ _)⟩)
      dsimp only [Pt.U, Pt.locs, Pt.cells, Pt.slots] at X9 l9 y9 z9 st9 hQ9
      subst l9 y9 z9
      obtain ⟨rfl, Nq9, eq9⟩ := hQ9
      have N9 := Fr.app N8 Nq9
      refine own_st st9 ?_
      show own_Go p.tables e below RR (T9.setTop (mkF m 142 #[.val (.long q1), .second, .val (.long q2), .second, .val (.long q3), .second, .val (.int p4), .val (.long v1), .second, .val (.long v2), .second, .val (.long v3), .second, .val (.long v6), .second, .val (.int v4), .val (.int (-1 : Int32)), .val (.int (own_span q1 q2 v6))] [(.int (own_sign (own_span q1 q2 v6)))]))
      refine own_st (fun _ k => XS.iload X9.here hx rfl (hb hby at_142) rfl k) ?_
      show own_Go p.tables e below RR (T9.setTop (mkF m 144 #[.val (.long q1), .second, .val (.long q2), .second, .val (.long q3), .second, .val (.int p4), .val (.long v1), .second, .val (.long v2), .second, .val (.long v3), .second, .val (.long v6), .second, .val (.int v4), .val (.int (-1 : Int32)), .val (.int (own_span q1 q2 v6))] [(.int (-1 : Int32)), (.int (own_sign (own_span q1 q2 v6)))]))
      have hc144_10 : (own_sign (own_span q1 q2 v6)) = (-1 : Int32) := own_main gv1 gv2 gv3 (own_nn gv6) (by simp only [hc75_7, if_true, if_false])
      refine own_st (fun _ k => XS.icmpNo X9.here hx rfl (hb hby at_144) rfl (teq hc144_10).2 (XS.iconst X9.here hx rfl (hb hby at_147) (XS.goto X9.here hx rfl (pc0 := 148) (pc' := 152) rfl (hb hby at_148) (by decide) (by decide) k))) ?_
      show own_Go p.tables e below RR (T9.setTop (mkF m 152 #[.val (.long q1), .second, .val (.long q2), .second, .val (.long q3), .second, .val (.int p4), .val (.long v1), .second, .val (.long v2), .second, .val (.long v3), .second, .val (.long v6), .second, .val (.int v4), .val (.int (-1 : Int32)), .val (.int (own_span q1 q2 v6))] [(.int (1 : Int32))]))
      obtain ⟨fs, hrt_, hrun, hended, hW, hsame⟩ := X9.leave (v := some (.int (1 : Int32))) (fun h => by rw [Bd.returns] at h; cases h)
      refine own_fin (retN X9 hx (t := .boolean) Bd.returns (by simp) (hb hby at_152) hrt_) (hRR _ ⟨_, hrun, hended, _, _, rfl, ?_, ⟨_, rfl⟩, hW, hsame.mono (by decide) (by decide)⟩)
      show own_Q0 Z q1 q2 q3 p4 h0 n0 _ T9.heap _
      rw [eq9]
      exact ⟨rfl, N9⟩
    · refine own_st (fun _ k => XS.ifYes X0.here hx rfl (pc0 := 75) (pc' := 84) rfl (hb hby at_75) rfl ((if0 _ _).trans (flt (fun q => hc75_7 ((lw_lt _ _).mp q))).2.1) (by decide) (by decide) (XS.lload X0.here hx rfl (hb hby at_84) rfl (XS.lload X0.here hx rfl (hb hby at_86) rfl (XS.lcmp X0.here hx rfl (hb hby at_88) rfl k)))) ?_
      show own_Go p.tables e below RR (s₁.setTop (mkF m 89 #[.val (.long q1), .second, .val (.long q2), .second, .val (.long q3), .second, .val (.int p4), .val (.long v1), .second, .val (.long v2), .second, .val (.long v3), .second, .val (.long v6), .second, .val (.int v4), .unset, .unset] [(.int (lcmpW v2 v6))]))
      by_cases hc89_11 : v2 < v6
      · refine own_st (fun _ k => XS.ifNo X0.here hx rfl (hb hby at_89) rfl ((if0 _ _).trans (tlt ((lw_lt _ _).mpr hc89_11)).2.1) (XS.iconst X0.here hx rfl (hb hby at_92) (XS.istore X0.here hx rfl (hb hby at_93) rfl (l' := #[.val (.long q1), .second, .val (.long q2), .second, .val (.long q3), .second, .val (.int p4), .val (.long v1), .second, .val (.long v2), .second, .val (.long v3), .second, .val (.long v6), .second, .val (.int v4), .val (.int (-1 : Int32)), .unset]) rfl (XS.goto X0.here hx rfl (pc0 := 95) (pc' := 128) rfl (hb hby at_95) (by decide) (by decide) (XS.lloadN X0.here hx rfl (hb hby at_128) rfl (XS.lloadN X0.here hx rfl (hb hby at_129) rfl (XS.lload X0.here hx rfl (hb hby at_130) rfl k))))))) ?_
        show own_Go p.tables e below RR (s₁.setTop (mkF m 132 #[.val (.long q1), .second, .val (.long q2), .second, .val (.long q3), .second, .val (.int p4), .val (.long v1), .second, .val (.long v2), .second, .val (.long v3), .second, .val (.long v6), .second, .val (.int v4), .val (.int (-1 : Int32)), .unset] [(.long v6), (.long q2), (.long q1)]))
        obtain ⟨_, _, ⟨T12, L12, k12, n12⟩, -, X12, ⟨Lc12, hQ12, l12, y12, z12⟩, st12⟩ := Jvm.LawKit.callS X0 hx (y := (⟨"com/example/vigilant_cells/vigilantcells/model/VersionRules", "compareSpan", "(JJJ)I"⟩ : MethodName)) hown (mvT hZ (hw _ (List.mem_of_getElem? (i := 2) rfl))) (mvT hZ (hw _ (List.mem_of_getElem? (i := 3) rfl))) (mvT hZ (hw _ (List.mem_of_getElem? (i := 4) rfl))) (mvT hZ (hw _ (List.mem_of_getElem? (i := 5) rfl))) (by decide) (backOf (W := 0) (own_rmS l Z a0 hw [] q1 q2 v6 h0 n0 Z0 S_MAX_SPAN_SECONDS) hZ (hw _ (List.mem_of_getElem? (i := 5) rfl)) (hw _ (List.mem_of_getElem? (i := 4) rfl)) (by decide) (by decide)) (g := (mkF m 132 #[.val (.long q1), .second, .val (.long q2), .second, .val (.long q3), .second, .val (.int p4), .val (.long v1), .second, .val (.long v2), .second, .val (.long v3), .second, .val (.long v6), .second, .val (.int v4), .val (.int (-1 : Int32)), .unset] [(.long v6), (.long q2), (.long q1)])) rfl (by rw [hml]; rfl) (argsL := [(.long q1), (.long q2), (.long v6)]) (rest := []) (lenOf own_pd__JJJ_I rfl) rfl (by show 2 * 0 + _ ≤ _; exact Nat.le_of_eq rfl) (hb hby at_132) (fun _ _ => ⟨rfl, e0, (by decide : 0 + 0 ≤ _), (by decide : 0 + 0 ≤ _)⟩)
        dsimp only [Pt.U, Pt.locs, Pt.cells, Pt.slots] at X12 l12 y12 z12 st12 hQ12
        subst l12 y12 z12
        obtain ⟨rfl, Nq12, eq12⟩ := hQ12
        have N12 := Fr.app N0 Nq12
        refine own_st st12 ?_
        show own_Go p.tables e below RR (T12.setTop (mkF m 135 #[.val (.long q1), .second, .val (.long q2), .second, .val (.long q3), .second, .val (.int p4), .val (.long v1), .second, .val (.long v2), .second, .val (.long v3), .second, .val (.long v6), .second, .val (.int v4), .val (.int (-1 : Int32)), .unset] [(.int (own_span q1 q2 v6))]))
        refine own_st (fun _ k => XS.istore X12.here hx rfl (hb hby at_135) rfl (l' := #[.val (.long q1), .second, .val (.long q2), .second, .val (.long q3), .second, .val (.int p4), .val (.long v1), .second, .val (.long v2), .second, .val (.long v3), .second, .val (.long v6), .second, .val (.int v4), .val (.int (-1 : Int32)), .val (.int (own_span q1 q2 v6))]) rfl (XS.iload X12.here hx rfl (hb hby at_137) rfl k)) ?_
        show own_Go p.tables e below RR (T12.setTop (mkF m 139 #[.val (.long q1), .second, .val (.long q2), .second, .val (.long q3), .second, .val (.int p4), .val (.long v1), .second, .val (.long v2), .second, .val (.long v3), .second, .val (.long v6), .second, .val (.int v4), .val (.int (-1 : Int32)), .val (.int (own_span q1 q2 v6))] [(.int (own_span q1 q2 v6))]))
        obtain ⟨_, _, ⟨T13, L13, k13, n13⟩, -, X13, ⟨Lc13, hQ13, l13, y13, z13⟩, st13⟩ := Jvm.LawKit.callS X12 hx (y := (⟨"com/example/vigilant_cells/vigilantcells/model/VersionRulesCompareSpanPinLaw", "sign", "(I)I"⟩ : MethodName)) hown (mvT hZ (hw _ (List.mem_of_getElem? (i := 17) rfl))) (mvT hZ (hw _ (List.mem_of_getElem? (i := 18) rfl))) (mvT hZ (hw _ (List.mem_of_getElem? (i := 19) rfl))) (mvT hZ (hw _ (List.mem_of_getElem? (i := 20) rfl))) (by decide) (backOf (W := 0) (own_rmG l Z a0 hw [] (own_span q1 q2 v6) h0 n0 Z0 ) hZ (hw _ (List.mem_of_getElem? (i := 20) rfl)) (hw _ (List.mem_of_getElem? (i := 19) rfl)) (by decide) (by decide)) (g := (mkF m 139 #[.val (.long q1), .second, .val (.long q2), .second, .val (.long q3), .second, .val (.int p4), .val (.long v1), .second, .val (.long v2), .second, .val (.long v3), .second, .val (.long v6), .second, .val (.int v4), .val (.int (-1 : Int32)), .val (.int (own_span q1 q2 v6))] [(.int (own_span q1 q2 v6))])) rfl (by rw [hml]; rfl) (argsL := [(.int (own_span q1 q2 v6))]) (rest := []) (lenOf own_pd__I_I rfl) rfl (by show 2 * 0 + _ ≤ _; exact Nat.le_of_eq rfl) (hb hby at_139) (fun _ _ => ⟨rfl, eq12, (by decide : 0 + 0 ≤ _), (by decide : 0 + 0 ≤ _)⟩)
        dsimp only [Pt.U, Pt.locs, Pt.cells, Pt.slots] at X13 l13 y13 z13 st13 hQ13
        subst l13 y13 z13
        obtain ⟨rfl, Nq13, eq13⟩ := hQ13
        have N13 := Fr.app N12 Nq13
        refine own_st st13 ?_
        show own_Go p.tables e below RR (T13.setTop (mkF m 142 #[.val (.long q1), .second, .val (.long q2), .second, .val (.long q3), .second, .val (.int p4), .val (.long v1), .second, .val (.long v2), .second, .val (.long v3), .second, .val (.long v6), .second, .val (.int v4), .val (.int (-1 : Int32)), .val (.int (own_span q1 q2 v6))] [(.int (own_sign (own_span q1 q2 v6)))]))
        refine own_st (fun _ k => XS.iload X13.here hx rfl (hb hby at_142) rfl k) ?_
        show own_Go p.tables e below RR (T13.setTop (mkF m 144 #[.val (.long q1), .second, .val (.long q2), .second, .val (.long q3), .second, .val (.int p4), .val (.long v1), .second, .val (.long v2), .second, .val (.long v3), .second, .val (.long v6), .second, .val (.int v4), .val (.int (-1 : Int32)), .val (.int (own_span q1 q2 v6))] [(.int (-1 : Int32)), (.int (own_sign (own_span q1 q2 v6)))]))
        have hc144_14 : (own_sign (own_span q1 q2 v6)) = (-1 : Int32) := own_main gv1 gv2 gv3 (own_nn gv6) (by simp only [hc75_7, hc89_11, if_true, if_false])
        refine own_st (fun _ k => XS.icmpNo X13.here hx rfl (hb hby at_144) rfl (teq hc144_14).2 (XS.iconst X13.here hx rfl (hb hby at_147) (XS.goto X13.here hx rfl (pc0 := 148) (pc' := 152) rfl (hb hby at_148) (by decide) (by decide) k))) ?_
        show own_Go p.tables e below RR (T13.setTop (mkF m 152 #[.val (.long q1), .second, .val (.long q2), .second, .val (.long q3), .second, .val (.int p4), .val (.long v1), .second, .val (.long v2), .second, .val (.long v3), .second, .val (.long v6), .second, .val (.int v4), .val (.int (-1 : Int32)), .val (.int (own_span q1 q2 v6))] [(.int (1 : Int32))]))
        obtain ⟨fs, hrt_, hrun, hended, hW, hsame⟩ := X13.leave (v := some (.int (1 : Int32))) (fun h => by rw [Bd.returns] at h; cases h)
        refine own_fin (retN X13 hx (t := .boolean) Bd.returns (by simp) (hb hby at_152) hrt_) (hRR _ ⟨_, hrun, hended, _, _, rfl, ?_, ⟨_, rfl⟩, hW, hsame.mono (by decide) (by decide)⟩)
        show own_Q0 Z q1 q2 q3 p4 h0 n0 _ T13.heap _
        rw [eq13]
        exact ⟨rfl, N13⟩
      · refine own_st (fun _ k => XS.ifYes X0.here hx rfl (pc0 := 89) (pc' := 98) rfl (hb hby at_89) rfl ((if0 _ _).trans (flt (fun q => hc89_11 ((lw_lt _ _).mp q))).2.1) (by decide) (by decide) (XS.lload X0.here hx rfl (hb hby at_98) rfl (XS.lload X0.here hx rfl (hb hby at_100) rfl (XS.lcmp X0.here hx rfl (hb hby at_102) rfl k)))) ?_
        show own_Go p.tables e below RR (s₁.setTop (mkF m 103 #[.val (.long q1), .second, .val (.long q2), .second, .val (.long q3), .second, .val (.int p4), .val (.long v1), .second, .val (.long v2), .second, .val (.long v3), .second, .val (.long v6), .second, .val (.int v4), .unset, .unset] [(.int (lcmpW v2 v6))]))
        by_cases hc103_15 : v6 < v2
        · refine own_st (fun _ k => XS.ifNo X0.here hx rfl (hb hby at_103) rfl ((if0 _ _).trans (tlt ((lw_gt _ _).mpr hc103_15)).2.2.2) (XS.iconst X0.here hx rfl (hb hby at_106) (XS.istore X0.here hx rfl (hb hby at_107) rfl (l' := #[.val (.long q1), .second, .val (.long q2), .second, .val (.long q3), .second, .val (.int p4), .val (.long v1), .second, .val (.long v2), .second, .val (.long v3), .second, .val (.long v6), .second, .val (.int v4), .val (.int (1 : Int32)), .unset]) rfl (XS.goto X0.here hx rfl (pc0 := 109) (pc' := 128) rfl (hb hby at_109) (by decide) (by decide) (XS.lloadN X0.here hx rfl (hb hby at_128) rfl (XS.lloadN X0.here hx rfl (hb hby at_129) rfl (XS.lload X0.here hx rfl (hb hby at_130) rfl k))))))) ?_
          show own_Go p.tables e below RR (s₁.setTop (mkF m 132 #[.val (.long q1), .second, .val (.long q2), .second, .val (.long q3), .second, .val (.int p4), .val (.long v1), .second, .val (.long v2), .second, .val (.long v3), .second, .val (.long v6), .second, .val (.int v4), .val (.int (1 : Int32)), .unset] [(.long v6), (.long q2), (.long q1)]))
          obtain ⟨_, _, ⟨T16, L16, k16, n16⟩, -, X16, ⟨Lc16, hQ16, l16, y16, z16⟩, st16⟩ := Jvm.LawKit.callS X0 hx (y := (⟨"com/example/vigilant_cells/vigilantcells/model/VersionRules", "compareSpan", "(JJJ)I"⟩ : MethodName)) hown (mvT hZ (hw _ (List.mem_of_getElem? (i := 2) rfl))) (mvT hZ (hw _ (List.mem_of_getElem? (i := 3) rfl))) (mvT hZ (hw _ (List.mem_of_getElem? (i := 4) rfl))) (mvT hZ (hw _ (List.mem_of_getElem? (i := 5) rfl))) (by decide) (backOf (W := 0) (own_rmS l Z a0 hw [] q1 q2 v6 h0 n0 Z0 S_MAX_SPAN_SECONDS) hZ (hw _ (List.mem_of_getElem? (i := 5) rfl)) (hw _ (List.mem_of_getElem? (i := 4) rfl)) (by decide) (by decide)) (g := (mkF m 132 #[.val (.long q1), .second, .val (.long q2), .second, .val (.long q3), .second, .val (.int p4), .val (.long v1), .second, .val (.long v2), .second, .val (.long v3), .second, .val (.long v6), .second, .val (.int v4), .val (.int (1 : Int32)), .unset] [(.long v6), (.long q2), (.long q1)])) rfl (by rw [hml]; rfl) (argsL := [(.long q1), (.long q2), (.long v6)]) (rest := []) (lenOf own_pd__JJJ_I rfl) rfl (by show 2 * 0 + _ ≤ _; exact Nat.le_of_eq rfl) (hb hby at_132) (fun _ _ => ⟨rfl, e0, (by decide : 0 + 0 ≤ _), (by decide : 0 + 0 ≤ _)⟩)
          dsimp only [Pt.U, Pt.locs, Pt.cells, Pt.slots] at X16 l16 y16 z16 st16 hQ16
          subst l16 y16 z16
          obtain ⟨rfl, Nq16, eq16⟩ := hQ16
          have N16 := Fr.app N0 Nq16
          refine own_st st16 ?_
          show own_Go p.tables e below RR (T16.setTop (mkF m 135 #[.val (.long q1), .second, .val (.long q2), .second, .val (.long q3), .second, .val (.int p4), .val (.long v1), .second, .val (.long v2), .second, .val (.long v3), .second, .val (.long v6), .second, .val (.int v4), .val (.int (1 : Int32)), .unset] [(.int (own_span q1 q2 v6))]))
          refine own_st (fun _ k => XS.istore X16.here hx rfl (hb hby at_135) rfl (l' := #[.val (.long q1), .second, .val (.long q2), .second, .val (.long q3), .second, .val (.int p4), .val (.long v1), .second, .val (.long v2), .second, .val (.long v3), .second, .val (.long v6), .second, .val (.int v4), .val (.int (1 : Int32)), .val (.int (own_span q1 q2 v6))]) rfl (XS.iload X16.here hx rfl (hb hby at_137) rfl k)) ?_
          show own_Go p.tables e below RR (T16.setTop (mkF m 139 #[.val (.long q1), .second, .val (.long q2), .second, .val (.long q3), .second, .val (.int p4), .val (.long v1), .second, .val (.long v2), .second, .val (.long v3), .second, .val (.long v6), .second, .val (.int v4), .val (.int (1 : Int32)), .val (.int (own_span q1 q2 v6))] [(.int (own_span q1 q2 v6))]))
          obtain ⟨_, _, ⟨T17, L17, k17, n17⟩, -, X17, ⟨Lc17, hQ17, l17, y17, z17⟩, st17⟩ := Jvm.LawKit.callS X16 hx (y := (⟨"com/example/vigilant_cells/vigilantcells/model/VersionRulesCompareSpanPinLaw", "sign", "(I)I"⟩ : MethodName)) hown (mvT hZ (hw _ (List.mem_of_getElem? (i := 17) rfl))) (mvT hZ (hw _ (List.mem_of_getElem? (i := 18) rfl))) (mvT hZ (hw _ (List.mem_of_getElem? (i := 19) rfl))) (mvT hZ (hw _ (List.mem_of_getElem? (i := 20) rfl))) (by decide) (backOf (W := 0) (own_rmG l Z a0 hw [] (own_span q1 q2 v6) h0 n0 Z0 ) hZ (hw _ (List.mem_of_getElem? (i := 20) rfl)) (hw _ (List.mem_of_getElem? (i := 19) rfl)) (by decide) (by decide)) (g := (mkF m 139 #[.val (.long q1), .second, .val (.long q2), .second, .val (.long q3), .second, .val (.int p4), .val (.long v1), .second, .val (.long v2), .second, .val (.long v3), .second, .val (.long v6), .second, .val (.int v4), .val (.int (1 : Int32)), .val (.int (own_span q1 q2 v6))] [(.int (own_span q1 q2 v6))])) rfl (by rw [hml]; rfl) (argsL := [(.int (own_span q1 q2 v6))]) (rest := []) (lenOf own_pd__I_I rfl) rfl (by show 2 * 0 + _ ≤ _; exact Nat.le_of_eq rfl) (hb hby at_139) (fun _ _ => ⟨rfl, eq16, (by decide : 0 + 0 ≤ _), (by decide : 0 + 0 ≤ _)⟩)
          dsimp only [Pt.U, Pt.locs, Pt.cells, Pt.slots] at X17 l17 y17 z17 st17 hQ17
          subst l17 y17 z17
          obtain ⟨rfl, Nq17, eq17⟩ := hQ17
          have N17 := Fr.app N16 Nq17
          refine own_st st17 ?_
          show own_Go p.tables e below RR (T17.setTop (mkF m 142 #[.val (.long q1), .second, .val (.long q2), .second, .val (.long q3), .second, .val (.int p4), .val (.long v1), .second, .val (.long v2), .second, .val (.long v3), .second, .val (.long v6), .second, .val (.int v4), .val (.int (1 : Int32)), .val (.int (own_span q1 q2 v6))] [(.int (own_sign (own_span q1 q2 v6)))]))
          refine own_st (fun _ k => XS.iload X17.here hx rfl (hb hby at_142) rfl k) ?_
          show own_Go p.tables e below RR (T17.setTop (mkF m 144 #[.val (.long q1), .second, .val (.long q2), .second, .val (.long q3), .second, .val (.int p4), .val (.long v1), .second, .val (.long v2), .second, .val (.long v3), .second, .val (.long v6), .second, .val (.int v4), .val (.int (1 : Int32)), .val (.int (own_span q1 q2 v6))] [(.int (1 : Int32)), (.int (own_sign (own_span q1 q2 v6)))]))
          have hc144_18 : (own_sign (own_span q1 q2 v6)) = (1 : Int32) := own_main gv1 gv2 gv3 (own_nn gv6) (by simp only [hc75_7, hc89_11, hc103_15, if_true, if_false])
          refine own_st (fun _ k => XS.icmpNo X17.here hx rfl (hb hby at_144) rfl (teq hc144_18).2 (XS.iconst X17.here hx rfl (hb hby at_147) (XS.goto X17.here hx rfl (pc0 := 148) (pc' := 152) rfl (hb hby at_148) (by decide) (by decide) k))) ?_
          show own_Go p.tables e below RR (T17.setTop (mkF m 152 #[.val (.long q1), .second, .val (.long q2), .second, .val (.long q3), .second, .val (.int p4), .val (.long v1), .second, .val (.long v2), .second, .val (.long v3), .second, .val (.long v6), .second, .val (.int v4), .val (.int (1 : Int32)), .val (.int (own_span q1 q2 v6))] [(.int (1 : Int32))]))
          obtain ⟨fs, hrt_, hrun, hended, hW, hsame⟩ := X17.leave (v := some (.int (1 : Int32))) (fun h => by rw [Bd.returns] at h; cases h)
          refine own_fin (retN X17 hx (t := .boolean) Bd.returns (by simp) (hb hby at_152) hrt_) (hRR _ ⟨_, hrun, hended, _, _, rfl, ?_, ⟨_, rfl⟩, hW, hsame.mono (by decide) (by decide)⟩)
          show own_Q0 Z q1 q2 q3 p4 h0 n0 _ T17.heap _
          rw [eq17]
          exact ⟨rfl, N17⟩
        · refine own_st (fun _ k => XS.ifYes X0.here hx rfl (pc0 := 103) (pc' := 112) rfl (hb hby at_103) rfl ((if0 _ _).trans (flt (fun q => hc103_15 ((lw_gt _ _).mp q))).2.2.2) (by decide) (by decide) (XS.lload X0.here hx rfl (hb hby at_112) rfl (XS.lconst X0.here hx rfl (hb hby at_114) (XS.lcmp X0.here hx rfl (hb hby at_115) rfl k)))) ?_
          show own_Go p.tables e below RR (s₁.setTop (mkF m 116 #[.val (.long q1), .second, .val (.long q2), .second, .val (.long q3), .second, .val (.int p4), .val (.long v1), .second, .val (.long v2), .second, .val (.long v3), .second, .val (.long v6), .second, .val (.int v4), .unset, .unset] [(.int (lcmpW v3 (0 : Int64)))]))
          by_cases hc116_19 : (0 : Int64) < v3
          · refine own_st (fun _ k => XS.ifNo X0.here hx rfl (hb hby at_116) rfl ((if0 _ _).trans (tlt ((lw_gt _ _).mpr hc116_19)).2.2.2) (XS.iconst X0.here hx rfl (hb hby at_119) (XS.istore X0.here hx rfl (hb hby at_120) rfl (l' := #[.val (.long q1), .second, .val (.long q2), .second, .val (.long q3), .second, .val (.int p4), .val (.long v1), .second, .val (.long v2), .second, .val (.long v3), .second, .val (.long v6), .second, .val (.int v4), .val (.int (1 : Int32)), .unset]) rfl (XS.goto X0.here hx rfl (pc0 := 122) (pc' := 128) rfl (hb hby at_122) (by decide) (by decide) (XS.lloadN X0.here hx rfl (hb hby at_128) rfl (XS.lloadN X0.here hx rfl (hb hby at_129) rfl (XS.lload X0.here hx rfl (hb hby at_130) rfl k))))))) ?_
            show own_Go p.tables e below RR (s₁.setTop (mkF m 132 #[.val (.long q1), .second, .val (.long q2), .second, .val (.long q3), .second, .val (.int p4), .val (.long v1), .second, .val (.long v2), .second, .val (.long v3), .second, .val (.long v6), .second, .val (.int v4), .val (.int (1 : Int32)), .unset] [(.long v6), (.long q2), (.long q1)]))
            obtain ⟨_, _, ⟨T20, L20, k20, n20⟩, -, X20, ⟨Lc20, hQ20, l20, y20, z20⟩, st20⟩ := Jvm.LawKit.callS X0 hx (y := (⟨"com/example/vigilant_cells/vigilantcells/model/VersionRules", "compareSpan", "(JJJ)I"⟩ : MethodName)) hown (mvT hZ (hw _ (List.mem_of_getElem? (i := 2) rfl))) (mvT hZ (hw _ (List.mem_of_getElem? (i := 3) rfl))) (mvT hZ (hw _ (List.mem_of_getElem? (i := 4) rfl))) (mvT hZ (hw _ (List.mem_of_getElem? (i := 5) rfl))) (by decide) (backOf (W := 0) (own_rmS l Z a0 hw [] q1 q2 v6 h0 n0 Z0 S_MAX_SPAN_SECONDS) hZ (hw _ (List.mem_of_getElem? (i := 5) rfl)) (hw _ (List.mem_of_getElem? (i := 4) rfl)) (by decide) (by decide)) (g := (mkF m 132 #[.val (.long q1), .second, .val (.long q2), .second, .val (.long q3), .second, .val (.int p4), .val (.long v1), .second, .val (.long v2), .second, .val (.long v3), .second, .val (.long v6), .second, .val (.int v4), .val (.int (1 : Int32)), .unset] [(.long v6), (.long q2), (.long q1)])) rfl (by rw [hml]; rfl) (argsL := [(.long q1), (.long q2), (.long v6)]) (rest := []) (lenOf own_pd__JJJ_I rfl) rfl (by show 2 * 0 + _ ≤ _; exact Nat.le_of_eq rfl) (hb hby at_132) (fun _ _ => ⟨rfl, e0, (by decide : 0 + 0 ≤ _), (by decide : 0 + 0 ≤ _)⟩)
            dsimp only [Pt.U, Pt.locs, Pt.cells, Pt.slots] at X20 l20 y20 z20 st20 hQ20
            subst l20 y20 z20
            obtain ⟨rfl, Nq20, eq20⟩ := hQ20
            have N20 := Fr.app N0 Nq20
            refine own_st st20 ?_
            show own_Go p.tables e below RR (T20.setTop (mkF m 135 #[.val (.long q1), .second, .val (.long q2), .second, .val (.long q3), .second, .val (.int p4), .val (.long v1), .second, .val (.long v2), .second, .val (.long v3), .second, .val (.long v6), .second, .val (.int v4), .val (.int (1 : Int32)), .unset] [(.int (own_span q1 q2 v6))]))
            refine own_st (fun _ k => XS.istore X20.here hx rfl (hb hby at_135) rfl (l' := #[.val (.long q1), .second, .val (.long q2), .second, .val (.long q3), .second, .val (.int p4), .val (.long v1), .second, .val (.long v2), .second, .val (.long v3), .second, .val (.long v6), .second, .val (.int v4), .val (.int (1 : Int32)), .val (.int (own_span q1 q2 v6))]) rfl (XS.iload X20.here hx rfl (hb hby at_137) rfl k)) ?_
            show own_Go p.tables e below RR (T20.setTop (mkF m 139 #[.val (.long q1), .second, .val (.long q2), .second, .val (.long q3), .second, .val (.int p4), .val (.long v1), .second, .val (.long v2), .second, .val (.long v3), .second, .val (.long v6), .second, .val (.int v4), .val (.int (1 : Int32)), .val (.int (own_span q1 q2 v6))] [(.int (own_span q1 q2 v6))]))
            obtain ⟨_, _, ⟨T21, L21, k21, n21⟩, -, X21, ⟨Lc21, hQ21, l21, y21, z21⟩, st21⟩ := Jvm.LawKit.callS X20 hx (y := (⟨"com/example/vigilant_cells/vigilantcells/model/VersionRulesCompareSpanPinLaw", "sign", "(I)I"⟩ : MethodName)) hown (mvT hZ (hw _ (List.mem_of_getElem? (i := 17) rfl))) (mvT hZ (hw _ (List.mem_of_getElem? (i := 18) rfl))) (mvT hZ (hw _ (List.mem_of_getElem? (i := 19) rfl))) (mvT hZ (hw _ (List.mem_of_getElem? (i := 20) rfl))) (by decide) (backOf (W := 0) (own_rmG l Z a0 hw [] (own_span q1 q2 v6) h0 n0 Z0 ) hZ (hw _ (List.mem_of_getElem? (i := 20) rfl)) (hw _ (List.mem_of_getElem? (i := 19) rfl)) (by decide) (by decide)) (g := (mkF m 139 #[.val (.long q1), .second, .val (.long q2), .second, .val (.long q3), .second, .val (.int p4), .val (.long v1), .second, .val (.long v2), .second, .val (.long v3), .second, .val (.long v6), .second, .val (.int v4), .val (.int (1 : Int32)), .val (.int (own_span q1 q2 v6))] [(.int (own_span q1 q2 v6))])) rfl (by rw [hml]; rfl) (argsL := [(.int (own_span q1 q2 v6))]) (rest := []) (lenOf own_pd__I_I rfl) rfl (by show 2 * 0 + _ ≤ _; exact Nat.le_of_eq rfl) (hb hby at_139) (fun _ _ => ⟨rfl, eq20, (by decide : 0 + 0 ≤ _), (by decide : 0 + 0 ≤ _)⟩)
            dsimp only [Pt.U, Pt.locs, Pt.cells, Pt.slots] at X21 l21 y21 z21 st21 hQ21
            subst l21 y21 z21
            obtain ⟨rfl, Nq21, eq21⟩ := hQ21
            have N21 := Fr.app N20 Nq21
            refine own_st st21 ?_
            show own_Go p.tables e below RR (T21.setTop (mkF m 142 #[.val (.long q1), .second, .val (.long q2), .second, .val (.long q3), .second, .val (.int p4), .val (.long v1), .second, .val (.long v2), .second, .val (.long v3), .second, .val (.long v6), .second, .val (.int v4), .val (.int (1 : Int32)), .val (.int (own_span q1 q2 v6))] [(.int (own_sign (own_span q1 q2 v6)))]))
            refine own_st (fun _ k => XS.iload X21.here hx rfl (hb hby at_142) rfl k) ?_
            show own_Go p.tables e below RR (T21.setTop (mkF m 144 #[.val (.long q1), .second, .val (.long q2), .second, .val (.long q3), .second, .val (.int p4), .val (.long v1), .second, .val (.long v2), .second, .val (.long v3), .second, .val (.long v6), .second, .val (.int v4), .val (.int (1 : Int32)), .val (.int (own_span q1 q2 v6))] [(.int (1 : Int32)), (.int (own_sign (own_span q1 q2 v6)))]))
            have hc144_22 : (own_sign (own_span q1 q2 v6)) = (1 : Int32) := own_main gv1 gv2 gv3 (own_nn gv6) (by simp only [hc75_7, hc89_11, hc103_15, hc116_19, if_true, if_false])
            refine own_st (fun _ k => XS.icmpNo X21.here hx rfl (hb hby at_144) rfl (teq hc144_22).2 (XS.iconst X21.here hx rfl (hb hby at_147) (XS.goto X21.here hx rfl (pc0 := 148) (pc' := 152) rfl (hb hby at_148) (by decide) (by decide) k))) ?_
            show own_Go p.tables e below RR (T21.setTop (mkF m 152 #[.val (.long q1), .second, .val (.long q2), .second, .val (.long q3), .second, .val (.int p4), .val (.long v1), .second, .val (.long v2), .second, .val (.long v3), .second, .val (.long v6), .second, .val (.int v4), .val (.int (1 : Int32)), .val (.int (own_span q1 q2 v6))] [(.int (1 : Int32))]))
            obtain ⟨fs, hrt_, hrun, hended, hW, hsame⟩ := X21.leave (v := some (.int (1 : Int32))) (fun h => by rw [Bd.returns] at h; cases h)
            refine own_fin (retN X21 hx (t := .boolean) Bd.returns (by simp) (hb hby at_152) hrt_) (hRR _ ⟨_, hrun, hended, _, _, rfl, ?_, ⟨_, rfl⟩, hW, hsame.mono (by decide) (by decide)⟩)
            show own_Q0 Z q1 q2 q3 p4 h0 n0 _ T21.heap _
            rw [eq21]
            exact ⟨rfl, N21⟩
          · refine own_st (fun _ k => XS.ifYes X0.here hx rfl (pc0 := 116) (pc' := 125) rfl (hb hby at_116) rfl ((if0 _ _).trans (flt (fun q => hc116_19 ((lw_gt _ _).mp q))).2.2.2) (by decide) (by decide) (XS.iconst X0.here hx rfl (hb hby at_125) (XS.istore X0.here hx rfl (hb hby at_126) rfl (l' := #[.val (.long q1), .second, .val (.long q2), .second, .val (.long q3), .second, .val (.int p4), .val (.long v1), .second, .val (.long v2), .second, .val (.long v3), .second, .val (.long v6), .second, .val (.int v4), .val (.int (0 : Int32)), .unset]) rfl (XS.lloadN X0.here hx rfl (hb hby at_128) rfl (XS.lloadN X0.here hx rfl (hb hby at_129) rfl (XS.lload X0.here hx rfl (hb hby at_130) rfl k)))))) ?_
            show own_Go p.tables e below RR (s₁.setTop (mkF m 132 #[.val (.long q1), .second, .val (.long q2), .second, .val (.long q3), .second, .val (.int p4), .val (.long v1), .second, .val (.long v2), .second, .val (.long v3), .second, .val (.long v6), .second, .val (.int v4), .val (.int (0 : Int32)), .unset] [(.long v6), (.long q2), (.long q1)]))
            obtain ⟨_, _, ⟨T23, L23, k23, n23⟩, -, X23, ⟨Lc23, hQ23, l23, y23, z23⟩, st23⟩ := Jvm.LawKit.callS X0 hx (y := (⟨"com/example/vigilant_cells/vigilantcells/model/VersionRules", "compareSpan", "(JJJ)I"⟩ : MethodName)) hown (mvT hZ (hw _ (List.mem_of_getElem? (i := 2) rfl))) (mvT hZ (hw _ (List.mem_of_getElem? (i := 3) rfl))) (mvT hZ (hw _ (List.mem_of_getElem? (i := 4) rfl))) (mvT hZ (hw _ (List.mem_of_getElem? (i := 5) rfl))) (by decide) (backOf (W := 0) (own_rmS l Z a0 hw [] q1 q2 v6 h0 n0 Z0 S_MAX_SPAN_SECONDS) hZ (hw _ (List.mem_of_getElem? (i := 5) rfl)) (hw _ (List.mem_of_getElem? (i := 4) rfl)) (by decide) (by decide)) (g := (mkF m 132 #[.val (.long q1), .second, .val (.long q2), .second, .val (.long q3), .second, .val (.int p4), .val (.long v1), .second, .val (.long v2), .second, .val (.long v3), .second, .val (.long v6), .second, .val (.int v4), .val (.int (0 : Int32)), .unset] [(.long v6), (.long q2), (.long q1)])) rfl (by rw [hml]; rfl) (argsL := [(.long q1), (.long q2), (.long v6)]) (rest := []) (lenOf own_pd__JJJ_I rfl) rfl (by show 2 * 0 + _ ≤ _; exact Nat.le_of_eq rfl) (hb hby at_132) (fun _ _ => ⟨rfl, e0, (by decide : 0 + 0 ≤ _), (by decide : 0 + 0 ≤ _)⟩)
            dsimp only [Pt.U, Pt.locs, Pt.cells, Pt.slots] at X23 l23 y23 z23 st23 hQ23
            subst l23 y23 z23
            obtain ⟨rfl, Nq23, eq23⟩ := hQ23
            have N23 := Fr.app N0 Nq23
            refine own_st st23 ?_
            show own_Go p.tables e below RR (T23.setTop (mkF m 135 #[.val (.long q1), .second, .val (.long q2), .second, .val (.long q3), .second, .val (.int p4), .val (.long v1), .second, .val (.long v2), .second, .val (.long v3), .second, .val (.long v6), .second, .val (.int v4), .val (.int (0 : Int32)), .unset] [(.int (own_span q1 q2 v6))]))
            refine own_st (fun _ k => XS.istore X23.here hx rfl (hb hby at_135) rfl (l' := #[.val (.long q1), .second, .val (.long q2), .second, .val (.long q3), .second, .val (.int p4), .val (.long v1), .second, .val (.long v2), .second, .val (.long v3), .second, .val (.long v6), .second, .val (.int v4), .val (.int (0 : Int32)), .val (.int (own_span q1 q2 v6))]) rfl (XS.iload X23.here hx rfl (hb hby at_137) rfl k)) ?_
            show own_Go p.tables e below RR (T23.setTop (mkF m 139 #[.val (.long q1), .second, .val (.long q2), .second, .val (.long q3), .second, .val (.int p4), .val (.long v1), .second, .val (.long v2), .second, .val (.long v3), .second, .val (.long v6), .second, .val (.int v4), .val (.int (0 : Int32)), .val (.int (own_span q1 q2 v6))] [(.int (own_span q1 q2 v6))]))
            obtain ⟨_, _, ⟨T24, L24, k24, n24⟩, -, X24, ⟨Lc24, hQ24, l24, y24, z24⟩, st24⟩ := Jvm.LawKit.callS X23 hx (y := (⟨"com/example/vigilant_cells/vigilantcells/model/VersionRulesCompareSpanPinLaw", "sign", "(I)I"⟩ : MethodName)) hown (mvT hZ (hw _ (List.mem_of_getElem? (i := 17) rfl))) (mvT hZ (hw _ (List.mem_of_getElem? (i := 18) rfl))) (mvT hZ (hw _ (List.mem_of_getElem? (i := 19) rfl))) (mvT hZ (hw _ (List.mem_of_getElem? (i := 20) rfl))) (by decide) (backOf (W := 0) (own_rmG l Z a0 hw [] (own_span q1 q2 v6) h0 n0 Z0 ) hZ (hw _ (List.mem_of_getElem? (i := 20) rfl)) (hw _ (List.mem_of_getElem? (i := 19) rfl)) (by decide) (by decide)) (g := (mkF m 139 #[.val (.long q1), .second, .val (.long q2), .second, .val (.long q3), .second, .val (.int p4), .val (.long v1), .second, .val (.long v2), .second, .val (.long v3), .second, .val (.long v6), .second, .val (.int v4), .val (.int (0 : Int32)), .val (.int (own_span q1 q2 v6))] [(.int (own_span q1 q2 v6))])) rfl (by rw [hml]; rfl) (argsL := [(.int (own_span q1 q2 v6))]) (rest := []) (lenOf own_pd__I_I rfl) rfl (by show 2 * 0 + _ ≤ _; exact Nat.le_of_eq rfl) (hb hby at_139) (fun _ _ => ⟨rfl, eq23, (by decide : 0 + 0 ≤ _), (by decide : 0 + 0 ≤ _)⟩)
            dsimp only [Pt.U, Pt.locs, Pt.cells, Pt.slots] at X24 l24 y24 z24 st24 hQ24
            subst l24 y24 z24
            obtain ⟨rfl, Nq24, eq24⟩ := hQ24
            have N24 := Fr.app N23 Nq24
            refine own_st st24 ?_
            show own_Go p.tables e below RR (T24.setTop (mkF m 142 #[.val (.long q1), .second, .val (.long q2), .second, .val (.long q3), .second, .val (.int p4), .val (.long v1), .second, .val (.long v2), .second, .val (.long v3), .second, .val (.long v6), .second, .val (.int v4), .val (.int (0 : Int32)), .val (.int (own_span q1 q2 v6))] [(.int (own_sign (own_span q1 q2 v6)))]))
            refine own_st (fun _ k => XS.iload X24.here hx rfl (hb hby at_142) rfl k) ?_
            show own_Go p.tables e below RR (T24.setTop (mkF m 144 #[.val (.long q1), .second, .val (.long q2), .second, .val (.long q3), .second, .val (.int p4), .val (.long v1), .second, .val (.long v2), .second, .val (.long v3), .second, .val (.long v6), .second, .val (.int v4), .val (.int (0 : Int32)), .val (.int (own_span q1 q2 v6))] [(.int (0 : Int32)), (.int (own_sign (own_span q1 q2 v6)))]))
            have hc144_25 : (own_sign (own_span q1 q2 v6)) = (0 : Int32) := own_main gv1 gv2 gv3 (own_nn gv6) (by simp only [hc75_7, hc89_11, hc103_15, hc116_19, if_true, if_false])
            refine own_st (fun _ k => XS.icmpNo X24.here hx rfl (hb hby at_144) rfl (teq hc144_25).2 (XS.iconst X24.here hx rfl (hb hby at_147) (XS.goto X24.here hx rfl (pc0 := 148) (pc' := 152) rfl (hb hby at_148) (by decide) (by decide) k))) ?_
            show own_Go p.tables e below RR (T24.setTop (mkF m 152 #[.val (.long q1), .second, .val (.long q2), .second, .val (.long q3), .second, .val (.int p4), .val (.long v1), .second, .val (.long v2), .second, .val (.long v3), .second, .val (.long v6), .second, .val (.int v4), .val (.int (0 : Int32)), .val (.int (own_span q1 q2 v6))] [(.int (1 : Int32))]))
            obtain ⟨fs, hrt_, hrun, hended, hW, hsame⟩ := X24.leave (v := some (.int (1 : Int32))) (fun h => by rw [Bd.returns] at h; cases h)
            refine own_fin (retN X24 hx (t := .boolean) Bd.returns (by simp) (hb hby at_152) hrt_) (hRR _ ⟨_, hrun, hended, _, _, rfl, ?_, ⟨_, rfl⟩, hW, hsame.mono (by decide) (by decide)⟩)
            show own_Q0 Z q1 q2 q3 p4 h0 n0 _ T24.heap _
            rw [eq24]
            exact ⟨rfl, N24⟩
  · refine own_st (fun _ k => XS.ifYes X0.here hx rfl (pc0 := 34) (pc' := 48) rfl (hb hby at_34) rfl ((if0 _ _).trans (feq hc34_5).2) (by decide) (by decide) (XS.iload X0.here hx rfl (hb hby at_48) rfl (XS.iconst X0.here hx rfl (hb hby at_50) (XS.isub X0.here hx rfl (hb hby at_51) rfl (XS.i2l X0.here hx rfl (hb hby at_52) rfl (XS.lstore X0.here hx rfl (hb hby at_53) rfl (l' := #[.val (.long q1), .second, .val (.long q2), .second, .val (.long q3), .second, .val (.int p4), .val (.long v1), .second, .val (.long v2), .second, .val (.long v3), .second, .unset, .unset, .val (.int v4), .val (.long ((v4 - (2 : Int32)).toInt64)), .second]) rfl (XS.lload X0.here hx rfl (hb hby at_55) rfl (XS.lload X0.here hx rfl (hb hby at_57) rfl k)))))))) ?_
    show own_Go p.tables e below RR (s₁.setTop (mkF m 59 #[.val (.long q1), .second, .val (.long q2), .second, .val (.long q3), .second, .val (.int p4), .val (.long v1), .second, .val (.long v2), .second, .val (.long v3), .second, .unset, .unset, .val (.int v4), .val (.long ((v4 - (2 : Int32)).toInt64)), .second] [(.long ((v4 - (2 : Int32)).toInt64)), (.long v2)]))
    refine own_st (fun _ k => XS.ladd X0.here hx rfl (hb hby at_59) rfl k) ?_
    show own_Go p.tables e below RR (s₁.setTop (mkF m 60 #[.val (.long q1), .second, .val (.long q2), .second, .val (.long q3), .second, .val (.int p4), .val (.long v1), .second, .val (.long v2), .second, .val (.long v3), .second, .unset, .unset, .val (.int v4), .val (.long ((v4 - (2 : Int32)).toInt64)), .second] [(.long (v2 + ((v4 - (2 : Int32)).toInt64)))]))
    generalize gv26 : (v2 + ((v4 - (2 : Int32)).toInt64)) = v26
    show own_Go p.tables e below RR (s₁.setTop (mkF m 60 #[.val (.long q1), .second, .val (.long q2), .second, .val (.long q3), .second, .val (.int p4), .val (.long v1), .second, .val (.long v2), .second, .val (.long v3), .second, .unset, .unset, .val (.int v4), .val (.long ((v4 - (2 : Int32)).toInt64)), .second] [(.long v26)]))
    refine own_st (fun _ k => XS.lstore X0.here hx rfl (hb hby at_60) rfl (l' := #[.val (.long q1), .second, .val (.long q2), .second, .val (.long q3), .second, .val (.int p4), .val (.long v1), .second, .val (.long v2), .second, .val (.long v3), .second, .val (.long v26), .second, .val (.int v4), .val (.long ((v4 - (2 : Int32)).toInt64)), .second]) rfl (XS.lload X0.here hx rfl (hb hby at_62) rfl (XS.lconst X0.here hx rfl (hb hby at_64) (XS.lcmp X0.here hx rfl (hb hby at_65) rfl k)))) ?_
    show own_Go p.tables e below RR (s₁.setTop (mkF m 66 #[.val (.long q1), .second, .val (.long q2), .second, .val (.long q3), .second, .val (.int p4), .val (.long v1), .second, .val (.long v2), .second, .val (.long v3), .second, .val (.long v26), .second, .val (.int v4), .val (.long ((v4 - (2 : Int32)).toInt64)), .second] [(.int (lcmpW v26 (0 : Int64)))]))
    by_cases hc66_27 : v26 < (0 : Int64)
    · refine own_st (fun _ k => XS.ifNo X0.here hx rfl (hb hby at_66) rfl ((if0 _ _).trans (tlt ((lw_lt _ _).mpr hc66_27)).2.1) (XS.lconst X0.here hx rfl (hb hby at_69) (XS.lstore X0.here hx rfl (hb hby at_70) rfl (l' := #[.val (.long q1), .second, .val (.long q2), .second, .val (.long q3), .second, .val (.int p4), .val (.long v1), .second, .val (.long v2), .second, .val (.long v3), .second, .val (.long (0 : Int64)), .second, .val (.int v4), .val (.long ((v4 - (2 : Int32)).toInt64)), .second]) rfl (XS.lloadN X0.here hx rfl (hb hby at_72) rfl (XS.lloadN X0.here hx rfl (hb hby at_73) rfl (XS.lcmp X0.here hx rfl (hb hby at_74) rfl k)))))) ?_
      show own_Go p.tables e below RR (s₁.setTop (mkF m 75 #[.val (.long q1), .second, .val (.long q2), .second, .val (.long q3), .second, .val (.int p4), .val (.long v1), .second, .val (.long v2), .second, .val (.long v3), .second, .val (.long (0 : Int64)), .second, .val (.int v4), .val (.long ((v4 - (2 : Int32)).toInt64)), .second] [(.int (lcmpW q1 q2))]))
      by_cases hc75_28 : q1 < q2
      · refine own_st (fun _ k => XS.ifNo X0.here hx rfl (hb hby at_75) rfl ((if0 _ _).trans (tlt ((lw_lt _ _).mpr hc75_28)).2.1) (XS.iconst X0.here hx rfl (hb hby at_78) (XS.istore X0.here hx rfl (hb hby at_79) rfl (l' := #[.val (.long q1), .second, .val (.long q2), .second, .val (.long q3), .second, .val (.int p4), .val (.long v1), .second, .val (.long v2), .second, .val (.long v3), .second, .val (.long (0 : Int64)), .second, .val (.int v4), .val (.int (-1 : Int32)), .unset]) rfl (XS.goto X0.here hx rfl (pc0 := 81) (pc' := 128) rfl (hb hby at_81) (by decide) (by decide) (XS.lloadN X0.here hx rfl (hb hby at_128) rfl (XS.lloadN X0.here hx rfl (hb hby at_129) rfl (XS.lload X0.here hx rfl (hb hby at_130) rfl k))))))) ?_
        show own_Go p.tables e below RR (s₁.setTop (mkF m 132 #[.val (.long q1), .second, .val (.long q2), .second, .val (.long q3), .second, .val (.int p4), .val (.long v1), .second, .val (.long v2), .second, .val (.long v3), .second, .val (.long (0 : Int64)), .second, .val (.int v4), .val (.int (-1 : Int32)), .unset] [(.long (0 : Int64)), (.long q2), (.long q1)]))
        obtain ⟨_, _, ⟨T29, L29, k29, n29⟩, -, X29, ⟨Lc29, hQ29, l29, y29, z29⟩, st29⟩ := Jvm.LawKit.callS X0 hx (y := (⟨"com/example/vigilant_cells/vigilantcells/model/VersionRules", "compareSpan", "(JJJ)I"⟩ : MethodName)) hown (mvT hZ (hw _ (List.mem_of_getElem? (i := 2) rfl))) (mvT hZ (hw _ (List.mem_of_getElem? (i := 3) rfl))) (mvT hZ (hw _ (List.mem_of_getElem? (i := 4) rfl))) (mvT hZ (hw _ (List.mem_of_getElem? (i := 5) rfl))) (by decide) (backOf (W := 0) (own_rmS l Z a0 hw [] q1 q2 (0 : Int64) h0 n0 Z0 S_MAX_SPAN_SECONDS) hZ (hw _ (List.mem_of_getElem? (i := 5) rfl)) (hw _ (List.mem_of_getElem? (i := 4) rfl)) (by decide) (by decide)) (g := (mkF m 132 #[.val (.long q1), .second, .val (.long q2), .second, .val (.long q3), .second, .val (.int p4), .val (.long v1), .second, .val (.long v2), .second, .val (.long v3), .second, .val (.long (0 : Int64)), .second, .val (.int v4), .val (.int (-1 : Int32)), .unset] [(.long (0 : Int64)), (.long q2), (.long q1)])) rfl (by rw [hml]; rfl) (argsL := [(.long q1), (.long q2), (.long (0 : Int64))]) (rest := []) (lenOf own_pd__JJJ_I rfl) rfl (by show 2 * 0 + _ ≤ _; exact Nat.le_of_eq rfl) (hb hby at_132) (fun _ _ => ⟨rfl, e0, (by decide : 0 + 0 ≤ _), (by decide : 0 + 0 ≤ _)⟩)
        dsimp only [Pt.U, Pt.locs, Pt.cells, Pt.slots] at X29 l29 y29 z29 st29 hQ29
        subst l29 y29 z29
        obtain ⟨rfl, Nq29, eq29⟩ := hQ29
        have N29 := Fr.app N0 Nq29
        refine own_st st29 ?_
        show own_Go p.tables e below RR (T29.setTop (mkF m 135 #[.val (.long q1), .second, .val (.long q2), .second, .val (.long q3), .second, .val (.int p4), .val (.long v1), .second, .val (.long v2), .second, .val (.long v3), .second, .val (.long (0 : Int64)), .second, .val (.int v4), .val (.int (-1 : Int32)), .unset] [(.int (own_span q1 q2 (0 : Int64)))]))
        refine own_st (fun _ k => XS.istore X29.here hx rfl (hb hby at_135) rfl (l' := #[.val (.long q1), .second, .val (.long q2), .second, .val (.long q3), .second, .val (.int p4), .val (.long v1), .second, .val (.long v2), .second, .val (.long v3), .second, .val (.long (0 : Int64)), .second, .val (.int v4), .val (.int (-1 : Int32)), .val (.int (own_span q1 q2 (0 : Int64)))]) rfl (XS.iload X29.here hx rfl (hb hby at_137) rfl k)) ?_
        show own_Go p.tables e below RR (T29.setTop (mkF m 139 #[.val (.long q1), .second, .val (.long q2), .second, .val (.long q3), .second, .val (.int p4), .val (.long v1), .second, .val (.long v2), .second, .val (.long v3), .second, .val (.long (0 : Int64)), .second, .val (.int v4), .val (.int (-1 : Int32)), .val (.int (own_span q1 q2 (0 : Int64)))] [(.int (own_span q1 q2 (0 : Int64)))]))
        obtain ⟨_, _, ⟨T30, L30, k30, n30⟩, -, X30, ⟨Lc30, hQ30, l30, y30, z30⟩, st30⟩ := Jvm.LawKit.callS X29 hx (y := (⟨"com/example/vigilant_cells/vigilantcells/model/VersionRulesCompareSpanPinLaw", "sign", "(I)I"⟩ : MethodName)) hown (mvT hZ (hw _ (List.mem_of_getElem? (i := 17) rfl))) (mvT hZ (hw _ (List.mem_of_getElem? (i := 18) rfl))) (mvT hZ (hw _ (List.mem_of_getElem? (i := 19) rfl))) (mvT hZ (hw _ (List.mem_of_getElem? (i := 20) rfl))) (by decide) (backOf (W := 0) (own_rmG l Z a0 hw [] (own_span q1 q2 (0 : Int64)) h0 n0 Z0 ) hZ (hw _ (List.mem_of_getElem? (i := 20) rfl)) (hw _ (List.mem_of_getElem? (i := 19) rfl)) (by decide) (by decide)) (g := (mkF m 139 #[.val (.long q1), .second, .val (.long q2), .second, .val (.long q3), .second, .val (.int p4), .val (.long v1), .second, .val (.long v2), .second, .val (.long v3), .second, .val (.long (0 : Int64)), .second, .val (.int v4), .val (.int (-1 : Int32)), .val (.int (own_span q1 q2 (0 : Int64)))] [(.int (own_span q1 q2 (0 : Int64)))])) rfl (by rw [hml]; rfl) (argsL := [(.int (own_span q1 q2 (0 : Int64)))]) (rest := []) (lenOf own_pd__I_I rfl) rfl (by show 2 * 0 + _ ≤ _; exact Nat.le_of_eq rfl) (hb hby at_139) (fun _ _ => ⟨rfl, eq29, (by decide : 0 + 0 ≤ _), (by decide : 0 + 0 ≤ _)⟩)
        dsimp only [Pt.U, Pt.locs, Pt.cells, Pt.slots] at X30 l30 y30 z30 st30 hQ30
        subst l30 y30 z30
        obtain ⟨rfl, Nq30, eq30⟩ := hQ30
        have N30 := Fr.app N29 Nq30
        refine own_st st30 ?_
        show own_Go p.tables e below RR (T30.setTop (mkF m 142 #[.val (.long q1), .second, .val (.long q2), .second, .val (.long q3), .second, .val (.int p4), .val (.long v1), .second, .val (.long v2), .second, .val (.long v3), .second, .val (.long (0 : Int64)), .second, .val (.int v4), .val (.int (-1 : Int32)), .val (.int (own_span q1 q2 (0 : Int64)))] [(.int (own_sign (own_span q1 q2 (0 : Int64))))]))
        refine own_st (fun _ k => XS.iload X30.here hx rfl (hb hby at_142) rfl k) ?_
        show own_Go p.tables e below RR (T30.setTop (mkF m 144 #[.val (.long q1), .second, .val (.long q2), .second, .val (.long q3), .second, .val (.int p4), .val (.long v1), .second, .val (.long v2), .second, .val (.long v3), .second, .val (.long (0 : Int64)), .second, .val (.int v4), .val (.int (-1 : Int32)), .val (.int (own_span q1 q2 (0 : Int64)))] [(.int (-1 : Int32)), (.int (own_sign (own_span q1 q2 (0 : Int64))))]))
        have hc144_31 : (own_sign (own_span q1 q2 (0 : Int64))) = (-1 : Int32) := own_main gv1 gv2 gv3 (by decide) (by simp only [hc75_28, if_true, if_false])
        refine own_st (fun _ k => XS.icmpNo X30.here hx rfl (hb hby at_144) rfl (teq hc144_31).2 (XS.iconst X30.here hx rfl (hb hby at_147) (XS.goto X30.here hx rfl (pc0 := 148) (pc' := 152) rfl (hb hby at_148) (by decide) (by decide) k))) ?_
        show own_Go p.tables e below RR (T30.setTop (mkF m 152 #[.val (.long q1), .second, .val (.long q2), .second, .val (.long q3), .second, .val (.int p4), .val (.long v1), .second, .val (.long v2), .second, .val (.long v3), .second, .val (.long (0 : Int64)), .second, .val (.int v4), .val (.int (-1 : Int32)), .val (.int (own_span q1 q2 (0 : Int64)))] [(.int (1 : Int32))]))
        obtain ⟨fs, hrt_, hrun, hended, hW, hsame⟩ := X30.leave (v := some (.int (1 : Int32))) (fun h => by rw [Bd.returns] at h; cases h)
        refine own_fin (retN X30 hx (t := .boolean) Bd.returns (by simp) (hb hby at_152) hrt_) (hRR _ ⟨_, hrun, hended, _, _, rfl, ?_, ⟨_, rfl⟩, hW, hsame.mono (by decide) (by decide)⟩)
        show own_Q0 Z q1 q2 q3 p4 h0 n0 _ T30.heap _
        rw [eq30]
        exact ⟨rfl, N30⟩
      · refine own_st (fun _ k => XS.ifYes X0.here hx rfl (pc0 := 75) (pc' := 84) rfl (hb hby at_75) rfl ((if0 _ _).trans (flt (fun q => hc75_28 ((lw_lt _ _).mp q))).2.1) (by decide) (by decide) (XS.lload X0.here hx rfl (hb hby at_84) rfl (XS.lload X0.here hx rfl (hb hby at_86) rfl (XS.lcmp X0.here hx rfl (hb hby at_88) rfl k)))) ?_
        show own_Go p.tables e below RR (s₁.setTop (mkF m 89 #[.val (.long q1), .second, .val (.long q2), .second, .val (.long q3), .second, .val (.int p4), .val (.long v1), .second, .val (.long v2), .second, .val (.long v3), .second, .val (.long (0 : Int64)), .second, .val (.int v4), .val (.long ((v4 - (2 : Int32)).toInt64)), .second] [(.int (lcmpW v2 (0 : Int64)))]))
        by_cases hc89_32 : v2 < (0 : Int64)
        · refine own_st (fun _ k => XS.ifNo X0.here hx rfl (hb hby at_89) rfl ((if0 _ _).trans (tlt ((lw_lt _ _).mpr hc89_32)).2.1) (XS.iconst X0.here hx rfl (hb hby at_92) (XS.istore X0.here hx rfl (hb hby at_93) rfl (l' := #[.val (.long q1), .second, .val (.long q2), .second, .val (.long q3), .second, .val (.int p4), .val (.long v1), .second, .val (.long v2), .second, .val (.long v3), .second, .val (.long (0 : Int64)), .second, .val (.int v4), .val (.int (-1 : Int32)), .unset]) rfl (XS.goto X0.here hx rfl (pc0 := 95) (pc' := 128) rfl (hb hby at_95) (by decide) (by decide) (XS.lloadN X0.here hx rfl (hb hby at_128) rfl (XS.lloadN X0.here hx rfl (hb hby at_129) rfl (XS.lload X0.here hx rfl (hb hby at_130) rfl k))))))) ?_
          show own_Go p.tables e below RR (s₁.setTop (mkF m 132 #[.val (.long q1), .second, .val (.long q2), .second, .val (.long q3), .second, .val (.int p4), .val (.long v1), .second, .val (.long v2), .second, .val (.long v3), .second, .val (.long (0 : Int64)), .second, .val (.int v4), .val (.int (-1 : Int32)), .unset] [(.long (0 : Int64)), (.long q2), (.long q1)]))
          obtain ⟨_, _, ⟨T33, L33, k33, n33⟩, -, X33, ⟨Lc33, hQ33, l33, y33, z33⟩, st33⟩ := Jvm.LawKit.callS X0 hx (y := (⟨"com/example/vigilant_cells/vigilantcells/model/VersionRules", "compareSpan", "(JJJ)I"⟩ : MethodName)) hown (mvT hZ (hw _ (List.mem_of_getElem? (i := 2) rfl))) (mvT hZ (hw _ (List.mem_of_getElem? (i := 3) rfl))) (mvT hZ (hw _ (List.mem_of_getElem? (i := 4) rfl))) (mvT hZ (hw _ (List.mem_of_getElem? (i := 5) rfl))) (by decide) (backOf (W := 0) (own_rmS l Z a0 hw [] q1 q2 (0 : Int64) h0 n0 Z0 S_MAX_SPAN_SECONDS) hZ (hw _ (List.mem_of_getElem? (i := 5) rfl)) (hw _ (List.mem_of_getElem? (i := 4) rfl)) (by decide) (by decide)) (g := (mkF m 132 #[.val (.long q1), .second, .val (.long q2), .second, .val (.long q3), .second, .val (.int p4), .val (.long v1), .second, .val (.long v2), .second, .val (.long v3), .second, .val (.long (0 : Int64)), .second, .val (.int v4), .val (.int (-1 : Int32)), .unset] [(.long (0 : Int64)), (.long q2), (.long q1)])) rfl (by rw [hml]; rfl) (argsL := [(.long q1), (.long q2), (.long (0 : Int64))]) (rest := []) (lenOf own_pd__JJJ_I rfl) rfl (by show 2 * 0 + _ ≤ _; exact Nat.le_of_eq rfl) (hb hby at_132) (fun _ _ => ⟨rfl, e0, (by decide : 0 + 0 ≤ _), (by decide : 0 + 0 ≤ _)⟩)
          dsimp only [Pt.U, Pt.locs, Pt.cells, Pt.slots] at X33 l33 y33 z33 st33 hQ33
          subst l33 y33 z33
          obtain ⟨rfl, Nq33, eq33⟩ := hQ33
          have N33 := Fr.app N0 Nq33
          refine own_st st33 ?_
          show own_Go p.tables e below RR (T33.setTop (mkF m 135 #[.val (.long q1), .second, .val (.long q2), .second, .val (.long q3), .second, .val (.int p4), .val (.long v1), .second, .val (.long v2), .second, .val (.long v3), .second, .val (.long (0 : Int64)), .second, .val (.int v4), .val (.int (-1 : Int32)), .unset] [(.int (own_span q1 q2 (0 : Int64)))]))
          refine own_st (fun _ k => XS.istore X33.here hx rfl (hb hby at_135) rfl (l' := #[.val (.long q1), .second, .val (.long q2), .second, .val (.long q3), .second, .val (.int p4), .val (.long v1), .second, .val (.long v2), .second, .val (.long v3), .second, .val (.long (0 : Int64)), .second, .val (.int v4), .val (.int (-1 : Int32)), .val (.int (own_span q1 q2 (0 : Int64)))]) rfl (XS.iload X33.here hx rfl (hb hby at_137) rfl k)) ?_
          show own_Go p.tables e below RR (T33.setTop (mkF m 139 #[.val (.long q1), .second, .val (.long q2), .second, .val (.long q3), .second, .val (.int p4), .val (.long v1), .second, .val (.long v2), .second, .val (.long v3), .second, .val (.long (0 : Int64)), .second, .val (.int v4), .val (.int (-1 : Int32)), .val (.int (own_span q1 q2 (0 : Int64)))] [(.int (own_span q1 q2 (0 : Int64)))]))
          obtain ⟨_, _, ⟨T34, L34, k34, n34⟩, -, X34, ⟨Lc34, hQ34, l34, y34, z34⟩, st34⟩ := Jvm.LawKit.callS X33 hx (y := (⟨"com/example/vigilant_cells/vigilantcells/model/VersionRulesCompareSpanPinLaw", "sign", "(I)I"⟩ : MethodName)) hown (mvT hZ (hw _ (List.mem_of_getElem? (i := 17) rfl))) (mvT hZ (hw _ (List.mem_of_getElem? (i := 18) rfl))) (mvT hZ (hw _ (List.mem_of_getElem? (i := 19) rfl))) (mvT hZ (hw _ (List.mem_of_getElem? (i := 20) rfl))) (by decide) (backOf (W := 0) (own_rmG l Z a0 hw [] (own_span q1 q2 (0 : Int64)) h0 n0 Z0 ) hZ (hw _ (List.mem_of_getElem? (i := 20) rfl)) (hw _ (List.mem_of_getElem? (i := 19) rfl)) (by decide) (by decide)) (g := (mkF m 139 #[.val (.long q1), .second, .val (.long q2), .second, .val (.long q3), .second, .val (.int p4), .val (.long v1), .second, .val (.long v2), .second, .val (.long v3), .second, .val (.long (0 : Int64)), .second, .val (.int v4), .val (.int (-1 : Int32)), .val (.int (own_span q1 q2 (0 : Int64)))] [(.int (own_span q1 q2 (0 : Int64)))])) rfl (by rw [hml]; rfl) (argsL := [(.int (own_span q1 q2 (0 : Int64)))]) (rest := []) (lenOf own_pd__I_I rfl) rfl (by show 2 * 0 + _ ≤ _; exact Nat.le_of_eq rfl) (hb hby at_139) (fun _ _ => ⟨rfl, eq33, (by decide : 0 + 0 ≤ _), (by decide : 0 + 0 ≤ _)⟩)
          dsimp only [Pt.U, Pt.locs, Pt.cells, Pt.slots] at X34 l34 y34 z34 st34 hQ34
          subst l34 y34 z34
          obtain ⟨rfl, Nq34, eq34⟩ := hQ34
          have N34 := Fr.app N33 Nq34
          refine own_st st34 ?_
          show own_Go p.tables e below RR (T34.setTop (mkF m 142 #[.val (.long q1), .second, .val (.long q2), .second, .val (.long q3), .second, .val (.int p4), .val (.long v1), .second, .val (.long v2), .second, .val (.long v3), .second, .val (.long (0 : Int64)), .second, .val (.int v4), .val (.int (-1 : Int32)), .val (.int (own_span q1 q2 (0 : Int64)))] [(.int (own_sign (own_span q1 q2 (0 : Int64))))]))
          refine own_st (fun _ k => XS.iload X34.here hx rfl (hb hby at_142) rfl k) ?_
          show own_Go p.tables e below RR (T34.setTop (mkF m 144 #[.val (.long q1), .second, .val (.long q2), .second, .val (.long q3), .second, .val (.int p4), .val (.long v1), .second, .val (.long v2), .second, .val (.long v3), .second, .val (.long (0 : Int64)), .second, .val (.int v4), .val (.int (-1 : Int32)), .val (.int (own_span q1 q2 (0 : Int64)))] [(.int (-1 : Int32)), (.int (own_sign (own_span q1 q2 (0 : Int64))))]))
          have hc144_35 : (own_sign (own_span q1 q2 (0 : Int64))) = (-1 : Int32) := own_main gv1 gv2 gv3 (by decide) (by simp only [hc75_28, hc89_32, if_true, if_false])
          refine own_st (fun _ k => XS.icmpNo X34.here hx rfl (hb hby at_144) rfl (teq hc144_35).2 (XS.iconst X34.here hx rfl (hb hby at_147) (XS.goto X34.here hx rfl (pc0 := 148) (pc' := 152) rfl (hb hby at_148) (by decide) (by decide) k))) ?_
          show own_Go p.tables e below RR (T34.setTop (mkF m 152 #[.val (.long q1), .second, .val (.long q2), .second, .val (.long q3), .second, .val (.int p4), .val (.long v1), .second, .val (.long v2), .second, .val (.long v3), .second, .val (.long (0 : Int64)), .second, .val (.int v4), .val (.int (-1 : Int32)), .val (.int (own_span q1 q2 (0 : Int64)))] [(.int (1 : Int32))]))
          obtain ⟨fs, hrt_, hrun, hended, hW, hsame⟩ := X34.leave (v := some (.int (1 : Int32))) (fun h => by rw [Bd.returns] at h; cases h)
          refine own_fin (retN X34 hx (t := .boolean) Bd.returns (by simp) (hb hby at_152) hrt_) (hRR _ ⟨_, hrun, hended, _, _, rfl, ?_, ⟨_, rfl⟩, hW, hsame.mono (by decide) (by decide)⟩)
          show own_Q0 Z q1 q2 q3 p4 h0 n0 _ T34.heap _
          rw [eq34]
          exact ⟨rfl, N34⟩
        · refine own_st (fun _ k => XS.ifYes X0.here hx rfl (pc0 := 89) (pc' := 98) rfl (hb hby at_89) rfl ((if0 _ _).trans (flt (fun q => hc89_32 ((lw_lt _ _).mp q))).2.1) (by decide) (by decide) (XS.lload X0.here hx rfl (hb hby at_98) rfl (XS.lload X0.here hx rfl (hb hby at_100) rfl (XS.lcmp X0.here hx rfl (hb hby at_102) rfl k)))) ?_
          show own_Go p.tables e below RR (s₁.setTop (mkF m 103 #[.val (.long q1), .second, .val (.long q2), .second, .val (.long q3), .second, .val (.int p4), .val (.long v1), .second, .val (.long v2), .second, .val (.long v3), .second, .val (.long (0 : Int64)), .second, .val (.int v4), .val (.long ((v4 - (2 : Int32)).toInt64)), .second] [(.int (lcmpW v2 (0 : Int64)))]))
          by_cases hc103_36 : (0 : Int64) < v2
          · refine own_st (fun _ k => XS.ifNo X0.here hx rfl (hb hby at_103) rfl ((if0 _ _).trans (tlt ((lw_gt _ _).mpr hc103_36)).2.2.2) (XS.iconst X0.here hx rfl (hb hby at_106) (XS.istore X0.here hx rfl (hb hby at_107) rfl (l' := #[.val (.long q1), .second, .val (.long q2), .second, .val (.long q3), .second, .val (.int p4), .val (.long v1), .second, .val (.long v2), .second, .val (.long v3), .second, .val (.long (0 : Int64)), .second, .val (.int v4), .val (.int (1 : Int32)), .unset]) rfl (XS.goto X0.here hx rfl (pc0 := 109) (pc' := 128) rfl (hb hby at_109) (by decide) (by decide) (XS.lloadN X0.here hx rfl (hb hby at_128) rfl (XS.lloadN X0.here hx rfl (hb hby at_129) rfl (XS.lload X0.here hx rfl (hb hby at_130) rfl k))))))) ?_
            show own_Go p.tables e below RR (s₁.setTop (mkF m 132 #[.val (.long q1), .second, .val (.long q2), .second, .val (.long q3), .second, .val (.int p4), .val (.long v1), .second, .val (.long v2), .second, .val (.long v3), .second, .val (.long (0 : Int64)), .second, .val (.int v4), .val (.int (1 : Int32)), .unset] [(.long (0 : Int64)), (.long q2), (.long q1)]))
            obtain ⟨_, _, ⟨T37, L37, k37, n37⟩, -, X37, ⟨Lc37, hQ37, l37, y37, z37⟩, st37⟩ := Jvm.LawKit.callS X0 hx (y := (⟨"com/example/vigilant_cells/vigilantcells/model/VersionRules", "compareSpan", "(JJJ)I"⟩ : MethodName)) hown (mvT hZ (hw _ (List.mem_of_getElem? (i := 2) rfl))) (mvT hZ (hw _ (List.mem_of_getElem? (i := 3) rfl))) (mvT hZ (hw _ (List.mem_of_getElem? (i := 4) rfl))) (mvT hZ (hw _ (List.mem_of_getElem? (i := 5) rfl))) (by decide) (backOf (W := 0) (own_rmS l Z a0 hw [] q1 q2 (0 : Int64) h0 n0 Z0 S_MAX_SPAN_SECONDS) hZ (hw _ (List.mem_of_getElem? (i := 5) rfl)) (hw _ (List.mem_of_getElem? (i := 4) rfl)) (by decide) (by decide)) (g := (mkF m 132 #[.val (.long q1), .second, .val (.long q2), .second, .val (.long q3), .second, .val (.int p4), .val (.long v1), .second, .val (.long v2), .second, .val (.long v3), .second, .val (.long (0 : Int64)), .second, .val (.int v4), .val (.int (1 : Int32)), .unset] [(.long (0 : Int64)), (.long q2), (.long q1)])) rfl (by rw [hml]; rfl) (argsL := [(.long q1), (.long q2), (.long (0 : Int64))]) (rest := []) (lenOf own_pd__JJJ_I rfl) rfl (by show 2 * 0 + _ ≤ _; exact Nat.le_of_eq rfl) (hb hby at_132) (fun _ _ => ⟨rfl, e0, (by decide : 0 + 0 ≤ _), (by decide : 0 + 0 ≤ _)⟩)
            dsimp only [Pt.U, Pt.locs, Pt.cells, Pt.slots] at X37 l37 y37 z37 st37 hQ37
            subst l37 y37 z37
            obtain ⟨rfl, Nq37, eq37⟩ := hQ37
            have N37 := Fr.app N0 Nq37
            refine own_st st37 ?_
            show own_Go p.tables e below RR (T37.setTop (mkF m 135 #[.val (.long q1), .second, .val (.long q2), .second, .val (.long q3), .second, .val (.int p4), .val (.long v1), .second, .val (.long v2), .second, .val (.long v3), .second, .val (.long (0 : Int64)), .second, .val (.int v4), .val (.int (1 : Int32)), .unset] [(.int (own_span q1 q2 (0 : Int64)))]))
            refine own_st (fun _ k => XS.istore X37.here hx rfl (hb hby at_135) rfl (l' := #[.val (.long q1), .second, .val (.long q2), .second, .val (.long q3), .second, .val (.int p4), .val (.long v1), .second, .val (.long v2), .second, .val (.long v3), .second, .val (.long (0 : Int64)), .second, .val (.int v4), .val (.int (1 : Int32)), .val (.int (own_span q1 q2 (0 : Int64)))]) rfl (XS.iload X37.here hx rfl (hb hby at_137) rfl k)) ?_
            show own_Go p.tables e below RR (T37.setTop (mkF m 139 #[.val (.long q1), .second, .val (.long q2), .second, .val (.long q3), .second, .val (.int p4), .val (.long v1), .second, .val (.long v2), .second, .val (.long v3), .second, .val (.long (0 : Int64)), .second, .val (.int v4), .val (.int (1 : Int32)), .val (.int (own_span q1 q2 (0 : Int64)))] [(.int (own_span q1 q2 (0 : Int64)))]))
            obtain ⟨_, _, ⟨T38, L38, k38, n38⟩, -, X38, ⟨Lc38, hQ38, l38, y38, z38⟩, st38⟩ := Jvm.LawKit.callS X37 hx (y := (⟨"com/example/vigilant_cells/vigilantcells/model/VersionRulesCompareSpanPinLaw", "sign", "(I)I"⟩ : MethodName)) hown (mvT hZ (hw _ (List.mem_of_getElem? (i := 17) rfl))) (mvT hZ (hw _ (List.mem_of_getElem? (i := 18) rfl))) (mvT hZ (hw _ (List.mem_of_getElem? (i := 19) rfl))) (mvT hZ (hw _ (List.mem_of_getElem? (i := 20) rfl))) (by decide) (backOf (W := 0) (own_rmG l Z a0 hw [] (own_span q1 q2 (0 : Int64)) h0 n0 Z0 ) hZ (hw _ (List.mem_of_getElem? (i := 20) rfl)) (hw _ (List.mem_of_getElem? (i := 19) rfl)) (by decide) (by decide)) (g := (mkF m 139 #[.val (.long q1), .second, .val (.long q2), .second, .val (.long q3), .second, .val (.int p4), .val (.long v1), .second, .val (.long v2), .second, .val (.long v3), .second, .val (.long (0 : Int64)), .second, .val (.int v4), .val (.int (1 : Int32)), .val (.int (own_span q1 q2 (0 : Int64)))] [(.int (own_span q1 q2 (0 : Int64)))])) rfl (by rw [hml]; rfl) (argsL := [(.int (own_span q1 q2 (0 : Int64)))]) (rest := []) (lenOf own_pd__I_I rfl) rfl (by show 2 * 0 + _ ≤ _; exact Nat.le_of_eq rfl) (hb hby at_139) (fun _ _ => ⟨rfl, eq37, (by decide : 0 + 0 ≤ _), (by decide : 0 + 0 ≤ _)⟩)
            dsimp only [Pt.U, Pt.locs, Pt.cells, Pt.slots] at X38 l38 y38 z38 st38 hQ38
            subst l38 y38 z38
            obtain ⟨rfl, Nq38, eq38⟩ := hQ38
            have N38 := Fr.app N37 Nq38
            refine own_st st38 ?_
            show own_Go p.tables e below RR (T38.setTop (mkF m 142 #[.val (.long q1), .second, .val (.long q2), .second, .val (.long q3), .second, .val (.int p4), .val (.long v1), .second, .val (.long v2), .second, .val (.long v3), .second, .val (.long (0 : Int64)), .second, .val (.int v4), .val (.int (1 : Int32)), .val (.int (own_span q1 q2 (0 : Int64)))] [(.int (own_sign (own_span q1 q2 (0 : Int64))))]))
            refine own_st (fun _ k => XS.iload X38.here hx rfl (hb hby at_142) rfl k) ?_
            show own_Go p.tables e below RR (T38.setTop (mkF m 144 #[.val (.long q1), .second, .val (.long q2), .second, .val (.long q3), .second, .val (.int p4), .val (.long v1), .second, .val (.long v2), .second, .val (.long v3), .second, .val (.long (0 : Int64)), .second, .val (.int v4), .val (.int (1 : Int32)), .val (.int (own_span q1 q2 (0 : Int64)))] [(.int (1 : Int32)), (.int (own_sign (own_span q1 q2 (0 : Int64))))]))
            have hc144_39 : (own_sign (own_span q1 q2 (0 : Int64))) = (1 : Int32) := own_main gv1 gv2 gv3 (by decide) (by simp only [hc75_28, hc89_32, hc103_36, if_true, if_false])
            refine own_st (fun _ k => XS.icmpNo X38.here hx rfl (hb hby at_144) rfl (teq hc144_39).2 (XS.iconst X38.here hx rfl (hb hby at_147) (XS.goto X38.here hx rfl (pc0 := 148) (pc' := 152) rfl (hb hby at_148) (by decide) (by decide) k))) ?_
            show own_Go p.tables e below RR (T38.setTop (mkF m 152 #[.val (.long q1), .second, .val (.long q2), .second, .val (.long q3), .second, .val (.int p4), .val (.long v1), .second, .val (.long v2), .second, .val (.long v3), .second, .val (.long (0 : Int64)), .second, .val (.int v4), .val (.int (1 : Int32)), .val (.int (own_span q1 q2 (0 : Int64)))] [(.int (1 : Int32))]))
            obtain ⟨fs, hrt_, hrun, hended, hW, hsame⟩ := X38.leave (v := some (.int (1 : Int32))) (fun h => by rw [Bd.returns] at h; cases h)
            refine own_fin (retN X38 hx (t := .boolean) Bd.returns (by simp) (hb hby at_152) hrt_) (hRR _ ⟨_, hrun, hended, _, _, rfl, ?_, ⟨_, rfl⟩, hW, hsame.mono (by decide) (by decide)⟩)
            show own_Q0 Z q1 q2 q3 p4 h0 n0 _ T38.heap _
            rw [eq38]
            exact ⟨rfl, N38⟩
          · refine own_st (fun _ k => XS.ifYes X0.here hx rfl (pc0 := 103) (pc' := 112) rfl (hb hby at_103) rfl ((if0 _ _).trans (flt (fun q => hc103_36 ((lw_gt _ _).mp q))).2.2.2) (by decide) (by decide) (XS.lload X0.here hx rfl (hb hby at_112) rfl (XS.lconst X0.here hx rfl (hb hby at_114) (XS.lcmp X0.here hx rfl (hb hby at_115) rfl k)))) ?_
            show own_Go p.tables e below RR (s₁.setTop (mkF m 116 #[.val (.long q1), .second, .val (.long q2), .second, .val (.long q3), .second, .val (.int p4), .val (.long v1), .second, .val (.long v2), .second, .val (.long v3), .second, .val (.long (0 : Int64)), .second, .val (.int v4), .val (.long ((v4 - (2 : Int32)).toInt64)), .second] [(.int (lcmpW v3 (0 : Int64)))]))
            by_cases hc116_40 : (0 : Int64) < v3
            · refine own_st (fun _ k => XS.ifNo X0.here hx rfl (hb hby at_116) rfl ((if0 _ _).trans (tlt ((lw_gt _ _).mpr hc116_40)).2.2.2) (XS.iconst X0.here hx rfl (hb hby at_119) (XS.istore X0.here hx rfl (hb hby at_120) rfl (l' := #[.val (.long q1), .second, .val (.long q2), .second, .val (.long q3), .second, .val (.int p4), .val (.long v1), .second, .val (.long v2), .second, .val (.long v3), .second, .val (.long (0 : Int64)), .second, .val (.int v4), .val (.int (1 : Int32)), .unset]) rfl (XS.goto X0.here hx rfl (pc0 := 122) (pc' := 128) rfl (hb hby at_122) (by decide) (by decide) (XS.lloadN X0.here hx rfl (hb hby at_128) rfl (XS.lloadN X0.here hx rfl (hb hby at_129) rfl (XS.lload X0.here hx rfl (hb hby at_130) rfl k))))))) ?_
              show own_Go p.tables e below RR (s₁.setTop (mkF m 132 #[.val (.long q1), .second, .val (.long q2), .second, .val (.long q3), .second, .val (.int p4), .val (.long v1), .second, .val (.long v2), .second, .val (.long v3), .second, .val (.long (0 : Int64)), .second, .val (.int v4), .val (.int (1 : Int32)), .unset] [(.long (0 : Int64)), (.long q2), (.long q1)]))
              obtain ⟨_, _, ⟨T41, L41, k41, n41⟩, -, X41, ⟨Lc41, hQ41, l41, y41, z41⟩, st41⟩ := Jvm.LawKit.callS X0 hx (y := (⟨"com/example/vigilant_cells/vigilantcells/model/VersionRules", "compareSpan", "(JJJ)I"⟩ : MethodName)) hown (mvT hZ (hw _ (List.mem_of_getElem? (i := 2) rfl))) (mvT hZ (hw _ (List.mem_of_getElem? (i := 3) rfl))) (mvT hZ (hw _ (List.mem_of_getElem? (i := 4) rfl))) (mvT hZ (hw _ (List.mem_of_getElem? (i := 5) rfl))) (by decide) (backOf (W := 0) (own_rmS l Z a0 hw [] q1 q2 (0 : Int64) h0 n0 Z0 S_MAX_SPAN_SECONDS) hZ (hw _ (List.mem_of_getElem? (i := 5) rfl)) (hw _ (List.mem_of_getElem? (i := 4) rfl)) (by decide) (by decide)) (g := (mkF m 132 #[.val (.long q1), .second, .val (.long q2), .second, .val (.long q3), .second, .val (.int p4), .val (.long v1), .second, .val (.long v2), .second, .val (.long v3), .second, .val (.long (0 : Int64)), .second, .val (.int v4), .val (.int (1 : Int32)), .unset] [(.long (0 : Int64)), (.long q2), (.long q1)])) rfl (by rw [hml]; rfl) (argsL := [(.long q1), (.long q2), (.long (0 : Int64))]) (rest := []) (lenOf own_pd__JJJ_I rfl) rfl (by show 2 * 0 + _ ≤ _; exact Nat.le_of_eq rfl) (hb hby at_132) (fun _ _ => ⟨rfl, e0, (by decide : 0 + 0 ≤ _), (by decide : 0 + 0 ≤ _)⟩)
              dsimp only [Pt.U, Pt.locs, Pt.cells, Pt.slots] at X41 l41 y41 z41 st41 hQ41
              subst l41 y41 z41
              obtain ⟨rfl, Nq41, eq41⟩ := hQ41
              have N41 := Fr.app N0 Nq41
              refine own_st st41 ?_
              show own_Go p.tables e below RR (T41.setTop (mkF m 135 #[.val (.long q1), .second, .val (.long q2), .second, .val (.long q3), .second, .val (.int p4), .val (.long v1), .second, .val (.long v2), .second, .val (.long v3), .second, .val (.long (0 : Int64)), .second, .val (.int v4), .val (.int (1 : Int32)), .unset] [(.int (own_span q1 q2 (0 : Int64)))]))
              refine own_st (fun _ k => XS.istore X41.here hx rfl (hb hby at_135) rfl (l' := #[.val (.long q1), .second, .val (.long q2), .second, .val (.long q3), .second, .val (.int p4), .val (.long v1), .second, .val (.long v2), .second, .val (.long v3), .second, .val (.long (0 : Int64)), .second, .val (.int v4), .val (.int (1 : Int32)), .val (.int (own_span q1 q2 (0 : Int64)))]) rfl (XS.iload X41.here hx rfl (hb hby at_137) rfl k)) ?_
              show own_Go p.tables e below RR (T41.setTop (mkF m 139 #[.val (.long q1), .second, .val (.long q2), .second, .val (.long q3), .second, .val (.int p4), .val (.long v1), .second, .val (.long v2), .second, .val (.long v3), .second, .val (.long (0 : Int64)), .second, .val (.int v4), .val (.int (1 : Int32)), .val (.int (own_span q1 q2 (0 : Int64)))] [(.int (own_span q1 q2 (0 : Int64)))]))
              obtain ⟨_, _, ⟨T42, L42, k42, n42⟩, -, X42, ⟨Lc42, hQ42, l42, y42, z42⟩, st42⟩ := Jvm.LawKit.callS X41 hx (y := (⟨"com/example/vigilant_cells/vigilantcells/model/VersionRulesCompareSpanPinLaw", "sign", "(I)I"⟩ : MethodName)) hown (mvT hZ (hw _ (List.mem_of_getElem? (i := 17) rfl))) (mvT hZ (hw _ (List.mem_of_getElem? (i := 18) rfl))) (mvT hZ (hw _ (List.mem_of_getElem? (i := 19) rfl))) (mvT hZ (hw _ (List.mem_of_getElem? (i := 20) rfl))) (by decide) (backOf (W := 0) (own_rmG l Z a0 hw [] (own_span q1 q2 (0 : Int64)) h0 n0 Z0 ) hZ (hw _ (List.mem_of_getElem? (i := 20) rfl)) (hw _ (List.mem_of_getElem? (i := 19) rfl)) (by decide) (by decide)) (g := (mkF m 139 #[.val (.long q1), .second, .val (.long q2), .second, .val (.long q3), .second, .val (.int p4), .val (.long v1), .second, .val (.long v2), .second, .val (.long v3), .second, .val (.long (0 : Int64)), .second, .val (.int v4), .val (.int (1 : Int32)), .val (.int (own_span q1 q2 (0 : Int64)))] [(.int (own_span q1 q2 (0 : Int64)))])) rfl (by rw [hml]; rfl) (argsL := [(.int (own_span q1 q2 (0 : Int64)))]) (rest := []) (lenOf own_pd__I_I rfl) rfl (by show 2 * 0 + _ ≤ _; exact Nat.le_of_eq rfl) (hb hby at_139) (fun _ _ => ⟨rfl, eq41, (by decide : 0 + 0 ≤ _), (by decide : 0 + 0 ≤ _)⟩)
              dsimp only [Pt.U, Pt.locs, Pt.cells, Pt.slots] at X42 l42 y42 z42 st42 hQ42
              subst l42 y42 z42
              obtain ⟨rfl, Nq42, eq42⟩ := hQ42
              have N42 := Fr.app N41 Nq42
              refine own_st st42 ?_
              show own_Go p.tables e below RR (T42.setTop (mkF m 142 #[.val (.long q1), .second, .val (.long q2), .second, .val (.long q3), .second, .val (.int p4), .val (.long v1), .second, .val (.long v2), .second, .val (.long v3), .second, .val (.long (0 : Int64)), .second, .val (.int v4), .val (.int (1 : Int32)), .val (.int (own_span q1 q2 (0 : Int64)))] [(.int (own_sign (own_span q1 q2 (0 : Int64))))]))
              refine own_st (fun _ k => XS.iload X42.here hx rfl (hb hby at_142) rfl k) ?_
              show own_Go p.tables e below RR (T42.setTop (mkF m 144 #[.val (.long q1), .second, .val (.long q2), .second, .val (.long q3), .second, .val (.int p4), .val (.long v1), .second, .val (.long v2), .second, .val (.long v3), .second, .val (.long (0 : Int64)), .second, .val (.int v4), .val (.int (1 : Int32)), .val (.int (own_span q1 q2 (0 : Int64)))] [(.int (1 : Int32)), (.int (own_sign (own_span q1 q2 (0 : Int64))))]))
              have hc144_43 : (own_sign (own_span q1 q2 (0 : Int64))) = (1 : Int32) := own_main gv1 gv2 gv3 (by decide) (by simp only [hc75_28, hc89_32, hc103_36, hc116_40, if_true, if_false])
              refine own_st (fun _ k => XS.icmpNo X42.here hx rfl (hb hby at_144) rfl (teq hc144_43).2 (XS.iconst X42.here hx rfl (hb hby at_147) (XS.goto X42.here hx rfl (pc0 := 148) (pc' := 152) rfl (hb hby at_148) (by decide) (by decide) k))) ?_
              show own_Go p.tables e below RR (T42.setTop (mkF m 152 #[.val (.long q1), .second, .val (.long q2), .second, .val (.long q3), .second, .val (.int p4), .val (.long v1), .second, .val (.long v2), .second, .val (.long v3), .second, .val (.long (0 : Int64)), .second, .val (.int v4), .val (.int (1 : Int32)), .val (.int (own_span q1 q2 (0 : Int64)))] [(.int (1 : Int32))]))
              obtain ⟨fs, hrt_, hrun, hended, hW, hsame⟩ := X42.leave (v := some (.int (1 : Int32))) (fun h => by rw [Bd.returns] at h; cases h)
              refine own_fin (retN X42 hx (t := .boolean) Bd.returns (by simp) (hb hby at_152) hrt_) (hRR _ ⟨_, hrun, hended, _, _, rfl, ?_, ⟨_, rfl⟩, hW, hsame.mono (by decide) (by decide)⟩)
              show own_Q0 Z q1 q2 q3 p4 h0 n0 _ T42.heap _
              rw [eq42]
              exact ⟨rfl, N42⟩
            · refine own_st (fun _ k => XS.ifYes X0.here hx rfl (pc0 := 116) (pc' := 125) rfl (hb hby at_116) rfl ((if0 _ _).trans (flt (fun q => hc116_40 ((lw_gt _ _).mp q))).2.2.2) (by decide) (by decide) (XS.iconst X0.here hx rfl (hb hby at_125) (XS.istore X0.here hx rfl (hb hby at_126) rfl (l' := #[.val (.long q1), .second, .val (.long q2), .second, .val (.long q3), .second, .val (.int p4), .val (.long v1), .second, .val (.long v2), .second, .val (.long v3), .second, .val (.long (0 : Int64)), .second, .val (.int v4), .val (.int (0 : Int32)), .unset]) rfl (XS.lloadN X0.here hx rfl (hb hby at_128) rfl (XS.lloadN X0.here hx rfl (hb hby at_129) rfl (XS.lload X0.here hx rfl (hb hby at_130) rfl k)))))) ?_
              show own_Go p.tables e below RR (s₁.setTop (mkF m 132 #[.val (.long q1), .second, .val (.long q2), .second, .val (.long q3), .second, .val (.int p4), .val (.long v1), .second, .val (.long v2), .second, .val (.long v3), .second, .val (.long (0 : Int64)), .second, .val (.int v4), .val (.int (0 : Int32)), .unset] [(.long (0 : Int64)), (.long q2), (.long q1)]))
              obtain ⟨_, _, ⟨T44, L44, k44, n44⟩, -, X44, ⟨Lc44, hQ44, l44, y44, z44⟩, st44⟩ := Jvm.LawKit.callS X0 hx (y := (⟨"com/example/vigilant_cells/vigilantcells/model/VersionRules", "compareSpan", "(JJJ)I"⟩ : MethodName)) hown (mvT hZ (hw _ (List.mem_of_getElem? (i := 2) rfl))) (mvT hZ (hw _ (List.mem_of_getElem? (i := 3) rfl))) (mvT hZ (hw _ (List.mem_of_getElem? (i := 4) rfl))) (mvT hZ (hw _ (List.mem_of_getElem? (i := 5) rfl))) (by decide) (backOf (W := 0) (own_rmS l Z a0 hw [] q1 q2 (0 : Int64) h0 n0 Z0 S_MAX_SPAN_SECONDS) hZ (hw _ (List.mem_of_getElem? (i := 5) rfl)) (hw _ (List.mem_of_getElem? (i := 4) rfl)) (by decide) (by decide)) (g := (mkF m 132 #[.val (.long q1), .second, .val (.long q2), .second, .val (.long q3), .second, .val (.int p4), .val (.long v1), .second, .val (.long v2), .second, .val (.long v3), .second, .val (.long (0 : Int64)), .second, .val (.int v4), .val (.int (0 : Int32)), .unset] [(.long (0 : Int64)), (.long q2), (.long q1)])) rfl (by rw [hml]; rfl) (argsL := [(.long q1), (.long q2), (.long (0 : Int64))]) (rest := []) (lenOf own_pd__JJJ_I rfl) rfl (by show 2 * 0 + _ ≤ _; exact Nat.le_of_eq rfl) (hb hby at_132) (fun _ _ => ⟨rfl, e0, (by decide : 0 + 0 ≤ _), (by decide : 0 + 0 ≤ _)⟩)
              dsimp only [Pt.U, Pt.locs, Pt.cells, Pt.slots] at X44 l44 y44 z44 st44 hQ44
              subst l44 y44 z44
              obtain ⟨rfl, Nq44, eq44⟩ := hQ44
              have N44 := Fr.app N0 Nq44
              refine own_st st44 ?_
              show own_Go p.tables e below RR (T44.setTop (mkF m 135 #[.val (.long q1), .second, .val (.long q2), .second, .val (.long q3), .second, .val (.int p4), .val (.long v1), .second, .val (.long v2), .second, .val (.long v3), .second, .val (.long (0 : Int64)), .second, .val (.int v4), .val (.int (0 : Int32)), .unset] [(.int (own_span q1 q2 (0 : Int64)))]))
              refine own_st (fun _ k => XS.istore X44.here hx rfl (hb hby at_135) rfl (l' := #[.val (.long q1), .second, .val (.long q2), .second, .val (.long q3), .second, .val (.int p4), .val (.long v1), .second, .val (.long v2), .second, .val (.long v3), .second, .val (.long (0 : Int64)), .second, .val (.int v4), .val (.int (0 : Int32)), .val (.int (own_span q1 q2 (0 : Int64)))]) rfl (XS.iload X44.here hx rfl (hb hby at_137) rfl k)) ?_
              show own_Go p.tables e below RR (T44.setTop (mkF m 139 #[.val (.long q1), .second, .val (.long q2), .second, .val (.long q3), .second, .val (.int p4), .val (.long v1), .second, .val (.long v2), .second, .val (.long v3), .second, .val (.long (0 : Int64)), .second, .val (.int v4), .val (.int (0 : Int32)), .val (.int (own_span q1 q2 (0 : Int64)))] [(.int (own_span q1 q2 (0 : Int64)))]))
              obtain ⟨_, _, ⟨T45, L45, k45, n45⟩, -, X45, ⟨Lc45, hQ45, l45, y45, z45⟩, st45⟩ := Jvm.LawKit.callS X44 hx (y := (⟨"com/example/vigilant_cells/vigilantcells/model/VersionRulesCompareSpanPinLaw", "sign", "(I)I"⟩ : MethodName)) hown (mvT hZ (hw _ (List.mem_of_getElem? (i := 17) rfl))) (mvT hZ (hw _ (List.mem_of_getElem? (i := 18) rfl))) (mvT hZ (hw _ (List.mem_of_getElem? (i := 19) rfl))) (mvT hZ (hw _ (List.mem_of_getElem? (i := 20) rfl))) (by decide) (backOf (W := 0) (own_rmG l Z a0 hw [] (own_span q1 q2 (0 : Int64)) h0 n0 Z0 ) hZ (hw _ (List.mem_of_getElem? (i := 20) rfl)) (hw _ (List.mem_of_getElem? (i := 19) rfl)) (by decide) (by decide)) (g := (mkF m 139 #[.val (.long q1), .second, .val (.long q2), .second, .val (.long q3), .second, .val (.int p4), .val (.long v1), .second, .val (.long v2), .second, .val (.long v3), .second, .val (.long (0 : Int64)), .second, .val (.int v4), .val (.int (0 : Int32)), .val (.int (own_span q1 q2 (0 : Int64)))] [(.int (own_span q1 q2 (0 : Int64)))])) rfl (by rw [hml]; rfl) (argsL := [(.int (own_span q1 q2 (0 : Int64)))]) (rest := []) (lenOf own_pd__I_I rfl) rfl (by show 2 * 0 + _ ≤ _; exact Nat.le_of_eq rfl) (hb hby at_139) (fun _ _ => ⟨rfl, eq44, (by decide : 0 + 0 ≤ _), (by decide : 0 + 0 ≤ _)⟩)
              dsimp only [Pt.U, Pt.locs, Pt.cells, Pt.slots] at X45 l45 y45 z45 st45 hQ45
              subst l45 y45 z45
              obtain ⟨rfl, Nq45, eq45⟩ := hQ45
              have N45 := Fr.app N44 Nq45
              refine own_st st45 ?_
              show own_Go p.tables e below RR (T45.setTop (mkF m 142 #[.val (.long q1), .second, .val (.long q2), .second, .val (.long q3), .second, .val (.int p4), .val (.long v1), .second, .val (.long v2), .second, .val (.long v3), .second, .val (.long (0 : Int64)), .second, .val (.int v4), .val (.int (0 : Int32)), .val (.int (own_span q1 q2 (0 : Int64)))] [(.int (own_sign (own_span q1 q2 (0 : Int64))))]))
              refine own_st (fun _ k => XS.iload X45.here hx rfl (hb hby at_142) rfl k) ?_
              show own_Go p.tables e below RR (T45.setTop (mkF m 144 #[.val (.long q1), .second, .val (.long q2), .second, .val (.long q3), .second, .val (.int p4), .val (.long v1), .second, .val (.long v2), .second, .val (.long v3), .second, .val (.long (0 : Int64)), .second, .val (.int v4), .val (.int (0 : Int32)), .val (.int (own_span q1 q2 (0 : Int64)))] [(.int (0 : Int32)), (.int (own_sign (own_span q1 q2 (0 : Int64))))]))
              have hc144_46 : (own_sign (own_span q1 q2 (0 : Int64))) = (0 : Int32) := own_main gv1 gv2 gv3 (by decide) (by simp only [hc75_28, hc89_32, hc103_36, hc116_40, if_true, if_false])
              refine own_st (fun _ k => XS.icmpNo X45.here hx rfl (hb hby at_144) rfl (teq hc144_46).2 (XS.iconst X45.here hx rfl (hb hby at_147) (XS.goto X45.here hx rfl (pc0 := 148) (pc' := 152) rfl (hb hby at_148) (by decide) (by decide) k))) ?_
              show own_Go p.tables e below RR (T45.setTop (mkF m 152 #[.val (.long q1), .second, .val (.long q2), .second, .val (.long q3), .second, .val (.int p4), .val (.long v1), .second, .val (.long v2), .second, .val (.long v3), .second, .val (.long (0 : Int64)), .second, .val (.int v4), .val (.int (0 : Int32)), .val (.int (own_span q1 q2 (0 : Int64)))] [(.int (1 : Int32))]))
              obtain ⟨fs, hrt_, hrun, hended, hW, hsame⟩ := X45.leave (v := some (.int (1 : Int32))) (fun h => by rw [Bd.returns] at h; cases h)
              refine own_fin (retN X45 hx (t := .boolean) Bd.returns (by simp) (hb hby at_152) hrt_) (hRR _ ⟨_, hrun, hended, _, _, rfl, ?_, ⟨_, rfl⟩, hW, hsame.mono (by decide) (by decide)⟩)
              show own_Q0 Z q1 q2 q3 p4 h0 n0 _ T45.heap _
              rw [eq45]
              exact ⟨rfl, N45⟩
    · refine own_st (fun _ k => XS.ifYes X0.here hx rfl (pc0 := 66) (pc' := 72) rfl (hb hby at_66) rfl ((if0 _ _).trans (flt (fun q => hc66_27 ((lw_lt _ _).mp q))).2.1) (by decide) (by decide) (XS.lloadN X0.here hx rfl (hb hby at_72) rfl (XS.lloadN X0.here hx rfl (hb hby at_73) rfl (XS.lcmp X0.here hx rfl (hb hby at_74) rfl k)))) ?_
      show own_Go p.tables e below RR (s₁.setTop (mkF m 75 #[.val (.long q1), .second, .val (.long q2), .second, .val (.long q3), .second, .val (.int p4), .val (.long v1), .second, .val (.long v2), .second, .val (.long v3), .second, .val (.long v26), .second, .val (.int v4), .val (.long ((v4 - (2 : Int32)).toInt64)), .second] [(.int (lcmpW q1 q2))]))
      by_cases hc75_47 : q1 < q2
      · refine own_st (fun _ k => XS.ifNo X0.here hx rfl (hb hby at_75) rfl ((if0 _ _).trans (tlt ((lw_lt _ _).mpr hc75_47)).2.1) (XS.iconst X0.here hx rfl (hb hby at_78) (XS.istore X0.here hx rfl (hb hby at_79) rfl (l' := #[.val (.long q1), .second, .val (.long q2), .second, .val (.long q3), .second, .val (.int p4), .val (.long v1), .second, .val (.long v2), .second, .val (.long v3), .second, .val (.long v26), .second, .val (.int v4), .val (.int (-1 : Int32)), .unset]) rfl (XS.goto X0.here hx rfl (pc0 := 81) (pc' := 128) rfl (hb hby at_81) (by decide) (by decide) (XS.lloadN X0.here hx rfl (hb hby at_128) rfl (XS.lloadN X0.here hx rfl (hb hby at_129) rfl (XS.lload X0.here hx rfl (hb hby at_130) rfl k))))))) ?_
        show own_Go p.tables e below RR (s₁.setTop (mkF m 132 #[.val (.long q1), .second, .val (.long q2), .second, .val (.long q3), .second, .val (.int p4), .val (.long v1), .second, .val (.long v2), .second, .val (.long v3), .second, .val (.long v26), .second, .val (.int v4), .val (.int (-1 : Int32)), .unset] [(.long v26), (.long q2), (.long q1)]))
        obtain ⟨_, _, ⟨T48, L48, k48, n48⟩, -, X48, ⟨Lc48, hQ48, l48, y48, z48⟩, st48⟩ := Jvm.LawKit.callS X0 hx (y := (⟨"com/example/vigilant_cells/vigilantcells/model/VersionRules", "compareSpan", "(JJJ)I"⟩ : MethodName)) hown (mvT hZ (hw _ (List.mem_of_getElem? (i := 2) rfl))) (mvT hZ (hw _ (List.mem_of_getElem? (i := 3) rfl))) (mvT hZ (hw _ (List.mem_of_getElem? (i := 4) rfl))) (mvT hZ (hw _ (List.mem_of_getElem? (i := 5) rfl))) (by decide) (backOf (W := 0) (own_rmS l Z a0 hw [] q1 q2 v26 h0 n0 Z0 S_MAX_SPAN_SECONDS) hZ (hw _ (List.mem_of_getElem? (i := 5) rfl)) (hw _ (List.mem_of_getElem? (i := 4) rfl)) (by decide) (by decide)) (g := (mkF m 132 #[.val (.long q1), .second, .val (.long q2), .second, .val (.long q3), .second, .val (.int p4), .val (.long v1), .second, .val (.long v2), .second, .val (.long v3), .second, .val (.long v26), .second, .val (.int v4), .val (.int (-1 : Int32)), .unset] [(.long v26), (.long q2), (.long q1)])) rfl (by rw [hml]; rfl) (argsL := [(.long q1), (.long q2), (.long v26)]) (rest := []) (lenOf own_pd__JJJ_I rfl) rfl (by show 2 * 0 + _ ≤ _; exact Nat.le_of_eq rfl) (hb hby at_132) (fun _ _ => ⟨rfl, e0, (by decide : 0 + 0 ≤ _), (by decide : 0 + 0 ≤ _)⟩)
        dsimp only [Pt.U, Pt.locs, Pt.cells, Pt.slots] at X48 l48 y48 z48 st48 hQ48
        subst l48 y48 z48
        obtain ⟨rfl, Nq48, eq48⟩ := hQ48
        have N48 := Fr.app N0 Nq48
        refine own_st st48 ?_
        show own_Go p.tables e below RR (T48.setTop (mkF m 135 #[.val (.long q1), .second, .val (.long q2), .second, .val (.long q3), .second, .val (.int p4), .val (.long v1), .second, .val (.long v2), .second, .val (.long v3), .second, .val (.long v26), .second, .val (.int v4), .val (.int (-1 : Int32)), .unset] [(.int (own_span q1 q2 v26))]))
        refine own_st (fun _ k => XS.istore X48.here hx rfl (hb hby at_135) rfl (l' := #[.val (.long q1), .second, .val (.long q2), .second, .val (.long q3), .second, .val (.int p4), .val (.long v1), .second, .val (.long v2), .second, .val (.long v3), .second, .val (.long v26), .second, .val (.int v4), .val (.int (-1 : Int32)), .val (.int (own_span q1 q2 v26))]) rfl (XS.iload X48.here hx rfl (hb hby at_137) rfl k)) ?_
        show own_Go p.tables e below RR (T48.setTop (mkF m 139 #[.val (.long q1), .second, .val (.long q2), .second, .val (.long q3), .second, .val (.int p4), .val (.long v1), .second, .val (.long v2), .second, .val (.long v3), .second, .val (.long v26), .second, .val (.int v4), .val (.int (-1 : Int32)), .val (.int (own_span q1 q2 v26))] [(.int (own_span q1 q2 v26))]))
        obtain ⟨_, _, ⟨T49, L49, k49, n49⟩, -, X49, ⟨Lc49, hQ49, l49, y49, z49⟩, st49⟩ := Jvm.LawKit.callS X48 hx (y := (⟨"com/example/vigilant_cells/vigilantcells/model/VersionRulesCompareSpanPinLaw", "sign", "(I)I"⟩ : MethodName)) hown (mvT hZ (hw _ (List.mem_of_getElem? (i := 17) rfl))) (mvT hZ (hw _ (List.mem_of_getElem? (i := 18) rfl))) (mvT hZ (hw _ (List.mem_of_getElem? (i := 19) rfl))) (mvT hZ (hw _ (List.mem_of_getElem? (i := 20) rfl))) (by decide) (backOf (W := 0) (own_rmG l Z a0 hw [] (own_span q1 q2 v26) h0 n0 Z0 ) hZ (hw _ (List.mem_of_getElem? (i := 20) rfl)) (hw _ (List.mem_of_getElem? (i := 19) rfl)) (by decide) (by decide)) (g := (mkF m 139 #[.val (.long q1), .second, .val (.long q2), .second, .val (.long q3), .second, .val (.int p4), .val (.long v1), .second, .val (.long v2), .second, .val (.long v3), .second, .val (.long v26), .second, .val (.int v4), .val (.int (-1 : Int32)), .val (.int (own_span q1 q2 v26))] [(.int (own_span q1 q2 v26))])) rfl (by rw [hml]; rfl) (argsL := [(.int (own_span q1 q2 v26))]) (rest := []) (lenOf own_pd__I_I rfl) rfl (by show 2 * 0 + _ ≤ _; exact Nat.le_of_eq rfl) (hb hby at_139) (fun _ _ => ⟨rfl, eq48, (by decide : 0 + 0 ≤ _), (by decide : 0 + 0 ≤ _)⟩)
        dsimp only [Pt.U, Pt.locs, Pt.cells, Pt.slots] at X49 l49 y49 z49 st49 hQ49
        subst l49 y49 z49
        obtain ⟨rfl, Nq49, eq49⟩ := hQ49
        have N49 := Fr.app N48 Nq49
        refine own_st st49 ?_
        show own_Go p.tables e below RR (T49.setTop (mkF m 142 #[.val (.long q1), .second, .val (.long q2), .second, .val (.long q3), .second, .val (.int p4), .val (.long v1), .second, .val (.long v2), .second, .val (.long v3), .second, .val (.long v26), .second, .val (.int v4), .val (.int (-1 : Int32)), .val (.int (own_span q1 q2 v26))] [(.int (own_sign (own_span q1 q2 v26)))]))
        refine own_st (fun _ k => XS.iload X49.here hx rfl (hb hby at_142) rfl k) ?_
        show own_Go p.tables e below RR (T49.setTop (mkF m 144 #[.val (.long q1), .second, .val (.long q2), .second, .val (.long q3), .second, .val (.int p4), .val (.long v1), .second, .val (.long v2), .second, .val (.long v3), .second, .val (.long v26), .second, .val (.int v4), .val (.int (-1 : Int32)), .val (.int (own_span q1 q2 v26))] [(.int (-1 : Int32)), (.int (own_sign (own_span q1 q2 v26)))]))
        have hc144_50 : (own_sign (own_span q1 q2 v26)) = (-1 : Int32) := own_main gv1 gv2 gv3 (own_nn2 hc66_27) (by simp only [hc75_47, if_true, if_false])
        refine own_st (fun _ k => XS.icmpNo X49.here hx rfl (hb hby at_144) rfl (teq hc144_50).2 (XS.iconst X49.here hx rfl (hb hby at_147) (XS.goto X49.here hx rfl (pc0 := 148) (pc' := 152) rfl (hb hby at_148) (by decide) (by decide) k))) ?_
        show own_Go p.tables e below RR (T49.setTop (mkF m 152 #[.val (.long q1), .second, .val (.long q2), .second, .val (.long q3), .second, .val (.int p4), .val (.long v1), .second, .val (.long v2), .second, .val (.long v3), .second, .val (.long v26), .second, .val (.int v4), .val (.int (-1 : Int32)), .val (.int (own_span q1 q2 v26))] [(.int (1 : Int32))]))
        obtain ⟨fs, hrt_, hrun, hended, hW, hsame⟩ := X49.leave (v := some (.int (1 : Int32))) (fun h => by rw [Bd.returns] at h; cases h)
        refine own_fin (retN X49 hx (t := .boolean) Bd.returns (by simp) (hb hby at_152) hrt_) (hRR _ ⟨_, hrun, hended, _, _, rfl, ?_, ⟨_, rfl⟩, hW, hsame.mono (by decide) (by decide)⟩)
        show own_Q0 Z q1 q2 q3 p4 h0 n0 _ T49.heap _
        rw [eq49]
        exact ⟨rfl, N49⟩
      · refine own_st (fun _ k => XS.ifYes X0.here hx rfl (pc0 := 75) (pc' := 84) rfl (hb hby at_75) rfl ((if0 _ _).trans (flt (fun q => hc75_47 ((lw_lt _ _).mp q))).2.1) (by decide) (by decide) (XS.lload X0.here hx rfl (hb hby at_84) rfl (XS.lload X0.here hx rfl (hb hby at_86) rfl (XS.lcmp X0.here hx rfl (hb hby at_88) rfl k)))) ?_
        show own_Go p.tables e below RR (s₁.setTop (mkF m 89 #[.val (.long q1), .second, .val (.long q2), .second, .val (.long q3), .second, .val (.int p4), .val (.long v1), .second, .val (.long v2), .second, .val (.long v3), .second, .val (.long v26), .second, .val (.int v4), .val (.long ((v4 - (2 : Int32)).toInt64)), .second] [(.int (lcmpW v2 v26))]))
        by_cases hc89_51 : v2 < v26
        · refine own_st (fun _ k => XS.ifNo X0.here hx rfl (hb hby at_89) rfl ((if0 _ _).trans (tlt ((lw_lt _ _).mpr hc89_51)).2.1) (XS.iconst X0.here hx rfl (hb hby at_92) (XS.istore X0.here hx rfl (hb hby at_93) rfl (l' := #[.val (.long q1), .second, .val (.long q2), .second, .val (.long q3), .second, .val (.int p4), .val (.long v1), .second, .val (.long v2), .second, .val (.long v3), .second, .val (.long v26), .second, .val (.int v4), .val (.int (-1 : Int32)), .unset]) rfl (XS.goto X0.here hx rfl (pc0 := 95) (pc' := 128) rfl (hb hby at_95) (by decide) (by decide) (XS.lloadN X0.here hx rfl (hb hby at_128) rfl (XS.lloadN X0.here hx rfl (hb hby at_129) rfl (XS.lload X0.here hx rfl (hb hby at_130) rfl k))))))) ?_
          show own_Go p.tables e below RR (s₁.setTop (mkF m 132 #[.val (.long q1), .second, .val (.long q2), .second, .val (.long q3), .second, .val (.int p4), .val (.long v1), .second, .val (.long v2), .second, .val (.long v3), .second, .val (.long v26), .second, .val (.int v4), .val (.int (-1 : Int32)), .unset] [(.long v26), (.long q2), (.long q1)]))
          obtain ⟨_, _, ⟨T52, L52, k52, n52⟩, -, X52, ⟨Lc52, hQ52, l52, y52, z52⟩, st52⟩ := Jvm.LawKit.callS X0 hx (y := (⟨"com/example/vigilant_cells/vigilantcells/model/VersionRules", "compareSpan", "(JJJ)I"⟩ : MethodName)) hown (mvT hZ (hw _ (List.mem_of_getElem? (i := 2) rfl))) (mvT hZ (hw _ (List.mem_of_getElem? (i := 3) rfl))) (mvT hZ (hw _ (List.mem_of_getElem? (i := 4) rfl))) (mvT hZ (hw _ (List.mem_of_getElem? (i := 5) rfl))) (by decide) (backOf (W := 0) (own_rmS l Z a0 hw [] q1 q2 v26 h0 n0 Z0 S_MAX_SPAN_SECONDS) hZ (hw _ (List.mem_of_getElem? (i := 5) rfl)) (hw _ (List.mem_of_getElem? (i := 4) rfl)) (by decide) (by decide)) (g := (mkF m 132 #[.val (.long q1), .second, .val (.long q2), .second, .val (.long q3), .second, .val (.int p4), .val (.long v1), .second, .val (.long v2), .second, .val (.long v3), .second, .val (.long v26), .second, .val (.int v4), .val (.int (-1 : Int32)), .unset] [(.long v26), (.long q2), (.long q1)])) rfl (by rw [hml]; rfl) (argsL := [(.long q1), (.long q2), (.long v26)]) (rest := []) (lenOf own_pd__JJJ_I rfl) rfl (by show 2 * 0 + _ ≤ _; exact Nat.le_of_eq rfl) (hb hby at_132) (fun _ _ => ⟨rfl, e0, (by decide : 0 + 0 ≤ _), (by decide : 0 + 0 ≤ _)⟩)
          dsimp only [Pt.U, Pt.locs, Pt.cells, Pt.slots] at X52 l52 y52 z52 st52 hQ52
          subst l52 y52 z52
          obtain ⟨rfl, Nq52, eq52⟩ := hQ52
          have N52 := Fr.app N0 Nq52
          refine own_st st52 ?_
          show own_Go p.tables e below RR (T52.setTop (mkF m 135 #[.val (.long q1), .second, .val (.long q2), .second, .val (.long q3), .second, .val (.int p4), .val (.long v1), .second, .val (.long v2), .second, .val (.long v3), .second, .val (.long v26), .second, .val (.int v4), .val (.int (-1 : Int32)), .unset] [(.int (own_span q1 q2 v26))]))
          refine own_st (fun _ k => XS.istore X52.here hx rfl (hb hby at_135) rfl (l' := #[.val (.long q1), .second, .val (.long q2), .second, .val (.long q3), .second, .val (.int p4), .val (.long v1), .second, .val (.long v2), .second, .val (.long v3), .second, .val (.long v26), .second, .val (.int v4), .val (.int (-1 : Int32)), .val (.int (own_span q1 q2 v26))]) rfl (XS.iload X52.here hx rfl (hb hby at_137) rfl k)) ?_
          show own_Go p.tables e below RR (T52.setTop (mkF m 139 #[.val (.long q1), .second, .val (.long q2), .second, .val (.long q3), .second, .val (.int p4), .val (.long v1), .second, .val (.long v2), .second, .val (.long v3), .second, .val (.long v26), .second, .val (.int v4), .val (.int (-1 : Int32)), .val (.int (own_span q1 q2 v26))] [(.int (own_span q1 q2 v26))]))
          obtain ⟨_, _, ⟨T53, L53, k53, n53⟩, -, X53, ⟨Lc53, hQ53, l53, y53, z53⟩, st53⟩ := Jvm.LawKit.callS X52 hx (y := (⟨"com/example/vigilant_cells/vigilantcells/model/VersionRulesCompareSpanPinLaw", "sign", "(I)I"⟩ : MethodName)) hown (mvT hZ (hw _ (List.mem_of_getElem? (i := 17) rfl))) (mvT hZ (hw _ (List.mem_of_getElem? (i := 18) rfl))) (mvT hZ (hw _ (List.mem_of_getElem? (i := 19) rfl))) (mvT hZ (hw _ (List.mem_of_getElem? (i := 20) rfl))) (by decide) (backOf (W := 0) (own_rmG l Z a0 hw [] (own_span q1 q2 v26) h0 n0 Z0 ) hZ (hw _ (List.mem_of_getElem? (i := 20) rfl)) (hw _ (List.mem_of_getElem? (i := 19) rfl)) (by decide) (by decide)) (g := (mkF m 139 #[.val (.long q1), .second, .val (.long q2), .second, .val (.long q3), .second, .val (.int p4), .val (.long v1), .second, .val (.long v2), .second, .val (.long v3), .second, .val (.long v26), .second, .val (.int v4), .val (.int (-1 : Int32)), .val (.int (own_span q1 q2 v26))] [(.int (own_span q1 q2 v26))])) rfl (by rw [hml]; rfl) (argsL := [(.int (own_span q1 q2 v26))]) (rest := []) (lenOf own_pd__I_I rfl) rfl (by show 2 * 0 + _ ≤ _; exact Nat.le_of_eq rfl) (hb hby at_139) (fun _ _ => ⟨rfl, eq52, (by decide : 0 + 0 ≤ _), (by decide : 0 + 0 ≤ _)⟩)
          dsimp only [Pt.U, Pt.locs, Pt.cells, Pt.slots] at X53 l53 y53 z53 st53 hQ53
          subst l53 y53 z53
          obtain ⟨rfl, Nq53, eq53⟩ := hQ53
          have N53 := Fr.app N52 Nq53
          refine own_st st53 ?_
          show own_Go p.tables e below RR (T53.setTop (mkF m 142 #[.val (.long q1), .second, .val (.long q2), .second, .val (.long q3), .second, .val (.int p4), .val (.long v1), .second, .val (.long v2), .second, .val (.long v3), .second, .val (.long v26), .second, .val (.int v4), .val (.int (-1 : Int32)), .val (.int (own_span q1 q2 v26))] [(.int (own_sign (own_span q1 q2 v26)))]))
          refine own_st (fun _ k => XS.iload X53.here hx rfl (hb hby at_142) rfl k) ?_
          show own_Go p.tables e below RR (T53.setTop (mkF m 144 #[.val (.long q1), .second, .val (.long q2), .second, .val (.long q3), .second, .val (.int p4), .val (.long v1), .second, .val (.long v2), .second, .val (.long v3), .second, .val (.long v26), .second, .val (.int v4), .val (.int (-1 : Int32)), .val (.int (own_span q1 q2 v26))] [(.int (-1 : Int32)), (.int (own_sign (own_span q1 q2 v26)))]))
          have hc144_54 : (own_sign (own_span q1 q2 v26)) = (-1 : Int32) := own_main gv1 gv2 gv3 (own_nn2 hc66_27) (by simp only [hc75_47, hc89_51, if_true, if_false])
          refine own_st (fun _ k => XS.icmpNo X53.here hx rfl (hb hby at_144) rfl (teq hc144_54).2 (XS.iconst X53.here hx rfl (hb hby at_147) (XS.goto X53.here hx rfl (pc0 := 148) (pc' := 152) rfl (hb hby at_148) (by decide) (by decide) k))) ?_
          show own_Go p.tables e below RR (T53.setTop (mkF m 152 #[.val (.long q1), .second, .val (.long q2), .second, .val (.long q3), .second, .val (.int p4), .val (.long v1), .second, .val (.long v2), .second, .val (.long v3), .second, .val (.long v26), .second, .val (.int v4), .val (.int (-1 : Int32)), .val (.int (own_span q1 q2 v26))] [(.int (1 : Int32))]))
          obtain ⟨fs, hrt_, hrun, hended, hW, hsame⟩ := X53.leave (v := some (.int (1 : Int32))) (fun h => by rw [Bd.returns] at h; cases h)
          refine own_fin (retN X53 hx (t := .boolean) Bd.returns (by simp) (hb hby at_152) hrt_) (hRR _ ⟨_, hrun, hended, _, _, rfl, ?_, ⟨_, rfl⟩, hW, hsame.mono (by decide) (by decide)⟩)
          show own_Q0 Z q1 q2 q3 p4 h0 n0 _ T53.heap _
          rw [eq53]
          exact ⟨rfl, N53⟩
        · refine own_st (fun _ k => XS.ifYes X0.here hx rfl (pc0 := 89) (pc' := 98) rfl (hb hby at_89) rfl ((if0 _ _).trans (flt (fun q => hc89_51 ((lw_lt _ _).mp q))).2.1) (by decide) (by decide) (XS.lload X0.here hx rfl (hb hby at_98) rfl (XS.lload X0.here hx rfl (hb hby at_100) rfl (XS.lcmp X0.here hx rfl (hb hby at_102) rfl k)))) ?_
          show own_Go p.tables e below RR (s₁.setTop (mkF m 103 #[.val (.long q1), .second, .val (.long q2), .second, .val (.long q3), .second, .val (.int p4), .val (.long v1), .second, .val (.long v2), .second, .val (.long v3), .second, .val (.long v26), .second, .val (.int v4), .val (.long ((v4 - (2 : Int32)).toInt64)), .second] [(.int (lcmpW v2 v26))]))
          by_cases hc103_55 : v26 < v2
          · refine own_st (fun _ k => XS.ifNo X0.here hx rfl (hb hby at_103) rfl ((if0 _ _).trans (tlt ((lw_gt _ _).mpr hc103_55)).2.2.2) (XS.iconst X0.here hx rfl (hb hby at_106) (XS.istore X0.here hx rfl (hb hby at_107) rfl (l' := #[.val (.long q1), .second, .val (.long q2), .second, .val (.long q3), .second, .val (.int p4), .val (.long v1), .second, .val (.long v2), .second, .val (.long v3), .second, .val (.long v26), .second, .val (.int v4), .val (.int (1 : Int32)), .unset]) rfl (XS.goto X0.here hx rfl (pc0 := 109) (pc' := 128) rfl (hb hby at_109) (by decide) (by decide) (XS.lloadN X0.here hx rfl (hb hby at_128) rfl (XS.lloadN X0.here hx rfl (hb hby at_129) rfl (XS.lload X0.here hx rfl (hb hby at_130) rfl k))))))) ?_
            show own_Go p.tables e below RR (s₁.setTop (mkF m 132 #[.val (.long q1), .second, .val (.long q2), .second, .val (.long q3), .second, .val (.int p4), .val (.long v1), .second, .val (.long v2), .second, .val (.long v3), .second, .val (.long v26), .second, .val (.int v4), .val (.int (1 : Int32)), .unset] [(.long v26), (.long q2), (.long q1)]))
            obtain ⟨_, _, ⟨T56, L56, k56, n56⟩, -, X56, ⟨Lc56, hQ56, l56, y56, z56⟩, st56⟩ := Jvm.LawKit.callS X0 hx (y := (⟨"com/example/vigilant_cells/vigilantcells/model/VersionRules", "compareSpan", "(JJJ)I"⟩ : MethodName)) hown (mvT hZ (hw _ (List.mem_of_getElem? (i := 2) rfl))) (mvT hZ (hw _ (List.mem_of_getElem? (i := 3) rfl))) (mvT hZ (hw _ (List.mem_of_getElem? (i := 4) rfl))) (mvT hZ (hw _ (List.mem_of_getElem? (i := 5) rfl))) (by decide) (backOf (W := 0) (own_rmS l Z a0 hw [] q1 q2 v26 h0 n0 Z0 S_MAX_SPAN_SECONDS) hZ (hw _ (List.mem_of_getElem? (i := 5) rfl)) (hw _ (List.mem_of_getElem? (i := 4) rfl)) (by decide) (by decide)) (g := (mkF m 132 #[.val (.long q1), .second, .val (.long q2), .second, .val (.long q3), .second, .val (.int p4), .val (.long v1), .second, .val (.long v2), .second, .val (.long v3), .second, .val (.long v26), .second, .val (.int v4), .val (.int (1 : Int32)), .unset] [(.long v26), (.long q2), (.long q1)])) rfl (by rw [hml]; rfl) (argsL := [(.long q1), (.long q2), (.long v26)]) (rest := []) (lenOf own_pd__JJJ_I rfl) rfl (by show 2 * 0 + _ ≤ _; exact Nat.le_of_eq rfl) (hb hby at_132) (fun _ _ => ⟨rfl, e0, (by decide : 0 + 0 ≤ _), (by decide : 0 + 0 ≤ _)⟩)
            dsimp only [Pt.U, Pt.locs, Pt.cells, Pt.slots] at X56 l56 y56 z56 st56 hQ56
            subst l56 y56 z56
            obtain ⟨rfl, Nq56, eq56⟩ := hQ56
            have N56 := Fr.app N0 Nq56
            refine own_st st56 ?_
            show own_Go p.tables e below RR (T56.setTop (mkF m 135 #[.val (.long q1), .second, .val (.long q2), .second, .val (.long q3), .second, .val (.int p4), .val (.long v1), .second, .val (.long v2), .second, .val (.long v3), .second, .val (.long v26), .second, .val (.int v4), .val (.int (1 : Int32)), .unset] [(.int (own_span q1 q2 v26))]))
            refine own_st (fun _ k => XS.istore X56.here hx rfl (hb hby at_135) rfl (l' := #[.val (.long q1), .second, .val (.long q2), .second, .val (.long q3), .second, .val (.int p4), .val (.long v1), .second, .val (.long v2), .second, .val (.long v3), .second, .val (.long v26), .second, .val (.int v4), .val (.int (1 : Int32)), .val (.int (own_span q1 q2 v26))]) rfl (XS.iload X56.here hx rfl (hb hby at_137) rfl k)) ?_
            show own_Go p.tables e below RR (T56.setTop (mkF m 139 #[.val (.long q1), .second, .val (.long q2), .second, .val (.long q3), .second, .val (.int p4), .val (.long v1), .second, .val (.long v2), .second, .val (.long v3), .second, .val (.long v26), .second, .val (.int v4), .val (.int (1 : Int32)), .val (.int (own_span q1 q2 v26))] [(.int (own_span q1 q2 v26))]))
            obtain ⟨_, _, ⟨T57, L57, k57, n57⟩, -, X57, ⟨Lc57, hQ57, l57, y57, z57⟩, st57⟩ := Jvm.LawKit.callS X56 hx (y := (⟨"com/example/vigilant_cells/vigilantcells/model/VersionRulesCompareSpanPinLaw", "sign", "(I)I"⟩ : MethodName)) hown (mvT hZ (hw _ (List.mem_of_getElem? (i := 17) rfl))) (mvT hZ (hw _ (List.mem_of_getElem? (i := 18) rfl))) (mvT hZ (hw _ (List.mem_of_getElem? (i := 19) rfl))) (mvT hZ (hw _ (List.mem_of_getElem? (i := 20) rfl))) (by decide) (backOf (W := 0) (own_rmG l Z a0 hw [] (own_span q1 q2 v26) h0 n0 Z0 ) hZ (hw _ (List.mem_of_getElem? (i := 20) rfl)) (hw _ (List.mem_of_getElem? (i := 19) rfl)) (by decide) (by decide)) (g := (mkF m 139 #[.val (.long q1), .second, .val (.long q2), .second, .val (.long q3), .second, .val (.int p4), .val (.long v1), .second, .val (.long v2), .second, .val (.long v3), .second, .val (.long v26), .second, .val (.int v4), .val (.int (1 : Int32)), .val (.int (own_span q1 q2 v26))] [(.int (own_span q1 q2 v26))])) rfl (by rw [hml]; rfl) (argsL := [(.int (own_span q1 q2 v26))]) (rest := []) (lenOf own_pd__I_I rfl) rfl (by show 2 * 0 + _ ≤ _; exact Nat.le_of_eq rfl) (hb hby at_139) (fun _ _ => ⟨rfl, eq56, (by decide : 0 + 0 ≤ _), (by decide : 0 + 0 ≤ _)⟩)
            dsimp only [Pt.U, Pt.locs, Pt.cells, Pt.slots] at X57 l57 y57 z57 st57 hQ57
            subst l57 y57 z57
            obtain ⟨rfl, Nq57, eq57⟩ := hQ57
            have N57 := Fr.app N56 Nq57
            refine own_st st57 ?_
            show own_Go p.tables e below RR (T57.setTop (mkF m 142 #[.val (.long q1), .second, .val (.long q2), .second, .val (.long q3), .second, .val (.int p4), .val (.long v1), .second, .val (.long v2), .second, .val (.long v3), .second, .val (.long v26), .second, .val (.int v4), .val (.int (1 : Int32)), .val (.int (own_span q1 q2 v26))] [(.int (own_sign (own_span q1 q2 v26)))]))
            refine own_st (fun _ k => XS.iload X57.here hx rfl (hb hby at_142) rfl k) ?_
            show own_Go p.tables e below RR (T57.setTop (mkF m 144 #[.val (.long q1), .second, .val (.long q2), .second, .val (.long q3), .second, .val (.int p4), .val (.long v1), .second, .val (.long v2), .second, .val (.long v3), .second, .val (.long v26), .second, .val (.int v4), .val (.int (1 : Int32)), .val (.int (own_span q1 q2 v26))] [(.int (1 : Int32)), (.int (own_sign (own_span q1 q2 v26)))]))
            have hc144_58 : (own_sign (own_span q1 q2 v26)) = (1 : Int32) := own_main gv1 gv2 gv3 (own_nn2 hc66_27) (by simp only [hc75_47, hc89_51, hc103_55, if_true, if_false])
            refine own_st (fun _ k => XS.icmpNo X57.here hx rfl (hb hby at_144) rfl (teq hc144_58).2 (XS.iconst X57.here hx rfl (hb hby at_147) (XS.goto X57.here hx rfl (pc0 := 148) (pc' := 152) rfl (hb hby at_148) (by decide) (by decide) k))) ?_
            show own_Go p.tables e below RR (T57.setTop (mkF m 152 #[.val (.long q1), .second, .val (.long q2), .second, .val (.long q3), .second, .val (.int p4), .val (.long v1), .second, .val (.long v2), .second, .val (.long v3), .second, .val (.long v26), .second, .val (.int v4), .val (.int (1 : Int32)), .val (.int (own_span q1 q2 v26))] [(.int (1 : Int32))]))
            obtain ⟨fs, hrt_, hrun, hended, hW, hsame⟩ := X57.leave (v := some (.int (1 : Int32))) (fun h => by rw [Bd.returns] at h; cases h)
            refine own_fin (retN X57 hx (t := .boolean) Bd.returns (by simp) (hb hby at_152) hrt_) (hRR _ ⟨_, hrun, hended, _, _, rfl, ?_, ⟨_, rfl⟩, hW, hsame.mono (by decide) (by decide)⟩)
            show own_Q0 Z q1 q2 q3 p4 h0 n0 _ T57.heap _
            rw [eq57]
            exact ⟨rfl, N57⟩
          · refine own_st (fun _ k => XS.ifYes X0.here hx rfl (pc0 := 103) (pc' := 112) rfl (hb hby at_103) rfl ((if0 _ _).trans (flt (fun q => hc103_55 ((lw_gt _ _).mp q))).2.2.2) (by decide) (by decide) (XS.lload X0.here hx rfl (hb hby at_112) rfl (XS.lconst X0.here hx rfl (hb hby at_114) (XS.lcmp X0.here hx rfl (hb hby at_115) rfl k)))) ?_
            show own_Go p.tables e below RR (s₁.setTop (mkF m 116 #[.val (.long q1), .second, .val (.long q2), .second, .val (.long q3), .second, .val (.int p4), .val (.long v1), .second, .val (.long v2), .second, .val (.long v3), .second, .val (.long v26), .second, .val (.int v4), .val (.long ((v4 - (2 : Int32)).toInt64)), .second] [(.int (lcmpW v3 (0 : Int64)))]))
            by_cases hc116_59 : (0 : Int64) < v3
            · refine own_st (fun _ k => XS.ifNo X0.here hx rfl (hb hby at_116) rfl ((if0 _ _).trans (tlt ((lw_gt _ _).mpr hc116_59)).2.2.2) (XS.iconst X0.here hx rfl (hb hby at_119) (XS.istore X0.here hx rfl (hb hby at_120) rfl (l' := #[.val (.long q1), .second, .val (.long q2), .second, .val (.long q3), .second, .val (.int p4), .val (.long v1), .second, .val (.long v2), .second, .val (.long v3), .second, .val (.long v26), .second, .val (.int v4), .val (.int (1 : Int32)), .unset]) rfl (XS.goto X0.here hx rfl (pc0 := 122) (pc' := 128) rfl (hb hby at_122) (by decide) (by decide) (XS.lloadN X0.here hx rfl (hb hby at_128) rfl (XS.lloadN X0.here hx rfl (hb hby at_129) rfl (XS.lload X0.here hx rfl (hb hby at_130) rfl k))))))) ?_
              show own_Go p.tables e below RR (s₁.setTop (mkF m 132 #[.val (.long q1), .second, .val (.long q2), .second, .val (.long q3), .second, .val (.int p4), .val (.long v1), .second, .val (.long v2), .second, .val (.long v3), .second, .val (.long v26), .second, .val (.int v4), .val (.int (1 : Int32)), .unset] [(.long v26), (.long q2), (.long q1)]))
              obtain ⟨_, _, ⟨T60, L60, k60, n60⟩, -, X60, ⟨Lc60, hQ60, l60, y60, z60⟩, st60⟩ := Jvm.LawKit.callS X0 hx (y := (⟨"com/example/vigilant_cells/vigilantcells/model/VersionRules", "compareSpan", "(JJJ)I"⟩ : MethodName)) hown (mvT hZ (hw _ (List.mem_of_getElem? (i := 2) rfl))) (mvT hZ (hw _ (List.mem_of_getElem? (i := 3) rfl))) (mvT hZ (hw _ (List.mem_of_getElem? (i := 4) rfl))) (mvT hZ (hw _ (List.mem_of_getElem? (i := 5) rfl))) (by decide) (backOf (W := 0) (own_rmS l Z a0 hw [] q1 q2 v26 h0 n0 Z0 S_MAX_SPAN_SECONDS) hZ (hw _ (List.mem_of_getElem? (i := 5) rfl)) (hw _ (List.mem_of_getElem? (i := 4) rfl)) (by decide) (by decide)) (g := (mkF m 132 #[.val (.long q1), .second, .val (.long q2), .second, .val (.long q3), .second, .val (.int p4), .val (.long v1), .second, .val (.long v2), .second, .val (.long v3), .second, .val (.long v26), .second, .val (.int v4), .val (.int (1 : Int32)), .unset] [(.long v26), (.long q2), (.long q1)])) rfl (by rw [hml]; rfl) (argsL := [(.long q1), (.long q2), (.long v26)]) (rest := []) (lenOf own_pd__JJJ_I rfl) rfl (by show 2 * 0 + _ ≤ _; exact Nat.le_of_eq rfl) (hb hby at_132) (fun _ _ => ⟨rfl, e0, (by decide : 0 + 0 ≤ _), (by decide : 0 + 0 ≤ _)⟩)
              dsimp only [Pt.U, Pt.locs, Pt.cells, Pt.slots] at X60 l60 y60 z60 st60 hQ60
              subst l60 y60 z60
              obtain ⟨rfl, Nq60, eq60⟩ := hQ60
              have N60 := Fr.app N0 Nq60
              refine own_st st60 ?_
              show own_Go p.tables e below RR (T60.setTop (mkF m 135 #[.val (.long q1), .second, .val (.long q2), .second, .val (.long q3), .second, .val (.int p4), .val (.long v1), .second, .val (.long v2), .second, .val (.long v3), .second, .val (.long v26), .second, .val (.int v4), .val (.int (1 : Int32)), .unset] [(.int (own_span q1 q2 v26))]))
              refine own_st (fun _ k => XS.istore X60.here hx rfl (hb hby at_135) rfl (l' := #[.val (.long q1), .second, .val (.long q2), .second, .val (.long q3), .second, .val (.int p4), .val (.long v1), .second, .val (.long v2), .second, .val (.long v3), .second, .val (.long v26), .second, .val (.int v4), .val (.int (1 : Int32)), .val (.int (own_span q1 q2 v26))]) rfl (XS.iload X60.here hx rfl (hb hby at_137) rfl k)) ?_
              show own_Go p.tables e below RR (T60.setTop (mkF m 139 #[.val (.long q1), .second, .val (.long q2), .second, .val (.long q3), .second, .val (.int p4), .val (.long v1), .second, .val (.long v2), .second, .val (.long v3), .second, .val (.long v26), .second, .val (.int v4), .val (.int (1 : Int32)), .val (.int (own_span q1 q2 v26))] [(.int (own_span q1 q2 v26))]))
              obtain ⟨_, _, ⟨T61, L61, k61, n61⟩, -, X61, ⟨Lc61, hQ61, l61, y61, z61⟩, st61⟩ := Jvm.LawKit.callS X60 hx (y := (⟨"com/example/vigilant_cells/vigilantcells/model/VersionRulesCompareSpanPinLaw", "sign", "(I)I"⟩ : MethodName)) hown (mvT hZ (hw _ (List.mem_of_getElem? (i := 17) rfl))) (mvT hZ (hw _ (List.mem_of_getElem? (i := 18) rfl))) (mvT hZ (hw _ (List.mem_of_getElem? (i := 19) rfl))) (mvT hZ (hw _ (List.mem_of_getElem? (i := 20) rfl))) (by decide) (backOf (W := 0) (own_rmG l Z a0 hw [] (own_span q1 q2 v26) h0 n0 Z0 ) hZ (hw _ (List.mem_of_getElem? (i := 20) rfl)) (hw _ (List.mem_of_getElem? (i := 19) rfl)) (by decide) (by decide)) (g := (mkF m 139 #[.val (.long q1), .second, .val (.long q2), .second, .val (.long q3), .second, .val (.int p4), .val (.long v1), .second, .val (.long v2), .second, .val (.long v3), .second, .val (.long v26), .second, .val (.int v4), .val (.int (1 : Int32)), .val (.int (own_span q1 q2 v26))] [(.int (own_span q1 q2 v26))])) rfl (by rw [hml]; rfl) (argsL := [(.int (own_span q1 q2 v26))]) (rest := []) (lenOf own_pd__I_I rfl) rfl (by show 2 * 0 + _ ≤ _; exact Nat.le_of_eq rfl) (hb hby at_139) (fun _ _ => ⟨rfl, eq60, (by decide : 0 + 0 ≤ _), (by decide : 0 + 0 ≤ _)⟩)
              dsimp only [Pt.U, Pt.locs, Pt.cells, Pt.slots] at X61 l61 y61 z61 st61 hQ61
              subst l61 y61 z61
              obtain ⟨rfl, Nq61, eq61⟩ := hQ61
              have N61 := Fr.app N60 Nq61
              refine own_st st61 ?_
              show own_Go p.tables e below RR (T61.setTop (mkF m 142 #[.val (.long q1), .second, .val (.long q2), .second, .val (.long q3), .second, .val (.int p4), .val (.long v1), .second, .val (.long v2), .second, .val (.long v3), .second, .val (.long v26), .second, .val (.int v4), .val (.int (1 : Int32)), .val (.int (own_span q1 q2 v26))] [(.int (own_sign (own_span q1 q2 v26)))]))
              refine own_st (fun _ k => XS.iload X61.here hx rfl (hb hby at_142) rfl k) ?_
              show own_Go p.tables e below RR (T61.setTop (mkF m 144 #[.val (.long q1), .second, .val (.long q2), .second, .val (.long q3), .second, .val (.int p4), .val (.long v1), .second, .val (.long v2), .second, .val (.long v3), .second, .val (.long v26), .second, .val (.int v4), .val (.int (1 : Int32)), .val (.int (own_span q1 q2 v26))] [(.int (1 : Int32)), (.int (own_sign (own_span q1 q2 v26)))]))
              have hc144_62 : (own_sign (own_span q1 q2 v26)) = (1 : Int32) := own_main gv1 gv2 gv3 (own_nn2 hc66_27) (by simp only [hc75_47, hc89_51, hc103_55, hc116_59, if_true, if_false])
              refine own_st (fun _ k => XS.icmpNo X61.here hx rfl (hb hby at_144) rfl (teq hc144_62).2 (XS.iconst X61.here hx rfl (hb hby at_147) (XS.goto X61.here hx rfl (pc0 := 148) (pc' := 152) rfl (hb hby at_148) (by decide) (by decide) k))) ?_
              show own_Go p.tables e below RR (T61.setTop (mkF m 152 #[.val (.long q1), .second, .val (.long q2), .second, .val (.long q3), .second, .val (.int p4), .val (.long v1), .second, .val (.long v2), .second, .val (.long v3), .second, .val (.long v26), .second, .val (.int v4), .val (.int (1 : Int32)), .val (.int (own_span q1 q2 v26))] [(.int (1 : Int32))]))
              obtain ⟨fs, hrt_, hrun, hended, hW, hsame⟩ := X61.leave (v := some (.int (1 : Int32))) (fun h => by rw [Bd.returns] at h; cases h)
              refine own_fin (retN X61 hx (t := .boolean) Bd.returns (by simp) (hb hby at_152) hrt_) (hRR _ ⟨_, hrun, hended, _, _, rfl, ?_, ⟨_, rfl⟩, hW, hsame.mono (by decide) (by decide)⟩)
              show own_Q0 Z q1 q2 q3 p4 h0 n0 _ T61.heap _
              rw [eq61]
              exact ⟨rfl, N61⟩
            · refine own_st (fun _ k => XS.ifYes X0.here hx rfl (pc0 := 116) (pc' := 125) rfl (hb hby at_116) rfl ((if0 _ _).trans (flt (fun q => hc116_59 ((lw_gt _ _).mp q))).2.2.2) (by decide) (by decide) (XS.iconst X0.here hx rfl (hb hby at_125) (XS.istore X0.here hx rfl (hb hby at_126) rfl (l' := #[.val (.long q1), .second, .val (.long q2), .second, .val (.long q3), .second, .val (.int p4), .val (.long v1), .second, .val (.long v2), .second, .val (.long v3), .second, .val (.long v26), .second, .val (.int v4), .val (.int (0 : Int32)), .unset]) rfl (XS.lloadN X0.here hx rfl (hb hby at_128) rfl (XS.lloadN X0.here hx rfl (hb hby at_129) rfl (XS.lload X0.here hx rfl (hb hby at_130) rfl k)))))) ?_
              show own_Go p.tables e below RR (s₁.setTop (mkF m 132 #[.val (.long q1), .second, .val (.long q2), .second, .val (.long q3), .second, .val (.int p4), .val (.long v1), .second, .val (.long v2), .second, .val (.long v3), .second, .val (.long v26), .second, .val (.int v4), .val (.int (0 : Int32)), .unset] [(.long v26), (.long q2), (.long q1)]))
              obtain ⟨_, _, ⟨T63, L63, k63, n63⟩, -, X63, ⟨Lc63, hQ63, l63, y63, z63⟩, st63⟩ := Jvm.LawKit.callS X0 hx (y := (⟨"com/example/vigilant_cells/vigilantcells/model/VersionRules", "compareSpan", "(JJJ)I"⟩ : MethodName)) hown (mvT hZ (hw _ (List.mem_of_getElem? (i := 2) rfl))) (mvT hZ (hw _ (List.mem_of_getElem? (i := 3) rfl))) (mvT hZ (hw _ (List.mem_of_getElem? (i := 4) rfl))) (mvT hZ (hw _ (List.mem_of_getElem? (i := 5) rfl))) (by decide) (backOf (W := 0) (own_rmS l Z a0 hw [] q1 q2 v26 h0 n0 Z0 S_MAX_SPAN_SECONDS) hZ (hw _ (List.mem_of_getElem? (i := 5) rfl)) (hw _ (List.mem_of_getElem? (i := 4) rfl)) (by decide) (by decide)) (g := (mkF m 132 #[.val (.long q1), .second, .val (.long q2), .second, .val (.long q3), .second, .val (.int p4), .val (.long v1), .second, .val (.long v2), .second, .val (.long v3), .second, .val (.long v26), .second, .val (.int v4), .val (.int (0 : Int32)), .unset] [(.long v26), (.long q2), (.long q1)])) rfl (by rw [hml]; rfl) (argsL := [(.long q1), (.long q2), (.long v26)]) (rest := []) (lenOf own_pd__JJJ_I rfl) rfl (by show 2 * 0 + _ ≤ _; exact Nat.le_of_eq rfl) (hb hby at_132) (fun _ _ => ⟨rfl, e0, (by decide : 0 + 0 ≤ _), (by decide : 0 + 0 ≤ _)⟩)
              dsimp only [Pt.U, Pt.locs, Pt.cells, Pt.slots] at X63 l63 y63 z63 st63 hQ63
              subst l63 y63 z63
              obtain ⟨rfl, Nq63, eq63⟩ := hQ63
              have N63 := Fr.app N0 Nq63
              refine own_st st63 ?_
              show own_Go p.tables e below RR (T63.setTop (mkF m 135 #[.val (.long q1), .second, .val (.long q2), .second, .val (.long q3), .second, .val (.int p4), .val (.long v1), .second, .val (.long v2), .second, .val (.long v3), .second, .val (.long v26), .second, .val (.int v4), .val (.int (0 : Int32)), .unset] [(.int (own_span q1 q2 v26))]))
              refine own_st (fun _ k => XS.istore X63.here hx rfl (hb hby at_135) rfl (l' := #[.val (.long q1), .second, .val (.long q2), .second, .val (.long q3), .second, .val (.int p4), .val (.long v1), .second, .val (.long v2), .second, .val (.long v3), .second, .val (.long v26), .second, .val (.int v4), .val (.int (0 : Int32)), .val (.int (own_span q1 q2 v26))]) rfl (XS.iload X63.here hx rfl (hb hby at_137) rfl k)) ?_
              show own_Go p.tables e below RR (T63.setTop (mkF m 139 #[.val (.long q1), .second, .val (.long q2), .second, .val (.long q3), .second, .val (.int p4), .val (.long v1), .second, .val (.long v2), .second, .val (.long v3), .second, .val (.long v26), .second, .val (.int v4), .val (.int (0 : Int32)), .val (.int (own_span q1 q2 v26))] [(.int (own_span q1 q2 v26))]))
              obtain ⟨_, _, ⟨T64, L64, k64, n64⟩, -, X64, ⟨Lc64, hQ64, l64, y64, z64⟩, st64⟩ := Jvm.LawKit.callS X63 hx (y := (⟨"com/example/vigilant_cells/vigilantcells/model/VersionRulesCompareSpanPinLaw", "sign", "(I)I"⟩ : MethodName)) hown (mvT hZ (hw _ (List.mem_of_getElem? (i := 17) rfl))) (mvT hZ (hw _ (List.mem_of_getElem? (i := 18) rfl))) (mvT hZ (hw _ (List.mem_of_getElem? (i := 19) rfl))) (mvT hZ (hw _ (List.mem_of_getElem? (i := 20) rfl))) (by decide) (backOf (W := 0) (own_rmG l Z a0 hw [] (own_span q1 q2 v26) h0 n0 Z0 ) hZ (hw _ (List.mem_of_getElem? (i := 20) rfl)) (hw _ (List.mem_of_getElem? (i := 19) rfl)) (by decide) (by decide)) (g := (mkF m 139 #[.val (.long q1), .second, .val (.long q2), .second, .val (.long q3), .second, .val (.int p4), .val (.long v1), .second, .val (.long v2), .second, .val (.long v3), .second, .val (.long v26), .second, .val (.int v4), .val (.int (0 : Int32)), .val (.int (own_span q1 q2 v26))] [(.int (own_span q1 q2 v26))])) rfl (by rw [hml]; rfl) (argsL := [(.int (own_span q1 q2 v26))]) (rest := []) (lenOf own_pd__I_I rfl) rfl (by show 2 * 0 + _ ≤ _; exact Nat.le_of_eq rfl) (hb hby at_139) (fun _ _ => ⟨rfl, eq63, (by decide : 0 + 0 ≤ _), (by decide : 0 + 0 ≤ _)⟩)
              dsimp only [Pt.U, Pt.locs, Pt.cells, Pt.slots] at X64 l64 y64 z64 st64 hQ64
              subst l64 y64 z64
              obtain ⟨rfl, Nq64, eq64⟩ := hQ64
              have N64 := Fr.app N63 Nq64
              refine own_st st64 ?_
              show own_Go p.tables e below RR (T64.setTop (mkF m 142 #[.val (.long q1), .second, .val (.long q2), .second, .val (.long q3), .second, .val (.int p4), .val (.long v1), .second, .val (.long v2), .second, .val (.long v3), .second, .val (.long v26), .second, .val (.int v4), .val (.int (0 : Int32)), .val (.int (own_span q1 q2 v26))] [(.int (own_sign (own_span q1 q2 v26)))]))
              refine own_st (fun _ k => XS.iload X64.here hx rfl (hb hby at_142) rfl k) ?_
              show own_Go p.tables e below RR (T64.setTop (mkF m 144 #[.val (.long q1), .second, .val (.long q2), .second, .val (.long q3), .second, .val (.int p4), .val (.long v1), .second, .val (.long v2), .second, .val (.long v3), .second, .val (.long v26), .second, .val (.int v4), .val (.int (0 : Int32)), .val (.int (own_span q1 q2 v26))] [(.int (0 : Int32)), (.int (own_sign (own_span q1 q2 v26)))]))
              have hc144_65 : (own_sign (own_span q1 q2 v26)) = (0 : Int32) := own_main gv1 gv2 gv3 (own_nn2 hc66_27) (by simp only [hc75_47, hc89_51, hc103_55, hc116_59, if_true, if_false])
              refine own_st (fun _ k => XS.icmpNo X64.here hx rfl (hb hby at_144) rfl (teq hc144_65).2 (XS.iconst X64.here hx rfl (hb hby at_147) (XS.goto X64.here hx rfl (pc0 := 148) (pc' := 152) rfl (hb hby at_148) (by decide) (by decide) k))) ?_
              show own_Go p.tables e below RR (T64.setTop (mkF m 152 #[.val (.long q1), .second, .val (.long q2), .second, .val (.long q3), .second, .val (.int p4), .val (.long v1), .second, .val (.long v2), .second, .val (.long v3), .second, .val (.long v26), .second, .val (.int v4), .val (.int (0 : Int32)), .val (.int (own_span q1 q2 v26))] [(.int (1 : Int32))]))
              obtain ⟨fs, hrt_, hrun, hended, hW, hsame⟩ := X64.leave (v := some (.int (1 : Int32))) (fun h => by rw [Bd.returns] at h; cases h)
              refine own_fin (retN X64 hx (t := .boolean) Bd.returns (by simp) (hb hby at_152) hrt_) (hRR _ ⟨_, hrun, hended, _, _, rfl, ?_, ⟨_, rfl⟩, hW, hsame.mono (by decide) (by decide)⟩)
              show own_Q0 Z q1 q2 q3 p4 h0 n0 _ T64.heap _
              rw [eq64]
              exact ⟨rfl, N64⟩
set_option maxRecDepth 65536 in
set_option maxHeartbeats 40000000 in
theorem own_comes {Post : Tables → Env → Array Value → State → Outcome → State → Prop} (hpost : ∀ tb e args s v u, (limb_1_1.after args s (.returned v) u = true ∧ limb_1_2.after args s (.returned v) u = true ∧ True) → FrameEnd s (.returned v) u (Jvm.fieldLocs frame_1_writes args s ++ Jvm.arrayLocs frame_1_arrays args s ++ Jvm.staticLocs frame_1_statics s) 0 0 → Post tb e args s (.returned v) u) :
    ArmFor flags0 classFile x code maxLocals ret World_1 tables_1 room_1 Calls_1 rest_1 Pre_1 Post := by
  intro l hfl _ _ p e ha hc hk s m args below hf hA hF happ hP
  obtain ⟨hcalls, hrest, hpre⟩ := hP
  obtain ⟨-, -, -, hnamed, -, -, -, hat⟩ := (Spec.applies_iff hf).mp happ
  obtain ⟨hg, hn⟩ := and_e (Cond.before_iff.mp (show (Jvm.Cond.and given_1 narrow_1).before args s = true from hpre))
  obtain ⟨u1a, u1b⟩ := and_e hg
  obtain ⟨u2a, u2b⟩ := and_e u1b
  obtain ⟨u3a, u3b⟩ := and_e u2b
  obtain ⟨u4a, u4b⟩ := and_e u3b
  obtain ⟨w0, w1, w2, w3, rfl⟩ : ∃ w0 w1 w2 w3 : Value, args = #[w0, w1, w2, w3] := by
    have hs : args.size = 4 := by simpa [Cond.value, given_1] using u1a
    obtain ⟨L⟩ := args
    match L, hs with
    | [w0, w1, w2, w3], _ => exact ⟨w0, w1, w2, w3, rfl⟩
  have hw := fun d (hd : d ∈ tables_1) => atoms_spec (ws := Jvm.Cond.code x code maxLocals ret :: tables_1) hat d (List.mem_cons_of_mem _ hd)
  have hfit : Fit s := fun {y c} hc i hi => by
    obtain ⟨ha, rfl⟩ := Array.getElem?_eq_some_iff.mp hc
    have q := List.all_eq_true.mp ((Array.all_eq_true_iff_forall_mem.mp hF) _ (Array.getElem_mem ha)) i (List.mem_range.mpr hi)
    simpa [Array.getElem?_eq_getElem hi] using q
  obtain ⟨i0, ei0⟩ := isL_v u2a
  obtain rfl : w0 = (.long i0) := Option.some.inj ei0
  obtain ⟨i1, ei1⟩ := isL_v u3a
  obtain rfl : w1 = (.long i1) := Option.some.inj ei1
  obtain ⟨i2, ei2⟩ := isL_v u4a
  obtain rfl : w2 = (.long i2) := Option.some.inj ei2
  obtain ⟨i3, ei3⟩ := is_v u4b
  obtain rfl : w3 = (.int i3) := Option.some.inj ei3
  have S_MAX_SPAN_SECONDS := Sta.start (own_eq_long hn) (Or.inr ⟨(hw _ (List.mem_of_getElem? (i := 4) rfl)), (hw _ (List.mem_of_getElem? (i := 7) rfl))⟩)
  obtain ⟨n, o, h1, h2, h3, _, L, rfl, ⟨rfl, N⟩, hq⟩ := own_rm0 l s _ hw tables_1 i0 i1 i2 i3 s.heap s.heap.size (Nat.le_refl _) S_MAX_SPAN_SECONDS p e ha hc hk s m _ below hf ((Spec.applies_iff_loose hf).mp happ).1 ⟨rfl, State.Warmed39.refl s, rfl⟩ trivial
  refine ⟨n, _, h1, h2, h3, hpost _ _ _ _ _ _ ⟨Cond.after_iff.mpr rfl, Cond.after_iff.mpr (eq_i res_at (Term.int_eval (1)) rfl), trivial⟩ ⟨hq.1, hq.2.1, (hq.2.2.sift fun y hy => Or.inr (N y hy)).mono (by decide) (by decide)⟩⟩
theorem main_1_1 : Claimed_1_1 := own_comes fun _ _ _ _ _ _ h hF => ⟨h.1, hF⟩
theorem main_1_2 : Claimed_1_2 := own_comes fun _ _ _ _ _ _ h hF => ⟨h.2.1, hF⟩
end Jvm.Pilot.@@N@@
namespace Jvm.Pilot.@@N@@
open Jvm Jvm.ClassFile Sem Op Lib Jvm.Free Jvm.Stand Jvm.Pilot.@@N@@.Jvm.D
/-! MADE BY PROGRAM (witnessworld.py) out of the Statement's table words and the real class files: 12 classes; the members and pool entries that the words name. The judged class is class 1, her method 2. -/
namespace start1
open Jvm.ClassFile
def u (s : String) : CpInfo := .utf8 (stringToUtf16 s)
/-- a pool by its gaps: so many unusable entries, then the entry; so many at the end -/
def gap : Nat → List CpInfo → List CpInfo
  | 0, r => r
  | n + 1, r => .unusable :: gap n r
def poolList (es : List (Nat × CpInfo)) (last : Nat) : List CpInfo := es.foldr (fun e r => gap e.1 (e.2 :: r)) (gap last [])
def pool (es : List (Nat × CpInfo)) (last : Nat) : Array CpInfo := ⟨poolList es last⟩
def fileOf (pool : Array CpInfo) (this : Nat) (attrs : Array Attribute := #[]) (ms : Array MethodInfo := #[]) (fl : Nat := 33) (sup : Nat := 0) (ifs : Array Nat := #[]) (fds : Array FieldInfo := #[]) : ClassFile where
  minorVersion := 0
  majorVersion := 65
  constantPool := pool
  accessFlags := fl
  thisClass := this
  superClass := sup
  interfaces := ifs
  fields := fds
  methods := ms
  attributes := attrs
def plain (name : String) (sup : Option ClassId) : Class where
  name := name
  kind := .ordinary
  loader := none
  accessFlags := 33
  super := sup
  interfaces := #[]
  cf := none
  fields := #[]
  methods := #[]
  instanceTypes := #[]
  staticTypes := #[]
  resolved := #[]
  callSites := []
  init := .initialized
  statics := none
  mirror := none

def pool0 : Array CpInfo := pool [(5, u "<init>"), (0, u "()V"), (1, .class_ 10), (1, u "java/lang/Object")] 113

def k0m0 : Method := { name := "<init>", desc := "()V", sig := { parameters := [], returnType := none }, accessFlags := 1, code := none }
/-- java/lang/Object -/
def k0 : Class := { plain "java/lang/Object" none with
  accessFlags := 33
  interfaces := #[]
  cf := some (fileOf pool0 8 #[] #[{ accessFlags := 1, nameIndex := 5, descriptorIndex := 6, attributes := #[] }] 33 0 #[] #[])
  fields := #[]
  methods := #[k0m0]
  instanceTypes := #[]
  staticTypes := #[]
  resolved := Array.replicate 124 none
  statics := none }

def pool1 : Array CpInfo := pool [(2, .class_ 4), (1, u "java/lang/Object"), (0, u "<init>"), (0, u "()V"), (0, .long 500), (1, .long 1000), (1, .long 9223372036854775807), (1, .methodref 14 15), (0, .class_ 16), (0, .nameAndType 17 18), (0, u "com/example/vigilant_cells/vigilantcells/model/VersionRules"), (0, u "compareSpan"), (0, u "(JJJ)I"), (0, .methodref 20 21), (0, .class_ 22), (0, .nameAndType 23 24), (0, u "com/example/vigilant_cells/vigilantcells/model/VersionRulesCompareSpanPinLaw"), (0, u "sign"), (0, u "(I)I"), (3, u "law"), (0, u "(JJJI)Z")] 2

def k1m0 : Method := { name := "<init>", desc := "()V", sig := { parameters := [], returnType := none }, accessFlags := 2, code := none }
def k1c1 : Code := { maxStack := 1, maxLocals := 1, code := method_2_code, exceptionTable := #[], attributes := #[] }
def k1m1 : Method := { name := "sign", desc := "(I)I", sig := { parameters := [.int], returnType := some .int }, accessFlags := 10, code := some k1c1 }
def k1c2 : Code := { maxStack := 6, maxLocals := 18, code := code, exceptionTable := #[], attributes := #[] }
def k1m2 : Method := { name := "law", desc := "(JJJI)Z", sig := { parameters := [.long, .long, .long, .int], returnType := some .boolean }, accessFlags := 9, code := some k1c2 }
/-- com/example/vigilant_cells/vigilantcells/model/VersionRulesCompareSpanPinLaw -/
def k1 : Class := { plain "com/example/vigilant_cells/vigilantcells/model/VersionRulesCompareSpanPinLaw" (some 0) with
  accessFlags := 49
  interfaces := #[]
  cf := some (fileOf pool1 20 #[] #[{ accessFlags := 2, nameIndex := 5, descriptorIndex := 6, attributes := #[] }, { accessFlags := 10, nameIndex := 23, descriptorIndex := 24, attributes := #[] }, { accessFlags := 9, nameIndex := 28, descriptorIndex := 29, attributes := #[] }] 49 2 #[] #[])
  fields := #[]
  methods := #[k1m0, k1m1, k1m2]
  instanceTypes := #[]
  staticTypes := #[]
  resolved := Array.replicate 32 none
  statics := none }

def pool2 : Array CpInfo := pool [(2, .class_ 4), (1, u "java/lang/Object"), (0, u "<init>"), (0, u "()V"), (13, .class_ 22), (1, u "com/example/vigilant_cells/vigilantcells/model/VersionRules"), (12, .class_ 36), (0, u "com/example/vigilant_cells/vigilantcells/model/VersionRules$Slice"), (35, u "compareSpan"), (0, u "(JJJ)I"), (29, .fieldref 20 104), (0, .nameAndType 105 106), (0, u "MAX_SPAN_SECONDS"), (0, u "J"), (0, .long 1000), (1, .methodref 110 111), (0, .class_ 112), (0, .nameAndType 113 114), (0, u "java/lang/Long"), (0, u "compareUnsigned"), (0, u "(JJ)I")] 40

def k2m0 : Method := { name := "<init>", desc := "()V", sig := { parameters := [], returnType := none }, accessFlags := 2, code := none }
def k2c1 : Code := { maxStack := 6, maxLocals := 7, code := prog_27_method_5_code, exceptionTable := #[], attributes := #[] }
def k2m1 : Method := { name := "compareSpan", desc := "(JJJ)I", sig := { parameters := [.long, .long, .long], returnType := some .int }, accessFlags := 8, code := some k2c1 }
/-- com/example/vigilant_cells/vigilantcells/model/VersionRules -/
def k2 : Class := { plain "com/example/vigilant_cells/vigilantcells/model/VersionRules" (some 0) with
  accessFlags := 49
  interfaces := #[]
  cf := some (fileOf pool2 20 #[.nestMembers #[35]] #[{ accessFlags := 2, nameIndex := 5, descriptorIndex := 6, attributes := #[] }, { accessFlags := 8, nameIndex := 72, descriptorIndex := 73, attributes := #[] }] 49 2 #[] #[{ accessFlags := 26, nameIndex := 105, descriptorIndex := 106, attributes := #[] }])
  fields := #[{ name := "MAX_SPAN_SECONDS", type := .long, accessFlags := 26, slot := 0, constantValue := 0 }]
  methods := #[k2m0, k2m1]
  instanceTypes := #[]
  staticTypes := #[.long]
  resolved := Array.replicate 155 none
  statics := some 0 }

def pool3 : Array CpInfo := pool [(1, .class_ 2), (0, u "java/io/Serializable"), (0, .class_ 4), (0, u "java/lang/Object")] 2

/-- java/io/Serializable -/
def k3 : Class := { plain "java/io/Serializable" (some 0) with
  accessFlags := 1537
  interfaces := #[]
  cf := some (fileOf pool3 1 #[] #[] 1537 3 #[] #[])
  fields := #[]
  methods := #[]
  instanceTypes := #[]
  staticTypes := #[]
  resolved := Array.replicate 7 none
  statics := none }

def pool4 : Array CpInfo := pool [(2, .class_ 4), (1, u "java/lang/Object"), (0, u "<init>"), (0, u "()V"), (1, .class_ 10), (1, u "java/lang/Number"), (2, .class_ 14), (0, u "java/io/Serializable"), (0, u "serialVersionUID"), (0, u "J")] 20

def k4m0 : Method := { name := "<init>", desc := "()V", sig := { parameters := [], returnType := none }, accessFlags := 1, code := none }
/-- java/lang/Number -/
def k4 : Class := { plain "java/lang/Number" (some 0) with
  accessFlags := 1057
  interfaces := #[3]
  cf := some (fileOf pool4 8 #[] #[{ accessFlags := 1, nameIndex := 5, descriptorIndex := 6, attributes := #[] }] 1057 2 #[13] #[{ accessFlags := 26, nameIndex := 15, descriptorIndex := 16, attributes := #[] }])
  fields := #[{ name := "serialVersionUID", type := .long, accessFlags := 26, slot := 0, constantValue := 0 }]
  methods := #[k4m0]
  instanceTypes := #[]
  staticTypes := #[.long]
  resolved := Array.replicate 37 none
  statics := none }

def pool5 : Array CpInfo := pool [(1, .class_ 2), (0, u "java/lang/Comparable"), (0, .class_ 4), (0, u "java/lang/Object")] 7

/-- java/lang/Comparable -/
def k5 : Class := { plain "java/lang/Comparable" (some 0) with
  accessFlags := 1537
  interfaces := #[]
  cf := some (fileOf pool5 1 #[] #[] 1537 3 #[] #[])
  fields := #[]
  methods := #[]
  instanceTypes := #[]
  staticTypes := #[]
  resolved := Array.replicate 12 none
  statics := none }

def pool6 : Array CpInfo := pool [(1, .class_ 2), (0, u "java/lang/constant/Constable"), (0, .class_ 4), (0, u "java/lang/Object")] 6

/-- java/lang/constant/Constable -/
def k6 : Class := { plain "java/lang/constant/Constable" (some 0) with
  accessFlags := 1537
  interfaces := #[]
  cf := some (fileOf pool6 1 #[] #[] 1537 3 #[] #[])
  fields := #[]
  methods := #[]
  instanceTypes := #[]
  staticTypes := #[]
  resolved := Array.replicate 11 none
  statics := none }

def pool7 : Array CpInfo := pool [(1, .class_ 2), (0, u "java/lang/constant/ConstantDesc"), (0, .class_ 4), (0, u "java/lang/Object")] 32

/-- java/lang/constant/ConstantDesc -/
def k7 : Class := { plain "java/lang/constant/ConstantDesc" (some 0) with
  accessFlags := 1537
  interfaces := #[]
  cf := some (fileOf pool7 1 #[] #[] 1537 3 #[] #[])
  fields := #[]
  methods := #[]
  instanceTypes := #[]
  staticTypes := #[]
  resolved := Array.replicate 37 none
  statics := none }

def pool8 : Array CpInfo := pool [(1, .class_ 2), (0, u "java/lang/Long"), (165, .long 9223372036854775808), (66, .class_ 237), (1, u "java/lang/Long$LongCache"), (33, .class_ 272), (0, u "java/lang/Number"), (2, u "value"), (0, u "J"), (25, .methodref 1 303), (0, .nameAndType 304 305), (0, u "compare"), (0, u "(JJ)I"), (55, u "TYPE"), (0, u "Ljava/lang/Class;"), (0, .class_ 364), (0, u "java/lang/Comparable"), (0, .class_ 366), (0, u "java/lang/constant/Constable"), (0, .class_ 368), (0, u "java/lang/constant/ConstantDesc"), (0, u "MIN_VALUE"), (1, u "MAX_VALUE"), (4, u "SIZE"), (0, u "I"), (1, u "BYTES"), (1, u "serialVersionUID"), (87, u "compareUnsigned")] 54

def k8c0 : Code := { maxStack := 4, maxLocals := 4, code := jdk_35_method_42_code, exceptionTable := #[], attributes := #[] }
def k8m0 : Method := { name := "compare", desc := "(JJ)I", sig := { parameters := [.long, .long], returnType := some .int }, accessFlags := 9, code := some k8c0 }
def k8c1 : Code := { maxStack := 6, maxLocals := 4, code := jdk_35_method_43_code, exceptionTable := #[], attributes := #[] }
def k8m1 : Method := { name := "compareUnsigned", desc := "(JJ)I", sig := { parameters := [.long, .long], returnType := some .int }, accessFlags := 9, code := some k8c1 }
/-- java/lang/Long -/
def k8 : Class := { plain "java/lang/Long" (some 4) with
  accessFlags := 49
  interfaces := #[5, 6, 7]
  cf := some (fileOf pool8 1 #[.nestMembers #[235]] #[{ accessFlags := 9, nameIndex := 304, descriptorIndex := 305, attributes := #[] }, { accessFlags := 9, nameIndex := 469, descriptorIndex := 305, attributes := #[] }] 49 271 #[363, 365, 367] #[{ accessFlags := 25, nameIndex := 369, descriptorIndex := 276, attributes := #[] }, { accessFlags := 25, nameIndex := 371, descriptorIndex := 276, attributes := #[] }, { accessFlags := 25, nameIndex := 361, descriptorIndex := 362, attributes := #[] }, { accessFlags := 18, nameIndex := 275, descriptorIndex := 276, attributes := #[] }, { accessFlags := 25, nameIndex := 376, descriptorIndex := 377, attributes := #[] }, { accessFlags := 25, nameIndex := 379, descriptorIndex := 377, attributes := #[] }, { accessFlags := 26, nameIndex := 381, descriptorIndex := 276, attributes := #[] }])
  fields := #[{ name := "MIN_VALUE", type := .long, accessFlags := 25, slot := 0, constantValue := 0 }, { name := "MAX_VALUE", type := .long, accessFlags := 25, slot := 1, constantValue := 0 }, { name := "TYPE", type := (.object "java/lang/Class"), accessFlags := 25, slot := 2, constantValue := 0 }, { name := "value", type := .long, accessFlags := 18, slot := 0, constantValue := 0 }, { name := "SIZE", type := .int, accessFlags := 25, slot := 3, constantValue := 0 }, { name := "BYTES", type := .int, accessFlags := 25, slot := 4, constantValue := 0 }, { name := "serialVersionUID", type := .long, accessFlags := 26, slot := 5, constantValue := 0 }]
  methods := #[k8m0, k8m1]
  instanceTypes := #[.long]
  staticTypes := #[.long, .long, (.object "java/lang/Class"), .int, .int, .long]
  resolved := Array.replicate 524 none
  statics := none }

def pool9 : Array CpInfo := pool [(1, u "java/lang/Cloneable"), (0, .class_ 1), (0, u "java/lang/Object"), (0, .class_ 3)] 3

/-- java/lang/Cloneable -/
def k9 : Class := { plain "java/lang/Cloneable" (some 0) with
  accessFlags := 1537
  interfaces := #[]
  cf := some (fileOf pool9 2 #[] #[] 1537 4 #[] #[])
  fields := #[]
  methods := #[]
  instanceTypes := #[]
  staticTypes := #[]
  resolved := Array.replicate 8 none
  statics := none }

/-- the primitive byte -/
def k10 : Class := { plain "byte" none with kind := .primitive 'B', accessFlags := 0x411 }
/-- [B -/
def k11 : Class := { plain "[B" (some 0) with kind := .array 10 .byte, interfaces := #[9, 3], accessFlags := 1041 }

def heap : Heap := #[{ cls := 2, slots := #[.long 18446744073709551], vm := .statics 2 }]
def classes : Array Class := #[k0, k1, k2, k3, k4, k5, k6, k7, k8, k9, k10, k11]
def interned : List (Array UInt16 × Addr) := []
def slotsUsed : Nat := 1
def theMethod : MethodId := ⟨1, 2⟩
def args0 : Array Value := #[.long 5000, .long 3, .long 1, .int 1]
def aboutOver (below : List Frame) : State where
  vm := { classes := classes, interned := interned.toArray }
  heap := heap
  slotsUsed := slotsUsed
  threads := #[{ frames := .invoking theMethod args0 :: below }]
def below0 : List Frame := [.native { method := ⟨0, 0⟩, args := #[] }]
def about1 : State := aboutOver below0
def p0 : Program := .bare "" "" ""
def e0 : Env := launch0.env 0 0 0
theorem w_frames : about1.frames = Frame.invoking theMethod args0 :: below0 := rfl
set_option maxRecDepth 65536 in
theorem w_args : argsFit about1.vm theMethod args0 = true := by decide +kernel
set_option maxRecDepth 65536 in
theorem w_heap : heapFits about1 = true := by decide +kernel
set_option maxRecDepth 65536 in
theorem w_runnable : about1.curStatus? = some .runnable := by decide +kernel
set_option maxRecDepth 65536 in
theorem w_alone : about1.alone = true := by decide +kernel
set_option maxRecDepth 65536 in
theorem w_named : about1.methodNamed? x = some theMethod := by decide +kernel
set_option maxRecDepth 65536 in
theorem w_hears : about1.hears theMethod below0 = true := by decide +kernel
set_option maxRecDepth 65536 in
theorem w_ripe : about1.ripe theMethod args0 below0 = true := by decide +kernel
theorem w_running : about1.status = .running := rfl
set_option maxRecDepth 65536 in
theorem w_room : about1.hasRoom e0.platform room_1 = true :=
  launch0.hasRoom_least _ room_1 (by decide +kernel) (by decide +kernel) (by decide +kernel) (by decide +kernel) (by decide +kernel) (by decide +kernel)
theorem allAtoms_all (ts : List Jvm.Cond) (a : Array Jvm.Value) (st : Jvm.State) : (allAtoms ts).before a st = ts.all (fun c => c.before a st) := by
  induction ts with
  | nil => rfl
  | cons c t ih =>
    show (Jvm.Cond.and c (allAtoms t)).before a st = _
    rw [Jvm.Cond.before_and, ih, List.all_cons]
def words1 : List Jvm.Cond := Jvm.Cond.code x code maxLocals ret :: tables_1
/-- a 'code' word, met by the world's own term for the bytes: nothing is compared byte by byte -/
theorem code_word {y : MethodName} {bytes : ByteArray} {mx : Nat} {rt : Option FieldType} {a : Array Value} {s : State} {m : MethodId} {meth : Method} {c : Code} (h1 : s.methodNamed? y = some m) (h2 : s.vm.method? m = some meth) (h3 : meth.code = some c) (h4 : c.code = bytes)
    (h5 : (c.maxLocals == mx && c.exceptionTable.isEmpty && decide (c.maxStack ≤ mostOperands) && decide (meth.sig.returnType = rt) && !meth.locks && decide (parseMethodDescriptor y.desc = some meth.sig)) = true) : (Jvm.Cond.code y bytes mx rt).before a s = true := by
  simp only [Bool.and_eq_true, beq_iff_eq, Bool.not_eq_true', decide_eq_true_eq] at h5
  obtain ⟨⟨⟨⟨⟨g1, g2⟩, g3⟩, g4⟩, g5⟩, g6⟩ := h5
  simp [Cond.before, Cond.holds, Cond.value, h1, h2, h3, h4, g1, g2, g3, g4, g5, g6]
def isCode : Jvm.Cond → Bool
  | .code _ _ _ _ => true
  | _ => false
theorem all_split {L : List Jvm.Cond} {P : Jvm.Cond → Bool} (h1 : L.all (fun c => isCode c || P c) = true) (h2 : ∀ c ∈ L.filter isCode, P c = true) : L.all P = true := by
  refine List.all_eq_true.mpr fun c hc => ?_
  have h := List.all_eq_true.mp h1 c hc
  rcases Bool.eq_false_or_eq_true (isCode c) with hi | hi
  · exact h2 c (List.mem_filter.mpr ⟨hc, hi⟩)
  · simpa [hi] using h
set_option maxRecDepth 65536 in
theorem w_c0 : (Jvm.Cond.code x code maxLocals ret).before args0 about1 = true := code_word (m := ⟨1, 2⟩) (meth := k1m2) (c := k1c2) (by decide +kernel) rfl rfl rfl (by decide +kernel)
set_option maxRecDepth 65536 in
theorem w_c1 : (Jvm.Cond.code ({ cls := "com/example/vigilant_cells/vigilantcells/model/VersionRules", name := "compareSpan", desc := "(JJJ)I" } : Jvm.MethodName) prog_27_method_5_code (7 : Nat) (Option.some Jvm.ClassFile.FieldType.int)).before args0 about1 = true := code_word (m := ⟨2, 1⟩) (meth := k2m1) (c := k2c1) (by decide +kernel) rfl rfl rfl (by decide +kernel)
set_option maxRecDepth 65536 in
theorem w_c2 : (Jvm.Cond.code ({ cls := "java/lang/Long", name := "compareUnsigned", desc := "(JJ)I" } : Jvm.MethodName) jdk_35_method_43_code (4 : Nat) (Option.some Jvm.ClassFile.FieldType.int)).before args0 about1 = true := code_word (m := ⟨8, 1⟩) (meth := k8m1) (c := k8c1) (by decide +kernel) rfl rfl rfl (by decide +kernel)
set_option maxRecDepth 65536 in
theorem w_c3 : (Jvm.Cond.code ({ cls := "java/lang/Long", name := "compare", desc := "(JJ)I" } : Jvm.MethodName) jdk_35_method_42_code (4 : Nat) (Option.some Jvm.ClassFile.FieldType.int)).before args0 about1 = true := code_word (m := ⟨8, 0⟩) (meth := k8m0) (c := k8c0) (by decide +kernel) rfl rfl rfl (by decide +kernel)
set_option maxRecDepth 65536 in
theorem w_c4 : (Jvm.Cond.code ({ cls := "com/example/vigilant_cells/vigilantcells/model/VersionRulesCompareSpanPinLaw", name := "sign", desc := "(I)I" } : Jvm.MethodName) method_2_code (1 : Nat) (Option.some Jvm.ClassFile.FieldType.int)).before args0 about1 = true := code_word (m := ⟨1, 1⟩) (meth := k1m1) (c := k1c1) (by decide +kernel) rfl rfl rfl (by decide +kernel)
def codes1 : List Jvm.Cond := [Jvm.Cond.code x code maxLocals ret, Jvm.Cond.code ({ cls := "com/example/vigilant_cells/vigilantcells/model/VersionRules", name := "compareSpan", desc := "(JJJ)I" } : Jvm.MethodName) prog_27_method_5_code (7 : Nat) (Option.some Jvm.ClassFile.FieldType.int), Jvm.Cond.code ({ cls := "java/lang/Long", name := "compareUnsigned", desc := "(JJ)I" } : Jvm.MethodName) jdk_35_method_43_code (4 : Nat) (Option.some Jvm.ClassFile.FieldType.int), Jvm.Cond.code ({ cls := "java/lang/Long", name := "compare", desc := "(JJ)I" } : Jvm.MethodName) jdk_35_method_42_code (4 : Nat) (Option.some Jvm.ClassFile.FieldType.int), Jvm.Cond.code ({ cls := "com/example/vigilant_cells/vigilantcells/model/VersionRulesCompareSpanPinLaw", name := "sign", desc := "(I)I" } : Jvm.MethodName) method_2_code (1 : Nat) (Option.some Jvm.ClassFile.FieldType.int)]
set_option maxRecDepth 65536 in
theorem codes_eq : words1.filter isCode = codes1 := rfl
theorem w_codes : ∀ c ∈ words1.filter isCode, c.before args0 about1 = true := by
  rw [codes_eq]
  intro c hc
  simp only [codes1, List.mem_cons, List.not_mem_nil, or_false] at hc
  rcases hc with rfl | rfl | rfl | rfl | rfl
  · exact w_c0
  · exact w_c1
  · exact w_c2
  · exact w_c3
  · exact w_c4
set_option maxRecDepth 65536 in
theorem w_t1 : words1.all (fun c => isCode c || c.before args0 about1) = true := by decide +kernel
theorem w_tables : (allAtoms (Jvm.Cond.code x code maxLocals ret :: tables_1)).before args0 about1 = true := by
  rw [allAtoms_all]
  show words1.all (fun c => c.before args0 about1) = true
  refine all_split ?_ w_codes
  rw [w_t1]
set_option maxRecDepth 65536 in
theorem w_case : (Jvm.Cond.and given_1 narrow_1).before args0 about1 = true := by decide +kernel
theorem w_applies : (headSpec (Jvm.Cond.code x code maxLocals ret :: tables_1) room_1).applies x e0.platform about1 = true :=
  (Spec.applies_iff w_frames).mpr ⟨w_running, w_runnable, w_alone, w_named, w_hears, w_ripe, w_room, w_tables⟩
theorem atStart : AtStart classFile x code maxLocals ret World_1 tables_1 room_1 Calls_1 rest_1 Pre_1 launch0 p0 e0 about1 theMethod args0 below0 :=
  ⟨lists_1, trivial, launch0.admits_env _ _ _, launch0.least_env, fairChoices_fair.cas, fairChoices_fair.clock, w_frames, w_args, w_heap, w_applies, trivial, trivial, w_case⟩
end start1
theorem witness_1 : WitnessClaimed_1 := ⟨start1.p0, start1.e0, start1.about1, start1.theMethod, start1.args0, start1.below0, start1.atStart⟩
end Jvm.Pilot.@@N@@
