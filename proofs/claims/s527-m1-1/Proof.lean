import JvmDerived
import JvmDerived.Pilot.@@N@@Statement
import JvmDerived.Pilot.@@N@@Code
set_option linter.unusedVariables false
set_option linter.unusedSimpArgs false
namespace Jvm.RoadKit
open Sem ClassFile Op Lib Jvm.Stand Jvm.Free Jvm.LawKit
section Own
/-- from u a state is reached where R holds -/
def own_Go (tb : Tables) (e : Env) (below : List Frame) (R : State → Prop) (u : State) : Prop := ∃ t, Steps tb e below u t ∧ R t
theorem own_st {tb : Tables} {e : Env} {below : List Frame} {R : State → Prop} {u v : State} (h : ∀ t, Steps tb e below v t → Steps tb e below u t) (g : own_Go tb e below R v) : own_Go tb e below R u := by
  obtain ⟨t, h1, h2⟩ := g
  exact ⟨t, h t h1, h2⟩
theorem own_fin {tb : Tables} {e : Env} {below : List Frame} {R : State → Prop} {u t : State} (h : Steps tb e below u t) (r : R t) : own_Go tb e below R u := ⟨t, h, r⟩
theorem own_in {tb : Tables} {e : Env} {below : List Frame} {u v : State} {P : State → Outcome → Prop} (h : ∀ t, Steps tb e below v t → Steps tb e below u t)
    (g : ∀ RR : State → Prop, (∀ t, (∃ o, t.status = .running ∧ P t o) → RR t) → own_Go tb e below RR v) : ∃ t o, Steps tb e below u t ∧ t.status = .running ∧ P t o := by
  obtain ⟨t, h1, o, h2, h3⟩ := g (fun t => ∃ o, t.status = .running ∧ P t o) fun _ q => q
  exact ⟨t, o, h t h1, h2, h3⟩
theorem own_ri {x y : Int32} (h : x = y) : some (Value.int x) = some (Value.int y) := h ▸ rfl
theorem own_rj {x y : Int64} (h : x = y) : some (Value.long x) = some (Value.long y) := h ▸ rfl
theorem own_rr {x y : Addr} (h : x = y) : some (Value.ref x) = some (Value.ref y) := h ▸ rfl
theorem own_eq_int {args : Array Value} {first s : State} {o : Option Outcome} {idx : List Nat} {a : Term} {k : Int32} (h : (Cond.eq a (.int k)).value args first o s idx = some true) : a.eval args first o idx s = some (.int k) := by
  simp only [Cond.value, Term.eval] at h
  cases ht : a.eval args first o idx s with
  | none => simp [ht] at h
  | some x => cases x <;> simp [ht] at h ⊢; exact h
theorem own_eq_long {args : Array Value} {first s : State} {o : Option Outcome} {idx : List Nat} {a : Term} {k : Int64} (h : (Cond.eq a (.long k)).value args first o s idx = some true) : a.eval args first o idx s = some (.long k) := by
  simp only [Cond.value, Term.eval] at h
  cases ht : a.eval args first o idx s with
  | none => simp [ht] at h
  | some x => cases x <;> simp [ht] at h ⊢; exact h
theorem own_selP {s : State} {args : Array Value} {y : MethodName} {n : Nat} (wi : (Cond.instantiable y.cls n).before args s = true) (hp : s.PrivateAt y) (hi : (Cond.instanceMethod y).before args s = true) (hy : y.cls ≠ "java/lang/invoke/MethodHandle" ∧ y.cls ≠ "java/lang/invoke/VarHandle") : (Cond.selects y.cls y y).before args s = true := by
  obtain ⟨c, k, h1, h2, -, h4, -⟩ := Cond.instantiable_spec wi
  exact selects_self_of_private h1 h2 (Bool.or_eq_false_iff.mp h4).1 hp hi hy
variable {p : Program} {l : Launch} {e : Env} {R : Room} {s : State} {m : MethodId} {args : Array Value} {below : List Frame} {meth : Method} {c : Code} {T : State} {locs : List Loc} {cells slots : Nat} {Z : State} {h : Heap}
theorem retI (X : Stand p l e R s m args below meth c T locs cells slots) (hx : p.tables.exec = Jvm.exec) {pc : Nat} {Ls : Array Slot} {z : Int32} {rest : List Value} (hret : meth.sig.returnType = some .int) (hd : decode c.code pc = .ok (.ireturn, 1)) {fs : List Frame}
    (hl : ∀ (f : JFrame) (acts : List Action), f.method = m → f.locked = none → f.entered = [] → (doReturn e (T.setTop f) acts (some (.int z))).1 = T.setFrames fs) : Steps p.tables e below (T.setTop (mkF m pc Ls (.int z :: rest))) (T.setFrames fs) :=
  retOut X hx hret rfl (Or.inl ⟨rfl, Or.inl rfl, z, rfl⟩) hd hl
theorem own_len (X : Stand p l e R s m args below meth c T locs cells slots) (hx : p.tables.exec = Jvm.exec) (hZ : Z.Warmed39 s.vm) (eT : T.heap = h) {a : Addr} {cl : Cell} {ty : FieldType} (A : Arr Z h a cl ty) {z : Int32} (S : cl.slots.size = z.toNatClampNeg) (N : ¬ z < 0)
    {g : JFrame} (hg : g.method = m) {rest : List Value} (hs : g.stack = .ref a :: rest) (hd : decode c.code g.pc = .ok (.arraylength, 1)) {target : State}
    (k : Steps p.tables e below (T.setTop { g with pc := g.pc + 1, stack := .int z :: rest }) target) : Steps p.tables e below (T.setTop g) target :=
  X.arraylength hx (by rw [eT]; exact A.1) (State.isArrayOf_alike hZ.alike A.2.1) hg hs hd target (by rw [len_of S N]; exact k)
end Own
end Jvm.RoadKit
namespace Jvm.Pilot.@@N@@
open Jvm Jvm.ClassFile Sem Op Lib Jvm.Free Jvm.Stand Jvm.LawKit Jvm.RoadKit Bundle Jvm.Pilot.@@N@@.Jvm.D
def own_max (a b : Int64) : Int64 := if a < b then b else a
def own_pk (k : Int32) (a b s e v : Int64) : Int64 := if k = 0 then a else if k = 1 then b else if k = 2 then s else if k = 3 then e else if k = 4 then e - 1 else if k = 5 then s - 1 else if k = 6 then b + 1 else v
def own_inc (f l x : Int64) : Int32 := if x < f then 0 else if l < x then 0 else 1
def own_f (s e : Int64) : Int64 := if s < e then s else 0
def own_l (s e : Int64) : Int64 := if s < e then e - 1 else -1
theorem own_m1 {m : Int64} : ¬ own_max 1 m < (1 : Int64) := by
  unfold own_max
  split
  · rw [Int64.lt_iff_toInt_lt] at *
    omega
  · decide
theorem own_em {s e : Int64} (h : s < e) : (e - 1).toInt = e.toInt - 1 := by
  have h1 := c_lsub e 1
  have e1 : (1 : Int64).toInt = 1 := by decide
  rw [e1] at h1
  rw [Int64.lt_iff_toInt_lt] at h
  have r1 := rng64 e
  have r2 := rng64 s
  have r3 := rng64 (e - 1)
  omega
theorem own_z1 : (0 : Int64).toInt = 0 ∧ (-1 : Int64).toInt = -1 := by decide
theorem own_w (s e x : Int64) : own_inc (own_f s e) (own_l s e) x = if x < s then 0 else if x < e then 1 else 0 := by
  unfold own_inc own_f own_l
  by_cases h : s < e
  · have h1 := own_em h
    simp only [h, if_true]
    simp only [Int64.lt_iff_toInt_lt, h1]
    by_cases a : x.toInt < s.toInt
    · rw [if_pos a, if_pos a]
    · rw [if_neg a, if_neg a]
      by_cases b : x.toInt < e.toInt
      · rw [if_pos b, if_neg (by omega)]
      · rw [if_neg b, if_pos (by omega)]
  · have h0 := own_z1
    have h' := h
    rw [Int64.lt_iff_toInt_lt] at h'
    simp only [h, if_false]
    simp only [Int64.lt_iff_toInt_lt, h0.1, h0.2]
    by_cases a : x.toInt < 0
    · rw [if_pos a]
      by_cases b : x.toInt < s.toInt
      · rw [if_pos b]
      · rw [if_neg b, if_neg (by omega)]
    · rw [if_neg a, if_pos (by omega)]
      by_cases b : x.toInt < s.toInt
      · rw [if_pos b]
      · rw [if_neg b, if_neg (by omega)]
theorem own_pf_java_lang_Mathmax : plainFor (⟨"java/lang/Math", "max", "(JJ)J"⟩ : MethodName) = true := by first | exact Jvm.Free.JP.mathPlain rfl (by decide +kernel) | decide +kernel
theorem own_djdk_29_method_66_code_0 : decode jdk_29_method_66_code 0 = .ok (.lload_n 0, 1) := by decide +kernel
theorem own_djdk_29_method_66_code_1 : decode jdk_29_method_66_code 1 = .ok (.lload_n 2, 1) := by decide +kernel
theorem own_djdk_29_method_66_code_2 : decode jdk_29_method_66_code 2 = .ok (.lcmp, 1) := by decide +kernel
theorem own_djdk_29_method_66_code_3 : decode jdk_29_method_66_code 3 = .ok (.ifCond .lt 7, 3) := by decide +kernel
theorem own_djdk_29_method_66_code_10 : decode jdk_29_method_66_code 10 = .ok (.lload_n 2, 1) := by decide +kernel
theorem own_djdk_29_method_66_code_11 : decode jdk_29_method_66_code 11 = .ok (.lreturn, 1) := by decide +kernel
theorem own_djdk_29_method_66_code_6 : decode jdk_29_method_66_code 6 = .ok (.lload_n 0, 1) := by decide +kernel
theorem own_djdk_29_method_66_code_7 : decode jdk_29_method_66_code 7 = .ok (.goto 4, 3) := by decide +kernel
theorem own_efM (m : MethodId) (q1 : Int64) (q2 : Int64) : entryFrame m #[(.long q1), (.long q2)] 4 = mkF m 0 #[.val (.long q1), .second, .val (.long q2), .second] [] := by first | (simp [entryFrame, mkF, argsToLocals, Value.category]; done) | rfl
def own_QM (Z : State) (q1 : Int64) (q2 : Int64) (h0 : Heap) (n0 : Nat) (rv__ : Option Value) (h : Heap) (rL__ : List Loc) : Prop := rv__ = some (.long (own_max q1 q2)) ∧ Fr n0 rL__ ∧ h = h0
abbrev own_RM : Room := { frames := 0, cells := 0, slots := 0, locals := 0 }
set_option maxRecDepth 65536 in
set_option maxHeartbeats 40000000 in
theorem own_rmM (l : Launch) (Z : State) (a0 : Array Value) (hw : ∀ d ∈ tables_1, d.before a0 Z = true) (ws : List Jvm.Cond) (q1 : Int64) (q2 : Int64) (h0 : Heap) (n0 : Nat) (Z0 : n0 ≤ h0.size)  :
    MetFree l (⟨"java/lang/Math", "max", "(JJ)J"⟩ : MethodName) (head1 (Jvm.Cond.code (⟨"java/lang/Math", "max", "(JJ)J"⟩ : MethodName) jdk_29_method_66_code 4 (some .long) :: ws) own_RM) (fun aa__ U => aa__ = #[(.long q1), (.long q2)] ∧ Z.Warmed39 U.vm ∧ U.heap = h0) (fun _ _ _ _ _ => True) (fun _ U oc_ U' => ∃ rv__ rL__, oc_ = .returned rv__ ∧ own_QM Z q1 q2 h0 n0 rv__ U'.heap rL__ ∧ FrameEnd U oc_ U' rL__ own_RM.cells own_RM.slots) := by
  refine MetFree.of_bodySF own_pf_java_lang_Mathmax hisR ?_
  intro p e s m args below meth c s₁ Bd hml0 hP hK
  obtain ⟨rfl, hZ, hh⟩ := hP
  have hx := Bd.exec
  have hby := Bd.bytes
  have hml : c.maxLocals = 4 := hml0
  have hown : s.vm.findClass "java/lang/Math" = some m.cls := findClass_of_methodNamed Bd.named
  have hnm := (name_of_methodNamed Bd.named Bd.method).1
  have X0 : Stand p l e own_RM s m #[(.long q1), (.long q2)] below meth c s₁ [] 0 0 := Stand.of_body Bd
  have e0 : s₁.heap = h0 := by rw [← hh, Bd.state]; rfl
  have N0 := Fr.nil n0
  refine own_in (fun _ k => castTop (own_efM m q1 q2) k) ?_
  intro RR hRR
  show own_Go p.tables e below RR (s₁.setTop (mkF m 0 #[.val (.long q1), .second, .val (.long q2), .second] []))
  refine own_st (fun _ k => XS.lloadN X0.here hx rfl (hb hby own_djdk_29_method_66_code_0) rfl (XS.lloadN X0.here hx rfl (hb hby own_djdk_29_method_66_code_1) rfl (XS.lcmp X0.here hx rfl (hb hby own_djdk_29_method_66_code_2) rfl k))) ?_
  show own_Go p.tables e below RR (s₁.setTop (mkF m 3 #[.val (.long q1), .second, .val (.long q2), .second] [(.int (lcmpW q1 q2))]))
  by_cases hc3_1 : q1 < q2
  · refine own_st (fun _ k => XS.ifYes X0.here hx rfl (pc0 := 3) (pc' := 10) rfl (hb hby own_djdk_29_method_66_code_3) rfl ((if0 _ _).trans (tlt ((lw_lt _ _).mpr hc3_1)).1) (by decide) (by decide) (XS.lloadN X0.here hx rfl (hb hby own_djdk_29_method_66_code_10) rfl k)) ?_
    show own_Go p.tables e below RR (s₁.setTop (mkF m 11 #[.val (.long q1), .second, .val (.long q2), .second] [(.long q2)]))
    obtain ⟨fs, hrt_, hrun, hended, hW, hsame⟩ := X0.leave (v := some (.long q2)) (fun h => by rw [Bd.returns] at h; cases h)
    refine own_fin (retOut X0 hx Bd.returns rfl (Or.inr (Or.inl ⟨rfl, rfl, _, rfl⟩)) (hb hby own_djdk_29_method_66_code_11) hrt_) (hRR _ ⟨_, hrun, hended, _, _, rfl, ?_, ⟨_, rfl⟩, hW, hsame.mono (by decide) (by decide)⟩)
    show own_QM Z q1 q2 h0 n0 _ s₁.heap _
    rw [e0]
    exact ⟨own_rj (by first | (simp only [own_max, hc3_1, if_true, if_false]; done) | simp [own_max, hc3_1]), N0, rfl⟩
  · refine own_st (fun _ k => XS.ifNo X0.here hx rfl (hb hby own_djdk_29_method_66_code_3) rfl ((if0 _ _).trans (flt (fun q => hc3_1 ((lw_lt _ _).mp q))).1) (XS.lloadN X0.here hx rfl (hb hby own_djdk_29_method_66_code_6) rfl (XS.goto X0.here hx rfl (pc0 := 7) (pc' := 11) rfl (hb hby own_djdk_29_method_66_code_7) (by decide) (by decide) k))) ?_
    show own_Go p.tables e below RR (s₁.setTop (mkF m 11 #[.val (.long q1), .second, .val (.long q2), .second] [(.long q1)]))
    obtain ⟨fs, hrt_, hrun, hended, hW, hsame⟩ := X0.leave (v := some (.long q1)) (fun h => by rw [Bd.returns] at h; cases h)
    refine own_fin (retOut X0 hx Bd.returns rfl (Or.inr (Or.inl ⟨rfl, rfl, _, rfl⟩)) (hb hby own_djdk_29_method_66_code_11) hrt_) (hRR _ ⟨_, hrun, hended, _, _, rfl, ?_, ⟨_, rfl⟩, hW, hsame.mono (by decide) (by decide)⟩)
    show own_QM Z q1 q2 h0 n0 _ s₁.heap _
    rw [e0]
    exact ⟨own_rj (by first | (simp only [own_max, hc3_1, if_true, if_false]; done) | simp [own_max, hc3_1]), N0, rfl⟩
theorem own_pn_com_example_vigilant_cells_vigilantcells_model_ReadOptionsIncludesPinLaw : plainName "com/example/vigilant_cells/vigilantcells/model/ReadOptionsIncludesPinLaw" = true := by first | (simp [plainName, overriddenIn]; done) | decide +kernel
theorem own_dmethod_2_code_0 : decode method_2_code 0 = .ok (.iload_n 0, 1) := by decide +kernel
theorem own_dmethod_2_code_1 : decode method_2_code 1 = .ok (.ifCond .ne 5, 3) := by decide +kernel
theorem own_dmethod_2_code_4 : decode method_2_code 4 = .ok (.lload_n 1, 1) := by decide +kernel
theorem own_dmethod_2_code_5 : decode method_2_code 5 = .ok (.lreturn, 1) := by decide +kernel
theorem own_dmethod_2_code_6 : decode method_2_code 6 = .ok (.iload_n 0, 1) := by decide +kernel
theorem own_dmethod_2_code_7 : decode method_2_code 7 = .ok (.iconst 1, 1) := by decide +kernel
theorem own_dmethod_2_code_8 : decode method_2_code 8 = .ok (.if_icmp .ne 5, 3) := by decide +kernel
theorem own_dmethod_2_code_11 : decode method_2_code 11 = .ok (.lload_n 3, 1) := by decide +kernel
theorem own_dmethod_2_code_12 : decode method_2_code 12 = .ok (.lreturn, 1) := by decide +kernel
theorem own_dmethod_2_code_13 : decode method_2_code 13 = .ok (.iload_n 0, 1) := by decide +kernel
theorem own_dmethod_2_code_14 : decode method_2_code 14 = .ok (.iconst 2, 1) := by decide +kernel
theorem own_dmethod_2_code_15 : decode method_2_code 15 = .ok (.if_icmp .ne 6, 3) := by decide +kernel
theorem own_dmethod_2_code_18 : decode method_2_code 18 = .ok (.lload 5, 2) := by decide +kernel
theorem own_dmethod_2_code_20 : decode method_2_code 20 = .ok (.lreturn, 1) := by decide +kernel
theorem own_dmethod_2_code_21 : decode method_2_code 21 = .ok (.iload_n 0, 1) := by decide +kernel
theorem own_dmethod_2_code_22 : decode method_2_code 22 = .ok (.iconst 3, 1) := by decide +kernel
theorem own_dmethod_2_code_23 : decode method_2_code 23 = .ok (.if_icmp .ne 6, 3) := by decide +kernel
theorem own_dmethod_2_code_26 : decode method_2_code 26 = .ok (.lload 7, 2) := by decide +kernel
theorem own_dmethod_2_code_28 : decode method_2_code 28 = .ok (.lreturn, 1) := by decide +kernel
theorem own_dmethod_2_code_29 : decode method_2_code 29 = .ok (.iload_n 0, 1) := by decide +kernel
theorem own_dmethod_2_code_30 : decode method_2_code 30 = .ok (.iconst 4, 1) := by decide +kernel
theorem own_dmethod_2_code_31 : decode method_2_code 31 = .ok (.if_icmp .ne 8, 3) := by decide +kernel
theorem own_dmethod_2_code_34 : decode method_2_code 34 = .ok (.lload 7, 2) := by decide +kernel
theorem own_dmethod_2_code_36 : decode method_2_code 36 = .ok (.lconst 1, 1) := by decide +kernel
theorem own_dmethod_2_code_37 : decode method_2_code 37 = .ok (.lsub, 1) := by decide +kernel
theorem own_dmethod_2_code_38 : decode method_2_code 38 = .ok (.lreturn, 1) := by decide +kernel
theorem own_dmethod_2_code_39 : decode method_2_code 39 = .ok (.iload_n 0, 1) := by decide +kernel
theorem own_dmethod_2_code_40 : decode method_2_code 40 = .ok (.iconst 5, 1) := by decide +kernel
theorem own_dmethod_2_code_41 : decode method_2_code 41 = .ok (.if_icmp .ne 8, 3) := by decide +kernel
theorem own_dmethod_2_code_44 : decode method_2_code 44 = .ok (.lload 5, 2) := by decide +kernel
theorem own_dmethod_2_code_46 : decode method_2_code 46 = .ok (.lconst 1, 1) := by decide +kernel
theorem own_dmethod_2_code_47 : decode method_2_code 47 = .ok (.lsub, 1) := by decide +kernel
theorem own_dmethod_2_code_48 : decode method_2_code 48 = .ok (.lreturn, 1) := by decide +kernel
theorem own_dmethod_2_code_49 : decode method_2_code 49 = .ok (.iload_n 0, 1) := by decide +kernel
theorem own_dmethod_2_code_50 : decode method_2_code 50 = .ok (.bipush 6, 2) := by decide +kernel
theorem own_dmethod_2_code_52 : decode method_2_code 52 = .ok (.if_icmp .ne 7, 3) := by decide +kernel
theorem own_dmethod_2_code_55 : decode method_2_code 55 = .ok (.lload_n 3, 1) := by decide +kernel
theorem own_dmethod_2_code_56 : decode method_2_code 56 = .ok (.lconst 1, 1) := by decide +kernel
theorem own_dmethod_2_code_57 : decode method_2_code 57 = .ok (.ladd, 1) := by decide +kernel
theorem own_dmethod_2_code_58 : decode method_2_code 58 = .ok (.lreturn, 1) := by decide +kernel
theorem own_dmethod_2_code_59 : decode method_2_code 59 = .ok (.lload 9, 2) := by decide +kernel
theorem own_dmethod_2_code_61 : decode method_2_code 61 = .ok (.lreturn, 1) := by decide +kernel
theorem own_efP (m : MethodId) (p1 : Int32) (q1 : Int64) (q2 : Int64) (q3 : Int64) (q4 : Int64) (q5 : Int64) : entryFrame m #[(.int p1), (.long q1), (.long q2), (.long q3), (.long q4), (.long q5)] 11 = mkF m 0 #[.val (.int p1), .val (.long q1), .second, .val (.long q2), .second, .val (.long q3), .second, .val (.long q4), .second, .val (.long q5), .second] [] := by first | (simp [entryFrame, mkF, argsToLocals, Value.category]; done) | rfl
def own_QP (Z : State) (p1 : Int32) (q1 : Int64) (q2 : Int64) (q3 : Int64) (q4 : Int64) (q5 : Int64) (h0 : Heap) (n0 : Nat) (rv__ : Option Value) (h : Heap) (rL__ : List Loc) : Prop := rv__ = some (.long (own_pk p1 q1 q2 q3 q4 q5)) ∧ Fr n0 rL__ ∧ h = h0
abbrev own_RP : Room := { frames := 0, cells := 0, slots := 0, locals := 0 }
set_option maxRecDepth 65536 in
set_option maxHeartbeats 40000000 in
theorem own_rmP (l : Launch) (Z : State) (a0 : Array Value) (hw : ∀ d ∈ tables_1, d.before a0 Z = true) (ws : List Jvm.Cond) (p1 : Int32) (q1 : Int64) (q2 : Int64) (q3 : Int64) (q4 : Int64) (q5 : Int64) (h0 : Heap) (n0 : Nat) (Z0 : n0 ≤ h0.size)  :
    MetFree l (⟨"com/example/vigilant_cells/vigilantcells/model/ReadOptionsIncludesPinLaw", "pick", "(IJJJJJ)J"⟩ : MethodName) (head1 (Jvm.Cond.code (⟨"com/example/vigilant_cells/vigilantcells/model/ReadOptionsIncludesPinLaw", "pick", "(IJJJJJ)J"⟩ : MethodName) method_2_code 11 (some .long) :: ws) own_RP) (fun aa__ U => aa__ = #[(.int p1), (.long q1), (.long q2), (.long q3), (.long q4), (.long q5)] ∧ Z.Warmed39 U.vm ∧ U.heap = h0) (fun _ _ _ _ _ => True) (fun _ U oc_ U' => ∃ rv__ rL__, oc_ = .returned rv__ ∧ own_QP Z p1 q1 q2 q3 q4 q5 h0 n0 rv__ U'.heap rL__ ∧ FrameEnd U oc_ U' rL__ own_RP.cells own_RP.slots) := by
  refine MetFree.of_bodySF (plainFor_of_name own_pn_com_example_vigilant_cells_vigilantcells_model_ReadOptionsIncludesPinLaw) hisR ?_
  intro p e s m args below meth c s₁ Bd hml0 hP hK
  obtain ⟨rfl, hZ, hh⟩ := hP
  have hx := Bd.exec
  have hby := Bd.bytes
  have hml : c.maxLocals = 11 := hml0
  have hown : s.vm.findClass "com/example/vigilant_cells/vigilantcells/model/ReadOptionsIncludesPinLaw" = some m.cls := findClass_of_methodNamed Bd.named
  have hnm := (name_of_methodNamed Bd.named Bd.method).1
  have X0 : Stand p l e own_RP s m #[(.int p1), (.long q1), (.long q2), (.long q3), (.long q4), (.long q5)] below meth c s₁ [] 0 0 := Stand.of_body Bd
  have e0 : s₁.heap = h0 := by rw [← hh, Bd.state]; rfl
  have N0 := Fr.nil n0
  refine own_in (fun _ k => castTop (own_efP m p1 q1 q2 q3 q4 q5) k) ?_
  intro RR hRR
  show own_Go p.tables e below RR (s₁.setTop (mkF m 0 #[.val (.int p1), .val (.long q1), .second, .val (.long q2), .second, .val (.long q3), .second, .val (.long q4), .second, .val (.long q5), .second] []))
  refine own_st (fun _ k => XS.iloadN X0.here hx rfl (hb hby own_dmethod_2_code_0) rfl k) ?_
  show own_Go p.tables e below RR (s₁.setTop (mkF m 1 #[.val (.int p1), .val (.long q1), .second, .val (.long q2), .second, .val (.long q3), .second, .val (.long q4), .second, .val (.long q5), .second] [(.int p1)]))
  by_cases hc1_1 : p1 = (0 : Int32)
  · refine own_st (fun _ k => XS.ifNo X0.here hx rfl (hb hby own_dmethod_2_code_1) rfl ((if0 _ _).trans (teq hc1_1).2) (XS.lloadN X0.here hx rfl (hb hby own_dmethod_2_code_4) rfl k)) ?_
    show own_Go p.tables e below RR (s₁.setTop (mkF m 5 #[.val (.int p1), .val (.long q1), .second, .val (.long q2), .second, .val (.long q3), .second, .val (.long q4), .second, .val (.long q5), .second] [(.long q1)]))
    obtain ⟨fs, hrt_, hrun, hended, hW, hsame⟩ := X0.leave (v := some (.long q1)) (fun h => by rw [Bd.returns] at h; cases h)
    refine own_fin (retOut X0 hx Bd.returns rfl (Or.inr (Or.inl ⟨rfl, rfl, _, rfl⟩)) (hb hby own_dmethod_2_code_5) hrt_) (hRR _ ⟨_, hrun, hended, _, _, rfl, ?_, ⟨_, rfl⟩, hW, hsame.mono (by decide) (by decide)⟩)
    show own_QP Z p1 q1 q2 q3 q4 q5 h0 n0 _ s₁.heap _
    rw [e0]
    exact ⟨own_rj (by first | (simp only [own_pk, hc1_1, if_true, if_false]; done) | simp [own_pk, hc1_1]), N0, rfl⟩
  · refine own_st (fun _ k => XS.ifYes X0.here hx rfl (pc0 := 1) (pc' := 6) rfl (hb hby own_dmethod_2_code_1) rfl ((if0 _ _).trans (feq hc1_1).2) (by decide) (by decide) (XS.iloadN X0.here hx rfl (hb hby own_dmethod_2_code_6) rfl (XS.iconst X0.here hx rfl (hb hby own_dmethod_2_code_7) k))) ?_
    show own_Go p.tables e below RR (s₁.setTop (mkF m 8 #[.val (.int p1), .val (.long q1), .second, .val (.long q2), .second, .val (.long q3), .second, .val (.long q4), .second, .val (.long q5), .second] [(.int (1 : Int32)), (.int p1)]))
    by_cases hc8_2 : p1 = (1 : Int32)
    · refine own_st (fun _ k => XS.icmpNo X0.here hx rfl (hb hby own_dmethod_2_code_8) rfl (teq hc8_2).2 (XS.lloadN X0.here hx rfl (hb hby own_dmethod_2_code_11) rfl k)) ?_
      show own_Go p.tables e below RR (s₁.setTop (mkF m 12 #[.val (.int p1), .val (.long q1), .second, .val (.long q2), .second, .val (.long q3), .second, .val (.long q4), .second, .val (.long q5), .second] [(.long q2)]))
      obtain ⟨fs, hrt_, hrun, hended, hW, hsame⟩ := X0.leave (v := some (.long q2)) (fun h => by rw [Bd.returns] at h; cases h)
      refine own_fin (retOut X0 hx Bd.returns rfl (Or.inr (Or.inl ⟨rfl, rfl, _, rfl⟩)) (hb hby own_dmethod_2_code_12) hrt_) (hRR _ ⟨_, hrun, hended, _, _, rfl, ?_, ⟨_, rfl⟩, hW, hsame.mono (by decide) (by decide)⟩)
      show own_QP Z p1 q1 q2 q3 q4 q5 h0 n0 _ s₁.heap _
      rw [e0]
      exact ⟨own_rj (by first | (simp only [own_pk, hc1_1, hc8_2, if_true, if_false]; done) | simp [own_pk, hc1_1, hc8_2]), N0, rfl⟩
    · refine own_st (fun _ k => XS.icmpYes X0.here hx rfl (pc0 := 8) (pc' := 13) rfl (hb hby own_dmethod_2_code_8) rfl (feq hc8_2).2 (by decide) (by decide) (XS.iloadN X0.here hx rfl (hb hby own_dmethod_2_code_13) rfl (XS.iconst X0.here hx rfl (hb hby own_dmethod_2_code_14) k))) ?_
      show own_Go p.tables e below RR (s₁.setTop (mkF m 15 #[.val (.int p1), .val (.long q1), .second, .val (.long q2), .second, .val (.long q3), .second, .val (.long q4), .second, .val (.long q5), .second] [(.int (2 : Int32)), (.int p1)]))
      by_cases hc15_3 : p1 = (2 : Int32)
      · refine own_st (fun _ k => XS.icmpNo X0.here hx rfl (hb hby own_dmethod_2_code_15) rfl (teq hc15_3).2 (XS.lload X0.here hx rfl (hb hby own_dmethod_2_code_18) rfl k)) ?_
        show own_Go p.tables e below RR (s₁.setTop (mkF m 20 #[.val (.int p1), .val (.long q1), .second, .val (.long q2), .second, .val (.long q3), .second, .val (.long q4), .second, .val (.long q5), .second] [(.long q3)]))
        obtain ⟨fs, hrt_, hrun, hended, hW, hsame⟩ := X0.leave (v := some (.long q3)) (fun h => by rw [Bd.returns] at h; cases h)
        refine own_fin (retOut X0 hx Bd.returns rfl (Or.inr (Or.inl ⟨rfl, rfl, _, rfl⟩)) (hb hby own_dmethod_2_code_20) hrt_) (hRR _ ⟨_, hrun, hended, _, _, rfl, ?_, ⟨_, rfl⟩, hW, hsame.mono (by decide) (by decide)⟩)
        show own_QP Z p1 q1 q2 q3 q4 q5 h0 n0 _ s₁.heap _
        rw [e0]
        exact ⟨own_rj (by first | (simp only [own_pk, hc1_1, hc8_2, hc15_3, if_true, if_false]; done) | simp [own_pk, hc1_1, hc8_2, hc15_3]), N0, rfl⟩
      · refine own_st (fun _ k => XS.icmpYes X0.here hx rfl (pc0 := 15) (pc' := 21) rfl (hb hby own_dmethod_2_code_15) rfl (feq hc15_3).2 (by decide) (by decide) (XS.iloadN X0.here hx rfl (hb hby own_dmethod_2_code_21) rfl (XS.iconst X0.here hx rfl (hb hby own_dmethod_2_code_22) k))) ?_
        show own_Go p.tables e below RR (s₁.setTop (mkF m 23 #[.val (.int p1), .val (.long q1), .second, .val (.long q2), .second, .val (.long q3), .second, .val (.long q4), .second, .val (.long q5), .second] [(.int (3 : Int32)), (.int p1)]))
        by_cases hc23_4 : p1 = (3 : Int32)
        · refine own_st (fun _ k => XS.icmpNo X0.here hx rfl (hb hby own_dmethod_2_code_23) rfl (teq hc23_4).2 (XS.lload X0.here hx rfl (hb hby own_dmethod_2_code_26) rfl k)) ?_
          show own_Go p.tables e below RR (s₁.setTop (mkF m 28 #[.val (.int p1), .val (.long q1), .second, .val (.long q2), .second, .val (.long q3), .second, .val (.long q4), .second, .val (.long q5), .second] [(.long q4)]))
          obtain ⟨fs, hrt_, hrun, hended, hW, hsame⟩ := X0.leave (v := some (.long q4)) (fun h => by rw [Bd.returns] at h; cases h)
          refine own_fin (retOut X0 hx Bd.returns rfl (Or.inr (Or.inl ⟨rfl, rfl, _, rfl⟩)) (hb hby own_dmethod_2_code_28) hrt_) (hRR _ ⟨_, hrun, hended, _, _, rfl, ?_, ⟨_, rfl⟩, hW, hsame.mono (by decide) (by decide)⟩)
          show own_QP Z p1 q1 q2 q3 q4 q5 h0 n0 _ s₁.heap _
          rw [e0]
          exact ⟨own_rj (by first | (simp only [own_pk, hc1_1, hc8_2, hc15_3, hc23_4, if_true, if_false]; done) | simp [own_pk, hc1_1, hc8_2, hc15_3, hc23_4]), N0, rfl⟩
        · refine own_st (fun _ k => XS.icmpYes X0.here hx rfl (pc0 := 23) (pc' := 29) rfl (hb hby own_dmethod_2_code_23) rfl (feq hc23_4).2 (by decide) (by decide) (XS.iloadN X0.here hx rfl (hb hby own_dmethod_2_code_29) rfl (XS.iconst X0.here hx rfl (hb hby own_dmethod_2_code_30) k))) ?_
          show own_Go p.tables e below RR (s₁.setTop (mkF m 31 #[.val (.int p1), .val (.long q1), .second, .val (.long q2), .second, .val (.long q3), .second, .val (.long q4), .second, .val (.long q5), .second] [(.int (4 : Int32)), (.int p1)]))
          by_cases hc31_5 : p1 = (4 : Int32)
          · refine own_st (fun _ k => XS.icmpNo X0.here hx rfl (hb hby own_dmethod_2_code_31) rfl (teq hc31_5).2 (XS.lload X0.here hx rfl (hb hby own_dmethod_2_code_34) rfl (XS.lconst X0.here hx rfl (hb hby own_dmethod_2_code_36) (XS.lsub X0.here hx rfl (hb hby own_dmethod_2_code_37) rfl k)))) ?_
            show own_Go p.tables e below RR (s₁.setTop (mkF m 38 #[.val (.int p1), .val (.long q1), .second, .val (.long q2), .second, .val (.long q3), .second, .val (.long q4), .second, .val (.long q5), .second] [(.long (q4 - (1 : Int64)))]))
            obtain ⟨fs, hrt_, hrun, hended, hW, hsame⟩ := X0.leave (v := some (.long (q4 - (1 : Int64)))) (fun h => by rw [Bd.returns] at h; cases h)
            refine own_fin (retOut X0 hx Bd.returns rfl (Or.inr (Or.inl ⟨rfl, rfl, _, rfl⟩)) (hb hby own_dmethod_2_code_38) hrt_) (hRR _ ⟨_, hrun, hended, _, _, rfl, ?_, ⟨_, rfl⟩, hW, hsame.mono (by decide) (by decide)⟩)
            show own_QP Z p1 q1 q2 q3 q4 q5 h0 n0 _ s₁.heap _
            rw [e0]
            exact ⟨own_rj (by first | (simp only [own_pk, hc1_1, hc8_2, hc15_3, hc23_4, hc31_5, if_true, if_false]; done) | simp [own_pk, hc1_1, hc8_2, hc15_3, hc23_4, hc31_5]), N0, rfl⟩
          · refine own_st (fun _ k => XS.icmpYes X0.here hx rfl (pc0 := 31) (pc' := 39) rfl (hb hby own_dmethod_2_code_31) rfl (feq hc31_5).2 (by decide) (by decide) (XS.iloadN X0.here hx rfl (hb hby own_dmethod_2_code_39) rfl (XS.iconst X0.here hx rfl (hb hby own_dmethod_2_code_40) k))) ?_
            show own_Go p.tables e below RR (s₁.setTop (mkF m 41 #[.val (.int p1), .val (.long q1), .second, .val (.long q2), .second, .val (.long q3), .second, .val (.long q4), .second, .val (.long q5), .second] [(.int (5 : Int32)), (.int p1)]))
            by_cases hc41_6 : p1 = (5 : Int32)
            · refine own_st (fun _ k => XS.icmpNo X0.here hx rfl (hb hby own_dmethod_2_code_41) rfl (teq hc41_6).2 (XS.lload X0.here hx rfl (hb hby own_dmethod_2_code_44) rfl (XS.lconst X0.here hx rfl (hb hby own_dmethod_2_code_46) (XS.lsub X0.here hx rfl (hb hby own_dmethod_2_code_47) rfl k)))) ?_
              show own_Go p.tables e below RR (s₁.setTop (mkF m 48 #[.val (.int p1), .val (.long q1), .second, .val (.long q2), .second, .val (.long q3), .second, .val (.long q4), .second, .val (.long q5), .second] [(.long (q3 - (1 : Int64)))]))
              obtain ⟨fs, hrt_, hrun, hended, hW, hsame⟩ := X0.leave (v := some (.long (q3 - (1 : Int64)))) (fun h => by rw [Bd.returns] at h; cases h)
              refine own_fin (retOut X0 hx Bd.returns rfl (Or.inr (Or.inl ⟨rfl, rfl, _, rfl⟩)) (hb hby own_dmethod_2_code_48) hrt_) (hRR _ ⟨_, hrun, hended, _, _, rfl, ?_, ⟨_, rfl⟩, hW, hsame.mono (by decide) (by decide)⟩)
              show own_QP Z p1 q1 q2 q3 q4 q5 h0 n0 _ s₁.heap _
              rw [e0]
              exact ⟨own_rj (by first | (simp only [own_pk, hc1_1, hc8_2, hc15_3, hc23_4, hc31_5, hc41_6, if_true, if_false]; done) | simp [own_pk, hc1_1, hc8_2, hc15_3, hc23_4, hc31_5, hc41_6]), N0, rfl⟩
            · refine own_st (fun _ k => XS.icmpYes X0.here hx rfl (pc0 := 41) (pc' := 49) rfl (hb hby own_dmethod_2_code_41) rfl (feq hc41_6).2 (by decide) (by decide) (XS.iloadN X0.here hx rfl (hb hby own_dmethod_2_code_49) rfl (XS.bipush X0.here hx rfl (hb hby own_dmethod_2_code_50) k))) ?_
              show own_Go p.tables e below RR (s₁.setTop (mkF m 52 #[.val (.int p1), .val (.long q1), .second, .val (.long q2), .second, .val (.long q3), .second, .val (.long q4), .second, .val (.long q5), .second] [(.int (6 : Int32)), (.int p1)]))
              by_cases hc52_7 : p1 = (6 : Int32)
              · refine own_st (fun _ k => XS.icmpNo X0.here hx rfl (hb hby own_dmethod_2_code_52) rfl (teq hc52_7).2 (XS.lloadN X0.here hx rfl (hb hby own_dmethod_2_code_55) rfl (XS.lconst X0.here hx rfl (hb hby own_dmethod_2_code_56) (XS.ladd X0.here hx rfl (hb hby own_dmethod_2_code_57) rfl k)))) ?_
                show own_Go p.tables e below RR (s₁.setTop (mkF m 58 #[.val (.int p1), .val (.long q1), .second, .val (.long q2), .second, .val (.long q3), .second, .val (.long q4), .second, .val (.long q5), .second] [(.long (q2 + (1 : Int64)))]))
                obtain ⟨fs, hrt_, hrun, hended, hW, hsame⟩ := X0.leave (v := some (.long (q2 + (1 : Int64)))) (fun h => by rw [Bd.returns] at h; cases h)
                refine own_fin (retOut X0 hx Bd.returns rfl (Or.inr (Or.inl ⟨rfl, rfl, _, rfl⟩)) (hb hby own_dmethod_2_code_58) hrt_) (hRR _ ⟨_, hrun, hended, _, _, rfl, ?_, ⟨_, rfl⟩, hW, hsame.mono (by decide) (by decide)⟩)
                show own_QP Z p1 q1 q2 q3 q4 q5 h0 n0 _ s₁.heap _
                rw [e0]
                exact ⟨own_rj (by first | (simp only [own_pk, hc1_1, hc8_2, hc15_3, hc23_4, hc31_5, hc41_6, hc52_7, if_true, if_false]; done) | simp [own_pk, hc1_1, hc8_2, hc15_3, hc23_4, hc31_5, hc41_6, hc52_7]), N0, rfl⟩
              · refine own_st (fun _ k => XS.icmpYes X0.here hx rfl (pc0 := 52) (pc' := 59) rfl (hb hby own_dmethod_2_code_52) rfl (feq hc52_7).2 (by decide) (by decide) (XS.lload X0.here hx rfl (hb hby own_dmethod_2_code_59) rfl k)) ?_
                show own_Go p.tables e below RR (s₁.setTop (mkF m 61 #[.val (.int p1), .val (.long q1), .second, .val (.long q2), .second, .val (.long q3), .second, .val (.long q4), .second, .val (.long q5), .second] [(.long q5)]))
                obtain ⟨fs, hrt_, hrun, hended, hW, hsame⟩ := X0.leave (v := some (.long q5)) (fun h => by rw [Bd.returns] at h; cases h)
                refine own_fin (retOut X0 hx Bd.returns rfl (Or.inr (Or.inl ⟨rfl, rfl, _, rfl⟩)) (hb hby own_dmethod_2_code_61) hrt_) (hRR _ ⟨_, hrun, hended, _, _, rfl, ?_, ⟨_, rfl⟩, hW, hsame.mono (by decide) (by decide)⟩)
                show own_QP Z p1 q1 q2 q3 q4 q5 h0 n0 _ s₁.heap _
                rw [e0]
                exact ⟨own_rj (by first | (simp only [own_pk, hc1_1, hc8_2, hc15_3, hc23_4, hc31_5, hc41_6, hc52_7, if_true, if_false]; done) | simp [own_pk, hc1_1, hc8_2, hc15_3, hc23_4, hc31_5, hc41_6, hc52_7]), N0, rfl⟩
theorem own_pn_java_lang_Record : plainName "java/lang/Record" = true := by first | (simp [plainName, overriddenIn]; done) | decide +kernel
theorem own_djdk_30_method_1_code_0 : decode jdk_30_method_1_code 0 = .ok (.aload_n 0, 1) := by decide +kernel
theorem own_djdk_30_method_1_code_1 : decode jdk_30_method_1_code 1 = .ok (.invokespecial 1, 3) := by decide +kernel
theorem own_djdk_30_method_1_code_4 : decode jdk_30_method_1_code 4 = .ok (.return_, 1) := by decide +kernel
theorem own_efR (m : MethodId) (o : Addr) : entryFrame m #[(.ref o)] 1 = mkF m 0 #[.val (.ref o)] [] := by first | (simp [entryFrame, mkF, argsToLocals, Value.category]; done) | rfl
def own_QR (Z : State) (o : Addr) (h0 : Heap) (n0 : Nat) (rv__ : Option Value) (h : Heap) (rL__ : List Loc) : Prop := rv__ = none ∧ Fr n0 rL__ ∧ h = h0
abbrev own_RR : Room := { frames := 1, cells := 0, slots := 0, locals := 12 }
set_option maxRecDepth 65536 in
set_option maxHeartbeats 40000000 in
theorem own_rmR (l : Launch) (Z : State) (a0 : Array Value) (hw : ∀ d ∈ tables_1, d.before a0 Z = true) (ws : List Jvm.Cond) (o : Addr) (h0 : Heap) (n0 : Nat) (Z0 : n0 ≤ h0.size)  :
    MetFree l (⟨"java/lang/Record", "<init>", "()V"⟩ : MethodName) (head1 (Jvm.Cond.code (⟨"java/lang/Record", "<init>", "()V"⟩ : MethodName) jdk_30_method_1_code 1 none :: ws) own_RR) (fun aa__ U => aa__ = #[(.ref o)] ∧ Z.Warmed39 U.vm ∧ U.heap = h0) (fun _ _ _ _ _ => True) (fun _ U oc_ U' => ∃ rv__ rL__, oc_ = .returned rv__ ∧ own_QR Z o h0 n0 rv__ U'.heap rL__ ∧ FrameEnd U oc_ U' rL__ own_RR.cells own_RR.slots) := by
  refine MetFree.of_bodySF (plainFor_of_name own_pn_java_lang_Record) hisR ?_
  intro p e s m args below meth c s₁ Bd hml0 hP hK
  obtain ⟨rfl, hZ, hh⟩ := hP
  have hx := Bd.exec
  have hby := Bd.bytes
  have hml : c.maxLocals = 1 := hml0
  have hown : s.vm.findClass "java/lang/Record" = some m.cls := findClass_of_methodNamed Bd.named
  have hnm := (name_of_methodNamed Bd.named Bd.method).1
  have X0 : Stand p l e own_RR s m #[(.ref o)] below meth c s₁ [] 0 0 := Stand.of_body Bd
  have e0 : s₁.heap = h0 := by rw [← hh, Bd.state]; rfl
  have N0 := Fr.nil n0
  refine own_in (fun _ k => castTop (own_efR m o) k) ?_
  intro RR hRR
  show own_Go p.tables e below RR (s₁.setTop (mkF m 0 #[.val (.ref o)] []))
  refine own_st (fun _ k => XS.aloadN X0.here hx rfl (hb hby own_djdk_30_method_1_code_0) rfl rfl k) ?_
  show own_Go p.tables e below RR (s₁.setTop (mkF m 1 #[.val (.ref o)] [(.ref o)]))
  obtain ⟨T1, X1, e1, st1⟩ := initO X0 hx hZ hown (hw _ (List.mem_of_getElem? (i := 20) rfl)) (hw _ (List.mem_of_getElem? (i := 21) rfl)) (hw _ (List.mem_of_getElem? (i := 22) rfl)) e0 (g := (mkF m 1 #[.val (.ref o)] [(.ref o)])) rfl (by rw [hml]; rfl) rfl (hb hby own_djdk_30_method_1_code_1) (by decide) (W := 0) (by show 2 * 0 + _ ≤ _; exact Nat.le_of_eq rfl) (by decide)
  refine own_st st1 ?_
  show own_Go p.tables e below RR (T1.setTop (mkF m 4 #[.val (.ref o)] []))
  obtain ⟨fs, hrt_, hrun, hended, hW, hsame⟩ := X1.leave (v := none) (fun _ => rfl)
  refine own_fin (X1.returnOut hx Bd.returns (hb hby own_djdk_30_method_1_code_4) hrt_) (hRR _ ⟨_, hrun, hended, _, _, rfl, ?_, ⟨_, rfl⟩, hW, hsame.mono (by decide) (by decide)⟩)
  show own_QR Z o h0 n0 _ T1.heap _
  rw [e1]
  exact ⟨rfl, N0, rfl⟩
theorem own_pn_com_example_vigilant_cells_vigilantcells_model_ReadOptions : plainName "com/example/vigilant_cells/vigilantcells/model/ReadOptions" = true := by first | (simp [plainName, overriddenIn]; done) | decide +kernel
theorem own_dprog_21_method_1_code_0 : decode prog_21_method_1_code 0 = .ok (.aload_n 0, 1) := by decide +kernel
theorem own_pd___V : parseMethodDescriptor "()V" = some ⟨[], none⟩ := by decide +kernel
theorem own_dprog_21_method_1_code_1 : decode prog_21_method_1_code 1 = .ok (.invokespecial 1, 3) := by decide +kernel
theorem own_dprog_21_method_1_code_4 : decode prog_21_method_1_code 4 = .ok (.lload_n 1, 1) := by decide +kernel
theorem own_dprog_21_method_1_code_5 : decode prog_21_method_1_code 5 = .ok (.lconst 1, 1) := by decide +kernel
theorem own_dprog_21_method_1_code_6 : decode prog_21_method_1_code 6 = .ok (.lcmp, 1) := by decide +kernel
theorem own_dprog_21_method_1_code_7 : decode prog_21_method_1_code 7 = .ok (.ifCond .ge 20, 3) := by decide +kernel
theorem own_dprog_21_method_1_code_27 : decode prog_21_method_1_code 27 = .ok (.aload_n 0, 1) := by decide +kernel
theorem own_dprog_21_method_1_code_28 : decode prog_21_method_1_code 28 = .ok (.lload_n 1, 1) := by decide +kernel
theorem own_dprog_21_method_1_code_29 : decode prog_21_method_1_code 29 = .ok (.putfield 22, 3) := by decide +kernel
theorem own_dprog_21_method_1_code_32 : decode prog_21_method_1_code 32 = .ok (.aload_n 0, 1) := by decide +kernel
theorem own_dprog_21_method_1_code_33 : decode prog_21_method_1_code 33 = .ok (.lload_n 3, 1) := by decide +kernel
theorem own_dprog_21_method_1_code_34 : decode prog_21_method_1_code 34 = .ok (.putfield 28, 3) := by decide +kernel
theorem own_dprog_21_method_1_code_37 : decode prog_21_method_1_code 37 = .ok (.aload_n 0, 1) := by decide +kernel
theorem own_dprog_21_method_1_code_38 : decode prog_21_method_1_code 38 = .ok (.lload 5, 2) := by decide +kernel
theorem own_dprog_21_method_1_code_40 : decode prog_21_method_1_code 40 = .ok (.putfield 31, 3) := by decide +kernel
theorem own_dprog_21_method_1_code_43 : decode prog_21_method_1_code 43 = .ok (.return_, 1) := by decide +kernel
theorem own_efI (m : MethodId) (o : Addr) (q1 : Int64) (q2 : Int64) (q3 : Int64) : entryFrame m #[(.ref o), (.long q1), (.long q2), (.long q3)] 7 = mkF m 0 #[.val (.ref o), .val (.long q1), .second, .val (.long q2), .second, .val (.long q3), .second] [] := by first | (simp [entryFrame, mkF, argsToLocals, Value.category]; done) | rfl
def own_QI (Z : State) (o : Addr) (q1 : Int64) (q2 : Int64) (q3 : Int64) (h0 : Heap) (n0 : Nat) (rv__ : Option Value) (h : Heap) (rL__ : List Loc) : Prop := rv__ = none ∧ Fr n0 rL__ ∧ Keep h0 h [o] ∧ Exa Z h o "com/example/vigilant_cells/vigilantcells/model/ReadOptions" ∧ Fld Z h o "com/example/vigilant_cells/vigilantcells/model/ReadOptions" "maxVersions" "J" (.long q1) ∧ Fld Z h o "com/example/vigilant_cells/vigilantcells/model/ReadOptions" "first" "J" (.long q2) ∧ Fld Z h o "com/example/vigilant_cells/vigilantcells/model/ReadOptions" "last" "J" (.long q3)
abbrev own_RI : Room := { frames := 2, cells := 0, slots := 0, locals := 24 }
set_option maxRecDepth 65536 in
set_option maxHeartbeats 40000000 in
theorem own_rmI (l : Launch) (Z : State) (a0 : Array Value) (hw : ∀ d ∈ tables_1, d.before a0 Z = true) (ws : List Jvm.Cond) (o : Addr) (q1 : Int64) (q2 : Int64) (q3 : Int64) (h0 : Heap) (n0 : Nat) (Z0 : n0 ≤ h0.size) (hq : ¬ q1 < (1 : Int64)) (g_o : n0 ≤ o) (E : Exa Z h0 o "com/example/vigilant_cells/vigilantcells/model/ReadOptions") (F0 : Fld Z h0 o "com/example/vigilant_cells/vigilantcells/model/ReadOptions" "maxVersions" "J" (.long (0 : Int64))) (F1 : Fld Z h0 o "com/example/vigilant_cells/vigilantcells/model/ReadOptions" "first" "J" (.long (0 : Int64))) (F2 : Fld Z h0 o "com/example/vigilant_cells/vigilantcells/model/ReadOptions" "last" "J" (.long (0 : Int64))) :
    MetFree l (⟨"com/example/vigilant_cells/vigilantcells/model/ReadOptions", "<init>", "(JJJ)V"⟩ : MethodName) (head1 (Jvm.Cond.code (⟨"com/example/vigilant_cells/vigilantcells/model/ReadOptions", "<init>", "(JJJ)V"⟩ : MethodName) prog_21_method_1_code 7 none :: ws) own_RI) (fun aa__ U => aa__ = #[(.ref o), (.long q1), (.long q2), (.long q3)] ∧ Z.Warmed39 U.vm ∧ U.heap = h0) (fun _ _ _ _ _ => True) (fun _ U oc_ U' => ∃ rv__ rL__, oc_ = .returned rv__ ∧ own_QI Z o q1 q2 q3 h0 n0 rv__ U'.heap rL__ ∧ FrameEnd U oc_ U' rL__ own_RI.cells own_RI.slots) := by
  refine MetFree.of_bodySF (plainFor_of_name own_pn_com_example_vigilant_cells_vigilantcells_model_ReadOptions) hisR ?_
  intro p e s m args below meth c s₁ Bd hml0 hP hK
  obtain ⟨rfl, hZ, hh⟩ := hP
  have hx := Bd.exec
  have hby := Bd.bytes
  have hml : c.maxLocals = 7 := hml0
  have hown : s.vm.findClass "com/example/vigilant_cells/vigilantcells/model/ReadOptions" = some m.cls := findClass_of_methodNamed Bd.named
  have hnm := (name_of_methodNamed Bd.named Bd.method).1
  have X0 : Stand p l e own_RI s m #[(.ref o), (.long q1), (.long q2), (.long q3)] below meth c s₁ [] 0 0 := Stand.of_body Bd
  have e0 : s₁.heap = h0 := by rw [← hh, Bd.state]; rfl
  have N0 := Fr.nil n0
  refine own_in (fun _ k => castTop (own_efI m o q1 q2 q3) k) ?_
  intro RR hRR
  show own_Go p.tables e below RR (s₁.setTop (mkF m 0 #[.val (.ref o), .val (.long q1), .second, .val (.long q2), .second, .val (.long q3), .second] []))
  refine own_st (fun _ k => XS.aloadN X0.here hx rfl (hb hby own_dprog_21_method_1_code_0) rfl rfl k) ?_
  show own_Go p.tables e below RR (s₁.setTop (mkF m 1 #[.val (.ref o), .val (.long q1), .second, .val (.long q2), .second, .val (.long q3), .second] [(.ref o)]))
  obtain ⟨_, _, ⟨T1, L1, k1, n1⟩, -, X1, ⟨Lc1, hQ1, l1, y1, z1⟩, st1⟩ := X0.specialBack hx (y := (⟨"java/lang/Record", "<init>", "()V"⟩ : MethodName)) rfl hown (mvT hZ (hw _ (List.mem_of_getElem? (i := 15) rfl))) (mvT hZ (hw _ (List.mem_of_getElem? (i := 16) rfl))) (mvT hZ (hw _ (List.mem_of_getElem? (i := 19) rfl))) (by decide) (backOf (W := 0) (own_rmR l Z a0 hw [] o h0 n0 Z0 ) hZ (hw _ (List.mem_of_getElem? (i := 19) rfl)) (hw _ (List.mem_of_getElem? (i := 18) rfl)) (by decide) (by decide)) (g := (mkF m 1 #[.val (.ref o), .val (.long q1), .second, .val (.long q2), .second, .val (.long q3), .second] [(.ref o)])) rfl (by rw [hml]; rfl) (Steps.refl _) (a := o) (argsL := []) (rest := []) (lenOf own_pd___V rfl) rfl (by show 2 * 0 + _ ≤ _; exact Nat.le_of_eq rfl) (hb hby own_dprog_21_method_1_code_1) (fun _ _ => ⟨rfl, e0, (by decide : 0 + 0 ≤ _), (by decide : 0 + 0 ≤ _)⟩)
  dsimp only [Pt.U, Pt.locs, Pt.cells, Pt.slots] at X1 l1 y1 z1 st1 hQ1
  subst l1 y1 z1
  obtain ⟨rfl, Nq1, eq1⟩ := hQ1
  have N1 := Fr.app N0 Nq1
  refine own_st (fun _ k => st1.trans k) ?_
  show own_Go p.tables e below RR (T1.setTop (mkF m 4 #[.val (.ref o), .val (.long q1), .second, .val (.long q2), .second, .val (.long q3), .second] []))
  refine own_st (fun _ k => XS.lloadN X1.here hx rfl (hb hby own_dprog_21_method_1_code_4) rfl (XS.lconst X1.here hx rfl (hb hby own_dprog_21_method_1_code_5) (XS.lcmp X1.here hx rfl (hb hby own_dprog_21_method_1_code_6) rfl k))) ?_
  show own_Go p.tables e below RR (T1.setTop (mkF m 7 #[.val (.ref o), .val (.long q1), .second, .val (.long q2), .second, .val (.long q3), .second] [(.int (lcmpW q1 (1 : Int64)))]))
  have hc7_2 : ¬ (q1 < (1 : Int64)) := hq
  refine own_st (fun _ k => XS.ifYes X1.here hx rfl (pc0 := 7) (pc' := 27) rfl (hb hby own_dprog_21_method_1_code_7) rfl ((if0 _ _).trans (flt (fun q => hc7_2 ((lw_lt _ _).mp q))).2.1) (by decide) (by decide) (XS.aloadN X1.here hx rfl (hb hby own_dprog_21_method_1_code_27) rfl rfl (XS.lloadN X1.here hx rfl (hb hby own_dprog_21_method_1_code_28) rfl k))) ?_
  show own_Go p.tables e below RR (T1.setTop (mkF m 29 #[.val (.ref o), .val (.long q1), .second, .val (.long q2), .second, .val (.long q3), .second] [(.long q1), (.ref o)]))
  obtain ⟨T3, h3, X3, e3, W3, st3⟩ := putF X1 hx hZ hown (host := "") (Or.inl (hw _ (List.mem_of_getElem? (i := 23) rfl))) Via.refl eq1 F0 E (Or.inr ⟨(hw _ (List.mem_of_getElem? (i := 24) rfl)), rfl, hnm⟩) (hw _ (List.mem_of_getElem? (i := 10) rfl)) (ty := .long) (by decide) rfl rfl (g := (mkF m 29 #[.val (.ref o), .val (.long q1), .second, .val (.long q2), .second, .val (.long q3), .second] [(.long q1), (.ref o)])) rfl rfl (hb hby own_dprog_21_method_1_code_29)
  have Fw3 := F0.same W3
  have N3 := Fr.snoc X3 N1 g_o
  refine own_st st3 ?_
  have z4 : n0 ≤ h3.size := Nat.le_trans Z0 (Keep.of_wr W3).1
  have kk5 : Keep h0 h3 [o] := (Keep.refl h0 [o]).wr W3 (Or.inl (List.mem_of_getElem? (i := 0) rfl))
  show own_Go p.tables e below RR (T3.setTop (mkF m 32 #[.val (.ref o), .val (.long q1), .second, .val (.long q2), .second, .val (.long q3), .second] []))
  refine own_st (fun _ k => XS.aloadN X3.here hx rfl (hb hby own_dprog_21_method_1_code_32) rfl rfl (XS.lloadN X3.here hx rfl (hb hby own_dprog_21_method_1_code_33) rfl k)) ?_
  show own_Go p.tables e below RR (T3.setTop (mkF m 34 #[.val (.ref o), .val (.long q1), .second, .val (.long q2), .second, .val (.long q3), .second] [(.long q2), (.ref o)]))
  have f6 := (F1.other W3 (Or.inr (slot_ne (Or.inr (hw _ (List.mem_of_getElem? (i := 26) rfl))) (Or.inr (hw _ (List.mem_of_getElem? (i := 24) rfl))) (by decide) (t := .long) (t' := .long) (by decide) (by decide))))
  have f7 := (E.wr W3)
  obtain ⟨T8, h8, X8, e8, W8, st8⟩ := putF X3 hx hZ hown (host := "") (Or.inl (hw _ (List.mem_of_getElem? (i := 25) rfl))) Via.refl e3 f6 f7 (Or.inr ⟨(hw _ (List.mem_of_getElem? (i := 26) rfl)), rfl, hnm⟩) (hw _ (List.mem_of_getElem? (i := 10) rfl)) (ty := .long) (by decide) rfl rfl (g := (mkF m 34 #[.val (.ref o), .val (.long q1), .second, .val (.long q2), .second, .val (.long q3), .second] [(.long q2), (.ref o)])) rfl rfl (hb hby own_dprog_21_method_1_code_34)
  have Fw8 := f6.same W8
  have N8 := Fr.snoc X8 N3 g_o
  refine own_st st8 ?_
  have z9 : n0 ≤ h8.size := Nat.le_trans z4 (Keep.of_wr W8).1
  have kk10 : Keep h0 h8 [o] := kk5.wr W8 (Or.inl (List.mem_of_getElem? (i := 0) rfl))
  show own_Go p.tables e below RR (T8.setTop (mkF m 37 #[.val (.ref o), .val (.long q1), .second, .val (.long q2), .second, .val (.long q3), .second] []))
  refine own_st (fun _ k => XS.aloadN X8.here hx rfl (hb hby own_dprog_21_method_1_code_37) rfl rfl (XS.lload X8.here hx rfl (hb hby own_dprog_21_method_1_code_38) rfl k)) ?_
  show own_Go p.tables e below RR (T8.setTop (mkF m 40 #[.val (.ref o), .val (.long q1), .second, .val (.long q2), .second, .val (.long q3), .second] [(.long q3), (.ref o)]))
  have f11 := ((F2.other W3 (Or.inr (slot_ne (Or.inr (hw _ (List.mem_of_getElem? (i := 28) rfl))) (Or.inr (hw _ (List.mem_of_getElem? (i := 24) rfl))) (by decide) (t := .long) (t' := .long) (by decide) (by decide)))).other W8 (Or.inr (slot_ne (Or.inr (hw _ (List.mem_of_getElem? (i := 28) rfl))) (Or.inr (hw _ (List.mem_of_getElem? (i := 26) rfl))) (by decide) (t := .long) (t' := .long) (by decide) (by decide))))
  have f12 := (f7.wr W8)
  obtain ⟨T13, h13, X13, e13, W13, st13⟩ := putF X8 hx hZ hown (host := "") (Or.inl (hw _ (List.mem_of_getElem? (i := 27) rfl))) Via.refl e8 f11 f12 (Or.inr ⟨(hw _ (List.mem_of_getElem? (i := 28) rfl)), rfl, hnm⟩) (hw _ (List.mem_of_getElem? (i := 10) rfl)) (ty := .long) (by decide) rfl rfl (g := (mkF m 40 #[.val (.ref o), .val (.long q1), .second, .val (.long q2), .second, .val (.long q3), .second] [(.long q3), (.ref o)])) rfl rfl (hb hby own_dprog_21_method_1_code_40)
  have Fw13 := f11.same W13
  have N13 := Fr.snoc X13 N8 g_o
  refine own_st st13 ?_
  have z14 : n0 ≤ h13.size := Nat.le_trans z9 (Keep.of_wr W13).1
  have kk15 : Keep h0 h13 [o] := kk10.wr W13 (Or.inl (List.mem_of_getElem? (i := 0) rfl))
  show own_Go p.tables e below RR (T13.setTop (mkF m 43 #[.val (.ref o), .val (.long q1), .second, .val (.long q2), .second, .val (.long q3), .second] []))
  obtain ⟨fs, hrt_, hrun, hended, hW, hsame⟩ := X13.leave (v := none) (fun _ => rfl)
  refine own_fin (X13.returnOut hx Bd.returns (hb hby own_dprog_21_method_1_code_43) hrt_) (hRR _ ⟨_, hrun, hended, _, _, rfl, ?_, ⟨_, rfl⟩, hW, hsame.mono (by decide) (by decide)⟩)
  show own_QI Z o q1 q2 q3 h0 n0 _ T13.heap _
  rw [e13]
  have f16 := (f12.wr W13)
  have f17 := ((Fw3.other W8 (Or.inr (slot_ne (Or.inr (hw _ (List.mem_of_getElem? (i := 24) rfl))) (Or.inr (hw _ (List.mem_of_getElem? (i := 26) rfl))) (by decide) (t := .long) (t' := .long) (by decide) (by decide)))).other W13 (Or.inr (slot_ne (Or.inr (hw _ (List.mem_of_getElem? (i := 24) rfl))) (Or.inr (hw _ (List.mem_of_getElem? (i := 28) rfl))) (by decide) (t := .long) (t' := .long) (by decide) (by decide))))
  have f18 := (Fw8.other W13 (Or.inr (slot_ne (Or.inr (hw _ (List.mem_of_getElem? (i := 26) rfl))) (Or.inr (hw _ (List.mem_of_getElem? (i := 28) rfl))) (by decide) (t := .long) (t' := .long) (by decide) (by decide))))
  exact ⟨rfl, N13, kk15, f16, f17, f18, Fw13⟩
theorem own_dprog_21_method_3_code_0 : decode prog_21_method_3_code 0 = .ok (.lload_n 3, 1) := by decide +kernel
theorem own_dprog_21_method_3_code_1 : decode prog_21_method_3_code 1 = .ok (.lload_n 1, 1) := by decide +kernel
theorem own_dprog_21_method_3_code_2 : decode prog_21_method_3_code 2 = .ok (.lcmp, 1) := by decide +kernel
theorem own_dprog_21_method_3_code_3 : decode prog_21_method_3_code 3 = .ok (.ifCond .gt 7, 3) := by decide +kernel
theorem own_dprog_21_method_3_code_10 : decode prog_21_method_3_code 10 = .ok (.iconst 0, 1) := by decide +kernel
theorem own_dprog_21_method_3_code_11 : decode prog_21_method_3_code 11 = .ok (.istore 5, 2) := by decide +kernel
theorem own_dprog_21_method_3_code_13 : decode prog_21_method_3_code 13 = .ok (.new 23, 3) := by decide +kernel
theorem own_dprog_21_method_3_code_16 : decode prog_21_method_3_code 16 = .ok (.dup, 1) := by decide +kernel
theorem own_dprog_21_method_3_code_17 : decode prog_21_method_3_code 17 = .ok (.aload_n 0, 1) := by decide +kernel
theorem own_dprog_21_method_3_code_18 : decode prog_21_method_3_code 18 = .ok (.getfield 22, 3) := by decide +kernel
theorem own_dprog_21_method_3_code_21 : decode prog_21_method_3_code 21 = .ok (.iload 5, 2) := by decide +kernel
theorem own_dprog_21_method_3_code_23 : decode prog_21_method_3_code 23 = .ok (.ifCond .eq 7, 3) := by decide +kernel
theorem own_dprog_21_method_3_code_30 : decode prog_21_method_3_code 30 = .ok (.lload_n 1, 1) := by decide +kernel
theorem own_dprog_21_method_3_code_31 : decode prog_21_method_3_code 31 = .ok (.iload 5, 2) := by decide +kernel
theorem own_dprog_21_method_3_code_33 : decode prog_21_method_3_code 33 = .ok (.ifCond .eq 9, 3) := by decide +kernel
theorem own_dprog_21_method_3_code_42 : decode prog_21_method_3_code 42 = .ok (.lload_n 3, 1) := by decide +kernel
theorem own_dprog_21_method_3_code_43 : decode prog_21_method_3_code 43 = .ok (.lconst 1, 1) := by decide +kernel
theorem own_dprog_21_method_3_code_44 : decode prog_21_method_3_code 44 = .ok (.lsub, 1) := by decide +kernel
theorem own_pd__JJJ_V : parseMethodDescriptor "(JJJ)V" = some ⟨[.long, .long, .long], none⟩ := by decide +kernel
theorem own_dprog_21_method_3_code_45 : decode prog_21_method_3_code 45 = .ok (.invokespecial 34, 3) := by decide +kernel
theorem own_dprog_21_method_3_code_48 : decode prog_21_method_3_code 48 = .ok (.areturn, 1) := by decide +kernel
theorem own_dprog_21_method_3_code_6 : decode prog_21_method_3_code 6 = .ok (.iconst 1, 1) := by decide +kernel
theorem own_dprog_21_method_3_code_7 : decode prog_21_method_3_code 7 = .ok (.goto 4, 3) := by decide +kernel
theorem own_dprog_21_method_3_code_26 : decode prog_21_method_3_code 26 = .ok (.lconst 0, 1) := by decide +kernel
theorem own_dprog_21_method_3_code_27 : decode prog_21_method_3_code 27 = .ok (.goto 4, 3) := by decide +kernel
theorem own_dprog_21_method_3_code_36 : decode prog_21_method_3_code 36 = .ok (.ldc2_w 37, 3) := by decide +kernel
theorem own_dprog_21_method_3_code_39 : decode prog_21_method_3_code 39 = .ok (.goto 6, 3) := by decide +kernel
theorem own_efW (m : MethodId) (o : Addr) (q1 : Int64) (q2 : Int64) : entryFrame m #[(.ref o), (.long q1), (.long q2)] 6 = mkF m 0 #[.val (.ref o), .val (.long q1), .second, .val (.long q2), .second, .unset] [] := by first | (simp [entryFrame, mkF, argsToLocals, Value.category]; done) | rfl
def own_QW (Z : State) (o : Addr) (q1 : Int64) (q2 : Int64) (mv : Int64) (r : Addr) (h0 : Heap) (n0 : Nat) (rv__ : Option Value) (h : Heap) (rL__ : List Loc) : Prop := rv__ = some (.ref r) ∧ Fr n0 rL__ ∧ Keep h0 h [] ∧ Exa Z h r "com/example/vigilant_cells/vigilantcells/model/ReadOptions" ∧ Fld Z h r "com/example/vigilant_cells/vigilantcells/model/ReadOptions" "first" "J" (.long (own_f q1 q2)) ∧ Fld Z h r "com/example/vigilant_cells/vigilantcells/model/ReadOptions" "last" "J" (.long (own_l q1 q2))
abbrev own_RW : Room := { frames := 3, cells := 1, slots := 3, locals := 43 }
set_option maxRecDepth 65536 in
set_option maxHeartbeats 40000000 in
theorem own_rmW (l : Launch) (Z : State) (a0 : Array Value) (hw : ∀ d ∈ tables_1, d.before a0 Z = true) (ws : List Jvm.Cond) (o : Addr) (q1 : Int64) (q2 : Int64) (mv : Int64) (r : Addr) (h0 : Heap) (n0 : Nat) (Z0 : n0 ≤ h0.size) (hm : ¬ mv < (1 : Int64)) (F : Fld Z h0 o "com/example/vigilant_cells/vigilantcells/model/ReadOptions" "maxVersions" "J" (.long mv)) (hr : r = h0.size) :
    MetFree l (⟨"com/example/vigilant_cells/vigilantcells/model/ReadOptions", "withVersionRange", "(JJ)Lcom/example/vigilant_cells/vigilantcells/model/ReadOptions;"⟩ : MethodName) (head1 (Jvm.Cond.code (⟨"com/example/vigilant_cells/vigilantcells/model/ReadOptions", "withVersionRange", "(JJ)Lcom/example/vigilant_cells/vigilantcells/model/ReadOptions;"⟩ : MethodName) prog_21_method_3_code 6 (some (.object "com/example/vigilant_cells/vigilantcells/model/ReadOptions")) :: ws) own_RW) (fun aa__ U => aa__ = #[(.ref o), (.long q1), (.long q2)] ∧ Z.Warmed39 U.vm ∧ U.heap = h0) (fun _ _ _ _ _ => True) (fun _ U oc_ U' => ∃ rv__ rL__, oc_ = .returned rv__ ∧ own_QW Z o q1 q2 mv r h0 n0 rv__ U'.heap rL__ ∧ FrameEnd U oc_ U' rL__ own_RW.cells own_RW.slots) := by
  refine MetFree.of_bodySF (plainFor_of_name own_pn_com_example_vigilant_cells_vigilantcells_model_ReadOptions) hisR ?_
  intro p e s m args below meth c s₁ Bd hml0 hP hK
  obtain ⟨rfl, hZ, hh⟩ := hP
  have hx := Bd.exec
  have hby := Bd.bytes
  have hml : c.maxLocals = 6 := hml0
  have hown : s.vm.findClass "com/example/vigilant_cells/vigilantcells/model/ReadOptions" = some m.cls := findClass_of_methodNamed Bd.named
  have hnm := (name_of_methodNamed Bd.named Bd.method).1
  have X0 : Stand p l e own_RW s m #[(.ref o), (.long q1), (.long q2)] below meth c s₁ [] 0 0 := Stand.of_body Bd
  have e0 : s₁.heap = h0 := by rw [← hh, Bd.state]; rfl
  have N0 := Fr.nil n0
  refine own_in (fun _ k => castTop (own_efW m o q1 q2) k) ?_
  intro RR hRR
  show own_Go p.tables e below RR (s₁.setTop (mkF m 0 #[.val (.ref o), .val (.long q1), .second, .val (.long q2), .second, .unset] []))
  refine own_st (fun _ k => XS.lloadN X0.here hx rfl (hb hby own_dprog_21_method_3_code_0) rfl (XS.lloadN X0.here hx rfl (hb hby own_dprog_21_method_3_code_1) rfl (XS.lcmp X0.here hx rfl (hb hby own_dprog_21_method_3_code_2) rfl k))) ?_
  show own_Go p.tables e below RR (s₁.setTop (mkF m 3 #[.val (.ref o), .val (.long q1), .second, .val (.long q2), .second, .unset] [(.int (lcmpW q2 q1))]))
  by_cases hc3_1 : q1 < q2
  · refine own_st (fun _ k => XS.ifYes X0.here hx rfl (pc0 := 3) (pc' := 10) rfl (hb hby own_dprog_21_method_3_code_3) rfl ((if0 _ _).trans (tlt ((lw_gt _ _).mpr hc3_1)).2.2.1) (by decide) (by decide) (XS.iconst X0.here hx rfl (hb hby own_dprog_21_method_3_code_10) (XS.istore X0.here hx rfl (hb hby own_dprog_21_method_3_code_11) rfl (l' := #[.val (.ref o), .val (.long q1), .second, .val (.long q2), .second, .val (.int (0 : Int32))]) rfl k))) ?_
    show own_Go p.tables e below RR (s₁.setTop (mkF m 13 #[.val (.ref o), .val (.long q1), .second, .val (.long q2), .second, .val (.int (0 : Int32))] []))
    obtain ⟨T2, h2, X2, e2, E2, A2, D2, -, st2⟩ := newO X0 hx hZ hown (hw _ (List.mem_of_getElem? (i := 34) rfl)) (hw _ (List.mem_of_getElem? (i := 10) rfl)) (hw _ (List.mem_of_getElem? (i := 11) rfl)) e0 (g := (mkF m 13 #[.val (.ref o), .val (.long q1), .second, .val (.long q2), .second, .val (.int (0 : Int32))] [])) rfl (hb hby own_dprog_21_method_3_code_13) (by decide) (by decide)
    obtain ⟨b2, gb2⟩ : ∃ z, z = h0.size := ⟨_, rfl⟩
    rw [← gb2] at A2 D2 st2
    have ge2 : n0 ≤ b2 := Nat.le_trans Z0 (Nat.le_of_eq gb2.symm)
    have sz2 : h0.size ≤ b2 := Nat.le_trans (Keep.refl h0 []).1 (Nat.le_of_eq gb2.symm)
    refine own_st st2 ?_
    have z3 : n0 ≤ h2.size := Nat.le_trans Z0 E2.1
    have kk4 : Keep h0 h2 [] := (Keep.refl h0 []).ext E2
    have F2_24 : Fld Z h2 b2 "com/example/vigilant_cells/vigilantcells/model/ReadOptions" "maxVersions" "J" (.long (0 : Int64)) := D2 (Or.inr (hw _ (List.mem_of_getElem? (i := 24) rfl))) (ty := .long) (by decide)
    have F2_26 : Fld Z h2 b2 "com/example/vigilant_cells/vigilantcells/model/ReadOptions" "first" "J" (.long (0 : Int64)) := D2 (Or.inr (hw _ (List.mem_of_getElem? (i := 26) rfl))) (ty := .long) (by decide)
    have F2_28 : Fld Z h2 b2 "com/example/vigilant_cells/vigilantcells/model/ReadOptions" "last" "J" (.long (0 : Int64)) := D2 (Or.inr (hw _ (List.mem_of_getElem? (i := 28) rfl))) (ty := .long) (by decide)
    show own_Go p.tables e below RR (T2.setTop (mkF m 16 #[.val (.ref o), .val (.long q1), .second, .val (.long q2), .second, .val (.int (0 : Int32))] [(.ref b2)]))
    refine own_st (fun _ k => XS.dup X2.here hx rfl (hb hby own_dprog_21_method_3_code_16) rfl rfl (XS.aloadN X2.here hx rfl (hb hby own_dprog_21_method_3_code_17) rfl rfl k)) ?_
    show own_Go p.tables e below RR (T2.setTop (mkF m 18 #[.val (.ref o), .val (.long q1), .second, .val (.long q2), .second, .val (.int (0 : Int32))] [(.ref o), (.ref b2), (.ref b2)]))
    have f5 := (F.ext E2)
    obtain ⟨T6, X6, e6, st6⟩ := getF X2 hx hZ hown (host := "") (Or.inl (hw _ (List.mem_of_getElem? (i := 23) rfl))) Via.refl e2 f5 (g := (mkF m 18 #[.val (.ref o), .val (.long q1), .second, .val (.long q2), .second, .val (.int (0 : Int32))] [(.ref o), (.ref b2), (.ref b2)])) rfl rfl (hb hby own_dprog_21_method_3_code_18)
    refine own_st st6 ?_
    show own_Go p.tables e below RR (T6.setTop (mkF m 21 #[.val (.ref o), .val (.long q1), .second, .val (.long q2), .second, .val (.int (0 : Int32))] [(.long mv), (.ref b2), (.ref b2)]))
    refine own_st (fun _ k => XS.iload X6.here hx rfl (hb hby own_dprog_21_method_3_code_21) rfl k) ?_
    show own_Go p.tables e below RR (T6.setTop (mkF m 23 #[.val (.ref o), .val (.long q1), .second, .val (.long q2), .second, .val (.int (0 : Int32))] [(.int (0 : Int32)), (.long mv), (.ref b2), (.ref b2)]))
    refine own_st (fun _ k => XS.ifYes X6.here hx rfl (pc0 := 23) (pc' := 30) rfl (hb hby own_dprog_21_method_3_code_23) rfl ((if0 _ _).trans (teq (by decide)).1) (by decide) (by decide) (XS.lloadN X6.here hx rfl (hb hby own_dprog_21_method_3_code_30) rfl (XS.iload X6.here hx rfl (hb hby own_dprog_21_method_3_code_31) rfl k))) ?_
    show own_Go p.tables e below RR (T6.setTop (mkF m 33 #[.val (.ref o), .val (.long q1), .second, .val (.long q2), .second, .val (.int (0 : Int32))] [(.int (0 : Int32)), (.long q1), (.long mv), (.ref b2), (.ref b2)]))
    refine own_st (fun _ k => XS.ifYes X6.here hx rfl (pc0 := 33) (pc' := 42) rfl (hb hby own_dprog_21_method_3_code_33) rfl ((if0 _ _).trans (teq (by decide)).1) (by decide) (by decide) (XS.lloadN X6.here hx rfl (hb hby own_dprog_21_method_3_code_42) rfl (XS.lconst X6.here hx rfl (hb hby own_dprog_21_method_3_code_43) (XS.lsub X6.here hx rfl (hb hby own_dprog_21_method_3_code_44) rfl k)))) ?_
    show own_Go p.tables e below RR (T6.setTop (mkF m 45 #[.val (.ref o), .val (.long q1), .second, .val (.long q2), .second, .val (.int (0 : Int32))] [(.long (q2 - (1 : Int64))), (.long q1), (.long mv), (.ref b2), (.ref b2)]))
    obtain ⟨_, _, ⟨T7, L7, k7, n7⟩, -, X7, ⟨Lc7, hQ7, l7, y7, z7⟩, st7⟩ := X6.specialBack hx (y := (⟨"com/example/vigilant_cells/vigilantcells/model/ReadOptions", "<init>", "(JJJ)V"⟩ : MethodName)) rfl hown (mvT hZ (hw _ (List.mem_of_getElem? (i := 36) rfl))) (mvT hZ (hw _ (List.mem_of_getElem? (i := 13) rfl))) (mvT hZ (hw _ (List.mem_of_getElem? (i := 14) rfl))) (by decide) (backOf (W := 1) (own_rmI l Z a0 hw [] b2 mv q1 (q2 - (1 : Int64)) h2 n0 z3 hm ge2 A2 F2_24 F2_26 F2_28) hZ (hw _ (List.mem_of_getElem? (i := 14) rfl)) (hw _ (List.mem_of_getElem? (i := 11) rfl)) (by decide) (by decide)) (g := (mkF m 45 #[.val (.ref o), .val (.long q1), .second, .val (.long q2), .second, .val (.int (0 : Int32))] [(.long (q2 - (1 : Int64))), (.long q1), (.long mv), (.ref b2), (.ref b2)])) rfl (by rw [hml]; rfl) (Steps.refl _) (a := b2) (argsL := [(.long mv), (.long q1), (.long (q2 - (1 : Int64)))]) (rest := [(.ref b2)]) (lenOf own_pd__JJJ_V rfl) rfl (by show 2 * 0 + _ ≤ _; exact Nat.le_of_eq rfl) (hb hby own_dprog_21_method_3_code_45) (fun _ _ => ⟨rfl, e6, (by decide : 1 + 0 ≤ _), (by decide : 3 + 0 ≤ _)⟩)
    dsimp only [Pt.U, Pt.locs, Pt.cells, Pt.slots] at X7 l7 y7 z7 st7 hQ7
    subst l7 y7 z7
    obtain ⟨rfl, Nq7, Kq7, Eq7, Fq0_7, Fq1_7, Fq2_7⟩ := hQ7
    have N7 := Fr.app N0 Nq7
    refine own_st (fun _ k => st7.trans k) ?_
    have z8 : n0 ≤ T7.heap.size := Nat.le_trans z3 Kq7.1
    have kk9 : Keep h0 T7.heap [] := kk4.trans Kq7 (allS (Or.inr sz2) all0)
    show own_Go p.tables e below RR (T7.setTop (mkF m 48 #[.val (.ref o), .val (.long q1), .second, .val (.long q2), .second, .val (.int (0 : Int32))] [(.ref b2)]))
    obtain ⟨fs, hrt_, hrun, hended, hW, hsame⟩ := X7.leave (v := some (.ref b2)) (fun h => by rw [Bd.returns] at h; cases h)
    refine own_fin (retOut X7 hx Bd.returns rfl (Or.inr (Or.inr (Or.inr (Or.inr ⟨rfl, rfl, rfl⟩)))) (hb hby own_dprog_21_method_3_code_48) hrt_) (hRR _ ⟨_, hrun, hended, _, _, rfl, ?_, ⟨_, rfl⟩, hW, hsame.mono (by decide) (by decide)⟩)
    show own_QW Z o q1 q2 mv r h0 n0 _ T7.heap _
    obtain rfl : b2 = r := gb2.trans hr.symm
    exact ⟨rfl, N7, kk9, Eq7, (by simpa only [own_f, hc3_1, if_true, if_false] using Fq1_7), (by simpa only [own_l, hc3_1, if_true, if_false] using Fq2_7)⟩
  · refine own_st (fun _ k => XS.ifNo X0.here hx rfl (hb hby own_dprog_21_method_3_code_3) rfl ((if0 _ _).trans (flt (fun q => hc3_1 ((lw_gt _ _).mp q))).2.2.1) (XS.iconst X0.here hx rfl (hb hby own_dprog_21_method_3_code_6) (XS.goto X0.here hx rfl (pc0 := 7) (pc' := 11) rfl (hb hby own_dprog_21_method_3_code_7) (by decide) (by decide) (XS.istore X0.here hx rfl (hb hby own_dprog_21_method_3_code_11) rfl (l' := #[.val (.ref o), .val (.long q1), .second, .val (.long q2), .second, .val (.int (1 : Int32))]) rfl k)))) ?_
    show own_Go p.tables e below RR (s₁.setTop (mkF m 13 #[.val (.ref o), .val (.long q1), .second, .val (.long q2), .second, .val (.int (1 : Int32))] []))
    obtain ⟨T10, h10, X10, e10, E10, A10, D10, -, st10⟩ := newO X0 hx hZ hown (hw _ (List.mem_of_getElem? (i := 34) rfl)) (hw _ (List.mem_of_getElem? (i := 10) rfl)) (hw _ (List.mem_of_getElem? (i := 11) rfl)) e0 (g := (mkF m 13 #[.val (.ref o), .val (.long q1), .second, .val (.long q2), .second, .val (.int (1 : Int32))] [])) rfl (hb hby own_dprog_21_method_3_code_13) (by decide) (by decide)
    obtain ⟨b10, gb10⟩ : ∃ z, z = h0.size := ⟨_, rfl⟩
    rw [← gb10] at A10 D10 st10
    have ge10 : n0 ≤ b10 := Nat.le_trans Z0 (Nat.le_of_eq gb10.symm)
    have sz10 : h0.size ≤ b10 := Nat.le_trans (Keep.refl h0 []).1 (Nat.le_of_eq gb10.symm)
    refine own_st st10 ?_
    have z11 : n0 ≤ h10.size := Nat.le_trans Z0 E10.1
    have kk12 : Keep h0 h10 [] := (Keep.refl h0 []).ext E10
    have F10_24 : Fld Z h10 b10 "com/example/vigilant_cells/vigilantcells/model/ReadOptions" "maxVersions" "J" (.long (0 : Int64)) := D10 (Or.inr (hw _ (List.mem_of_getElem? (i := 24) rfl))) (ty := .long) (by decide)
    have F10_26 : Fld Z h10 b10 "com/example/vigilant_cells/vigilantcells/model/ReadOptions" "first" "J" (.long (0 : Int64)) := D10 (Or.inr (hw _ (List.mem_of_getElem? (i := 26) rfl))) (ty := .long) (by decide)
    have F10_28 : Fld Z h10 b10 "com/example/vigilant_cells/vigilantcells/model/ReadOptions" "last" "J" (.long (0 : Int64)) := D10 (Or.inr (hw _ (List.mem_of_getElem? (i := 28) rfl))) (ty := .long) (by decide)
    show own_Go p.tables e below RR (T10.setTop (mkF m 16 #[.val (.ref o), .val (.long q1), .second, .val (.long q2), .second, .val (.int (1 : Int32))] [(.ref b10)]))
    refine own_st (fun _ k => XS.dup X10.here hx rfl (hb hby own_dprog_21_method_3_code_16) rfl rfl (XS.aloadN X10.here hx rfl (hb hby own_dprog_21_method_3_code_17) rfl rfl k)) ?_
    show own_Go p.tables e below RR (T10.setTop (mkF m 18 #[.val (.ref o), .val (.long q1), .second, .val (.long q2), .second, .val (.int (1 : Int32))] [(.ref o), (.ref b10), (.ref b10)]))
    have f13 := (F.ext E10)
    obtain ⟨T14, X14, e14, st14⟩ := getF X10 hx hZ hown (host := "") (Or.inl (hw _ (List.mem_of_getElem? (i := 23) rfl))) Via.refl e10 f13 (g := (mkF m 18 #[.val (.ref o), .val (.long q1), .second, .val (.long q2), .second, .val (.int (1 : Int32))] [(.ref o), (.ref b10), (.ref b10)])) rfl rfl (hb hby own_dprog_21_method_3_code_18)
    refine own_st st14 ?_
    show own_Go p.tables e below RR (T14.setTop (mkF m 21 #[.val (.ref o), .val (.long q1), .second, .val (.long q2), .second, .val (.int (1 : Int32))] [(.long mv), (.ref b10), (.ref b10)]))
    refine own_st (fun _ k => XS.iload X14.here hx rfl (hb hby own_dprog_21_method_3_code_21) rfl k) ?_
    show own_Go p.tables e below RR (T14.setTop (mkF m 23 #[.val (.ref o), .val (.long q1), .second, .val (.long q2), .second, .val (.int (1 : Int32))] [(.int (1 : Int32)), (.long mv), (.ref b10), (.ref b10)]))
    refine own_st (fun _ k => XS.ifNo X14.here hx rfl (hb hby own_dprog_21_method_3_code_23) rfl ((if0 _ _).trans (feq (by decide)).1) (XS.lconst X14.here hx rfl (hb hby own_dprog_21_method_3_code_26) (XS.goto X14.here hx rfl (pc0 := 27) (pc' := 31) rfl (hb hby own_dprog_21_method_3_code_27) (by decide) (by decide) (XS.iload X14.here hx rfl (hb hby own_dprog_21_method_3_code_31) rfl k)))) ?_
    show own_Go p.tables e below RR (T14.setTop (mkF m 33 #[.val (.ref o), .val (.long q1), .second, .val (.long q2), .second, .val (.int (1 : Int32))] [(.int (1 : Int32)), (.long (0 : Int64)), (.long mv), (.ref b10), (.ref b10)]))
    refine own_st (fun _ k => XS.ifNo X14.here hx rfl (hb hby own_dprog_21_method_3_code_33) rfl ((if0 _ _).trans (feq (by decide)).1) (X14.ldc2Long hx hown (mvT hZ (hw _ (List.mem_of_getElem? (i := 35) rfl))) (g := (mkF m 36 #[.val (.ref o), .val (.long q1), .second, .val (.long q2), .second, .val (.int (1 : Int32))] [(.long (0 : Int64)), (.long mv), (.ref b10), (.ref b10)])) rfl (hb hby own_dprog_21_method_3_code_36) _ (XS.goto X14.here hx rfl (pc0 := 39) (pc' := 45) rfl (hb hby own_dprog_21_method_3_code_39) (by decide) (by decide) k))) ?_
    show own_Go p.tables e below RR (T14.setTop (mkF m 45 #[.val (.ref o), .val (.long q1), .second, .val (.long q2), .second, .val (.int (1 : Int32))] [(.long (-1 : Int64)), (.long (0 : Int64)), (.long mv), (.ref b10), (.ref b10)]))
    obtain ⟨_, _, ⟨T15, L15, k15, n15⟩, -, X15, ⟨Lc15, hQ15, l15, y15, z15⟩, st15⟩ := X14.specialBack hx (y := (⟨"com/example/vigilant_cells/vigilantcells/model/ReadOptions", "<init>", "(JJJ)V"⟩ : MethodName)) rfl hown (mvT hZ (hw _ (List.mem_of_getElem? (i := 36) rfl))) (mvT hZ (hw _ (List.mem_of_getElem? (i := 13) rfl))) (mvT hZ (hw _ (List.mem_of_getElem? (i := 14) rfl))) (by decide) (backOf (W := 1) (own_rmI l Z a0 hw [] b10 mv (0 : Int64) (-1 : Int64) h10 n0 z11 hm ge10 A10 F10_24 F10_26 F10_28) hZ (hw _ (List.mem_of_getElem? (i := 14) rfl)) (hw _ (List.mem_of_getElem? (i := 11) rfl)) (by decide) (by decide)) (g := (mkF m 45 #[.val (.ref o), .val (.long q1), .second, .val (.long q2), .second, .val (.int (1 : Int32))] [(.long (-1 : Int64)), (.long (0 : Int64)), (.long mv), (.ref b10), (.ref b10)])) rfl (by rw [hml]; rfl) (Steps.refl _) (a := b10) (argsL := [(.long mv), (.long (0 : Int64)), (.long (-1 : Int64))]) (rest := [(.ref b10)]) (lenOf own_pd__JJJ_V rfl) rfl (by show 2 * 0 + _ ≤ _; exact Nat.le_of_eq rfl) (hb hby own_dprog_21_method_3_code_45) (fun _ _ => ⟨rfl, e14, (by decide : 1 + 0 ≤ _), (by decide : 3 + 0 ≤ _)⟩)
    dsimp only [Pt.U, Pt.locs, Pt.cells, Pt.slots] at X15 l15 y15 z15 st15 hQ15
    subst l15 y15 z15
    obtain ⟨rfl, Nq15, Kq15, Eq15, Fq0_15, Fq1_15, Fq2_15⟩ := hQ15
    have N15 := Fr.app N0 Nq15
    refine own_st (fun _ k => st15.trans k) ?_
    have z16 : n0 ≤ T15.heap.size := Nat.le_trans z11 Kq15.1
    have kk17 : Keep h0 T15.heap [] := kk12.trans Kq15 (allS (Or.inr sz10) all0)
    show own_Go p.tables e below RR (T15.setTop (mkF m 48 #[.val (.ref o), .val (.long q1), .second, .val (.long q2), .second, .val (.int (1 : Int32))] [(.ref b10)]))
    obtain ⟨fs, hrt_, hrun, hended, hW, hsame⟩ := X15.leave (v := some (.ref b10)) (fun h => by rw [Bd.returns] at h; cases h)
    refine own_fin (retOut X15 hx Bd.returns rfl (Or.inr (Or.inr (Or.inr (Or.inr ⟨rfl, rfl, rfl⟩)))) (hb hby own_dprog_21_method_3_code_48) hrt_) (hRR _ ⟨_, hrun, hended, _, _, rfl, ?_, ⟨_, rfl⟩, hW, hsame.mono (by decide) (by decide)⟩)
    show own_QW Z o q1 q2 mv r h0 n0 _ T15.heap _
    obtain rfl : b10 = r := gb10.trans hr.symm
    exact ⟨rfl, N15, kk17, Eq15, (by simpa only [own_f, hc3_1, if_true, if_false] using Fq1_15), (by simpa only [own_l, hc3_1, if_true, if_false] using Fq2_15)⟩
theorem own_dprog_21_method_4_code_0 : decode prog_21_method_4_code 0 = .ok (.aload_n 0, 1) := by decide +kernel
theorem own_dprog_21_method_4_code_1 : decode prog_21_method_4_code 1 = .ok (.getfield 28, 3) := by decide +kernel
theorem own_dprog_21_method_4_code_4 : decode prog_21_method_4_code 4 = .ok (.lload_n 1, 1) := by decide +kernel
theorem own_dprog_21_method_4_code_5 : decode prog_21_method_4_code 5 = .ok (.lcmp, 1) := by decide +kernel
theorem own_dprog_21_method_4_code_6 : decode prog_21_method_4_code 6 = .ok (.ifCond .gt 16, 3) := by decide +kernel
theorem own_dprog_21_method_4_code_22 : decode prog_21_method_4_code 22 = .ok (.iconst 0, 1) := by decide +kernel
theorem own_dprog_21_method_4_code_23 : decode prog_21_method_4_code 23 = .ok (.ireturn, 1) := by decide +kernel
theorem own_dprog_21_method_4_code_9 : decode prog_21_method_4_code 9 = .ok (.lload_n 1, 1) := by decide +kernel
theorem own_dprog_21_method_4_code_10 : decode prog_21_method_4_code 10 = .ok (.aload_n 0, 1) := by decide +kernel
theorem own_dprog_21_method_4_code_11 : decode prog_21_method_4_code 11 = .ok (.getfield 31, 3) := by decide +kernel
theorem own_dprog_21_method_4_code_14 : decode prog_21_method_4_code 14 = .ok (.lcmp, 1) := by decide +kernel
theorem own_dprog_21_method_4_code_15 : decode prog_21_method_4_code 15 = .ok (.ifCond .gt 7, 3) := by decide +kernel
theorem own_dprog_21_method_4_code_18 : decode prog_21_method_4_code 18 = .ok (.iconst 1, 1) := by decide +kernel
theorem own_dprog_21_method_4_code_19 : decode prog_21_method_4_code 19 = .ok (.goto 4, 3) := by decide +kernel
theorem own_efC (m : MethodId) (o : Addr) (q1 : Int64) : entryFrame m #[(.ref o), (.long q1)] 3 = mkF m 0 #[.val (.ref o), .val (.long q1), .second] [] := by first | (simp [entryFrame, mkF, argsToLocals, Value.category]; done) | rfl
def own_QC (Z : State) (o : Addr) (q1 : Int64) (f : Int64) (la : Int64) (h0 : Heap) (n0 : Nat) (rv__ : Option Value) (h : Heap) (rL__ : List Loc) : Prop := rv__ = some (.int (own_inc f la q1)) ∧ Fr n0 rL__ ∧ h = h0
abbrev own_RC : Room := { frames := 0, cells := 0, slots := 0, locals := 0 }
set_option maxRecDepth 65536 in
set_option maxHeartbeats 40000000 in
theorem own_rmC (l : Launch) (Z : State) (a0 : Array Value) (hw : ∀ d ∈ tables_1, d.before a0 Z = true) (ws : List Jvm.Cond) (o : Addr) (q1 : Int64) (f : Int64) (la : Int64) (h0 : Heap) (n0 : Nat) (Z0 : n0 ≤ h0.size) (F1 : Fld Z h0 o "com/example/vigilant_cells/vigilantcells/model/ReadOptions" "first" "J" (.long f)) (F2 : Fld Z h0 o "com/example/vigilant_cells/vigilantcells/model/ReadOptions" "last" "J" (.long la)) :
    MetFree l (⟨"com/example/vigilant_cells/vigilantcells/model/ReadOptions", "includes", "(J)Z"⟩ : MethodName) (head1 (Jvm.Cond.code (⟨"com/example/vigilant_cells/vigilantcells/model/ReadOptions", "includes", "(J)Z"⟩ : MethodName) prog_21_method_4_code 3 (some .boolean) :: ws) own_RC) (fun aa__ U => aa__ = #[(.ref o), (.long q1)] ∧ Z.Warmed39 U.vm ∧ U.heap = h0) (fun _ _ _ _ _ => True) (fun _ U oc_ U' => ∃ rv__ rL__, oc_ = .returned rv__ ∧ own_QC Z o q1 f la h0 n0 rv__ U'.heap rL__ ∧ FrameEnd U oc_ U' rL__ own_RC.cells own_RC.slots) := by
  refine MetFree.of_bodySF (plainFor_of_name own_pn_com_example_vigilant_cells_vigilantcells_model_ReadOptions) hisR ?_
  intro p e s m args below meth c s₁ Bd hml0 hP hK
  obtain ⟨rfl, hZ, hh⟩ := hP
  have hx := Bd.exec
  have hby := Bd.bytes
  have hml : c.maxLocals = 3 := hml0
  have hown : s.vm.findClass "com/example/vigilant_cells/vigilantcells/model/ReadOptions" = some m.cls := findClass_of_methodNamed Bd.named
  have hnm := (name_of_methodNamed Bd.named Bd.method).1
  have X0 : Stand p l e own_RC s m #[(.ref o), (.long q1)] below meth c s₁ [] 0 0 := Stand.of_body Bd
  have e0 : s₁.heap = h0 := by rw [← hh, Bd.state]; rfl
  have N0 := Fr.nil n0
  refine own_in (fun _ k => castTop (own_efC m o q1) k) ?_
  intro RR hRR
  show own_Go p.tables e below RR (s₁.setTop (mkF m 0 #[.val (.ref o), .val (.long q1), .second] []))
  refine own_st (fun _ k => XS.aloadN X0.here hx rfl (hb hby own_dprog_21_method_4_code_0) rfl rfl k) ?_
  show own_Go p.tables e below RR (s₁.setTop (mkF m 1 #[.val (.ref o), .val (.long q1), .second] [(.ref o)]))
  obtain ⟨T1, X1, e1, st1⟩ := getF X0 hx hZ hown (host := "") (Or.inl (hw _ (List.mem_of_getElem? (i := 25) rfl))) Via.refl e0 F1 (g := (mkF m 1 #[.val (.ref o), .val (.long q1), .second] [(.ref o)])) rfl rfl (hb hby own_dprog_21_method_4_code_1)
  refine own_st st1 ?_
  show own_Go p.tables e below RR (T1.setTop (mkF m 4 #[.val (.ref o), .val (.long q1), .second] [(.long f)]))
  refine own_st (fun _ k => XS.lloadN X1.here hx rfl (hb hby own_dprog_21_method_4_code_4) rfl (XS.lcmp X1.here hx rfl (hb hby own_dprog_21_method_4_code_5) rfl k)) ?_
  show own_Go p.tables e below RR (T1.setTop (mkF m 6 #[.val (.ref o), .val (.long q1), .second] [(.int (lcmpW f q1))]))
  by_cases hc6_2 : q1 < f
  · refine own_st (fun _ k => XS.ifYes X1.here hx rfl (pc0 := 6) (pc' := 22) rfl (hb hby own_dprog_21_method_4_code_6) rfl ((if0 _ _).trans (tlt ((lw_gt _ _).mpr hc6_2)).2.2.1) (by decide) (by decide) (XS.iconst X1.here hx rfl (hb hby own_dprog_21_method_4_code_22) k)) ?_
    show own_Go p.tables e below RR (T1.setTop (mkF m 23 #[.val (.ref o), .val (.long q1), .second] [(.int (0 : Int32))]))
    obtain ⟨fs, hrt_, hrun, hended, hW, hsame⟩ := X1.leave (v := some (.int (0 : Int32))) (fun h => by rw [Bd.returns] at h; cases h)
    refine own_fin (retN X1 hx (t := .boolean) Bd.returns (by simp) (hb hby own_dprog_21_method_4_code_23) hrt_) (hRR _ ⟨_, hrun, hended, _, _, rfl, ?_, ⟨_, rfl⟩, hW, hsame.mono (by decide) (by decide)⟩)
    show own_QC Z o q1 f la h0 n0 _ T1.heap _
    rw [e1]
    exact ⟨own_ri (by first | (simp only [own_inc, hc6_2, if_true, if_false]; done) | simp [own_inc, hc6_2]), N0, rfl⟩
  · refine own_st (fun _ k => XS.ifNo X1.here hx rfl (hb hby own_dprog_21_method_4_code_6) rfl ((if0 _ _).trans (flt (fun q => hc6_2 ((lw_gt _ _).mp q))).2.2.1) (XS.lloadN X1.here hx rfl (hb hby own_dprog_21_method_4_code_9) rfl (XS.aloadN X1.here hx rfl (hb hby own_dprog_21_method_4_code_10) rfl rfl k))) ?_
    show own_Go p.tables e below RR (T1.setTop (mkF m 11 #[.val (.ref o), .val (.long q1), .second] [(.ref o), (.long q1)]))
    obtain ⟨T3, X3, e3, st3⟩ := getF X1 hx hZ hown (host := "") (Or.inl (hw _ (List.mem_of_getElem? (i := 27) rfl))) Via.refl e1 F2 (g := (mkF m 11 #[.val (.ref o), .val (.long q1), .second] [(.ref o), (.long q1)])) rfl rfl (hb hby own_dprog_21_method_4_code_11)
    refine own_st st3 ?_
    show own_Go p.tables e below RR (T3.setTop (mkF m 14 #[.val (.ref o), .val (.long q1), .second] [(.long la), (.long q1)]))
    refine own_st (fun _ k => XS.lcmp X3.here hx rfl (hb hby own_dprog_21_method_4_code_14) rfl k) ?_
    show own_Go p.tables e below RR (T3.setTop (mkF m 15 #[.val (.ref o), .val (.long q1), .second] [(.int (lcmpW q1 la))]))
    by_cases hc15_4 : la < q1
    · refine own_st (fun _ k => XS.ifYes X3.here hx rfl (pc0 := 15) (pc' := 22) rfl (hb hby own_dprog_21_method_4_code_15) rfl ((if0 _ _).trans (tlt ((lw_gt _ _).mpr hc15_4)).2.2.1) (by decide) (by decide) (XS.iconst X3.here hx rfl (hb hby own_dprog_21_method_4_code_22) k)) ?_
      show own_Go p.tables e below RR (T3.setTop (mkF m 23 #[.val (.ref o), .val (.long q1), .second] [(.int (0 : Int32))]))
      obtain ⟨fs, hrt_, hrun, hended, hW, hsame⟩ := X3.leave (v := some (.int (0 : Int32))) (fun h => by rw [Bd.returns] at h; cases h)
      refine own_fin (retN X3 hx (t := .boolean) Bd.returns (by simp) (hb hby own_dprog_21_method_4_code_23) hrt_) (hRR _ ⟨_, hrun, hended, _, _, rfl, ?_, ⟨_, rfl⟩, hW, hsame.mono (by decide) (by decide)⟩)
      show own_QC Z o q1 f la h0 n0 _ T3.heap _
      rw [e3]
      exact ⟨own_ri (by first | (simp only [own_inc, hc6_2, hc15_4, if_true, if_false]; done) | simp [own_inc, hc6_2, hc15_4]), N0, rfl⟩
    · refine own_st (fun _ k => XS.ifNo X3.here hx rfl (hb hby own_dprog_21_method_4_code_15) rfl ((if0 _ _).trans (flt (fun q => hc15_4 ((lw_gt _ _).mp q))).2.2.1) (XS.iconst X3.here hx rfl (hb hby own_dprog_21_method_4_code_18) (XS.goto X3.here hx rfl (pc0 := 19) (pc' := 23) rfl (hb hby own_dprog_21_method_4_code_19) (by decide) (by decide) k))) ?_
      show own_Go p.tables e below RR (T3.setTop (mkF m 23 #[.val (.ref o), .val (.long q1), .second] [(.int (1 : Int32))]))
      obtain ⟨fs, hrt_, hrun, hended, hW, hsame⟩ := X3.leave (v := some (.int (1 : Int32))) (fun h => by rw [Bd.returns] at h; cases h)
      refine own_fin (retN X3 hx (t := .boolean) Bd.returns (by simp) (hb hby own_dprog_21_method_4_code_23) hrt_) (hRR _ ⟨_, hrun, hended, _, _, rfl, ?_, ⟨_, rfl⟩, hW, hsame.mono (by decide) (by decide)⟩)
      show own_QC Z o q1 f la h0 n0 _ T3.heap _
      rw [e3]
      exact ⟨own_ri (by first | (simp only [own_inc, hc6_2, hc15_4, if_true, if_false]; done) | simp [own_inc, hc6_2, hc15_4]), N0, rfl⟩
theorem own_pd__JJ_J : parseMethodDescriptor "(JJ)J" = some ⟨[.long, .long], some .long⟩ := by decide +kernel
theorem own_pd__IJJJJJ_J : parseMethodDescriptor "(IJJJJJ)J" = some ⟨[.int, .long, .long, .long, .long, .long], some .long⟩ := by decide +kernel
theorem own_pd__JJ_Lcom_example_vigilant_cells_vigilantcells_model_ReadOptions_ : parseMethodDescriptor "(JJ)Lcom/example/vigilant_cells/vigilantcells/model/ReadOptions;" = some ⟨[.long, .long], some (.object "com/example/vigilant_cells/vigilantcells/model/ReadOptions")⟩ := by decide +kernel
theorem own_pd__J_Z : parseMethodDescriptor "(J)Z" = some ⟨[.long], some .boolean⟩ := by decide +kernel
theorem own_ef0 (m : MethodId) (m_ : Int64) (a : Int64) (b : Int64) (s_ : Int64) (e_ : Int64) (v_ : Int64) : entryFrame m #[(.long m_), (.long a), (.long b), (.long s_), (.long e_), (.long v_)] maxLocals = mkF m 0 #[.val (.long m_), .second, .val (.long a), .second, .val (.long b), .second, .val (.long s_), .second, .val (.long e_), .second, .val (.long v_), .second, .unset, .unset, .unset, .unset, .unset, .unset, .unset, .unset, .unset, .unset, .unset, .unset] [] := by first | (simp [entryFrame, mkF, argsToLocals, Value.category, maxLocals]; done) | rfl
def own_Q0 (Z : State) (m_ : Int64) (a : Int64) (b : Int64) (s_ : Int64) (e_ : Int64) (v_ : Int64) (h0 : Heap) (n0 : Nat) (rv__ : Option Value) (h : Heap) (rL__ : List Loc) : Prop := rv__ = some (.int 1) ∧ Fr n0 rL__
set_option maxRecDepth 65536 in
set_option maxHeartbeats 40000000 in
theorem own_rm0 (l : Launch) (Z : State) (a0 : Array Value) (hw : ∀ d ∈ tables_1, d.before a0 Z = true) (ws : List Jvm.Cond) (m_ : Int64) (a : Int64) (b : Int64) (s_ : Int64) (e_ : Int64) (v_ : Int64) (h0 : Heap) (n0 : Nat) (Z0 : n0 ≤ h0.size)  :
    MetFree l x (head1 (Jvm.Cond.code x code maxLocals ret :: ws) room_1) (fun aa__ U => aa__ = #[(.long m_), (.long a), (.long b), (.long s_), (.long e_), (.long v_)] ∧ Z.Warmed39 U.vm ∧ U.heap = h0) (fun _ _ _ _ _ => True) (fun _ U oc_ U' => ∃ rv__ rL__, oc_ = .returned rv__ ∧ own_Q0 Z m_ a b s_ e_ v_ h0 n0 rv__ U'.heap rL__ ∧ FrameEnd U oc_ U' rL__ room_1.cells room_1.slots) := by
  refine MetFree.of_bodySF (plainFor_of_name own_pn_com_example_vigilant_cells_vigilantcells_model_ReadOptionsIncludesPinLaw) hisR ?_
  intro p e s m args below meth c s₁ Bd hml0 hP hK
  obtain ⟨rfl, hZ, hh⟩ := hP
  have hx := Bd.exec
  have hby := Bd.bytes
  have hml : c.maxLocals = 24 := hml0
  have hown : s.vm.findClass "com/example/vigilant_cells/vigilantcells/model/ReadOptionsIncludesPinLaw" = some m.cls := findClass_of_methodNamed Bd.named
  have hnm := (name_of_methodNamed Bd.named Bd.method).1
  have X0 : Stand p l e room_1 s m #[(.long m_), (.long a), (.long b), (.long s_), (.long e_), (.long v_)] below meth c s₁ [] 0 0 := Stand.of_body Bd
  have e0 : s₁.heap = h0 := by rw [← hh, Bd.state]; rfl
  have N0 := Fr.nil n0
  refine own_in (fun _ k => castTop (own_ef0 m m_ a b s_ e_ v_) k) ?_
  intro RR hRR
  show own_Go p.tables e below RR (s₁.setTop (mkF m 0 #[.val (.long m_), .second, .val (.long a), .second, .val (.long b), .second, .val (.long s_), .second, .val (.long e_), .second, .val (.long v_), .second, .unset, .unset, .unset, .unset, .unset, .unset, .unset, .unset, .unset, .unset, .unset, .unset] []))
  refine own_st (fun _ k => XS.lconst X0.here hx rfl (hb hby at_0) (XS.lloadN X0.here hx rfl (hb hby at_1) rfl k)) ?_
  show own_Go p.tables e below RR (s₁.setTop (mkF m 2 #[.val (.long m_), .second, .val (.long a), .second, .val (.long b), .second, .val (.long s_), .second, .val (.long e_), .second, .val (.long v_), .second, .unset, .unset, .unset, .unset, .unset, .unset, .unset, .unset, .unset, .unset, .unset, .unset] [(.long m_), (.long (1 : Int64))]))
  obtain ⟨_, _, ⟨T1, L1, k1, n1⟩, -, X1, ⟨Lc1, hQ1, l1, y1, z1⟩, st1⟩ := Jvm.LawKit.callS X0 hx (y := (⟨"java/lang/Math", "max", "(JJ)J"⟩ : MethodName)) hown (mvT hZ (hw _ (List.mem_of_getElem? (i := 0) rfl))) (mvT hZ (hw _ (List.mem_of_getElem? (i := 1) rfl))) (mvT hZ (hw _ (List.mem_of_getElem? (i := 2) rfl))) (mvT hZ (hw _ (List.mem_of_getElem? (i := 3) rfl))) (by decide) (backOf (W := 0) (own_rmM l Z a0 hw [] (1 : Int64) m_ h0 n0 Z0 ) hZ (hw _ (List.mem_of_getElem? (i := 3) rfl)) (hw _ (List.mem_of_getElem? (i := 2) rfl)) (by decide) (by decide)) (g := (mkF m 2 #[.val (.long m_), .second, .val (.long a), .second, .val (.long b), .second, .val (.long s_), .second, .val (.long e_), .second, .val (.long v_), .second, .unset, .unset, .unset, .unset, .unset, .unset, .unset, .unset, .unset, .unset, .unset, .unset] [(.long m_), (.long (1 : Int64))])) rfl (by rw [hml]; rfl) (argsL := [(.long (1 : Int64)), (.long m_)]) (rest := []) (lenOf own_pd__JJ_J rfl) rfl (by show 2 * 0 + _ ≤ _; exact Nat.le_of_eq rfl) (hb hby at_2) (fun _ _ => ⟨rfl, e0, (by decide : 0 + 0 ≤ _), (by decide : 0 + 0 ≤ _)⟩)
  dsimp only [Pt.U, Pt.locs, Pt.cells, Pt.slots] at X1 l1 y1 z1 st1 hQ1
  subst l1 y1 z1
  obtain ⟨rfl, Nq1, eq1⟩ := hQ1
  have N1 := Fr.app N0 Nq1
  refine own_st st1 ?_
  show own_Go p.tables e below RR (T1.setTop (mkF m 5 #[.val (.long m_), .second, .val (.long a), .second, .val (.long b), .second, .val (.long s_), .second, .val (.long e_), .second, .val (.long v_), .second, .unset, .unset, .unset, .unset, .unset, .unset, .unset, .unset, .unset, .unset, .unset, .unset] [(.long (own_max (1 : Int64) m_))]))
  refine own_st (fun _ k => XS.lstore X1.here hx rfl (hb hby at_5) rfl (l' := #[.val (.long m_), .second, .val (.long a), .second, .val (.long b), .second, .val (.long s_), .second, .val (.long e_), .second, .val (.long v_), .second, .val (.long (own_max (1 : Int64) m_)), .second, .unset, .unset, .unset, .unset, .unset, .unset, .unset, .unset, .unset, .unset]) rfl (XS.lloadN X1.here hx rfl (hb hby at_7) rfl (XS.iconst X1.here hx rfl (hb hby at_8) (XS.lushr X1.here hx rfl (hb hby at_9) rfl (X1.ldc2Long hx hown (mvT hZ (hw _ (List.mem_of_getElem? (i := 4) rfl))) (g := (mkF m 10 #[.val (.long m_), .second, .val (.long a), .second, .val (.long b), .second, .val (.long s_), .second, .val (.long e_), .second, .val (.long v_), .second, .val (.long (own_max (1 : Int64) m_)), .second, .unset, .unset, .unset, .unset, .unset, .unset, .unset, .unset, .unset, .unset] [(.long ((m_.toUInt64 >>> ((1 : Int32) &&& 0x3f).toInt64.toUInt64).toInt64))])) rfl (hb hby at_10) _ (XS.land X1.here hx rfl (hb hby at_13) rfl (XS.l2i X1.here hx rfl (hb hby at_14) rfl (XS.istore X1.here hx rfl (hb hby at_15) rfl (l' := #[.val (.long m_), .second, .val (.long a), .second, .val (.long b), .second, .val (.long s_), .second, .val (.long e_), .second, .val (.long v_), .second, .val (.long (own_max (1 : Int64) m_)), .second, .val (.int ((((m_.toUInt64 >>> ((1 : Int32) &&& 0x3f).toInt64.toUInt64).toInt64) &&& (7 : Int64)).toInt32)), .unset, .unset, .unset, .unset, .unset, .unset, .unset, .unset, .unset]) rfl k)))))))) ?_
  show own_Go p.tables e below RR (T1.setTop (mkF m 17 #[.val (.long m_), .second, .val (.long a), .second, .val (.long b), .second, .val (.long s_), .second, .val (.long e_), .second, .val (.long v_), .second, .val (.long (own_max (1 : Int64) m_)), .second, .val (.int ((((m_.toUInt64 >>> ((1 : Int32) &&& 0x3f).toInt64.toUInt64).toInt64) &&& (7 : Int64)).toInt32)), .unset, .unset, .unset, .unset, .unset, .unset, .unset, .unset, .unset] []))
  refine own_st (fun _ k => XS.iload X1.here hx rfl (hb hby at_17) rfl (XS.lloadN X1.here hx rfl (hb hby at_19) rfl (XS.lload X1.here hx rfl (hb hby at_20) rfl (XS.lload X1.here hx rfl (hb hby at_22) rfl (XS.lload X1.here hx rfl (hb hby at_24) rfl (XS.lload X1.here hx rfl (hb hby at_26) rfl k)))))) ?_
  show own_Go p.tables e below RR (T1.setTop (mkF m 28 #[.val (.long m_), .second, .val (.long a), .second, .val (.long b), .second, .val (.long s_), .second, .val (.long e_), .second, .val (.long v_), .second, .val (.long (own_max (1 : Int64) m_)), .second, .val (.int ((((m_.toUInt64 >>> ((1 : Int32) &&& 0x3f).toInt64.toUInt64).toInt64) &&& (7 : Int64)).toInt32)), .unset, .unset, .unset, .unset, .unset, .unset, .unset, .unset, .unset] [(.long v_), (.long e_), (.long s_), (.long b), (.long a), (.int ((((m_.toUInt64 >>> ((1 : Int32) &&& 0x3f).toInt64.toUInt64).toInt64) &&& (7 : Int64)).toInt32))]))
  obtain ⟨_, _, ⟨T2, L2, k2, n2⟩, -, X2, ⟨Lc2, hQ2, l2, y2, z2⟩, st2⟩ := Jvm.LawKit.callS X1 hx (y := (⟨"com/example/vigilant_cells/vigilantcells/model/ReadOptionsIncludesPinLaw", "pick", "(IJJJJJ)J"⟩ : MethodName)) hown (mvT hZ (hw _ (List.mem_of_getElem? (i := 5) rfl))) (mvT hZ (hw _ (List.mem_of_getElem? (i := 6) rfl))) (mvT hZ (hw _ (List.mem_of_getElem? (i := 7) rfl))) (mvT hZ (hw _ (List.mem_of_getElem? (i := 8) rfl))) (by decide) (backOf (W := 0) (own_rmP l Z a0 hw [] ((((m_.toUInt64 >>> ((1 : Int32) &&& 0x3f).toInt64.toUInt64).toInt64) &&& (7 : Int64)).toInt32) a b s_ e_ v_ h0 n0 Z0 ) hZ (hw _ (List.mem_of_getElem? (i := 8) rfl)) (hw _ (List.mem_of_getElem? (i := 7) rfl)) (by decide) (by decide)) (g := (mkF m 28 #[.val (.long m_), .second, .val (.long a), .second, .val (.long b), .second, .val (.long s_), .second, .val (.long e_), .second, .val (.long v_), .second, .val (.long (own_max (1 : Int64) m_)), .second, .val (.int ((((m_.toUInt64 >>> ((1 : Int32) &&& 0x3f).toInt64.toUInt64).toInt64) &&& (7 : Int64)).toInt32)), .unset, .unset, .unset, .unset, .unset, .unset, .unset, .unset, .unset] [(.long v_), (.long e_), (.long s_), (.long b), (.long a), (.int ((((m_.toUInt64 >>> ((1 : Int32) &&& 0x3f).toInt64.toUInt64).toInt64) &&& (7 : Int64)).toInt32))])) rfl (by rw [hml]; rfl) (argsL := [(.int ((((m_.toUInt64 >>> ((1 : Int32) &&& 0x3f).toInt64.toUInt64).toInt64) &&& (7 : Int64)).toInt32)), (.long a), (.long b), (.long s_), (.long e_), (.long v_)]) (rest := []) (lenOf own_pd__IJJJJJ_J rfl) rfl (by show 2 * 0 + _ ≤ _; exact Nat.le_of_eq rfl) (hb hby at_28) (fun _ _ => ⟨rfl, eq1, (by decide : 0 + 0 ≤ _), (by decide : 0 + 0 ≤ _)⟩)
  dsimp only [Pt.U, Pt.locs, Pt.cells, Pt.slots] at X2 l2 y2 z2 st2 hQ2
  subst l2 y2 z2
  obtain ⟨rfl, Nq2, eq2⟩ := hQ2
  have N2 := Fr.app N1 Nq2
  refine own_st st2 ?_
  show own_Go p.tables e below RR (T2.setTop (mkF m 31 #[.val (.long m_), .second, .val (.long a), .second, .val (.long b), .second, .val (.long s_), .second, .val (.long e_), .second, .val (.long v_), .second, .val (.long (own_max (1 : Int64) m_)), .second, .val (.int ((((m_.toUInt64 >>> ((1 : Int32) &&& 0x3f).toInt64.toUInt64).toInt64) &&& (7 : Int64)).toInt32)), .unset, .unset, .unset, .unset, .unset, .unset, .unset, .unset, .unset] [(.long (own_pk ((((m_.toUInt64 >>> ((1 : Int32) &&& 0x3f).toInt64.toUInt64).toInt64) &&& (7 : Int64)).toInt32) a b s_ e_ v_))]))
  generalize gv3 : (own_pk ((((m_.toUInt64 >>> ((1 : Int32) &&& 0x3f).toInt64.toUInt64).toInt64) &&& (7 : Int64)).toInt32) a b s_ e_ v_) = v3
  show own_Go p.tables e below RR (T2.setTop (mkF m 31 #[.val (.long m_), .second, .val (.long a), .second, .val (.long b), .second, .val (.long s_), .second, .val (.long e_), .second, .val (.long v_), .second, .val (.long (own_max (1 : Int64) m_)), .second, .val (.int ((((m_.toUInt64 >>> ((1 : Int32) &&& 0x3f).toInt64.toUInt64).toInt64) &&& (7 : Int64)).toInt32)), .unset, .unset, .unset, .unset, .unset, .unset, .unset, .unset, .unset] [(.long v3)]))
  refine own_st (fun _ k => XS.lstore X2.here hx rfl (hb hby at_31) rfl (l' := #[.val (.long m_), .second, .val (.long a), .second, .val (.long b), .second, .val (.long s_), .second, .val (.long e_), .second, .val (.long v_), .second, .val (.long (own_max (1 : Int64) m_)), .second, .val (.int ((((m_.toUInt64 >>> ((1 : Int32) &&& 0x3f).toInt64.toUInt64).toInt64) &&& (7 : Int64)).toInt32)), .val (.long v3), .second, .unset, .unset, .unset, .unset, .unset, .unset, .unset]) rfl k) ?_
  show own_Go p.tables e below RR (T2.setTop (mkF m 33 #[.val (.long m_), .second, .val (.long a), .second, .val (.long b), .second, .val (.long s_), .second, .val (.long e_), .second, .val (.long v_), .second, .val (.long (own_max (1 : Int64) m_)), .second, .val (.int ((((m_.toUInt64 >>> ((1 : Int32) &&& 0x3f).toInt64.toUInt64).toInt64) &&& (7 : Int64)).toInt32)), .val (.long v3), .second, .unset, .unset, .unset, .unset, .unset, .unset, .unset] []))
  obtain ⟨T4, h4, X4, e4, E4, A4, D4, -, st4⟩ := newO X2 hx hZ hown (hw _ (List.mem_of_getElem? (i := 9) rfl)) (hw _ (List.mem_of_getElem? (i := 10) rfl)) (hw _ (List.mem_of_getElem? (i := 11) rfl)) eq2 (g := (mkF m 33 #[.val (.long m_), .second, .val (.long a), .second, .val (.long b), .second, .val (.long s_), .second, .val (.long e_), .second, .val (.long v_), .second, .val (.long (own_max (1 : Int64) m_)), .second, .val (.int ((((m_.toUInt64 >>> ((1 : Int32) &&& 0x3f).toInt64.toUInt64).toInt64) &&& (7 : Int64)).toInt32)), .val (.long v3), .second, .unset, .unset, .unset, .unset, .unset, .unset, .unset] [])) rfl (hb hby at_33) (by decide) (by decide)
  obtain ⟨b4, gb4⟩ : ∃ z, z = h0.size := ⟨_, rfl⟩
  rw [← gb4] at A4 D4 st4
  have ge4 : n0 ≤ b4 := Nat.le_trans Z0 (Nat.le_of_eq gb4.symm)
  refine own_st st4 ?_
  have z5 : n0 ≤ h4.size := Nat.le_trans Z0 E4.1
  have F4_24 : Fld Z h4 b4 "com/example/vigilant_cells/vigilantcells/model/ReadOptions" "maxVersions" "J" (.long (0 : Int64)) := D4 (Or.inr (hw _ (List.mem_of_getElem? (i := 24) rfl))) (ty := .long) (by decide)
  have F4_26 : Fld Z h4 b4 "com/example/vigilant_cells/vigilantcells/model/ReadOptions" "first" "J" (.long (0 : Int64)) := D4 (Or.inr (hw _ (List.mem_of_getElem? (i := 26) rfl))) (ty := .long) (by decide)
  have F4_28 : Fld Z h4 b4 "com/example/vigilant_cells/vigilantcells/model/ReadOptions" "last" "J" (.long (0 : Int64)) := D4 (Or.inr (hw _ (List.mem_of_getElem? (i := 28) rfl))) (ty := .long) (by decide)
  show own_Go p.tables e below RR (T4.setTop (mkF m 36 #[.val (.long m_), .second, .val (.long a), .second, .val (.long b), .second, .val (.long s_), .second, .val (.long e_), .second, .val (.long v_), .second, .val (.long (own_max (1 : Int64) m_)), .second, .val (.int ((((m_.toUInt64 >>> ((1 : Int32) &&& 0x3f).toInt64.toUInt64).toInt64) &&& (7 : Int64)).toInt32)), .val (.long v3), .second, .unset, .unset, .unset, .unset, .unset, .unset, .unset] [(.ref b4)]))
  refine own_st (fun _ k => XS.dup X4.here hx rfl (hb hby at_36) rfl rfl (XS.lload X4.here hx rfl (hb hby at_37) rfl (XS.lloadN X4.here hx rfl (hb hby at_39) rfl (XS.lload X4.here hx rfl (hb hby at_40) rfl k)))) ?_
  show own_Go p.tables e below RR (T4.setTop (mkF m 42 #[.val (.long m_), .second, .val (.long a), .second, .val (.long b), .second, .val (.long s_), .second, .val (.long e_), .second, .val (.long v_), .second, .val (.long (own_max (1 : Int64) m_)), .second, .val (.int ((((m_.toUInt64 >>> ((1 : Int32) &&& 0x3f).toInt64.toUInt64).toInt64) &&& (7 : Int64)).toInt32)), .val (.long v3), .second, .unset, .unset, .unset, .unset, .unset, .unset, .unset] [(.long b), (.long a), (.long (own_max (1 : Int64) m_)), (.ref b4), (.ref b4)]))
  obtain ⟨_, _, ⟨T6, L6, k6, n6⟩, -, X6, ⟨Lc6, hQ6, l6, y6, z6⟩, st6⟩ := X4.specialBack hx (y := (⟨"com/example/vigilant_cells/vigilantcells/model/ReadOptions", "<init>", "(JJJ)V"⟩ : MethodName)) rfl hown (mvT hZ (hw _ (List.mem_of_getElem? (i := 12) rfl))) (mvT hZ (hw _ (List.mem_of_getElem? (i := 13) rfl))) (mvT hZ (hw _ (List.mem_of_getElem? (i := 14) rfl))) (by decide) (backOf (W := 1) (own_rmI l Z a0 hw [] b4 (own_max (1 : Int64) m_) a b h4 n0 z5 own_m1 ge4 A4 F4_24 F4_26 F4_28) hZ (hw _ (List.mem_of_getElem? (i := 14) rfl)) (hw _ (List.mem_of_getElem? (i := 11) rfl)) (by decide) (by decide)) (g := (mkF m 42 #[.val (.long m_), .second, .val (.long a), .second, .val (.long b), .second, .val (.long s_), .second, .val (.long e_), .second, .val (.long v_), .second, .val (.long (own_max (1 : Int64) m_)), .second, .val (.int ((((m_.toUInt64 >>> ((1 : Int32) &&& 0x3f).toInt64.toUInt64).toInt64) &&& (7 : Int64)).toInt32)), .val (.long v3), .second, .unset, .unset, .unset, .unset, .unset, .unset, .unset] [(.long b), (.long a), (.long (own_max (1 : Int64) m_)), (.ref b4), (.ref b4)])) rfl (by rw [hml]; rfl) (Steps.refl _) (a := b4) (argsL := [(.long (own_max (1 : Int64) m_)), (.long a), (.long b)]) (rest := [(.ref b4)]) (lenOf own_pd__JJJ_V rfl) rfl (by show 2 * 0 + _ ≤ _; exact Nat.le_of_eq rfl) (hb hby at_42) (fun _ _ => ⟨rfl, e4, (by decide : 1 + 0 ≤ _), (by decide : 3 + 0 ≤ _)⟩)
  dsimp only [Pt.U, Pt.locs, Pt.cells, Pt.slots] at X6 l6 y6 z6 st6 hQ6
  subst l6 y6 z6
  obtain ⟨rfl, Nq6, Kq6, Eq6, Fq0_6, Fq1_6, Fq2_6⟩ := hQ6
  have N6 := Fr.app N2 Nq6
  refine own_st (fun _ k => st6.trans k) ?_
  have z7 : n0 ≤ T6.heap.size := Nat.le_trans z5 Kq6.1
  show own_Go p.tables e below RR (T6.setTop (mkF m 45 #[.val (.long m_), .second, .val (.long a), .second, .val (.long b), .second, .val (.long s_), .second, .val (.long e_), .second, .val (.long v_), .second, .val (.long (own_max (1 : Int64) m_)), .second, .val (.int ((((m_.toUInt64 >>> ((1 : Int32) &&& 0x3f).toInt64.toUInt64).toInt64) &&& (7 : Int64)).toInt32)), .val (.long v3), .second, .unset, .unset, .unset, .unset, .unset, .unset, .unset] [(.ref b4)]))
  refine own_st (fun _ k => XS.astore X6.here hx rfl (hb hby at_45) rfl rfl (l' := #[.val (.long m_), .second, .val (.long a), .second, .val (.long b), .second, .val (.long s_), .second, .val (.long e_), .second, .val (.long v_), .second, .val (.long (own_max (1 : Int64) m_)), .second, .val (.int ((((m_.toUInt64 >>> ((1 : Int32) &&& 0x3f).toInt64.toUInt64).toInt64) &&& (7 : Int64)).toInt32)), .val (.long v3), .second, .val (.ref b4), .unset, .unset, .unset, .unset, .unset, .unset]) rfl (XS.aload X6.here hx rfl (hb hby at_47) rfl rfl (XS.lload X6.here hx rfl (hb hby at_49) rfl (XS.lload X6.here hx rfl (hb hby at_51) rfl k)))) ?_
  show own_Go p.tables e below RR (T6.setTop (mkF m 53 #[.val (.long m_), .second, .val (.long a), .second, .val (.long b), .second, .val (.long s_), .second, .val (.long e_), .second, .val (.long v_), .second, .val (.long (own_max (1 : Int64) m_)), .second, .val (.int ((((m_.toUInt64 >>> ((1 : Int32) &&& 0x3f).toInt64.toUInt64).toInt64) &&& (7 : Int64)).toInt32)), .val (.long v3), .second, .val (.ref b4), .unset, .unset, .unset, .unset, .unset, .unset] [(.long e_), (.long s_), (.ref b4)]))
  obtain ⟨b8, gb8⟩ : ∃ z, z = T6.heap.size := ⟨_, rfl⟩
  have ge8 : n0 ≤ b8 := Nat.le_trans z7 (Nat.le_of_eq gb8.symm)
  obtain ⟨cq9, kq9, q9a, q9b, q9c⟩ := isOf hZ rfl Eq6
  obtain ⟨_, _, ⟨T9, L9, k9, n9⟩, -, X9, ⟨Lc9, hQ9, l9, y9, z9⟩, st9⟩ := X6.virtualBack hx (y := (⟨"com/example/vigilant_cells/vigilantcells/model/ReadOptions", "withVersionRange", "(JJ)Lcom/example/vigilant_cells/vigilantcells/model/ReadOptions;"⟩ : MethodName)) (z := (⟨"com/example/vigilant_cells/vigilantcells/model/ReadOptions", "withVersionRange", "(JJ)Lcom/example/vigilant_cells/vigilantcells/model/ReadOptions;"⟩ : MethodName)) hown (mvT hZ (hw _ (List.mem_of_getElem? (i := 29) rfl))) (mvT hZ (hw _ (List.mem_of_getElem? (i := 30) rfl))) (notFace_of_selects (args := #[]) (mvT hZ (hw _ (List.mem_of_getElem? (i := 32) rfl)))) (mvT hZ (hw _ (List.mem_of_getElem? (i := 32) rfl))) (mvT hZ (hw _ (List.mem_of_getElem? (i := 31) rfl))) (by decide) (backOf (W := 0) (own_rmW l Z a0 hw [] b4 s_ e_ (own_max (1 : Int64) m_) b8 T6.heap n0 z7 own_m1 Fq0_6 gb8) hZ (hw _ (List.mem_of_getElem? (i := 33) rfl)) (hw _ (List.mem_of_getElem? (i := 11) rfl)) (by decide) (by decide)) q9a q9c (g := (mkF m 53 #[.val (.long m_), .second, .val (.long a), .second, .val (.long b), .second, .val (.long s_), .second, .val (.long e_), .second, .val (.long v_), .second, .val (.long (own_max (1 : Int64) m_)), .second, .val (.int ((((m_.toUInt64 >>> ((1 : Int32) &&& 0x3f).toInt64.toUInt64).toInt64) &&& (7 : Int64)).toInt32)), .val (.long v3), .second, .val (.ref b4), .unset, .unset, .unset, .unset, .unset, .unset] [(.long e_), (.long s_), (.ref b4)])) rfl (by rw [hml]; rfl) (Steps.refl _) (argsL := [(.long s_), (.long e_)]) (rest := []) (lenOf own_pd__JJ_Lcom_example_vigilant_cells_vigilantcells_model_ReadOptions_ rfl) rfl (by show 2 * 0 + _ ≤ _; exact Nat.le_of_eq rfl) (hb hby at_53) (fun _ _ => ⟨rfl, rfl, (by decide : 1 + 1 ≤ _), (by decide : 3 + 3 ≤ _)⟩)
  dsimp only [Pt.U, Pt.locs, Pt.cells, Pt.slots] at X9 l9 y9 z9 st9 hQ9
  subst l9 y9 z9
  obtain ⟨rfl, Nq9, Kq9, Eq9, F1q9, F2q9⟩ := hQ9
  have N9 := Fr.app N6 Nq9
  refine own_st (fun _ k => st9.trans k) ?_
  have z10 : n0 ≤ T9.heap.size := Nat.le_trans z7 Kq9.1
  show own_Go p.tables e below RR (T9.setTop (mkF m 56 #[.val (.long m_), .second, .val (.long a), .second, .val (.long b), .second, .val (.long s_), .second, .val (.long e_), .second, .val (.long v_), .second, .val (.long (own_max (1 : Int64) m_)), .second, .val (.int ((((m_.toUInt64 >>> ((1 : Int32) &&& 0x3f).toInt64.toUInt64).toInt64) &&& (7 : Int64)).toInt32)), .val (.long v3), .second, .val (.ref b4), .unset, .unset, .unset, .unset, .unset, .unset] [(.ref b8)]))
  refine own_st (fun _ k => XS.astore X9.here hx rfl (hb hby at_56) rfl rfl (l' := #[.val (.long m_), .second, .val (.long a), .second, .val (.long b), .second, .val (.long s_), .second, .val (.long e_), .second, .val (.long v_), .second, .val (.long (own_max (1 : Int64) m_)), .second, .val (.int ((((m_.toUInt64 >>> ((1 : Int32) &&& 0x3f).toInt64.toUInt64).toInt64) &&& (7 : Int64)).toInt32)), .val (.long v3), .second, .val (.ref b4), .val (.ref b8), .unset, .unset, .unset, .unset, .unset]) rfl (XS.aload X9.here hx rfl (hb hby at_58) rfl rfl (XS.lload X9.here hx rfl (hb hby at_60) rfl k))) ?_
  show own_Go p.tables e below RR (T9.setTop (mkF m 62 #[.val (.long m_), .second, .val (.long a), .second, .val (.long b), .second, .val (.long s_), .second, .val (.long e_), .second, .val (.long v_), .second, .val (.long (own_max (1 : Int64) m_)), .second, .val (.int ((((m_.toUInt64 >>> ((1 : Int32) &&& 0x3f).toInt64.toUInt64).toInt64) &&& (7 : Int64)).toInt32)), .val (.long v3), .second, .val (.ref b4), .val (.ref b8), .unset, .unset, .unset, .unset, .unset] [(.long v3), (.ref b4)]))
  have f11 := (Fq1_6.keep Kq9 nin0)
  have f12 := (Fq2_6.keep Kq9 nin0)
  have f14 := (Eq6.keep Kq9)
  obtain ⟨cq13, kq13, q13a, q13b, q13c⟩ := isOf hZ rfl f14
  obtain ⟨_, _, ⟨T13, L13, k13, n13⟩, -, X13, ⟨Lc13, hQ13, l13, y13, z13⟩, st13⟩ := X9.virtualBack hx (y := (⟨"com/example/vigilant_cells/vigilantcells/model/ReadOptions", "includes", "(J)Z"⟩ : MethodName)) (z := (⟨"com/example/vigilant_cells/vigilantcells/model/ReadOptions", "includes", "(J)Z"⟩ : MethodName)) hown (mvT hZ (hw _ (List.mem_of_getElem? (i := 37) rfl))) (mvT hZ (hw _ (List.mem_of_getElem? (i := 38) rfl))) (notFace_of_selects (args := #[]) (mvT hZ (hw _ (List.mem_of_getElem? (i := 40) rfl)))) (mvT hZ (hw _ (List.mem_of_getElem? (i := 40) rfl))) (mvT hZ (hw _ (List.mem_of_getElem? (i := 39) rfl))) (by decide) (backOf (W := 0) (own_rmC l Z a0 hw [] b4 v3 a b T9.heap n0 z10 f11 f12) hZ (hw _ (List.mem_of_getElem? (i := 41) rfl)) (hw _ (List.mem_of_getElem? (i := 11) rfl)) (by decide) (by decide)) q13a q13c (g := (mkF m 62 #[.val (.long m_), .second, .val (.long a), .second, .val (.long b), .second, .val (.long s_), .second, .val (.long e_), .second, .val (.long v_), .second, .val (.long (own_max (1 : Int64) m_)), .second, .val (.int ((((m_.toUInt64 >>> ((1 : Int32) &&& 0x3f).toInt64.toUInt64).toInt64) &&& (7 : Int64)).toInt32)), .val (.long v3), .second, .val (.ref b4), .val (.ref b8), .unset, .unset, .unset, .unset, .unset] [(.long v3), (.ref b4)])) rfl (by rw [hml]; rfl) (Steps.refl _) (argsL := [(.long v3)]) (rest := []) (lenOf own_pd__J_Z rfl) rfl (by show 2 * 0 + _ ≤ _; exact Nat.le_of_eq rfl) (hb hby at_62) (fun _ _ => ⟨rfl, rfl, (by decide : 2 + 0 ≤ _), (by decide : 6 + 0 ≤ _)⟩)
  dsimp only [Pt.U, Pt.locs, Pt.cells, Pt.slots] at X13 l13 y13 z13 st13 hQ13
  subst l13 y13 z13
  obtain ⟨rfl, Nq13, eq13⟩ := hQ13
  have N13 := Fr.app N9 Nq13
  refine own_st (fun _ k => st13.trans k) ?_
  show own_Go p.tables e below RR (T13.setTop (mkF m 65 #[.val (.long m_), .second, .val (.long a), .second, .val (.long b), .second, .val (.long s_), .second, .val (.long e_), .second, .val (.long v_), .second, .val (.long (own_max (1 : Int64) m_)), .second, .val (.int ((((m_.toUInt64 >>> ((1 : Int32) &&& 0x3f).toInt64.toUInt64).toInt64) &&& (7 : Int64)).toInt32)), .val (.long v3), .second, .val (.ref b4), .val (.ref b8), .unset, .unset, .unset, .unset, .unset] [(.int (own_inc a b v3))]))
  have join15 : ∀ (T15 : State) (lo15 : List Loc) (X15 : Stand p l e room_1 s m #[(.long m_), (.long a), (.long b), (.long s_), (.long e_), (.long v_)] below meth c T15 lo15 2 6) (e15 : T15.heap = T9.heap) (N15 : Fr n0 lo15), own_Go p.tables e below RR (T15.setTop (mkF m 95 #[.val (.long m_), .second, .val (.long a), .second, .val (.long b), .second, .val (.long s_), .second, .val (.long e_), .second, .val (.long v_), .second, .val (.long (own_max (1 : Int64) m_)), .second, .val (.int ((((m_.toUInt64 >>> ((1 : Int32) &&& 0x3f).toInt64.toUInt64).toInt64) &&& (7 : Int64)).toInt32)), .val (.long v3), .second, .val (.ref b4), .val (.ref b8), .val (.int (1 : Int32)), .unset, .unset, .unset, .unset] [])) := by
    intro T15 lo15  X15 e15 N15 
    show own_Go p.tables e below RR (T15.setTop (mkF m 95 #[.val (.long m_), .second, .val (.long a), .second, .val (.long b), .second, .val (.long s_), .second, .val (.long e_), .second, .val (.long v_), .second, .val (.long (own_max (1 : Int64) m_)), .second, .val (.int ((((m_.toUInt64 >>> ((1 : Int32) &&& 0x3f).toInt64.toUInt64).toInt64) &&& (7 : Int64)).toInt32)), .val (.long v3), .second, .val (.ref b4), .val (.ref b8), .val (.int (1 : Int32)), .unset, .unset, .unset, .unset] []))
    refine own_st (fun _ k => XS.aload X15.here hx rfl (hb hby at_95) rfl rfl (XS.lloadN X15.here hx rfl (hb hby at_97) rfl k)) ?_
    show own_Go p.tables e below RR (T15.setTop (mkF m 98 #[.val (.long m_), .second, .val (.long a), .second, .val (.long b), .second, .val (.long s_), .second, .val (.long e_), .second, .val (.long v_), .second, .val (.long (own_max (1 : Int64) m_)), .second, .val (.int ((((m_.toUInt64 >>> ((1 : Int32) &&& 0x3f).toInt64.toUInt64).toInt64) &&& (7 : Int64)).toInt32)), .val (.long v3), .second, .val (.ref b4), .val (.ref b8), .val (.int (1 : Int32)), .unset, .unset, .unset, .unset] [(.long a), (.ref b4)]))
    obtain ⟨cq16, kq16, q16a, q16b, q16c⟩ := isOf hZ e15 f14
    obtain ⟨_, _, ⟨T16, L16, k16, n16⟩, -, X16, ⟨Lc16, hQ16, l16, y16, z16⟩, st16⟩ := X15.virtualBack hx (y := (⟨"com/example/vigilant_cells/vigilantcells/model/ReadOptions", "includes", "(J)Z"⟩ : MethodName)) (z := (⟨"com/example/vigilant_cells/vigilantcells/model/ReadOptions", "includes", "(J)Z"⟩ : MethodName)) hown (mvT hZ (hw _ (List.mem_of_getElem? (i := 37) rfl))) (mvT hZ (hw _ (List.mem_of_getElem? (i := 38) rfl))) (notFace_of_selects (args := #[]) (mvT hZ (hw _ (List.mem_of_getElem? (i := 40) rfl)))) (mvT hZ (hw _ (List.mem_of_getElem? (i := 40) rfl))) (mvT hZ (hw _ (List.mem_of_getElem? (i := 39) rfl))) (by decide) (backOf (W := 0) (own_rmC l Z a0 hw [] b4 a a b T9.heap n0 z10 f11 f12) hZ (hw _ (List.mem_of_getElem? (i := 41) rfl)) (hw _ (List.mem_of_getElem? (i := 11) rfl)) (by decide) (by decide)) q16a q16c (g := (mkF m 98 #[.val (.long m_), .second, .val (.long a), .second, .val (.long b), .second, .val (.long s_), .second, .val (.long e_), .second, .val (.long v_), .second, .val (.long (own_max (1 : Int64) m_)), .second, .val (.int ((((m_.toUInt64 >>> ((1 : Int32) &&& 0x3f).toInt64.toUInt64).toInt64) &&& (7 : Int64)).toInt32)), .val (.long v3), .second, .val (.ref b4), .val (.ref b8), .val (.int (1 : Int32)), .unset, .unset, .unset, .unset] [(.long a), (.ref b4)])) rfl (by rw [hml]; rfl) (Steps.refl _) (argsL := [(.long a)]) (rest := []) (lenOf own_pd__J_Z rfl) rfl (by show 2 * 0 + _ ≤ _; exact Nat.le_of_eq rfl) (hb hby at_98) (fun _ _ => ⟨rfl, e15, (by decide : 2 + 0 ≤ _), (by decide : 6 + 0 ≤ _)⟩)
    dsimp only [Pt.U, Pt.locs, Pt.cells, Pt.slots] at X16 l16 y16 z16 st16 hQ16
    subst l16 y16 z16
    obtain ⟨rfl, Nq16, eq16⟩ := hQ16
    have N16 := Fr.app N15 Nq16
    refine own_st (fun _ k => st16.trans k) ?_
    show own_Go p.tables e below RR (T16.setTop (mkF m 101 #[.val (.long m_), .second, .val (.long a), .second, .val (.long b), .second, .val (.long s_), .second, .val (.long e_), .second, .val (.long v_), .second, .val (.long (own_max (1 : Int64) m_)), .second, .val (.int ((((m_.toUInt64 >>> ((1 : Int32) &&& 0x3f).toInt64.toUInt64).toInt64) &&& (7 : Int64)).toInt32)), .val (.long v3), .second, .val (.ref b4), .val (.ref b8), .val (.int (1 : Int32)), .unset, .unset, .unset, .unset] [(.int (own_inc a b a))]))
    have join17 : ∀ (T17 : State) (lo17 : List Loc) (X17 : Stand p l e room_1 s m #[(.long m_), (.long a), (.long b), (.long s_), (.long e_), (.long v_)] below meth c T17 lo17 2 6) (e17 : T17.heap = T9.heap) (N17 : Fr n0 lo17), own_Go p.tables e below RR (T17.setTop (mkF m 123 #[.val (.long m_), .second, .val (.long a), .second, .val (.long b), .second, .val (.long s_), .second, .val (.long e_), .second, .val (.long v_), .second, .val (.long (own_max (1 : Int64) m_)), .second, .val (.int ((((m_.toUInt64 >>> ((1 : Int32) &&& 0x3f).toInt64.toUInt64).toInt64) &&& (7 : Int64)).toInt32)), .val (.long v3), .second, .val (.ref b4), .val (.ref b8), .val (.int (1 : Int32)), .val (.int (1 : Int32)), .unset, .unset, .unset] [])) := by
      intro T17 lo17  X17 e17 N17 
      show own_Go p.tables e below RR (T17.setTop (mkF m 123 #[.val (.long m_), .second, .val (.long a), .second, .val (.long b), .second, .val (.long s_), .second, .val (.long e_), .second, .val (.long v_), .second, .val (.long (own_max (1 : Int64) m_)), .second, .val (.int ((((m_.toUInt64 >>> ((1 : Int32) &&& 0x3f).toInt64.toUInt64).toInt64) &&& (7 : Int64)).toInt32)), .val (.long v3), .second, .val (.ref b4), .val (.ref b8), .val (.int (1 : Int32)), .val (.int (1 : Int32)), .unset, .unset, .unset] []))
      refine own_st (fun _ k => XS.aload X17.here hx rfl (hb hby at_123) rfl rfl (XS.lload X17.here hx rfl (hb hby at_125) rfl k)) ?_
      show own_Go p.tables e below RR (T17.setTop (mkF m 127 #[.val (.long m_), .second, .val (.long a), .second, .val (.long b), .second, .val (.long s_), .second, .val (.long e_), .second, .val (.long v_), .second, .val (.long (own_max (1 : Int64) m_)), .second, .val (.int ((((m_.toUInt64 >>> ((1 : Int32) &&& 0x3f).toInt64.toUInt64).toInt64) &&& (7 : Int64)).toInt32)), .val (.long v3), .second, .val (.ref b4), .val (.ref b8), .val (.int (1 : Int32)), .val (.int (1 : Int32)), .unset, .unset, .unset] [(.long b), (.ref b4)]))
      obtain ⟨cq18, kq18, q18a, q18b, q18c⟩ := isOf hZ e17 f14
      obtain ⟨_, _, ⟨T18, L18, k18, n18⟩, -, X18, ⟨Lc18, hQ18, l18, y18, z18⟩, st18⟩ := X17.virtualBack hx (y := (⟨"com/example/vigilant_cells/vigilantcells/model/ReadOptions", "includes", "(J)Z"⟩ : MethodName)) (z := (⟨"com/example/vigilant_cells/vigilantcells/model/ReadOptions", "includes", "(J)Z"⟩ : MethodName)) hown (mvT hZ (hw _ (List.mem_of_getElem? (i := 37) rfl))) (mvT hZ (hw _ (List.mem_of_getElem? (i := 38) rfl))) (notFace_of_selects (args := #[]) (mvT hZ (hw _ (List.mem_of_getElem? (i := 40) rfl)))) (mvT hZ (hw _ (List.mem_of_getElem? (i := 40) rfl))) (mvT hZ (hw _ (List.mem_of_getElem? (i := 39) rfl))) (by decide) (backOf (W := 0) (own_rmC l Z a0 hw [] b4 b a b T9.heap n0 z10 f11 f12) hZ (hw _ (List.mem_of_getElem? (i := 41) rfl)) (hw _ (List.mem_of_getElem? (i := 11) rfl)) (by decide) (by decide)) q18a q18c (g := (mkF m 127 #[.val (.long m_), .second, .val (.long a), .second, .val (.long b), .second, .val (.long s_), .second, .val (.long e_), .second, .val (.long v_), .second, .val (.long (own_max (1 : Int64) m_)), .second, .val (.int ((((m_.toUInt64 >>> ((1 : Int32) &&& 0x3f).toInt64.toUInt64).toInt64) &&& (7 : Int64)).toInt32)), .val (.long v3), .second, .val (.ref b4), .val (.ref b8), .val (.int (1 : Int32)), .val (.int (1 : Int32)), .unset, .unset, .unset] [(.long b), (.ref b4)])) rfl (by rw [hml]; rfl) (Steps.refl _) (argsL := [(.long b)]) (rest := []) (lenOf own_pd__J_Z rfl) rfl (by show 2 * 0 + _ ≤ _; exact Nat.le_of_eq rfl) (hb hby at_127) (fun _ _ => ⟨rfl, e17, (by decide : 2 + 0 ≤ _), (by decide : 6 + 0 ≤ _)⟩)
      dsimp only [Pt.U, Pt.locs, Pt.cells, Pt.slots] at X18 l18 y18 z18 st18 hQ18
      subst l18 y18 z18
      obtain ⟨rfl, Nq18, eq18⟩ := hQ18
      have N18 := Fr.app N17 Nq18
      refine own_st (fun _ k => st18.trans k) ?_
      show own_Go p.tables e below RR (T18.setTop (mkF m 130 #[.val (.long m_), .second, .val (.long a), .second, .val (.long b), .second, .val (.long s_), .second, .val (.long e_), .second, .val (.long v_), .second, .val (.long (own_max (1 : Int64) m_)), .second, .val (.int ((((m_.toUInt64 >>> ((1 : Int32) &&& 0x3f).toInt64.toUInt64).toInt64) &&& (7 : Int64)).toInt32)), .val (.long v3), .second, .val (.ref b4), .val (.ref b8), .val (.int (1 : Int32)), .val (.int (1 : Int32)), .unset, .unset, .unset] [(.int (own_inc a b b))]))
      have join19 : ∀ (T19 : State) (lo19 : List Loc) (X19 : Stand p l e room_1 s m #[(.long m_), (.long a), (.long b), (.long s_), (.long e_), (.long v_)] below meth c T19 lo19 2 6) (e19 : T19.heap = T9.heap) (N19 : Fr n0 lo19), own_Go p.tables e below RR (T19.setTop (mkF m 152 #[.val (.long m_), .second, .val (.long a), .second, .val (.long b), .second, .val (.long s_), .second, .val (.long e_), .second, .val (.long v_), .second, .val (.long (own_max (1 : Int64) m_)), .second, .val (.int ((((m_.toUInt64 >>> ((1 : Int32) &&& 0x3f).toInt64.toUInt64).toInt64) &&& (7 : Int64)).toInt32)), .val (.long v3), .second, .val (.ref b4), .val (.ref b8), .val (.int (1 : Int32)), .val (.int (1 : Int32)), .val (.int (1 : Int32)), .unset, .unset] [])) := by
        intro T19 lo19  X19 e19 N19 
        show own_Go p.tables e below RR (T19.setTop (mkF m 152 #[.val (.long m_), .second, .val (.long a), .second, .val (.long b), .second, .val (.long s_), .second, .val (.long e_), .second, .val (.long v_), .second, .val (.long (own_max (1 : Int64) m_)), .second, .val (.int ((((m_.toUInt64 >>> ((1 : Int32) &&& 0x3f).toInt64.toUInt64).toInt64) &&& (7 : Int64)).toInt32)), .val (.long v3), .second, .val (.ref b4), .val (.ref b8), .val (.int (1 : Int32)), .val (.int (1 : Int32)), .val (.int (1 : Int32)), .unset, .unset] []))
        refine own_st (fun _ k => XS.aload X19.here hx rfl (hb hby at_152) rfl rfl (XS.lload X19.here hx rfl (hb hby at_154) rfl k)) ?_
        show own_Go p.tables e below RR (T19.setTop (mkF m 156 #[.val (.long m_), .second, .val (.long a), .second, .val (.long b), .second, .val (.long s_), .second, .val (.long e_), .second, .val (.long v_), .second, .val (.long (own_max (1 : Int64) m_)), .second, .val (.int ((((m_.toUInt64 >>> ((1 : Int32) &&& 0x3f).toInt64.toUInt64).toInt64) &&& (7 : Int64)).toInt32)), .val (.long v3), .second, .val (.ref b4), .val (.ref b8), .val (.int (1 : Int32)), .val (.int (1 : Int32)), .val (.int (1 : Int32)), .unset, .unset] [(.long v3), (.ref b8)]))
        obtain ⟨cq20, kq20, q20a, q20b, q20c⟩ := isOf hZ e19 Eq9
        obtain ⟨_, _, ⟨T20, L20, k20, n20⟩, -, X20, ⟨Lc20, hQ20, l20, y20, z20⟩, st20⟩ := X19.virtualBack hx (y := (⟨"com/example/vigilant_cells/vigilantcells/model/ReadOptions", "includes", "(J)Z"⟩ : MethodName)) (z := (⟨"com/example/vigilant_cells/vigilantcells/model/ReadOptions", "includes", "(J)Z"⟩ : MethodName)) hown (mvT hZ (hw _ (List.mem_of_getElem? (i := 37) rfl))) (mvT hZ (hw _ (List.mem_of_getElem? (i := 38) rfl))) (notFace_of_selects (args := #[]) (mvT hZ (hw _ (List.mem_of_getElem? (i := 40) rfl)))) (mvT hZ (hw _ (List.mem_of_getElem? (i := 40) rfl))) (mvT hZ (hw _ (List.mem_of_getElem? (i := 39) rfl))) (by decide) (backOf (W := 0) (own_rmC l Z a0 hw [] b8 v3 (own_f s_ e_) (own_l s_ e_) T9.heap n0 z10 F1q9 F2q9) hZ (hw _ (List.mem_of_getElem? (i := 41) rfl)) (hw _ (List.mem_of_getElem? (i := 11) rfl)) (by decide) (by decide)) q20a q20c (g := (mkF m 156 #[.val (.long m_), .second, .val (.long a), .second, .val (.long b), .second, .val (.long s_), .second, .val (.long e_), .second, .val (.long v_), .second, .val (.long (own_max (1 : Int64) m_)), .second, .val (.int ((((m_.toUInt64 >>> ((1 : Int32) &&& 0x3f).toInt64.toUInt64).toInt64) &&& (7 : Int64)).toInt32)), .val (.long v3), .second, .val (.ref b4), .val (.ref b8), .val (.int (1 : Int32)), .val (.int (1 : Int32)), .val (.int (1 : Int32)), .unset, .unset] [(.long v3), (.ref b8)])) rfl (by rw [hml]; rfl) (Steps.refl _) (argsL := [(.long v3)]) (rest := []) (lenOf own_pd__J_Z rfl) rfl (by show 2 * 0 + _ ≤ _; exact Nat.le_of_eq rfl) (hb hby at_156) (fun _ _ => ⟨rfl, e19, (by decide : 2 + 0 ≤ _), (by decide : 6 + 0 ≤ _)⟩)
        dsimp only [Pt.U, Pt.locs, Pt.cells, Pt.slots] at X20 l20 y20 z20 st20 hQ20
        subst l20 y20 z20
        obtain ⟨rfl, Nq20, eq20⟩ := hQ20
        have N20 := Fr.app N19 Nq20
        refine own_st (fun _ k => st20.trans k) ?_
        show own_Go p.tables e below RR (T20.setTop (mkF m 159 #[.val (.long m_), .second, .val (.long a), .second, .val (.long b), .second, .val (.long s_), .second, .val (.long e_), .second, .val (.long v_), .second, .val (.long (own_max (1 : Int64) m_)), .second, .val (.int ((((m_.toUInt64 >>> ((1 : Int32) &&& 0x3f).toInt64.toUInt64).toInt64) &&& (7 : Int64)).toInt32)), .val (.long v3), .second, .val (.ref b4), .val (.ref b8), .val (.int (1 : Int32)), .val (.int (1 : Int32)), .val (.int (1 : Int32)), .unset, .unset] [(.int (own_inc (own_f s_ e_) (own_l s_ e_) v3))]))
        have join21 : ∀ (T21 : State) (lo21 : List Loc) (X21 : Stand p l e room_1 s m #[(.long m_), (.long a), (.long b), (.long s_), (.long e_), (.long v_)] below meth c T21 lo21 2 6) (e21 : T21.heap = T9.heap) (N21 : Fr n0 lo21), own_Go p.tables e below RR (T21.setTop (mkF m 190 #[.val (.long m_), .second, .val (.long a), .second, .val (.long b), .second, .val (.long s_), .second, .val (.long e_), .second, .val (.long v_), .second, .val (.long (own_max (1 : Int64) m_)), .second, .val (.int ((((m_.toUInt64 >>> ((1 : Int32) &&& 0x3f).toInt64.toUInt64).toInt64) &&& (7 : Int64)).toInt32)), .val (.long v3), .second, .val (.ref b4), .val (.ref b8), .val (.int (1 : Int32)), .val (.int (1 : Int32)), .val (.int (1 : Int32)), .val (.int (1 : Int32)), .unset] [])) := by
          intro T21 lo21  X21 e21 N21 
          show own_Go p.tables e below RR (T21.setTop (mkF m 190 #[.val (.long m_), .second, .val (.long a), .second, .val (.long b), .second, .val (.long s_), .second, .val (.long e_), .second, .val (.long v_), .second, .val (.long (own_max (1 : Int64) m_)), .second, .val (.int ((((m_.toUInt64 >>> ((1 : Int32) &&& 0x3f).toInt64.toUInt64).toInt64) &&& (7 : Int64)).toInt32)), .val (.long v3), .second, .val (.ref b4), .val (.ref b8), .val (.int (1 : Int32)), .val (.int (1 : Int32)), .val (.int (1 : Int32)), .val (.int (1 : Int32)), .unset] []))
          refine own_st (fun _ k => XS.aload X21.here hx rfl (hb hby at_190) rfl rfl (XS.lload X21.here hx rfl (hb hby at_192) rfl k)) ?_
          show own_Go p.tables e below RR (T21.setTop (mkF m 194 #[.val (.long m_), .second, .val (.long a), .second, .val (.long b), .second, .val (.long s_), .second, .val (.long e_), .second, .val (.long v_), .second, .val (.long (own_max (1 : Int64) m_)), .second, .val (.int ((((m_.toUInt64 >>> ((1 : Int32) &&& 0x3f).toInt64.toUInt64).toInt64) &&& (7 : Int64)).toInt32)), .val (.long v3), .second, .val (.ref b4), .val (.ref b8), .val (.int (1 : Int32)), .val (.int (1 : Int32)), .val (.int (1 : Int32)), .val (.int (1 : Int32)), .unset] [(.long s_), (.ref b8)]))
          obtain ⟨cq22, kq22, q22a, q22b, q22c⟩ := isOf hZ e21 Eq9
          obtain ⟨_, _, ⟨T22, L22, k22, n22⟩, -, X22, ⟨Lc22, hQ22, l22, y22, z22⟩, st22⟩ := X21.virtualBack hx (y := (⟨"com/example/vigilant_cells/vigilantcells/model/ReadOptions", "includes", "(J)Z"⟩ : MethodName)) (z := (⟨"com/example/vigilant_cells/vigilantcells/model/ReadOptions", "includes", "(J)Z"⟩ : MethodName)) hown (mvT hZ (hw _ (List.mem_of_getElem? (i := 37) rfl))) (mvT hZ (hw _ (List.mem_of_getElem? (i := 38) rfl))) (notFace_of_selects (args := #[]) (mvT hZ (hw _ (List.mem_of_getElem? (i := 40) rfl)))) (mvT hZ (hw _ (List.mem_of_getElem? (i := 40) rfl))) (mvT hZ (hw _ (List.mem_of_getElem? (i := 39) rfl))) (by decide) (backOf (W := 0) (own_rmC l Z a0 hw [] b8 s_ (own_f s_ e_) (own_l s_ e_) T9.heap n0 z10 F1q9 F2q9) hZ (hw _ (List.mem_of_getElem? (i := 41) rfl)) (hw _ (List.mem_of_getElem? (i := 11) rfl)) (by decide) (by decide)) q22a q22c (g := (mkF m 194 #[.val (.long m_), .second, .val (.long a), .second, .val (.long b), .second, .val (.long s_), .second, .val (.long e_), .second, .val (.long v_), .second, .val (.long (own_max (1 : Int64) m_)), .second, .val (.int ((((m_.toUInt64 >>> ((1 : Int32) &&& 0x3f).toInt64.toUInt64).toInt64) &&& (7 : Int64)).toInt32)), .val (.long v3), .second, .val (.ref b4), .val (.ref b8), .val (.int (1 : Int32)), .val (.int (1 : Int32)), .val (.int (1 : Int32)), .val (.int (1 : Int32)), .unset] [(.long s_), (.ref b8)])) rfl (by rw [hml]; rfl) (Steps.refl _) (argsL := [(.long s_)]) (rest := []) (lenOf own_pd__J_Z rfl) rfl (by show 2 * 0 + _ ≤ _; exact Nat.le_of_eq rfl) (hb hby at_194) (fun _ _ => ⟨rfl, e21, (by decide : 2 + 0 ≤ _), (by decide : 6 + 0 ≤ _)⟩)
          dsimp only [Pt.U, Pt.locs, Pt.cells, Pt.slots] at X22 l22 y22 z22 st22 hQ22
          subst l22 y22 z22
          obtain ⟨rfl, Nq22, eq22⟩ := hQ22
          have N22 := Fr.app N21 Nq22
          refine own_st (fun _ k => st22.trans k) ?_
          show own_Go p.tables e below RR (T22.setTop (mkF m 197 #[.val (.long m_), .second, .val (.long a), .second, .val (.long b), .second, .val (.long s_), .second, .val (.long e_), .second, .val (.long v_), .second, .val (.long (own_max (1 : Int64) m_)), .second, .val (.int ((((m_.toUInt64 >>> ((1 : Int32) &&& 0x3f).toInt64.toUInt64).toInt64) &&& (7 : Int64)).toInt32)), .val (.long v3), .second, .val (.ref b4), .val (.ref b8), .val (.int (1 : Int32)), .val (.int (1 : Int32)), .val (.int (1 : Int32)), .val (.int (1 : Int32)), .unset] [(.int (own_inc (own_f s_ e_) (own_l s_ e_) s_))]))
          have join23 : ∀ (T23 : State) (lo23 : List Loc) (X23 : Stand p l e room_1 s m #[(.long m_), (.long a), (.long b), (.long s_), (.long e_), (.long v_)] below meth c T23 lo23 2 6) (e23 : T23.heap = T9.heap) (N23 : Fr n0 lo23), own_Go p.tables e below RR (T23.setTop (mkF m 220 #[.val (.long m_), .second, .val (.long a), .second, .val (.long b), .second, .val (.long s_), .second, .val (.long e_), .second, .val (.long v_), .second, .val (.long (own_max (1 : Int64) m_)), .second, .val (.int ((((m_.toUInt64 >>> ((1 : Int32) &&& 0x3f).toInt64.toUInt64).toInt64) &&& (7 : Int64)).toInt32)), .val (.long v3), .second, .val (.ref b4), .val (.ref b8), .val (.int (1 : Int32)), .val (.int (1 : Int32)), .val (.int (1 : Int32)), .val (.int (1 : Int32)), .val (.int (1 : Int32))] [])) := by
            intro T23 lo23  X23 e23 N23 
            show own_Go p.tables e below RR (T23.setTop (mkF m 220 #[.val (.long m_), .second, .val (.long a), .second, .val (.long b), .second, .val (.long s_), .second, .val (.long e_), .second, .val (.long v_), .second, .val (.long (own_max (1 : Int64) m_)), .second, .val (.int ((((m_.toUInt64 >>> ((1 : Int32) &&& 0x3f).toInt64.toUInt64).toInt64) &&& (7 : Int64)).toInt32)), .val (.long v3), .second, .val (.ref b4), .val (.ref b8), .val (.int (1 : Int32)), .val (.int (1 : Int32)), .val (.int (1 : Int32)), .val (.int (1 : Int32)), .val (.int (1 : Int32))] []))
            refine own_st (fun _ k => XS.iload X23.here hx rfl (hb hby at_220) rfl k) ?_
            show own_Go p.tables e below RR (T23.setTop (mkF m 222 #[.val (.long m_), .second, .val (.long a), .second, .val (.long b), .second, .val (.long s_), .second, .val (.long e_), .second, .val (.long v_), .second, .val (.long (own_max (1 : Int64) m_)), .second, .val (.int ((((m_.toUInt64 >>> ((1 : Int32) &&& 0x3f).toInt64.toUInt64).toInt64) &&& (7 : Int64)).toInt32)), .val (.long v3), .second, .val (.ref b4), .val (.ref b8), .val (.int (1 : Int32)), .val (.int (1 : Int32)), .val (.int (1 : Int32)), .val (.int (1 : Int32)), .val (.int (1 : Int32))] [(.int (1 : Int32))]))
            refine own_st (fun _ k => XS.ifNo X23.here hx rfl (hb hby at_222) rfl ((if0 _ _).trans (feq (by decide)).1) (XS.iload X23.here hx rfl (hb hby at_225) rfl k)) ?_
            show own_Go p.tables e below RR (T23.setTop (mkF m 227 #[.val (.long m_), .second, .val (.long a), .second, .val (.long b), .second, .val (.long s_), .second, .val (.long e_), .second, .val (.long v_), .second, .val (.long (own_max (1 : Int64) m_)), .second, .val (.int ((((m_.toUInt64 >>> ((1 : Int32) &&& 0x3f).toInt64.toUInt64).toInt64) &&& (7 : Int64)).toInt32)), .val (.long v3), .second, .val (.ref b4), .val (.ref b8), .val (.int (1 : Int32)), .val (.int (1 : Int32)), .val (.int (1 : Int32)), .val (.int (1 : Int32)), .val (.int (1 : Int32))] [(.int (1 : Int32))]))
            refine own_st (fun _ k => XS.ifNo X23.here hx rfl (hb hby at_227) rfl ((if0 _ _).trans (feq (by decide)).1) (XS.iload X23.here hx rfl (hb hby at_230) rfl k)) ?_
            show own_Go p.tables e below RR (T23.setTop (mkF m 232 #[.val (.long m_), .second, .val (.long a), .second, .val (.long b), .second, .val (.long s_), .second, .val (.long e_), .second, .val (.long v_), .second, .val (.long (own_max (1 : Int64) m_)), .second, .val (.int ((((m_.toUInt64 >>> ((1 : Int32) &&& 0x3f).toInt64.toUInt64).toInt64) &&& (7 : Int64)).toInt32)), .val (.long v3), .second, .val (.ref b4), .val (.ref b8), .val (.int (1 : Int32)), .val (.int (1 : Int32)), .val (.int (1 : Int32)), .val (.int (1 : Int32)), .val (.int (1 : Int32))] [(.int (1 : Int32))]))
            refine own_st (fun _ k => XS.ifNo X23.here hx rfl (hb hby at_232) rfl ((if0 _ _).trans (feq (by decide)).1) (XS.iload X23.here hx rfl (hb hby at_235) rfl k)) ?_
            show own_Go p.tables e below RR (T23.setTop (mkF m 237 #[.val (.long m_), .second, .val (.long a), .second, .val (.long b), .second, .val (.long s_), .second, .val (.long e_), .second, .val (.long v_), .second, .val (.long (own_max (1 : Int64) m_)), .second, .val (.int ((((m_.toUInt64 >>> ((1 : Int32) &&& 0x3f).toInt64.toUInt64).toInt64) &&& (7 : Int64)).toInt32)), .val (.long v3), .second, .val (.ref b4), .val (.ref b8), .val (.int (1 : Int32)), .val (.int (1 : Int32)), .val (.int (1 : Int32)), .val (.int (1 : Int32)), .val (.int (1 : Int32))] [(.int (1 : Int32))]))
            refine own_st (fun _ k => XS.ifNo X23.here hx rfl (hb hby at_237) rfl ((if0 _ _).trans (feq (by decide)).1) (XS.iload X23.here hx rfl (hb hby at_240) rfl k)) ?_
            show own_Go p.tables e below RR (T23.setTop (mkF m 242 #[.val (.long m_), .second, .val (.long a), .second, .val (.long b), .second, .val (.long s_), .second, .val (.long e_), .second, .val (.long v_), .second, .val (.long (own_max (1 : Int64) m_)), .second, .val (.int ((((m_.toUInt64 >>> ((1 : Int32) &&& 0x3f).toInt64.toUInt64).toInt64) &&& (7 : Int64)).toInt32)), .val (.long v3), .second, .val (.ref b4), .val (.ref b8), .val (.int (1 : Int32)), .val (.int (1 : Int32)), .val (.int (1 : Int32)), .val (.int (1 : Int32)), .val (.int (1 : Int32))] [(.int (1 : Int32))]))
            refine own_st (fun _ k => XS.ifNo X23.here hx rfl (hb hby at_242) rfl ((if0 _ _).trans (feq (by decide)).1) (XS.iconst X23.here hx rfl (hb hby at_245) (XS.goto X23.here hx rfl (pc0 := 246) (pc' := 250) rfl (hb hby at_246) (by decide) (by decide) k))) ?_
            show own_Go p.tables e below RR (T23.setTop (mkF m 250 #[.val (.long m_), .second, .val (.long a), .second, .val (.long b), .second, .val (.long s_), .second, .val (.long e_), .second, .val (.long v_), .second, .val (.long (own_max (1 : Int64) m_)), .second, .val (.int ((((m_.toUInt64 >>> ((1 : Int32) &&& 0x3f).toInt64.toUInt64).toInt64) &&& (7 : Int64)).toInt32)), .val (.long v3), .second, .val (.ref b4), .val (.ref b8), .val (.int (1 : Int32)), .val (.int (1 : Int32)), .val (.int (1 : Int32)), .val (.int (1 : Int32)), .val (.int (1 : Int32))] [(.int (1 : Int32))]))
            obtain ⟨fs, hrt_, hrun, hended, hW, hsame⟩ := X23.leave (v := some (.int (1 : Int32))) (fun h => by rw [Bd.returns] at h; cases h)
            refine own_fin (retN X23 hx (t := .boolean) Bd.returns (by simp) (hb hby at_250) hrt_) (hRR _ ⟨_, hrun, hended, _, _, rfl, ?_, ⟨_, rfl⟩, hW, hsame.mono (by decide) (by decide)⟩)
            show own_Q0 Z m_ a b s_ e_ v_ h0 n0 _ T23.heap _
            rw [e23]
            exact ⟨rfl, N23⟩
          show own_Go p.tables e below RR (T22.setTop (mkF m 197 #[.val (.long m_), .second, .val (.long a), .second, .val (.long b), .second, .val (.long s_), .second, .val (.long e_), .second, .val (.long v_), .second, .val (.long (own_max (1 : Int64) m_)), .second, .val (.int ((((m_.toUInt64 >>> ((1 : Int32) &&& 0x3f).toInt64.toUInt64).toInt64) &&& (7 : Int64)).toInt32)), .val (.long v3), .second, .val (.ref b4), .val (.ref b8), .val (.int (1 : Int32)), .val (.int (1 : Int32)), .val (.int (1 : Int32)), .val (.int (1 : Int32)), .unset] [(.int (own_inc (own_f s_ e_) (own_l s_ e_) s_))]))
          refine own_st (fun _ k => XS.lload X22.here hx rfl (hb hby at_197) rfl (XS.lload X22.here hx rfl (hb hby at_199) rfl (XS.lcmp X22.here hx rfl (hb hby at_201) rfl k))) ?_
          show own_Go p.tables e below RR (T22.setTop (mkF m 202 #[.val (.long m_), .second, .val (.long a), .second, .val (.long b), .second, .val (.long s_), .second, .val (.long e_), .second, .val (.long v_), .second, .val (.long (own_max (1 : Int64) m_)), .second, .val (.int ((((m_.toUInt64 >>> ((1 : Int32) &&& 0x3f).toInt64.toUInt64).toInt64) &&& (7 : Int64)).toInt32)), .val (.long v3), .second, .val (.ref b4), .val (.ref b8), .val (.int (1 : Int32)), .val (.int (1 : Int32)), .val (.int (1 : Int32)), .val (.int (1 : Int32)), .unset] [(.int (lcmpW s_ e_)), (.int (own_inc (own_f s_ e_) (own_l s_ e_) s_))]))
          by_cases hc202_24 : s_ < e_
          · refine own_st (fun _ k => XS.ifNo X22.here hx rfl (hb hby at_202) rfl ((if0 _ _).trans (tlt ((lw_lt _ _).mpr hc202_24)).2.1) (XS.iconst X22.here hx rfl (hb hby at_205) (XS.goto X22.here hx rfl (pc0 := 206) (pc' := 210) rfl (hb hby at_206) (by decide) (by decide) k))) ?_
            show own_Go p.tables e below RR (T22.setTop (mkF m 210 #[.val (.long m_), .second, .val (.long a), .second, .val (.long b), .second, .val (.long s_), .second, .val (.long e_), .second, .val (.long v_), .second, .val (.long (own_max (1 : Int64) m_)), .second, .val (.int ((((m_.toUInt64 >>> ((1 : Int32) &&& 0x3f).toInt64.toUInt64).toInt64) &&& (7 : Int64)).toInt32)), .val (.long v3), .second, .val (.ref b4), .val (.ref b8), .val (.int (1 : Int32)), .val (.int (1 : Int32)), .val (.int (1 : Int32)), .val (.int (1 : Int32)), .unset] [(.int (1 : Int32)), (.int (own_inc (own_f s_ e_) (own_l s_ e_) s_))]))
            have hc210_25 : (own_inc (own_f s_ e_) (own_l s_ e_) s_) = (1 : Int32) := by rw [own_w]; first | (simp only [hc202_24, if_true, if_false]; done) | simp [hc202_24]
            refine own_st (fun _ k => XS.icmpNo X22.here hx rfl (hb hby at_210) rfl (teq hc210_25).2 (XS.iconst X22.here hx rfl (hb hby at_213) (XS.goto X22.here hx rfl (pc0 := 214) (pc' := 218) rfl (hb hby at_214) (by decide) (by decide) (XS.istore X22.here hx rfl (hb hby at_218) rfl (l' := #[.val (.long m_), .second, .val (.long a), .second, .val (.long b), .second, .val (.long s_), .second, .val (.long e_), .second, .val (.long v_), .second, .val (.long (own_max (1 : Int64) m_)), .second, .val (.int ((((m_.toUInt64 >>> ((1 : Int32) &&& 0x3f).toInt64.toUInt64).toInt64) &&& (7 : Int64)).toInt32)), .val (.long v3), .second, .val (.ref b4), .val (.ref b8), .val (.int (1 : Int32)), .val (.int (1 : Int32)), .val (.int (1 : Int32)), .val (.int (1 : Int32)), .val (.int (1 : Int32))]) rfl k)))) ?_
            show own_Go p.tables e below RR (T22.setTop (mkF m 220 #[.val (.long m_), .second, .val (.long a), .second, .val (.long b), .second, .val (.long s_), .second, .val (.long e_), .second, .val (.long v_), .second, .val (.long (own_max (1 : Int64) m_)), .second, .val (.int ((((m_.toUInt64 >>> ((1 : Int32) &&& 0x3f).toInt64.toUInt64).toInt64) &&& (7 : Int64)).toInt32)), .val (.long v3), .second, .val (.ref b4), .val (.ref b8), .val (.int (1 : Int32)), .val (.int (1 : Int32)), .val (.int (1 : Int32)), .val (.int (1 : Int32)), .val (.int (1 : Int32))] []))
            exact join23 T22 _  X22 eq22 N22 
          · refine own_st (fun _ k => XS.ifYes X22.here hx rfl (pc0 := 202) (pc' := 209) rfl (hb hby at_202) rfl ((if0 _ _).trans (flt (fun q => hc202_24 ((lw_lt _ _).mp q))).2.1) (by decide) (by decide) (XS.iconst X22.here hx rfl (hb hby at_209) k)) ?_
            show own_Go p.tables e below RR (T22.setTop (mkF m 210 #[.val (.long m_), .second, .val (.long a), .second, .val (.long b), .second, .val (.long s_), .second, .val (.long e_), .second, .val (.long v_), .second, .val (.long (own_max (1 : Int64) m_)), .second, .val (.int ((((m_.toUInt64 >>> ((1 : Int32) &&& 0x3f).toInt64.toUInt64).toInt64) &&& (7 : Int64)).toInt32)), .val (.long v3), .second, .val (.ref b4), .val (.ref b8), .val (.int (1 : Int32)), .val (.int (1 : Int32)), .val (.int (1 : Int32)), .val (.int (1 : Int32)), .unset] [(.int (0 : Int32)), (.int (own_inc (own_f s_ e_) (own_l s_ e_) s_))]))
            have hc210_26 : (own_inc (own_f s_ e_) (own_l s_ e_) s_) = (0 : Int32) := by rw [own_w]; first | (simp only [hc202_24, if_true, if_false]; done) | simp [hc202_24]
            refine own_st (fun _ k => XS.icmpNo X22.here hx rfl (hb hby at_210) rfl (teq hc210_26).2 (XS.iconst X22.here hx rfl (hb hby at_213) (XS.goto X22.here hx rfl (pc0 := 214) (pc' := 218) rfl (hb hby at_214) (by decide) (by decide) (XS.istore X22.here hx rfl (hb hby at_218) rfl (l' := #[.val (.long m_), .second, .val (.long a), .second, .val (.long b), .second, .val (.long s_), .second, .val (.long e_), .second, .val (.long v_), .second, .val (.long (own_max (1 : Int64) m_)), .second, .val (.int ((((m_.toUInt64 >>> ((1 : Int32) &&& 0x3f).toInt64.toUInt64).toInt64) &&& (7 : Int64)).toInt32)), .val (.long v3), .second, .val (.ref b4), .val (.ref b8), .val (.int (1 : Int32)), .val (.int (1 : Int32)), .val (.int (1 : Int32)), .val (.int (1 : Int32)), .val (.int (1 : Int32))]) rfl k)))) ?_
            show own_Go p.tables e below RR (T22.setTop (mkF m 220 #[.val (.long m_), .second, .val (.long a), .second, .val (.long b), .second, .val (.long s_), .second, .val (.long e_), .second, .val (.long v_), .second, .val (.long (own_max (1 : Int64) m_)), .second, .val (.int ((((m_.toUInt64 >>> ((1 : Int32) &&& 0x3f).toInt64.toUInt64).toInt64) &&& (7 : Int64)).toInt32)), .val (.long v3), .second, .val (.ref b4), .val (.ref b8), .val (.int (1 : Int32)), .val (.int (1 : Int32)), .val (.int (1 : Int32)), .val (.int (1 : Int32)), .val (.int (1 : Int32))] []))
            exact join23 T22 _  X22 eq22 N22 
        show own_Go p.tables e below RR (T20.setTop (mkF m 159 #[.val (.long m_), .second, .val (.long a), .second, .val (.long b), .second, .val (.long s_), .second, .val (.long e_), .second, .val (.long v_), .second, .val (.long (own_max (1 : Int64) m_)), .second, .val (.int ((((m_.toUInt64 >>> ((1 : Int32) &&& 0x3f).toInt64.toUInt64).toInt64) &&& (7 : Int64)).toInt32)), .val (.long v3), .second, .val (.ref b4), .val (.ref b8), .val (.int (1 : Int32)), .val (.int (1 : Int32)), .val (.int (1 : Int32)), .unset, .unset] [(.int (own_inc (own_f s_ e_) (own_l s_ e_) v3))]))
        refine own_st (fun _ k => XS.lload X20.here hx rfl (hb hby at_159) rfl (XS.lload X20.here hx rfl (hb hby at_161) rfl (XS.lcmp X20.here hx rfl (hb hby at_163) rfl k))) ?_
        show own_Go p.tables e below RR (T20.setTop (mkF m 164 #[.val (.long m_), .second, .val (.long a), .second, .val (.long b), .second, .val (.long s_), .second, .val (.long e_), .second, .val (.long v_), .second, .val (.long (own_max (1 : Int64) m_)), .second, .val (.int ((((m_.toUInt64 >>> ((1 : Int32) &&& 0x3f).toInt64.toUInt64).toInt64) &&& (7 : Int64)).toInt32)), .val (.long v3), .second, .val (.ref b4), .val (.ref b8), .val (.int (1 : Int32)), .val (.int (1 : Int32)), .val (.int (1 : Int32)), .unset, .unset] [(.int (lcmpW s_ v3)), (.int (own_inc (own_f s_ e_) (own_l s_ e_) v3))]))
        by_cases hc164_27 : v3 < s_
        · refine own_st (fun _ k => XS.ifYes X20.here hx rfl (pc0 := 164) (pc' := 179) rfl (hb hby at_164) rfl ((if0 _ _).trans (tlt ((lw_gt _ _).mpr hc164_27)).2.2.1) (by decide) (by decide) (XS.iconst X20.here hx rfl (hb hby at_179) k)) ?_
          show own_Go p.tables e below RR (T20.setTop (mkF m 180 #[.val (.long m_), .second, .val (.long a), .second, .val (.long b), .second, .val (.long s_), .second, .val (.long e_), .second, .val (.long v_), .second, .val (.long (own_max (1 : Int64) m_)), .second, .val (.int ((((m_.toUInt64 >>> ((1 : Int32) &&& 0x3f).toInt64.toUInt64).toInt64) &&& (7 : Int64)).toInt32)), .val (.long v3), .second, .val (.ref b4), .val (.ref b8), .val (.int (1 : Int32)), .val (.int (1 : Int32)), .val (.int (1 : Int32)), .unset, .unset] [(.int (0 : Int32)), (.int (own_inc (own_f s_ e_) (own_l s_ e_) v3))]))
          have hc180_28 : (own_inc (own_f s_ e_) (own_l s_ e_) v3) = (0 : Int32) := by rw [own_w]; first | (simp only [hc164_27, if_true, if_false]; done) | simp [hc164_27]
          refine own_st (fun _ k => XS.icmpNo X20.here hx rfl (hb hby at_180) rfl (teq hc180_28).2 (XS.iconst X20.here hx rfl (hb hby at_183) (XS.goto X20.here hx rfl (pc0 := 184) (pc' := 188) rfl (hb hby at_184) (by decide) (by decide) (XS.istore X20.here hx rfl (hb hby at_188) rfl (l' := #[.val (.long m_), .second, .val (.long a), .second, .val (.long b), .second, .val (.long s_), .second, .val (.long e_), .second, .val (.long v_), .second, .val (.long (own_max (1 : Int64) m_)), .second, .val (.int ((((m_.toUInt64 >>> ((1 : Int32) &&& 0x3f).toInt64.toUInt64).toInt64) &&& (7 : Int64)).toInt32)), .val (.long v3), .second, .val (.ref b4), .val (.ref b8), .val (.int (1 : Int32)), .val (.int (1 : Int32)), .val (.int (1 : Int32)), .val (.int (1 : Int32)), .unset]) rfl k)))) ?_
          show own_Go p.tables e below RR (T20.setTop (mkF m 190 #[.val (.long m_), .second, .val (.long a), .second, .val (.long b), .second, .val (.long s_), .second, .val (.long e_), .second, .val (.long v_), .second, .val (.long (own_max (1 : Int64) m_)), .second, .val (.int ((((m_.toUInt64 >>> ((1 : Int32) &&& 0x3f).toInt64.toUInt64).toInt64) &&& (7 : Int64)).toInt32)), .val (.long v3), .second, .val (.ref b4), .val (.ref b8), .val (.int (1 : Int32)), .val (.int (1 : Int32)), .val (.int (1 : Int32)), .val (.int (1 : Int32)), .unset] []))
          exact join21 T20 _  X20 eq20 N20 
        · refine own_st (fun _ k => XS.ifNo X20.here hx rfl (hb hby at_164) rfl ((if0 _ _).trans (flt (fun q => hc164_27 ((lw_gt _ _).mp q))).2.2.1) (XS.lload X20.here hx rfl (hb hby at_167) rfl (XS.lload X20.here hx rfl (hb hby at_169) rfl (XS.lcmp X20.here hx rfl (hb hby at_171) rfl k)))) ?_
          show own_Go p.tables e below RR (T20.setTop (mkF m 172 #[.val (.long m_), .second, .val (.long a), .second, .val (.long b), .second, .val (.long s_), .second, .val (.long e_), .second, .val (.long v_), .second, .val (.long (own_max (1 : Int64) m_)), .second, .val (.int ((((m_.toUInt64 >>> ((1 : Int32) &&& 0x3f).toInt64.toUInt64).toInt64) &&& (7 : Int64)).toInt32)), .val (.long v3), .second, .val (.ref b4), .val (.ref b8), .val (.int (1 : Int32)), .val (.int (1 : Int32)), .val (.int (1 : Int32)), .unset, .unset] [(.int (lcmpW v3 e_)), (.int (own_inc (own_f s_ e_) (own_l s_ e_) v3))]))
          by_cases hc172_29 : v3 < e_
          · refine own_st (fun _ k => XS.ifNo X20.here hx rfl (hb hby at_172) rfl ((if0 _ _).trans (tlt ((lw_lt _ _).mpr hc172_29)).2.1) (XS.iconst X20.here hx rfl (hb hby at_175) (XS.goto X20.here hx rfl (pc0 := 176) (pc' := 180) rfl (hb hby at_176) (by decide) (by decide) k))) ?_
            show own_Go p.tables e below RR (T20.setTop (mkF m 180 #[.val (.long m_), .second, .val (.long a), .second, .val (.long b), .second, .val (.long s_), .second, .val (.long e_), .second, .val (.long v_), .second, .val (.long (own_max (1 : Int64) m_)), .second, .val (.int ((((m_.toUInt64 >>> ((1 : Int32) &&& 0x3f).toInt64.toUInt64).toInt64) &&& (7 : Int64)).toInt32)), .val (.long v3), .second, .val (.ref b4), .val (.ref b8), .val (.int (1 : Int32)), .val (.int (1 : Int32)), .val (.int (1 : Int32)), .unset, .unset] [(.int (1 : Int32)), (.int (own_inc (own_f s_ e_) (own_l s_ e_) v3))]))
            have hc180_30 : (own_inc (own_f s_ e_) (own_l s_ e_) v3) = (1 : Int32) := by rw [own_w]; first | (simp only [hc164_27, hc172_29, if_true, if_false]; done) | simp [hc164_27, hc172_29]
            refine own_st (fun _ k => XS.icmpNo X20.here hx rfl (hb hby at_180) rfl (teq hc180_30).2 (XS.iconst X20.here hx rfl (hb hby at_183) (XS.goto X20.here hx rfl (pc0 := 184) (pc' := 188) rfl (hb hby at_184) (by decide) (by decide) (XS.istore X20.here hx rfl (hb hby at_188) rfl (l' := #[.val (.long m_), .second, .val (.long a), .second, .val (.long b), .second, .val (.long s_), .second, .val (.long e_), .second, .val (.long v_), .second, .val (.long (own_max (1 : Int64) m_)), .second, .val (.int ((((m_.toUInt64 >>> ((1 : Int32) &&& 0x3f).toInt64.toUInt64).toInt64) &&& (7 : Int64)).toInt32)), .val (.long v3), .second, .val (.ref b4), .val (.ref b8), .val (.int (1 : Int32)), .val (.int (1 : Int32)), .val (.int (1 : Int32)), .val (.int (1 : Int32)), .unset]) rfl k)))) ?_
            show own_Go p.tables e below RR (T20.setTop (mkF m 190 #[.val (.long m_), .second, .val (.long a), .second, .val (.long b), .second, .val (.long s_), .second, .val (.long e_), .second, .val (.long v_), .second, .val (.long (own_max (1 : Int64) m_)), .second, .val (.int ((((m_.toUInt64 >>> ((1 : Int32) &&& 0x3f).toInt64.toUInt64).toInt64) &&& (7 : Int64)).toInt32)), .val (.long v3), .second, .val (.ref b4), .val (.ref b8), .val (.int (1 : Int32)), .val (.int (1 : Int32)), .val (.int (1 : Int32)), .val (.int (1 : Int32)), .unset] []))
            exact join21 T20 _  X20 eq20 N20 
          · refine own_st (fun _ k => XS.ifYes X20.here hx rfl (pc0 := 172) (pc' := 179) rfl (hb hby at_172) rfl ((if0 _ _).trans (flt (fun q => hc172_29 ((lw_lt _ _).mp q))).2.1) (by decide) (by decide) (XS.iconst X20.here hx rfl (hb hby at_179) k)) ?_
            show own_Go p.tables e below RR (T20.setTop (mkF m 180 #[.val (.long m_), .second, .val (.long a), .second, .val (.long b), .second, .val (.long s_), .second, .val (.long e_), .second, .val (.long v_), .second, .val (.long (own_max (1 : Int64) m_)), .second, .val (.int ((((m_.toUInt64 >>> ((1 : Int32) &&& 0x3f).toInt64.toUInt64).toInt64) &&& (7 : Int64)).toInt32)), .val (.long v3), .second, .val (.ref b4), .val (.ref b8), .val (.int (1 : Int32)), .val (.int (1 : Int32)), .val (.int (1 : Int32)), .unset, .unset] [(.int (0 : Int32)), (.int (own_inc (own_f s_ e_) (own_l s_ e_) v3))]))
            have hc180_31 : (own_inc (own_f s_ e_) (own_l s_ e_) v3) = (0 : Int32) := by rw [own_w]; first | (simp only [hc164_27, hc172_29, if_true, if_false]; done) | simp [hc164_27, hc172_29]
            refine own_st (fun _ k => XS.icmpNo X20.here hx rfl (hb hby at_180) rfl (teq hc180_31).2 (XS.iconst X20.here hx rfl (hb hby at_183) (XS.goto X20.here hx rfl (pc0 := 184) (pc' := 188) rfl (hb hby at_184) (by decide) (by decide) (XS.istore X20.here hx rfl (hb hby at_188) rfl (l' := #[.val (.long m_), .second, .val (.long a), .second, .val (.long b), .second, .val (.long s_), .second, .val (.long e_), .second, .val (.long v_), .second, .val (.long (own_max (1 : Int64) m_)), .second, .val (.int ((((m_.toUInt64 >>> ((1 : Int32) &&& 0x3f).toInt64.toUInt64).toInt64) &&& (7 : Int64)).toInt32)), .val (.long v3), .second, .val (.ref b4), .val (.ref b8), .val (.int (1 : Int32)), .val (.int (1 : Int32)), .val (.int (1 : Int32)), .val (.int (1 : Int32)), .unset]) rfl k)))) ?_
            show own_Go p.tables e below RR (T20.setTop (mkF m 190 #[.val (.long m_), .second, .val (.long a), .second, .val (.long b), .second, .val (.long s_), .second, .val (.long e_), .second, .val (.long v_), .second, .val (.long (own_max (1 : Int64) m_)), .second, .val (.int ((((m_.toUInt64 >>> ((1 : Int32) &&& 0x3f).toInt64.toUInt64).toInt64) &&& (7 : Int64)).toInt32)), .val (.long v3), .second, .val (.ref b4), .val (.ref b8), .val (.int (1 : Int32)), .val (.int (1 : Int32)), .val (.int (1 : Int32)), .val (.int (1 : Int32)), .unset] []))
            exact join21 T20 _  X20 eq20 N20 
      show own_Go p.tables e below RR (T18.setTop (mkF m 130 #[.val (.long m_), .second, .val (.long a), .second, .val (.long b), .second, .val (.long s_), .second, .val (.long e_), .second, .val (.long v_), .second, .val (.long (own_max (1 : Int64) m_)), .second, .val (.int ((((m_.toUInt64 >>> ((1 : Int32) &&& 0x3f).toInt64.toUInt64).toInt64) &&& (7 : Int64)).toInt32)), .val (.long v3), .second, .val (.ref b4), .val (.ref b8), .val (.int (1 : Int32)), .val (.int (1 : Int32)), .unset, .unset, .unset] [(.int (own_inc a b b))]))
      refine own_st (fun _ k => XS.lloadN X18.here hx rfl (hb hby at_130) rfl (XS.lload X18.here hx rfl (hb hby at_131) rfl (XS.lcmp X18.here hx rfl (hb hby at_133) rfl k))) ?_
      show own_Go p.tables e below RR (T18.setTop (mkF m 134 #[.val (.long m_), .second, .val (.long a), .second, .val (.long b), .second, .val (.long s_), .second, .val (.long e_), .second, .val (.long v_), .second, .val (.long (own_max (1 : Int64) m_)), .second, .val (.int ((((m_.toUInt64 >>> ((1 : Int32) &&& 0x3f).toInt64.toUInt64).toInt64) &&& (7 : Int64)).toInt32)), .val (.long v3), .second, .val (.ref b4), .val (.ref b8), .val (.int (1 : Int32)), .val (.int (1 : Int32)), .unset, .unset, .unset] [(.int (lcmpW a b)), (.int (own_inc a b b))]))
      by_cases hc134_32 : b < a
      · refine own_st (fun _ k => XS.ifYes X18.here hx rfl (pc0 := 134) (pc' := 141) rfl (hb hby at_134) rfl ((if0 _ _).trans (tlt ((lw_gt _ _).mpr hc134_32)).2.2.1) (by decide) (by decide) (XS.iconst X18.here hx rfl (hb hby at_141) k)) ?_
        show own_Go p.tables e below RR (T18.setTop (mkF m 142 #[.val (.long m_), .second, .val (.long a), .second, .val (.long b), .second, .val (.long s_), .second, .val (.long e_), .second, .val (.long v_), .second, .val (.long (own_max (1 : Int64) m_)), .second, .val (.int ((((m_.toUInt64 >>> ((1 : Int32) &&& 0x3f).toInt64.toUInt64).toInt64) &&& (7 : Int64)).toInt32)), .val (.long v3), .second, .val (.ref b4), .val (.ref b8), .val (.int (1 : Int32)), .val (.int (1 : Int32)), .unset, .unset, .unset] [(.int (0 : Int32)), (.int (own_inc a b b))]))
        have hc142_33 : (own_inc a b b) = (0 : Int32) := by first | (simp only [own_inc, hc134_32, if_true, if_false]; done) | (simp [own_inc, hc134_32]; done)
        refine own_st (fun _ k => XS.icmpNo X18.here hx rfl (hb hby at_142) rfl (teq hc142_33).2 (XS.iconst X18.here hx rfl (hb hby at_145) (XS.goto X18.here hx rfl (pc0 := 146) (pc' := 150) rfl (hb hby at_146) (by decide) (by decide) (XS.istore X18.here hx rfl (hb hby at_150) rfl (l' := #[.val (.long m_), .second, .val (.long a), .second, .val (.long b), .second, .val (.long s_), .second, .val (.long e_), .second, .val (.long v_), .second, .val (.long (own_max (1 : Int64) m_)), .second, .val (.int ((((m_.toUInt64 >>> ((1 : Int32) &&& 0x3f).toInt64.toUInt64).toInt64) &&& (7 : Int64)).toInt32)), .val (.long v3), .second, .val (.ref b4), .val (.ref b8), .val (.int (1 : Int32)), .val (.int (1 : Int32)), .val (.int (1 : Int32)), .unset, .unset]) rfl k)))) ?_
        show own_Go p.tables e below RR (T18.setTop (mkF m 152 #[.val (.long m_), .second, .val (.long a), .second, .val (.long b), .second, .val (.long s_), .second, .val (.long e_), .second, .val (.long v_), .second, .val (.long (own_max (1 : Int64) m_)), .second, .val (.int ((((m_.toUInt64 >>> ((1 : Int32) &&& 0x3f).toInt64.toUInt64).toInt64) &&& (7 : Int64)).toInt32)), .val (.long v3), .second, .val (.ref b4), .val (.ref b8), .val (.int (1 : Int32)), .val (.int (1 : Int32)), .val (.int (1 : Int32)), .unset, .unset] []))
        exact join19 T18 _  X18 eq18 N18 
      · refine own_st (fun _ k => XS.ifNo X18.here hx rfl (hb hby at_134) rfl ((if0 _ _).trans (flt (fun q => hc134_32 ((lw_gt _ _).mp q))).2.2.1) (XS.iconst X18.here hx rfl (hb hby at_137) (XS.goto X18.here hx rfl (pc0 := 138) (pc' := 142) rfl (hb hby at_138) (by decide) (by decide) k))) ?_
        show own_Go p.tables e below RR (T18.setTop (mkF m 142 #[.val (.long m_), .second, .val (.long a), .second, .val (.long b), .second, .val (.long s_), .second, .val (.long e_), .second, .val (.long v_), .second, .val (.long (own_max (1 : Int64) m_)), .second, .val (.int ((((m_.toUInt64 >>> ((1 : Int32) &&& 0x3f).toInt64.toUInt64).toInt64) &&& (7 : Int64)).toInt32)), .val (.long v3), .second, .val (.ref b4), .val (.ref b8), .val (.int (1 : Int32)), .val (.int (1 : Int32)), .unset, .unset, .unset] [(.int (1 : Int32)), (.int (own_inc a b b))]))
        have hc142_34 : (own_inc a b b) = (1 : Int32) := by first | (simp only [own_inc, hc134_32, if_true, if_false]; done) | (simp [own_inc, hc134_32]; done)
        refine own_st (fun _ k => XS.icmpNo X18.here hx rfl (hb hby at_142) rfl (teq hc142_34).2 (XS.iconst X18.here hx rfl (hb hby at_145) (XS.goto X18.here hx rfl (pc0 := 146) (pc' := 150) rfl (hb hby at_146) (by decide) (by decide) (XS.istore X18.here hx rfl (hb hby at_150) rfl (l' := #[.val (.long m_), .second, .val (.long a), .second, .val (.long b), .second, .val (.long s_), .second, .val (.long e_), .second, .val (.long v_), .second, .val (.long (own_max (1 : Int64) m_)), .second, .val (.int ((((m_.toUInt64 >>> ((1 : Int32) &&& 0x3f).toInt64.toUInt64).toInt64) &&& (7 : Int64)).toInt32)), .val (.long v3), .second, .val (.ref b4), .val (.ref b8), .val (.int (1 : Int32)), .val (.int (1 : Int32)), .val (.int (1 : Int32)), .unset, .unset]) rfl k)))) ?_
        show own_Go p.tables e below RR (T18.setTop (mkF m 152 #[.val (.long m_), .second, .val (.long a), .second, .val (.long b), .second, .val (.long s_), .second, .val (.long e_), .second, .val (.long v_), .second, .val (.long (own_max (1 : Int64) m_)), .second, .val (.int ((((m_.toUInt64 >>> ((1 : Int32) &&& 0x3f).toInt64.toUInt64).toInt64) &&& (7 : Int64)).toInt32)), .val (.long v3), .second, .val (.ref b4), .val (.ref b8), .val (.int (1 : Int32)), .val (.int (1 : Int32)), .val (.int (1 : Int32)), .unset, .unset] []))
        exact join19 T18 _  X18 eq18 N18 
    show own_Go p.tables e below RR (T16.setTop (mkF m 101 #[.val (.long m_), .second, .val (.long a), .second, .val (.long b), .second, .val (.long s_), .second, .val (.long e_), .second, .val (.long v_), .second, .val (.long (own_max (1 : Int64) m_)), .second, .val (.int ((((m_.toUInt64 >>> ((1 : Int32) &&& 0x3f).toInt64.toUInt64).toInt64) &&& (7 : Int64)).toInt32)), .val (.long v3), .second, .val (.ref b4), .val (.ref b8), .val (.int (1 : Int32)), .unset, .unset, .unset, .unset] [(.int (own_inc a b a))]))
    refine own_st (fun _ k => XS.lloadN X16.here hx rfl (hb hby at_101) rfl (XS.lload X16.here hx rfl (hb hby at_102) rfl (XS.lcmp X16.here hx rfl (hb hby at_104) rfl k))) ?_
    show own_Go p.tables e below RR (T16.setTop (mkF m 105 #[.val (.long m_), .second, .val (.long a), .second, .val (.long b), .second, .val (.long s_), .second, .val (.long e_), .second, .val (.long v_), .second, .val (.long (own_max (1 : Int64) m_)), .second, .val (.int ((((m_.toUInt64 >>> ((1 : Int32) &&& 0x3f).toInt64.toUInt64).toInt64) &&& (7 : Int64)).toInt32)), .val (.long v3), .second, .val (.ref b4), .val (.ref b8), .val (.int (1 : Int32)), .unset, .unset, .unset, .unset] [(.int (lcmpW a b)), (.int (own_inc a b a))]))
    by_cases hc105_35 : b < a
    · refine own_st (fun _ k => XS.ifYes X16.here hx rfl (pc0 := 105) (pc' := 112) rfl (hb hby at_105) rfl ((if0 _ _).trans (tlt ((lw_gt _ _).mpr hc105_35)).2.2.1) (by decide) (by decide) (XS.iconst X16.here hx rfl (hb hby at_112) k)) ?_
      show own_Go p.tables e below RR (T16.setTop (mkF m 113 #[.val (.long m_), .second, .val (.long a), .second, .val (.long b), .second, .val (.long s_), .second, .val (.long e_), .second, .val (.long v_), .second, .val (.long (own_max (1 : Int64) m_)), .second, .val (.int ((((m_.toUInt64 >>> ((1 : Int32) &&& 0x3f).toInt64.toUInt64).toInt64) &&& (7 : Int64)).toInt32)), .val (.long v3), .second, .val (.ref b4), .val (.ref b8), .val (.int (1 : Int32)), .unset, .unset, .unset, .unset] [(.int (0 : Int32)), (.int (own_inc a b a))]))
      have hc113_36 : (own_inc a b a) = (0 : Int32) := by first | (simp only [own_inc, hc105_35, if_true, if_false]; done) | (simp [own_inc, hc105_35]; done)
      refine own_st (fun _ k => XS.icmpNo X16.here hx rfl (hb hby at_113) rfl (teq hc113_36).2 (XS.iconst X16.here hx rfl (hb hby at_116) (XS.goto X16.here hx rfl (pc0 := 117) (pc' := 121) rfl (hb hby at_117) (by decide) (by decide) (XS.istore X16.here hx rfl (hb hby at_121) rfl (l' := #[.val (.long m_), .second, .val (.long a), .second, .val (.long b), .second, .val (.long s_), .second, .val (.long e_), .second, .val (.long v_), .second, .val (.long (own_max (1 : Int64) m_)), .second, .val (.int ((((m_.toUInt64 >>> ((1 : Int32) &&& 0x3f).toInt64.toUInt64).toInt64) &&& (7 : Int64)).toInt32)), .val (.long v3), .second, .val (.ref b4), .val (.ref b8), .val (.int (1 : Int32)), .val (.int (1 : Int32)), .unset, .unset, .unset]) rfl k)))) ?_
      show own_Go p.tables e below RR (T16.setTop (mkF m 123 #[.val (.long m_), .second, .val (.long a), .second, .val (.long b), .second, .val (.long s_), .second, .val (.long e_), .second, .val (.long v_), .second, .val (.long (own_max (1 : Int64) m_)), .second, .val (.int ((((m_.toUInt64 >>> ((1 : Int32) &&& 0x3f).toInt64.toUInt64).toInt64) &&& (7 : Int64)).toInt32)), .val (.long v3), .second, .val (.ref b4), .val (.ref b8), .val (.int (1 : Int32)), .val (.int (1 : Int32)), .unset, .unset, .unset] []))
      exact join17 T16 _  X16 eq16 N16 
    · refine own_st (fun _ k => XS.ifNo X16.here hx rfl (hb hby at_105) rfl ((if0 _ _).trans (flt (fun q => hc105_35 ((lw_gt _ _).mp q))).2.2.1) (XS.iconst X16.here hx rfl (hb hby at_108) (XS.goto X16.here hx rfl (pc0 := 109) (pc' := 113) rfl (hb hby at_109) (by decide) (by decide) k))) ?_
      show own_Go p.tables e below RR (T16.setTop (mkF m 113 #[.val (.long m_), .second, .val (.long a), .second, .val (.long b), .second, .val (.long s_), .second, .val (.long e_), .second, .val (.long v_), .second, .val (.long (own_max (1 : Int64) m_)), .second, .val (.int ((((m_.toUInt64 >>> ((1 : Int32) &&& 0x3f).toInt64.toUInt64).toInt64) &&& (7 : Int64)).toInt32)), .val (.long v3), .second, .val (.ref b4), .val (.ref b8), .val (.int (1 : Int32)), .unset, .unset, .unset, .unset] [(.int (1 : Int32)), (.int (own_inc a b a))]))
      have hc113_37 : (own_inc a b a) = (1 : Int32) := by first | (simp only [own_inc, hc105_35, if_true, if_false]; done) | (simp [own_inc, hc105_35]; done)
      refine own_st (fun _ k => XS.icmpNo X16.here hx rfl (hb hby at_113) rfl (teq hc113_37).2 (XS.iconst X16.here hx rfl (hb hby at_116) (XS.goto X16.here hx rfl (pc0 := 117) (pc' := 121) rfl (hb hby at_117) (by decide) (by decide) (XS.istore X16.here hx rfl (hb hby at_121) rfl (l' := #[.val (.long m_), .second, .val (.long a), .second, .val (.long b), .second, .val (.long s_), .second, .val (.long e_), .second, .val (.long v_), .second, .val (.long (own_max (1 : Int64) m_)), .second, .val (.int ((((m_.toUInt64 >>> ((1 : Int32) &&& 0x3f).toInt64.toUInt64).toInt64) &&& (7 : Int64)).toInt32)), .val (.long v3), .second, .val (.ref b4), .val (.ref b8), .val (.int (1 : Int32)), .val (.int (1 : Int32)), .unset, .unset, .unset]) rfl k)))) ?_
      show own_Go p.tables e below RR (T16.setTop (mkF m 123 #[.val (.long m_), .second, .val (.long a), .second, .val (.long b), .second, .val (.long s_), .second, .val (.long e_), .second, .val (.long v_), .second, .val (.long (own_max (1 : Int64) m_)), .second, .val (.int ((((m_.toUInt64 >>> ((1 : Int32) &&& 0x3f).toInt64.toUInt64).toInt64) &&& (7 : Int64)).toInt32)), .val (.long v3), .second, .val (.ref b4), .val (.ref b8), .val (.int (1 : Int32)), .val (.int (1 : Int32)), .unset, .unset, .unset] []))
      exact join17 T16 _  X16 eq16 N16 
  show own_Go p.tables e below RR (T13.setTop (mkF m 65 #[.val (.long m_), .second, .val (.long a), .second, .val (.long b), .second, .val (.long s_), .second, .val (.long e_), .second, .val (.long v_), .second, .val (.long (own_max (1 : Int64) m_)), .second, .val (.int ((((m_.toUInt64 >>> ((1 : Int32) &&& 0x3f).toInt64.toUInt64).toInt64) &&& (7 : Int64)).toInt32)), .val (.long v3), .second, .val (.ref b4), .val (.ref b8), .unset, .unset, .unset, .unset, .unset] [(.int (own_inc a b v3))]))
  refine own_st (fun _ k => XS.lloadN X13.here hx rfl (hb hby at_65) rfl (XS.lload X13.here hx rfl (hb hby at_66) rfl (XS.lcmp X13.here hx rfl (hb hby at_68) rfl k))) ?_
  show own_Go p.tables e below RR (T13.setTop (mkF m 69 #[.val (.long m_), .second, .val (.long a), .second, .val (.long b), .second, .val (.long s_), .second, .val (.long e_), .second, .val (.long v_), .second, .val (.long (own_max (1 : Int64) m_)), .second, .val (.int ((((m_.toUInt64 >>> ((1 : Int32) &&& 0x3f).toInt64.toUInt64).toInt64) &&& (7 : Int64)).toInt32)), .val (.long v3), .second, .val (.ref b4), .val (.ref b8), .unset, .unset, .unset, .unset, .unset] [(.int (lcmpW a v3)), (.int (own_inc a b v3))]))
  by_cases hc69_38 : v3 < a
  · refine own_st (fun _ k => XS.ifYes X13.here hx rfl (pc0 := 69) (pc' := 84) rfl (hb hby at_69) rfl ((if0 _ _).trans (tlt ((lw_gt _ _).mpr hc69_38)).2.2.1) (by decide) (by decide) (XS.iconst X13.here hx rfl (hb hby at_84) k)) ?_
    show own_Go p.tables e below RR (T13.setTop (mkF m 85 #[.val (.long m_), .second, .val (.long a), .second, .val (.long b), .second, .val (.long s_), .second, .val (.long e_), .second, .val (.long v_), .second, .val (.long (own_max (1 : Int64) m_)), .second, .val (.int ((((m_.toUInt64 >>> ((1 : Int32) &&& 0x3f).toInt64.toUInt64).toInt64) &&& (7 : Int64)).toInt32)), .val (.long v3), .second, .val (.ref b4), .val (.ref b8), .unset, .unset, .unset, .unset, .unset] [(.int (0 : Int32)), (.int (own_inc a b v3))]))
    have hc85_39 : (own_inc a b v3) = (0 : Int32) := by first | (simp only [own_inc, hc69_38, if_true, if_false]; done) | (simp [own_inc, hc69_38]; done)
    refine own_st (fun _ k => XS.icmpNo X13.here hx rfl (hb hby at_85) rfl (teq hc85_39).2 (XS.iconst X13.here hx rfl (hb hby at_88) (XS.goto X13.here hx rfl (pc0 := 89) (pc' := 93) rfl (hb hby at_89) (by decide) (by decide) (XS.istore X13.here hx rfl (hb hby at_93) rfl (l' := #[.val (.long m_), .second, .val (.long a), .second, .val (.long b), .second, .val (.long s_), .second, .val (.long e_), .second, .val (.long v_), .second, .val (.long (own_max (1 : Int64) m_)), .second, .val (.int ((((m_.toUInt64 >>> ((1 : Int32) &&& 0x3f).toInt64.toUInt64).toInt64) &&& (7 : Int64)).toInt32)), .val (.long v3), .second, .val (.ref b4), .val (.ref b8), .val (.int (1 : Int32)), .unset, .unset, .unset, .unset]) rfl k)))) ?_
    show own_Go p.tables e below RR (T13.setTop (mkF m 95 #[.val (.long m_), .second, .val (.long a), .second, .val (.long b), .second, .val (.long s_), .second, .val (.long e_), .second, .val (.long v_), .second, .val (.long (own_max (1 : Int64) m_)), .second, .val (.int ((((m_.toUInt64 >>> ((1 : Int32) &&& 0x3f).toInt64.toUInt64).toInt64) &&& (7 : Int64)).toInt32)), .val (.long v3), .second, .val (.ref b4), .val (.ref b8), .val (.int (1 : Int32)), .unset, .unset, .unset, .unset] []))
    exact join15 T13 _  X13 eq13 N13 
  · refine own_st (fun _ k => XS.ifNo X13.here hx rfl (hb hby at_69) rfl ((if0 _ _).trans (flt (fun q => hc69_38 ((lw_gt _ _).mp q))).2.2.1) (XS.lload X13.here hx rfl (hb hby at_72) rfl (XS.lload X13.here hx rfl (hb hby at_74) rfl (XS.lcmp X13.here hx rfl (hb hby at_76) rfl k)))) ?_
    show own_Go p.tables e below RR (T13.setTop (mkF m 77 #[.val (.long m_), .second, .val (.long a), .second, .val (.long b), .second, .val (.long s_), .second, .val (.long e_), .second, .val (.long v_), .second, .val (.long (own_max (1 : Int64) m_)), .second, .val (.int ((((m_.toUInt64 >>> ((1 : Int32) &&& 0x3f).toInt64.toUInt64).toInt64) &&& (7 : Int64)).toInt32)), .val (.long v3), .second, .val (.ref b4), .val (.ref b8), .unset, .unset, .unset, .unset, .unset] [(.int (lcmpW v3 b)), (.int (own_inc a b v3))]))
    by_cases hc77_40 : b < v3
    · refine own_st (fun _ k => XS.ifYes X13.here hx rfl (pc0 := 77) (pc' := 84) rfl (hb hby at_77) rfl ((if0 _ _).trans (tlt ((lw_gt _ _).mpr hc77_40)).2.2.1) (by decide) (by decide) (XS.iconst X13.here hx rfl (hb hby at_84) k)) ?_
      show own_Go p.tables e below RR (T13.setTop (mkF m 85 #[.val (.long m_), .second, .val (.long a), .second, .val (.long b), .second, .val (.long s_), .second, .val (.long e_), .second, .val (.long v_), .second, .val (.long (own_max (1 : Int64) m_)), .second, .val (.int ((((m_.toUInt64 >>> ((1 : Int32) &&& 0x3f).toInt64.toUInt64).toInt64) &&& (7 : Int64)).toInt32)), .val (.long v3), .second, .val (.ref b4), .val (.ref b8), .unset, .unset, .unset, .unset, .unset] [(.int (0 : Int32)), (.int (own_inc a b v3))]))
      have hc85_41 : (own_inc a b v3) = (0 : Int32) := by first | (simp only [own_inc, hc69_38, hc77_40, if_true, if_false]; done) | (simp [own_inc, hc69_38, hc77_40]; done)
      refine own_st (fun _ k => XS.icmpNo X13.here hx rfl (hb hby at_85) rfl (teq hc85_41).2 (XS.iconst X13.here hx rfl (hb hby at_88) (XS.goto X13.here hx rfl (pc0 := 89) (pc' := 93) rfl (hb hby at_89) (by decide) (by decide) (XS.istore X13.here hx rfl (hb hby at_93) rfl (l' := #[.val (.long m_), .second, .val (.long a), .second, .val (.long b), .second, .val (.long s_), .second, .val (.long e_), .second, .val (.long v_), .second, .val (.long (own_max (1 : Int64) m_)), .second, .val (.int ((((m_.toUInt64 >>> ((1 : Int32) &&& 0x3f).toInt64.toUInt64).toInt64) &&& (7 : Int64)).toInt32)), .val (.long v3), .second, .val (.ref b4), .val (.ref b8), .val (.int (1 : Int32)), .unset, .unset, .unset, .unset]) rfl k)))) ?_
      show own_Go p.tables e below RR (T13.setTop (mkF m 95 #[.val (.long m_), .second, .val (.long a), .second, .val (.long b), .second, .val (.long s_), .second, .val (.long e_), .second, .val (.long v_), .second, .val (.long (own_max (1 : Int64) m_)), .second, .val (.int ((((m_.toUInt64 >>> ((1 : Int32) &&& 0x3f).toInt64.toUInt64).toInt64) &&& (7 : Int64)).toInt32)), .val (.long v3), .second, .val (.ref b4), .val (.ref b8), .val (.int (1 : Int32)), .unset, .unset, .unset, .unset] []))
      exact join15 T13 _  X13 eq13 N13 
    · refine own_st (fun _ k => XS.ifNo X13.here hx rfl (hb hby at_77) rfl ((if0 _ _).trans (flt (fun q => hc77_40 ((lw_gt _ _).mp q))).2.2.1) (XS.iconst X13.here hx rfl (hb hby at_80) (XS.goto X13.here hx rfl (pc0 := 81) (pc' := 85) rfl (hb hby at_81) (by decide) (by decide) k))) ?_
      show own_Go p.tables e below RR (T13.setTop (mkF m 85 #[.val (.long m_), .second, .val (.long a), .second, .val (.long b), .second, .val (.long s_), .second, .val (.long e_), .second, .val (.long v_), .second, .val (.long (own_max (1 : Int64) m_)), .second, .val (.int ((((m_.toUInt64 >>> ((1 : Int32) &&& 0x3f).toInt64.toUInt64).toInt64) &&& (7 : Int64)).toInt32)), .val (.long v3), .second, .val (.ref b4), .val (.ref b8), .unset, .unset, .unset, .unset, .unset] [(.int (1 : Int32)), (.int (own_inc a b v3))]))
      have hc85_42 : (own_inc a b v3) = (1 : Int32) := by first | (simp only [own_inc, hc69_38, hc77_40, if_true, if_false]; done) | (simp [own_inc, hc69_38, hc77_40]; done)
      refine own_st (fun _ k => XS.icmpNo X13.here hx rfl (hb hby at_85) rfl (teq hc85_42).2 (XS.iconst X13.here hx rfl (hb hby at_88) (XS.goto X13.here hx rfl (pc0 := 89) (pc' := 93) rfl (hb hby at_89) (by decide) (by decide) (XS.istore X13.here hx rfl (hb hby at_93) rfl (l' := #[.val (.long m_), .second, .val (.long a), .second, .val (.long b), .second, .val (.long s_), .second, .val (.long e_), .second, .val (.long v_), .second, .val (.long (own_max (1 : Int64) m_)), .second, .val (.int ((((m_.toUInt64 >>> ((1 : Int32) &&& 0x3f).toInt64.toUInt64).toInt64) &&& (7 : Int64)).toInt32)), .val (.long v3), .second, .val (.ref b4), .val (.ref b8), .val (.int (1 : Int32)), .unset, .unset, .unset, .unset]) rfl k)))) ?_
      show own_Go p.tables e below RR (T13.setTop (mkF m 95 #[.val (.long m_), .second, .val (.long a), .second, .val (.long b), .second, .val (.long s_), .second, .val (.long e_), .second, .val (.long v_), .second, .val (.long (own_max (1 : Int64) m_)), .second, .val (.int ((((m_.toUInt64 >>> ((1 : Int32) &&& 0x3f).toInt64.toUInt64).toInt64) &&& (7 : Int64)).toInt32)), .val (.long v3), .second, .val (.ref b4), .val (.ref b8), .val (.int (1 : Int32)), .unset, .unset, .unset, .unset] []))
      exact join15 T13 _  X13 eq13 N13 
set_option maxRecDepth 65536 in
set_option maxHeartbeats 40000000 in
theorem own_comes {Post : Tables → Env → Array Value → State → Outcome → State → Prop} (hpost : ∀ tb e args s v u, (limb_1_1.after args s (.returned v) u = true ∧ limb_1_2.after args s (.returned v) u = true ∧ True) → FrameEnd s (.returned v) u (Jvm.fieldLocs frame_1_writes args s ++ Jvm.arrayLocs frame_1_arrays args s ++ Jvm.staticLocs frame_1_statics s) 16 128 → Post tb e args s (.returned v) u) :
    ArmFor flags0 classFile x code maxLocals ret World_1 tables_1 room_1 Calls_1 rest_1 Pre_1 Post := by
  intro l hfl _ _ p e ha hc hk s m args below hf hA hF happ hP
  obtain ⟨hcalls, hrest, hpre⟩ := hP
  obtain ⟨-, -, -, hnamed, -, -, -, hat⟩ := (Spec.applies_iff hf).mp happ
  obtain ⟨hg, hn⟩ := and_e (Cond.before_iff.mp (show (Jvm.Cond.and given_1 narrow_1).before args s = true from hpre))
  obtain ⟨u1a, u1b⟩ := and_e hg
  obtain ⟨u2a, u2b⟩ := and_e u1b
  obtain ⟨u3a, u3b⟩ := and_e u2b
  obtain ⟨u4a, u4b⟩ := and_e u3b
  obtain ⟨u5a, u5b⟩ := and_e u4b
  obtain ⟨u6a, u6b⟩ := and_e u5b
  obtain ⟨w0, w1, w2, w3, w4, w5, rfl⟩ : ∃ w0 w1 w2 w3 w4 w5 : Value, args = #[w0, w1, w2, w3, w4, w5] := by
    have hs : args.size = 6 := by simpa [Cond.value, given_1] using u1a
    obtain ⟨L⟩ := args
    match L, hs with
    | [w0, w1, w2, w3, w4, w5], _ => exact ⟨w0, w1, w2, w3, w4, w5, rfl⟩
  have hw := fun d (hd : d ∈ tables_1) => atoms_spec (ws := Jvm.Cond.code x code maxLocals ret :: tables_1) hat d (List.mem_cons_of_mem _ hd)
  have hfit : Fit s := fun {y c} hc i hi => by
    obtain ⟨ha, rfl⟩ := Array.getElem?_eq_some_iff.mp hc
    have q := List.all_eq_true.mp ((Array.all_eq_true_iff_forall_mem.mp hF) _ (Array.getElem_mem ha)) i (List.mem_range.mpr hi)
    simpa [Array.getElem?_eq_getElem hi] using q
  obtain ⟨i0, ei0⟩ := isL_v u2a
  obtain rfl : w0 = (.long i0) := Option.some.inj ei0
  obtain ⟨i1, ei1⟩ := isL_v u3a
  obtain rfl : w1 = (.long i1) := Option.some.inj ei1
  obtain ⟨i2, ei2⟩ := isL_v u4a
  obtain rfl : w2 = (.long i2) := Option.some.inj ei2
  obtain ⟨i3, ei3⟩ := isL_v u5a
  obtain rfl : w3 = (.long i3) := Option.some.inj ei3
  obtain ⟨i4, ei4⟩ := isL_v u6a
  obtain rfl : w4 = (.long i4) := Option.some.inj ei4
  obtain ⟨i5, ei5⟩ := isL_v u6b
  obtain rfl : w5 = (.long i5) := Option.some.inj ei5
  obtain ⟨n, o, h1, h2, h3, _, L, rfl, ⟨rfl, N⟩, hq⟩ := own_rm0 l s _ hw tables_1 i0 i1 i2 i3 i4 i5 s.heap s.heap.size (Nat.le_refl _)  p e ha hc hk s m _ below hf ((Spec.applies_iff_loose hf).mp happ).1 ⟨rfl, State.Warmed39.refl s, rfl⟩ trivial
  refine ⟨n, _, h1, h2, h3, hpost _ _ _ _ _ _ ⟨Cond.after_iff.mpr rfl, Cond.after_iff.mpr (eq_i res_at (Term.int_eval (1)) rfl), trivial⟩ ⟨hq.1, hq.2.1, (hq.2.2.sift fun y hy => Or.inr (N y hy)).mono (by decide) (by decide)⟩⟩
theorem main_1_1 : Claimed_1_1 := own_comes fun _ _ _ _ _ _ h hF => ⟨h.1, hF⟩
theorem main_1_2 : Claimed_1_2 := own_comes fun _ _ _ _ _ _ h hF => ⟨h.2.1, hF⟩
end Jvm.Pilot.@@N@@
namespace Jvm.Pilot.@@N@@
open Jvm Jvm.ClassFile Sem Op Lib Jvm.Free Jvm.Stand Jvm.Pilot.@@N@@.Jvm.D
/-! MADE BY PROGRAM (witnessworld.py) out of the Statement's table words and the real class files: 9 classes; the members and pool entries that the words name. The judged class is class 1, her method 2. -/
namespace start1
open Jvm.ClassFile
def u (s : String) : CpInfo := .utf8 (stringToUtf16 s)
/-- a pool by its gaps: so many unusable entries, then the entry; so many at the end -/
def gap : Nat → List CpInfo → List CpInfo
  | 0, r => r
  | n + 1, r => .unusable :: gap n r
def poolList (es : List (Nat × CpInfo)) (last : Nat) : List CpInfo := es.foldr (fun e r => gap e.1 (e.2 :: r)) (gap last [])
def pool (es : List (Nat × CpInfo)) (last : Nat) : Array CpInfo := ⟨poolList es last⟩
def fileOf (pool : Array CpInfo) (this : Nat) (attrs : Array Attribute := #[]) (ms : Array MethodInfo := #[]) (fl : Nat := 33) (sup : Nat := 0) (ifs : Array Nat := #[]) (fds : Array FieldInfo := #[]) : ClassFile where
  minorVersion := 0
  majorVersion := 65
  constantPool := pool
  accessFlags := fl
  thisClass := this
  superClass := sup
  interfaces := ifs
  fields := fds
  methods := ms
  attributes := attrs
def plain (name : String) (sup : Option ClassId) : Class where
  name := name
  kind := .ordinary
  loader := none
  accessFlags := 33
  super := sup
  interfaces := #[]
  cf := none
  fields := #[]
  methods := #[]
  instanceTypes := #[]
  staticTypes := #[]
  resolved := #[]
  callSites := []
  init := .initialized
  statics := none
  mirror := none

def pool0 : Array CpInfo := pool [(5, u "<init>"), (0, u "()V"), (1, .class_ 10), (1, u "java/lang/Object")] 113

def k0c0 : Code := { maxStack := 0, maxLocals := 1, code := object_method_1_code, exceptionTable := #[], attributes := #[] }
def k0m0 : Method := { name := "<init>", desc := "()V", sig := { parameters := [], returnType := none }, accessFlags := 1, code := some k0c0 }
/-- java/lang/Object -/
def k0 : Class := { plain "java/lang/Object" none with
  accessFlags := 33
  interfaces := #[]
  cf := some (fileOf pool0 8 #[] #[{ accessFlags := 1, nameIndex := 5, descriptorIndex := 6, attributes := #[] }] 33 0 #[] #[])
  fields := #[]
  methods := #[k0m0]
  instanceTypes := #[]
  staticTypes := #[]
  resolved := Array.replicate 124 none
  statics := none }

def pool1 : Array CpInfo := pool [(2, .class_ 4), (1, u "java/lang/Object"), (0, u "<init>"), (0, u "()V"), (0, .methodref 8 9), (0, .class_ 10), (0, .nameAndType 11 12), (0, u "java/lang/Math"), (0, u "max"), (0, u "(JJ)J"), (0, .long 7), (1, .methodref 16 17), (0, .class_ 18), (0, .nameAndType 19 20), (0, u "com/example/vigilant_cells/vigilantcells/model/ReadOptionsIncludesPinLaw"), (0, u "pick"), (0, u "(IJJJJJ)J"), (0, .class_ 22), (0, u "com/example/vigilant_cells/vigilantcells/model/ReadOptions"), (0, .methodref 21 24), (0, .nameAndType 5 25), (0, u "(JJJ)V"), (0, .methodref 21 27), (0, .nameAndType 28 29), (0, u "withVersionRange"), (0, u "(JJ)Lcom/example/vigilant_cells/vigilantcells/model/ReadOptions;"), (0, .methodref 21 31), (0, .nameAndType 32 33), (0, u "includes"), (0, u "(J)Z"), (3, u "law"), (0, u "(JJJJJJ)Z")] 2

def k1m0 : Method := { name := "<init>", desc := "()V", sig := { parameters := [], returnType := none }, accessFlags := 1, code := none }
def k1c1 : Code := { maxStack := 4, maxLocals := 11, code := method_2_code, exceptionTable := #[], attributes := #[] }
def k1m1 : Method := { name := "pick", desc := "(IJJJJJ)J", sig := { parameters := [.int, .long, .long, .long, .long, .long], returnType := some .long }, accessFlags := 10, code := some k1c1 }
def k1c2 : Code := { maxStack := 11, maxLocals := 24, code := code, exceptionTable := #[], attributes := #[] }
def k1m2 : Method := { name := "law", desc := "(JJJJJJ)Z", sig := { parameters := [.long, .long, .long, .long, .long, .long], returnType := some .boolean }, accessFlags := 9, code := some k1c2 }
/-- com/example/vigilant_cells/vigilantcells/model/ReadOptionsIncludesPinLaw -/
def k1 : Class := { plain "com/example/vigilant_cells/vigilantcells/model/ReadOptionsIncludesPinLaw" (some 0) with
  accessFlags := 49
  interfaces := #[]
  cf := some (fileOf pool1 16 #[] #[{ accessFlags := 1, nameIndex := 5, descriptorIndex := 6, attributes := #[] }, { accessFlags := 10, nameIndex := 19, descriptorIndex := 20, attributes := #[] }, { accessFlags := 9, nameIndex := 37, descriptorIndex := 38, attributes := #[] }] 49 2 #[] #[])
  fields := #[]
  methods := #[k1m0, k1m1, k1m2]
  instanceTypes := #[]
  staticTypes := #[]
  resolved := Array.replicate 41 none
  statics := none }

def pool2 : Array CpInfo := pool [(1, .class_ 2), (0, u "java/lang/Math"), (1, .class_ 6), (1, u "java/lang/Object"), (0, u "<init>"), (0, u "()V"), (89, .class_ 100), (1, u "java/lang/Math$RandomNumberGeneratorHolder"), (20, u "(JJ)J"), (50, u "negativeZeroFloatBits"), (0, u "J"), (2, u "negativeZeroDoubleBits"), (21, u "max"), (46, u "$assertionsDisabled"), (0, u "Z"), (91, u "twoToTheDoubleScaleDown"), (0, u "D"), (4, u "twoToTheDoubleScaleUp"), (9, u "E"), (3, u "PI"), (2, u "TAU"), (2, u "DEGREES_TO_RADIANS"), (0, u "RADIANS_TO_DEGREES")] 94

def k2m0 : Method := { name := "<init>", desc := "()V", sig := { parameters := [], returnType := none }, accessFlags := 2, code := none }
def k2c1 : Code := { maxStack := 4, maxLocals := 4, code := jdk_29_method_66_code, exceptionTable := #[], attributes := #[] }
def k2m1 : Method := { name := "max", desc := "(JJ)J", sig := { parameters := [.long, .long], returnType := some .long }, accessFlags := 9, code := some k2c1 }
/-- java/lang/Math -/
def k2 : Class := { plain "java/lang/Math" (some 0) with
  accessFlags := 49
  interfaces := #[]
  cf := some (fileOf pool2 1 #[.nestMembers #[98]] #[{ accessFlags := 2, nameIndex := 7, descriptorIndex := 8, attributes := #[] }, { accessFlags := 9, nameIndex := 198, descriptorIndex := 121, attributes := #[] }] 49 4 #[] #[{ accessFlags := 25, nameIndex := 354, descriptorIndex := 339, attributes := #[] }, { accessFlags := 25, nameIndex := 358, descriptorIndex := 339, attributes := #[] }, { accessFlags := 25, nameIndex := 361, descriptorIndex := 339, attributes := #[] }, { accessFlags := 26, nameIndex := 364, descriptorIndex := 339, attributes := #[] }, { accessFlags := 26, nameIndex := 365, descriptorIndex := 339, attributes := #[] }, { accessFlags := 26, nameIndex := 172, descriptorIndex := 173, attributes := #[] }, { accessFlags := 26, nameIndex := 176, descriptorIndex := 173, attributes := #[] }, { accessFlags := 8, nameIndex := 344, descriptorIndex := 339, attributes := #[] }, { accessFlags := 8, nameIndex := 338, descriptorIndex := 339, attributes := #[] }, { accessFlags := 4120, nameIndex := 245, descriptorIndex := 246, attributes := #[] }])
  fields := #[{ name := "E", type := .double, accessFlags := 25, slot := 0, constantValue := 0 }, { name := "PI", type := .double, accessFlags := 25, slot := 1, constantValue := 0 }, { name := "TAU", type := .double, accessFlags := 25, slot := 2, constantValue := 0 }, { name := "DEGREES_TO_RADIANS", type := .double, accessFlags := 26, slot := 3, constantValue := 0 }, { name := "RADIANS_TO_DEGREES", type := .double, accessFlags := 26, slot := 4, constantValue := 0 }, { name := "negativeZeroFloatBits", type := .long, accessFlags := 26, slot := 5, constantValue := 0 }, { name := "negativeZeroDoubleBits", type := .long, accessFlags := 26, slot := 6, constantValue := 0 }, { name := "twoToTheDoubleScaleUp", type := .double, accessFlags := 8, slot := 7, constantValue := 0 }, { name := "twoToTheDoubleScaleDown", type := .double, accessFlags := 8, slot := 8, constantValue := 0 }, { name := "$assertionsDisabled", type := .boolean, accessFlags := 4120, slot := 9, constantValue := 0 }]
  methods := #[k2m0, k2m1]
  instanceTypes := #[]
  staticTypes := #[.double, .double, .double, .double, .double, .long, .long, .double, .double, .boolean]
  resolved := Array.replicate 460 none
  statics := none }

def pool3 : Array CpInfo := pool [(1, .methodref 2 3), (0, .class_ 4), (0, .nameAndType 5 6), (0, u "java/lang/Object"), (0, u "<init>"), (0, u "()V"), (0, .class_ 8), (0, u "java/lang/Record")] 13

def k3c0 : Code := { maxStack := 1, maxLocals := 1, code := jdk_30_method_1_code, exceptionTable := #[], attributes := #[] }
def k3m0 : Method := { name := "<init>", desc := "()V", sig := { parameters := [], returnType := none }, accessFlags := 4, code := some k3c0 }
/-- java/lang/Record -/
def k3 : Class := { plain "java/lang/Record" (some 0) with
  accessFlags := 1057
  interfaces := #[]
  cf := some (fileOf pool3 7 #[] #[{ accessFlags := 4, nameIndex := 5, descriptorIndex := 6, attributes := #[] }] 1057 2 #[] #[])
  fields := #[]
  methods := #[k3m0]
  instanceTypes := #[]
  staticTypes := #[]
  resolved := Array.replicate 22 none
  statics := none }

def pool4 : Array CpInfo := pool [(1, .methodref 2 3), (0, .class_ 4), (0, .nameAndType 5 6), (0, u "java/lang/Record"), (0, u "<init>"), (0, u "()V"), (15, .fieldref 23 24), (0, .class_ 25), (0, .nameAndType 26 27), (0, u "com/example/vigilant_cells/vigilantcells/model/ReadOptions"), (0, u "maxVersions"), (0, u "J"), (0, .fieldref 23 29), (0, .nameAndType 30 27), (0, u "first"), (0, .fieldref 23 32), (0, .nameAndType 33 27), (0, u "last"), (0, .methodref 23 35), (0, .nameAndType 5 36), (0, u "(JJJ)V"), (0, .long 18446744073709551615), (21, u "ALL"), (0, u "Lcom/example/vigilant_cells/vigilantcells/model/ReadOptions;"), (6, u "withVersionRange"), (0, u "(JJ)Lcom/example/vigilant_cells/vigilantcells/model/ReadOptions;"), (0, u "includes"), (0, u "(J)Z")] 35

def k4c0 : Code := { maxStack := 5, maxLocals := 7, code := prog_21_method_1_code, exceptionTable := #[], attributes := #[] }
def k4m0 : Method := { name := "<init>", desc := "(JJJ)V", sig := { parameters := [.long, .long, .long], returnType := none }, accessFlags := 1, code := some k4c0 }
def k4c1 : Code := { maxStack := 10, maxLocals := 6, code := prog_21_method_3_code, exceptionTable := #[], attributes := #[] }
def k4m1 : Method := { name := "withVersionRange", desc := "(JJ)Lcom/example/vigilant_cells/vigilantcells/model/ReadOptions;", sig := { parameters := [.long, .long], returnType := some (.object "com/example/vigilant_cells/vigilantcells/model/ReadOptions") }, accessFlags := 1, code := some k4c1 }
def k4c2 : Code := { maxStack := 4, maxLocals := 3, code := prog_21_method_4_code, exceptionTable := #[], attributes := #[] }
def k4m2 : Method := { name := "includes", desc := "(J)Z", sig := { parameters := [.long], returnType := some .boolean }, accessFlags := 1, code := some k4c2 }
/-- com/example/vigilant_cells/vigilantcells/model/ReadOptions -/
def k4 : Class := { plain "com/example/vigilant_cells/vigilantcells/model/ReadOptions" (some 3) with
  accessFlags := 49
  interfaces := #[]
  cf := some (fileOf pool4 23 #[] #[{ accessFlags := 1, nameIndex := 5, descriptorIndex := 36, attributes := #[] }, { accessFlags := 1, nameIndex := 67, descriptorIndex := 68, attributes := #[] }, { accessFlags := 1, nameIndex := 69, descriptorIndex := 70, attributes := #[] }] 49 2 #[] #[{ accessFlags := 18, nameIndex := 26, descriptorIndex := 27, attributes := #[] }, { accessFlags := 18, nameIndex := 30, descriptorIndex := 27, attributes := #[] }, { accessFlags := 18, nameIndex := 33, descriptorIndex := 27, attributes := #[] }, { accessFlags := 25, nameIndex := 59, descriptorIndex := 60, attributes := #[] }])
  fields := #[{ name := "maxVersions", type := .long, accessFlags := 18, slot := 0, constantValue := 0 }, { name := "first", type := .long, accessFlags := 18, slot := 1, constantValue := 0 }, { name := "last", type := .long, accessFlags := 18, slot := 2, constantValue := 0 }, { name := "ALL", type := (.object "com/example/vigilant_cells/vigilantcells/model/ReadOptions"), accessFlags := 25, slot := 0, constantValue := 0 }]
  methods := #[k4m0, k4m1, k4m2]
  instanceTypes := #[.long, .long, .long]
  staticTypes := #[(.object "com/example/vigilant_cells/vigilantcells/model/ReadOptions")]
  resolved := Array.replicate 106 none
  statics := none }

def pool5 : Array CpInfo := pool [(1, u "java/lang/Cloneable"), (0, .class_ 1), (0, u "java/lang/Object"), (0, .class_ 3)] 3

/-- java/lang/Cloneable -/
def k5 : Class := { plain "java/lang/Cloneable" (some 0) with
  accessFlags := 1537
  interfaces := #[]
  cf := some (fileOf pool5 2 #[] #[] 1537 4 #[] #[])
  fields := #[]
  methods := #[]
  instanceTypes := #[]
  staticTypes := #[]
  resolved := Array.replicate 8 none
  statics := none }

def pool6 : Array CpInfo := pool [(1, u "java/io/Serializable"), (0, .class_ 1), (0, u "java/lang/Object"), (0, .class_ 3)] 3

/-- java/io/Serializable -/
def k6 : Class := { plain "java/io/Serializable" (some 0) with
  accessFlags := 1537
  interfaces := #[]
  cf := some (fileOf pool6 2 #[] #[] 1537 4 #[] #[])
  fields := #[]
  methods := #[]
  instanceTypes := #[]
  staticTypes := #[]
  resolved := Array.replicate 8 none
  statics := none }

/-- the primitive byte -/
def k7 : Class := { plain "byte" none with kind := .primitive 'B', accessFlags := 0x411 }
/-- [B -/
def k8 : Class := { plain "[B" (some 0) with kind := .array 7 .byte, interfaces := #[5, 6], accessFlags := 1041 }

def heap : Heap := #[]
def classes : Array Class := #[k0, k1, k2, k3, k4, k5, k6, k7, k8]
def interned : List (Array UInt16 × Addr) := []
def slotsUsed : Nat := 0
def theMethod : MethodId := ⟨1, 2⟩
def args0 : Array Value := #[.long 5000, .long 3, .long 1, .long 1, .long 2, .long 3]
def aboutOver (below : List Frame) : State where
  vm := { classes := classes, interned := interned.toArray }
  heap := heap
  slotsUsed := slotsUsed
  threads := #[{ frames := .invoking theMethod args0 :: below }]
def below0 : List Frame := [.native { method := ⟨0, 0⟩, args := #[] }]
def about1 : State := aboutOver below0
def p0 : Program := .bare "" "" ""
def e0 : Env := launch0.env 0 0 0
theorem w_frames : about1.frames = Frame.invoking theMethod args0 :: below0 := rfl
set_option maxRecDepth 65536 in
theorem w_args : argsFit about1.vm theMethod args0 = true := by decide +kernel
set_option maxRecDepth 65536 in
theorem w_heap : heapFits about1 = true := by decide +kernel
set_option maxRecDepth 65536 in
theorem w_runnable : about1.curStatus? = some .runnable := by decide +kernel
set_option maxRecDepth 65536 in
theorem w_alone : about1.alone = true := by decide +kernel
set_option maxRecDepth 65536 in
theorem w_named : about1.methodNamed? x = some theMethod := by decide +kernel
set_option maxRecDepth 65536 in
theorem w_hears : about1.hears theMethod below0 = true := by decide +kernel
set_option maxRecDepth 65536 in
theorem w_ripe : about1.ripe theMethod args0 below0 = true := by decide +kernel
theorem w_running : about1.status = .running := rfl
set_option maxRecDepth 65536 in
theorem w_room : about1.hasRoom e0.platform room_1 = true :=
  launch0.hasRoom_least _ room_1 (by decide +kernel) (by decide +kernel) (by decide +kernel) (by decide +kernel) (by decide +kernel) (by decide +kernel)
theorem allAtoms_all (ts : List Jvm.Cond) (a : Array Jvm.Value) (st : Jvm.State) : (allAtoms ts).before a st = ts.all (fun c => c.before a st) := by
  induction ts with
  | nil => rfl
  | cons c t ih =>
    show (Jvm.Cond.and c (allAtoms t)).before a st = _
    rw [Jvm.Cond.before_and, ih, List.all_cons]
def words1 : List Jvm.Cond := Jvm.Cond.code x code maxLocals ret :: tables_1
/-- a 'code' word, met by the world's own term for the bytes: nothing is compared byte by byte -/
theorem code_word {y : MethodName} {bytes : ByteArray} {mx : Nat} {rt : Option FieldType} {a : Array Value} {s : State} {m : MethodId} {meth : Method} {c : Code} (h1 : s.methodNamed? y = some m) (h2 : s.vm.method? m = some meth) (h3 : meth.code = some c) (h4 : c.code = bytes)
    (h5 : (c.maxLocals == mx && c.exceptionTable.isEmpty && decide (c.maxStack ≤ mostOperands) && decide (meth.sig.returnType = rt) && !meth.locks && decide (parseMethodDescriptor y.desc = some meth.sig)) = true) : (Jvm.Cond.code y bytes mx rt).before a s = true := by
  simp only [Bool.and_eq_true, beq_iff_eq, Bool.not_eq_true', decide_eq_true_eq] at h5
  obtain ⟨⟨⟨⟨⟨g1, g2⟩, g3⟩, g4⟩, g5⟩, g6⟩ := h5
  simp [Cond.before, Cond.holds, Cond.value, h1, h2, h3, h4, g1, g2, g3, g4, g5, g6]
def isCode : Jvm.Cond → Bool
  | .code _ _ _ _ => true
  | _ => false
theorem all_split {L : List Jvm.Cond} {P : Jvm.Cond → Bool} (h1 : L.all (fun c => isCode c || P c) = true) (h2 : ∀ c ∈ L.filter isCode, P c = true) : L.all P = true := by
  refine List.all_eq_true.mpr fun c hc => ?_
  have h := List.all_eq_true.mp h1 c hc
  rcases Bool.eq_false_or_eq_true (isCode c) with hi | hi
  · exact h2 c (List.mem_filter.mpr ⟨hc, hi⟩)
  · simpa [hi] using h
set_option maxRecDepth 65536 in
theorem w_c0 : (Jvm.Cond.code x code maxLocals ret).before args0 about1 = true := code_word (m := ⟨1, 2⟩) (meth := k1m2) (c := k1c2) (by decide +kernel) rfl rfl rfl (by decide +kernel)
set_option maxRecDepth 65536 in
theorem w_c1 : (Jvm.Cond.code ({ cls := "java/lang/Math", name := "max", desc := "(JJ)J" } : Jvm.MethodName) jdk_29_method_66_code (4 : Nat) (Option.some Jvm.ClassFile.FieldType.long)).before args0 about1 = true := code_word (m := ⟨2, 1⟩) (meth := k2m1) (c := k2c1) (by decide +kernel) rfl rfl rfl (by decide +kernel)
set_option maxRecDepth 65536 in
theorem w_c2 : (Jvm.Cond.code ({ cls := "com/example/vigilant_cells/vigilantcells/model/ReadOptionsIncludesPinLaw", name := "pick", desc := "(IJJJJJ)J" } : Jvm.MethodName) method_2_code (11 : Nat) (Option.some Jvm.ClassFile.FieldType.long)).before args0 about1 = true := code_word (m := ⟨1, 1⟩) (meth := k1m1) (c := k1c1) (by decide +kernel) rfl rfl rfl (by decide +kernel)
set_option maxRecDepth 65536 in
theorem w_c3 : (Jvm.Cond.code ({ cls := "com/example/vigilant_cells/vigilantcells/model/ReadOptions", name := "<init>", desc := "(JJJ)V" } : Jvm.MethodName) prog_21_method_1_code (7 : Nat) (Option.none : Option Jvm.ClassFile.FieldType)).before args0 about1 = true := code_word (m := ⟨4, 0⟩) (meth := k4m0) (c := k4c0) (by decide +kernel) rfl rfl rfl (by decide +kernel)
set_option maxRecDepth 65536 in
theorem w_c4 : (Jvm.Cond.code ({ cls := "java/lang/Record", name := "<init>", desc := "()V" } : Jvm.MethodName) jdk_30_method_1_code (1 : Nat) (Option.none : Option Jvm.ClassFile.FieldType)).before args0 about1 = true := code_word (m := ⟨3, 0⟩) (meth := k3m0) (c := k3c0) (by decide +kernel) rfl rfl rfl (by decide +kernel)
set_option maxRecDepth 65536 in
theorem w_c5 : (Jvm.Cond.code ({ cls := "java/lang/Object", name := "<init>", desc := "()V" } : Jvm.MethodName) object_method_1_code (1 : Nat) (Option.none : Option Jvm.ClassFile.FieldType)).before args0 about1 = true := code_word (m := ⟨0, 0⟩) (meth := k0m0) (c := k0c0) (by decide +kernel) rfl rfl rfl (by decide +kernel)
set_option maxRecDepth 65536 in
theorem w_c6 : (Jvm.Cond.code ({ cls := "com/example/vigilant_cells/vigilantcells/model/ReadOptions", name := "withVersionRange", desc := "(JJ)Lcom/example/vigilant_cells/vigilantcells/model/ReadOptions;" } : Jvm.MethodName) prog_21_method_3_code (6 : Nat) (Option.some (Jvm.ClassFile.FieldType.object "com/example/vigilant_cells/vigilantcells/model/ReadOptions"))).before args0 about1 = true := code_word (m := ⟨4, 1⟩) (meth := k4m1) (c := k4c1) (by decide +kernel) rfl rfl rfl (by decide +kernel)
set_option maxRecDepth 65536 in
theorem w_c7 : (Jvm.Cond.code ({ cls := "com/example/vigilant_cells/vigilantcells/model/ReadOptions", name := "includes", desc := "(J)Z" } : Jvm.MethodName) prog_21_method_4_code (3 : Nat) (Option.some Jvm.ClassFile.FieldType.boolean)).before args0 about1 = true := code_word (m := ⟨4, 2⟩) (meth := k4m2) (c := k4c2) (by decide +kernel) rfl rfl rfl (by decide +kernel)
def codes1 : List Jvm.Cond := [Jvm.Cond.code x code maxLocals ret, Jvm.Cond.code ({ cls := "java/lang/Math", name := "max", desc := "(JJ)J" } : Jvm.MethodName) jdk_29_method_66_code (4 : Nat) (Option.some Jvm.ClassFile.FieldType.long), Jvm.Cond.code ({ cls := "com/example/vigilant_cells/vigilantcells/model/ReadOptionsIncludesPinLaw", name := "pick", desc := "(IJJJJJ)J" } : Jvm.MethodName) method_2_code (11 : Nat) (Option.some Jvm.ClassFile.FieldType.long), Jvm.Cond.code ({ cls := "com/example/vigilant_cells/vigilantcells/model/ReadOptions", name := "<init>", desc := "(JJJ)V" } : Jvm.MethodName) prog_21_method_1_code (7 : Nat) (Option.none : Option Jvm.ClassFile.FieldType), Jvm.Cond.code ({ cls := "java/lang/Record", name := "<init>", desc := "()V" } : Jvm.MethodName) jdk_30_method_1_code (1 : Nat) (Option.none : Option Jvm.ClassFile.FieldType), Jvm.Cond.code ({ cls := "java/lang/Object", name := "<init>", desc := "()V" } : Jvm.MethodName) object_method_1_code (1 : Nat) (Option.none : Option Jvm.ClassFile.FieldType), Jvm.Cond.code ({ cls := "com/example/vigilant_cells/vigilantcells/model/ReadOptions", name := "withVersionRange", desc := "(JJ)Lcom/example/vigilant_cells/vigilantcells/model/ReadOptions;" } : Jvm.MethodName) prog_21_method_3_code (6 : Nat) (Option.some (Jvm.ClassFile.FieldType.object "com/example/vigilant_cells/vigilantcells/model/ReadOptions")), Jvm.Cond.code ({ cls := "com/example/vigilant_cells/vigilantcells/model/ReadOptions", name := "includes", desc := "(J)Z" } : Jvm.MethodName) prog_21_method_4_code (3 : Nat) (Option.some Jvm.ClassFile.FieldType.boolean)]
set_option maxRecDepth 65536 in
theorem codes_eq : words1.filter isCode = codes1 := rfl
theorem w_codes : ∀ c ∈ words1.filter isCode, c.before args0 about1 = true := by
  rw [codes_eq]
  intro c hc
  simp only [codes1, List.mem_cons, List.not_mem_nil, or_false] at hc
  rcases hc with rfl | rfl | rfl | rfl | rfl | rfl | rfl | rfl
  · exact w_c0
  · exact w_c1
  · exact w_c2
  · exact w_c3
  · exact w_c4
  · exact w_c5
  · exact w_c6
  · exact w_c7
set_option maxRecDepth 65536 in
theorem w_t1 : (words1.take 24).all (fun c => isCode c || c.before args0 about1) = true := by decide +kernel
set_option maxRecDepth 65536 in
theorem w_t2 : (words1.drop 24).all (fun c => isCode c || c.before args0 about1) = true := by decide +kernel
theorem w_tables : (allAtoms (Jvm.Cond.code x code maxLocals ret :: tables_1)).before args0 about1 = true := by
  rw [allAtoms_all]
  show words1.all (fun c => c.before args0 about1) = true
  refine all_split ?_ w_codes
  rw [← List.take_append_drop 24 words1, List.all_append, w_t1, w_t2]
  rfl
set_option maxRecDepth 65536 in
theorem w_case : (Jvm.Cond.and given_1 narrow_1).before args0 about1 = true := by decide +kernel
theorem w_applies : (headSpec (Jvm.Cond.code x code maxLocals ret :: tables_1) room_1).applies x e0.platform about1 = true :=
  (Spec.applies_iff w_frames).mpr ⟨w_running, w_runnable, w_alone, w_named, w_hears, w_ripe, w_room, w_tables⟩
theorem atStart : AtStart classFile x code maxLocals ret World_1 tables_1 room_1 Calls_1 rest_1 Pre_1 launch0 p0 e0 about1 theMethod args0 below0 :=
  ⟨lists_1, trivial, launch0.admits_env _ _ _, launch0.least_env, fairChoices_fair.cas, fairChoices_fair.clock, w_frames, w_args, w_heap, w_applies, trivial, trivial, w_case⟩
end start1
theorem witness_1 : WitnessClaimed_1 := ⟨start1.p0, start1.e0, start1.about1, start1.theMethod, start1.args0, start1.below0, start1.atStart⟩
end Jvm.Pilot.@@N@@
