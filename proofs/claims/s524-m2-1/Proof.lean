import JvmDerived
import JvmDerived.Pilot.@@N@@Statement
import JvmDerived.Pilot.@@N@@Code
set_option linter.unusedVariables false
set_option linter.unusedSimpArgs false
namespace Jvm.RoadKit
open Sem ClassFile Op Lib Jvm.Stand Jvm.Free Jvm.LawKit
section Own
/-- from u a state is reached where R holds -/
def own_Go (tb : Tables) (e : Env) (below : List Frame) (R : State → Prop) (u : State) : Prop := ∃ t, Steps tb e below u t ∧ R t
theorem own_st {tb : Tables} {e : Env} {below : List Frame} {R : State → Prop} {u v : State} (h : ∀ t, Steps tb e below v t → Steps tb e below u t) (g : own_Go tb e below R v) : own_Go tb e below R u := by
  obtain ⟨t, h1, h2⟩ := g
  exact ⟨t, h t h1, h2⟩
theorem own_fin {tb : Tables} {e : Env} {below : List Frame} {R : State → Prop} {u t : State} (h : Steps tb e below u t) (r : R t) : own_Go tb e below R u := ⟨t, h, r⟩
theorem own_in {tb : Tables} {e : Env} {below : List Frame} {u v : State} {P : State → Outcome → Prop} (h : ∀ t, Steps tb e below v t → Steps tb e below u t)
    (g : ∀ RR : State → Prop, (∀ t, (∃ o, t.status = .running ∧ P t o) → RR t) → own_Go tb e below RR v) : ∃ t o, Steps tb e below u t ∧ t.status = .running ∧ P t o := by
  obtain ⟨t, h1, o, h2, h3⟩ := g (fun t => ∃ o, t.status = .running ∧ P t o) fun _ q => q
  exact ⟨t, o, h t h1, h2, h3⟩
theorem own_ri {x y : Int32} (h : x = y) : some (Value.int x) = some (Value.int y) := h ▸ rfl
theorem own_rj {x y : Int64} (h : x = y) : some (Value.long x) = some (Value.long y) := h ▸ rfl
theorem own_rr {x y : Addr} (h : x = y) : some (Value.ref x) = some (Value.ref y) := h ▸ rfl
theorem own_eq_int {args : Array Value} {first s : State} {o : Option Outcome} {idx : List Nat} {a : Term} {k : Int32} (h : (Cond.eq a (.int k)).value args first o s idx = some true) : a.eval args first o idx s = some (.int k) := by
  simp only [Cond.value, Term.eval] at h
  cases ht : a.eval args first o idx s with
  | none => simp [ht] at h
  | some x => cases x <;> simp [ht] at h ⊢; exact h
theorem own_eq_long {args : Array Value} {first s : State} {o : Option Outcome} {idx : List Nat} {a : Term} {k : Int64} (h : (Cond.eq a (.long k)).value args first o s idx = some true) : a.eval args first o idx s = some (.long k) := by
  simp only [Cond.value, Term.eval] at h
  cases ht : a.eval args first o idx s with
  | none => simp [ht] at h
  | some x => cases x <;> simp [ht] at h ⊢; exact h
theorem own_selP {s : State} {args : Array Value} {y : MethodName} {n : Nat} (wi : (Cond.instantiable y.cls n).before args s = true) (hp : s.PrivateAt y) (hi : (Cond.instanceMethod y).before args s = true) (hy : y.cls ≠ "java/lang/invoke/MethodHandle" ∧ y.cls ≠ "java/lang/invoke/VarHandle") : (Cond.selects y.cls y y).before args s = true := by
  obtain ⟨c, k, h1, h2, -, h4, -⟩ := Cond.instantiable_spec wi
  exact selects_self_of_private h1 h2 (Bool.or_eq_false_iff.mp h4).1 hp hi hy
variable {p : Program} {l : Launch} {e : Env} {R : Room} {s : State} {m : MethodId} {args : Array Value} {below : List Frame} {meth : Method} {c : Code} {T : State} {locs : List Loc} {cells slots : Nat} {Z : State} {h : Heap}
theorem retI (X : Stand p l e R s m args below meth c T locs cells slots) (hx : p.tables.exec = Jvm.exec) {pc : Nat} {Ls : Array Slot} {z : Int32} {rest : List Value} (hret : meth.sig.returnType = some .int) (hd : decode c.code pc = .ok (.ireturn, 1)) {fs : List Frame}
    (hl : ∀ (f : JFrame) (acts : List Action), f.method = m → f.locked = none → f.entered = [] → (doReturn e (T.setTop f) acts (some (.int z))).1 = T.setFrames fs) : Steps p.tables e below (T.setTop (mkF m pc Ls (.int z :: rest))) (T.setFrames fs) :=
  retOut X hx hret rfl (Or.inl ⟨rfl, Or.inl rfl, z, rfl⟩) hd hl
theorem own_len (X : Stand p l e R s m args below meth c T locs cells slots) (hx : p.tables.exec = Jvm.exec) (hZ : Z.Warmed39 s.vm) (eT : T.heap = h) {a : Addr} {cl : Cell} {ty : FieldType} (A : Arr Z h a cl ty) {z : Int32} (S : cl.slots.size = z.toNatClampNeg) (N : ¬ z < 0)
    {g : JFrame} (hg : g.method = m) {rest : List Value} (hs : g.stack = .ref a :: rest) (hd : decode c.code g.pc = .ok (.arraylength, 1)) {target : State}
    (k : Steps p.tables e below (T.setTop { g with pc := g.pc + 1, stack := .int z :: rest }) target) : Steps p.tables e below (T.setTop g) target :=
  X.arraylength hx (by rw [eT]; exact A.1) (State.isArrayOf_alike hZ.alike A.2.1) hg hs hd target (by rw [len_of S N]; exact k)
end Own
end Jvm.RoadKit
namespace Jvm.Pilot.@@N@@
open Jvm Jvm.ClassFile Sem Op Lib Jvm.Free Jvm.Stand Jvm.LawKit Jvm.RoadKit Bundle Jvm.Pilot.@@N@@.Jvm.D
def own_add (a b : Int64) : Int64 := if (9223372036854775807 : Int64) - b < a then 9223372036854775807 else a + b
theorem own_nn {x a : Int64} (h : x &&& (9223372036854775807 : Int64) = a) : 0 ≤ a.toInt := by
  have := c_maskL x 9223372036854775807 63 (by decide) (by decide)
  rw [h] at this
  omega
theorem own_law {a b : Int64} (ha : 0 ≤ a.toInt) (hb : 0 ≤ b.toInt) : own_add a b = if a + b < 0 then 9223372036854775807 else a + b := by
  have h1 := c_ladd a b
  have h2 := c_lsub 9223372036854775807 b
  have r1 := rng64 a
  have r2 := rng64 b
  have r3 := rng64 (a + b)
  have r4 := rng64 ((9223372036854775807 : Int64) - b)
  have e1 : (9223372036854775807 : Int64).toInt = 9223372036854775807 := by decide
  have e0 : (0 : Int64).toInt = 0 := by decide
  unfold own_add
  by_cases q : (9223372036854775807 : Int64) - b < a <;> by_cases r : a + b < 0 <;> simp only [q, r, if_true, if_false] <;> rw [Int64.lt_iff_toInt_lt] at q r <;> exfalso <;> omega
theorem own_pn_com_example_saar_saar_core_search_Statistics : plainName "com/example/saar/saar/core/search/Statistics" = true := by first | (simp [plainName, overriddenIn]; done) | decide +kernel
theorem own_dprog_43_method_11_code_0 : decode prog_43_method_11_code 0 = .ok (.lload_n 0, 1) := by decide +kernel
theorem own_dprog_43_method_11_code_1 : decode prog_43_method_11_code 1 = .ok (.ldc2_w 172, 3) := by decide +kernel
theorem own_dprog_43_method_11_code_4 : decode prog_43_method_11_code 4 = .ok (.lload_n 2, 1) := by decide +kernel
theorem own_dprog_43_method_11_code_5 : decode prog_43_method_11_code 5 = .ok (.lsub, 1) := by decide +kernel
theorem own_dprog_43_method_11_code_6 : decode prog_43_method_11_code 6 = .ok (.lcmp, 1) := by decide +kernel
theorem own_dprog_43_method_11_code_7 : decode prog_43_method_11_code 7 = .ok (.ifCond .le 9, 3) := by decide +kernel
theorem own_dprog_43_method_11_code_10 : decode prog_43_method_11_code 10 = .ok (.ldc2_w 172, 3) := by decide +kernel
theorem own_dprog_43_method_11_code_13 : decode prog_43_method_11_code 13 = .ok (.goto 6, 3) := by decide +kernel
theorem own_dprog_43_method_11_code_19 : decode prog_43_method_11_code 19 = .ok (.lreturn, 1) := by decide +kernel
theorem own_dprog_43_method_11_code_16 : decode prog_43_method_11_code 16 = .ok (.lload_n 0, 1) := by decide +kernel
theorem own_dprog_43_method_11_code_17 : decode prog_43_method_11_code 17 = .ok (.lload_n 2, 1) := by decide +kernel
theorem own_dprog_43_method_11_code_18 : decode prog_43_method_11_code 18 = .ok (.ladd, 1) := by decide +kernel
theorem own_efA (m : MethodId) (q1 : Int64) (q2 : Int64) : entryFrame m #[(.long q1), (.long q2)] 4 = mkF m 0 #[.val (.long q1), .second, .val (.long q2), .second] [] := by first | (simp [entryFrame, mkF, argsToLocals, Value.category]; done) | rfl
def own_QA (Z : State) (q1 : Int64) (q2 : Int64) (h0 : Heap) (n0 : Nat) (rv__ : Option Value) (h : Heap) (rL__ : List Loc) : Prop := rv__ = some (.long (own_add q1 q2)) ∧ Fr n0 rL__ ∧ h = h0
abbrev own_RA : Room := { frames := 0, cells := 0, slots := 0, locals := 0 }
set_option maxRecDepth 65536 in
set_option maxHeartbeats 40000000 in
theorem own_rmA (l : Launch) (Z : State) (a0 : Array Value) (hw : ∀ d ∈ tables_1, d.before a0 Z = true) (ws : List Jvm.Cond) (q1 : Int64) (q2 : Int64) (h0 : Heap) (n0 : Nat) (Z0 : n0 ≤ h0.size)  :
    MetFree l (⟨"com/example/saar/saar/core/search/Statistics", "add", "(JJ)J"⟩ : MethodName) (head1 (Jvm.Cond.code (⟨"com/example/saar/saar/core/search/Statistics", "add", "(JJ)J"⟩ : MethodName) prog_43_method_11_code 4 (some .long) :: ws) own_RA) (fun aa__ U => aa__ = #[(.long q1), (.long q2)] ∧ Z.Warmed39 U.vm ∧ U.heap = h0) (fun _ _ _ _ _ => True) (fun _ U oc_ U' => ∃ rv__ rL__, oc_ = .returned rv__ ∧ own_QA Z q1 q2 h0 n0 rv__ U'.heap rL__ ∧ FrameEnd U oc_ U' rL__ own_RA.cells own_RA.slots) := by
  refine MetFree.of_bodySF (plainFor_of_name own_pn_com_example_saar_saar_core_search_Statistics) hisR ?_
  intro p e s m args below meth c s₁ Bd hml0 hP hK
  obtain ⟨rfl, hZ, hh⟩ := hP
  have hx := Bd.exec
  have hby := Bd.bytes
  have hml : c.maxLocals = 4 := hml0
  have hown : s.vm.findClass "com/example/saar/saar/core/search/Statistics" = some m.cls := findClass_of_methodNamed Bd.named
  have hnm := (name_of_methodNamed Bd.named Bd.method).1
  have X0 : Stand p l e own_RA s m #[(.long q1), (.long q2)] below meth c s₁ [] 0 0 := Stand.of_body Bd
  have e0 : s₁.heap = h0 := by rw [← hh, Bd.state]; rfl
  have N0 := Fr.nil n0
  refine own_in (fun _ k => castTop (own_efA m q1 q2) k) ?_
  intro RR hRR
  show own_Go p.tables e below RR (s₁.setTop (mkF m 0 #[.val (.long q1), .second, .val (.long q2), .second] []))
  refine own_st (fun _ k => XS.lloadN X0.here hx rfl (hb hby own_dprog_43_method_11_code_0) rfl (X0.ldc2Long hx hown (mvT hZ (hw _ (List.mem_of_getElem? (i := 5) rfl))) (g := (mkF m 1 #[.val (.long q1), .second, .val (.long q2), .second] [(.long q1)])) rfl (hb hby own_dprog_43_method_11_code_1) _ (XS.lloadN X0.here hx rfl (hb hby own_dprog_43_method_11_code_4) rfl (XS.lsub X0.here hx rfl (hb hby own_dprog_43_method_11_code_5) rfl (XS.lcmp X0.here hx rfl (hb hby own_dprog_43_method_11_code_6) rfl k))))) ?_
  show own_Go p.tables e below RR (s₁.setTop (mkF m 7 #[.val (.long q1), .second, .val (.long q2), .second] [(.int (lcmpW q1 ((9223372036854775807 : Int64) - q2)))]))
  by_cases hc7_1 : ((9223372036854775807 : Int64) - q2) < q1
  · refine own_st (fun _ k => XS.ifNo X0.here hx rfl (hb hby own_dprog_43_method_11_code_7) rfl ((if0 _ _).trans (tlt ((lw_gt _ _).mpr hc7_1)).2.2.2) (X0.ldc2Long hx hown (mvT hZ (hw _ (List.mem_of_getElem? (i := 5) rfl))) (g := (mkF m 10 #[.val (.long q1), .second, .val (.long q2), .second] [])) rfl (hb hby own_dprog_43_method_11_code_10) _ (XS.goto X0.here hx rfl (pc0 := 13) (pc' := 19) rfl (hb hby own_dprog_43_method_11_code_13) (by decide) (by decide) k))) ?_
    show own_Go p.tables e below RR (s₁.setTop (mkF m 19 #[.val (.long q1), .second, .val (.long q2), .second] [(.long (9223372036854775807 : Int64))]))
    obtain ⟨fs, hrt_, hrun, hended, hW, hsame⟩ := X0.leave (v := some (.long (9223372036854775807 : Int64))) (fun h => by rw [Bd.returns] at h; cases h)
    refine own_fin (retOut X0 hx Bd.returns rfl (Or.inr (Or.inl ⟨rfl, rfl, _, rfl⟩)) (hb hby own_dprog_43_method_11_code_19) hrt_) (hRR _ ⟨_, hrun, hended, _, _, rfl, ?_, ⟨_, rfl⟩, hW, hsame.mono (by decide) (by decide)⟩)
    show own_QA Z q1 q2 h0 n0 _ s₁.heap _
    rw [e0]
    exact ⟨own_rj (by simp only [own_add, hc7_1, if_true, if_false]), N0, rfl⟩
  · refine own_st (fun _ k => XS.ifYes X0.here hx rfl (pc0 := 7) (pc' := 16) rfl (hb hby own_dprog_43_method_11_code_7) rfl ((if0 _ _).trans (flt (fun q => hc7_1 ((lw_gt _ _).mp q))).2.2.2) (by decide) (by decide) (XS.lloadN X0.here hx rfl (hb hby own_dprog_43_method_11_code_16) rfl (XS.lloadN X0.here hx rfl (hb hby own_dprog_43_method_11_code_17) rfl (XS.ladd X0.here hx rfl (hb hby own_dprog_43_method_11_code_18) rfl k)))) ?_
    show own_Go p.tables e below RR (s₁.setTop (mkF m 19 #[.val (.long q1), .second, .val (.long q2), .second] [(.long (q1 + q2))]))
    obtain ⟨fs, hrt_, hrun, hended, hW, hsame⟩ := X0.leave (v := some (.long (q1 + q2))) (fun h => by rw [Bd.returns] at h; cases h)
    refine own_fin (retOut X0 hx Bd.returns rfl (Or.inr (Or.inl ⟨rfl, rfl, _, rfl⟩)) (hb hby own_dprog_43_method_11_code_19) hrt_) (hRR _ ⟨_, hrun, hended, _, _, rfl, ?_, ⟨_, rfl⟩, hW, hsame.mono (by decide) (by decide)⟩)
    show own_QA Z q1 q2 h0 n0 _ s₁.heap _
    rw [e0]
    exact ⟨own_rj (by simp only [own_add, hc7_1, if_true, if_false]), N0, rfl⟩
theorem own_pn_com_example_saar_saar_core_search_StatisticsAddPinLaw : plainName "com/example/saar/saar/core/search/StatisticsAddPinLaw" = true := by first | (simp [plainName, overriddenIn]; done) | decide +kernel
theorem own_pd__JJ_J : parseMethodDescriptor "(JJ)J" = some ⟨[.long, .long], some .long⟩ := by decide +kernel
theorem own_ef0 (m : MethodId) (q1 : Int64) (q2 : Int64) (p3 : Int32) : entryFrame m #[(.long q1), (.long q2), (.int p3)] maxLocals = mkF m 0 #[.val (.long q1), .second, .val (.long q2), .second, .val (.int p3), .unset, .unset, .unset, .unset, .unset, .unset, .unset, .unset, .unset, .unset] [] := by first | (simp [entryFrame, mkF, argsToLocals, Value.category, maxLocals]; done) | rfl
def own_Q0 (Z : State) (q1 : Int64) (q2 : Int64) (p3 : Int32) (h0 : Heap) (n0 : Nat) (rv__ : Option Value) (h : Heap) (rL__ : List Loc) : Prop := rv__ = some (.int 1) ∧ Fr n0 rL__
set_option maxRecDepth 65536 in
set_option maxHeartbeats 40000000 in
theorem own_rm0 (l : Launch) (Z : State) (a0 : Array Value) (hw : ∀ d ∈ tables_1, d.before a0 Z = true) (ws : List Jvm.Cond) (q1 : Int64) (q2 : Int64) (p3 : Int32) (h0 : Heap) (n0 : Nat) (Z0 : n0 ≤ h0.size)  :
    MetFree l x (head1 (Jvm.Cond.code x code maxLocals ret :: ws) room_1) (fun aa__ U => aa__ = #[(.long q1), (.long q2), (.int p3)] ∧ Z.Warmed39 U.vm ∧ U.heap = h0) (fun _ _ _ _ _ => True) (fun _ U oc_ U' => ∃ rv__ rL__, oc_ = .returned rv__ ∧ own_Q0 Z q1 q2 p3 h0 n0 rv__ U'.heap rL__ ∧ FrameEnd U oc_ U' rL__ room_1.cells room_1.slots) := by
  refine MetFree.of_bodySF (plainFor_of_name own_pn_com_example_saar_saar_core_search_StatisticsAddPinLaw) hisR ?_
  intro p e s m args below meth c s₁ Bd hml0 hP hK
  obtain ⟨rfl, hZ, hh⟩ := hP
  have hx := Bd.exec
  have hby := Bd.bytes
  have hml : c.maxLocals = 15 := hml0
  have hown : s.vm.findClass "com/example/saar/saar/core/search/StatisticsAddPinLaw" = some m.cls := findClass_of_methodNamed Bd.named
  have hnm := (name_of_methodNamed Bd.named Bd.method).1
  have X0 : Stand p l e room_1 s m #[(.long q1), (.long q2), (.int p3)] below meth c s₁ [] 0 0 := Stand.of_body Bd
  have e0 : s₁.heap = h0 := by rw [← hh, Bd.state]; rfl
  have N0 := Fr.nil n0
  refine own_in (fun _ k => castTop (own_ef0 m q1 q2 p3) k) ?_
  intro RR hRR
  show own_Go p.tables e below RR (s₁.setTop (mkF m 0 #[.val (.long q1), .second, .val (.long q2), .second, .val (.int p3), .unset, .unset, .unset, .unset, .unset, .unset, .unset, .unset, .unset, .unset] []))
  refine own_st (fun _ k => XS.lloadN X0.here hx rfl (hb hby at_0) rfl (X0.ldc2Long hx hown (mvT hZ (hw _ (List.mem_of_getElem? (i := 0) rfl))) (g := (mkF m 1 #[.val (.long q1), .second, .val (.long q2), .second, .val (.int p3), .unset, .unset, .unset, .unset, .unset, .unset, .unset, .unset, .unset, .unset] [(.long q1)])) rfl (hb hby at_1) _ (XS.land X0.here hx rfl (hb hby at_4) rfl k))) ?_
  show own_Go p.tables e below RR (s₁.setTop (mkF m 5 #[.val (.long q1), .second, .val (.long q2), .second, .val (.int p3), .unset, .unset, .unset, .unset, .unset, .unset, .unset, .unset, .unset, .unset] [(.long (q1 &&& (9223372036854775807 : Int64)))]))
  generalize gv1 : (q1 &&& (9223372036854775807 : Int64)) = v1
  show own_Go p.tables e below RR (s₁.setTop (mkF m 5 #[.val (.long q1), .second, .val (.long q2), .second, .val (.int p3), .unset, .unset, .unset, .unset, .unset, .unset, .unset, .unset, .unset, .unset] [(.long v1)]))
  refine own_st (fun _ k => XS.lstore X0.here hx rfl (hb hby at_5) rfl (l' := #[.val (.long q1), .second, .val (.long q2), .second, .val (.int p3), .val (.long v1), .second, .unset, .unset, .unset, .unset, .unset, .unset, .unset, .unset]) rfl (XS.iload X0.here hx rfl (hb hby at_7) rfl (XS.iconst X0.here hx rfl (hb hby at_9) (XS.iand X0.here hx rfl (hb hby at_10) rfl k)))) ?_
  show own_Go p.tables e below RR (s₁.setTop (mkF m 11 #[.val (.long q1), .second, .val (.long q2), .second, .val (.int p3), .val (.long v1), .second, .unset, .unset, .unset, .unset, .unset, .unset, .unset, .unset] [(.int (p3 &&& (1 : Int32)))]))
  by_cases hc11_2 : (p3 &&& (1 : Int32)) = (0 : Int32)
  · refine own_st (fun _ k => XS.ifNo X0.here hx rfl (hb hby at_11) rfl ((if0 _ _).trans (teq hc11_2).2) (XS.lloadN X0.here hx rfl (hb hby at_14) rfl (X0.ldc2Long hx hown (mvT hZ (hw _ (List.mem_of_getElem? (i := 0) rfl))) (g := (mkF m 15 #[.val (.long q1), .second, .val (.long q2), .second, .val (.int p3), .val (.long v1), .second, .unset, .unset, .unset, .unset, .unset, .unset, .unset, .unset] [(.long q2)])) rfl (hb hby at_15) _ (XS.land X0.here hx rfl (hb hby at_18) rfl k)))) ?_
    show own_Go p.tables e below RR (s₁.setTop (mkF m 19 #[.val (.long q1), .second, .val (.long q2), .second, .val (.int p3), .val (.long v1), .second, .unset, .unset, .unset, .unset, .unset, .unset, .unset, .unset] [(.long (q2 &&& (9223372036854775807 : Int64)))]))
    generalize gv3 : (q2 &&& (9223372036854775807 : Int64)) = v3
    show own_Go p.tables e below RR (s₁.setTop (mkF m 19 #[.val (.long q1), .second, .val (.long q2), .second, .val (.int p3), .val (.long v1), .second, .unset, .unset, .unset, .unset, .unset, .unset, .unset, .unset] [(.long v3)]))
    refine own_st (fun _ k => XS.lstore X0.here hx rfl (hb hby at_19) rfl (l' := #[.val (.long q1), .second, .val (.long q2), .second, .val (.int p3), .val (.long v1), .second, .val (.long v3), .second, .unset, .unset, .unset, .unset, .unset, .unset]) rfl (XS.goto X0.here hx rfl (pc0 := 21) (pc' := 50) rfl (hb hby at_21) (by decide) (by decide) (XS.lload X0.here hx rfl (hb hby at_50) rfl (XS.lload X0.here hx rfl (hb hby at_52) rfl k)))) ?_
    show own_Go p.tables e below RR (s₁.setTop (mkF m 54 #[.val (.long q1), .second, .val (.long q2), .second, .val (.int p3), .val (.long v1), .second, .val (.long v3), .second, .unset, .unset, .unset, .unset, .unset, .unset] [(.long v3), (.long v1)]))
    obtain ⟨_, _, ⟨T4, L4, k4, n4⟩, -, X4, ⟨Lc4, hQ4, l4, y4, z4⟩, st4⟩ := Jvm.LawKit.callS X0 hx (y := (⟨"com/example/saar/saar/core/search/Statistics", "add", "(JJ)J"⟩ : MethodName)) hown (mvT hZ (hw _ (List.mem_of_getElem? (i := 1) rfl))) (mvT hZ (hw _ (List.mem_of_getElem? (i := 2) rfl))) (mvT hZ (hw _ (List.mem_of_getElem? (i := 3) rfl))) (mvT hZ (hw _ (List.mem_of_getElem? (i := 4) rfl))) (by decide) (backOf (W := 0) (own_rmA l Z a0 hw [] v1 v3 h0 n0 Z0 ) hZ (hw _ (List.mem_of_getElem? (i := 4) rfl)) (hw _ (List.mem_of_getElem? (i := 3) rfl)) (by decide) (by decide)) (g := (mkF m 54 #[.val (.long q1), .second, .val (.long q2), .second, .val (.int p3), .val (.long v1), .second, .val (.long v3), .second, .unset, .unset, .unset, .unset, .unset, .unset] [(.long v3), (.long v1)])) rfl (by rw [hml]; rfl) (argsL := [(.long v1), (.long v3)]) (rest := []) (lenOf own_pd__JJ_J rfl) rfl (by show 2 * 0 + _ ≤ _; exact Nat.le_of_eq rfl) (hb hby at_54) (fun _ _ => ⟨rfl, e0, (by decide : 0 + 0 ≤ _), (by decide : 0 + 0 ≤ _)⟩)
    dsimp only [Pt.U, Pt.locs, Pt.cells, Pt.slots] at X4 l4 y4 z4 st4 hQ4
    subst l4 y4 z4
    obtain ⟨rfl, Nq4, eq4⟩ := hQ4
    have N4 := Fr.app N0 Nq4
    refine own_st st4 ?_
    show own_Go p.tables e below RR (T4.setTop (mkF m 57 #[.val (.long q1), .second, .val (.long q2), .second, .val (.int p3), .val (.long v1), .second, .val (.long v3), .second, .unset, .unset, .unset, .unset, .unset, .unset] [(.long (own_add v1 v3))]))
    refine own_st (fun _ k => XS.lstore X4.here hx rfl (hb hby at_57) rfl (l' := #[.val (.long q1), .second, .val (.long q2), .second, .val (.int p3), .val (.long v1), .second, .val (.long v3), .second, .val (.long (own_add v1 v3)), .second, .unset, .unset, .unset, .unset]) rfl (XS.lload X4.here hx rfl (hb hby at_59) rfl (XS.lload X4.here hx rfl (hb hby at_61) rfl (XS.ladd X4.here hx rfl (hb hby at_63) rfl (XS.lstore X4.here hx rfl (hb hby at_64) rfl (l' := #[.val (.long q1), .second, .val (.long q2), .second, .val (.int p3), .val (.long v1), .second, .val (.long v3), .second, .val (.long (own_add v1 v3)), .second, .val (.long (v1 + v3)), .second, .unset, .unset]) rfl (XS.lload X4.here hx rfl (hb hby at_66) rfl (XS.lconst X4.here hx rfl (hb hby at_68) (XS.lcmp X4.here hx rfl (hb hby at_69) rfl k)))))))) ?_
    show own_Go p.tables e below RR (T4.setTop (mkF m 70 #[.val (.long q1), .second, .val (.long q2), .second, .val (.int p3), .val (.long v1), .second, .val (.long v3), .second, .val (.long (own_add v1 v3)), .second, .val (.long (v1 + v3)), .second, .unset, .unset] [(.int (lcmpW (v1 + v3) (0 : Int64)))]))
    by_cases hc70_5 : (v1 + v3) < (0 : Int64)
    · refine own_st (fun _ k => XS.ifNo X4.here hx rfl (hb hby at_70) rfl ((if0 _ _).trans (tlt ((lw_lt _ _).mpr hc70_5)).2.1) (X4.ldc2Long hx hown (mvT hZ (hw _ (List.mem_of_getElem? (i := 0) rfl))) (g := (mkF m 73 #[.val (.long q1), .second, .val (.long q2), .second, .val (.int p3), .val (.long v1), .second, .val (.long v3), .second, .val (.long (own_add v1 v3)), .second, .val (.long (v1 + v3)), .second, .unset, .unset] [])) rfl (hb hby at_73) _ (XS.goto X4.here hx rfl (pc0 := 76) (pc' := 81) rfl (hb hby at_76) (by decide) (by decide) (XS.lstore X4.here hx rfl (hb hby at_81) rfl (l' := #[.val (.long q1), .second, .val (.long q2), .second, .val (.int p3), .val (.long v1), .second, .val (.long v3), .second, .val (.long (own_add v1 v3)), .second, .val (.long (v1 + v3)), .second, .val (.long (9223372036854775807 : Int64)), .second]) rfl (XS.lload X4.here hx rfl (hb hby at_83) rfl (XS.lload X4.here hx rfl (hb hby at_85) rfl (XS.lcmp X4.here hx rfl (hb hby at_87) rfl k))))))) ?_
      show own_Go p.tables e below RR (T4.setTop (mkF m 88 #[.val (.long q1), .second, .val (.long q2), .second, .val (.int p3), .val (.long v1), .second, .val (.long v3), .second, .val (.long (own_add v1 v3)), .second, .val (.long (v1 + v3)), .second, .val (.long (9223372036854775807 : Int64)), .second] [(.int (lcmpW (own_add v1 v3) (9223372036854775807 : Int64)))]))
      have hc88_6 : (own_add v1 v3) = (9223372036854775807 : Int64) := by rw [own_law (own_nn gv1) (own_nn gv3)]; simp only [hc70_5, if_true, if_false]
      refine own_st (fun _ k => XS.ifNo X4.here hx rfl (hb hby at_88) rfl ((if0 _ _).trans (teq ((lw_eq _ _).mpr hc88_6)).2) (XS.iconst X4.here hx rfl (hb hby at_91) (XS.goto X4.here hx rfl (pc0 := 92) (pc' := 96) rfl (hb hby at_92) (by decide) (by decide) k))) ?_
      show own_Go p.tables e below RR (T4.setTop (mkF m 96 #[.val (.long q1), .second, .val (.long q2), .second, .val (.int p3), .val (.long v1), .second, .val (.long v3), .second, .val (.long (own_add v1 v3)), .second, .val (.long (v1 + v3)), .second, .val (.long (9223372036854775807 : Int64)), .second] [(.int (1 : Int32))]))
      obtain ⟨fs, hrt_, hrun, hended, hW, hsame⟩ := X4.leave (v := some (.int (1 : Int32))) (fun h => by rw [Bd.returns] at h; cases h)
      refine own_fin (retN X4 hx (t := .boolean) Bd.returns (by simp) (hb hby at_96) hrt_) (hRR _ ⟨_, hrun, hended, _, _, rfl, ?_, ⟨_, rfl⟩, hW, hsame.mono (by decide) (by decide)⟩)
      show own_Q0 Z q1 q2 p3 h0 n0 _ T4.heap _
      rw [eq4]
      exact ⟨rfl, N4⟩
    · refine own_st (fun _ k => XS.ifYes X4.here hx rfl (pc0 := 70) (pc' := 79) rfl (hb hby at_70) rfl ((if0 _ _).trans (flt (fun q => hc70_5 ((lw_lt _ _).mp q))).2.1) (by decide) (by decide) (XS.lload X4.here hx rfl (hb hby at_79) rfl (XS.lstore X4.here hx rfl (hb hby at_81) rfl (l' := #[.val (.long q1), .second, .val (.long q2), .second, .val (.int p3), .val (.long v1), .second, .val (.long v3), .second, .val (.long (own_add v1 v3)), .second, .val (.long (v1 + v3)), .second, .val (.long (v1 + v3)), .second]) rfl (XS.lload X4.here hx rfl (hb hby at_83) rfl (XS.lload X4.here hx rfl (hb hby at_85) rfl (XS.lcmp X4.here hx rfl (hb hby at_87) rfl k)))))) ?_
      show own_Go p.tables e below RR (T4.setTop (mkF m 88 #[.val (.long q1), .second, .val (.long q2), .second, .val (.int p3), .val (.long v1), .second, .val (.long v3), .second, .val (.long (own_add v1 v3)), .second, .val (.long (v1 + v3)), .second, .val (.long (v1 + v3)), .second] [(.int (lcmpW (own_add v1 v3) (v1 + v3)))]))
      have hc88_7 : (own_add v1 v3) = (v1 + v3) := by rw [own_law (own_nn gv1) (own_nn gv3)]; simp only [hc70_5, if_true, if_false]
      refine own_st (fun _ k => XS.ifNo X4.here hx rfl (hb hby at_88) rfl ((if0 _ _).trans (teq ((lw_eq _ _).mpr hc88_7)).2) (XS.iconst X4.here hx rfl (hb hby at_91) (XS.goto X4.here hx rfl (pc0 := 92) (pc' := 96) rfl (hb hby at_92) (by decide) (by decide) k))) ?_
      show own_Go p.tables e below RR (T4.setTop (mkF m 96 #[.val (.long q1), .second, .val (.long q2), .second, .val (.int p3), .val (.long v1), .second, .val (.long v3), .second, .val (.long (own_add v1 v3)), .second, .val (.long (v1 + v3)), .second, .val (.long (v1 + v3)), .second] [(.int (1 : Int32))]))
      obtain ⟨fs, hrt_, hrun, hended, hW, hsame⟩ := X4.leave (v := some (.int (1 : Int32))) (fun h => by rw [Bd.returns] at h; cases h)
      refine own_fin (retN X4 hx (t := .boolean) Bd.returns (by simp) (hb hby at_96) hrt_) (hRR _ ⟨_, hrun, hended, _, _, rfl, ?_, ⟨_, rfl⟩, hW, hsame.mono (by decide) (by decide)⟩)
      show own_Q0 Z q1 q2 p3 h0 n0 _ T4.heap _
      rw [eq4]
      exact ⟨rfl, N4⟩
  · refine own_st (fun _ k => XS.ifYes X0.here hx rfl (pc0 := 11) (pc' := 24) rfl (hb hby at_11) rfl ((if0 _ _).trans (feq hc11_2).2) (by decide) (by decide) (XS.iload X0.here hx rfl (hb hby at_24) rfl (XS.iconst X0.here hx rfl (hb hby at_26) (XS.ishr X0.here hx rfl (hb hby at_27) rfl (XS.iconst X0.here hx rfl (hb hby at_28) (XS.iand X0.here hx rfl (hb hby at_29) rfl k)))))) ?_
    show own_Go p.tables e below RR (s₁.setTop (mkF m 30 #[.val (.long q1), .second, .val (.long q2), .second, .val (.int p3), .val (.long v1), .second, .unset, .unset, .unset, .unset, .unset, .unset, .unset, .unset] [(.int ((p3 >>> ((1 : Int32) &&& 31)) &&& (3 : Int32)))]))
    generalize gv8 : ((p3 >>> ((1 : Int32) &&& 31)) &&& (3 : Int32)) = v8
    show own_Go p.tables e below RR (s₁.setTop (mkF m 30 #[.val (.long q1), .second, .val (.long q2), .second, .val (.int p3), .val (.long v1), .second, .unset, .unset, .unset, .unset, .unset, .unset, .unset, .unset] [(.int v8)]))
    refine own_st (fun _ k => XS.iconst X0.here hx rfl (hb hby at_30) (XS.isub X0.here hx rfl (hb hby at_31) rfl (XS.i2l X0.here hx rfl (hb hby at_32) rfl (XS.lstore X0.here hx rfl (hb hby at_33) rfl (l' := #[.val (.long q1), .second, .val (.long q2), .second, .val (.int p3), .val (.long v1), .second, .unset, .unset, .val (.long ((v8 - (1 : Int32)).toInt64)), .second, .unset, .unset, .unset, .unset]) rfl (X0.ldc2Long hx hown (mvT hZ (hw _ (List.mem_of_getElem? (i := 0) rfl))) (g := (mkF m 35 #[.val (.long q1), .second, .val (.long q2), .second, .val (.int p3), .val (.long v1), .second, .unset, .unset, .val (.long ((v8 - (1 : Int32)).toInt64)), .second, .unset, .unset, .unset, .unset] [])) rfl (hb hby at_35) _ (XS.lload X0.here hx rfl (hb hby at_38) rfl (XS.lsub X0.here hx rfl (hb hby at_40) rfl k))))))) ?_
    show own_Go p.tables e below RR (s₁.setTop (mkF m 41 #[.val (.long q1), .second, .val (.long q2), .second, .val (.int p3), .val (.long v1), .second, .unset, .unset, .val (.long ((v8 - (1 : Int32)).toInt64)), .second, .unset, .unset, .unset, .unset] [(.long ((9223372036854775807 : Int64) - v1))]))
    generalize gv9 : ((9223372036854775807 : Int64) - v1) = v9
    show own_Go p.tables e below RR (s₁.setTop (mkF m 41 #[.val (.long q1), .second, .val (.long q2), .second, .val (.int p3), .val (.long v1), .second, .unset, .unset, .val (.long ((v8 - (1 : Int32)).toInt64)), .second, .unset, .unset, .unset, .unset] [(.long v9)]))
    refine own_st (fun _ k => XS.lload X0.here hx rfl (hb hby at_41) rfl (XS.ladd X0.here hx rfl (hb hby at_43) rfl k)) ?_
    show own_Go p.tables e below RR (s₁.setTop (mkF m 44 #[.val (.long q1), .second, .val (.long q2), .second, .val (.int p3), .val (.long v1), .second, .unset, .unset, .val (.long ((v8 - (1 : Int32)).toInt64)), .second, .unset, .unset, .unset, .unset] [(.long (v9 + ((v8 - (1 : Int32)).toInt64)))]))
    generalize gv10 : (v9 + ((v8 - (1 : Int32)).toInt64)) = v10
    show own_Go p.tables e below RR (s₁.setTop (mkF m 44 #[.val (.long q1), .second, .val (.long q2), .second, .val (.int p3), .val (.long v1), .second, .unset, .unset, .val (.long ((v8 - (1 : Int32)).toInt64)), .second, .unset, .unset, .unset, .unset] [(.long v10)]))
    refine own_st (fun _ k => X0.ldc2Long hx hown (mvT hZ (hw _ (List.mem_of_getElem? (i := 0) rfl))) (g := (mkF m 44 #[.val (.long q1), .second, .val (.long q2), .second, .val (.int p3), .val (.long v1), .second, .unset, .unset, .val (.long ((v8 - (1 : Int32)).toInt64)), .second, .unset, .unset, .unset, .unset] [(.long v10)])) rfl (hb hby at_44) _ (XS.land X0.here hx rfl (hb hby at_47) rfl k)) ?_
    show own_Go p.tables e below RR (s₁.setTop (mkF m 48 #[.val (.long q1), .second, .val (.long q2), .second, .val (.int p3), .val (.long v1), .second, .unset, .unset, .val (.long ((v8 - (1 : Int32)).toInt64)), .second, .unset, .unset, .unset, .unset] [(.long (v10 &&& (9223372036854775807 : Int64)))]))
    generalize gv11 : (v10 &&& (9223372036854775807 : Int64)) = v11
    show own_Go p.tables e below RR (s₁.setTop (mkF m 48 #[.val (.long q1), .second, .val (.long q2), .second, .val (.int p3), .val (.long v1), .second, .unset, .unset, .val (.long ((v8 - (1 : Int32)).toInt64)), .second, .unset, .unset, .unset, .unset] [(.long v11)]))
    refine own_st (fun _ k => XS.lstore X0.here hx rfl (hb hby at_48) rfl (l' := #[.val (.long q1), .second, .val (.long q2), .second, .val (.int p3), .val (.long v1), .second, .val (.long v11), .second, .val (.long ((v8 - (1 : Int32)).toInt64)), .second, .unset, .unset, .unset, .unset]) rfl (XS.lload X0.here hx rfl (hb hby at_50) rfl (XS.lload X0.here hx rfl (hb hby at_52) rfl k))) ?_
    show own_Go p.tables e below RR (s₁.setTop (mkF m 54 #[.val (.long q1), .second, .val (.long q2), .second, .val (.int p3), .val (.long v1), .second, .val (.long v11), .second, .val (.long ((v8 - (1 : Int32)).toInt64)), .second, .unset, .unset, .unset, .unset] [(.long v11), (.long v1)]))
    obtain ⟨_, _, ⟨T12, L12, k12, n12⟩, -, X12, ⟨Lc12, hQ12, l12, y12, z12⟩, st12⟩ := Jvm.LawKit.callS X0 hx (y := (⟨"com/example/saar/saar/core/search/Statistics", "add", "(JJ)J"⟩ : MethodName)) hown (mvT hZ (hw _ (List.mem_of_getElem? (i := 1) rfl))) (mvT hZ (hw _ (List.mem_of_getElem? (i := 2) rfl))) (mvT hZ (hw _ (List.mem_of_getElem? (i := 3) rfl))) (mvT hZ (hw _ (List.mem_of_getElem? (i := 4) rfl))) (by decide) (backOf (W := 0) (own_rmA l Z a0 hw [] v1 v11 h0 n0 Z0 ) hZ (hw _ (List.mem_of_getElem? (i := 4) rfl)) (hw _ (List.mem_of_getElem? (i := 3) rfl)) (by decide) (by decide)) (g := (mkF m 54 #[.val (.long q1), .second, .val (.long q2), .second, .val (.int p3), .val (.long v1), .second, .val (.long v11), .second, .val (.long ((v8 - (1 : Int32)).toInt64)), .second, .unset, .unset, .unset, .unset] [(.long v11), (.long v1)])) rfl (by rw [hml]; rfl) (argsL := [(.long v1), (.long v11)]) (rest := []) (lenOf own_pd__JJ_J rfl) rfl (by show 2 * 0 + _ ≤ _; exact Nat.le_of_eq rfl) (hb hby at_54) (fun _ _ => ⟨rfl, e0, (by decide : 0 + 0 ≤ _), (by decide : 0 + 0 ≤ _)⟩)
    dsimp only [Pt.U, Pt.locs, Pt.cells, Pt.slots] at X12 l12 y12 z12 st12 hQ12
    subst l12 y12 z12
    obtain ⟨rfl, Nq12, eq12⟩ := hQ12
    have N12 := Fr.app N0 Nq12
    refine own_st st12 ?_
    show own_Go p.tables e below RR (T12.setTop (mkF m 57 #[.val (.long q1), .second, .val (.long q2), .second, .val (.int p3), .val (.long v1), .second, .val (.long v11), .second, .val (.long ((v8 - (1 : Int32)).toInt64)), .second, .unset, .unset, .unset, .unset] [(.long (own_add v1 v11))]))
    refine own_st (fun _ k => XS.lstore X12.here hx rfl (hb hby at_57) rfl (l' := #[.val (.long q1), .second, .val (.long q2), .second, .val (.int p3), .val (.long v1), .second, .val (.long v11), .second, .val (.long (own_add v1 v11)), .second, .unset, .unset, .unset, .unset]) rfl (XS.lload X12.here hx rfl (hb hby at_59) rfl (XS.lload X12.here hx rfl (hb hby at_61) rfl (XS.ladd X12.here hx rfl (hb hby at_63) rfl (XS.lstore X12.here hx rfl (hb hby at_64) rfl (l' := #[.val (.long q1), .second, .val (.long q2), .second, .val (.int p3), .val (.long v1), .second, .val (.long v11), .second, .val (.long (own_add v1 v11)), .second, .val (.long (v1 + v11)), .second, .unset, .unset]) rfl (XS.lload X12.here hx rfl (hb hby at_66) rfl (XS.lconst X12.here hx rfl (hb hby at_68) (XS.lcmp X12.here hx rfl (hb hby at_69) rfl k)))))))) ?_
    show own_Go p.tables e below RR (T12.setTop (mkF m 70 #[.val (.long q1), .second, .val (.long q2), .second, .val (.int p3), .val (.long v1), .second, .val (.long v11), .second, .val (.long (own_add v1 v11)), .second, .val (.long (v1 + v11)), .second, .unset, .unset] [(.int (lcmpW (v1 + v11) (0 : Int64)))]))
    by_cases hc70_13 : (v1 + v11) < (0 : Int64)
    · refine own_st (fun _ k => XS.ifNo X12.here hx rfl (hb hby at_70) rfl ((if0 _ _).trans (tlt ((lw_lt _ _).mpr hc70_13)).2.1) (X12.ldc2Long hx hown (mvT hZ (hw _ (List.mem_of_getElem? (i := 0) rfl))) (g := (mkF m 73 #[.val (.long q1), .second, .val (.long q2), .second, .val (.int p3), .val (.long v1), .second, .val (.long v11), .second, .val (.long (own_add v1 v11)), .second, .val (.long (v1 + v11)), .second, .unset, .unset] [])) rfl (hb hby at_73) _ (XS.goto X12.here hx rfl (pc0 := 76) (pc' := 81) rfl (hb hby at_76) (by decide) (by decide) (XS.lstore X12.here hx rfl (hb hby at_81) rfl (l' := #[.val (.long q1), .second, .val (.long q2), .second, .val (.int p3), .val (.long v1), .second, .val (.long v11), .second, .val (.long (own_add v1 v11)), .second, .val (.long (v1 + v11)), .second, .val (.long (9223372036854775807 : Int64)), .second]) rfl (XS.lload X12.here hx rfl (hb hby at_83) rfl (XS.lload X12.here hx rfl (hb hby at_85) rfl (XS.lcmp X12.here hx rfl (hb hby at_87) rfl k))))))) ?_
      show own_Go p.tables e below RR (T12.setTop (mkF m 88 #[.val (.long q1), .second, .val (.long q2), .second, .val (.int p3), .val (.long v1), .second, .val (.long v11), .second, .val (.long (own_add v1 v11)), .second, .val (.long (v1 + v11)), .second, .val (.long (9223372036854775807 : Int64)), .second] [(.int (lcmpW (own_add v1 v11) (9223372036854775807 : Int64)))]))
      have hc88_14 : (own_add v1 v11) = (9223372036854775807 : Int64) := by rw [own_law (own_nn gv1) (own_nn gv11)]; simp only [hc70_13, if_true, if_false]
      refine own_st (fun _ k => XS.ifNo X12.here hx rfl (hb hby at_88) rfl ((if0 _ _).trans (teq ((lw_eq _ _).mpr hc88_14)).2) (XS.iconst X12.here hx rfl (hb hby at_91) (XS.goto X12.here hx rfl (pc0 := 92) (pc' := 96) rfl (hb hby at_92) (by decide) (by decide) k))) ?_
      show own_Go p.tables e below RR (T12.setTop (mkF m 96 #[.val (.long q1), .second, .val (.long q2), .second, .val (.int p3), .val (.long v1), .second, .val (.long v11), .second, .val (.long (own_add v1 v11)), .second, .val (.long (v1 + v11)), .second, .val (.long (9223372036854775807 : Int64)), .second] [(.int (1 : Int32))]))
      obtain ⟨fs, hrt_, hrun, hended, hW, hsame⟩ := X12.leave (v := some (.int (1 : Int32))) (fun h => by rw [Bd.returns] at h; cases h)
      refine own_fin (retN X12 hx (t := .boolean) Bd.returns (by simp) (hb hby at_96) hrt_) (hRR _ ⟨_, hrun, hended, _, _, rfl, ?_, ⟨_, rfl⟩, hW, hsame.mono (by decide) (by decide)⟩)
      show own_Q0 Z q1 q2 p3 h0 n0 _ T12.heap _
      rw [eq12]
      exact ⟨rfl, N12⟩
    · refine own_st (fun _ k => XS.ifYes X12.here hx rfl (pc0 := 70) (pc' := 79) rfl (hb hby at_70) rfl ((if0 _ _).trans (flt (fun q => hc70_13 ((lw_lt _ _).mp q))).2.1) (by decide) (by decide) (XS.lload X12.here hx rfl (hb hby at_79) rfl (XS.lstore X12.here hx rfl (hb hby at_81) rfl (l' := #[.val (.long q1), .second, .val (.long q2), .second, .val (.int p3), .val (.long v1), .second, .val (.long v11), .second, .val (.long (own_add v1 v11)), .second, .val (.long (v1 + v11)), .second, .val (.long (v1 + v11)), .second]) rfl (XS.lload X12.here hx rfl (hb hby at_83) rfl (XS.lload X12.here hx rfl (hb hby at_85) rfl (XS.lcmp X12.here hx rfl (hb hby at_87) rfl k)))))) ?_
      show own_Go p.tables e below RR (T12.setTop (mkF m 88 #[.val (.long q1), .second, .val (.long q2), .second, .val (.int p3), .val (.long v1), .second, .val (.long v11), .second, .val (.long (own_add v1 v11)), .second, .val (.long (v1 + v11)), .second, .val (.long (v1 + v11)), .second] [(.int (lcmpW (own_add v1 v11) (v1 + v11)))]))
      have hc88_15 : (own_add v1 v11) = (v1 + v11) := by rw [own_law (own_nn gv1) (own_nn gv11)]; simp only [hc70_13, if_true, if_false]
      refine own_st (fun _ k => XS.ifNo X12.here hx rfl (hb hby at_88) rfl ((if0 _ _).trans (teq ((lw_eq _ _).mpr hc88_15)).2) (XS.iconst X12.here hx rfl (hb hby at_91) (XS.goto X12.here hx rfl (pc0 := 92) (pc' := 96) rfl (hb hby at_92) (by decide) (by decide) k))) ?_
      show own_Go p.tables e below RR (T12.setTop (mkF m 96 #[.val (.long q1), .second, .val (.long q2), .second, .val (.int p3), .val (.long v1), .second, .val (.long v11), .second, .val (.long (own_add v1 v11)), .second, .val (.long (v1 + v11)), .second, .val (.long (v1 + v11)), .second] [(.int (1 : Int32))]))
      obtain ⟨fs, hrt_, hrun, hended, hW, hsame⟩ := X12.leave (v := some (.int (1 : Int32))) (fun h => by rw [Bd.returns] at h; cases h)
      refine own_fin (retN X12 hx (t := .boolean) Bd.returns (by simp) (hb hby at_96) hrt_) (hRR _ ⟨_, hrun, hended, _, _, rfl, ?_, ⟨_, rfl⟩, hW, hsame.mono (by decide) (by decide)⟩)
      show own_Q0 Z q1 q2 p3 h0 n0 _ T12.heap _
      rw [eq12]
      exact ⟨rfl, N12⟩
set_option maxRecDepth 65536 in
set_option maxHeartbeats 40000000 in
theorem own_comes {Post : Tables → Env → Array Value → State → Outcome → State → Prop} (hpost : ∀ tb e args s v u, (limb_1_1.after args s (.returned v) u = true ∧ limb_1_2.after args s (.returned v) u = true ∧ True) → FrameEnd s (.returned v) u (Jvm.fieldLocs frame_1_writes args s ++ Jvm.arrayLocs frame_1_arrays args s ++ Jvm.staticLocs frame_1_statics s) 0 0 → Post tb e args s (.returned v) u) :
    ArmFor flags0 classFile x code maxLocals ret World_1 tables_1 room_1 Calls_1 rest_1 Pre_1 Post := by
  intro l hfl _ _ p e ha hc hk s m args below hf hA hF happ hP
  obtain ⟨hcalls, hrest, hpre⟩ := hP
  obtain ⟨-, -, -, hnamed, -, -, -, hat⟩ := (Spec.applies_iff hf).mp happ
  obtain ⟨hg, hn⟩ := and_e (Cond.before_iff.mp (show (Jvm.Cond.and given_1 narrow_1).before args s = true from hpre))
  obtain ⟨u1a, u1b⟩ := and_e hg
  obtain ⟨u2a, u2b⟩ := and_e u1b
  obtain ⟨u3a, u3b⟩ := and_e u2b
  obtain ⟨w0, w1, w2, rfl⟩ : ∃ w0 w1 w2 : Value, args = #[w0, w1, w2] := by
    have hs : args.size = 3 := by simpa [Cond.value, given_1] using u1a
    obtain ⟨L⟩ := args
    match L, hs with
    | [w0, w1, w2], _ => exact ⟨w0, w1, w2, rfl⟩
  have hw := fun d (hd : d ∈ tables_1) => atoms_spec (ws := Jvm.Cond.code x code maxLocals ret :: tables_1) hat d (List.mem_cons_of_mem _ hd)
  have hfit : Fit s := fun {y c} hc i hi => by
    obtain ⟨ha, rfl⟩ := Array.getElem?_eq_some_iff.mp hc
    have q := List.all_eq_true.mp ((Array.all_eq_true_iff_forall_mem.mp hF) _ (Array.getElem_mem ha)) i (List.mem_range.mpr hi)
    simpa [Array.getElem?_eq_getElem hi] using q
  obtain ⟨i0, ei0⟩ := isL_v u2a
  obtain rfl : w0 = (.long i0) := Option.some.inj ei0
  obtain ⟨i1, ei1⟩ := isL_v u3a
  obtain rfl : w1 = (.long i1) := Option.some.inj ei1
  obtain ⟨i2, ei2⟩ := is_v u3b
  obtain rfl : w2 = (.int i2) := Option.some.inj ei2
  obtain ⟨n, o, h1, h2, h3, _, L, rfl, ⟨rfl, N⟩, hq⟩ := own_rm0 l s _ hw tables_1 i0 i1 i2 s.heap s.heap.size (Nat.le_refl _)  p e ha hc hk s m _ below hf ((Spec.applies_iff_loose hf).mp happ).1 ⟨rfl, State.Warmed39.refl s, rfl⟩ trivial
  refine ⟨n, _, h1, h2, h3, hpost _ _ _ _ _ _ ⟨Cond.after_iff.mpr rfl, Cond.after_iff.mpr (eq_i res_at (Term.int_eval (1)) rfl), trivial⟩ ⟨hq.1, hq.2.1, (hq.2.2.sift fun y hy => Or.inr (N y hy)).mono (by decide) (by decide)⟩⟩
theorem main_1_1 : Claimed_1_1 := own_comes fun _ _ _ _ _ _ h hF => ⟨h.1, hF⟩
theorem main_1_2 : Claimed_1_2 := own_comes fun _ _ _ _ _ _ h hF => ⟨h.2.1, hF⟩
end Jvm.Pilot.@@N@@
namespace Jvm.Pilot.@@N@@
open Jvm Jvm.ClassFile Sem Op Lib Jvm.Free Jvm.Stand Jvm.Pilot.@@N@@.Jvm.D
/-! MADE BY PROGRAM (witnessworld.py) out of the Statement's table words and the real class files: 7 classes; the members and pool entries that the words name. The judged class is class 1, her method 1. -/
namespace start1
open Jvm.ClassFile
def u (s : String) : CpInfo := .utf8 (stringToUtf16 s)
/-- a pool by its gaps: so many unusable entries, then the entry; so many at the end -/
def gap : Nat → List CpInfo → List CpInfo
  | 0, r => r
  | n + 1, r => .unusable :: gap n r
def poolList (es : List (Nat × CpInfo)) (last : Nat) : List CpInfo := es.foldr (fun e r => gap e.1 (e.2 :: r)) (gap last [])
def pool (es : List (Nat × CpInfo)) (last : Nat) : Array CpInfo := ⟨poolList es last⟩
def fileOf (pool : Array CpInfo) (this : Nat) (attrs : Array Attribute := #[]) (ms : Array MethodInfo := #[]) (fl : Nat := 33) (sup : Nat := 0) (ifs : Array Nat := #[]) (fds : Array FieldInfo := #[]) : ClassFile where
  minorVersion := 0
  majorVersion := 65
  constantPool := pool
  accessFlags := fl
  thisClass := this
  superClass := sup
  interfaces := ifs
  fields := fds
  methods := ms
  attributes := attrs
def plain (name : String) (sup : Option ClassId) : Class where
  name := name
  kind := .ordinary
  loader := none
  accessFlags := 33
  super := sup
  interfaces := #[]
  cf := none
  fields := #[]
  methods := #[]
  instanceTypes := #[]
  staticTypes := #[]
  resolved := #[]
  callSites := []
  init := .initialized
  statics := none
  mirror := none

def pool0 : Array CpInfo := pool [(5, u "<init>"), (0, u "()V"), (1, .class_ 10), (1, u "java/lang/Object")] 113

def k0m0 : Method := { name := "<init>", desc := "()V", sig := { parameters := [], returnType := none }, accessFlags := 1, code := none }
/-- java/lang/Object -/
def k0 : Class := { plain "java/lang/Object" none with
  accessFlags := 33
  interfaces := #[]
  cf := some (fileOf pool0 8 #[] #[{ accessFlags := 1, nameIndex := 5, descriptorIndex := 6, attributes := #[] }] 33 0 #[] #[])
  fields := #[]
  methods := #[k0m0]
  instanceTypes := #[]
  staticTypes := #[]
  resolved := Array.replicate 124 none
  statics := none }

def pool1 : Array CpInfo := pool [(2, .class_ 4), (1, u "java/lang/Object"), (0, u "<init>"), (0, u "()V"), (2, .long 9223372036854775807), (1, .methodref 12 13), (0, .class_ 14), (0, .nameAndType 15 16), (0, u "com/example/saar/saar/core/search/Statistics"), (0, u "add"), (0, u "(JJ)J"), (0, .class_ 18), (0, u "com/example/saar/saar/core/search/StatisticsAddPinLaw"), (2, u "law"), (0, u "(JJI)Z")] 3

def k1m0 : Method := { name := "<init>", desc := "()V", sig := { parameters := [], returnType := none }, accessFlags := 1, code := none }
def k1c1 : Code := { maxStack := 4, maxLocals := 15, code := code, exceptionTable := #[], attributes := #[] }
def k1m1 : Method := { name := "law", desc := "(JJI)Z", sig := { parameters := [.long, .long, .int], returnType := some .boolean }, accessFlags := 9, code := some k1c1 }
/-- com/example/saar/saar/core/search/StatisticsAddPinLaw -/
def k1 : Class := { plain "com/example/saar/saar/core/search/StatisticsAddPinLaw" (some 0) with
  accessFlags := 49
  interfaces := #[]
  cf := some (fileOf pool1 17 #[] #[{ accessFlags := 1, nameIndex := 5, descriptorIndex := 6, attributes := #[] }, { accessFlags := 9, nameIndex := 21, descriptorIndex := 22, attributes := #[] }] 49 2 #[] #[])
  fields := #[]
  methods := #[k1m0, k1m1]
  instanceTypes := #[]
  staticTypes := #[]
  resolved := Array.replicate 26 none
  statics := none }

def pool2 : Array CpInfo := pool [(2, .class_ 4), (1, u "java/lang/Object"), (31, .class_ 38), (1, u "com/example/saar/saar/core/search/Statistics"), (0, u "documents"), (0, u "J"), (2, u "terms"), (13, u "[Ljava/lang/String;"), (2, u "keys"), (27, u "counts"), (0, u "[I"), (29, u "add"), (0, u "(JJ)J"), (17, u "EMPTY"), (0, u "Lcom/example/saar/saar/core/search/Statistics;"), (32, .long 9223372036854775807)] 174

def k2c0 : Code := { maxStack := 6, maxLocals := 4, code := prog_43_method_11_code, exceptionTable := #[], attributes := #[] }
def k2m0 : Method := { name := "add", desc := "(JJ)J", sig := { parameters := [.long, .long], returnType := some .long }, accessFlags := 9, code := some k2c0 }
/-- com/example/saar/saar/core/search/Statistics -/
def k2 : Class := { plain "com/example/saar/saar/core/search/Statistics" (some 0) with
  accessFlags := 49
  interfaces := #[]
  cf := some (fileOf pool2 36 #[] #[{ accessFlags := 9, nameIndex := 119, descriptorIndex := 120, attributes := #[] }] 49 2 #[] #[{ accessFlags := 25, nameIndex := 138, descriptorIndex := 139, attributes := #[] }, { accessFlags := 18, nameIndex := 39, descriptorIndex := 40, attributes := #[] }, { accessFlags := 18, nameIndex := 43, descriptorIndex := 40, attributes := #[] }, { accessFlags := 18, nameIndex := 60, descriptorIndex := 57, attributes := #[] }, { accessFlags := 18, nameIndex := 88, descriptorIndex := 89, attributes := #[] }])
  fields := #[{ name := "EMPTY", type := (.object "com/example/saar/saar/core/search/Statistics"), accessFlags := 25, slot := 0, constantValue := 0 }, { name := "documents", type := .long, accessFlags := 18, slot := 0, constantValue := 0 }, { name := "terms", type := .long, accessFlags := 18, slot := 1, constantValue := 0 }, { name := "keys", type := (.array (.object "java/lang/String")), accessFlags := 18, slot := 2, constantValue := 0 }, { name := "counts", type := (.array .int), accessFlags := 18, slot := 3, constantValue := 0 }]
  methods := #[k2m0]
  instanceTypes := #[.long, .long, (.array (.object "java/lang/String")), (.array .int)]
  staticTypes := #[(.object "com/example/saar/saar/core/search/Statistics")]
  resolved := Array.replicate 347 none
  statics := none }

def pool3 : Array CpInfo := pool [(1, u "java/lang/Cloneable"), (0, .class_ 1), (0, u "java/lang/Object"), (0, .class_ 3)] 3

/-- java/lang/Cloneable -/
def k3 : Class := { plain "java/lang/Cloneable" (some 0) with
  accessFlags := 1537
  interfaces := #[]
  cf := some (fileOf pool3 2 #[] #[] 1537 4 #[] #[])
  fields := #[]
  methods := #[]
  instanceTypes := #[]
  staticTypes := #[]
  resolved := Array.replicate 8 none
  statics := none }

def pool4 : Array CpInfo := pool [(1, u "java/io/Serializable"), (0, .class_ 1), (0, u "java/lang/Object"), (0, .class_ 3)] 3

/-- java/io/Serializable -/
def k4 : Class := { plain "java/io/Serializable" (some 0) with
  accessFlags := 1537
  interfaces := #[]
  cf := some (fileOf pool4 2 #[] #[] 1537 4 #[] #[])
  fields := #[]
  methods := #[]
  instanceTypes := #[]
  staticTypes := #[]
  resolved := Array.replicate 8 none
  statics := none }

/-- the primitive byte -/
def k5 : Class := { plain "byte" none with kind := .primitive 'B', accessFlags := 0x411 }
/-- [B -/
def k6 : Class := { plain "[B" (some 0) with kind := .array 5 .byte, interfaces := #[3, 4], accessFlags := 1041 }

def heap : Heap := #[]
def classes : Array Class := #[k0, k1, k2, k3, k4, k5, k6]
def interned : List (Array UInt16 × Addr) := []
def slotsUsed : Nat := 0
def theMethod : MethodId := ⟨1, 1⟩
def args0 : Array Value := #[.long 5, .long 7, .int 3]
def aboutOver (below : List Frame) : State where
  vm := { classes := classes, interned := interned.toArray }
  heap := heap
  slotsUsed := slotsUsed
  threads := #[{ frames := .invoking theMethod args0 :: below }]
def below0 : List Frame := [.native { method := ⟨0, 0⟩, args := #[] }]
def about1 : State := aboutOver below0
def p0 : Program := .bare "" "" ""
def e0 : Env := launch0.env 0 0 0
theorem w_frames : about1.frames = Frame.invoking theMethod args0 :: below0 := rfl
set_option maxRecDepth 65536 in
theorem w_args : argsFit about1.vm theMethod args0 = true := by decide +kernel
set_option maxRecDepth 65536 in
theorem w_heap : heapFits about1 = true := by decide +kernel
set_option maxRecDepth 65536 in
theorem w_runnable : about1.curStatus? = some .runnable := by decide +kernel
set_option maxRecDepth 65536 in
theorem w_alone : about1.alone = true := by decide +kernel
set_option maxRecDepth 65536 in
theorem w_named : about1.methodNamed? x = some theMethod := by decide +kernel
set_option maxRecDepth 65536 in
theorem w_hears : about1.hears theMethod below0 = true := by decide +kernel
set_option maxRecDepth 65536 in
theorem w_ripe : about1.ripe theMethod args0 below0 = true := by decide +kernel
theorem w_running : about1.status = .running := rfl
set_option maxRecDepth 65536 in
theorem w_room : about1.hasRoom e0.platform room_1 = true :=
  launch0.hasRoom_least _ room_1 (by decide +kernel) (by decide +kernel) (by decide +kernel) (by decide +kernel) (by decide +kernel) (by decide +kernel)
theorem allAtoms_all (ts : List Jvm.Cond) (a : Array Jvm.Value) (st : Jvm.State) : (allAtoms ts).before a st = ts.all (fun c => c.before a st) := by
  induction ts with
  | nil => rfl
  | cons c t ih =>
    show (Jvm.Cond.and c (allAtoms t)).before a st = _
    rw [Jvm.Cond.before_and, ih, List.all_cons]
def words1 : List Jvm.Cond := Jvm.Cond.code x code maxLocals ret :: tables_1
/-- a 'code' word, met by the world's own term for the bytes: nothing is compared byte by byte -/
theorem code_word {y : MethodName} {bytes : ByteArray} {mx : Nat} {rt : Option FieldType} {a : Array Value} {s : State} {m : MethodId} {meth : Method} {c : Code} (h1 : s.methodNamed? y = some m) (h2 : s.vm.method? m = some meth) (h3 : meth.code = some c) (h4 : c.code = bytes)
    (h5 : (c.maxLocals == mx && c.exceptionTable.isEmpty && decide (c.maxStack ≤ mostOperands) && decide (meth.sig.returnType = rt) && !meth.locks && decide (parseMethodDescriptor y.desc = some meth.sig)) = true) : (Jvm.Cond.code y bytes mx rt).before a s = true := by
  simp only [Bool.and_eq_true, beq_iff_eq, Bool.not_eq_true', decide_eq_true_eq] at h5
  obtain ⟨⟨⟨⟨⟨g1, g2⟩, g3⟩, g4⟩, g5⟩, g6⟩ := h5
  simp [Cond.before, Cond.holds, Cond.value, h1, h2, h3, h4, g1, g2, g3, g4, g5, g6]
def isCode : Jvm.Cond → Bool
  | .code _ _ _ _ => true
  | _ => false
theorem all_split {L : List Jvm.Cond} {P : Jvm.Cond → Bool} (h1 : L.all (fun c => isCode c || P c) = true) (h2 : ∀ c ∈ L.filter isCode, P c = true) : L.all P = true := by
  refine List.all_eq_true.mpr fun c hc => ?_
  have h := List.all_eq_true.mp h1 c hc
  rcases Bool.eq_false_or_eq_true (isCode c) with hi | hi
  · exact h2 c (List.mem_filter.mpr ⟨hc, hi⟩)
  · simpa [hi] using h
set_option maxRecDepth 65536 in
theorem w_c0 : (Jvm.Cond.code x code maxLocals ret).before args0 about1 = true := code_word (m := ⟨1, 1⟩) (meth := k1m1) (c := k1c1) (by decide +kernel) rfl rfl rfl (by decide +kernel)
set_option maxRecDepth 65536 in
theorem w_c1 : (Jvm.Cond.code ({ cls := "com/example/saar/saar/core/search/Statistics", name := "add", desc := "(JJ)J" } : Jvm.MethodName) prog_43_method_11_code (4 : Nat) (Option.some Jvm.ClassFile.FieldType.long)).before args0 about1 = true := code_word (m := ⟨2, 0⟩) (meth := k2m0) (c := k2c0) (by decide +kernel) rfl rfl rfl (by decide +kernel)
def codes1 : List Jvm.Cond := [Jvm.Cond.code x code maxLocals ret, Jvm.Cond.code ({ cls := "com/example/saar/saar/core/search/Statistics", name := "add", desc := "(JJ)J" } : Jvm.MethodName) prog_43_method_11_code (4 : Nat) (Option.some Jvm.ClassFile.FieldType.long)]
set_option maxRecDepth 65536 in
theorem codes_eq : words1.filter isCode = codes1 := rfl
theorem w_codes : ∀ c ∈ words1.filter isCode, c.before args0 about1 = true := by
  rw [codes_eq]
  intro c hc
  simp only [codes1, List.mem_cons, List.not_mem_nil, or_false] at hc
  rcases hc with rfl | rfl
  · exact w_c0
  · exact w_c1
set_option maxRecDepth 65536 in
theorem w_t1 : words1.all (fun c => isCode c || c.before args0 about1) = true := by decide +kernel
theorem w_tables : (allAtoms (Jvm.Cond.code x code maxLocals ret :: tables_1)).before args0 about1 = true := by
  rw [allAtoms_all]
  show words1.all (fun c => c.before args0 about1) = true
  refine all_split ?_ w_codes
  rw [w_t1]
set_option maxRecDepth 65536 in
theorem w_case : (Jvm.Cond.and given_1 narrow_1).before args0 about1 = true := by decide +kernel
theorem w_applies : (headSpec (Jvm.Cond.code x code maxLocals ret :: tables_1) room_1).applies x e0.platform about1 = true :=
  (Spec.applies_iff w_frames).mpr ⟨w_running, w_runnable, w_alone, w_named, w_hears, w_ripe, w_room, w_tables⟩
theorem atStart : AtStart classFile x code maxLocals ret World_1 tables_1 room_1 Calls_1 rest_1 Pre_1 launch0 p0 e0 about1 theMethod args0 below0 :=
  ⟨lists_1, trivial, launch0.admits_env _ _ _, launch0.least_env, fairChoices_fair.cas, fairChoices_fair.clock, w_frames, w_args, w_heap, w_applies, trivial, trivial, w_case⟩
end start1
theorem witness_1 : WitnessClaimed_1 := ⟨start1.p0, start1.e0, start1.about1, start1.theMethod, start1.args0, start1.below0, start1.atStart⟩
end Jvm.Pilot.@@N@@
