import JvmDerived
import JvmDerived.Pilot.@@N@@Statement
import JvmDerived.Pilot.@@N@@Code
set_option linter.unusedVariables false
set_option linter.unusedSimpArgs false
namespace Jvm.RoadKit
open Sem ClassFile Op Lib Jvm.Stand Jvm.Free Jvm.LawKit
section Own
/-- from u a state is reached where R holds -/
def own_Go (tb : Tables) (e : Env) (below : List Frame) (R : State → Prop) (u : State) : Prop := ∃ t, Steps tb e below u t ∧ R t
theorem own_st {tb : Tables} {e : Env} {below : List Frame} {R : State → Prop} {u v : State} (h : ∀ t, Steps tb e below v t → Steps tb e below u t) (g : own_Go tb e below R v) : own_Go tb e below R u := by
  obtain ⟨t, h1, h2⟩ := g
  exact ⟨t, h t h1, h2⟩
theorem own_fin {tb : Tables} {e : Env} {below : List Frame} {R : State → Prop} {u t : State} (h : Steps tb e below u t) (r : R t) : own_Go tb e below R u := ⟨t, h, r⟩
theorem own_in {tb : Tables} {e : Env} {below : List Frame} {u v : State} {P : State → Outcome → Prop} (h : ∀ t, Steps tb e below v t → Steps tb e below u t)
    (g : ∀ RR : State → Prop, (∀ t, (∃ o, t.status = .running ∧ P t o) → RR t) → own_Go tb e below RR v) : ∃ t o, Steps tb e below u t ∧ t.status = .running ∧ P t o := by
  obtain ⟨t, h1, o, h2, h3⟩ := g (fun t => ∃ o, t.status = .running ∧ P t o) fun _ q => q
  exact ⟨t, o, h t h1, h2, h3⟩
theorem own_ri {x y : Int32} (h : x = y) : some (Value.int x) = some (Value.int y) := h ▸ rfl
theorem own_rj {x y : Int64} (h : x = y) : some (Value.long x) = some (Value.long y) := h ▸ rfl
theorem own_rr {x y : Addr} (h : x = y) : some (Value.ref x) = some (Value.ref y) := h ▸ rfl
theorem own_eq_int {args : Array Value} {first s : State} {o : Option Outcome} {idx : List Nat} {a : Term} {k : Int32} (h : (Cond.eq a (.int k)).value args first o s idx = some true) : a.eval args first o idx s = some (.int k) := by
  simp only [Cond.value, Term.eval] at h
  cases ht : a.eval args first o idx s with
  | none => simp [ht] at h
  | some x => cases x <;> simp [ht] at h ⊢; exact h
theorem own_eq_long {args : Array Value} {first s : State} {o : Option Outcome} {idx : List Nat} {a : Term} {k : Int64} (h : (Cond.eq a (.long k)).value args first o s idx = some true) : a.eval args first o idx s = some (.long k) := by
  simp only [Cond.value, Term.eval] at h
  cases ht : a.eval args first o idx s with
  | none => simp [ht] at h
  | some x => cases x <;> simp [ht] at h ⊢; exact h
theorem own_selP {s : State} {args : Array Value} {y : MethodName} {n : Nat} (wi : (Cond.instantiable y.cls n).before args s = true) (hp : s.PrivateAt y) (hi : (Cond.instanceMethod y).before args s = true) (hy : y.cls ≠ "java/lang/invoke/MethodHandle" ∧ y.cls ≠ "java/lang/invoke/VarHandle") : (Cond.selects y.cls y y).before args s = true := by
  obtain ⟨c, k, h1, h2, -, h4, -⟩ := Cond.instantiable_spec wi
  exact selects_self_of_private h1 h2 (Bool.or_eq_false_iff.mp h4).1 hp hi hy
variable {p : Program} {l : Launch} {e : Env} {R : Room} {s : State} {m : MethodId} {args : Array Value} {below : List Frame} {meth : Method} {c : Code} {T : State} {locs : List Loc} {cells slots : Nat} {Z : State} {h : Heap}
theorem retI (X : Stand p l e R s m args below meth c T locs cells slots) (hx : p.tables.exec = Jvm.exec) {pc : Nat} {Ls : Array Slot} {z : Int32} {rest : List Value} (hret : meth.sig.returnType = some .int) (hd : decode c.code pc = .ok (.ireturn, 1)) {fs : List Frame}
    (hl : ∀ (f : JFrame) (acts : List Action), f.method = m → f.locked = none → f.entered = [] → (doReturn e (T.setTop f) acts (some (.int z))).1 = T.setFrames fs) : Steps p.tables e below (T.setTop (mkF m pc Ls (.int z :: rest))) (T.setFrames fs) :=
  retOut X hx hret rfl (Or.inl ⟨rfl, Or.inl rfl, z, rfl⟩) hd hl
theorem own_len (X : Stand p l e R s m args below meth c T locs cells slots) (hx : p.tables.exec = Jvm.exec) (hZ : Z.Warmed39 s.vm) (eT : T.heap = h) {a : Addr} {cl : Cell} {ty : FieldType} (A : Arr Z h a cl ty) {z : Int32} (S : cl.slots.size = z.toNatClampNeg) (N : ¬ z < 0)
    {g : JFrame} (hg : g.method = m) {rest : List Value} (hs : g.stack = .ref a :: rest) (hd : decode c.code g.pc = .ok (.arraylength, 1)) {target : State}
    (k : Steps p.tables e below (T.setTop { g with pc := g.pc + 1, stack := .int z :: rest }) target) : Steps p.tables e below (T.setTop g) target :=
  X.arraylength hx (by rw [eT]; exact A.1) (State.isArrayOf_alike hZ.alike A.2.1) hg hs hd target (by rw [len_of S N]; exact k)
end Own
end Jvm.RoadKit
namespace Jvm.Pilot.@@N@@
open Jvm Jvm.ClassFile Sem Op Lib Jvm.Free Jvm.Stand Jvm.LawKit Jvm.RoadKit Bundle Jvm.Pilot.@@N@@.Jvm.D
theorem own_lenE {t : Term} {args : Array Value} {first s : State} {o : Option Outcome} {idx : List Nat} {x y : Int32} (h1 : t.eval args first o idx s = some (.int x)) (h2 : t.eval args first o idx s = some (.int y)) : x = y := Value.int.inj (Option.some.inj (h1.symm.trans h2))
theorem own_arv_ne {Z : State} {h : Heap} {a b : Addr} {k k' : ClassId} {ty ty' : FieldType} {z z' : Int32} {vs vs' : List Value} {d d' : Value} (F : Arv Z h a k ty z vs d) (G : Arv Z h b k' ty' z' vs' d') (q : z.toNatClampNeg ≠ z'.toNatClampNeg) : a ≠ b := fun e => by
  subst e
  obtain ⟨c, A, -, s, -⟩ := F
  obtain ⟨c', A', -, s', -⟩ := G
  cases A.1.symm.trans A'.1
  exact q (s.symm.trans s')
theorem own_nz0 {t : Term} {args : Array Value} {s : State} {x : Int32} (h : (Cond.not (Cond.eq t (.int 0))).value args s none s [] = some true) (e : t.eval args s none [] s = some (.int x)) : ¬ x = (0 : Int32) := fun q => by
  subst q
  have := not_v h
  rw [eq_i e (Term.int_eval 0) rfl] at this
  cases this
theorem own_four {x v : Int32} (h : (x &&& (3 : Int32)) = v) : v = 0 ∨ v = 1 ∨ v = 2 ∨ v = 3 := by
  have h1 := c_mask x 3 2 (by decide) (by decide)
  rw [h] at h1
  have e : v.toInt = 0 ∨ v.toInt = 1 ∨ v.toInt = 2 ∨ v.toInt = 3 := by omega
  simpa [← Int32.toInt_inj] using e
def own_pick (k : Int32) (a0 a1 a2 a3 : Addr) : Addr := if k = 0 then a0 else if k = 1 then a1 else if k = 2 then a2 else a3
def own_exp (k : Int32) : Int32 := if k = 0 then 0 else if k = 1 then 0 else if k = 2 then 1 else 1
theorem own_sub : ∀ a ∈ Bundle.stringAtoms, a ∈ tables_1 := by
  intro a ha
  simp only [Bundle.stringAtoms, Bundle.sN, List.mem_cons, List.not_mem_nil, or_false] at ha
  rcases ha with rfl | rfl | rfl | rfl | rfl | rfl | rfl
  · exact List.mem_of_getElem? (i := 27) rfl
  · exact List.mem_of_getElem? (i := 28) rfl
  · exact List.mem_of_getElem? (i := 29) rfl
  · exact List.mem_of_getElem? (i := 30) rfl
  · exact List.mem_of_getElem? (i := 31) rfl
  · exact List.mem_of_getElem? (i := 32) rfl
  · exact List.mem_of_getElem? (i := 33) rfl
theorem own_pn_com_example_unstor_unstor_JobStatusIsFinishedPinLaw : plainName "com/example/unstor/unstor/JobStatusIsFinishedPinLaw" = true := by first | (simp [plainName, overriddenIn]; done) | decide +kernel
theorem own_dmethod_2_code_0 : decode method_2_code 0 = .ok (.iload_n 0, 1) := by decide +kernel
theorem own_dmethod_2_code_1 : decode method_2_code 1 = .ok (.ifCond .ne 7, 3) := by decide +kernel
theorem own_dmethod_2_code_4 : decode method_2_code 4 = .ok (.getstatic 7, 3) := by decide +kernel
theorem own_dmethod_2_code_7 : decode method_2_code 7 = .ok (.areturn, 1) := by decide +kernel
theorem own_dmethod_2_code_8 : decode method_2_code 8 = .ok (.iload_n 0, 1) := by decide +kernel
theorem own_dmethod_2_code_9 : decode method_2_code 9 = .ok (.iconst 1, 1) := by decide +kernel
theorem own_dmethod_2_code_10 : decode method_2_code 10 = .ok (.if_icmp .ne 7, 3) := by decide +kernel
theorem own_dmethod_2_code_13 : decode method_2_code 13 = .ok (.getstatic 13, 3) := by decide +kernel
theorem own_dmethod_2_code_16 : decode method_2_code 16 = .ok (.areturn, 1) := by decide +kernel
theorem own_dmethod_2_code_17 : decode method_2_code 17 = .ok (.iload_n 0, 1) := by decide +kernel
theorem own_dmethod_2_code_18 : decode method_2_code 18 = .ok (.iconst 2, 1) := by decide +kernel
theorem own_dmethod_2_code_19 : decode method_2_code 19 = .ok (.if_icmp .ne 7, 3) := by decide +kernel
theorem own_dmethod_2_code_22 : decode method_2_code 22 = .ok (.getstatic 16, 3) := by decide +kernel
theorem own_dmethod_2_code_25 : decode method_2_code 25 = .ok (.areturn, 1) := by decide +kernel
theorem own_dmethod_2_code_26 : decode method_2_code 26 = .ok (.getstatic 19, 3) := by decide +kernel
theorem own_dmethod_2_code_29 : decode method_2_code 29 = .ok (.areturn, 1) := by decide +kernel
theorem own_efP (m : MethodId) (p1 : Int32) : entryFrame m #[(.int p1)] 1 = mkF m 0 #[.val (.int p1)] [] := by first | (simp [entryFrame, mkF, argsToLocals, Value.category]; done) | rfl
def own_QP (Z : State) (p1 : Int32) (a_NEW : Addr) (a_COMPLETED : Addr) (a_ERROR : Addr) (a_PROCESSING : Addr) (r : Addr) (h0 : Heap) (n0 : Nat) (rv__ : Option Value) (h : Heap) (rL__ : List Loc) : Prop := rv__ = some (.ref r) ∧ Fr n0 rL__ ∧ h = h0
abbrev own_RP : Room := { frames := 0, cells := 0, slots := 0, locals := 0 }
set_option maxRecDepth 65536 in
set_option maxHeartbeats 40000000 in
theorem own_rmP (l : Launch) (Z : State) (a0 : Array Value) (hw : ∀ d ∈ tables_1, d.before a0 Z = true) (ws : List Jvm.Cond) (p1 : Int32) (a_NEW : Addr) (a_COMPLETED : Addr) (a_ERROR : Addr) (a_PROCESSING : Addr) (r : Addr) (h0 : Heap) (n0 : Nat) (Z0 : n0 ≤ h0.size) (S_NEW : Sta Z h0 "com/example/unstor/unstor/JobStatus" "NEW" "Lcom/example/unstor/unstor/JobStatus;" (.ref a_NEW)) (S_COMPLETED : Sta Z h0 "com/example/unstor/unstor/JobStatus" "COMPLETED" "Lcom/example/unstor/unstor/JobStatus;" (.ref a_COMPLETED)) (S_ERROR : Sta Z h0 "com/example/unstor/unstor/JobStatus" "ERROR" "Lcom/example/unstor/unstor/JobStatus;" (.ref a_ERROR)) (S_PROCESSING : Sta Z h0 "com/example/unstor/unstor/JobStatus" "PROCESSING" "Lcom/example/unstor/unstor/JobStatus;" (.ref a_PROCESSING)) (hp : own_pick p1 a_NEW a_PROCESSING a_COMPLETED a_ERROR = r) :
    MetFree l (⟨"com/example/unstor/unstor/JobStatusIsFinishedPinLaw", "pick", "(I)Lcom/example/unstor/unstor/JobStatus;"⟩ : MethodName) (head1 (Jvm.Cond.code (⟨"com/example/unstor/unstor/JobStatusIsFinishedPinLaw", "pick", "(I)Lcom/example/unstor/unstor/JobStatus;"⟩ : MethodName) method_2_code 1 (some (.object "com/example/unstor/unstor/JobStatus")) :: ws) own_RP) (fun aa__ U => aa__ = #[(.int p1)] ∧ Z.Warmed39 U.vm ∧ U.heap = h0) (fun _ _ _ _ _ => True) (fun _ U oc_ U' => ∃ rv__ rL__, oc_ = .returned rv__ ∧ own_QP Z p1 a_NEW a_COMPLETED a_ERROR a_PROCESSING r h0 n0 rv__ U'.heap rL__ ∧ FrameEnd U oc_ U' rL__ own_RP.cells own_RP.slots) := by
  refine MetFree.of_bodySF (plainFor_of_name own_pn_com_example_unstor_unstor_JobStatusIsFinishedPinLaw) hisR ?_
  intro p e s m args below meth c s₁ Bd hml0 hP hK
  obtain ⟨rfl, hZ, hh⟩ := hP
  have hx := Bd.exec
  have hby := Bd.bytes
  have hml : c.maxLocals = 1 := hml0
  have hown : s.vm.findClass "com/example/unstor/unstor/JobStatusIsFinishedPinLaw" = some m.cls := findClass_of_methodNamed Bd.named
  have hnm := (name_of_methodNamed Bd.named Bd.method).1
  have X0 : Stand p l e own_RP s m #[(.int p1)] below meth c s₁ [] 0 0 := Stand.of_body Bd
  have e0 : s₁.heap = h0 := by rw [← hh, Bd.state]; rfl
  have N0 := Fr.nil n0
  refine own_in (fun _ k => castTop (own_efP m p1) k) ?_
  intro RR hRR
  show own_Go p.tables e below RR (s₁.setTop (mkF m 0 #[.val (.int p1)] []))
  refine own_st (fun _ k => XS.iloadN X0.here hx rfl (hb hby own_dmethod_2_code_0) rfl k) ?_
  show own_Go p.tables e below RR (s₁.setTop (mkF m 1 #[.val (.int p1)] [(.int p1)]))
  by_cases hc1_1 : p1 = (0 : Int32)
  · refine own_st (fun _ k => XS.ifNo X0.here hx rfl (hb hby own_dmethod_2_code_1) rfl ((if0 _ _).trans (teq hc1_1).2) k) ?_
    show own_Go p.tables e below RR (s₁.setTop (mkF m 4 #[.val (.int p1)] []))
    obtain ⟨T2, X2, e2, st2⟩ := getS2 X0 hx hZ hown (host := "") (Or.inl (hw _ (List.mem_of_getElem? (i := 4) rfl))) Via.refl e0 S_NEW (g := (mkF m 4 #[.val (.int p1)] [])) rfl (hb hby own_dmethod_2_code_4)
    refine own_st st2 ?_
    show own_Go p.tables e below RR (T2.setTop (mkF m 7 #[.val (.int p1)] [(.ref a_NEW)]))
    obtain ⟨fs, hrt_, hrun, hended, hW, hsame⟩ := X2.leave (v := some (.ref a_NEW)) (fun h => by rw [Bd.returns] at h; cases h)
    refine own_fin (retOut X2 hx Bd.returns rfl (Or.inr (Or.inr (Or.inr (Or.inr ⟨rfl, rfl, rfl⟩)))) (hb hby own_dmethod_2_code_7) hrt_) (hRR _ ⟨_, hrun, hended, _, _, rfl, ?_, ⟨_, rfl⟩, hW, hsame.mono (by decide) (by decide)⟩)
    show own_QP Z p1 a_NEW a_COMPLETED a_ERROR a_PROCESSING r h0 n0 _ T2.heap _
    rw [e2]
    exact ⟨own_rr (by first | simpa only [own_pick, hc1_1, if_true, if_false] using hp | simpa [own_pick, hc1_1] using hp), N0, rfl⟩
  · refine own_st (fun _ k => XS.ifYes X0.here hx rfl (pc0 := 1) (pc' := 8) rfl (hb hby own_dmethod_2_code_1) rfl ((if0 _ _).trans (feq hc1_1).2) (by decide) (by decide) k) ?_
    show own_Go p.tables e below RR (s₁.setTop (mkF m 8 #[.val (.int p1)] []))
    refine own_st (fun _ k => XS.iloadN X0.here hx rfl (hb hby own_dmethod_2_code_8) rfl k) ?_
    show own_Go p.tables e below RR (s₁.setTop (mkF m 9 #[.val (.int p1)] [(.int p1)]))
    refine own_st (fun _ k => XS.iconst X0.here hx rfl (hb hby own_dmethod_2_code_9) k) ?_
    show own_Go p.tables e below RR (s₁.setTop (mkF m 10 #[.val (.int p1)] [(.int (1 : Int32)), (.int p1)]))
    by_cases hc10_3 : p1 = (1 : Int32)
    · refine own_st (fun _ k => XS.icmpNo X0.here hx rfl (hb hby own_dmethod_2_code_10) rfl (teq hc10_3).2 k) ?_
      show own_Go p.tables e below RR (s₁.setTop (mkF m 13 #[.val (.int p1)] []))
      obtain ⟨T4, X4, e4, st4⟩ := getS2 X0 hx hZ hown (host := "") (Or.inl (hw _ (List.mem_of_getElem? (i := 51) rfl))) Via.refl e0 S_PROCESSING (g := (mkF m 13 #[.val (.int p1)] [])) rfl (hb hby own_dmethod_2_code_13)
      refine own_st st4 ?_
      show own_Go p.tables e below RR (T4.setTop (mkF m 16 #[.val (.int p1)] [(.ref a_PROCESSING)]))
      obtain ⟨fs, hrt_, hrun, hended, hW, hsame⟩ := X4.leave (v := some (.ref a_PROCESSING)) (fun h => by rw [Bd.returns] at h; cases h)
      refine own_fin (retOut X4 hx Bd.returns rfl (Or.inr (Or.inr (Or.inr (Or.inr ⟨rfl, rfl, rfl⟩)))) (hb hby own_dmethod_2_code_16) hrt_) (hRR _ ⟨_, hrun, hended, _, _, rfl, ?_, ⟨_, rfl⟩, hW, hsame.mono (by decide) (by decide)⟩)
      show own_QP Z p1 a_NEW a_COMPLETED a_ERROR a_PROCESSING r h0 n0 _ T4.heap _
      rw [e4]
      exact ⟨own_rr (by first | simpa only [own_pick, hc1_1, hc10_3, if_true, if_false] using hp | simpa [own_pick, hc1_1, hc10_3] using hp), N0, rfl⟩
    · refine own_st (fun _ k => XS.icmpYes X0.here hx rfl (pc0 := 10) (pc' := 17) rfl (hb hby own_dmethod_2_code_10) rfl (feq hc10_3).2 (by decide) (by decide) k) ?_
      show own_Go p.tables e below RR (s₁.setTop (mkF m 17 #[.val (.int p1)] []))
      refine own_st (fun _ k => XS.iloadN X0.here hx rfl (hb hby own_dmethod_2_code_17) rfl k) ?_
      show own_Go p.tables e below RR (s₁.setTop (mkF m 18 #[.val (.int p1)] [(.int p1)]))
      refine own_st (fun _ k => XS.iconst X0.here hx rfl (hb hby own_dmethod_2_code_18) k) ?_
      show own_Go p.tables e below RR (s₁.setTop (mkF m 19 #[.val (.int p1)] [(.int (2 : Int32)), (.int p1)]))
      by_cases hc19_5 : p1 = (2 : Int32)
      · refine own_st (fun _ k => XS.icmpNo X0.here hx rfl (hb hby own_dmethod_2_code_19) rfl (teq hc19_5).2 k) ?_
        show own_Go p.tables e below RR (s₁.setTop (mkF m 22 #[.val (.int p1)] []))
        obtain ⟨T6, X6, e6, st6⟩ := getS2 X0 hx hZ hown (host := "") (Or.inl (hw _ (List.mem_of_getElem? (i := 50) rfl))) Via.refl e0 S_COMPLETED (g := (mkF m 22 #[.val (.int p1)] [])) rfl (hb hby own_dmethod_2_code_22)
        refine own_st st6 ?_
        show own_Go p.tables e below RR (T6.setTop (mkF m 25 #[.val (.int p1)] [(.ref a_COMPLETED)]))
        obtain ⟨fs, hrt_, hrun, hended, hW, hsame⟩ := X6.leave (v := some (.ref a_COMPLETED)) (fun h => by rw [Bd.returns] at h; cases h)
        refine own_fin (retOut X6 hx Bd.returns rfl (Or.inr (Or.inr (Or.inr (Or.inr ⟨rfl, rfl, rfl⟩)))) (hb hby own_dmethod_2_code_25) hrt_) (hRR _ ⟨_, hrun, hended, _, _, rfl, ?_, ⟨_, rfl⟩, hW, hsame.mono (by decide) (by decide)⟩)
        show own_QP Z p1 a_NEW a_COMPLETED a_ERROR a_PROCESSING r h0 n0 _ T6.heap _
        rw [e6]
        exact ⟨own_rr (by first | simpa only [own_pick, hc1_1, hc10_3, hc19_5, if_true, if_false] using hp | simpa [own_pick, hc1_1, hc10_3, hc19_5] using hp), N0, rfl⟩
      · refine own_st (fun _ k => XS.icmpYes X0.here hx rfl (pc0 := 19) (pc' := 26) rfl (hb hby own_dmethod_2_code_19) rfl (feq hc19_5).2 (by decide) (by decide) k) ?_
        show own_Go p.tables e below RR (s₁.setTop (mkF m 26 #[.val (.int p1)] []))
        obtain ⟨T7, X7, e7, st7⟩ := getS2 X0 hx hZ hown (host := "") (Or.inl (hw _ (List.mem_of_getElem? (i := 49) rfl))) Via.refl e0 S_ERROR (g := (mkF m 26 #[.val (.int p1)] [])) rfl (hb hby own_dmethod_2_code_26)
        refine own_st st7 ?_
        show own_Go p.tables e below RR (T7.setTop (mkF m 29 #[.val (.int p1)] [(.ref a_ERROR)]))
        obtain ⟨fs, hrt_, hrun, hended, hW, hsame⟩ := X7.leave (v := some (.ref a_ERROR)) (fun h => by rw [Bd.returns] at h; cases h)
        refine own_fin (retOut X7 hx Bd.returns rfl (Or.inr (Or.inr (Or.inr (Or.inr ⟨rfl, rfl, rfl⟩)))) (hb hby own_dmethod_2_code_29) hrt_) (hRR _ ⟨_, hrun, hended, _, _, rfl, ?_, ⟨_, rfl⟩, hW, hsame.mono (by decide) (by decide)⟩)
        show own_QP Z p1 a_NEW a_COMPLETED a_ERROR a_PROCESSING r h0 n0 _ T7.heap _
        rw [e7]
        exact ⟨own_rr (by first | simpa only [own_pick, hc1_1, hc10_3, hc19_5, if_true, if_false] using hp | simpa [own_pick, hc1_1, hc10_3, hc19_5] using hp), N0, rfl⟩
theorem own_pn_com_example_unstor_unstor_JobStatus : plainName "com/example/unstor/unstor/JobStatus" = true := by first | (simp [plainName, overriddenIn]; done) | decide +kernel
theorem own_dprog_19_method_4_code_0 : decode prog_19_method_4_code 0 = .ok (.aload_n 0, 1) := by decide +kernel
theorem own_dprog_19_method_4_code_1 : decode prog_19_method_4_code 1 = .ok (.getstatic 10, 3) := by decide +kernel
theorem own_dprog_19_method_4_code_4 : decode prog_19_method_4_code 4 = .ok (.if_acmp .eq 10, 3) := by decide +kernel
theorem own_dprog_19_method_4_code_14 : decode prog_19_method_4_code 14 = .ok (.iconst 1, 1) := by decide +kernel
theorem own_dprog_19_method_4_code_15 : decode prog_19_method_4_code 15 = .ok (.goto 4, 3) := by decide +kernel
theorem own_dprog_19_method_4_code_19 : decode prog_19_method_4_code 19 = .ok (.ireturn, 1) := by decide +kernel
theorem own_dprog_19_method_4_code_7 : decode prog_19_method_4_code 7 = .ok (.aload_n 0, 1) := by decide +kernel
theorem own_dprog_19_method_4_code_8 : decode prog_19_method_4_code 8 = .ok (.getstatic 13, 3) := by decide +kernel
theorem own_dprog_19_method_4_code_11 : decode prog_19_method_4_code 11 = .ok (.if_acmp .ne 7, 3) := by decide +kernel
theorem own_dprog_19_method_4_code_18 : decode prog_19_method_4_code 18 = .ok (.iconst 0, 1) := by decide +kernel
theorem own_efF (m : MethodId) (o : Addr) : entryFrame m #[(.ref o)] 1 = mkF m 0 #[.val (.ref o)] [] := by first | (simp [entryFrame, mkF, argsToLocals, Value.category]; done) | rfl
def own_QF (Z : State) (o : Addr) (a_COMPLETED : Addr) (a_ERROR : Addr) (r : Int32) (h0 : Heap) (n0 : Nat) (rv__ : Option Value) (h : Heap) (rL__ : List Loc) : Prop := rv__ = some (.int r) ∧ Fr n0 rL__ ∧ h = h0
abbrev own_RF : Room := { frames := 0, cells := 0, slots := 0, locals := 0 }
set_option maxRecDepth 65536 in
set_option maxHeartbeats 40000000 in
theorem own_rmF (l : Launch) (Z : State) (a0 : Array Value) (hw : ∀ d ∈ tables_1, d.before a0 Z = true) (ws : List Jvm.Cond) (o : Addr) (a_COMPLETED : Addr) (a_ERROR : Addr) (r : Int32) (h0 : Heap) (n0 : Nat) (Z0 : n0 ≤ h0.size) (S_COMPLETED : Sta Z h0 "com/example/unstor/unstor/JobStatus" "COMPLETED" "Lcom/example/unstor/unstor/JobStatus;" (.ref a_COMPLETED)) (S_ERROR : Sta Z h0 "com/example/unstor/unstor/JobStatus" "ERROR" "Lcom/example/unstor/unstor/JobStatus;" (.ref a_ERROR)) (hv : (if o = a_COMPLETED then (1 : Int32) else if o = a_ERROR then 1 else 0) = r) :
    MetFree l (⟨"com/example/unstor/unstor/JobStatus", "isFinished", "()Z"⟩ : MethodName) (head1 (Jvm.Cond.code (⟨"com/example/unstor/unstor/JobStatus", "isFinished", "()Z"⟩ : MethodName) prog_19_method_4_code 1 (some .boolean) :: ws) own_RF) (fun aa__ U => aa__ = #[(.ref o)] ∧ Z.Warmed39 U.vm ∧ U.heap = h0) (fun _ _ _ _ _ => True) (fun _ U oc_ U' => ∃ rv__ rL__, oc_ = .returned rv__ ∧ own_QF Z o a_COMPLETED a_ERROR r h0 n0 rv__ U'.heap rL__ ∧ FrameEnd U oc_ U' rL__ own_RF.cells own_RF.slots) := by
  refine MetFree.of_bodySF (plainFor_of_name own_pn_com_example_unstor_unstor_JobStatus) hisR ?_
  intro p e s m args below meth c s₁ Bd hml0 hP hK
  obtain ⟨rfl, hZ, hh⟩ := hP
  have hx := Bd.exec
  have hby := Bd.bytes
  have hml : c.maxLocals = 1 := hml0
  have hown : s.vm.findClass "com/example/unstor/unstor/JobStatus" = some m.cls := findClass_of_methodNamed Bd.named
  have hnm := (name_of_methodNamed Bd.named Bd.method).1
  have X0 : Stand p l e own_RF s m #[(.ref o)] below meth c s₁ [] 0 0 := Stand.of_body Bd
  have e0 : s₁.heap = h0 := by rw [← hh, Bd.state]; rfl
  have N0 := Fr.nil n0
  refine own_in (fun _ k => castTop (own_efF m o) k) ?_
  intro RR hRR
  show own_Go p.tables e below RR (s₁.setTop (mkF m 0 #[.val (.ref o)] []))
  refine own_st (fun _ k => XS.aloadN X0.here hx rfl (hb hby own_dprog_19_method_4_code_0) rfl rfl k) ?_
  show own_Go p.tables e below RR (s₁.setTop (mkF m 1 #[.val (.ref o)] [(.ref o)]))
  obtain ⟨T1, X1, e1, st1⟩ := getS2 X0 hx hZ hown (host := "") (Or.inl (hw _ (List.mem_of_getElem? (i := 12) rfl))) Via.refl e0 S_COMPLETED (g := (mkF m 1 #[.val (.ref o)] [(.ref o)])) rfl (hb hby own_dprog_19_method_4_code_1)
  refine own_st st1 ?_
  show own_Go p.tables e below RR (T1.setTop (mkF m 4 #[.val (.ref o)] [(.ref a_COMPLETED), (.ref o)]))
  by_cases hc4_2 : o = a_COMPLETED
  · refine own_st (fun _ k => Jvm.RoadKit.acmp (g := (mkF m 4 #[.val (.ref o)] [(.ref a_COMPLETED), (.ref o)])) X1 hx rfl rfl rfl (pc0 := 4) (pc' := 14) (same := true) rfl (hb hby own_dprog_19_method_4_code_4) rfl (decide_eq_true (congrArg Value.ref hc4_2)) (by decide) (by decide) k) ?_
    show own_Go p.tables e below RR (T1.setTop (mkF m 14 #[.val (.ref o)] []))
    refine own_st (fun _ k => XS.iconst X1.here hx rfl (hb hby own_dprog_19_method_4_code_14) k) ?_
    show own_Go p.tables e below RR (T1.setTop (mkF m 15 #[.val (.ref o)] [(.int (1 : Int32))]))
    refine own_st (fun _ k => XS.goto X1.here hx rfl (pc0 := 15) (pc' := 19) rfl (hb hby own_dprog_19_method_4_code_15) (by decide) (by decide) k) ?_
    show own_Go p.tables e below RR (T1.setTop (mkF m 19 #[.val (.ref o)] [(.int (1 : Int32))]))
    obtain ⟨fs, hrt_, hrun, hended, hW, hsame⟩ := X1.leave (v := some (.int (1 : Int32))) (fun h => by rw [Bd.returns] at h; cases h)
    refine own_fin (retN X1 hx (t := .boolean) Bd.returns (by simp) (hb hby own_dprog_19_method_4_code_19) hrt_) (hRR _ ⟨_, hrun, hended, _, _, rfl, ?_, ⟨_, rfl⟩, hW, hsame.mono (by decide) (by decide)⟩)
    show own_QF Z o a_COMPLETED a_ERROR r h0 n0 _ T1.heap _
    rw [e1]
    exact ⟨own_ri (by first | simpa only [hc4_2, if_true, if_false] using hv | simpa [hc4_2] using hv), N0, rfl⟩
  · refine own_st (fun _ k => Jvm.RoadKit.acmp (g := (mkF m 4 #[.val (.ref o)] [(.ref a_COMPLETED), (.ref o)])) X1 hx rfl rfl rfl (pc0 := 4) (pc' := 7) (same := false) rfl (hb hby own_dprog_19_method_4_code_4) rfl (decide_eq_false fun q => hc4_2 (Value.ref.inj q)) (by decide) (by decide) k) ?_
    show own_Go p.tables e below RR (T1.setTop (mkF m 7 #[.val (.ref o)] []))
    refine own_st (fun _ k => XS.aloadN X1.here hx rfl (hb hby own_dprog_19_method_4_code_7) rfl rfl k) ?_
    show own_Go p.tables e below RR (T1.setTop (mkF m 8 #[.val (.ref o)] [(.ref o)]))
    obtain ⟨T3, X3, e3, st3⟩ := getS2 X1 hx hZ hown (host := "") (Or.inl (hw _ (List.mem_of_getElem? (i := 14) rfl))) Via.refl e1 S_ERROR (g := (mkF m 8 #[.val (.ref o)] [(.ref o)])) rfl (hb hby own_dprog_19_method_4_code_8)
    refine own_st st3 ?_
    show own_Go p.tables e below RR (T3.setTop (mkF m 11 #[.val (.ref o)] [(.ref a_ERROR), (.ref o)]))
    by_cases hc11_4 : o = a_ERROR
    · refine own_st (fun _ k => Jvm.RoadKit.acmp (g := (mkF m 11 #[.val (.ref o)] [(.ref a_ERROR), (.ref o)])) X3 hx rfl rfl rfl (pc0 := 11) (pc' := 14) (same := true) rfl (hb hby own_dprog_19_method_4_code_11) rfl (decide_eq_true (congrArg Value.ref hc11_4)) (by decide) (by decide) k) ?_
      show own_Go p.tables e below RR (T3.setTop (mkF m 14 #[.val (.ref o)] []))
      refine own_st (fun _ k => XS.iconst X3.here hx rfl (hb hby own_dprog_19_method_4_code_14) k) ?_
      show own_Go p.tables e below RR (T3.setTop (mkF m 15 #[.val (.ref o)] [(.int (1 : Int32))]))
      refine own_st (fun _ k => XS.goto X3.here hx rfl (pc0 := 15) (pc' := 19) rfl (hb hby own_dprog_19_method_4_code_15) (by decide) (by decide) k) ?_
      show own_Go p.tables e below RR (T3.setTop (mkF m 19 #[.val (.ref o)] [(.int (1 : Int32))]))
      obtain ⟨fs, hrt_, hrun, hended, hW, hsame⟩ := X3.leave (v := some (.int (1 : Int32))) (fun h => by rw [Bd.returns] at h; cases h)
      refine own_fin (retN X3 hx (t := .boolean) Bd.returns (by simp) (hb hby own_dprog_19_method_4_code_19) hrt_) (hRR _ ⟨_, hrun, hended, _, _, rfl, ?_, ⟨_, rfl⟩, hW, hsame.mono (by decide) (by decide)⟩)
      show own_QF Z o a_COMPLETED a_ERROR r h0 n0 _ T3.heap _
      rw [e3]
      exact ⟨own_ri (by first | simpa only [hc4_2, hc11_4, if_true, if_false] using hv | simpa [hc4_2, hc11_4] using hv), N0, rfl⟩
    · refine own_st (fun _ k => Jvm.RoadKit.acmp (g := (mkF m 11 #[.val (.ref o)] [(.ref a_ERROR), (.ref o)])) X3 hx rfl rfl rfl (pc0 := 11) (pc' := 18) (same := false) rfl (hb hby own_dprog_19_method_4_code_11) rfl (decide_eq_false fun q => hc11_4 (Value.ref.inj q)) (by decide) (by decide) k) ?_
      show own_Go p.tables e below RR (T3.setTop (mkF m 18 #[.val (.ref o)] []))
      refine own_st (fun _ k => XS.iconst X3.here hx rfl (hb hby own_dprog_19_method_4_code_18) k) ?_
      show own_Go p.tables e below RR (T3.setTop (mkF m 19 #[.val (.ref o)] [(.int (0 : Int32))]))
      obtain ⟨fs, hrt_, hrun, hended, hW, hsame⟩ := X3.leave (v := some (.int (0 : Int32))) (fun h => by rw [Bd.returns] at h; cases h)
      refine own_fin (retN X3 hx (t := .boolean) Bd.returns (by simp) (hb hby own_dprog_19_method_4_code_19) hrt_) (hRR _ ⟨_, hrun, hended, _, _, rfl, ?_, ⟨_, rfl⟩, hW, hsame.mono (by decide) (by decide)⟩)
      show own_QF Z o a_COMPLETED a_ERROR r h0 n0 _ T3.heap _
      rw [e3]
      exact ⟨own_ri (by first | simpa only [hc4_2, hc11_4, if_true, if_false] using hv | simpa [hc4_2, hc11_4] using hv), N0, rfl⟩
theorem own_dmethod_3_code_0 : decode method_3_code 0 = .ok (.iload_n 0, 1) := by decide +kernel
theorem own_dmethod_3_code_1 : decode method_3_code 1 = .ok (.ifCond .ne 5, 3) := by decide +kernel
theorem own_dmethod_3_code_4 : decode method_3_code 4 = .ok (.iconst 0, 1) := by decide +kernel
theorem own_dmethod_3_code_5 : decode method_3_code 5 = .ok (.ireturn, 1) := by decide +kernel
theorem own_dmethod_3_code_6 : decode method_3_code 6 = .ok (.iload_n 0, 1) := by decide +kernel
theorem own_dmethod_3_code_7 : decode method_3_code 7 = .ok (.iconst 1, 1) := by decide +kernel
theorem own_dmethod_3_code_8 : decode method_3_code 8 = .ok (.if_icmp .ne 5, 3) := by decide +kernel
theorem own_dmethod_3_code_11 : decode method_3_code 11 = .ok (.iconst 0, 1) := by decide +kernel
theorem own_dmethod_3_code_12 : decode method_3_code 12 = .ok (.ireturn, 1) := by decide +kernel
theorem own_dmethod_3_code_13 : decode method_3_code 13 = .ok (.iload_n 0, 1) := by decide +kernel
theorem own_dmethod_3_code_14 : decode method_3_code 14 = .ok (.iconst 2, 1) := by decide +kernel
theorem own_dmethod_3_code_15 : decode method_3_code 15 = .ok (.if_icmp .ne 5, 3) := by decide +kernel
theorem own_dmethod_3_code_18 : decode method_3_code 18 = .ok (.iconst 1, 1) := by decide +kernel
theorem own_dmethod_3_code_19 : decode method_3_code 19 = .ok (.ireturn, 1) := by decide +kernel
theorem own_dmethod_3_code_20 : decode method_3_code 20 = .ok (.iconst 1, 1) := by decide +kernel
theorem own_dmethod_3_code_21 : decode method_3_code 21 = .ok (.ireturn, 1) := by decide +kernel
theorem own_efX (m : MethodId) (p1 : Int32) : entryFrame m #[(.int p1)] 1 = mkF m 0 #[.val (.int p1)] [] := by first | (simp [entryFrame, mkF, argsToLocals, Value.category]; done) | rfl
def own_QX (Z : State) (p1 : Int32) (r : Int32) (h0 : Heap) (n0 : Nat) (rv__ : Option Value) (h : Heap) (rL__ : List Loc) : Prop := rv__ = some (.int r) ∧ Fr n0 rL__ ∧ h = h0
abbrev own_RX : Room := { frames := 0, cells := 0, slots := 0, locals := 0 }
set_option maxRecDepth 65536 in
set_option maxHeartbeats 40000000 in
theorem own_rmX (l : Launch) (Z : State) (a0 : Array Value) (hw : ∀ d ∈ tables_1, d.before a0 Z = true) (ws : List Jvm.Cond) (p1 : Int32) (r : Int32) (h0 : Heap) (n0 : Nat) (Z0 : n0 ≤ h0.size) (hv : own_exp p1 = r) :
    MetFree l (⟨"com/example/unstor/unstor/JobStatusIsFinishedPinLaw", "expected", "(I)Z"⟩ : MethodName) (head1 (Jvm.Cond.code (⟨"com/example/unstor/unstor/JobStatusIsFinishedPinLaw", "expected", "(I)Z"⟩ : MethodName) method_3_code 1 (some .boolean) :: ws) own_RX) (fun aa__ U => aa__ = #[(.int p1)] ∧ Z.Warmed39 U.vm ∧ U.heap = h0) (fun _ _ _ _ _ => True) (fun _ U oc_ U' => ∃ rv__ rL__, oc_ = .returned rv__ ∧ own_QX Z p1 r h0 n0 rv__ U'.heap rL__ ∧ FrameEnd U oc_ U' rL__ own_RX.cells own_RX.slots) := by
  refine MetFree.of_bodySF (plainFor_of_name own_pn_com_example_unstor_unstor_JobStatusIsFinishedPinLaw) hisR ?_
  intro p e s m args below meth c s₁ Bd hml0 hP hK
  obtain ⟨rfl, hZ, hh⟩ := hP
  have hx := Bd.exec
  have hby := Bd.bytes
  have hml : c.maxLocals = 1 := hml0
  have hown : s.vm.findClass "com/example/unstor/unstor/JobStatusIsFinishedPinLaw" = some m.cls := findClass_of_methodNamed Bd.named
  have hnm := (name_of_methodNamed Bd.named Bd.method).1
  have X0 : Stand p l e own_RX s m #[(.int p1)] below meth c s₁ [] 0 0 := Stand.of_body Bd
  have e0 : s₁.heap = h0 := by rw [← hh, Bd.state]; rfl
  have N0 := Fr.nil n0
  refine own_in (fun _ k => castTop (own_efX m p1) k) ?_
  intro RR hRR
  show own_Go p.tables e below RR (s₁.setTop (mkF m 0 #[.val (.int p1)] []))
  refine own_st (fun _ k => XS.iloadN X0.here hx rfl (hb hby own_dmethod_3_code_0) rfl k) ?_
  show own_Go p.tables e below RR (s₁.setTop (mkF m 1 #[.val (.int p1)] [(.int p1)]))
  by_cases hc1_1 : p1 = (0 : Int32)
  · refine own_st (fun _ k => XS.ifNo X0.here hx rfl (hb hby own_dmethod_3_code_1) rfl ((if0 _ _).trans (teq hc1_1).2) k) ?_
    show own_Go p.tables e below RR (s₁.setTop (mkF m 4 #[.val (.int p1)] []))
    refine own_st (fun _ k => XS.iconst X0.here hx rfl (hb hby own_dmethod_3_code_4) k) ?_
    show own_Go p.tables e below RR (s₁.setTop (mkF m 5 #[.val (.int p1)] [(.int (0 : Int32))]))
    obtain ⟨fs, hrt_, hrun, hended, hW, hsame⟩ := X0.leave (v := some (.int (0 : Int32))) (fun h => by rw [Bd.returns] at h; cases h)
    refine own_fin (retN X0 hx (t := .boolean) Bd.returns (by simp) (hb hby own_dmethod_3_code_5) hrt_) (hRR _ ⟨_, hrun, hended, _, _, rfl, ?_, ⟨_, rfl⟩, hW, hsame.mono (by decide) (by decide)⟩)
    show own_QX Z p1 r h0 n0 _ s₁.heap _
    rw [e0]
    exact ⟨own_ri (by first | simpa only [own_exp, hc1_1, if_true, if_false] using hv | simpa [own_exp, hc1_1] using hv), N0, rfl⟩
  · refine own_st (fun _ k => XS.ifYes X0.here hx rfl (pc0 := 1) (pc' := 6) rfl (hb hby own_dmethod_3_code_1) rfl ((if0 _ _).trans (feq hc1_1).2) (by decide) (by decide) k) ?_
    show own_Go p.tables e below RR (s₁.setTop (mkF m 6 #[.val (.int p1)] []))
    refine own_st (fun _ k => XS.iloadN X0.here hx rfl (hb hby own_dmethod_3_code_6) rfl k) ?_
    show own_Go p.tables e below RR (s₁.setTop (mkF m 7 #[.val (.int p1)] [(.int p1)]))
    refine own_st (fun _ k => XS.iconst X0.here hx rfl (hb hby own_dmethod_3_code_7) k) ?_
    show own_Go p.tables e below RR (s₁.setTop (mkF m 8 #[.val (.int p1)] [(.int (1 : Int32)), (.int p1)]))
    by_cases hc8_2 : p1 = (1 : Int32)
    · refine own_st (fun _ k => XS.icmpNo X0.here hx rfl (hb hby own_dmethod_3_code_8) rfl (teq hc8_2).2 k) ?_
      show own_Go p.tables e below RR (s₁.setTop (mkF m 11 #[.val (.int p1)] []))
      refine own_st (fun _ k => XS.iconst X0.here hx rfl (hb hby own_dmethod_3_code_11) k) ?_
      show own_Go p.tables e below RR (s₁.setTop (mkF m 12 #[.val (.int p1)] [(.int (0 : Int32))]))
      obtain ⟨fs, hrt_, hrun, hended, hW, hsame⟩ := X0.leave (v := some (.int (0 : Int32))) (fun h => by rw [Bd.returns] at h; cases h)
      refine own_fin (retN X0 hx (t := .boolean) Bd.returns (by simp) (hb hby own_dmethod_3_code_12) hrt_) (hRR _ ⟨_, hrun, hended, _, _, rfl, ?_, ⟨_, rfl⟩, hW, hsame.mono (by decide) (by decide)⟩)
      show own_QX Z p1 r h0 n0 _ s₁.heap _
      rw [e0]
      exact ⟨own_ri (by first | simpa only [own_exp, hc1_1, hc8_2, if_true, if_false] using hv | simpa [own_exp, hc1_1, hc8_2] using hv), N0, rfl⟩
    · refine own_st (fun _ k => XS.icmpYes X0.here hx rfl (pc0 := 8) (pc' := 13) rfl (hb hby own_dmethod_3_code_8) rfl (feq hc8_2).2 (by decide) (by decide) k) ?_
      show own_Go p.tables e below RR (s₁.setTop (mkF m 13 #[.val (.int p1)] []))
      refine own_st (fun _ k => XS.iloadN X0.here hx rfl (hb hby own_dmethod_3_code_13) rfl k) ?_
      show own_Go p.tables e below RR (s₁.setTop (mkF m 14 #[.val (.int p1)] [(.int p1)]))
      refine own_st (fun _ k => XS.iconst X0.here hx rfl (hb hby own_dmethod_3_code_14) k) ?_
      show own_Go p.tables e below RR (s₁.setTop (mkF m 15 #[.val (.int p1)] [(.int (2 : Int32)), (.int p1)]))
      by_cases hc15_3 : p1 = (2 : Int32)
      · refine own_st (fun _ k => XS.icmpNo X0.here hx rfl (hb hby own_dmethod_3_code_15) rfl (teq hc15_3).2 k) ?_
        show own_Go p.tables e below RR (s₁.setTop (mkF m 18 #[.val (.int p1)] []))
        refine own_st (fun _ k => XS.iconst X0.here hx rfl (hb hby own_dmethod_3_code_18) k) ?_
        show own_Go p.tables e below RR (s₁.setTop (mkF m 19 #[.val (.int p1)] [(.int (1 : Int32))]))
        obtain ⟨fs, hrt_, hrun, hended, hW, hsame⟩ := X0.leave (v := some (.int (1 : Int32))) (fun h => by rw [Bd.returns] at h; cases h)
        refine own_fin (retN X0 hx (t := .boolean) Bd.returns (by simp) (hb hby own_dmethod_3_code_19) hrt_) (hRR _ ⟨_, hrun, hended, _, _, rfl, ?_, ⟨_, rfl⟩, hW, hsame.mono (by decide) (by decide)⟩)
        show own_QX Z p1 r h0 n0 _ s₁.heap _
        rw [e0]
        exact ⟨own_ri (by first | simpa only [own_exp, hc1_1, hc8_2, hc15_3, if_true, if_false] using hv | simpa [own_exp, hc1_1, hc8_2, hc15_3] using hv), N0, rfl⟩
      · refine own_st (fun _ k => XS.icmpYes X0.here hx rfl (pc0 := 15) (pc' := 20) rfl (hb hby own_dmethod_3_code_15) rfl (feq hc15_3).2 (by decide) (by decide) k) ?_
        show own_Go p.tables e below RR (s₁.setTop (mkF m 20 #[.val (.int p1)] []))
        refine own_st (fun _ k => XS.iconst X0.here hx rfl (hb hby own_dmethod_3_code_20) k) ?_
        show own_Go p.tables e below RR (s₁.setTop (mkF m 21 #[.val (.int p1)] [(.int (1 : Int32))]))
        obtain ⟨fs, hrt_, hrun, hended, hW, hsame⟩ := X0.leave (v := some (.int (1 : Int32))) (fun h => by rw [Bd.returns] at h; cases h)
        refine own_fin (retN X0 hx (t := .boolean) Bd.returns (by simp) (hb hby own_dmethod_3_code_21) hrt_) (hRR _ ⟨_, hrun, hended, _, _, rfl, ?_, ⟨_, rfl⟩, hW, hsame.mono (by decide) (by decide)⟩)
        show own_QX Z p1 r h0 n0 _ s₁.heap _
        rw [e0]
        exact ⟨own_ri (by first | simpa only [own_exp, hc1_1, hc8_2, hc15_3, if_true, if_false] using hv | simpa [own_exp, hc1_1, hc8_2, hc15_3] using hv), N0, rfl⟩
theorem own_dprog_19_method_5_code_0 : decode prog_19_method_5_code 0 = .ok (.aload_n 0, 1) := by decide +kernel
theorem own_dprog_19_method_5_code_1 : decode prog_19_method_5_code 1 = .ok (.getfield 35, 3) := by decide +kernel
theorem own_dprog_19_method_5_code_4 : decode prog_19_method_5_code 4 = .ok (.areturn, 1) := by decide +kernel
theorem own_efW (m : MethodId) (o : Addr) : entryFrame m #[(.ref o)] 1 = mkF m 0 #[.val (.ref o)] [] := by first | (simp [entryFrame, mkF, argsToLocals, Value.category]; done) | rfl
def own_QW (Z : State) (o : Addr) (r : Addr) (h0 : Heap) (n0 : Nat) (rv__ : Option Value) (h : Heap) (rL__ : List Loc) : Prop := rv__ = some (.ref r) ∧ Fr n0 rL__ ∧ h = h0
abbrev own_RW : Room := { frames := 0, cells := 0, slots := 0, locals := 0 }
set_option maxRecDepth 65536 in
set_option maxHeartbeats 40000000 in
theorem own_rmW (l : Launch) (Z : State) (a0 : Array Value) (hw : ∀ d ∈ tables_1, d.before a0 Z = true) (ws : List Jvm.Cond) (o : Addr) (r : Addr) (h0 : Heap) (n0 : Nat) (Z0 : n0 ≤ h0.size) (F : Fld Z h0 o "com/example/unstor/unstor/JobStatus" "workOrderName" "Ljava/lang/String;" (.ref r)) :
    MetFree l (⟨"com/example/unstor/unstor/JobStatus", "workOrderName", "()Ljava/lang/String;"⟩ : MethodName) (head1 (Jvm.Cond.code (⟨"com/example/unstor/unstor/JobStatus", "workOrderName", "()Ljava/lang/String;"⟩ : MethodName) prog_19_method_5_code 1 (some (.object "java/lang/String")) :: ws) own_RW) (fun aa__ U => aa__ = #[(.ref o)] ∧ Z.Warmed39 U.vm ∧ U.heap = h0) (fun _ _ _ _ _ => True) (fun _ U oc_ U' => ∃ rv__ rL__, oc_ = .returned rv__ ∧ own_QW Z o r h0 n0 rv__ U'.heap rL__ ∧ FrameEnd U oc_ U' rL__ own_RW.cells own_RW.slots) := by
  refine MetFree.of_bodySF (plainFor_of_name own_pn_com_example_unstor_unstor_JobStatus) hisR ?_
  intro p e s m args below meth c s₁ Bd hml0 hP hK
  obtain ⟨rfl, hZ, hh⟩ := hP
  have hx := Bd.exec
  have hby := Bd.bytes
  have hml : c.maxLocals = 1 := hml0
  have hown : s.vm.findClass "com/example/unstor/unstor/JobStatus" = some m.cls := findClass_of_methodNamed Bd.named
  have hnm := (name_of_methodNamed Bd.named Bd.method).1
  have X0 : Stand p l e own_RW s m #[(.ref o)] below meth c s₁ [] 0 0 := Stand.of_body Bd
  have e0 : s₁.heap = h0 := by rw [← hh, Bd.state]; rfl
  have N0 := Fr.nil n0
  refine own_in (fun _ k => castTop (own_efW m o) k) ?_
  intro RR hRR
  show own_Go p.tables e below RR (s₁.setTop (mkF m 0 #[.val (.ref o)] []))
  refine own_st (fun _ k => XS.aloadN X0.here hx rfl (hb hby own_dprog_19_method_5_code_0) rfl rfl k) ?_
  show own_Go p.tables e below RR (s₁.setTop (mkF m 1 #[.val (.ref o)] [(.ref o)]))
  obtain ⟨T1, X1, e1, st1⟩ := getF X0 hx hZ hown (host := "") (Or.inl (hw _ (List.mem_of_getElem? (i := 24) rfl))) Via.refl e0 F (g := (mkF m 1 #[.val (.ref o)] [(.ref o)])) rfl rfl (hb hby own_dprog_19_method_5_code_1)
  refine own_st st1 ?_
  show own_Go p.tables e below RR (T1.setTop (mkF m 4 #[.val (.ref o)] [(.ref r)]))
  obtain ⟨fs, hrt_, hrun, hended, hW, hsame⟩ := X1.leave (v := some (.ref r)) (fun h => by rw [Bd.returns] at h; cases h)
  refine own_fin (retOut X1 hx Bd.returns rfl (Or.inr (Or.inr (Or.inr (Or.inr ⟨rfl, rfl, rfl⟩)))) (hb hby own_dprog_19_method_5_code_4) hrt_) (hRR _ ⟨_, hrun, hended, _, _, rfl, ?_, ⟨_, rfl⟩, hW, hsame.mono (by decide) (by decide)⟩)
  show own_QW Z o r h0 n0 _ T1.heap _
  rw [e1]
  exact ⟨rfl, N0, rfl⟩
theorem own_pn_java_lang_StringLatin1 : plainName "java/lang/StringLatin1" = true := by first | (simp [plainName, overriddenIn]; done) | decide +kernel
theorem own_djdk_43_method_13_code_0 : decode jdk_43_method_13_code 0 = .ok (.aload_n 0, 1) := by decide +kernel
theorem own_djdk_43_method_13_code_1 : decode jdk_43_method_13_code 1 = .ok (.arraylength, 1) := by decide +kernel
theorem own_djdk_43_method_13_code_2 : decode jdk_43_method_13_code 2 = .ok (.aload_n 1, 1) := by decide +kernel
theorem own_djdk_43_method_13_code_3 : decode jdk_43_method_13_code 3 = .ok (.arraylength, 1) := by decide +kernel
theorem own_djdk_43_method_13_code_4 : decode jdk_43_method_13_code 4 = .ok (.if_icmp .ne 30, 3) := by decide +kernel
theorem own_djdk_43_method_13_code_34 : decode jdk_43_method_13_code 34 = .ok (.iconst 0, 1) := by decide +kernel
theorem own_djdk_43_method_13_code_35 : decode jdk_43_method_13_code 35 = .ok (.ireturn, 1) := by decide +kernel
theorem own_efLE0 (m : MethodId) (b1 : Addr) (b2 : Addr) : entryFrame m #[(.ref b1), (.ref b2)] 3 = mkF m 0 #[.val (.ref b1), .val (.ref b2), .unset] [] := by first | (simp [entryFrame, mkF, argsToLocals, Value.category]; done) | rfl
def own_QLE0 (Z : State) (b1 : Addr) (b2 : Addr) (k1 : ClassId) (k2 : ClassId) (h0 : Heap) (n0 : Nat) (rv__ : Option Value) (h : Heap) (rL__ : List Loc) : Prop := rv__ = some (.int (0 : Int32)) ∧ Fr n0 rL__ ∧ h = h0
abbrev own_RLE0 : Room := { frames := 0, cells := 0, slots := 0, locals := 0 }
set_option maxRecDepth 65536 in
set_option maxHeartbeats 40000000 in
theorem own_rmLE0 (l : Launch) (Z : State) (a0 : Array Value) (hw : ∀ d ∈ tables_1, d.before a0 Z = true) (ws : List Jvm.Cond) (b1 : Addr) (b2 : Addr) (k1 : ClassId) (k2 : ClassId) (h0 : Heap) (n0 : Nat) (Z0 : n0 ≤ h0.size) (AA1 : Arv Z h0 b1 k1 .byte (9 : Int32) [(.int (99 : Int32)), (.int (111 : Int32)), (.int (109 : Int32)), (.int (112 : Int32)), (.int (108 : Int32)), (.int (101 : Int32)), (.int (116 : Int32)), (.int (101 : Int32)), (.int (100 : Int32))] (.int (0 : Int32))) (AA2 : Arv Z h0 b2 k2 .byte (8 : Int32) [(.int (114 : Int32)), (.int (101 : Int32)), (.int (99 : Int32)), (.int (101 : Int32)), (.int (105 : Int32)), (.int (118 : Int32)), (.int (101 : Int32)), (.int (100 : Int32))] (.int (0 : Int32))) :
    MetFree l (⟨"java/lang/StringLatin1", "equals", "([B[B)Z"⟩ : MethodName) (head1 (Jvm.Cond.code (⟨"java/lang/StringLatin1", "equals", "([B[B)Z"⟩ : MethodName) jdk_43_method_13_code 3 (some .boolean) :: ws) own_RLE0) (fun aa__ U => aa__ = #[(.ref b1), (.ref b2)] ∧ Z.Warmed39 U.vm ∧ U.heap = h0) (fun _ _ _ _ _ => True) (fun _ U oc_ U' => ∃ rv__ rL__, oc_ = .returned rv__ ∧ own_QLE0 Z b1 b2 k1 k2 h0 n0 rv__ U'.heap rL__ ∧ FrameEnd U oc_ U' rL__ own_RLE0.cells own_RLE0.slots) := by
  refine MetFree.of_bodySF (plainFor_of_name own_pn_java_lang_StringLatin1) hisR ?_
  intro p e s m args below meth c s₁ Bd hml0 hP hK
  obtain ⟨rfl, hZ, hh⟩ := hP
  have hx := Bd.exec
  have hby := Bd.bytes
  have hml : c.maxLocals = 3 := hml0
  have hown : s.vm.findClass "java/lang/StringLatin1" = some m.cls := findClass_of_methodNamed Bd.named
  have hnm := (name_of_methodNamed Bd.named Bd.method).1
  have X0 : Stand p l e own_RLE0 s m #[(.ref b1), (.ref b2)] below meth c s₁ [] 0 0 := Stand.of_body Bd
  have e0 : s₁.heap = h0 := by rw [← hh, Bd.state]; rfl
  have N0 := Fr.nil n0
  refine own_in (fun _ k => castTop (own_efLE0 m b1 b2) k) ?_
  intro RR hRR
  show own_Go p.tables e below RR (s₁.setTop (mkF m 0 #[.val (.ref b1), .val (.ref b2), .unset] []))
  refine own_st (fun _ k => XS.aloadN X0.here hx rfl (hb hby own_djdk_43_method_13_code_0) rfl rfl k) ?_
  show own_Go p.tables e below RR (s₁.setTop (mkF m 1 #[.val (.ref b1), .val (.ref b2), .unset] [(.ref b1)]))
  obtain ⟨c1, A1, -, s1, m1, -, -⟩ := id AA1
  refine own_st (fun _ k => own_len X0 hx hZ e0 A1 s1 m1 (g := (mkF m 1 #[.val (.ref b1), .val (.ref b2), .unset] [(.ref b1)])) rfl rfl (hb hby own_djdk_43_method_13_code_1) k) ?_
  show own_Go p.tables e below RR (s₁.setTop (mkF m 2 #[.val (.ref b1), .val (.ref b2), .unset] [(.int (9 : Int32))]))
  refine own_st (fun _ k => XS.aloadN X0.here hx rfl (hb hby own_djdk_43_method_13_code_2) rfl rfl k) ?_
  show own_Go p.tables e below RR (s₁.setTop (mkF m 3 #[.val (.ref b1), .val (.ref b2), .unset] [(.ref b2), (.int (9 : Int32))]))
  obtain ⟨c2, A2, -, s2, m2, -, -⟩ := id AA2
  refine own_st (fun _ k => own_len X0 hx hZ e0 A2 s2 m2 (g := (mkF m 3 #[.val (.ref b1), .val (.ref b2), .unset] [(.ref b2), (.int (9 : Int32))])) rfl rfl (hb hby own_djdk_43_method_13_code_3) k) ?_
  show own_Go p.tables e below RR (s₁.setTop (mkF m 4 #[.val (.ref b1), .val (.ref b2), .unset] [(.int (8 : Int32)), (.int (9 : Int32))]))
  refine own_st (fun _ k => XS.icmpYes X0.here hx rfl (pc0 := 4) (pc' := 34) rfl (hb hby own_djdk_43_method_13_code_4) rfl (feq (by decide)).2 (by decide) (by decide) k) ?_
  show own_Go p.tables e below RR (s₁.setTop (mkF m 34 #[.val (.ref b1), .val (.ref b2), .unset] []))
  refine own_st (fun _ k => XS.iconst X0.here hx rfl (hb hby own_djdk_43_method_13_code_34) k) ?_
  show own_Go p.tables e below RR (s₁.setTop (mkF m 35 #[.val (.ref b1), .val (.ref b2), .unset] [(.int (0 : Int32))]))
  obtain ⟨fs, hrt_, hrun, hended, hW, hsame⟩ := X0.leave (v := some (.int (0 : Int32))) (fun h => by rw [Bd.returns] at h; cases h)
  refine own_fin (retN X0 hx (t := .boolean) Bd.returns (by simp) (hb hby own_djdk_43_method_13_code_35) hrt_) (hRR _ ⟨_, hrun, hended, _, _, rfl, ?_, ⟨_, rfl⟩, hW, hsame.mono (by decide) (by decide)⟩)
  show own_QLE0 Z b1 b2 k1 k2 h0 n0 _ s₁.heap _
  rw [e0]
  exact ⟨rfl, N0, rfl⟩
theorem own_pn_java_lang_String : plainName "java/lang/String" = true := by first | (simp [plainName, overriddenIn]; done) | decide +kernel
theorem own_djdk_42_method_66_code_0 : decode jdk_42_method_66_code 0 = .ok (.aload_n 0, 1) := by decide +kernel
theorem own_djdk_42_method_66_code_1 : decode jdk_42_method_66_code 1 = .ok (.aload_n 1, 1) := by decide +kernel
theorem own_djdk_42_method_66_code_2 : decode jdk_42_method_66_code 2 = .ok (.if_acmp .ne 5, 3) := by decide +kernel
theorem own_djdk_42_method_66_code_7 : decode jdk_42_method_66_code 7 = .ok (.aload_n 1, 1) := by decide +kernel
theorem own_djdk_42_method_66_code_8 : decode jdk_42_method_66_code 8 = .ok (.instanceof 10, 3) := by decide +kernel
theorem own_djdk_42_method_66_code_11 : decode jdk_42_method_66_code 11 = .ok (.ifCond .eq 43, 3) := by decide +kernel
theorem own_djdk_42_method_66_code_14 : decode jdk_42_method_66_code 14 = .ok (.aload_n 1, 1) := by decide +kernel
theorem own_djdk_42_method_66_code_15 : decode jdk_42_method_66_code 15 = .ok (.checkcast 10, 3) := by decide +kernel
theorem own_djdk_42_method_66_code_18 : decode jdk_42_method_66_code 18 = .ok (.astore_n 2, 1) := by decide +kernel
theorem own_djdk_42_method_66_code_19 : decode jdk_42_method_66_code 19 = .ok (.getstatic 38, 3) := by decide +kernel
theorem own_djdk_42_method_66_code_22 : decode jdk_42_method_66_code 22 = .ok (.ifCond .eq 14, 3) := by decide +kernel
theorem own_djdk_42_method_66_code_25 : decode jdk_42_method_66_code 25 = .ok (.aload_n 0, 1) := by decide +kernel
theorem own_djdk_42_method_66_code_26 : decode jdk_42_method_66_code 26 = .ok (.getfield 15, 3) := by decide +kernel
theorem own_djdk_42_method_66_code_29 : decode jdk_42_method_66_code 29 = .ok (.aload_n 2, 1) := by decide +kernel
theorem own_djdk_42_method_66_code_30 : decode jdk_42_method_66_code 30 = .ok (.getfield 15, 3) := by decide +kernel
theorem own_djdk_42_method_66_code_33 : decode jdk_42_method_66_code 33 = .ok (.if_icmp .ne 21, 3) := by decide +kernel
theorem own_djdk_42_method_66_code_36 : decode jdk_42_method_66_code 36 = .ok (.aload_n 0, 1) := by decide +kernel
theorem own_djdk_42_method_66_code_37 : decode jdk_42_method_66_code 37 = .ok (.getfield 9, 3) := by decide +kernel
theorem own_djdk_42_method_66_code_40 : decode jdk_42_method_66_code 40 = .ok (.aload_n 2, 1) := by decide +kernel
theorem own_djdk_42_method_66_code_41 : decode jdk_42_method_66_code 41 = .ok (.getfield 9, 3) := by decide +kernel
theorem own_pd___B_B_Z : parseMethodDescriptor "([B[B)Z" = some ⟨[(.array .byte), (.array .byte)], some .boolean⟩ := by decide +kernel
theorem own_djdk_42_method_66_code_44 : decode jdk_42_method_66_code 44 = .ok (.invokestatic 541, 3) := by decide +kernel
theorem own_djdk_42_method_66_code_47 : decode jdk_42_method_66_code 47 = .ok (.ifCond .eq 7, 3) := by decide +kernel
theorem own_djdk_42_method_66_code_54 : decode jdk_42_method_66_code 54 = .ok (.iconst 0, 1) := by decide +kernel
theorem own_djdk_42_method_66_code_55 : decode jdk_42_method_66_code 55 = .ok (.ireturn, 1) := by decide +kernel
theorem own_efEQ0 (m : MethodId) (o1 : Addr) (o2 : Addr) : entryFrame m #[(.ref o1), (.ref o2)] 3 = mkF m 0 #[.val (.ref o1), .val (.ref o2), .unset] [] := by first | (simp [entryFrame, mkF, argsToLocals, Value.category]; done) | rfl
def own_QEQ0 (Z : State) (o1 : Addr) (o2 : Addr) (b1 : Addr) (b2 : Addr) (k1 : ClassId) (k2 : ClassId) (cs : Int32) (h0 : Heap) (n0 : Nat) (rv__ : Option Value) (h : Heap) (rL__ : List Loc) : Prop := rv__ = some (.int (0 : Int32)) ∧ Fr n0 rL__ ∧ h = h0
abbrev own_REQ0 : Room := { frames := 1, cells := 0, slots := 0, locals := 14 }
set_option maxRecDepth 65536 in
set_option maxHeartbeats 40000000 in
theorem own_rmEQ0 (l : Launch) (Z : State) (a0 : Array Value) (hw : ∀ d ∈ tables_1, d.before a0 Z = true) (ws : List Jvm.Cond) (o1 : Addr) (o2 : Addr) (b1 : Addr) (b2 : Addr) (k1 : ClassId) (k2 : ClassId) (cs : Int32) (h0 : Heap) (n0 : Nat) (Z0 : n0 ≤ h0.size) (E2 : Exa Z h0 o2 "java/lang/String") (C1 : Fld Z h0 o1 "java/lang/String" "coder" "B" (.int (0 : Int32))) (C2 : Fld Z h0 o2 "java/lang/String" "coder" "B" (.int (0 : Int32))) (V1 : Fld Z h0 o1 "java/lang/String" "value" "[B" (.ref b1)) (V2 : Fld Z h0 o2 "java/lang/String" "value" "[B" (.ref b2)) (AA1 : Arv Z h0 b1 k1 .byte (9 : Int32) [(.int (99 : Int32)), (.int (111 : Int32)), (.int (109 : Int32)), (.int (112 : Int32)), (.int (108 : Int32)), (.int (101 : Int32)), (.int (116 : Int32)), (.int (101 : Int32)), (.int (100 : Int32))] (.int (0 : Int32))) (AA2 : Arv Z h0 b2 k2 .byte (8 : Int32) [(.int (114 : Int32)), (.int (101 : Int32)), (.int (99 : Int32)), (.int (101 : Int32)), (.int (105 : Int32)), (.int (118 : Int32)), (.int (101 : Int32)), (.int (100 : Int32))] (.int (0 : Int32))) (S0 : Sta Z h0 "java/lang/String" "COMPACT_STRINGS" "Z" (.int cs)) (hcs : ¬ cs = (0 : Int32)) (ne : ¬ o1 = o2) :
    MetFree l (⟨"java/lang/String", "equals", "(Ljava/lang/Object;)Z"⟩ : MethodName) (head1 (Jvm.Cond.code (⟨"java/lang/String", "equals", "(Ljava/lang/Object;)Z"⟩ : MethodName) jdk_42_method_66_code 3 (some .boolean) :: ws) own_REQ0) (fun aa__ U => aa__ = #[(.ref o1), (.ref o2)] ∧ Z.Warmed39 U.vm ∧ U.heap = h0) (fun _ _ _ _ _ => True) (fun _ U oc_ U' => ∃ rv__ rL__, oc_ = .returned rv__ ∧ own_QEQ0 Z o1 o2 b1 b2 k1 k2 cs h0 n0 rv__ U'.heap rL__ ∧ FrameEnd U oc_ U' rL__ own_REQ0.cells own_REQ0.slots) := by
  refine MetFree.of_bodySF (plainFor_of_name own_pn_java_lang_String) hisR ?_
  intro p e s m args below meth c s₁ Bd hml0 hP hK
  obtain ⟨rfl, hZ, hh⟩ := hP
  have hx := Bd.exec
  have hby := Bd.bytes
  have hml : c.maxLocals = 3 := hml0
  have hown : s.vm.findClass "java/lang/String" = some m.cls := findClass_of_methodNamed Bd.named
  have hnm := (name_of_methodNamed Bd.named Bd.method).1
  have X0 : Stand p l e own_REQ0 s m #[(.ref o1), (.ref o2)] below meth c s₁ [] 0 0 := Stand.of_body Bd
  have e0 : s₁.heap = h0 := by rw [← hh, Bd.state]; rfl
  have N0 := Fr.nil n0
  refine own_in (fun _ k => castTop (own_efEQ0 m o1 o2) k) ?_
  intro RR hRR
  show own_Go p.tables e below RR (s₁.setTop (mkF m 0 #[.val (.ref o1), .val (.ref o2), .unset] []))
  refine own_st (fun _ k => XS.aloadN X0.here hx rfl (hb hby own_djdk_42_method_66_code_0) rfl rfl k) ?_
  show own_Go p.tables e below RR (s₁.setTop (mkF m 1 #[.val (.ref o1), .val (.ref o2), .unset] [(.ref o1)]))
  refine own_st (fun _ k => XS.aloadN X0.here hx rfl (hb hby own_djdk_42_method_66_code_1) rfl rfl k) ?_
  show own_Go p.tables e below RR (s₁.setTop (mkF m 2 #[.val (.ref o1), .val (.ref o2), .unset] [(.ref o2), (.ref o1)]))
  have hc2_1 : ¬ (o1 = o2) := ne
  refine own_st (fun _ k => Jvm.RoadKit.acmp (g := (mkF m 2 #[.val (.ref o1), .val (.ref o2), .unset] [(.ref o2), (.ref o1)])) X0 hx rfl rfl rfl (pc0 := 2) (pc' := 7) (same := false) rfl (hb hby own_djdk_42_method_66_code_2) rfl (decide_eq_false fun q => hc2_1 (Value.ref.inj q)) (by decide) (by decide) k) ?_
  show own_Go p.tables e below RR (s₁.setTop (mkF m 7 #[.val (.ref o1), .val (.ref o2), .unset] []))
  refine own_st (fun _ k => XS.aloadN X0.here hx rfl (hb hby own_djdk_42_method_66_code_7) rfl rfl k) ?_
  show own_Go p.tables e below RR (s₁.setTop (mkF m 8 #[.val (.ref o1), .val (.ref o2), .unset] [(.ref o2)]))
  obtain ⟨T2, X2, e2, st2⟩ := instY X0 hx hZ hown (hw _ (List.mem_of_getElem? (i := 39) rfl)) e0 (Ins.self E2) (g := (mkF m 8 #[.val (.ref o1), .val (.ref o2), .unset] [(.ref o2)])) rfl rfl (hb hby own_djdk_42_method_66_code_8)
  refine own_st st2 ?_
  show own_Go p.tables e below RR (T2.setTop (mkF m 11 #[.val (.ref o1), .val (.ref o2), .unset] [(.int (1 : Int32))]))
  refine own_st (fun _ k => XS.ifNo X2.here hx rfl (hb hby own_djdk_42_method_66_code_11) rfl ((if0 _ _).trans (feq (by decide)).1) k) ?_
  show own_Go p.tables e below RR (T2.setTop (mkF m 14 #[.val (.ref o1), .val (.ref o2), .unset] []))
  refine own_st (fun _ k => XS.aloadN X2.here hx rfl (hb hby own_djdk_42_method_66_code_14) rfl rfl k) ?_
  show own_Go p.tables e below RR (T2.setTop (mkF m 15 #[.val (.ref o1), .val (.ref o2), .unset] [(.ref o2)]))
  obtain ⟨T3, X3, e3, st3⟩ := castY X2 hx hZ hown (hw _ (List.mem_of_getElem? (i := 39) rfl)) e2 (Ins.self E2) (g := (mkF m 15 #[.val (.ref o1), .val (.ref o2), .unset] [(.ref o2)])) rfl rfl (hb hby own_djdk_42_method_66_code_15)
  refine own_st st3 ?_
  show own_Go p.tables e below RR (T3.setTop (mkF m 18 #[.val (.ref o1), .val (.ref o2), .unset] [(.ref o2)]))
  refine own_st (fun _ k => XS.astoreN X3.here hx rfl (hb hby own_djdk_42_method_66_code_18) rfl rfl (l' := #[.val (.ref o1), .val (.ref o2), .val (.ref o2)]) rfl k) ?_
  show own_Go p.tables e below RR (T3.setTop (mkF m 19 #[.val (.ref o1), .val (.ref o2), .val (.ref o2)] []))
  obtain ⟨T4, X4, e4, st4⟩ := getS2 X3 hx hZ hown (host := "") (Or.inl (hw _ (List.mem_of_getElem? (i := 41) rfl))) Via.refl e3 S0 (g := (mkF m 19 #[.val (.ref o1), .val (.ref o2), .val (.ref o2)] [])) rfl (hb hby own_djdk_42_method_66_code_19)
  refine own_st st4 ?_
  show own_Go p.tables e below RR (T4.setTop (mkF m 22 #[.val (.ref o1), .val (.ref o2), .val (.ref o2)] [(.int cs)]))
  have hc22_5 : ¬ (cs = (0 : Int32)) := hcs
  refine own_st (fun _ k => XS.ifNo X4.here hx rfl (hb hby own_djdk_42_method_66_code_22) rfl ((if0 _ _).trans (feq hc22_5).1) k) ?_
  show own_Go p.tables e below RR (T4.setTop (mkF m 25 #[.val (.ref o1), .val (.ref o2), .val (.ref o2)] []))
  refine own_st (fun _ k => XS.aloadN X4.here hx rfl (hb hby own_djdk_42_method_66_code_25) rfl rfl k) ?_
  show own_Go p.tables e below RR (T4.setTop (mkF m 26 #[.val (.ref o1), .val (.ref o2), .val (.ref o2)] [(.ref o1)]))
  obtain ⟨T6, X6, e6, st6⟩ := getF X4 hx hZ hown (host := "") (Or.inl (hw _ (List.mem_of_getElem? (i := 42) rfl))) Via.refl e4 C1 (g := (mkF m 26 #[.val (.ref o1), .val (.ref o2), .val (.ref o2)] [(.ref o1)])) rfl rfl (hb hby own_djdk_42_method_66_code_26)
  refine own_st st6 ?_
  show own_Go p.tables e below RR (T6.setTop (mkF m 29 #[.val (.ref o1), .val (.ref o2), .val (.ref o2)] [(.int (0 : Int32))]))
  refine own_st (fun _ k => XS.aloadN X6.here hx rfl (hb hby own_djdk_42_method_66_code_29) rfl rfl k) ?_
  show own_Go p.tables e below RR (T6.setTop (mkF m 30 #[.val (.ref o1), .val (.ref o2), .val (.ref o2)] [(.ref o2), (.int (0 : Int32))]))
  obtain ⟨T7, X7, e7, st7⟩ := getF X6 hx hZ hown (host := "") (Or.inl (hw _ (List.mem_of_getElem? (i := 42) rfl))) Via.refl e6 C2 (g := (mkF m 30 #[.val (.ref o1), .val (.ref o2), .val (.ref o2)] [(.ref o2), (.int (0 : Int32))])) rfl rfl (hb hby own_djdk_42_method_66_code_30)
  refine own_st st7 ?_
  show own_Go p.tables e below RR (T7.setTop (mkF m 33 #[.val (.ref o1), .val (.ref o2), .val (.ref o2)] [(.int (0 : Int32)), (.int (0 : Int32))]))
  refine own_st (fun _ k => XS.icmpNo X7.here hx rfl (hb hby own_djdk_42_method_66_code_33) rfl (teq (by decide)).2 k) ?_
  show own_Go p.tables e below RR (T7.setTop (mkF m 36 #[.val (.ref o1), .val (.ref o2), .val (.ref o2)] []))
  refine own_st (fun _ k => XS.aloadN X7.here hx rfl (hb hby own_djdk_42_method_66_code_36) rfl rfl k) ?_
  show own_Go p.tables e below RR (T7.setTop (mkF m 37 #[.val (.ref o1), .val (.ref o2), .val (.ref o2)] [(.ref o1)]))
  obtain ⟨T8, X8, e8, st8⟩ := getF X7 hx hZ hown (host := "") (Or.inl (hw _ (List.mem_of_getElem? (i := 43) rfl))) Via.refl e7 V1 (g := (mkF m 37 #[.val (.ref o1), .val (.ref o2), .val (.ref o2)] [(.ref o1)])) rfl rfl (hb hby own_djdk_42_method_66_code_37)
  refine own_st st8 ?_
  show own_Go p.tables e below RR (T8.setTop (mkF m 40 #[.val (.ref o1), .val (.ref o2), .val (.ref o2)] [(.ref b1)]))
  refine own_st (fun _ k => XS.aloadN X8.here hx rfl (hb hby own_djdk_42_method_66_code_40) rfl rfl k) ?_
  show own_Go p.tables e below RR (T8.setTop (mkF m 41 #[.val (.ref o1), .val (.ref o2), .val (.ref o2)] [(.ref o2), (.ref b1)]))
  obtain ⟨T9, X9, e9, st9⟩ := getF X8 hx hZ hown (host := "") (Or.inl (hw _ (List.mem_of_getElem? (i := 43) rfl))) Via.refl e8 V2 (g := (mkF m 41 #[.val (.ref o1), .val (.ref o2), .val (.ref o2)] [(.ref o2), (.ref b1)])) rfl rfl (hb hby own_djdk_42_method_66_code_41)
  refine own_st st9 ?_
  show own_Go p.tables e below RR (T9.setTop (mkF m 44 #[.val (.ref o1), .val (.ref o2), .val (.ref o2)] [(.ref b2), (.ref b1)]))
  obtain ⟨_, _, ⟨T10, L10, k10, n10⟩, -, X10, ⟨Lc10, hQ10, l10, y10, z10⟩, st10⟩ := Jvm.LawKit.callS X9 hx (y := (⟨"java/lang/StringLatin1", "equals", "([B[B)Z"⟩ : MethodName)) hown (mvT hZ (hw _ (List.mem_of_getElem? (i := 44) rfl))) (mvT hZ (hw _ (List.mem_of_getElem? (i := 45) rfl))) (mvT hZ (hw _ (List.mem_of_getElem? (i := 46) rfl))) (mvT hZ (hw _ (List.mem_of_getElem? (i := 47) rfl))) (by decide) (backOf (W := 0) (own_rmLE0 l Z a0 hw [] b1 b2 k1 k2 h0 n0 Z0 AA1 AA2) hZ (hw _ (List.mem_of_getElem? (i := 47) rfl)) (hw _ (List.mem_of_getElem? (i := 46) rfl)) (by decide) (by decide)) (g := (mkF m 44 #[.val (.ref o1), .val (.ref o2), .val (.ref o2)] [(.ref b2), (.ref b1)])) rfl (by rw [hml]; rfl) (argsL := [(.ref b1), (.ref b2)]) (rest := []) (lenOf own_pd___B_B_Z rfl) rfl (by show 2 * 0 + _ ≤ _; exact Nat.le_of_eq rfl) (hb hby own_djdk_42_method_66_code_44) (fun _ _ => ⟨rfl, e9, (by decide : 0 + 0 ≤ _), (by decide : 0 + 0 ≤ _)⟩)
  dsimp only [Pt.U, Pt.locs, Pt.cells, Pt.slots] at X10 l10 y10 z10 st10 hQ10
  subst l10 y10 z10
  obtain ⟨rfl, Nq10, eq10⟩ := hQ10
  have N10 := Fr.app N0 Nq10
  refine own_st st10 ?_
  show own_Go p.tables e below RR (T10.setTop (mkF m 47 #[.val (.ref o1), .val (.ref o2), .val (.ref o2)] [(.int (0 : Int32))]))
  refine own_st (fun _ k => XS.ifYes X10.here hx rfl (pc0 := 47) (pc' := 54) rfl (hb hby own_djdk_42_method_66_code_47) rfl ((if0 _ _).trans (teq (by decide)).1) (by decide) (by decide) k) ?_
  show own_Go p.tables e below RR (T10.setTop (mkF m 54 #[.val (.ref o1), .val (.ref o2), .val (.ref o2)] []))
  refine own_st (fun _ k => XS.iconst X10.here hx rfl (hb hby own_djdk_42_method_66_code_54) k) ?_
  show own_Go p.tables e below RR (T10.setTop (mkF m 55 #[.val (.ref o1), .val (.ref o2), .val (.ref o2)] [(.int (0 : Int32))]))
  obtain ⟨fs, hrt_, hrun, hended, hW, hsame⟩ := X10.leave (v := some (.int (0 : Int32))) (fun h => by rw [Bd.returns] at h; cases h)
  refine own_fin (retN X10 hx (t := .boolean) Bd.returns (by simp) (hb hby own_djdk_42_method_66_code_55) hrt_) (hRR _ ⟨_, hrun, hended, _, _, rfl, ?_, ⟨_, rfl⟩, hW, hsame.mono (by decide) (by decide)⟩)
  show own_QEQ0 Z o1 o2 b1 b2 k1 k2 cs h0 n0 _ T10.heap _
  rw [eq10]
  exact ⟨rfl, N10, rfl⟩
theorem own_efLE1 (m : MethodId) (b1 : Addr) (b2 : Addr) : entryFrame m #[(.ref b1), (.ref b2)] 3 = mkF m 0 #[.val (.ref b1), .val (.ref b2), .unset] [] := by first | (simp [entryFrame, mkF, argsToLocals, Value.category]; done) | rfl
def own_QLE1 (Z : State) (b1 : Addr) (b2 : Addr) (k1 : ClassId) (k2 : ClassId) (h0 : Heap) (n0 : Nat) (rv__ : Option Value) (h : Heap) (rL__ : List Loc) : Prop := rv__ = some (.int (0 : Int32)) ∧ Fr n0 rL__ ∧ h = h0
abbrev own_RLE1 : Room := { frames := 0, cells := 0, slots := 0, locals := 0 }
set_option maxRecDepth 65536 in
set_option maxHeartbeats 40000000 in
theorem own_rmLE1 (l : Launch) (Z : State) (a0 : Array Value) (hw : ∀ d ∈ tables_1, d.before a0 Z = true) (ws : List Jvm.Cond) (b1 : Addr) (b2 : Addr) (k1 : ClassId) (k2 : ClassId) (h0 : Heap) (n0 : Nat) (Z0 : n0 ≤ h0.size) (AA1 : Arv Z h0 b1 k1 .byte (9 : Int32) [(.int (99 : Int32)), (.int (111 : Int32)), (.int (109 : Int32)), (.int (112 : Int32)), (.int (108 : Int32)), (.int (101 : Int32)), (.int (116 : Int32)), (.int (101 : Int32)), (.int (100 : Int32))] (.int (0 : Int32))) (AA2 : Arv Z h0 b2 k2 .byte (8 : Int32) [(.int (105 : Int32)), (.int (110 : Int32)), (.int (103 : Int32)), (.int (101 : Int32)), (.int (115 : Int32)), (.int (116 : Int32)), (.int (101 : Int32)), (.int (100 : Int32))] (.int (0 : Int32))) :
    MetFree l (⟨"java/lang/StringLatin1", "equals", "([B[B)Z"⟩ : MethodName) (head1 (Jvm.Cond.code (⟨"java/lang/StringLatin1", "equals", "([B[B)Z"⟩ : MethodName) jdk_43_method_13_code 3 (some .boolean) :: ws) own_RLE1) (fun aa__ U => aa__ = #[(.ref b1), (.ref b2)] ∧ Z.Warmed39 U.vm ∧ U.heap = h0) (fun _ _ _ _ _ => True) (fun _ U oc_ U' => ∃ rv__ rL__, oc_ = .returned rv__ ∧ own_QLE1 Z b1 b2 k1 k2 h0 n0 rv__ U'.heap rL__ ∧ FrameEnd U oc_ U' rL__ own_RLE1.cells own_RLE1.slots) := by
  refine MetFree.of_bodySF (plainFor_of_name own_pn_java_lang_StringLatin1) hisR ?_
  intro p e s m args below meth c s₁ Bd hml0 hP hK
  obtain ⟨rfl, hZ, hh⟩ := hP
  have hx := Bd.exec
  have hby := Bd.bytes
  have hml : c.maxLocals = 3 := hml0
  have hown : s.vm.findClass "java/lang/StringLatin1" = some m.cls := findClass_of_methodNamed Bd.named
  have hnm := (name_of_methodNamed Bd.named Bd.method).1
  have X0 : Stand p l e own_RLE1 s m #[(.ref b1), (.ref b2)] below meth c s₁ [] 0 0 := Stand.of_body Bd
  have e0 : s₁.heap = h0 := by rw [← hh, Bd.state]; rfl
  have N0 := Fr.nil n0
  refine own_in (fun _ k => castTop (own_efLE1 m b1 b2) k) ?_
  intro RR hRR
  show own_Go p.tables e below RR (s₁.setTop (mkF m 0 #[.val (.ref b1), .val (.ref b2), .unset] []))
  refine own_st (fun _ k => XS.aloadN X0.here hx rfl (hb hby own_djdk_43_method_13_code_0) rfl rfl k) ?_
  show own_Go p.tables e below RR (s₁.setTop (mkF m 1 #[.val (.ref b1), .val (.ref b2), .unset] [(.ref b1)]))
  obtain ⟨c1, A1, -, s1, m1, -, -⟩ := id AA1
  refine own_st (fun _ k => own_len X0 hx hZ e0 A1 s1 m1 (g := (mkF m 1 #[.val (.ref b1), .val (.ref b2), .unset] [(.ref b1)])) rfl rfl (hb hby own_djdk_43_method_13_code_1) k) ?_
  show own_Go p.tables e below RR (s₁.setTop (mkF m 2 #[.val (.ref b1), .val (.ref b2), .unset] [(.int (9 : Int32))]))
  refine own_st (fun _ k => XS.aloadN X0.here hx rfl (hb hby own_djdk_43_method_13_code_2) rfl rfl k) ?_
  show own_Go p.tables e below RR (s₁.setTop (mkF m 3 #[.val (.ref b1), .val (.ref b2), .unset] [(.ref b2), (.int (9 : Int32))]))
  obtain ⟨c2, A2, -, s2, m2, -, -⟩ := id AA2
  refine own_st (fun _ k => own_len X0 hx hZ e0 A2 s2 m2 (g := (mkF m 3 #[.val (.ref b1), .val (.ref b2), .unset] [(.ref b2), (.int (9 : Int32))])) rfl rfl (hb hby own_djdk_43_method_13_code_3) k) ?_
  show own_Go p.tables e below RR (s₁.setTop (mkF m 4 #[.val (.ref b1), .val (.ref b2), .unset] [(.int (8 : Int32)), (.int (9 : Int32))]))
  refine own_st (fun _ k => XS.icmpYes X0.here hx rfl (pc0 := 4) (pc' := 34) rfl (hb hby own_djdk_43_method_13_code_4) rfl (feq (by decide)).2 (by decide) (by decide) k) ?_
  show own_Go p.tables e below RR (s₁.setTop (mkF m 34 #[.val (.ref b1), .val (.ref b2), .unset] []))
  refine own_st (fun _ k => XS.iconst X0.here hx rfl (hb hby own_djdk_43_method_13_code_34) k) ?_
  show own_Go p.tables e below RR (s₁.setTop (mkF m 35 #[.val (.ref b1), .val (.ref b2), .unset] [(.int (0 : Int32))]))
  obtain ⟨fs, hrt_, hrun, hended, hW, hsame⟩ := X0.leave (v := some (.int (0 : Int32))) (fun h => by rw [Bd.returns] at h; cases h)
  refine own_fin (retN X0 hx (t := .boolean) Bd.returns (by simp) (hb hby own_djdk_43_method_13_code_35) hrt_) (hRR _ ⟨_, hrun, hended, _, _, rfl, ?_, ⟨_, rfl⟩, hW, hsame.mono (by decide) (by decide)⟩)
  show own_QLE1 Z b1 b2 k1 k2 h0 n0 _ s₁.heap _
  rw [e0]
  exact ⟨rfl, N0, rfl⟩
theorem own_efEQ1 (m : MethodId) (o1 : Addr) (o2 : Addr) : entryFrame m #[(.ref o1), (.ref o2)] 3 = mkF m 0 #[.val (.ref o1), .val (.ref o2), .unset] [] := by first | (simp [entryFrame, mkF, argsToLocals, Value.category]; done) | rfl
def own_QEQ1 (Z : State) (o1 : Addr) (o2 : Addr) (b1 : Addr) (b2 : Addr) (k1 : ClassId) (k2 : ClassId) (cs : Int32) (h0 : Heap) (n0 : Nat) (rv__ : Option Value) (h : Heap) (rL__ : List Loc) : Prop := rv__ = some (.int (0 : Int32)) ∧ Fr n0 rL__ ∧ h = h0
abbrev own_REQ1 : Room := { frames := 1, cells := 0, slots := 0, locals := 14 }
set_option maxRecDepth 65536 in
set_option maxHeartbeats 40000000 in
theorem own_rmEQ1 (l : Launch) (Z : State) (a0 : Array Value) (hw : ∀ d ∈ tables_1, d.before a0 Z = true) (ws : List Jvm.Cond) (o1 : Addr) (o2 : Addr) (b1 : Addr) (b2 : Addr) (k1 : ClassId) (k2 : ClassId) (cs : Int32) (h0 : Heap) (n0 : Nat) (Z0 : n0 ≤ h0.size) (E2 : Exa Z h0 o2 "java/lang/String") (C1 : Fld Z h0 o1 "java/lang/String" "coder" "B" (.int (0 : Int32))) (C2 : Fld Z h0 o2 "java/lang/String" "coder" "B" (.int (0 : Int32))) (V1 : Fld Z h0 o1 "java/lang/String" "value" "[B" (.ref b1)) (V2 : Fld Z h0 o2 "java/lang/String" "value" "[B" (.ref b2)) (AA1 : Arv Z h0 b1 k1 .byte (9 : Int32) [(.int (99 : Int32)), (.int (111 : Int32)), (.int (109 : Int32)), (.int (112 : Int32)), (.int (108 : Int32)), (.int (101 : Int32)), (.int (116 : Int32)), (.int (101 : Int32)), (.int (100 : Int32))] (.int (0 : Int32))) (AA2 : Arv Z h0 b2 k2 .byte (8 : Int32) [(.int (105 : Int32)), (.int (110 : Int32)), (.int (103 : Int32)), (.int (101 : Int32)), (.int (115 : Int32)), (.int (116 : Int32)), (.int (101 : Int32)), (.int (100 : Int32))] (.int (0 : Int32))) (S0 : Sta Z h0 "java/lang/String" "COMPACT_STRINGS" "Z" (.int cs)) (hcs : ¬ cs = (0 : Int32)) (ne : ¬ o1 = o2) :
    MetFree l (⟨"java/lang/String", "equals", "(Ljava/lang/Object;)Z"⟩ : MethodName) (head1 (Jvm.Cond.code (⟨"java/lang/String", "equals", "(Ljava/lang/Object;)Z"⟩ : MethodName) jdk_42_method_66_code 3 (some .boolean) :: ws) own_REQ1) (fun aa__ U => aa__ = #[(.ref o1), (.ref o2)] ∧ Z.Warmed39 U.vm ∧ U.heap = h0) (fun _ _ _ _ _ => True) (fun _ U oc_ U' => ∃ rv__ rL__, oc_ = .returned rv__ ∧ own_QEQ1 Z o1 o2 b1 b2 k1 k2 cs h0 n0 rv__ U'.heap rL__ ∧ FrameEnd U oc_ U' rL__ own_REQ1.cells own_REQ1.slots) := by
  refine MetFree.of_bodySF (plainFor_of_name own_pn_java_lang_String) hisR ?_
  intro p e s m args below meth c s₁ Bd hml0 hP hK
  obtain ⟨rfl, hZ, hh⟩ := hP
  have hx := Bd.exec
  have hby := Bd.bytes
  have hml : c.maxLocals = 3 := hml0
  have hown : s.vm.findClass "java/lang/String" = some m.cls := findClass_of_methodNamed Bd.named
  have hnm := (name_of_methodNamed Bd.named Bd.method).1
  have X0 : Stand p l e own_REQ1 s m #[(.ref o1), (.ref o2)] below meth c s₁ [] 0 0 := Stand.of_body Bd
  have e0 : s₁.heap = h0 := by rw [← hh, Bd.state]; rfl
  have N0 := Fr.nil n0
  refine own_in (fun _ k => castTop (own_efEQ1 m o1 o2) k) ?_
  intro RR hRR
  show own_Go p.tables e below RR (s₁.setTop (mkF m 0 #[.val (.ref o1), .val (.ref o2), .unset] []))
  refine own_st (fun _ k => XS.aloadN X0.here hx rfl (hb hby own_djdk_42_method_66_code_0) rfl rfl k) ?_
  show own_Go p.tables e below RR (s₁.setTop (mkF m 1 #[.val (.ref o1), .val (.ref o2), .unset] [(.ref o1)]))
  refine own_st (fun _ k => XS.aloadN X0.here hx rfl (hb hby own_djdk_42_method_66_code_1) rfl rfl k) ?_
  show own_Go p.tables e below RR (s₁.setTop (mkF m 2 #[.val (.ref o1), .val (.ref o2), .unset] [(.ref o2), (.ref o1)]))
  have hc2_1 : ¬ (o1 = o2) := ne
  refine own_st (fun _ k => Jvm.RoadKit.acmp (g := (mkF m 2 #[.val (.ref o1), .val (.ref o2), .unset] [(.ref o2), (.ref o1)])) X0 hx rfl rfl rfl (pc0 := 2) (pc' := 7) (same := false) rfl (hb hby own_djdk_42_method_66_code_2) rfl (decide_eq_false fun q => hc2_1 (Value.ref.inj q)) (by decide) (by decide) k) ?_
  show own_Go p.tables e below RR (s₁.setTop (mkF m 7 #[.val (.ref o1), .val (.ref o2), .unset] []))
  refine own_st (fun _ k => XS.aloadN X0.here hx rfl (hb hby own_djdk_42_method_66_code_7) rfl rfl k) ?_
  show own_Go p.tables e below RR (s₁.setTop (mkF m 8 #[.val (.ref o1), .val (.ref o2), .unset] [(.ref o2)]))
  obtain ⟨T2, X2, e2, st2⟩ := instY X0 hx hZ hown (hw _ (List.mem_of_getElem? (i := 39) rfl)) e0 (Ins.self E2) (g := (mkF m 8 #[.val (.ref o1), .val (.ref o2), .unset] [(.ref o2)])) rfl rfl (hb hby own_djdk_42_method_66_code_8)
  refine own_st st2 ?_
  show own_Go p.tables e below RR (T2.setTop (mkF m 11 #[.val (.ref o1), .val (.ref o2), .unset] [(.int (1 : Int32))]))
  refine own_st (fun _ k => XS.ifNo X2.here hx rfl (hb hby own_djdk_42_method_66_code_11) rfl ((if0 _ _).trans (feq (by decide)).1) k) ?_
  show own_Go p.tables e below RR (T2.setTop (mkF m 14 #[.val (.ref o1), .val (.ref o2), .unset] []))
  refine own_st (fun _ k => XS.aloadN X2.here hx rfl (hb hby own_djdk_42_method_66_code_14) rfl rfl k) ?_
  show own_Go p.tables e below RR (T2.setTop (mkF m 15 #[.val (.ref o1), .val (.ref o2), .unset] [(.ref o2)]))
  obtain ⟨T3, X3, e3, st3⟩ := castY X2 hx hZ hown (hw _ (List.mem_of_getElem? (i := 39) rfl)) e2 (Ins.self E2) (g := (mkF m 15 #[.val (.ref o1), .val (.ref o2), .unset] [(.ref o2)])) rfl rfl (hb hby own_djdk_42_method_66_code_15)
  refine own_st st3 ?_
  show own_Go p.tables e below RR (T3.setTop (mkF m 18 #[.val (.ref o1), .val (.ref o2), .unset] [(.ref o2)]))
  refine own_st (fun _ k => XS.astoreN X3.here hx rfl (hb hby own_djdk_42_method_66_code_18) rfl rfl (l' := #[.val (.ref o1), .val (.ref o2), .val (.ref o2)]) rfl k) ?_
  show own_Go p.tables e below RR (T3.setTop (mkF m 19 #[.val (.ref o1), .val (.ref o2), .val (.ref o2)] []))
  obtain ⟨T4, X4, e4, st4⟩ := getS2 X3 hx hZ hown (host := "") (Or.inl (hw _ (List.mem_of_getElem? (i := 41) rfl))) Via.refl e3 S0 (g := (mkF m 19 #[.val (.ref o1), .val (.ref o2), .val (.ref o2)] [])) rfl (hb hby own_djdk_42_method_66_code_19)
  refine own_st st4 ?_
  show own_Go p.tables e below RR (T4.setTop (mkF m 22 #[.val (.ref o1), .val (.ref o2), .val (.ref o2)] [(.int cs)]))
  have hc22_5 : ¬ (cs = (0 : Int32)) := hcs
  refine own_st (fun _ k => XS.ifNo X4.here hx rfl (hb hby own_djdk_42_method_66_code_22) rfl ((if0 _ _).trans (feq hc22_5).1) k) ?_
  show own_Go p.tables e below RR (T4.setTop (mkF m 25 #[.val (.ref o1), .val (.ref o2), .val (.ref o2)] []))
  refine own_st (fun _ k => XS.aloadN X4.here hx rfl (hb hby own_djdk_42_method_66_code_25) rfl rfl k) ?_
  show own_Go p.tables e below RR (T4.setTop (mkF m 26 #[.val (.ref o1), .val (.ref o2), .val (.ref o2)] [(.ref o1)]))
  obtain ⟨T6, X6, e6, st6⟩ := getF X4 hx hZ hown (host := "") (Or.inl (hw _ (List.mem_of_getElem? (i := 42) rfl))) Via.refl e4 C1 (g := (mkF m 26 #[.val (.ref o1), .val (.ref o2), .val (.ref o2)] [(.ref o1)])) rfl rfl (hb hby own_djdk_42_method_66_code_26)
  refine own_st st6 ?_
  show own_Go p.tables e below RR (T6.setTop (mkF m 29 #[.val (.ref o1), .val (.ref o2), .val (.ref o2)] [(.int (0 : Int32))]))
  refine own_st (fun _ k => XS.aloadN X6.here hx rfl (hb hby own_djdk_42_method_66_code_29) rfl rfl k) ?_
  show own_Go p.tables e below RR (T6.setTop (mkF m 30 #[.val (.ref o1), .val (.ref o2), .val (.ref o2)] [(.ref o2), (.int (0 : Int32))]))
  obtain ⟨T7, X7, e7, st7⟩ := getF X6 hx hZ hown (host := "") (Or.inl (hw _ (List.mem_of_getElem? (i := 42) rfl))) Via.refl e6 C2 (g := (mkF m 30 #[.val (.ref o1), .val (.ref o2), .val (.ref o2)] [(.ref o2), (.int (0 : Int32))])) rfl rfl (hb hby own_djdk_42_method_66_code_30)
  refine own_st st7 ?_
  show own_Go p.tables e below RR (T7.setTop (mkF m 33 #[.val (.ref o1), .val (.ref o2), .val (.ref o2)] [(.int (0 : Int32)), (.int (0 : Int32))]))
  refine own_st (fun _ k => XS.icmpNo X7.here hx rfl (hb hby own_djdk_42_method_66_code_33) rfl (teq (by decide)).2 k) ?_
  show own_Go p.tables e below RR (T7.setTop (mkF m 36 #[.val (.ref o1), .val (.ref o2), .val (.ref o2)] []))
  refine own_st (fun _ k => XS.aloadN X7.here hx rfl (hb hby own_djdk_42_method_66_code_36) rfl rfl k) ?_
  show own_Go p.tables e below RR (T7.setTop (mkF m 37 #[.val (.ref o1), .val (.ref o2), .val (.ref o2)] [(.ref o1)]))
  obtain ⟨T8, X8, e8, st8⟩ := getF X7 hx hZ hown (host := "") (Or.inl (hw _ (List.mem_of_getElem? (i := 43) rfl))) Via.refl e7 V1 (g := (mkF m 37 #[.val (.ref o1), .val (.ref o2), .val (.ref o2)] [(.ref o1)])) rfl rfl (hb hby own_djdk_42_method_66_code_37)
  refine own_st st8 ?_
  show own_Go p.tables e below RR (T8.setTop (mkF m 40 #[.val (.ref o1), .val (.ref o2), .val (.ref o2)] [(.ref b1)]))
  refine own_st (fun _ k => XS.aloadN X8.here hx rfl (hb hby own_djdk_42_method_66_code_40) rfl rfl k) ?_
  show own_Go p.tables e below RR (T8.setTop (mkF m 41 #[.val (.ref o1), .val (.ref o2), .val (.ref o2)] [(.ref o2), (.ref b1)]))
  obtain ⟨T9, X9, e9, st9⟩ := getF X8 hx hZ hown (host := "") (Or.inl (hw _ (List.mem_of_getElem? (i := 43) rfl))) Via.refl e8 V2 (g := (mkF m 41 #[.val (.ref o1), .val (.ref o2), .val (.ref o2)] [(.ref o2), (.ref b1)])) rfl rfl (hb hby own_djdk_42_method_66_code_41)
  refine own_st st9 ?_
  show own_Go p.tables e below RR (T9.setTop (mkF m 44 #[.val (.ref o1), .val (.ref o2), .val (.ref o2)] [(.ref b2), (.ref b1)]))
  obtain ⟨_, _, ⟨T10, L10, k10, n10⟩, -, X10, ⟨Lc10, hQ10, l10, y10, z10⟩, st10⟩ := Jvm.LawKit.callS X9 hx (y := (⟨"java/lang/StringLatin1", "equals", "([B[B)Z"⟩ : MethodName)) hown (mvT hZ (hw _ (List.mem_of_getElem? (i := 44) rfl))) (mvT hZ (hw _ (List.mem_of_getElem? (i := 45) rfl))) (mvT hZ (hw _ (List.mem_of_getElem? (i := 46) rfl))) (mvT hZ (hw _ (List.mem_of_getElem? (i := 47) rfl))) (by decide) (backOf (W := 0) (own_rmLE1 l Z a0 hw [] b1 b2 k1 k2 h0 n0 Z0 AA1 AA2) hZ (hw _ (List.mem_of_getElem? (i := 47) rfl)) (hw _ (List.mem_of_getElem? (i := 46) rfl)) (by decide) (by decide)) (g := (mkF m 44 #[.val (.ref o1), .val (.ref o2), .val (.ref o2)] [(.ref b2), (.ref b1)])) rfl (by rw [hml]; rfl) (argsL := [(.ref b1), (.ref b2)]) (rest := []) (lenOf own_pd___B_B_Z rfl) rfl (by show 2 * 0 + _ ≤ _; exact Nat.le_of_eq rfl) (hb hby own_djdk_42_method_66_code_44) (fun _ _ => ⟨rfl, e9, (by decide : 0 + 0 ≤ _), (by decide : 0 + 0 ≤ _)⟩)
  dsimp only [Pt.U, Pt.locs, Pt.cells, Pt.slots] at X10 l10 y10 z10 st10 hQ10
  subst l10 y10 z10
  obtain ⟨rfl, Nq10, eq10⟩ := hQ10
  have N10 := Fr.app N0 Nq10
  refine own_st st10 ?_
  show own_Go p.tables e below RR (T10.setTop (mkF m 47 #[.val (.ref o1), .val (.ref o2), .val (.ref o2)] [(.int (0 : Int32))]))
  refine own_st (fun _ k => XS.ifYes X10.here hx rfl (pc0 := 47) (pc' := 54) rfl (hb hby own_djdk_42_method_66_code_47) rfl ((if0 _ _).trans (teq (by decide)).1) (by decide) (by decide) k) ?_
  show own_Go p.tables e below RR (T10.setTop (mkF m 54 #[.val (.ref o1), .val (.ref o2), .val (.ref o2)] []))
  refine own_st (fun _ k => XS.iconst X10.here hx rfl (hb hby own_djdk_42_method_66_code_54) k) ?_
  show own_Go p.tables e below RR (T10.setTop (mkF m 55 #[.val (.ref o1), .val (.ref o2), .val (.ref o2)] [(.int (0 : Int32))]))
  obtain ⟨fs, hrt_, hrun, hended, hW, hsame⟩ := X10.leave (v := some (.int (0 : Int32))) (fun h => by rw [Bd.returns] at h; cases h)
  refine own_fin (retN X10 hx (t := .boolean) Bd.returns (by simp) (hb hby own_djdk_42_method_66_code_55) hrt_) (hRR _ ⟨_, hrun, hended, _, _, rfl, ?_, ⟨_, rfl⟩, hW, hsame.mono (by decide) (by decide)⟩)
  show own_QEQ1 Z o1 o2 b1 b2 k1 k2 cs h0 n0 _ T10.heap _
  rw [eq10]
  exact ⟨rfl, N10, rfl⟩
theorem own_djdk_43_method_13_code_7 : decode jdk_43_method_13_code 7 = .ok (.iconst 0, 1) := by decide +kernel
theorem own_djdk_43_method_13_code_8 : decode jdk_43_method_13_code 8 = .ok (.istore_n 2, 1) := by decide +kernel
theorem own_djdk_43_method_13_code_9 : decode jdk_43_method_13_code 9 = .ok (.iload_n 2, 1) := by decide +kernel
theorem own_djdk_43_method_13_code_10 : decode jdk_43_method_13_code 10 = .ok (.aload_n 0, 1) := by decide +kernel
theorem own_djdk_43_method_13_code_11 : decode jdk_43_method_13_code 11 = .ok (.arraylength, 1) := by decide +kernel
theorem own_djdk_43_method_13_code_12 : decode jdk_43_method_13_code 12 = .ok (.if_icmp .ge 20, 3) := by decide +kernel
theorem own_djdk_43_method_13_code_15 : decode jdk_43_method_13_code 15 = .ok (.aload_n 0, 1) := by decide +kernel
theorem own_djdk_43_method_13_code_16 : decode jdk_43_method_13_code 16 = .ok (.iload_n 2, 1) := by decide +kernel
theorem own_djdk_43_method_13_code_17 : decode jdk_43_method_13_code 17 = .ok (.baload, 1) := by decide +kernel
theorem own_djdk_43_method_13_code_18 : decode jdk_43_method_13_code 18 = .ok (.aload_n 1, 1) := by decide +kernel
theorem own_djdk_43_method_13_code_19 : decode jdk_43_method_13_code 19 = .ok (.iload_n 2, 1) := by decide +kernel
theorem own_djdk_43_method_13_code_20 : decode jdk_43_method_13_code 20 = .ok (.baload, 1) := by decide +kernel
theorem own_djdk_43_method_13_code_21 : decode jdk_43_method_13_code 21 = .ok (.if_icmp .eq 5, 3) := by decide +kernel
theorem own_djdk_43_method_13_code_26 : decode jdk_43_method_13_code 26 = .ok (.iinc 2 1, 3) := by decide +kernel
theorem own_djdk_43_method_13_code_29 : decode jdk_43_method_13_code 29 = .ok (.goto (-20), 3) := by decide +kernel
theorem own_djdk_43_method_13_code_32 : decode jdk_43_method_13_code 32 = .ok (.iconst 1, 1) := by decide +kernel
theorem own_djdk_43_method_13_code_33 : decode jdk_43_method_13_code 33 = .ok (.ireturn, 1) := by decide +kernel
theorem own_efLE2 (m : MethodId) (b1 : Addr) (b2 : Addr) : entryFrame m #[(.ref b1), (.ref b2)] 3 = mkF m 0 #[.val (.ref b1), .val (.ref b2), .unset] [] := by first | (simp [entryFrame, mkF, argsToLocals, Value.category]; done) | rfl
def own_QLE2 (Z : State) (b1 : Addr) (b2 : Addr) (k1 : ClassId) (k2 : ClassId) (h0 : Heap) (n0 : Nat) (rv__ : Option Value) (h : Heap) (rL__ : List Loc) : Prop := rv__ = some (.int (1 : Int32)) ∧ Fr n0 rL__ ∧ h = h0
abbrev own_RLE2 : Room := { frames := 0, cells := 0, slots := 0, locals := 0 }
set_option maxRecDepth 65536 in
set_option maxHeartbeats 40000000 in
theorem own_rmLE2 (l : Launch) (Z : State) (a0 : Array Value) (hw : ∀ d ∈ tables_1, d.before a0 Z = true) (ws : List Jvm.Cond) (b1 : Addr) (b2 : Addr) (k1 : ClassId) (k2 : ClassId) (h0 : Heap) (n0 : Nat) (Z0 : n0 ≤ h0.size) (AA1 : Arv Z h0 b1 k1 .byte (9 : Int32) [(.int (99 : Int32)), (.int (111 : Int32)), (.int (109 : Int32)), (.int (112 : Int32)), (.int (108 : Int32)), (.int (101 : Int32)), (.int (116 : Int32)), (.int (101 : Int32)), (.int (100 : Int32))] (.int (0 : Int32))) (AA2 : Arv Z h0 b2 k2 .byte (9 : Int32) [(.int (99 : Int32)), (.int (111 : Int32)), (.int (109 : Int32)), (.int (112 : Int32)), (.int (108 : Int32)), (.int (101 : Int32)), (.int (116 : Int32)), (.int (101 : Int32)), (.int (100 : Int32))] (.int (0 : Int32))) :
    MetFree l (⟨"java/lang/StringLatin1", "equals", "([B[B)Z"⟩ : MethodName) (head1 (Jvm.Cond.code (⟨"java/lang/StringLatin1", "equals", "([B[B)Z"⟩ : MethodName) jdk_43_method_13_code 3 (some .boolean) :: ws) own_RLE2) (fun aa__ U => aa__ = #[(.ref b1), (.ref b2)] ∧ Z.Warmed39 U.vm ∧ U.heap = h0) (fun _ _ _ _ _ => True) (fun _ U oc_ U' => ∃ rv__ rL__, oc_ = .returned rv__ ∧ own_QLE2 Z b1 b2 k1 k2 h0 n0 rv__ U'.heap rL__ ∧ FrameEnd U oc_ U' rL__ own_RLE2.cells own_RLE2.slots) := by
  refine MetFree.of_bodySF (plainFor_of_name own_pn_java_lang_StringLatin1) hisR ?_
  intro p e s m args below meth c s₁ Bd hml0 hP hK
  obtain ⟨rfl, hZ, hh⟩ := hP
  have hx := Bd.exec
  have hby := Bd.bytes
  have hml : c.maxLocals = 3 := hml0
  have hown : s.vm.findClass "java/lang/StringLatin1" = some m.cls := findClass_of_methodNamed Bd.named
  have hnm := (name_of_methodNamed Bd.named Bd.method).1
  have X0 : Stand p l e own_RLE2 s m #[(.ref b1), (.ref b2)] below meth c s₁ [] 0 0 := Stand.of_body Bd
  have e0 : s₁.heap = h0 := by rw [← hh, Bd.state]; rfl
  have N0 := Fr.nil n0
  refine own_in (fun _ k => castTop (own_efLE2 m b1 b2) k) ?_
  intro RR hRR
  show own_Go p.tables e below RR (s₁.setTop (mkF m 0 #[.val (.ref b1), .val (.ref b2), .unset] []))
  refine own_st (fun _ k => XS.aloadN X0.here hx rfl (hb hby own_djdk_43_method_13_code_0) rfl rfl k) ?_
  show own_Go p.tables e below RR (s₁.setTop (mkF m 1 #[.val (.ref b1), .val (.ref b2), .unset] [(.ref b1)]))
  obtain ⟨c1, A1, -, s1, m1, -, -⟩ := id AA1
  refine own_st (fun _ k => own_len X0 hx hZ e0 A1 s1 m1 (g := (mkF m 1 #[.val (.ref b1), .val (.ref b2), .unset] [(.ref b1)])) rfl rfl (hb hby own_djdk_43_method_13_code_1) k) ?_
  show own_Go p.tables e below RR (s₁.setTop (mkF m 2 #[.val (.ref b1), .val (.ref b2), .unset] [(.int (9 : Int32))]))
  refine own_st (fun _ k => XS.aloadN X0.here hx rfl (hb hby own_djdk_43_method_13_code_2) rfl rfl k) ?_
  show own_Go p.tables e below RR (s₁.setTop (mkF m 3 #[.val (.ref b1), .val (.ref b2), .unset] [(.ref b2), (.int (9 : Int32))]))
  obtain ⟨c2, A2, -, s2, m2, -, -⟩ := id AA2
  refine own_st (fun _ k => own_len X0 hx hZ e0 A2 s2 m2 (g := (mkF m 3 #[.val (.ref b1), .val (.ref b2), .unset] [(.ref b2), (.int (9 : Int32))])) rfl rfl (hb hby own_djdk_43_method_13_code_3) k) ?_
  show own_Go p.tables e below RR (s₁.setTop (mkF m 4 #[.val (.ref b1), .val (.ref b2), .unset] [(.int (9 : Int32)), (.int (9 : Int32))]))
  refine own_st (fun _ k => XS.icmpNo X0.here hx rfl (hb hby own_djdk_43_method_13_code_4) rfl (teq (by decide)).2 k) ?_
  show own_Go p.tables e below RR (s₁.setTop (mkF m 7 #[.val (.ref b1), .val (.ref b2), .unset] []))
  refine own_st (fun _ k => XS.iconst X0.here hx rfl (hb hby own_djdk_43_method_13_code_7) k) ?_
  show own_Go p.tables e below RR (s₁.setTop (mkF m 8 #[.val (.ref b1), .val (.ref b2), .unset] [(.int (0 : Int32))]))
  refine own_st (fun _ k => XS.istoreN X0.here hx rfl (hb hby own_djdk_43_method_13_code_8) rfl (l' := #[.val (.ref b1), .val (.ref b2), .val (.int (0 : Int32))]) rfl k) ?_
  show own_Go p.tables e below RR (s₁.setTop (mkF m 9 #[.val (.ref b1), .val (.ref b2), .val (.int (0 : Int32))] []))
  refine own_st (fun _ k => XS.iloadN X0.here hx rfl (hb hby own_djdk_43_method_13_code_9) rfl k) ?_
  show own_Go p.tables e below RR (s₁.setTop (mkF m 10 #[.val (.ref b1), .val (.ref b2), .val (.int (0 : Int32))] [(.int (0 : Int32))]))
  refine own_st (fun _ k => XS.aloadN X0.here hx rfl (hb hby own_djdk_43_method_13_code_10) rfl rfl k) ?_
  show own_Go p.tables e below RR (s₁.setTop (mkF m 11 #[.val (.ref b1), .val (.ref b2), .val (.int (0 : Int32))] [(.ref b1), (.int (0 : Int32))]))
  obtain ⟨c3, A3, -, s3, m3, -, -⟩ := id AA1
  refine own_st (fun _ k => own_len X0 hx hZ e0 A3 s3 m3 (g := (mkF m 11 #[.val (.ref b1), .val (.ref b2), .val (.int (0 : Int32))] [(.ref b1), (.int (0 : Int32))])) rfl rfl (hb hby own_djdk_43_method_13_code_11) k) ?_
  show own_Go p.tables e below RR (s₁.setTop (mkF m 12 #[.val (.ref b1), .val (.ref b2), .val (.int (0 : Int32))] [(.int (9 : Int32)), (.int (0 : Int32))]))
  refine own_st (fun _ k => XS.icmpNo X0.here hx rfl (hb hby own_djdk_43_method_13_code_12) rfl (tlt (by decide)).2.1 k) ?_
  show own_Go p.tables e below RR (s₁.setTop (mkF m 15 #[.val (.ref b1), .val (.ref b2), .val (.int (0 : Int32))] []))
  refine own_st (fun _ k => XS.aloadN X0.here hx rfl (hb hby own_djdk_43_method_13_code_15) rfl rfl k) ?_
  show own_Go p.tables e below RR (s₁.setTop (mkF m 16 #[.val (.ref b1), .val (.ref b2), .val (.int (0 : Int32))] [(.ref b1)]))
  refine own_st (fun _ k => XS.iloadN X0.here hx rfl (hb hby own_djdk_43_method_13_code_16) rfl k) ?_
  show own_Go p.tables e below RR (s₁.setTop (mkF m 17 #[.val (.ref b1), .val (.ref b2), .val (.int (0 : Int32))] [(.int (0 : Int32)), (.ref b1)]))
  obtain ⟨c4, A4, q4, s4, m4, H4, G4⟩ := id AA1
  have b4 := inb_of (j := (0 : Int32)) s4 ⟨by decide, by decide⟩
  refine own_st (fun _ k => X0.baloadBytes hx (j := (0 : Int32)) (v := (.int (99 : Int32))) (by rw [e0]; exact A4.1) (State.isArrayOf_alike hZ.alike A4.2.1) A4.2.2 b4 (Has.at H4 b4 rfl) (g := (mkF m 17 #[.val (.ref b1), .val (.ref b2), .val (.int (0 : Int32))] [(.int (0 : Int32)), (.ref b1)])) rfl rfl (hb hby own_djdk_43_method_13_code_17) _ k) ?_
  show own_Go p.tables e below RR (s₁.setTop (mkF m 18 #[.val (.ref b1), .val (.ref b2), .val (.int (0 : Int32))] [(.int (99 : Int32))]))
  refine own_st (fun _ k => XS.aloadN X0.here hx rfl (hb hby own_djdk_43_method_13_code_18) rfl rfl k) ?_
  show own_Go p.tables e below RR (s₁.setTop (mkF m 19 #[.val (.ref b1), .val (.ref b2), .val (.int (0 : Int32))] [(.ref b2), (.int (99 : Int32))]))
  refine own_st (fun _ k => XS.iloadN X0.here hx rfl (hb hby own_djdk_43_method_13_code_19) rfl k) ?_
  show own_Go p.tables e below RR (s₁.setTop (mkF m 20 #[.val (.ref b1), .val (.ref b2), .val (.int (0 : Int32))] [(.int (0 : Int32)), (.ref b2), (.int (99 : Int32))]))
  obtain ⟨c5, A5, q5, s5, m5, H5, G5⟩ := id AA2
  have b5 := inb_of (j := (0 : Int32)) s5 ⟨by decide, by decide⟩
  refine own_st (fun _ k => X0.baloadBytes hx (j := (0 : Int32)) (v := (.int (99 : Int32))) (by rw [e0]; exact A5.1) (State.isArrayOf_alike hZ.alike A5.2.1) A5.2.2 b5 (Has.at H5 b5 rfl) (g := (mkF m 20 #[.val (.ref b1), .val (.ref b2), .val (.int (0 : Int32))] [(.int (0 : Int32)), (.ref b2), (.int (99 : Int32))])) rfl rfl (hb hby own_djdk_43_method_13_code_20) _ k) ?_
  show own_Go p.tables e below RR (s₁.setTop (mkF m 21 #[.val (.ref b1), .val (.ref b2), .val (.int (0 : Int32))] [(.int (99 : Int32)), (.int (99 : Int32))]))
  refine own_st (fun _ k => XS.icmpYes X0.here hx rfl (pc0 := 21) (pc' := 26) rfl (hb hby own_djdk_43_method_13_code_21) rfl (teq (by decide)).1 (by decide) (by decide) k) ?_
  show own_Go p.tables e below RR (s₁.setTop (mkF m 26 #[.val (.ref b1), .val (.ref b2), .val (.int (0 : Int32))] []))
  refine own_st (fun _ k => XS.iinc X0.here hx rfl (hb hby own_djdk_43_method_13_code_26) rfl (l' := #[.val (.ref b1), .val (.ref b2), .val (.int (1 : Int32))]) rfl k) ?_
  show own_Go p.tables e below RR (s₁.setTop (mkF m 29 #[.val (.ref b1), .val (.ref b2), .val (.int (1 : Int32))] []))
  refine own_st (fun _ k => XS.goto X0.here hx rfl (pc0 := 29) (pc' := 9) rfl (hb hby own_djdk_43_method_13_code_29) (by decide) (by decide) k) ?_
  show own_Go p.tables e below RR (s₁.setTop (mkF m 9 #[.val (.ref b1), .val (.ref b2), .val (.int (1 : Int32))] []))
  refine own_st (fun _ k => XS.iloadN X0.here hx rfl (hb hby own_djdk_43_method_13_code_9) rfl k) ?_
  show own_Go p.tables e below RR (s₁.setTop (mkF m 10 #[.val (.ref b1), .val (.ref b2), .val (.int (1 : Int32))] [(.int (1 : Int32))]))
  refine own_st (fun _ k => XS.aloadN X0.here hx rfl (hb hby own_djdk_43_method_13_code_10) rfl rfl k) ?_
  show own_Go p.tables e below RR (s₁.setTop (mkF m 11 #[.val (.ref b1), .val (.ref b2), .val (.int (1 : Int32))] [(.ref b1), (.int (1 : Int32))]))
  obtain ⟨c6, A6, -, s6, m6, -, -⟩ := id AA1
  refine own_st (fun _ k => own_len X0 hx hZ e0 A6 s6 m6 (g := (mkF m 11 #[.val (.ref b1), .val (.ref b2), .val (.int (1 : Int32))] [(.ref b1), (.int (1 : Int32))])) rfl rfl (hb hby own_djdk_43_method_13_code_11) k) ?_
  show own_Go p.tables e below RR (s₁.setTop (mkF m 12 #[.val (.ref b1), .val (.ref b2), .val (.int (1 : Int32))] [(.int (9 : Int32)), (.int (1 : Int32))]))
  refine own_st (fun _ k => XS.icmpNo X0.here hx rfl (hb hby own_djdk_43_method_13_code_12) rfl (tlt (by decide)).2.1 k) ?_
  show own_Go p.tables e below RR (s₁.setTop (mkF m 15 #[.val (.ref b1), .val (.ref b2), .val (.int (1 : Int32))] []))
  refine own_st (fun _ k => XS.aloadN X0.here hx rfl (hb hby own_djdk_43_method_13_code_15) rfl rfl k) ?_
  show own_Go p.tables e below RR (s₁.setTop (mkF m 16 #[.val (.ref b1), .val (.ref b2), .val (.int (1 : Int32))] [(.ref b1)]))
  refine own_st (fun _ k => XS.iloadN X0.here hx rfl (hb hby own_djdk_43_method_13_code_16) rfl k) ?_
  show own_Go p.tables e below RR (s₁.setTop (mkF m 17 #[.val (.ref b1), .val (.ref b2), .val (.int (1 : Int32))] [(.int (1 : Int32)), (.ref b1)]))
  obtain ⟨c7, A7, q7, s7, m7, H7, G7⟩ := id AA1
  have b7 := inb_of (j := (1 : Int32)) s7 ⟨by decide, by decide⟩
  refine own_st (fun _ k => X0.baloadBytes hx (j := (1 : Int32)) (v := (.int (111 : Int32))) (by rw [e0]; exact A7.1) (State.isArrayOf_alike hZ.alike A7.2.1) A7.2.2 b7 (Has.at H7 b7 rfl) (g := (mkF m 17 #[.val (.ref b1), .val (.ref b2), .val (.int (1 : Int32))] [(.int (1 : Int32)), (.ref b1)])) rfl rfl (hb hby own_djdk_43_method_13_code_17) _ k) ?_
  show own_Go p.tables e below RR (s₁.setTop (mkF m 18 #[.val (.ref b1), .val (.ref b2), .val (.int (1 : Int32))] [(.int (111 : Int32))]))
  refine own_st (fun _ k => XS.aloadN X0.here hx rfl (hb hby own_djdk_43_method_13_code_18) rfl rfl k) ?_
  show own_Go p.tables e below RR (s₁.setTop (mkF m 19 #[.val (.ref b1), .val (.ref b2), .val (.int (1 : Int32))] [(.ref b2), (.int (111 : Int32))]))
  refine own_st (fun _ k => XS.iloadN X0.here hx rfl (hb hby own_djdk_43_method_13_code_19) rfl k) ?_
  show own_Go p.tables e below RR (s₁.setTop (mkF m 20 #[.val (.ref b1), .val (.ref b2), .val (.int (1 : Int32))] [(.int (1 : Int32)), (.ref b2), (.int (111 : Int32))]))
  obtain ⟨c8, A8, q8, s8, m8, H8, G8⟩ := id AA2
  have b8 := inb_of (j := (1 : Int32)) s8 ⟨by decide, by decide⟩
  refine own_st (fun _ k => X0.baloadBytes hx (j := (1 : Int32)) (v := (.int (111 : Int32))) (by rw [e0]; exact A8.1) (State.isArrayOf_alike hZ.alike A8.2.1) A8.2.2 b8 (Has.at H8 b8 rfl) (g := (mkF m 20 #[.val (.ref b1), .val (.ref b2), .val (.int (1 : Int32))] [(.int (1 : Int32)), (.ref b2), (.int (111 : Int32))])) rfl rfl (hb hby own_djdk_43_method_13_code_20) _ k) ?_
  show own_Go p.tables e below RR (s₁.setTop (mkF m 21 #[.val (.ref b1), .val (.ref b2), .val (.int (1 : Int32))] [(.int (111 : Int32)), (.int (111 : Int32))]))
  refine own_st (fun _ k => XS.icmpYes X0.here hx rfl (pc0 := 21) (pc' := 26) rfl (hb hby own_djdk_43_method_13_code_21) rfl (teq (by decide)).1 (by decide) (by decide) k) ?_
  show own_Go p.tables e below RR (s₁.setTop (mkF m 26 #[.val (.ref b1), .val (.ref b2), .val (.int (1 : Int32))] []))
  refine own_st (fun _ k => XS.iinc X0.here hx rfl (hb hby own_djdk_43_method_13_code_26) rfl (l' := #[.val (.ref b1), .val (.ref b2), .val (.int (2 : Int32))]) rfl k) ?_
  show own_Go p.tables e below RR (s₁.setTop (mkF m 29 #[.val (.ref b1), .val (.ref b2), .val (.int (2 : Int32))] []))
  refine own_st (fun _ k => XS.goto X0.here hx rfl (pc0 := 29) (pc' := 9) rfl (hb hby own_djdk_43_method_13_code_29) (by decide) (by decide) k) ?_
  show own_Go p.tables e below RR (s₁.setTop (mkF m 9 #[.val (.ref b1), .val (.ref b2), .val (.int (2 : Int32))] []))
  refine own_st (fun _ k => XS.iloadN X0.here hx rfl (hb hby own_djdk_43_method_13_code_9) rfl k) ?_
  show own_Go p.tables e below RR (s₁.setTop (mkF m 10 #[.val (.ref b1), .val (.ref b2), .val (.int (2 : Int32))] [(.int (2 : Int32))]))
  refine own_st (fun _ k => XS.aloadN X0.here hx rfl (hb hby own_djdk_43_method_13_code_10) rfl rfl k) ?_
  show own_Go p.tables e below RR (s₁.setTop (mkF m 11 #[.val (.ref b1), .val (.ref b2), .val (.int (2 : Int32))] [(.ref b1), (.int (2 : Int32))]))
  obtain ⟨c9, A9, -, s9, m9, -, -⟩ := id AA1
  refine own_st (fun _ k => own_len X0 hx hZ e0 A9 s9 m9 (g := (mkF m 11 #[.val (.ref b1), .val (.ref b2), .val (.int (2 : Int32))] [(.ref b1), (.int (2 : Int32))])) rfl rfl (hb hby own_djdk_43_method_13_code_11) k) ?_
  show own_Go p.tables e below RR (s₁.setTop (mkF m 12 #[.val (.ref b1), .val (.ref b2), .val (.int (2 : Int32))] [(.int (9 : Int32)), (.int (2 : Int32))]))
  refine own_st (fun _ k => XS.icmpNo X0.here hx rfl (hb hby own_djdk_43_method_13_code_12) rfl (tlt (by decide)).2.1 k) ?_
  show own_Go p.tables e below RR (s₁.setTop (mkF m 15 #[.val (.ref b1), .val (.ref b2), .val (.int (2 : Int32))] []))
  refine own_st (fun _ k => XS.aloadN X0.here hx rfl (hb hby own_djdk_43_method_13_code_15) rfl rfl k) ?_
  show own_Go p.tables e below RR (s₁.setTop (mkF m 16 #[.val (.ref b1), .val (.ref b2), .val (.int (2 : Int32))] [(.ref b1)]))
  refine own_st (fun _ k => XS.iloadN X0.here hx rfl (hb hby own_djdk_43_method_13_code_16) rfl k) ?_
  show own_Go p.tables e below RR (s₁.setTop (mkF m 17 #[.val (.ref b1), .val (.ref b2), .val (.int (2 : Int32))] [(.int (2 : Int32)), (.ref b1)]))
  obtain ⟨c10, A10, q10, s10, m10, H10, G10⟩ := id AA1
  have b10 := inb_of (j := (2 : Int32)) s10 ⟨by decide, by decide⟩
  refine own_st (fun _ k => X0.baloadBytes hx (j := (2 : Int32)) (v := (.int (109 : Int32))) (by rw [e0]; exact A10.1) (State.isArrayOf_alike hZ.alike A10.2.1) A10.2.2 b10 (Has.at H10 b10 rfl) (g := (mkF m 17 #[.val (.ref b1), .val (.ref b2), .val (.int (2 : Int32))] [(.int (2 : Int32)), (.ref b1)])) rfl rfl (hb hby own_djdk_43_method_13_code_17) _ k) ?_
  show own_Go p.tables e below RR (s₁.setTop (mkF m 18 #[.val (.ref b1), .val (.ref b2), .val (.int (2 : Int32))] [(.int (109 : Int32))]))
  refine own_st (fun _ k => XS.aloadN X0.here hx rfl (hb hby own_djdk_43_method_13_code_18) rfl rfl k) ?_
  show own_Go p.tables e below RR (s₁.setTop (mkF m 19 #[.val (.ref b1), .val (.ref b2), .val (.int (2 : Int32))] [(.ref b2), (.int (109 : Int32))]))
  refine own_st (fun _ k => XS.iloadN X0.here hx rfl (hb hby own_djdk_43_method_13_code_19) rfl k) ?_
  show own_Go p.tables e below RR (s₁.setTop (mkF m 20 #[.val (.ref b1), .val (.ref b2), .val (.int (2 : Int32))] [(.int (2 : Int32)), (.ref b2), (.int (109 : Int32))]))
  obtain ⟨c11, A11, q11, s11, m11, H11, G11⟩ := id AA2
  have b11 := inb_of (j := (2 : Int32)) s11 ⟨by decide, by decide⟩
  refine own_st (fun _ k => X0.baloadBytes hx (j := (2 : Int32)) (v := (.int (109 : Int32))) (by rw [e0]; exact A11.1) (State.isArrayOf_alike hZ.alike A11.2.1) A11.2.2 b11 (Has.at H11 b11 rfl) (g := (mkF m 20 #[.val (.ref b1), .val (.ref b2), .val (.int (2 : Int32))] [(.int (2 : Int32)), (.ref b2), (.int (109 : Int32))])) rfl rfl (hb hby own_djdk_43_method_13_code_20) _ k) ?_
  show own_Go p.tables e below RR (s₁.setTop (mkF m 21 #[.val (.ref b1), .val (.ref b2), .val (.int (2 : Int32))] [(.int (109 : Int32)), (.int (109 : Int32))]))
  refine own_st (fun _ k => XS.icmpYes X0.here hx rfl (pc0 := 21) (pc' := 26) rfl (hb hby own_djdk_43_method_13_code_21) rfl (teq (by decide)).1 (by decide) (by decide) k) ?_
  show own_Go p.tables e below RR (s₁.setTop (mkF m 26 #[.val (.ref b1), .val (.ref b2), .val (.int (2 : Int32))] []))
  refine own_st (fun _ k => XS.iinc X0.here hx rfl (hb hby own_djdk_43_method_13_code_26) rfl (l' := #[.val (.ref b1), .val (.ref b2), .val (.int (3 : Int32))]) rfl k) ?_
  show own_Go p.tables e below RR (s₁.setTop (mkF m 29 #[.val (.ref b1), .val (.ref b2), .val (.int (3 : Int32))] []))
  refine own_st (fun _ k => XS.goto X0.here hx rfl (pc0 := 29) (pc' := 9) rfl (hb hby own_djdk_43_method_13_code_29) (by decide) (by decide) k) ?_
  show own_Go p.tables e below RR (s₁.setTop (mkF m 9 #[.val (.ref b1), .val (.ref b2), .val (.int (3 : Int32))] []))
  refine own_st (fun _ k => XS.iloadN X0.here hx rfl (hb hby own_djdk_43_method_13_code_9) rfl k) ?_
  show own_Go p.tables e below RR (s₁.setTop (mkF m 10 #[.val (.ref b1), .val (.ref b2), .val (.int (3 : Int32))] [(.int (3 : Int32))]))
  refine own_st (fun _ k => XS.aloadN X0.here hx rfl (hb hby own_djdk_43_method_13_code_10) rfl rfl k) ?_
  show own_Go p.tables e below RR (s₁.setTop (mkF m 11 #[.val (.ref b1), .val (.ref b2), .val (.int (3 : Int32))] [(.ref b1), (.int (3 : Int32))]))
  obtain ⟨c12, A12, -, s12, m12, -, -⟩ := id AA1
  refine own_st (fun _ k => own_len X0 hx hZ e0 A12 s12 m12 (g := (mkF m 11 #[.val (.ref b1), .val (.ref b2), .val (.int (3 : Int32))] [(.ref b1), (.int (3 : Int32))])) rfl rfl (hb hby own_djdk_43_method_13_code_11) k) ?_
  show own_Go p.tables e below RR (s₁.setTop (mkF m 12 #[.val (.ref b1), .val (.ref b2), .val (.int (3 : Int32))] [(.int (9 : Int32)), (.int (3 : Int32))]))
  refine own_st (fun _ k => XS.icmpNo X0.here hx rfl (hb hby own_djdk_43_method_13_code_12) rfl (tlt (by decide)).2.1 k) ?_
  show own_Go p.tables e below RR (s₁.setTop (mkF m 15 #[.val (.ref b1), .val (.ref b2), .val (.int (3 : Int32))] []))
  refine own_st (fun _ k => XS.aloadN X0.here hx rfl (hb hby own_djdk_43_method_13_code_15) rfl rfl k) ?_
  show own_Go p.tables e below RR (s₁.setTop (mkF m 16 #[.val (.ref b1), .val (.ref b2), .val (.int (3 : Int32))] [(.ref b1)]))
  refine own_st (fun _ k => XS.iloadN X0.here hx rfl (hb hby own_djdk_43_method_13_code_16) rfl k) ?_
  show own_Go p.tables e below RR (s₁.setTop (mkF m 17 #[.val (.ref b1), .val (.ref b2), .val (.int (3 : Int32))] [(.int (3 : Int32)), (.ref b1)]))
  obtain ⟨c13, A13, q13, s13, m13, H13, G13⟩ := id AA1
  have b13 := inb_of (j := (3 : Int32)) s13 ⟨by decide, by decide⟩
  refine own_st (fun _ k => X0.baloadBytes hx (j := (3 : Int32)) (v := (.int (112 : Int32))) (by rw [e0]; exact A13.1) (State.isArrayOf_alike hZ.alike A13.2.1) A13.2.2 b13 (Has.at H13 b13 rfl) (g := (mkF m 17 #[.val (.ref b1), .val (.ref b2), .val (.int (3 : Int32))] [(.int (3 : Int32)), (.ref b1)])) rfl rfl (hb hby own_djdk_43_method_13_code_17) _ k) ?_
  show own_Go p.tables e below RR (s₁.setTop (mkF m 18 #[.val (.ref b1), .val (.ref b2), .val (.int (3 : Int32))] [(.int (112 : Int32))]))
  refine own_st (fun _ k => XS.aloadN X0.here hx rfl (hb hby own_djdk_43_method_13_code_18) rfl rfl k) ?_
  show own_Go p.tables e below RR (s₁.setTop (mkF m 19 #[.val (.ref b1), .val (.ref b2), .val (.int (3 : Int32))] [(.ref b2), (.int (112 : Int32))]))
  refine own_st (fun _ k => XS.iloadN X0.here hx rfl (hb hby own_djdk_43_method_13_code_19) rfl k) ?_
  show own_Go p.tables e below RR (s₁.setTop (mkF m 20 #[.val (.ref b1), .val (.ref b2), .val (.int (3 : Int32))] [(.int (3 : Int32)), (.ref b2), (.int (112 : Int32))]))
  obtain ⟨c14, A14, q14, s14, m14, H14, G14⟩ := id AA2
  have b14 := inb_of (j := (3 : Int32)) s14 ⟨by decide, by decide⟩
  refine own_st (fun _ k => X0.baloadBytes hx (j := (3 : Int32)) (v := (.int (112 : Int32))) (by rw [e0]; exact A14.1) (State.isArrayOf_alike hZ.alike A14.2.1) A14.2.2 b14 (Has.at H14 b14 rfl) (g := (mkF m 20 #[.val (.ref b1), .val (.ref b2), .val (.int (3 : Int32))] [(.int (3 : Int32)), (.ref b2), (.int (112 : Int32))])) rfl rfl (hb hby own_djdk_43_method_13_code_20) _ k) ?_
  show own_Go p.tables e below RR (s₁.setTop (mkF m 21 #[.val (.ref b1), .val (.ref b2), .val (.int (3 : Int32))] [(.int (112 : Int32)), (.int (112 : Int32))]))
  refine own_st (fun _ k => XS.icmpYes X0.here hx rfl (pc0 := 21) (pc' := 26) rfl (hb hby own_djdk_43_method_13_code_21) rfl (teq (by decide)).1 (by decide) (by decide) k) ?_
  show own_Go p.tables e below RR (s₁.setTop (mkF m 26 #[.val (.ref b1), .val (.ref b2), .val (.int (3 : Int32))] []))
  refine own_st (fun _ k => XS.iinc X0.here hx rfl (hb hby own_djdk_43_method_13_code_26) rfl (l' := #[.val (.ref b1), .val (.ref b2), .val (.int (4 : Int32))]) rfl k) ?_
  show own_Go p.tables e below RR (s₁.setTop (mkF m 29 #[.val (.ref b1), .val (.ref b2), .val (.int (4 : Int32))] []))
  refine own_st (fun _ k => XS.goto X0.here hx rfl (pc0 := 29) (pc' := 9) rfl (hb hby own_djdk_43_method_13_code_29) (by decide) (by decide) k) ?_
  show own_Go p.tables e below RR (s₁.setTop (mkF m 9 #[.val (.ref b1), .val (.ref b2), .val (.int (4 : Int32))] []))
  refine own_st (fun _ k => XS.iloadN X0.here hx rfl (hb hby own_djdk_43_method_13_code_9) rfl k) ?_
  show own_Go p.tables e below RR (s₁.setTop (mkF m 10 #[.val (.ref b1), .val (.ref b2), .val (.int (4 : Int32))] [(.int (4 : Int32))]))
  refine own_st (fun _ k => XS.aloadN X0.here hx rfl (hb hby own_djdk_43_method_13_code_10) rfl rfl k) ?_
  show own_Go p.tables e below RR (s₁.setTop (mkF m 11 #[.val (.ref b1), .val (.ref b2), .val (.int (4 : Int32))] [(.ref b1), (.int (4 : Int32))]))
  obtain ⟨c15, A15, -, s15, m15, -, -⟩ := id AA1
  refine own_st (fun _ k => own_len X0 hx hZ e0 A15 s15 m15 (g := (mkF m 11 #[.val (.ref b1), .val (.ref b2), .val (.int (4 : Int32))] [(.ref b1), (.int (4 : Int32))])) rfl rfl (hb hby own_djdk_43_method_13_code_11) k) ?_
  show own_Go p.tables e below RR (s₁.setTop (mkF m 12 #[.val (.ref b1), .val (.ref b2), .val (.int (4 : Int32))] [(.int (9 : Int32)), (.int (4 : Int32))]))
  refine own_st (fun _ k => XS.icmpNo X0.here hx rfl (hb hby own_djdk_43_method_13_code_12) rfl (tlt (by decide)).2.1 k) ?_
  show own_Go p.tables e below RR (s₁.setTop (mkF m 15 #[.val (.ref b1), .val (.ref b2), .val (.int (4 : Int32))] []))
  refine own_st (fun _ k => XS.aloadN X0.here hx rfl (hb hby own_djdk_43_method_13_code_15) rfl rfl k) ?_
  show own_Go p.tables e below RR (s₁.setTop (mkF m 16 #[.val (.ref b1), .val (.ref b2), .val (.int (4 : Int32))] [(.ref b1)]))
  refine own_st (fun _ k => XS.iloadN X0.here hx rfl (hb hby own_djdk_43_method_13_code_16) rfl k) ?_
  show own_Go p.tables e below RR (s₁.setTop (mkF m 17 #[.val (.ref b1), .val (.ref b2), .val (.int (4 : Int32))] [(.int (4 : Int32)), (.ref b1)]))
  obtain ⟨c16, A16, q16, s16, m16, H16, G16⟩ := id AA1
  have b16 := inb_of (j := (4 : Int32)) s16 ⟨by decide, by decide⟩
  refine own_st (fun _ k => X0.baloadBytes hx (j := (4 : Int32)) (v := (.int (108 : Int32))) (by rw [e0]; exact A16.1) (State.isArrayOf_alike hZ.alike A16.2.1) A16.2.2 b16 (Has.at H16 b16 rfl) (g := (mkF m 17 #[.val (.ref b1), .val (.ref b2), .val (.int (4 : Int32))] [(.int (4 : Int32)), (.ref b1)])) rfl rfl (hb hby own_djdk_43_method_13_code_17) _ k) ?_
  show own_Go p.tables e below RR (s₁.setTop (mkF m 18 #[.val (.ref b1), .val (.ref b2), .val (.int (4 : Int32))] [(.int (108 : Int32))]))
  refine own_st (fun _ k => XS.aloadN X0.here hx rfl (hb hby own_djdk_43_method_13_code_18) rfl rfl k) ?_
  show own_Go p.tables e below RR (s₁.setTop (mkF m 19 #[.val (.ref b1), .val (.ref b2), .val (.int (4 : Int32))] [(.ref b2), (.int (108 : Int32))]))
  refine own_st (fun _ k => XS.iloadN X0.here hx rfl (hb hby own_djdk_43_method_13_code_19) rfl k) ?_
  show own_Go p.tables e below RR (s₁.setTop (mkF m 20 #[.val (.ref b1), .val (.ref b2), .val (.int (4 : Int32))] [(.int (4 : Int32)), (.ref b2), (.int (108 : Int32))]))
  obtain ⟨c17, A17, q17, s17, m17, H17, G17⟩ := id AA2
  have b17 := inb_of (j := (4 : Int32)) s17 ⟨by decide, by decide⟩
  refine own_st (fun _ k => X0.baloadBytes hx (j := (4 : Int32)) (v := (.int (108 : Int32))) (by rw [e0]; exact A17.1) (State.isArrayOf_alike hZ.alike A17.2.1) A17.2.2 b17 (Has.at H17 b17 rfl) (g := (mkF m 20 #[.val (.ref b1), .val (.ref b2), .val (.int (4 : Int32))] [(.int (4 : Int32)), (.ref b2), (.int (108 : Int32))])) rfl rfl (hb hby own_djdk_43_method_13_code_20) _ k) ?_
  show own_Go p.tables e below RR (s₁.setTop (mkF m 21 #[.val (.ref b1), .val (.ref b2), .val (.int (4 : Int32))] [(.int (108 : Int32)), (.int (108 : Int32))]))
  refine own_st (fun _ k => XS.icmpYes X0.here hx rfl (pc0 := 21) (pc' := 26) rfl (hb hby own_djdk_43_method_13_code_21) rfl (teq (by decide)).1 (by decide) (by decide) k) ?_
  show own_Go p.tables e below RR (s₁.setTop (mkF m 26 #[.val (.ref b1), .val (.ref b2), .val (.int (4 : Int32))] []))
  refine own_st (fun _ k => XS.iinc X0.here hx rfl (hb hby own_djdk_43_method_13_code_26) rfl (l' := #[.val (.ref b1), .val (.ref b2), .val (.int (5 : Int32))]) rfl k) ?_
  show own_Go p.tables e below RR (s₁.setTop (mkF m 29 #[.val (.ref b1), .val (.ref b2), .val (.int (5 : Int32))] []))
  refine own_st (fun _ k => XS.goto X0.here hx rfl (pc0 := 29) (pc' := 9) rfl (hb hby own_djdk_43_method_13_code_29) (by decide) (by decide) k) ?_
  show own_Go p.tables e below RR (s₁.setTop (mkF m 9 #[.val (.ref b1), .val (.ref b2), .val (.int (5 : Int32))] []))
  refine own_st (fun _ k => XS.iloadN X0.here hx rfl (hb hby own_djdk_43_method_13_code_9) rfl k) ?_
  show own_Go p.tables e below RR (s₁.setTop (mkF m 10 #[.val (.ref b1), .val (.ref b2), .val (.int (5 : Int32))] [(.int (5 : Int32))]))
  refine own_st (fun _ k => XS.aloadN X0.here hx rfl (hb hby own_djdk_43_method_13_code_10) rfl rfl k) ?_
  show own_Go p.tables e below RR (s₁.setTop (mkF m 11 #[.val (.ref b1), .val (.ref b2), .val (.int (5 : Int32))] [(.ref b1), (.int (5 : Int32))]))
  obtain ⟨c18, A18, -, s18, m18, -, -⟩ := id AA1
  refine own_st (fun _ k => own_len X0 hx hZ e0 A18 s18 m18 (g := (mkF m 11 #[.val (.ref b1), .val (.ref b2), .val (.int (5 : Int32))] [(.ref b1), (.int (5 : Int32))])) rfl rfl (hb hby own_djdk_43_method_13_code_11) k) ?_
  show own_Go p.tables e below RR (s₁.setTop (mkF m 12 #[.val (.ref b1), .val (.ref b2), .val (.int (5 : Int32))] [(.int (9 : Int32)), (.int (5 : Int32))]))
  refine own_st (fun _ k => XS.icmpNo X0.here hx rfl (hb hby own_djdk_43_method_13_code_12) rfl (tlt (by decide)).2.1 k) ?_
  show own_Go p.tables e below RR (s₁.setTop (mkF m 15 #[.val (.ref b1), .val (.ref b2), .val (.int (5 : Int32))] []))
  refine own_st (fun _ k => XS.aloadN X0.here hx rfl (hb hby own_djdk_43_method_13_code_15) rfl rfl k) ?_
  show own_Go p.tables e below RR (s₁.setTop (mkF m 16 #[.val (.ref b1), .val (.ref b2), .val (.int (5 : Int32))] [(.ref b1)]))
  refine own_st (fun _ k => XS.iloadN X0.here hx rfl (hb hby own_djdk_43_method_13_code_16) rfl k) ?_
  show own_Go p.tables e below RR (s₁.setTop (mkF m 17 #[.val (.ref b1), .val (.ref b2), .val (.int (5 : Int32))] [(.int (5 : Int32)), (.ref b1)]))
  obtain ⟨c19, A19, q19, s19, m19, H19, G19⟩ := id AA1
  have b19 := inb_of (j := (5 : Int32)) s19 ⟨by decide, by decide⟩
  refine own_st (fun _ k => X0.baloadBytes hx (j := (5 : Int32)) (v := (.int (101 : Int32))) (by rw [e0]; exact A19.1) (State.isArrayOf_alike hZ.alike A19.2.1) A19.2.2 b19 (Has.at H19 b19 rfl) (g := (mkF m 17 #[.val (.ref b1), .val (.ref b2), .val (.int (5 : Int32))] [(.int (5 : Int32)), (.ref b1)])) rfl rfl (hb hby own_djdk_43_method_13_code_17) _ k) ?_
  show own_Go p.tables e below RR (s₁.setTop (mkF m 18 #[.val (.ref b1), .val (.ref b2), .val (.int (5 : Int32))] [(.int (101 : Int32))]))
  refine own_st (fun _ k => XS.aloadN X0.here hx rfl (hb hby own_djdk_43_method_13_code_18) rfl rfl k) ?_
  show own_Go p.tables e below RR (s₁.setTop (mkF m 19 #[.val (.ref b1), .val (.ref b2), .val (.int (5 : Int32))] [(.ref b2), (.int (101 : Int32))]))
  refine own_st (fun _ k => XS.iloadN X0.here hx rfl (hb hby own_djdk_43_method_13_code_19) rfl k) ?_
  show own_Go p.tables e below RR (s₁.setTop (mkF m 20 #[.val (.ref b1), .val (.ref b2), .val (.int (5 : Int32))] [(.int (5 : Int32)), (.ref b2), (.int (101 : Int32))]))
  obtain ⟨c20, A20, q20, s20, m20, H20, G20⟩ := id AA2
  have b20 := inb_of (j := (5 : Int32)) s20 ⟨by decide, by decide⟩
  refine own_st (fun _ k => X0.baloadBytes hx (j := (5 : Int32)) (v := (.int (101 : Int32))) (by rw [e0]; exact A20.1) (State.isArrayOf_alike hZ.alike A20.2.1) A20.2.2 b20 (Has.at H20 b20 rfl) (g := (mkF m 20 #[.val (.ref b1), .val (.ref b2), .val (.int (5 : Int32))] [(.int (5 : Int32)), (.ref b2), (.int (101 : Int32))])) rfl rfl (hb hby own_djdk_43_method_13_code_20) _ k) ?_
  show own_Go p.tables e below RR (s₁.setTop (mkF m 21 #[.val (.ref b1), .val (.ref b2), .val (.int (5 : Int32))] [(.int (101 : Int32)), (.int (101 : Int32))]))
  refine own_st (fun _ k => XS.icmpYes X0.here hx rfl (pc0 := 21) (pc' := 26) rfl (hb hby own_djdk_43_method_13_code_21) rfl (teq (by decide)).1 (by decide) (by decide) k) ?_
  show own_Go p.tables e below RR (s₁.setTop (mkF m 26 #[.val (.ref b1), .val (.ref b2), .val (.int (5 : Int32))] []))
  refine own_st (fun _ k => XS.iinc X0.here hx rfl (hb hby own_djdk_43_method_13_code_26) rfl (l' := #[.val (.ref b1), .val (.ref b2), .val (.int (6 : Int32))]) rfl k) ?_
  show own_Go p.tables e below RR (s₁.setTop (mkF m 29 #[.val (.ref b1), .val (.ref b2), .val (.int (6 : Int32))] []))
  refine own_st (fun _ k => XS.goto X0.here hx rfl (pc0 := 29) (pc' := 9) rfl (hb hby own_djdk_43_method_13_code_29) (by decide) (by decide) k) ?_
  show own_Go p.tables e below RR (s₁.setTop (mkF m 9 #[.val (.ref b1), .val (.ref b2), .val (.int (6 : Int32))] []))
  refine own_st (fun _ k => XS.iloadN X0.here hx rfl (hb hby own_djdk_43_method_13_code_9) rfl k) ?_
  show own_Go p.tables e below RR (s₁.setTop (mkF m 10 #[.val (.ref b1), .val (.ref b2), .val (.int (6 : Int32))] [(.int (6 : Int32))]))
  refine own_st (fun _ k => XS.aloadN X0.here hx rfl (hb hby own_djdk_43_method_13_code_10) rfl rfl k) ?_
  show own_Go p.tables e below RR (s₁.setTop (mkF m 11 #[.val (.ref b1), .val (.ref b2), .val (.int (6 : Int32))] [(.ref b1), (.int (6 : Int32))]))
  obtain ⟨c21, A21, -, s21, m21, -, -⟩ := id AA1
  refine own_st (fun _ k => own_len X0 hx hZ e0 A21 s21 m21 (g := (mkF m 11 #[.val (.ref b1), .val (.ref b2), .val (.int (6 : Int32))] [(.ref b1), (.int (6 : Int32))])) rfl rfl (hb hby own_djdk_43_method_13_code_11) k) ?_
  show own_Go p.tables e below RR (s₁.setTop (mkF m 12 #[.val (.ref b1), .val (.ref b2), .val (.int (6 : Int32))] [(.int (9 : Int32)), (.int (6 : Int32))]))
  refine own_st (fun _ k => XS.icmpNo X0.here hx rfl (hb hby own_djdk_43_method_13_code_12) rfl (tlt (by decide)).2.1 k) ?_
  show own_Go p.tables e below RR (s₁.setTop (mkF m 15 #[.val (.ref b1), .val (.ref b2), .val (.int (6 : Int32))] []))
  refine own_st (fun _ k => XS.aloadN X0.here hx rfl (hb hby own_djdk_43_method_13_code_15) rfl rfl k) ?_
  show own_Go p.tables e below RR (s₁.setTop (mkF m 16 #[.val (.ref b1), .val (.ref b2), .val (.int (6 : Int32))] [(.ref b1)]))
  refine own_st (fun _ k => XS.iloadN X0.here hx rfl (hb hby own_djdk_43_method_13_code_16) rfl k) ?_
  show own_Go p.tables e below RR (s₁.setTop (mkF m 17 #[.val (.ref b1), .val (.ref b2), .val (.int (6 : Int32))] [(.int (6 : Int32)), (.ref b1)]))
  obtain ⟨c22, A22, q22, s22, m22, H22, G22⟩ := id AA1
  have b22 := inb_of (j := (6 : Int32)) s22 ⟨by decide, by decide⟩
  refine own_st (fun _ k => X0.baloadBytes hx (j := (6 : Int32)) (v := (.int (116 : Int32))) (by rw [e0]; exact A22.1) (State.isArrayOf_alike hZ.alike A22.2.1) A22.2.2 b22 (Has.at H22 b22 rfl) (g := (mkF m 17 #[.val (.ref b1), .val (.ref b2), .val (.int (6 : Int32))] [(.int (6 : Int32)), (.ref b1)])) rfl rfl (hb hby own_djdk_43_method_13_code_17) _ k) ?_
  show own_Go p.tables e below RR (s₁.setTop (mkF m 18 #[.val (.ref b1), .val (.ref b2), .val (.int (6 : Int32))] [(.int (116 : Int32))]))
  refine own_st (fun _ k => XS.aloadN X0.here hx rfl (hb hby own_djdk_43_method_13_code_18) rfl rfl k) ?_
  show own_Go p.tables e below RR (s₁.setTop (mkF m 19 #[.val (.ref b1), .val (.ref b2), .val (.int (6 : Int32))] [(.ref b2), (.int (116 : Int32))]))
  refine own_st (fun _ k => XS.iloadN X0.here hx rfl (hb hby own_djdk_43_method_13_code_19) rfl k) ?_
  show own_Go p.tables e below RR (s₁.setTop (mkF m 20 #[.val (.ref b1), .val (.ref b2), .val (.int (6 : Int32))] [(.int (6 : Int32)), (.ref b2), (.int (116 : Int32))]))
  obtain ⟨c23, A23, q23, s23, m23, H23, G23⟩ := id AA2
  have b23 := inb_of (j := (6 : Int32)) s23 ⟨by decide, by decide⟩
  refine own_st (fun _ k => X0.baloadBytes hx (j := (6 : Int32)) (v := (.int (116 : Int32))) (by rw [e0]; exact A23.1) (State.isArrayOf_alike hZ.alike A23.2.1) A23.2.2 b23 (Has.at H23 b23 rfl) (g := (mkF m 20 #[.val (.ref b1), .val (.ref b2), .val (.int (6 : Int32))] [(.int (6 : Int32)), (.ref b2), (.int (116 : Int32))])) rfl rfl (hb hby own_djdk_43_method_13_code_20) _ k) ?_
  show own_Go p.tables e below RR (s₁.setTop (mkF m 21 #[.val (.ref b1), .val (.ref b2), .val (.int (6 : Int32))] [(.int (116 : Int32)), (.int (116 : Int32))]))
  refine own_st (fun _ k => XS.icmpYes X0.here hx rfl (pc0 := 21) (pc' := 26) rfl (hb hby own_djdk_43_method_13_code_21) rfl (teq (by decide)).1 (by decide) (by decide) k) ?_
  show own_Go p.tables e below RR (s₁.setTop (mkF m 26 #[.val (.ref b1), .val (.ref b2), .val (.int (6 : Int32))] []))
  refine own_st (fun _ k => XS.iinc X0.here hx rfl (hb hby own_djdk_43_method_13_code_26) rfl (l' := #[.val (.ref b1), .val (.ref b2), .val (.int (7 : Int32))]) rfl k) ?_
  show own_Go p.tables e below RR (s₁.setTop (mkF m 29 #[.val (.ref b1), .val (.ref b2), .val (.int (7 : Int32))] []))
  refine own_st (fun _ k => XS.goto X0.here hx rfl (pc0 := 29) (pc' := 9) rfl (hb hby own_djdk_43_method_13_code_29) (by decide) (by decide) k) ?_
  show own_Go p.tables e below RR (s₁.setTop (mkF m 9 #[.val (.ref b1), .val (.ref b2), .val (.int (7 : Int32))] []))
  refine own_st (fun _ k => XS.iloadN X0.here hx rfl (hb hby own_djdk_43_method_13_code_9) rfl k) ?_
  show own_Go p.tables e below RR (s₁.setTop (mkF m 10 #[.val (.ref b1), .val (.ref b2), .val (.int (7 : Int32))] [(.int (7 : Int32))]))
  refine own_st (fun _ k => XS.aloadN X0.here hx rfl (hb hby own_djdk_43_method_13_code_10) rfl rfl k) ?_
  show own_Go p.tables e below RR (s₁.setTop (mkF m 11 #[.val (.ref b1), .val (.ref b2), .val (.int (7 : Int32))] [(.ref b1), (.int (7 : Int32))]))
  obtain ⟨c24, A24, -, s24, m24, -, -⟩ := id AA1
  refine own_st (fun _ k => own_len X0 hx hZ e0 A24 s24 m24 (g := (mkF m 11 #[.val (.ref b1), .val (.ref b2), .val (.int (7 : Int32))] [(.ref b1), (.int (7 : Int32))])) rfl rfl (hb hby own_djdk_43_method_13_code_11) k) ?_
  show own_Go p.tables e below RR (s₁.setTop (mkF m 12 #[.val (.ref b1), .val (.ref b2), .val (.int (7 : Int32))] [(.int (9 : Int32)), (.int (7 : Int32))]))
  refine own_st (fun _ k => XS.icmpNo X0.here hx rfl (hb hby own_djdk_43_method_13_code_12) rfl (tlt (by decide)).2.1 k) ?_
  show own_Go p.tables e below RR (s₁.setTop (mkF m 15 #[.val (.ref b1), .val (.ref b2), .val (.int (7 : Int32))] []))
  refine own_st (fun _ k => XS.aloadN X0.here hx rfl (hb hby own_djdk_43_method_13_code_15) rfl rfl k) ?_
  show own_Go p.tables e below RR (s₁.setTop (mkF m 16 #[.val (.ref b1), .val (.ref b2), .val (.int (7 : Int32))] [(.ref b1)]))
  refine own_st (fun _ k => XS.iloadN X0.here hx rfl (hb hby own_djdk_43_method_13_code_16) rfl k) ?_
  show own_Go p.tables e below RR (s₁.setTop (mkF m 17 #[.val (.ref b1), .val (.ref b2), .val (.int (7 : Int32))] [(.int (7 : Int32)), (.ref b1)]))
  obtain ⟨c25, A25, q25, s25, m25, H25, G25⟩ := id AA1
  have b25 := inb_of (j := (7 : Int32)) s25 ⟨by decide, by decide⟩
  refine own_st (fun _ k => X0.baloadBytes hx (j := (7 : Int32)) (v := (.int (101 : Int32))) (by rw [e0]; exact A25.1) (State.isArrayOf_alike hZ.alike A25.2.1) A25.2.2 b25 (Has.at H25 b25 rfl) (g := (mkF m 17 #[.val (.ref b1), .val (.ref b2), .val (.int (7 : Int32))] [(.int (7 : Int32)), (.ref b1)])) rfl rfl (hb hby own_djdk_43_method_13_code_17) _ k) ?_
  show own_Go p.tables e below RR (s₁.setTop (mkF m 18 #[.val (.ref b1), .val (.ref b2), .val (.int (7 : Int32))] [(.int (101 : Int32))]))
  refine own_st (fun _ k => XS.aloadN X0.here hx rfl (hb hby own_djdk_43_method_13_code_18) rfl rfl k) ?_
  show own_Go p.tables e below RR (s₁.setTop (mkF m 19 #[.val (.ref b1), .val (.ref b2), .val (.int (7 : Int32))] [(.ref b2), (.int (101 : Int32))]))
  refine own_st (fun _ k => XS.iloadN X0.here hx rfl (hb hby own_djdk_43_method_13_code_19) rfl k) ?_
  show own_Go p.tables e below RR (s₁.setTop (mkF m 20 #[.val (.ref b1), .val (.ref b2), .val (.int (7 : Int32))] [(.int (7 : Int32)), (.ref b2), (.int (101 : Int32))]))
  obtain ⟨c26, A26, q26, s26, m26, H26, G26⟩ := id AA2
  have b26 := inb_of (j := (7 : Int32)) s26 ⟨by decide, by decide⟩
  refine own_st (fun _ k => X0.baloadBytes hx (j := (7 : Int32)) (v := (.int (101 : Int32))) (by rw [e0]; exact A26.1) (State.isArrayOf_alike hZ.alike A26.2.1) A26.2.2 b26 (Has.at H26 b26 rfl) (g := (mkF m 20 #[.val (.ref b1), .val (.ref b2), .val (.int (7 : Int32))] [(.int (7 : Int32)), (.ref b2), (.int (101 : Int32))])) rfl rfl (hb hby own_djdk_43_method_13_code_20) _ k) ?_
  show own_Go p.tables e below RR (s₁.setTop (mkF m 21 #[.val (.ref b1), .val (.ref b2), .val (.int (7 : Int32))] [(.int (101 : Int32)), (.int (101 : Int32))]))
  refine own_st (fun _ k => XS.icmpYes X0.here hx rfl (pc0 := 21) (pc' := 26) rfl (hb hby own_djdk_43_method_13_code_21) rfl (teq (by decide)).1 (by decide) (by decide) k) ?_
  show own_Go p.tables e below RR (s₁.setTop (mkF m 26 #[.val (.ref b1), .val (.ref b2), .val (.int (7 : Int32))] []))
  refine own_st (fun _ k => XS.iinc X0.here hx rfl (hb hby own_djdk_43_method_13_code_26) rfl (l' := #[.val (.ref b1), .val (.ref b2), .val (.int (8 : Int32))]) rfl k) ?_
  show own_Go p.tables e below RR (s₁.setTop (mkF m 29 #[.val (.ref b1), .val (.ref b2), .val (.int (8 : Int32))] []))
  refine own_st (fun _ k => XS.goto X0.here hx rfl (pc0 := 29) (pc' := 9) rfl (hb hby own_djdk_43_method_13_code_29) (by decide) (by decide) k) ?_
  show own_Go p.tables e below RR (s₁.setTop (mkF m 9 #[.val (.ref b1), .val (.ref b2), .val (.int (8 : Int32))] []))
  refine own_st (fun _ k => XS.iloadN X0.here hx rfl (hb hby own_djdk_43_method_13_code_9) rfl k) ?_
  show own_Go p.tables e below RR (s₁.setTop (mkF m 10 #[.val (.ref b1), .val (.ref b2), .val (.int (8 : Int32))] [(.int (8 : Int32))]))
  refine own_st (fun _ k => XS.aloadN X0.here hx rfl (hb hby own_djdk_43_method_13_code_10) rfl rfl k) ?_
  show own_Go p.tables e below RR (s₁.setTop (mkF m 11 #[.val (.ref b1), .val (.ref b2), .val (.int (8 : Int32))] [(.ref b1), (.int (8 : Int32))]))
  obtain ⟨c27, A27, -, s27, m27, -, -⟩ := id AA1
  refine own_st (fun _ k => own_len X0 hx hZ e0 A27 s27 m27 (g := (mkF m 11 #[.val (.ref b1), .val (.ref b2), .val (.int (8 : Int32))] [(.ref b1), (.int (8 : Int32))])) rfl rfl (hb hby own_djdk_43_method_13_code_11) k) ?_
  show own_Go p.tables e below RR (s₁.setTop (mkF m 12 #[.val (.ref b1), .val (.ref b2), .val (.int (8 : Int32))] [(.int (9 : Int32)), (.int (8 : Int32))]))
  refine own_st (fun _ k => XS.icmpNo X0.here hx rfl (hb hby own_djdk_43_method_13_code_12) rfl (tlt (by decide)).2.1 k) ?_
  show own_Go p.tables e below RR (s₁.setTop (mkF m 15 #[.val (.ref b1), .val (.ref b2), .val (.int (8 : Int32))] []))
  refine own_st (fun _ k => XS.aloadN X0.here hx rfl (hb hby own_djdk_43_method_13_code_15) rfl rfl k) ?_
  show own_Go p.tables e below RR (s₁.setTop (mkF m 16 #[.val (.ref b1), .val (.ref b2), .val (.int (8 : Int32))] [(.ref b1)]))
  refine own_st (fun _ k => XS.iloadN X0.here hx rfl (hb hby own_djdk_43_method_13_code_16) rfl k) ?_
  show own_Go p.tables e below RR (s₁.setTop (mkF m 17 #[.val (.ref b1), .val (.ref b2), .val (.int (8 : Int32))] [(.int (8 : Int32)), (.ref b1)]))
  obtain ⟨c28, A28, q28, s28, m28, H28, G28⟩ := id AA1
  have b28 := inb_of (j := (8 : Int32)) s28 ⟨by decide, by decide⟩
  refine own_st (fun _ k => X0.baloadBytes hx (j := (8 : Int32)) (v := (.int (100 : Int32))) (by rw [e0]; exact A28.1) (State.isArrayOf_alike hZ.alike A28.2.1) A28.2.2 b28 (Has.at H28 b28 rfl) (g := (mkF m 17 #[.val (.ref b1), .val (.ref b2), .val (.int (8 : Int32))] [(.int (8 : Int32)), (.ref b1)])) rfl rfl (hb hby own_djdk_43_method_13_code_17) _ k) ?_
  show own_Go p.tables e below RR (s₁.setTop (mkF m 18 #[.val (.ref b1), .val (.ref b2), .val (.int (8 : Int32))] [(.int (100 : Int32))]))
  refine own_st (fun _ k => XS.aloadN X0.here hx rfl (hb hby own_djdk_43_method_13_code_18) rfl rfl k) ?_
  show own_Go p.tables e below RR (s₁.setTop (mkF m 19 #[.val (.ref b1), .val (.ref b2), .val (.int (8 : Int32))] [(.ref b2), (.int (100 : Int32))]))
  refine own_st (fun _ k => XS.iloadN X0.here hx rfl (hb hby own_djdk_43_method_13_code_19) rfl k) ?_
  show own_Go p.tables e below RR (s₁.setTop (mkF m 20 #[.val (.ref b1), .val (.ref b2), .val (.int (8 : Int32))] [(.int (8 : Int32)), (.ref b2), (.int (100 : Int32))]))
  obtain ⟨c29, A29, q29, s29, m29, H29, G29⟩ := id AA2
  have b29 := inb_of (j := (8 : Int32)) s29 ⟨by decide, by decide⟩
  refine own_st (fun _ k => X0.baloadBytes hx (j := (8 : Int32)) (v := (.int (100 : Int32))) (by rw [e0]; exact A29.1) (State.isArrayOf_alike hZ.alike A29.2.1) A29.2.2 b29 (Has.at H29 b29 rfl) (g := (mkF m 20 #[.val (.ref b1), .val (.ref b2), .val (.int (8 : Int32))] [(.int (8 : Int32)), (.ref b2), (.int (100 : Int32))])) rfl rfl (hb hby own_djdk_43_method_13_code_20) _ k) ?_
  show own_Go p.tables e below RR (s₁.setTop (mkF m 21 #[.val (.ref b1), .val (.ref b2), .val (.int (8 : Int32))] [(.int (100 : Int32)), (.int (100 : Int32))]))
  refine own_st (fun _ k => XS.icmpYes X0.here hx rfl (pc0 := 21) (pc' := 26) rfl (hb hby own_djdk_43_method_13_code_21) rfl (teq (by decide)).1 (by decide) (by decide) k) ?_
  show own_Go p.tables e below RR (s₁.setTop (mkF m 26 #[.val (.ref b1), .val (.ref b2), .val (.int (8 : Int32))] []))
  refine own_st (fun _ k => XS.iinc X0.here hx rfl (hb hby own_djdk_43_method_13_code_26) rfl (l' := #[.val (.ref b1), .val (.ref b2), .val (.int (9 : Int32))]) rfl k) ?_
  show own_Go p.tables e below RR (s₁.setTop (mkF m 29 #[.val (.ref b1), .val (.ref b2), .val (.int (9 : Int32))] []))
  refine own_st (fun _ k => XS.goto X0.here hx rfl (pc0 := 29) (pc' := 9) rfl (hb hby own_djdk_43_method_13_code_29) (by decide) (by decide) k) ?_
  show own_Go p.tables e below RR (s₁.setTop (mkF m 9 #[.val (.ref b1), .val (.ref b2), .val (.int (9 : Int32))] []))
  refine own_st (fun _ k => XS.iloadN X0.here hx rfl (hb hby own_djdk_43_method_13_code_9) rfl k) ?_
  show own_Go p.tables e below RR (s₁.setTop (mkF m 10 #[.val (.ref b1), .val (.ref b2), .val (.int (9 : Int32))] [(.int (9 : Int32))]))
  refine own_st (fun _ k => XS.aloadN X0.here hx rfl (hb hby own_djdk_43_method_13_code_10) rfl rfl k) ?_
  show own_Go p.tables e below RR (s₁.setTop (mkF m 11 #[.val (.ref b1), .val (.ref b2), .val (.int (9 : Int32))] [(.ref b1), (.int (9 : Int32))]))
  obtain ⟨c30, A30, -, s30, m30, -, -⟩ := id AA1
  refine own_st (fun _ k => own_len X0 hx hZ e0 A30 s30 m30 (g := (mkF m 11 #[.val (.ref b1), .val (.ref b2), .val (.int (9 : Int32))] [(.ref b1), (.int (9 : Int32))])) rfl rfl (hb hby own_djdk_43_method_13_code_11) k) ?_
  show own_Go p.tables e below RR (s₁.setTop (mkF m 12 #[.val (.ref b1), .val (.ref b2), .val (.int (9 : Int32))] [(.int (9 : Int32)), (.int (9 : Int32))]))
  refine own_st (fun _ k => XS.icmpYes X0.here hx rfl (pc0 := 12) (pc' := 32) rfl (hb hby own_djdk_43_method_13_code_12) rfl (flt (by decide)).2.1 (by decide) (by decide) k) ?_
  show own_Go p.tables e below RR (s₁.setTop (mkF m 32 #[.val (.ref b1), .val (.ref b2), .val (.int (9 : Int32))] []))
  refine own_st (fun _ k => XS.iconst X0.here hx rfl (hb hby own_djdk_43_method_13_code_32) k) ?_
  show own_Go p.tables e below RR (s₁.setTop (mkF m 33 #[.val (.ref b1), .val (.ref b2), .val (.int (9 : Int32))] [(.int (1 : Int32))]))
  obtain ⟨fs, hrt_, hrun, hended, hW, hsame⟩ := X0.leave (v := some (.int (1 : Int32))) (fun h => by rw [Bd.returns] at h; cases h)
  refine own_fin (retN X0 hx (t := .boolean) Bd.returns (by simp) (hb hby own_djdk_43_method_13_code_33) hrt_) (hRR _ ⟨_, hrun, hended, _, _, rfl, ?_, ⟨_, rfl⟩, hW, hsame.mono (by decide) (by decide)⟩)
  show own_QLE2 Z b1 b2 k1 k2 h0 n0 _ s₁.heap _
  rw [e0]
  exact ⟨rfl, N0, rfl⟩
theorem own_djdk_42_method_66_code_5 : decode jdk_42_method_66_code 5 = .ok (.iconst 1, 1) := by decide +kernel
theorem own_djdk_42_method_66_code_6 : decode jdk_42_method_66_code 6 = .ok (.ireturn, 1) := by decide +kernel
theorem own_djdk_42_method_66_code_50 : decode jdk_42_method_66_code 50 = .ok (.iconst 1, 1) := by decide +kernel
theorem own_djdk_42_method_66_code_51 : decode jdk_42_method_66_code 51 = .ok (.goto 4, 3) := by decide +kernel
theorem own_efEQ2 (m : MethodId) (o1 : Addr) (o2 : Addr) : entryFrame m #[(.ref o1), (.ref o2)] 3 = mkF m 0 #[.val (.ref o1), .val (.ref o2), .unset] [] := by first | (simp [entryFrame, mkF, argsToLocals, Value.category]; done) | rfl
def own_QEQ2 (Z : State) (o1 : Addr) (o2 : Addr) (b1 : Addr) (b2 : Addr) (k1 : ClassId) (k2 : ClassId) (cs : Int32) (h0 : Heap) (n0 : Nat) (rv__ : Option Value) (h : Heap) (rL__ : List Loc) : Prop := rv__ = some (.int (1 : Int32)) ∧ Fr n0 rL__ ∧ h = h0
abbrev own_REQ2 : Room := { frames := 1, cells := 0, slots := 0, locals := 14 }
set_option maxRecDepth 65536 in
set_option maxHeartbeats 40000000 in
theorem own_rmEQ2 (l : Launch) (Z : State) (a0 : Array Value) (hw : ∀ d ∈ tables_1, d.before a0 Z = true) (ws : List Jvm.Cond) (o1 : Addr) (o2 : Addr) (b1 : Addr) (b2 : Addr) (k1 : ClassId) (k2 : ClassId) (cs : Int32) (h0 : Heap) (n0 : Nat) (Z0 : n0 ≤ h0.size) (E2 : Exa Z h0 o2 "java/lang/String") (C1 : Fld Z h0 o1 "java/lang/String" "coder" "B" (.int (0 : Int32))) (C2 : Fld Z h0 o2 "java/lang/String" "coder" "B" (.int (0 : Int32))) (V1 : Fld Z h0 o1 "java/lang/String" "value" "[B" (.ref b1)) (V2 : Fld Z h0 o2 "java/lang/String" "value" "[B" (.ref b2)) (AA1 : Arv Z h0 b1 k1 .byte (9 : Int32) [(.int (99 : Int32)), (.int (111 : Int32)), (.int (109 : Int32)), (.int (112 : Int32)), (.int (108 : Int32)), (.int (101 : Int32)), (.int (116 : Int32)), (.int (101 : Int32)), (.int (100 : Int32))] (.int (0 : Int32))) (AA2 : Arv Z h0 b2 k2 .byte (9 : Int32) [(.int (99 : Int32)), (.int (111 : Int32)), (.int (109 : Int32)), (.int (112 : Int32)), (.int (108 : Int32)), (.int (101 : Int32)), (.int (116 : Int32)), (.int (101 : Int32)), (.int (100 : Int32))] (.int (0 : Int32))) (S0 : Sta Z h0 "java/lang/String" "COMPACT_STRINGS" "Z" (.int cs)) (hcs : ¬ cs = (0 : Int32)) :
    MetFree l (⟨"java/lang/String", "equals", "(Ljava/lang/Object;)Z"⟩ : MethodName) (head1 (Jvm.Cond.code (⟨"java/lang/String", "equals", "(Ljava/lang/Object;)Z"⟩ : MethodName) jdk_42_method_66_code 3 (some .boolean) :: ws) own_REQ2) (fun aa__ U => aa__ = #[(.ref o1), (.ref o2)] ∧ Z.Warmed39 U.vm ∧ U.heap = h0) (fun _ _ _ _ _ => True) (fun _ U oc_ U' => ∃ rv__ rL__, oc_ = .returned rv__ ∧ own_QEQ2 Z o1 o2 b1 b2 k1 k2 cs h0 n0 rv__ U'.heap rL__ ∧ FrameEnd U oc_ U' rL__ own_REQ2.cells own_REQ2.slots) := by
  refine MetFree.of_bodySF (plainFor_of_name own_pn_java_lang_String) hisR ?_
  intro p e s m args below meth c s₁ Bd hml0 hP hK
  obtain ⟨rfl, hZ, hh⟩ := hP
  have hx := Bd.exec
  have hby := Bd.bytes
  have hml : c.maxLocals = 3 := hml0
  have hown : s.vm.findClass "java/lang/String" = some m.cls := findClass_of_methodNamed Bd.named
  have hnm := (name_of_methodNamed Bd.named Bd.method).1
  have X0 : Stand p l e own_REQ2 s m #[(.ref o1), (.ref o2)] below meth c s₁ [] 0 0 := Stand.of_body Bd
  have e0 : s₁.heap = h0 := by rw [← hh, Bd.state]; rfl
  have N0 := Fr.nil n0
  refine own_in (fun _ k => castTop (own_efEQ2 m o1 o2) k) ?_
  intro RR hRR
  show own_Go p.tables e below RR (s₁.setTop (mkF m 0 #[.val (.ref o1), .val (.ref o2), .unset] []))
  refine own_st (fun _ k => XS.aloadN X0.here hx rfl (hb hby own_djdk_42_method_66_code_0) rfl rfl k) ?_
  show own_Go p.tables e below RR (s₁.setTop (mkF m 1 #[.val (.ref o1), .val (.ref o2), .unset] [(.ref o1)]))
  refine own_st (fun _ k => XS.aloadN X0.here hx rfl (hb hby own_djdk_42_method_66_code_1) rfl rfl k) ?_
  show own_Go p.tables e below RR (s₁.setTop (mkF m 2 #[.val (.ref o1), .val (.ref o2), .unset] [(.ref o2), (.ref o1)]))
  by_cases hc2_1 : o1 = o2
  · refine own_st (fun _ k => Jvm.RoadKit.acmp (g := (mkF m 2 #[.val (.ref o1), .val (.ref o2), .unset] [(.ref o2), (.ref o1)])) X0 hx rfl rfl rfl (pc0 := 2) (pc' := 5) (same := true) rfl (hb hby own_djdk_42_method_66_code_2) rfl (decide_eq_true (congrArg Value.ref hc2_1)) (by decide) (by decide) k) ?_
    show own_Go p.tables e below RR (s₁.setTop (mkF m 5 #[.val (.ref o1), .val (.ref o2), .unset] []))
    refine own_st (fun _ k => XS.iconst X0.here hx rfl (hb hby own_djdk_42_method_66_code_5) k) ?_
    show own_Go p.tables e below RR (s₁.setTop (mkF m 6 #[.val (.ref o1), .val (.ref o2), .unset] [(.int (1 : Int32))]))
    obtain ⟨fs, hrt_, hrun, hended, hW, hsame⟩ := X0.leave (v := some (.int (1 : Int32))) (fun h => by rw [Bd.returns] at h; cases h)
    refine own_fin (retN X0 hx (t := .boolean) Bd.returns (by simp) (hb hby own_djdk_42_method_66_code_6) hrt_) (hRR _ ⟨_, hrun, hended, _, _, rfl, ?_, ⟨_, rfl⟩, hW, hsame.mono (by decide) (by decide)⟩)
    show own_QEQ2 Z o1 o2 b1 b2 k1 k2 cs h0 n0 _ s₁.heap _
    rw [e0]
    exact ⟨rfl, N0, rfl⟩
  · refine own_st (fun _ k => Jvm.RoadKit.acmp (g := (mkF m 2 #[.val (.ref o1), .val (.ref o2), .unset] [(.ref o2), (.ref o1)])) X0 hx rfl rfl rfl (pc0 := 2) (pc' := 7) (same := false) rfl (hb hby own_djdk_42_method_66_code_2) rfl (decide_eq_false fun q => hc2_1 (Value.ref.inj q)) (by decide) (by decide) k) ?_
    show own_Go p.tables e below RR (s₁.setTop (mkF m 7 #[.val (.ref o1), .val (.ref o2), .unset] []))
    refine own_st (fun _ k => XS.aloadN X0.here hx rfl (hb hby own_djdk_42_method_66_code_7) rfl rfl k) ?_
    show own_Go p.tables e below RR (s₁.setTop (mkF m 8 #[.val (.ref o1), .val (.ref o2), .unset] [(.ref o2)]))
    obtain ⟨T2, X2, e2, st2⟩ := instY X0 hx hZ hown (hw _ (List.mem_of_getElem? (i := 39) rfl)) e0 (Ins.self E2) (g := (mkF m 8 #[.val (.ref o1), .val (.ref o2), .unset] [(.ref o2)])) rfl rfl (hb hby own_djdk_42_method_66_code_8)
    refine own_st st2 ?_
    show own_Go p.tables e below RR (T2.setTop (mkF m 11 #[.val (.ref o1), .val (.ref o2), .unset] [(.int (1 : Int32))]))
    refine own_st (fun _ k => XS.ifNo X2.here hx rfl (hb hby own_djdk_42_method_66_code_11) rfl ((if0 _ _).trans (feq (by decide)).1) k) ?_
    show own_Go p.tables e below RR (T2.setTop (mkF m 14 #[.val (.ref o1), .val (.ref o2), .unset] []))
    refine own_st (fun _ k => XS.aloadN X2.here hx rfl (hb hby own_djdk_42_method_66_code_14) rfl rfl k) ?_
    show own_Go p.tables e below RR (T2.setTop (mkF m 15 #[.val (.ref o1), .val (.ref o2), .unset] [(.ref o2)]))
    obtain ⟨T3, X3, e3, st3⟩ := castY X2 hx hZ hown (hw _ (List.mem_of_getElem? (i := 39) rfl)) e2 (Ins.self E2) (g := (mkF m 15 #[.val (.ref o1), .val (.ref o2), .unset] [(.ref o2)])) rfl rfl (hb hby own_djdk_42_method_66_code_15)
    refine own_st st3 ?_
    show own_Go p.tables e below RR (T3.setTop (mkF m 18 #[.val (.ref o1), .val (.ref o2), .unset] [(.ref o2)]))
    refine own_st (fun _ k => XS.astoreN X3.here hx rfl (hb hby own_djdk_42_method_66_code_18) rfl rfl (l' := #[.val (.ref o1), .val (.ref o2), .val (.ref o2)]) rfl k) ?_
    show own_Go p.tables e below RR (T3.setTop (mkF m 19 #[.val (.ref o1), .val (.ref o2), .val (.ref o2)] []))
    obtain ⟨T4, X4, e4, st4⟩ := getS2 X3 hx hZ hown (host := "") (Or.inl (hw _ (List.mem_of_getElem? (i := 41) rfl))) Via.refl e3 S0 (g := (mkF m 19 #[.val (.ref o1), .val (.ref o2), .val (.ref o2)] [])) rfl (hb hby own_djdk_42_method_66_code_19)
    refine own_st st4 ?_
    show own_Go p.tables e below RR (T4.setTop (mkF m 22 #[.val (.ref o1), .val (.ref o2), .val (.ref o2)] [(.int cs)]))
    have hc22_5 : ¬ (cs = (0 : Int32)) := hcs
    refine own_st (fun _ k => XS.ifNo X4.here hx rfl (hb hby own_djdk_42_method_66_code_22) rfl ((if0 _ _).trans (feq hc22_5).1) k) ?_
    show own_Go p.tables e below RR (T4.setTop (mkF m 25 #[.val (.ref o1), .val (.ref o2), .val (.ref o2)] []))
    refine own_st (fun _ k => XS.aloadN X4.here hx rfl (hb hby own_djdk_42_method_66_code_25) rfl rfl k) ?_
    show own_Go p.tables e below RR (T4.setTop (mkF m 26 #[.val (.ref o1), .val (.ref o2), .val (.ref o2)] [(.ref o1)]))
    obtain ⟨T6, X6, e6, st6⟩ := getF X4 hx hZ hown (host := "") (Or.inl (hw _ (List.mem_of_getElem? (i := 42) rfl))) Via.refl e4 C1 (g := (mkF m 26 #[.val (.ref o1), .val (.ref o2), .val (.ref o2)] [(.ref o1)])) rfl rfl (hb hby own_djdk_42_method_66_code_26)
    refine own_st st6 ?_
    show own_Go p.tables e below RR (T6.setTop (mkF m 29 #[.val (.ref o1), .val (.ref o2), .val (.ref o2)] [(.int (0 : Int32))]))
    refine own_st (fun _ k => XS.aloadN X6.here hx rfl (hb hby own_djdk_42_method_66_code_29) rfl rfl k) ?_
    show own_Go p.tables e below RR (T6.setTop (mkF m 30 #[.val (.ref o1), .val (.ref o2), .val (.ref o2)] [(.ref o2), (.int (0 : Int32))]))
    obtain ⟨T7, X7, e7, st7⟩ := getF X6 hx hZ hown (host := "") (Or.inl (hw _ (List.mem_of_getElem? (i := 42) rfl))) Via.refl e6 C2 (g := (mkF m 30 #[.val (.ref o1), .val (.ref o2), .val (.ref o2)] [(.ref o2), (.int (0 : Int32))])) rfl rfl (hb hby own_djdk_42_method_66_code_30)
    refine own_st st7 ?_
    show own_Go p.tables e below RR (T7.setTop (mkF m 33 #[.val (.ref o1), .val (.ref o2), .val (.ref o2)] [(.int (0 : Int32)), (.int (0 : Int32))]))
    refine own_st (fun _ k => XS.icmpNo X7.here hx rfl (hb hby own_djdk_42_method_66_code_33) rfl (teq (by decide)).2 k) ?_
    show own_Go p.tables e below RR (T7.setTop (mkF m 36 #[.val (.ref o1), .val (.ref o2), .val (.ref o2)] []))
    refine own_st (fun _ k => XS.aloadN X7.here hx rfl (hb hby own_djdk_42_method_66_code_36) rfl rfl k) ?_
    show own_Go p.tables e below RR (T7.setTop (mkF m 37 #[.val (.ref o1), .val (.ref o2), .val (.ref o2)] [(.ref o1)]))
    obtain ⟨T8, X8, e8, st8⟩ := getF X7 hx hZ hown (host := "") (Or.inl (hw _ (List.mem_of_getElem? (i := 43) rfl))) Via.refl e7 V1 (g := (mkF m 37 #[.val (.ref o1), .val (.ref o2), .val (.ref o2)] [(.ref o1)])) rfl rfl (hb hby own_djdk_42_method_66_code_37)
    refine own_st st8 ?_
    show own_Go p.tables e below RR (T8.setTop (mkF m 40 #[.val (.ref o1), .val (.ref o2), .val (.ref o2)] [(.ref b1)]))
    refine own_st (fun _ k => XS.aloadN X8.here hx rfl (hb hby own_djdk_42_method_66_code_40) rfl rfl k) ?_
    show own_Go p.tables e below RR (T8.setTop (mkF m 41 #[.val (.ref o1), .val (.ref o2), .val (.ref o2)] [(.ref o2), (.ref b1)]))
    obtain ⟨T9, X9, e9, st9⟩ := getF X8 hx hZ hown (host := "") (Or.inl (hw _ (List.mem_of_getElem? (i := 43) rfl))) Via.refl e8 V2 (g := (mkF m 41 #[.val (.ref o1), .val (.ref o2), .val (.ref o2)] [(.ref o2), (.ref b1)])) rfl rfl (hb hby own_djdk_42_method_66_code_41)
    refine own_st st9 ?_
    show own_Go p.tables e below RR (T9.setTop (mkF m 44 #[.val (.ref o1), .val (.ref o2), .val (.ref o2)] [(.ref b2), (.ref b1)]))
    obtain ⟨_, _, ⟨T10, L10, k10, n10⟩, -, X10, ⟨Lc10, hQ10, l10, y10, z10⟩, st10⟩ := Jvm.LawKit.callS X9 hx (y := (⟨"java/lang/StringLatin1", "equals", "([B[B)Z"⟩ : MethodName)) hown (mvT hZ (hw _ (List.mem_of_getElem? (i := 44) rfl))) (mvT hZ (hw _ (List.mem_of_getElem? (i := 45) rfl))) (mvT hZ (hw _ (List.mem_of_getElem? (i := 46) rfl))) (mvT hZ (hw _ (List.mem_of_getElem? (i := 47) rfl))) (by decide) (backOf (W := 0) (own_rmLE2 l Z a0 hw [] b1 b2 k1 k2 h0 n0 Z0 AA1 AA2) hZ (hw _ (List.mem_of_getElem? (i := 47) rfl)) (hw _ (List.mem_of_getElem? (i := 46) rfl)) (by decide) (by decide)) (g := (mkF m 44 #[.val (.ref o1), .val (.ref o2), .val (.ref o2)] [(.ref b2), (.ref b1)])) rfl (by rw [hml]; rfl) (argsL := [(.ref b1), (.ref b2)]) (rest := []) (lenOf own_pd___B_B_Z rfl) rfl (by show 2 * 0 + _ ≤ _; exact Nat.le_of_eq rfl) (hb hby own_djdk_42_method_66_code_44) (fun _ _ => ⟨rfl, e9, (by decide : 0 + 0 ≤ _), (by decide : 0 + 0 ≤ _)⟩)
    dsimp only [Pt.U, Pt.locs, Pt.cells, Pt.slots] at X10 l10 y10 z10 st10 hQ10
    subst l10 y10 z10
    obtain ⟨rfl, Nq10, eq10⟩ := hQ10
    have N10 := Fr.app N0 Nq10
    refine own_st st10 ?_
    show own_Go p.tables e below RR (T10.setTop (mkF m 47 #[.val (.ref o1), .val (.ref o2), .val (.ref o2)] [(.int (1 : Int32))]))
    refine own_st (fun _ k => XS.ifNo X10.here hx rfl (hb hby own_djdk_42_method_66_code_47) rfl ((if0 _ _).trans (feq (by decide)).1) k) ?_
    show own_Go p.tables e below RR (T10.setTop (mkF m 50 #[.val (.ref o1), .val (.ref o2), .val (.ref o2)] []))
    refine own_st (fun _ k => XS.iconst X10.here hx rfl (hb hby own_djdk_42_method_66_code_50) k) ?_
    show own_Go p.tables e below RR (T10.setTop (mkF m 51 #[.val (.ref o1), .val (.ref o2), .val (.ref o2)] [(.int (1 : Int32))]))
    refine own_st (fun _ k => XS.goto X10.here hx rfl (pc0 := 51) (pc' := 55) rfl (hb hby own_djdk_42_method_66_code_51) (by decide) (by decide) k) ?_
    show own_Go p.tables e below RR (T10.setTop (mkF m 55 #[.val (.ref o1), .val (.ref o2), .val (.ref o2)] [(.int (1 : Int32))]))
    obtain ⟨fs, hrt_, hrun, hended, hW, hsame⟩ := X10.leave (v := some (.int (1 : Int32))) (fun h => by rw [Bd.returns] at h; cases h)
    refine own_fin (retN X10 hx (t := .boolean) Bd.returns (by simp) (hb hby own_djdk_42_method_66_code_55) hrt_) (hRR _ ⟨_, hrun, hended, _, _, rfl, ?_, ⟨_, rfl⟩, hW, hsame.mono (by decide) (by decide)⟩)
    show own_QEQ2 Z o1 o2 b1 b2 k1 k2 cs h0 n0 _ T10.heap _
    rw [eq10]
    exact ⟨rfl, N10, rfl⟩
theorem own_efLE3 (m : MethodId) (b1 : Addr) (b2 : Addr) : entryFrame m #[(.ref b1), (.ref b2)] 3 = mkF m 0 #[.val (.ref b1), .val (.ref b2), .unset] [] := by first | (simp [entryFrame, mkF, argsToLocals, Value.category]; done) | rfl
def own_QLE3 (Z : State) (b1 : Addr) (b2 : Addr) (k1 : ClassId) (k2 : ClassId) (h0 : Heap) (n0 : Nat) (rv__ : Option Value) (h : Heap) (rL__ : List Loc) : Prop := rv__ = some (.int (0 : Int32)) ∧ Fr n0 rL__ ∧ h = h0
abbrev own_RLE3 : Room := { frames := 0, cells := 0, slots := 0, locals := 0 }
set_option maxRecDepth 65536 in
set_option maxHeartbeats 40000000 in
theorem own_rmLE3 (l : Launch) (Z : State) (a0 : Array Value) (hw : ∀ d ∈ tables_1, d.before a0 Z = true) (ws : List Jvm.Cond) (b1 : Addr) (b2 : Addr) (k1 : ClassId) (k2 : ClassId) (h0 : Heap) (n0 : Nat) (Z0 : n0 ≤ h0.size) (AA1 : Arv Z h0 b1 k1 .byte (9 : Int32) [(.int (99 : Int32)), (.int (111 : Int32)), (.int (109 : Int32)), (.int (112 : Int32)), (.int (108 : Int32)), (.int (101 : Int32)), (.int (116 : Int32)), (.int (101 : Int32)), (.int (100 : Int32))] (.int (0 : Int32))) (AA2 : Arv Z h0 b2 k2 .byte (6 : Int32) [(.int (102 : Int32)), (.int (97 : Int32)), (.int (105 : Int32)), (.int (108 : Int32)), (.int (101 : Int32)), (.int (100 : Int32))] (.int (0 : Int32))) :
    MetFree l (⟨"java/lang/StringLatin1", "equals", "([B[B)Z"⟩ : MethodName) (head1 (Jvm.Cond.code (⟨"java/lang/StringLatin1", "equals", "([B[B)Z"⟩ : MethodName) jdk_43_method_13_code 3 (some .boolean) :: ws) own_RLE3) (fun aa__ U => aa__ = #[(.ref b1), (.ref b2)] ∧ Z.Warmed39 U.vm ∧ U.heap = h0) (fun _ _ _ _ _ => True) (fun _ U oc_ U' => ∃ rv__ rL__, oc_ = .returned rv__ ∧ own_QLE3 Z b1 b2 k1 k2 h0 n0 rv__ U'.heap rL__ ∧ FrameEnd U oc_ U' rL__ own_RLE3.cells own_RLE3.slots) := by
  refine MetFree.of_bodySF (plainFor_of_name own_pn_java_lang_StringLatin1) hisR ?_
  intro p e s m args below meth c s₁ Bd hml0 hP hK
  obtain ⟨rfl, hZ, hh⟩ := hP
  have hx := Bd.exec
  have hby := Bd.bytes
  have hml : c.maxLocals = 3 := hml0
  have hown : s.vm.findClass "java/lang/StringLatin1" = some m.cls := findClass_of_methodNamed Bd.named
  have hnm := (name_of_methodNamed Bd.named Bd.method).1
  have X0 : Stand p l e own_RLE3 s m #[(.ref b1), (.ref b2)] below meth c s₁ [] 0 0 := Stand.of_body Bd
  have e0 : s₁.heap = h0 := by rw [← hh, Bd.state]; rfl
  have N0 := Fr.nil n0
  refine own_in (fun _ k => castTop (own_efLE3 m b1 b2) k) ?_
  intro RR hRR
  show own_Go p.tables e below RR (s₁.setTop (mkF m 0 #[.val (.ref b1), .val (.ref b2), .unset] []))
  refine own_st (fun _ k => XS.aloadN X0.here hx rfl (hb hby own_djdk_43_method_13_code_0) rfl rfl k) ?_
  show own_Go p.tables e below RR (s₁.setTop (mkF m 1 #[.val (.ref b1), .val (.ref b2), .unset] [(.ref b1)]))
  obtain ⟨c1, A1, -, s1, m1, -, -⟩ := id AA1
  refine own_st (fun _ k => own_len X0 hx hZ e0 A1 s1 m1 (g := (mkF m 1 #[.val (.ref b1), .val (.ref b2), .unset] [(.ref b1)])) rfl rfl (hb hby own_djdk_43_method_13_code_1) k) ?_
  show own_Go p.tables e below RR (s₁.setTop (mkF m 2 #[.val (.ref b1), .val (.ref b2), .unset] [(.int (9 : Int32))]))
  refine own_st (fun _ k => XS.aloadN X0.here hx rfl (hb hby own_djdk_43_method_13_code_2) rfl rfl k) ?_
  show own_Go p.tables e below RR (s₁.setTop (mkF m 3 #[.val (.ref b1), .val (.ref b2), .unset] [(.ref b2), (.int (9 : Int32))]))
  obtain ⟨c2, A2, -, s2, m2, -, -⟩ := id AA2
  refine own_st (fun _ k => own_len X0 hx hZ e0 A2 s2 m2 (g := (mkF m 3 #[.val (.ref b1), .val (.ref b2), .unset] [(.ref b2), (.int (9 : Int32))])) rfl rfl (hb hby own_djdk_43_method_13_code_3) k) ?_
  show own_Go p.tables e below RR (s₁.setTop (mkF m 4 #[.val (.ref b1), .val (.ref b2), .unset] [(.int (6 : Int32)), (.int (9 : Int32))]))
  refine own_st (fun _ k => XS.icmpYes X0.here hx rfl (pc0 := 4) (pc' := 34) rfl (hb hby own_djdk_43_method_13_code_4) rfl (feq (by decide)).2 (by decide) (by decide) k) ?_
  show own_Go p.tables e below RR (s₁.setTop (mkF m 34 #[.val (.ref b1), .val (.ref b2), .unset] []))
  refine own_st (fun _ k => XS.iconst X0.here hx rfl (hb hby own_djdk_43_method_13_code_34) k) ?_
  show own_Go p.tables e below RR (s₁.setTop (mkF m 35 #[.val (.ref b1), .val (.ref b2), .unset] [(.int (0 : Int32))]))
  obtain ⟨fs, hrt_, hrun, hended, hW, hsame⟩ := X0.leave (v := some (.int (0 : Int32))) (fun h => by rw [Bd.returns] at h; cases h)
  refine own_fin (retN X0 hx (t := .boolean) Bd.returns (by simp) (hb hby own_djdk_43_method_13_code_35) hrt_) (hRR _ ⟨_, hrun, hended, _, _, rfl, ?_, ⟨_, rfl⟩, hW, hsame.mono (by decide) (by decide)⟩)
  show own_QLE3 Z b1 b2 k1 k2 h0 n0 _ s₁.heap _
  rw [e0]
  exact ⟨rfl, N0, rfl⟩
theorem own_efEQ3 (m : MethodId) (o1 : Addr) (o2 : Addr) : entryFrame m #[(.ref o1), (.ref o2)] 3 = mkF m 0 #[.val (.ref o1), .val (.ref o2), .unset] [] := by first | (simp [entryFrame, mkF, argsToLocals, Value.category]; done) | rfl
def own_QEQ3 (Z : State) (o1 : Addr) (o2 : Addr) (b1 : Addr) (b2 : Addr) (k1 : ClassId) (k2 : ClassId) (cs : Int32) (h0 : Heap) (n0 : Nat) (rv__ : Option Value) (h : Heap) (rL__ : List Loc) : Prop := rv__ = some (.int (0 : Int32)) ∧ Fr n0 rL__ ∧ h = h0
abbrev own_REQ3 : Room := { frames := 1, cells := 0, slots := 0, locals := 14 }
set_option maxRecDepth 65536 in
set_option maxHeartbeats 40000000 in
theorem own_rmEQ3 (l : Launch) (Z : State) (a0 : Array Value) (hw : ∀ d ∈ tables_1, d.before a0 Z = true) (ws : List Jvm.Cond) (o1 : Addr) (o2 : Addr) (b1 : Addr) (b2 : Addr) (k1 : ClassId) (k2 : ClassId) (cs : Int32) (h0 : Heap) (n0 : Nat) (Z0 : n0 ≤ h0.size) (E2 : Exa Z h0 o2 "java/lang/String") (C1 : Fld Z h0 o1 "java/lang/String" "coder" "B" (.int (0 : Int32))) (C2 : Fld Z h0 o2 "java/lang/String" "coder" "B" (.int (0 : Int32))) (V1 : Fld Z h0 o1 "java/lang/String" "value" "[B" (.ref b1)) (V2 : Fld Z h0 o2 "java/lang/String" "value" "[B" (.ref b2)) (AA1 : Arv Z h0 b1 k1 .byte (9 : Int32) [(.int (99 : Int32)), (.int (111 : Int32)), (.int (109 : Int32)), (.int (112 : Int32)), (.int (108 : Int32)), (.int (101 : Int32)), (.int (116 : Int32)), (.int (101 : Int32)), (.int (100 : Int32))] (.int (0 : Int32))) (AA2 : Arv Z h0 b2 k2 .byte (6 : Int32) [(.int (102 : Int32)), (.int (97 : Int32)), (.int (105 : Int32)), (.int (108 : Int32)), (.int (101 : Int32)), (.int (100 : Int32))] (.int (0 : Int32))) (S0 : Sta Z h0 "java/lang/String" "COMPACT_STRINGS" "Z" (.int cs)) (hcs : ¬ cs = (0 : Int32)) (ne : ¬ o1 = o2) :
    MetFree l (⟨"java/lang/String", "equals", "(Ljava/lang/Object;)Z"⟩ : MethodName) (head1 (Jvm.Cond.code (⟨"java/lang/String", "equals", "(Ljava/lang/Object;)Z"⟩ : MethodName) jdk_42_method_66_code 3 (some .boolean) :: ws) own_REQ3) (fun aa__ U => aa__ = #[(.ref o1), (.ref o2)] ∧ Z.Warmed39 U.vm ∧ U.heap = h0) (fun _ _ _ _ _ => True) (fun _ U oc_ U' => ∃ rv__ rL__, oc_ = .returned rv__ ∧ own_QEQ3 Z o1 o2 b1 b2 k1 k2 cs h0 n0 rv__ U'.heap rL__ ∧ FrameEnd U oc_ U' rL__ own_REQ3.cells own_REQ3.slots) := by
  refine MetFree.of_bodySF (plainFor_of_name own_pn_java_lang_String) hisR ?_
  intro p e s m args below meth c s₁ Bd hml0 hP hK
  obtain ⟨rfl, hZ, hh⟩ := hP
  have hx := Bd.exec
  have hby := Bd.bytes
  have hml : c.maxLocals = 3 := hml0
  have hown : s.vm.findClass "java/lang/String" = some m.cls := findClass_of_methodNamed Bd.named
  have hnm := (name_of_methodNamed Bd.named Bd.method).1
  have X0 : Stand p l e own_REQ3 s m #[(.ref o1), (.ref o2)] below meth c s₁ [] 0 0 := Stand.of_body Bd
  have e0 : s₁.heap = h0 := by rw [← hh, Bd.state]; rfl
  have N0 := Fr.nil n0
  refine own_in (fun _ k => castTop (own_efEQ3 m o1 o2) k) ?_
  intro RR hRR
  show own_Go p.tables e below RR (s₁.setTop (mkF m 0 #[.val (.ref o1), .val (.ref o2), .unset] []))
  refine own_st (fun _ k => XS.aloadN X0.here hx rfl (hb hby own_djdk_42_method_66_code_0) rfl rfl k) ?_
  show own_Go p.tables e below RR (s₁.setTop (mkF m 1 #[.val (.ref o1), .val (.ref o2), .unset] [(.ref o1)]))
  refine own_st (fun _ k => XS.aloadN X0.here hx rfl (hb hby own_djdk_42_method_66_code_1) rfl rfl k) ?_
  show own_Go p.tables e below RR (s₁.setTop (mkF m 2 #[.val (.ref o1), .val (.ref o2), .unset] [(.ref o2), (.ref o1)]))
  have hc2_1 : ¬ (o1 = o2) := ne
  refine own_st (fun _ k => Jvm.RoadKit.acmp (g := (mkF m 2 #[.val (.ref o1), .val (.ref o2), .unset] [(.ref o2), (.ref o1)])) X0 hx rfl rfl rfl (pc0 := 2) (pc' := 7) (same := false) rfl (hb hby own_djdk_42_method_66_code_2) rfl (decide_eq_false fun q => hc2_1 (Value.ref.inj q)) (by decide) (by decide) k) ?_
  show own_Go p.tables e below RR (s₁.setTop (mkF m 7 #[.val (.ref o1), .val (.ref o2), .unset] []))
  refine own_st (fun _ k => XS.aloadN X0.here hx rfl (hb hby own_djdk_42_method_66_code_7) rfl rfl k) ?_
  show own_Go p.tables e below RR (s₁.setTop (mkF m 8 #[.val (.ref o1), .val (.ref o2), .unset] [(.ref o2)]))
  obtain ⟨T2, X2, e2, st2⟩ := instY X0 hx hZ hown (hw _ (List.mem_of_getElem? (i := 39) rfl)) e0 (Ins.self E2) (g := (mkF m 8 #[.val (.ref o1), .val (.ref o2), .unset] [(.ref o2)])) rfl rfl (hb hby own_djdk_42_method_66_code_8)
  refine own_st st2 ?_
  show own_Go p.tables e below RR (T2.setTop (mkF m 11 #[.val (.ref o1), .val (.ref o2), .unset] [(.int (1 : Int32))]))
  refine own_st (fun _ k => XS.ifNo X2.here hx rfl (hb hby own_djdk_42_method_66_code_11) rfl ((if0 _ _).trans (feq (by decide)).1) k) ?_
  show own_Go p.tables e below RR (T2.setTop (mkF m 14 #[.val (.ref o1), .val (.ref o2), .unset] []))
  refine own_st (fun _ k => XS.aloadN X2.here hx rfl (hb hby own_djdk_42_method_66_code_14) rfl rfl k) ?_
  show own_Go p.tables e below RR (T2.setTop (mkF m 15 #[.val (.ref o1), .val (.ref o2), .unset] [(.ref o2)]))
  obtain ⟨T3, X3, e3, st3⟩ := castY X2 hx hZ hown (hw _ (List.mem_of_getElem? (i := 39) rfl)) e2 (Ins.self E2) (g := (mkF m 15 #[.val (.ref o1), .val (.ref o2), .unset] [(.ref o2)])) rfl rfl (hb hby own_djdk_42_method_66_code_15)
  refine own_st st3 ?_
  show own_Go p.tables e below RR (T3.setTop (mkF m 18 #[.val (.ref o1), .val (.ref o2), .unset] [(.ref o2)]))
  refine own_st (fun _ k => XS.astoreN X3.here hx rfl (hb hby own_djdk_42_method_66_code_18) rfl rfl (l' := #[.val (.ref o1), .val (.ref o2), .val (.ref o2)]) rfl k) ?_
  show own_Go p.tables e below RR (T3.setTop (mkF m 19 #[.val (.ref o1), .val (.ref o2), .val (.ref o2)] []))
  obtain ⟨T4, X4, e4, st4⟩ := getS2 X3 hx hZ hown (host := "") (Or.inl (hw _ (List.mem_of_getElem? (i := 41) rfl))) Via.refl e3 S0 (g := (mkF m 19 #[.val (.ref o1), .val (.ref o2), .val (.ref o2)] [])) rfl (hb hby own_djdk_42_method_66_code_19)
  refine own_st st4 ?_
  show own_Go p.tables e below RR (T4.setTop (mkF m 22 #[.val (.ref o1), .val (.ref o2), .val (.ref o2)] [(.int cs)]))
  have hc22_5 : ¬ (cs = (0 : Int32)) := hcs
  refine own_st (fun _ k => XS.ifNo X4.here hx rfl (hb hby own_djdk_42_method_66_code_22) rfl ((if0 _ _).trans (feq hc22_5).1) k) ?_
  show own_Go p.tables e below RR (T4.setTop (mkF m 25 #[.val (.ref o1), .val (.ref o2), .val (.ref o2)] []))
  refine own_st (fun _ k => XS.aloadN X4.here hx rfl (hb hby own_djdk_42_method_66_code_25) rfl rfl k) ?_
  show own_Go p.tables e below RR (T4.setTop (mkF m 26 #[.val (.ref o1), .val (.ref o2), .val (.ref o2)] [(.ref o1)]))
  obtain ⟨T6, X6, e6, st6⟩ := getF X4 hx hZ hown (host := "") (Or.inl (hw _ (List.mem_of_getElem? (i := 42) rfl))) Via.refl e4 C1 (g := (mkF m 26 #[.val (.ref o1), .val (.ref o2), .val (.ref o2)] [(.ref o1)])) rfl rfl (hb hby own_djdk_42_method_66_code_26)
  refine own_st st6 ?_
  show own_Go p.tables e below RR (T6.setTop (mkF m 29 #[.val (.ref o1), .val (.ref o2), .val (.ref o2)] [(.int (0 : Int32))]))
  refine own_st (fun _ k => XS.aloadN X6.here hx rfl (hb hby own_djdk_42_method_66_code_29) rfl rfl k) ?_
  show own_Go p.tables e below RR (T6.setTop (mkF m 30 #[.val (.ref o1), .val (.ref o2), .val (.ref o2)] [(.ref o2), (.int (0 : Int32))]))
  obtain ⟨T7, X7, e7, st7⟩ := getF X6 hx hZ hown (host := "") (Or.inl (hw _ (List.mem_of_getElem? (i := 42) rfl))) Via.refl e6 C2 (g := (mkF m 30 #[.val (.ref o1), .val (.ref o2), .val (.ref o2)] [(.ref o2), (.int (0 : Int32))])) rfl rfl (hb hby own_djdk_42_method_66_code_30)
  refine own_st st7 ?_
  show own_Go p.tables e below RR (T7.setTop (mkF m 33 #[.val (.ref o1), .val (.ref o2), .val (.ref o2)] [(.int (0 : Int32)), (.int (0 : Int32))]))
  refine own_st (fun _ k => XS.icmpNo X7.here hx rfl (hb hby own_djdk_42_method_66_code_33) rfl (teq (by decide)).2 k) ?_
  show own_Go p.tables e below RR (T7.setTop (mkF m 36 #[.val (.ref o1), .val (.ref o2), .val (.ref o2)] []))
  refine own_st (fun _ k => XS.aloadN X7.here hx rfl (hb hby own_djdk_42_method_66_code_36) rfl rfl k) ?_
  show own_Go p.tables e below RR (T7.setTop (mkF m 37 #[.val (.ref o1), .val (.ref o2), .val (.ref o2)] [(.ref o1)]))
  obtain ⟨T8, X8, e8, st8⟩ := getF X7 hx hZ hown (host := "") (Or.inl (hw _ (List.mem_of_getElem? (i := 43) rfl))) Via.refl e7 V1 (g := (mkF m 37 #[.val (.ref o1), .val (.ref o2), .val (.ref o2)] [(.ref o1)])) rfl rfl (hb hby own_djdk_42_method_66_code_37)
  refine own_st st8 ?_
  show own_Go p.tables e below RR (T8.setTop (mkF m 40 #[.val (.ref o1), .val (.ref o2), .val (.ref o2)] [(.ref b1)]))
  refine own_st (fun _ k => XS.aloadN X8.here hx rfl (hb hby own_djdk_42_method_66_code_40) rfl rfl k) ?_
  show own_Go p.tables e below RR (T8.setTop (mkF m 41 #[.val (.ref o1), .val (.ref o2), .val (.ref o2)] [(.ref o2), (.ref b1)]))
  obtain ⟨T9, X9, e9, st9⟩ := getF X8 hx hZ hown (host := "") (Or.inl (hw _ (List.mem_of_getElem? (i := 43) rfl))) Via.refl e8 V2 (g := (mkF m 41 #[.val (.ref o1), .val (.ref o2), .val (.ref o2)] [(.ref o2), (.ref b1)])) rfl rfl (hb hby own_djdk_42_method_66_code_41)
  refine own_st st9 ?_
  show own_Go p.tables e below RR (T9.setTop (mkF m 44 #[.val (.ref o1), .val (.ref o2), .val (.ref o2)] [(.ref b2), (.ref b1)]))
  obtain ⟨_, _, ⟨T10, L10, k10, n10⟩, -, X10, ⟨Lc10, hQ10, l10, y10, z10⟩, st10⟩ := Jvm.LawKit.callS X9 hx (y := (⟨"java/lang/StringLatin1", "equals", "([B[B)Z"⟩ : MethodName)) hown (mvT hZ (hw _ (List.mem_of_getElem? (i := 44) rfl))) (mvT hZ (hw _ (List.mem_of_getElem? (i := 45) rfl))) (mvT hZ (hw _ (List.mem_of_getElem? (i := 46) rfl))) (mvT hZ (hw _ (List.mem_of_getElem? (i := 47) rfl))) (by decide) (backOf (W := 0) (own_rmLE3 l Z a0 hw [] b1 b2 k1 k2 h0 n0 Z0 AA1 AA2) hZ (hw _ (List.mem_of_getElem? (i := 47) rfl)) (hw _ (List.mem_of_getElem? (i := 46) rfl)) (by decide) (by decide)) (g := (mkF m 44 #[.val (.ref o1), .val (.ref o2), .val (.ref o2)] [(.ref b2), (.ref b1)])) rfl (by rw [hml]; rfl) (argsL := [(.ref b1), (.ref b2)]) (rest := []) (lenOf own_pd___B_B_Z rfl) rfl (by show 2 * 0 + _ ≤ _; exact Nat.le_of_eq rfl) (hb hby own_djdk_42_method_66_code_44) (fun _ _ => ⟨rfl, e9, (by decide : 0 + 0 ≤ _), (by decide : 0 + 0 ≤ _)⟩)
  dsimp only [Pt.U, Pt.locs, Pt.cells, Pt.slots] at X10 l10 y10 z10 st10 hQ10
  subst l10 y10 z10
  obtain ⟨rfl, Nq10, eq10⟩ := hQ10
  have N10 := Fr.app N0 Nq10
  refine own_st st10 ?_
  show own_Go p.tables e below RR (T10.setTop (mkF m 47 #[.val (.ref o1), .val (.ref o2), .val (.ref o2)] [(.int (0 : Int32))]))
  refine own_st (fun _ k => XS.ifYes X10.here hx rfl (pc0 := 47) (pc' := 54) rfl (hb hby own_djdk_42_method_66_code_47) rfl ((if0 _ _).trans (teq (by decide)).1) (by decide) (by decide) k) ?_
  show own_Go p.tables e below RR (T10.setTop (mkF m 54 #[.val (.ref o1), .val (.ref o2), .val (.ref o2)] []))
  refine own_st (fun _ k => XS.iconst X10.here hx rfl (hb hby own_djdk_42_method_66_code_54) k) ?_
  show own_Go p.tables e below RR (T10.setTop (mkF m 55 #[.val (.ref o1), .val (.ref o2), .val (.ref o2)] [(.int (0 : Int32))]))
  obtain ⟨fs, hrt_, hrun, hended, hW, hsame⟩ := X10.leave (v := some (.int (0 : Int32))) (fun h => by rw [Bd.returns] at h; cases h)
  refine own_fin (retN X10 hx (t := .boolean) Bd.returns (by simp) (hb hby own_djdk_42_method_66_code_55) hrt_) (hRR _ ⟨_, hrun, hended, _, _, rfl, ?_, ⟨_, rfl⟩, hW, hsame.mono (by decide) (by decide)⟩)
  show own_QEQ3 Z o1 o2 b1 b2 k1 k2 cs h0 n0 _ T10.heap _
  rw [eq10]
  exact ⟨rfl, N10, rfl⟩
theorem own_efLE4 (m : MethodId) (b1 : Addr) (b2 : Addr) : entryFrame m #[(.ref b1), (.ref b2)] 3 = mkF m 0 #[.val (.ref b1), .val (.ref b2), .unset] [] := by first | (simp [entryFrame, mkF, argsToLocals, Value.category]; done) | rfl
def own_QLE4 (Z : State) (b1 : Addr) (b2 : Addr) (k1 : ClassId) (k2 : ClassId) (h0 : Heap) (n0 : Nat) (rv__ : Option Value) (h : Heap) (rL__ : List Loc) : Prop := rv__ = some (.int (0 : Int32)) ∧ Fr n0 rL__ ∧ h = h0
abbrev own_RLE4 : Room := { frames := 0, cells := 0, slots := 0, locals := 0 }
set_option maxRecDepth 65536 in
set_option maxHeartbeats 40000000 in
theorem own_rmLE4 (l : Launch) (Z : State) (a0 : Array Value) (hw : ∀ d ∈ tables_1, d.before a0 Z = true) (ws : List Jvm.Cond) (b1 : Addr) (b2 : Addr) (k1 : ClassId) (k2 : ClassId) (h0 : Heap) (n0 : Nat) (Z0 : n0 ≤ h0.size) (AA1 : Arv Z h0 b1 k1 .byte (6 : Int32) [(.int (102 : Int32)), (.int (97 : Int32)), (.int (105 : Int32)), (.int (108 : Int32)), (.int (101 : Int32)), (.int (100 : Int32))] (.int (0 : Int32))) (AA2 : Arv Z h0 b2 k2 .byte (8 : Int32) [(.int (114 : Int32)), (.int (101 : Int32)), (.int (99 : Int32)), (.int (101 : Int32)), (.int (105 : Int32)), (.int (118 : Int32)), (.int (101 : Int32)), (.int (100 : Int32))] (.int (0 : Int32))) :
    MetFree l (⟨"java/lang/StringLatin1", "equals", "([B[B)Z"⟩ : MethodName) (head1 (Jvm.Cond.code (⟨"java/lang/StringLatin1", "equals", "([B[B)Z"⟩ : MethodName) jdk_43_method_13_code 3 (some .boolean) :: ws) own_RLE4) (fun aa__ U => aa__ = #[(.ref b1), (.ref b2)] ∧ Z.Warmed39 U.vm ∧ U.heap = h0) (fun _ _ _ _ _ => True) (fun _ U oc_ U' => ∃ rv__ rL__, oc_ = .returned rv__ ∧ own_QLE4 Z b1 b2 k1 k2 h0 n0 rv__ U'.heap rL__ ∧ FrameEnd U oc_ U' rL__ own_RLE4.cells own_RLE4.slots) := by
  refine MetFree.of_bodySF (plainFor_of_name own_pn_java_lang_StringLatin1) hisR ?_
  intro p e s m args below meth c s₁ Bd hml0 hP hK
  obtain ⟨rfl, hZ, hh⟩ := hP
  have hx := Bd.exec
  have hby := Bd.bytes
  have hml : c.maxLocals = 3 := hml0
  have hown : s.vm.findClass "java/lang/StringLatin1" = some m.cls := findClass_of_methodNamed Bd.named
  have hnm := (name_of_methodNamed Bd.named Bd.method).1
  have X0 : Stand p l e own_RLE4 s m #[(.ref b1), (.ref b2)] below meth c s₁ [] 0 0 := Stand.of_body Bd
  have e0 : s₁.heap = h0 := by rw [← hh, Bd.state]; rfl
  have N0 := Fr.nil n0
  refine own_in (fun _ k => castTop (own_efLE4 m b1 b2) k) ?_
  intro RR hRR
  show own_Go p.tables e below RR (s₁.setTop (mkF m 0 #[.val (.ref b1), .val (.ref b2), .unset] []))
  refine own_st (fun _ k => XS.aloadN X0.here hx rfl (hb hby own_djdk_43_method_13_code_0) rfl rfl k) ?_
  show own_Go p.tables e below RR (s₁.setTop (mkF m 1 #[.val (.ref b1), .val (.ref b2), .unset] [(.ref b1)]))
  obtain ⟨c1, A1, -, s1, m1, -, -⟩ := id AA1
  refine own_st (fun _ k => own_len X0 hx hZ e0 A1 s1 m1 (g := (mkF m 1 #[.val (.ref b1), .val (.ref b2), .unset] [(.ref b1)])) rfl rfl (hb hby own_djdk_43_method_13_code_1) k) ?_
  show own_Go p.tables e below RR (s₁.setTop (mkF m 2 #[.val (.ref b1), .val (.ref b2), .unset] [(.int (6 : Int32))]))
  refine own_st (fun _ k => XS.aloadN X0.here hx rfl (hb hby own_djdk_43_method_13_code_2) rfl rfl k) ?_
  show own_Go p.tables e below RR (s₁.setTop (mkF m 3 #[.val (.ref b1), .val (.ref b2), .unset] [(.ref b2), (.int (6 : Int32))]))
  obtain ⟨c2, A2, -, s2, m2, -, -⟩ := id AA2
  refine own_st (fun _ k => own_len X0 hx hZ e0 A2 s2 m2 (g := (mkF m 3 #[.val (.ref b1), .val (.ref b2), .unset] [(.ref b2), (.int (6 : Int32))])) rfl rfl (hb hby own_djdk_43_method_13_code_3) k) ?_
  show own_Go p.tables e below RR (s₁.setTop (mkF m 4 #[.val (.ref b1), .val (.ref b2), .unset] [(.int (8 : Int32)), (.int (6 : Int32))]))
  refine own_st (fun _ k => XS.icmpYes X0.here hx rfl (pc0 := 4) (pc' := 34) rfl (hb hby own_djdk_43_method_13_code_4) rfl (feq (by decide)).2 (by decide) (by decide) k) ?_
  show own_Go p.tables e below RR (s₁.setTop (mkF m 34 #[.val (.ref b1), .val (.ref b2), .unset] []))
  refine own_st (fun _ k => XS.iconst X0.here hx rfl (hb hby own_djdk_43_method_13_code_34) k) ?_
  show own_Go p.tables e below RR (s₁.setTop (mkF m 35 #[.val (.ref b1), .val (.ref b2), .unset] [(.int (0 : Int32))]))
  obtain ⟨fs, hrt_, hrun, hended, hW, hsame⟩ := X0.leave (v := some (.int (0 : Int32))) (fun h => by rw [Bd.returns] at h; cases h)
  refine own_fin (retN X0 hx (t := .boolean) Bd.returns (by simp) (hb hby own_djdk_43_method_13_code_35) hrt_) (hRR _ ⟨_, hrun, hended, _, _, rfl, ?_, ⟨_, rfl⟩, hW, hsame.mono (by decide) (by decide)⟩)
  show own_QLE4 Z b1 b2 k1 k2 h0 n0 _ s₁.heap _
  rw [e0]
  exact ⟨rfl, N0, rfl⟩
theorem own_efEQ4 (m : MethodId) (o1 : Addr) (o2 : Addr) : entryFrame m #[(.ref o1), (.ref o2)] 3 = mkF m 0 #[.val (.ref o1), .val (.ref o2), .unset] [] := by first | (simp [entryFrame, mkF, argsToLocals, Value.category]; done) | rfl
def own_QEQ4 (Z : State) (o1 : Addr) (o2 : Addr) (b1 : Addr) (b2 : Addr) (k1 : ClassId) (k2 : ClassId) (cs : Int32) (h0 : Heap) (n0 : Nat) (rv__ : Option Value) (h : Heap) (rL__ : List Loc) : Prop := rv__ = some (.int (0 : Int32)) ∧ Fr n0 rL__ ∧ h = h0
abbrev own_REQ4 : Room := { frames := 1, cells := 0, slots := 0, locals := 14 }
set_option maxRecDepth 65536 in
set_option maxHeartbeats 40000000 in
theorem own_rmEQ4 (l : Launch) (Z : State) (a0 : Array Value) (hw : ∀ d ∈ tables_1, d.before a0 Z = true) (ws : List Jvm.Cond) (o1 : Addr) (o2 : Addr) (b1 : Addr) (b2 : Addr) (k1 : ClassId) (k2 : ClassId) (cs : Int32) (h0 : Heap) (n0 : Nat) (Z0 : n0 ≤ h0.size) (E2 : Exa Z h0 o2 "java/lang/String") (C1 : Fld Z h0 o1 "java/lang/String" "coder" "B" (.int (0 : Int32))) (C2 : Fld Z h0 o2 "java/lang/String" "coder" "B" (.int (0 : Int32))) (V1 : Fld Z h0 o1 "java/lang/String" "value" "[B" (.ref b1)) (V2 : Fld Z h0 o2 "java/lang/String" "value" "[B" (.ref b2)) (AA1 : Arv Z h0 b1 k1 .byte (6 : Int32) [(.int (102 : Int32)), (.int (97 : Int32)), (.int (105 : Int32)), (.int (108 : Int32)), (.int (101 : Int32)), (.int (100 : Int32))] (.int (0 : Int32))) (AA2 : Arv Z h0 b2 k2 .byte (8 : Int32) [(.int (114 : Int32)), (.int (101 : Int32)), (.int (99 : Int32)), (.int (101 : Int32)), (.int (105 : Int32)), (.int (118 : Int32)), (.int (101 : Int32)), (.int (100 : Int32))] (.int (0 : Int32))) (S0 : Sta Z h0 "java/lang/String" "COMPACT_STRINGS" "Z" (.int cs)) (hcs : ¬ cs = (0 : Int32)) (ne : ¬ o1 = o2) :
    MetFree l (⟨"java/lang/String", "equals", "(Ljava/lang/Object;)Z"⟩ : MethodName) (head1 (Jvm.Cond.code (⟨"java/lang/String", "equals", "(Ljava/lang/Object;)Z"⟩ : MethodName) jdk_42_method_66_code 3 (some .boolean) :: ws) own_REQ4) (fun aa__ U => aa__ = #[(.ref o1), (.ref o2)] ∧ Z.Warmed39 U.vm ∧ U.heap = h0) (fun _ _ _ _ _ => True) (fun _ U oc_ U' => ∃ rv__ rL__, oc_ = .returned rv__ ∧ own_QEQ4 Z o1 o2 b1 b2 k1 k2 cs h0 n0 rv__ U'.heap rL__ ∧ FrameEnd U oc_ U' rL__ own_REQ4.cells own_REQ4.slots) := by
  refine MetFree.of_bodySF (plainFor_of_name own_pn_java_lang_String) hisR ?_
  intro p e s m args below meth c s₁ Bd hml0 hP hK
  obtain ⟨rfl, hZ, hh⟩ := hP
  have hx := Bd.exec
  have hby := Bd.bytes
  have hml : c.maxLocals = 3 := hml0
  have hown : s.vm.findClass "java/lang/String" = some m.cls := findClass_of_methodNamed Bd.named
  have hnm := (name_of_methodNamed Bd.named Bd.method).1
  have X0 : Stand p l e own_REQ4 s m #[(.ref o1), (.ref o2)] below meth c s₁ [] 0 0 := Stand.of_body Bd
  have e0 : s₁.heap = h0 := by rw [← hh, Bd.state]; rfl
  have N0 := Fr.nil n0
  refine own_in (fun _ k => castTop (own_efEQ4 m o1 o2) k) ?_
  intro RR hRR
  show own_Go p.tables e below RR (s₁.setTop (mkF m 0 #[.val (.ref o1), .val (.ref o2), .unset] []))
  refine own_st (fun _ k => XS.aloadN X0.here hx rfl (hb hby own_djdk_42_method_66_code_0) rfl rfl k) ?_
  show own_Go p.tables e below RR (s₁.setTop (mkF m 1 #[.val (.ref o1), .val (.ref o2), .unset] [(.ref o1)]))
  refine own_st (fun _ k => XS.aloadN X0.here hx rfl (hb hby own_djdk_42_method_66_code_1) rfl rfl k) ?_
  show own_Go p.tables e below RR (s₁.setTop (mkF m 2 #[.val (.ref o1), .val (.ref o2), .unset] [(.ref o2), (.ref o1)]))
  have hc2_1 : ¬ (o1 = o2) := ne
  refine own_st (fun _ k => Jvm.RoadKit.acmp (g := (mkF m 2 #[.val (.ref o1), .val (.ref o2), .unset] [(.ref o2), (.ref o1)])) X0 hx rfl rfl rfl (pc0 := 2) (pc' := 7) (same := false) rfl (hb hby own_djdk_42_method_66_code_2) rfl (decide_eq_false fun q => hc2_1 (Value.ref.inj q)) (by decide) (by decide) k) ?_
  show own_Go p.tables e below RR (s₁.setTop (mkF m 7 #[.val (.ref o1), .val (.ref o2), .unset] []))
  refine own_st (fun _ k => XS.aloadN X0.here hx rfl (hb hby own_djdk_42_method_66_code_7) rfl rfl k) ?_
  show own_Go p.tables e below RR (s₁.setTop (mkF m 8 #[.val (.ref o1), .val (.ref o2), .unset] [(.ref o2)]))
  obtain ⟨T2, X2, e2, st2⟩ := instY X0 hx hZ hown (hw _ (List.mem_of_getElem? (i := 39) rfl)) e0 (Ins.self E2) (g := (mkF m 8 #[.val (.ref o1), .val (.ref o2), .unset] [(.ref o2)])) rfl rfl (hb hby own_djdk_42_method_66_code_8)
  refine own_st st2 ?_
  show own_Go p.tables e below RR (T2.setTop (mkF m 11 #[.val (.ref o1), .val (.ref o2), .unset] [(.int (1 : Int32))]))
  refine own_st (fun _ k => XS.ifNo X2.here hx rfl (hb hby own_djdk_42_method_66_code_11) rfl ((if0 _ _).trans (feq (by decide)).1) k) ?_
  show own_Go p.tables e below RR (T2.setTop (mkF m 14 #[.val (.ref o1), .val (.ref o2), .unset] []))
  refine own_st (fun _ k => XS.aloadN X2.here hx rfl (hb hby own_djdk_42_method_66_code_14) rfl rfl k) ?_
  show own_Go p.tables e below RR (T2.setTop (mkF m 15 #[.val (.ref o1), .val (.ref o2), .unset] [(.ref o2)]))
  obtain ⟨T3, X3, e3, st3⟩ := castY X2 hx hZ hown (hw _ (List.mem_of_getElem? (i := 39) rfl)) e2 (Ins.self E2) (g := (mkF m 15 #[.val (.ref o1), .val (.ref o2), .unset] [(.ref o2)])) rfl rfl (hb hby own_djdk_42_method_66_code_15)
  refine own_st st3 ?_
  show own_Go p.tables e below RR (T3.setTop (mkF m 18 #[.val (.ref o1), .val (.ref o2), .unset] [(.ref o2)]))
  refine own_st (fun _ k => XS.astoreN X3.here hx rfl (hb hby own_djdk_42_method_66_code_18) rfl rfl (l' := #[.val (.ref o1), .val (.ref o2), .val (.ref o2)]) rfl k) ?_
  show own_Go p.tables e below RR (T3.setTop (mkF m 19 #[.val (.ref o1), .val (.ref o2), .val (.ref o2)] []))
  obtain ⟨T4, X4, e4, st4⟩ := getS2 X3 hx hZ hown (host := "") (Or.inl (hw _ (List.mem_of_getElem? (i := 41) rfl))) Via.refl e3 S0 (g := (mkF m 19 #[.val (.ref o1), .val (.ref o2), .val (.ref o2)] [])) rfl (hb hby own_djdk_42_method_66_code_19)
  refine own_st st4 ?_
  show own_Go p.tables e below RR (T4.setTop (mkF m 22 #[.val (.ref o1), .val (.ref o2), .val (.ref o2)] [(.int cs)]))
  have hc22_5 : ¬ (cs = (0 : Int32)) := hcs
  refine own_st (fun _ k => XS.ifNo X4.here hx rfl (hb hby own_djdk_42_method_66_code_22) rfl ((if0 _ _).trans (feq hc22_5).1) k) ?_
  show own_Go p.tables e below RR (T4.setTop (mkF m 25 #[.val (.ref o1), .val (.ref o2), .val (.ref o2)] []))
  refine own_st (fun _ k => XS.aloadN X4.here hx rfl (hb hby own_djdk_42_method_66_code_25) rfl rfl k) ?_
  show own_Go p.tables e below RR (T4.setTop (mkF m 26 #[.val (.ref o1), .val (.ref o2), .val (.ref o2)] [(.ref o1)]))
  obtain ⟨T6, X6, e6, st6⟩ := getF X4 hx hZ hown (host := "") (Or.inl (hw _ (List.mem_of_getElem? (i := 42) rfl))) Via.refl e4 C1 (g := (mkF m 26 #[.val (.ref o1), .val (.ref o2), .val (.ref o2)] [(.ref o1)])) rfl rfl (hb hby own_djdk_42_method_66_code_26)
  refine own_st st6 ?_
  show own_Go p.tables e below RR (T6.setTop (mkF m 29 #[.val (.ref o1), .val (.ref o2), .val (.ref o2)] [(.int (0 : Int32))]))
  refine own_st (fun _ k => XS.aloadN X6.here hx rfl (hb hby own_djdk_42_method_66_code_29) rfl rfl k) ?_
  show own_Go p.tables e below RR (T6.setTop (mkF m 30 #[.val (.ref o1), .val (.ref o2), .val (.ref o2)] [(.ref o2), (.int (0 : Int32))]))
  obtain ⟨T7, X7, e7, st7⟩ := getF X6 hx hZ hown (host := "") (Or.inl (hw _ (List.mem_of_getElem? (i := 42) rfl))) Via.refl e6 C2 (g := (mkF m 30 #[.val (.ref o1), .val (.ref o2), .val (.ref o2)] [(.ref o2), (.int (0 : Int32))])) rfl rfl (hb hby own_djdk_42_method_66_code_30)
  refine own_st st7 ?_
  show own_Go p.tables e below RR (T7.setTop (mkF m 33 #[.val (.ref o1), .val (.ref o2), .val (.ref o2)] [(.int (0 : Int32)), (.int (0 : Int32))]))
  refine own_st (fun _ k => XS.icmpNo X7.here hx rfl (hb hby own_djdk_42_method_66_code_33) rfl (teq (by decide)).2 k) ?_
  show own_Go p.tables e below RR (T7.setTop (mkF m 36 #[.val (.ref o1), .val (.ref o2), .val (.ref o2)] []))
  refine own_st (fun _ k => XS.aloadN X7.here hx rfl (hb hby own_djdk_42_method_66_code_36) rfl rfl k) ?_
  show own_Go p.tables e below RR (T7.setTop (mkF m 37 #[.val (.ref o1), .val (.ref o2), .val (.ref o2)] [(.ref o1)]))
  obtain ⟨T8, X8, e8, st8⟩ := getF X7 hx hZ hown (host := "") (Or.inl (hw _ (List.mem_of_getElem? (i := 43) rfl))) Via.refl e7 V1 (g := (mkF m 37 #[.val (.ref o1), .val (.ref o2), .val (.ref o2)] [(.ref o1)])) rfl rfl (hb hby own_djdk_42_method_66_code_37)
  refine own_st st8 ?_
  show own_Go p.tables e below RR (T8.setTop (mkF m 40 #[.val (.ref o1), .val (.ref o2), .val (.ref o2)] [(.ref b1)]))
  refine own_st (fun _ k => XS.aloadN X8.here hx rfl (hb hby own_djdk_42_method_66_code_40) rfl rfl k) ?_
  show own_Go p.tables e below RR (T8.setTop (mkF m 41 #[.val (.ref o1), .val (.ref o2), .val (.ref o2)] [(.ref o2), (.ref b1)]))
  obtain ⟨T9, X9, e9, st9⟩ := getF X8 hx hZ hown (host := "") (Or.inl (hw _ (List.mem_of_getElem? (i := 43) rfl))) Via.refl e8 V2 (g := (mkF m 41 #[.val (.ref o1), .val (.ref o2), .val (.ref o2)] [(.ref o2), (.ref b1)])) rfl rfl (hb hby own_djdk_42_method_66_code_41)
  refine own_st st9 ?_
  show own_Go p.tables e below RR (T9.setTop (mkF m 44 #[.val (.ref o1), .val (.ref o2), .val (.ref o2)] [(.ref b2), (.ref b1)]))
  obtain ⟨_, _, ⟨T10, L10, k10, n10⟩, -, X10, ⟨Lc10, hQ10, l10, y10, z10⟩, st10⟩ := Jvm.LawKit.callS X9 hx (y := (⟨"java/lang/StringLatin1", "equals", "([B[B)Z"⟩ : MethodName)) hown (mvT hZ (hw _ (List.mem_of_getElem? (i := 44) rfl))) (mvT hZ (hw _ (List.mem_of_getElem? (i := 45) rfl))) (mvT hZ (hw _ (List.mem_of_getElem? (i := 46) rfl))) (mvT hZ (hw _ (List.mem_of_getElem? (i := 47) rfl))) (by decide) (backOf (W := 0) (own_rmLE4 l Z a0 hw [] b1 b2 k1 k2 h0 n0 Z0 AA1 AA2) hZ (hw _ (List.mem_of_getElem? (i := 47) rfl)) (hw _ (List.mem_of_getElem? (i := 46) rfl)) (by decide) (by decide)) (g := (mkF m 44 #[.val (.ref o1), .val (.ref o2), .val (.ref o2)] [(.ref b2), (.ref b1)])) rfl (by rw [hml]; rfl) (argsL := [(.ref b1), (.ref b2)]) (rest := []) (lenOf own_pd___B_B_Z rfl) rfl (by show 2 * 0 + _ ≤ _; exact Nat.le_of_eq rfl) (hb hby own_djdk_42_method_66_code_44) (fun _ _ => ⟨rfl, e9, (by decide : 0 + 0 ≤ _), (by decide : 0 + 0 ≤ _)⟩)
  dsimp only [Pt.U, Pt.locs, Pt.cells, Pt.slots] at X10 l10 y10 z10 st10 hQ10
  subst l10 y10 z10
  obtain ⟨rfl, Nq10, eq10⟩ := hQ10
  have N10 := Fr.app N0 Nq10
  refine own_st st10 ?_
  show own_Go p.tables e below RR (T10.setTop (mkF m 47 #[.val (.ref o1), .val (.ref o2), .val (.ref o2)] [(.int (0 : Int32))]))
  refine own_st (fun _ k => XS.ifYes X10.here hx rfl (pc0 := 47) (pc' := 54) rfl (hb hby own_djdk_42_method_66_code_47) rfl ((if0 _ _).trans (teq (by decide)).1) (by decide) (by decide) k) ?_
  show own_Go p.tables e below RR (T10.setTop (mkF m 54 #[.val (.ref o1), .val (.ref o2), .val (.ref o2)] []))
  refine own_st (fun _ k => XS.iconst X10.here hx rfl (hb hby own_djdk_42_method_66_code_54) k) ?_
  show own_Go p.tables e below RR (T10.setTop (mkF m 55 #[.val (.ref o1), .val (.ref o2), .val (.ref o2)] [(.int (0 : Int32))]))
  obtain ⟨fs, hrt_, hrun, hended, hW, hsame⟩ := X10.leave (v := some (.int (0 : Int32))) (fun h => by rw [Bd.returns] at h; cases h)
  refine own_fin (retN X10 hx (t := .boolean) Bd.returns (by simp) (hb hby own_djdk_42_method_66_code_55) hrt_) (hRR _ ⟨_, hrun, hended, _, _, rfl, ?_, ⟨_, rfl⟩, hW, hsame.mono (by decide) (by decide)⟩)
  show own_QEQ4 Z o1 o2 b1 b2 k1 k2 cs h0 n0 _ T10.heap _
  rw [eq10]
  exact ⟨rfl, N10, rfl⟩
theorem own_efLE5 (m : MethodId) (b1 : Addr) (b2 : Addr) : entryFrame m #[(.ref b1), (.ref b2)] 3 = mkF m 0 #[.val (.ref b1), .val (.ref b2), .unset] [] := by first | (simp [entryFrame, mkF, argsToLocals, Value.category]; done) | rfl
def own_QLE5 (Z : State) (b1 : Addr) (b2 : Addr) (k1 : ClassId) (k2 : ClassId) (h0 : Heap) (n0 : Nat) (rv__ : Option Value) (h : Heap) (rL__ : List Loc) : Prop := rv__ = some (.int (0 : Int32)) ∧ Fr n0 rL__ ∧ h = h0
abbrev own_RLE5 : Room := { frames := 0, cells := 0, slots := 0, locals := 0 }
set_option maxRecDepth 65536 in
set_option maxHeartbeats 40000000 in
theorem own_rmLE5 (l : Launch) (Z : State) (a0 : Array Value) (hw : ∀ d ∈ tables_1, d.before a0 Z = true) (ws : List Jvm.Cond) (b1 : Addr) (b2 : Addr) (k1 : ClassId) (k2 : ClassId) (h0 : Heap) (n0 : Nat) (Z0 : n0 ≤ h0.size) (AA1 : Arv Z h0 b1 k1 .byte (6 : Int32) [(.int (102 : Int32)), (.int (97 : Int32)), (.int (105 : Int32)), (.int (108 : Int32)), (.int (101 : Int32)), (.int (100 : Int32))] (.int (0 : Int32))) (AA2 : Arv Z h0 b2 k2 .byte (8 : Int32) [(.int (105 : Int32)), (.int (110 : Int32)), (.int (103 : Int32)), (.int (101 : Int32)), (.int (115 : Int32)), (.int (116 : Int32)), (.int (101 : Int32)), (.int (100 : Int32))] (.int (0 : Int32))) :
    MetFree l (⟨"java/lang/StringLatin1", "equals", "([B[B)Z"⟩ : MethodName) (head1 (Jvm.Cond.code (⟨"java/lang/StringLatin1", "equals", "([B[B)Z"⟩ : MethodName) jdk_43_method_13_code 3 (some .boolean) :: ws) own_RLE5) (fun aa__ U => aa__ = #[(.ref b1), (.ref b2)] ∧ Z.Warmed39 U.vm ∧ U.heap = h0) (fun _ _ _ _ _ => True) (fun _ U oc_ U' => ∃ rv__ rL__, oc_ = .returned rv__ ∧ own_QLE5 Z b1 b2 k1 k2 h0 n0 rv__ U'.heap rL__ ∧ FrameEnd U oc_ U' rL__ own_RLE5.cells own_RLE5.slots) := by
  refine MetFree.of_bodySF (plainFor_of_name own_pn_java_lang_StringLatin1) hisR ?_
  intro p e s m args below meth c s₁ Bd hml0 hP hK
  obtain ⟨rfl, hZ, hh⟩ := hP
  have hx := Bd.exec
  have hby := Bd.bytes
  have hml : c.maxLocals = 3 := hml0
  have hown : s.vm.findClass "java/lang/StringLatin1" = some m.cls := findClass_of_methodNamed Bd.named
  have hnm := (name_of_methodNamed Bd.named Bd.method).1
  have X0 : Stand p l e own_RLE5 s m #[(.ref b1), (.ref b2)] below meth c s₁ [] 0 0 := Stand.of_body Bd
  have e0 : s₁.heap = h0 := by rw [← hh, Bd.state]; rfl
  have N0 := Fr.nil n0
  refine own_in (fun _ k => castTop (own_efLE5 m b1 b2) k) ?_
  intro RR hRR
  show own_Go p.tables e below RR (s₁.setTop (mkF m 0 #[.val (.ref b1), .val (.ref b2), .unset] []))
  refine own_st (fun _ k => XS.aloadN X0.here hx rfl (hb hby own_djdk_43_method_13_code_0) rfl rfl k) ?_
  show own_Go p.tables e below RR (s₁.setTop (mkF m 1 #[.val (.ref b1), .val (.ref b2), .unset] [(.ref b1)]))
  obtain ⟨c1, A1, -, s1, m1, -, -⟩ := id AA1
  refine own_st (fun _ k => own_len X0 hx hZ e0 A1 s1 m1 (g := (mkF m 1 #[.val (.ref b1), .val (.ref b2), .unset] [(.ref b1)])) rfl rfl (hb hby own_djdk_43_method_13_code_1) k) ?_
  show own_Go p.tables e below RR (s₁.setTop (mkF m 2 #[.val (.ref b1), .val (.ref b2), .unset] [(.int (6 : Int32))]))
  refine own_st (fun _ k => XS.aloadN X0.here hx rfl (hb hby own_djdk_43_method_13_code_2) rfl rfl k) ?_
  show own_Go p.tables e below RR (s₁.setTop (mkF m 3 #[.val (.ref b1), .val (.ref b2), .unset] [(.ref b2), (.int (6 : Int32))]))
  obtain ⟨c2, A2, -, s2, m2, -, -⟩ := id AA2
  refine own_st (fun _ k => own_len X0 hx hZ e0 A2 s2 m2 (g := (mkF m 3 #[.val (.ref b1), .val (.ref b2), .unset] [(.ref b2), (.int (6 : Int32))])) rfl rfl (hb hby own_djdk_43_method_13_code_3) k) ?_
  show own_Go p.tables e below RR (s₁.setTop (mkF m 4 #[.val (.ref b1), .val (.ref b2), .unset] [(.int (8 : Int32)), (.int (6 : Int32))]))
  refine own_st (fun _ k => XS.icmpYes X0.here hx rfl (pc0 := 4) (pc' := 34) rfl (hb hby own_djdk_43_method_13_code_4) rfl (feq (by decide)).2 (by decide) (by decide) k) ?_
  show own_Go p.tables e below RR (s₁.setTop (mkF m 34 #[.val (.ref b1), .val (.ref b2), .unset] []))
  refine own_st (fun _ k => XS.iconst X0.here hx rfl (hb hby own_djdk_43_method_13_code_34) k) ?_
  show own_Go p.tables e below RR (s₁.setTop (mkF m 35 #[.val (.ref b1), .val (.ref b2), .unset] [(.int (0 : Int32))]))
  obtain ⟨fs, hrt_, hrun, hended, hW, hsame⟩ := X0.leave (v := some (.int (0 : Int32))) (fun h => by rw [Bd.returns] at h; cases h)
  refine own_fin (retN X0 hx (t := .boolean) Bd.returns (by simp) (hb hby own_djdk_43_method_13_code_35) hrt_) (hRR _ ⟨_, hrun, hended, _, _, rfl, ?_, ⟨_, rfl⟩, hW, hsame.mono (by decide) (by decide)⟩)
  show own_QLE5 Z b1 b2 k1 k2 h0 n0 _ s₁.heap _
  rw [e0]
  exact ⟨rfl, N0, rfl⟩
theorem own_efEQ5 (m : MethodId) (o1 : Addr) (o2 : Addr) : entryFrame m #[(.ref o1), (.ref o2)] 3 = mkF m 0 #[.val (.ref o1), .val (.ref o2), .unset] [] := by first | (simp [entryFrame, mkF, argsToLocals, Value.category]; done) | rfl
def own_QEQ5 (Z : State) (o1 : Addr) (o2 : Addr) (b1 : Addr) (b2 : Addr) (k1 : ClassId) (k2 : ClassId) (cs : Int32) (h0 : Heap) (n0 : Nat) (rv__ : Option Value) (h : Heap) (rL__ : List Loc) : Prop := rv__ = some (.int (0 : Int32)) ∧ Fr n0 rL__ ∧ h = h0
abbrev own_REQ5 : Room := { frames := 1, cells := 0, slots := 0, locals := 14 }
set_option maxRecDepth 65536 in
set_option maxHeartbeats 40000000 in
theorem own_rmEQ5 (l : Launch) (Z : State) (a0 : Array Value) (hw : ∀ d ∈ tables_1, d.before a0 Z = true) (ws : List Jvm.Cond) (o1 : Addr) (o2 : Addr) (b1 : Addr) (b2 : Addr) (k1 : ClassId) (k2 : ClassId) (cs : Int32) (h0 : Heap) (n0 : Nat) (Z0 : n0 ≤ h0.size) (E2 : Exa Z h0 o2 "java/lang/String") (C1 : Fld Z h0 o1 "java/lang/String" "coder" "B" (.int (0 : Int32))) (C2 : Fld Z h0 o2 "java/lang/String" "coder" "B" (.int (0 : Int32))) (V1 : Fld Z h0 o1 "java/lang/String" "value" "[B" (.ref b1)) (V2 : Fld Z h0 o2 "java/lang/String" "value" "[B" (.ref b2)) (AA1 : Arv Z h0 b1 k1 .byte (6 : Int32) [(.int (102 : Int32)), (.int (97 : Int32)), (.int (105 : Int32)), (.int (108 : Int32)), (.int (101 : Int32)), (.int (100 : Int32))] (.int (0 : Int32))) (AA2 : Arv Z h0 b2 k2 .byte (8 : Int32) [(.int (105 : Int32)), (.int (110 : Int32)), (.int (103 : Int32)), (.int (101 : Int32)), (.int (115 : Int32)), (.int (116 : Int32)), (.int (101 : Int32)), (.int (100 : Int32))] (.int (0 : Int32))) (S0 : Sta Z h0 "java/lang/String" "COMPACT_STRINGS" "Z" (.int cs)) (hcs : ¬ cs = (0 : Int32)) (ne : ¬ o1 = o2) :
    MetFree l (⟨"java/lang/String", "equals", "(Ljava/lang/Object;)Z"⟩ : MethodName) (head1 (Jvm.Cond.code (⟨"java/lang/String", "equals", "(Ljava/lang/Object;)Z"⟩ : MethodName) jdk_42_method_66_code 3 (some .boolean) :: ws) own_REQ5) (fun aa__ U => aa__ = #[(.ref o1), (.ref o2)] ∧ Z.Warmed39 U.vm ∧ U.heap = h0) (fun _ _ _ _ _ => True) (fun _ U oc_ U' => ∃ rv__ rL__, oc_ = .returned rv__ ∧ own_QEQ5 Z o1 o2 b1 b2 k1 k2 cs h0 n0 rv__ U'.heap rL__ ∧ FrameEnd U oc_ U' rL__ own_REQ5.cells own_REQ5.slots) := by
  refine MetFree.of_bodySF (plainFor_of_name own_pn_java_lang_String) hisR ?_
  intro p e s m args below meth c s₁ Bd hml0 hP hK
  obtain ⟨rfl, hZ, hh⟩ := hP
  have hx := Bd.exec
  have hby := Bd.bytes
  have hml : c.maxLocals = 3 := hml0
  have hown : s.vm.findClass "java/lang/String" = some m.cls := findClass_of_methodNamed Bd.named
  have hnm := (name_of_methodNamed Bd.named Bd.method).1
  have X0 : Stand p l e own_REQ5 s m #[(.ref o1), (.ref o2)] below meth c s₁ [] 0 0 := Stand.of_body Bd
  have e0 : s₁.heap = h0 := by rw [← hh, Bd.state]; rfl
  have N0 := Fr.nil n0
  refine own_in (fun _ k => castTop (own_efEQ5 m o1 o2) k) ?_
  intro RR hRR
  show own_Go p.tables e below RR (s₁.setTop (mkF m 0 #[.val (.ref o1), .val (.ref o2), .unset] []))
  refine own_st (fun _ k => XS.aloadN X0.here hx rfl (hb hby own_djdk_42_method_66_code_0) rfl rfl k) ?_
  show own_Go p.tables e below RR (s₁.setTop (mkF m 1 #[.val (.ref o1), .val (.ref o2), .unset] [(.ref o1)]))
  refine own_st (fun _ k => XS.aloadN X0.here hx rfl (hb hby own_djdk_42_method_66_code_1) rfl rfl k) ?_
  show own_Go p.tables e below RR (s₁.setTop (mkF m 2 #[.val (.ref o1), .val (.ref o2), .unset] [(.ref o2), (.ref o1)]))
  have hc2_1 : ¬ (o1 = o2) := ne
  refine own_st (fun _ k => Jvm.RoadKit.acmp (g := (mkF m 2 #[.val (.ref o1), .val (.ref o2), .unset] [(.ref o2), (.ref o1)])) X0 hx rfl rfl rfl (pc0 := 2) (pc' := 7) (same := false) rfl (hb hby own_djdk_42_method_66_code_2) rfl (decide_eq_false fun q => hc2_1 (Value.ref.inj q)) (by decide) (by decide) k) ?_
  show own_Go p.tables e below RR (s₁.setTop (mkF m 7 #[.val (.ref o1), .val (.ref o2), .unset] []))
  refine own_st (fun _ k => XS.aloadN X0.here hx rfl (hb hby own_djdk_42_method_66_code_7) rfl rfl k) ?_
  show own_Go p.tables e below RR (s₁.setTop (mkF m 8 #[.val (.ref o1), .val (.ref o2), .unset] [(.ref o2)]))
  obtain ⟨T2, X2, e2, st2⟩ := instY X0 hx hZ hown (hw _ (List.mem_of_getElem? (i := 39) rfl)) e0 (Ins.self E2) (g := (mkF m 8 #[.val (.ref o1), .val (.ref o2), .unset] [(.ref o2)])) rfl rfl (hb hby own_djdk_42_method_66_code_8)
  refine own_st st2 ?_
  show own_Go p.tables e below RR (T2.setTop (mkF m 11 #[.val (.ref o1), .val (.ref o2), .unset] [(.int (1 : Int32))]))
  refine own_st (fun _ k => XS.ifNo X2.here hx rfl (hb hby own_djdk_42_method_66_code_11) rfl ((if0 _ _).trans (feq (by decide)).1) k) ?_
  show own_Go p.tables e below RR (T2.setTop (mkF m 14 #[.val (.ref o1), .val (.ref o2), .unset] []))
  refine own_st (fun _ k => XS.aloadN X2.here hx rfl (hb hby own_djdk_42_method_66_code_14) rfl rfl k) ?_
  show own_Go p.tables e below RR (T2.setTop (mkF m 15 #[.val (.ref o1), .val (.ref o2), .unset] [(.ref o2)]))
  obtain ⟨T3, X3, e3, st3⟩ := castY X2 hx hZ hown (hw _ (List.mem_of_getElem? (i := 39) rfl)) e2 (Ins.self E2) (g := (mkF m 15 #[.val (.ref o1), .val (.ref o2), .unset] [(.ref o2)])) rfl rfl (hb hby own_djdk_42_method_66_code_15)
  refine own_st st3 ?_
  show own_Go p.tables e below RR (T3.setTop (mkF m 18 #[.val (.ref o1), .val (.ref o2), .unset] [(.ref o2)]))
  refine own_st (fun _ k => XS.astoreN X3.here hx rfl (hb hby own_djdk_42_method_66_code_18) rfl rfl (l' := #[.val (.ref o1), .val (.ref o2), .val (.ref o2)]) rfl k) ?_
  show own_Go p.tables e below RR (T3.setTop (mkF m 19 #[.val (.ref o1), .val (.ref o2), .val (.ref o2)] []))
  obtain ⟨T4, X4, e4, st4⟩ := getS2 X3 hx hZ hown (host := "") (Or.inl (hw _ (List.mem_of_getElem? (i := 41) rfl))) Via.refl e3 S0 (g := (mkF m 19 #[.val (.ref o1), .val (.ref o2), .val (.ref o2)] [])) rfl (hb hby own_djdk_42_method_66_code_19)
  refine own_st st4 ?_
  show own_Go p.tables e below RR (T4.setTop (mkF m 22 #[.val (.ref o1), .val (.ref o2), .val (.ref o2)] [(.int cs)]))
  have hc22_5 : ¬ (cs = (0 : Int32)) := hcs
  refine own_st (fun _ k => XS.ifNo X4.here hx rfl (hb hby own_djdk_42_method_66_code_22) rfl ((if0 _ _).trans (feq hc22_5).1) k) ?_
  show own_Go p.tables e below RR (T4.setTop (mkF m 25 #[.val (.ref o1), .val (.ref o2), .val (.ref o2)] []))
  refine own_st (fun _ k => XS.aloadN X4.here hx rfl (hb hby own_djdk_42_method_66_code_25) rfl rfl k) ?_
  show own_Go p.tables e below RR (T4.setTop (mkF m 26 #[.val (.ref o1), .val (.ref o2), .val (.ref o2)] [(.ref o1)]))
  obtain ⟨T6, X6, e6, st6⟩ := getF X4 hx hZ hown (host := "") (Or.inl (hw _ (List.mem_of_getElem? (i := 42) rfl))) Via.refl e4 C1 (g := (mkF m 26 #[.val (.ref o1), .val (.ref o2), .val (.ref o2)] [(.ref o1)])) rfl rfl (hb hby own_djdk_42_method_66_code_26)
  refine own_st st6 ?_
  show own_Go p.tables e below RR (T6.setTop (mkF m 29 #[.val (.ref o1), .val (.ref o2), .val (.ref o2)] [(.int (0 : Int32))]))
  refine own_st (fun _ k => XS.aloadN X6.here hx rfl (hb hby own_djdk_42_method_66_code_29) rfl rfl k) ?_
  show own_Go p.tables e below RR (T6.setTop (mkF m 30 #[.val (.ref o1), .val (.ref o2), .val (.ref o2)] [(.ref o2), (.int (0 : Int32))]))
  obtain ⟨T7, X7, e7, st7⟩ := getF X6 hx hZ hown (host := "") (Or.inl (hw _ (List.mem_of_getElem? (i := 42) rfl))) Via.refl e6 C2 (g := (mkF m 30 #[.val (.ref o1), .val (.ref o2), .val (.ref o2)] [(.ref o2), (.int (0 : Int32))])) rfl rfl (hb hby own_djdk_42_method_66_code_30)
  refine own_st st7 ?_
  show own_Go p.tables e below RR (T7.setTop (mkF m 33 #[.val (.ref o1), .val (.ref o2), .val (.ref o2)] [(.int (0 : Int32)), (.int (0 : Int32))]))
  refine own_st (fun _ k => XS.icmpNo X7.here hx rfl (hb hby own_djdk_42_method_66_code_33) rfl (teq (by decide)).2 k) ?_
  show own_Go p.tables e below RR (T7.setTop (mkF m 36 #[.val (.ref o1), .val (.ref o2), .val (.ref o2)] []))
  refine own_st (fun _ k => XS.aloadN X7.here hx rfl (hb hby own_djdk_42_method_66_code_36) rfl rfl k) ?_
  show own_Go p.tables e below RR (T7.setTop (mkF m 37 #[.val (.ref o1), .val (.ref o2), .val (.ref o2)] [(.ref o1)]))
  obtain ⟨T8, X8, e8, st8⟩ := getF X7 hx hZ hown (host := "") (Or.inl (hw _ (List.mem_of_getElem? (i := 43) rfl))) Via.refl e7 V1 (g := (mkF m 37 #[.val (.ref o1), .val (.ref o2), .val (.ref o2)] [(.ref o1)])) rfl rfl (hb hby own_djdk_42_method_66_code_37)
  refine own_st st8 ?_
  show own_Go p.tables e below RR (T8.setTop (mkF m 40 #[.val (.ref o1), .val (.ref o2), .val (.ref o2)] [(.ref b1)]))
  refine own_st (fun _ k => XS.aloadN X8.here hx rfl (hb hby own_djdk_42_method_66_code_40) rfl rfl k) ?_
  show own_Go p.tables e below RR (T8.setTop (mkF m 41 #[.val (.ref o1), .val (.ref o2), .val (.ref o2)] [(.ref o2), (.ref b1)]))
  obtain ⟨T9, X9, e9, st9⟩ := getF X8 hx hZ hown (host := "") (Or.inl (hw _ (List.mem_of_getElem? (i := 43) rfl))) Via.refl e8 V2 (g := (mkF m 41 #[.val (.ref o1), .val (.ref o2), .val (.ref o2)] [(.ref o2), (.ref b1)])) rfl rfl (hb hby own_djdk_42_method_66_code_41)
  refine own_st st9 ?_
  show own_Go p.tables e below RR (T9.setTop (mkF m 44 #[.val (.ref o1), .val (.ref o2), .val (.ref o2)] [(.ref b2), (.ref b1)]))
  obtain ⟨_, _, ⟨T10, L10, k10, n10⟩, -, X10, ⟨Lc10, hQ10, l10, y10, z10⟩, st10⟩ := Jvm.LawKit.callS X9 hx (y := (⟨"java/lang/StringLatin1", "equals", "([B[B)Z"⟩ : MethodName)) hown (mvT hZ (hw _ (List.mem_of_getElem? (i := 44) rfl))) (mvT hZ (hw _ (List.mem_of_getElem? (i := 45) rfl))) (mvT hZ (hw _ (List.mem_of_getElem? (i := 46) rfl))) (mvT hZ (hw _ (List.mem_of_getElem? (i := 47) rfl))) (by decide) (backOf (W := 0) (own_rmLE5 l Z a0 hw [] b1 b2 k1 k2 h0 n0 Z0 AA1 AA2) hZ (hw _ (List.mem_of_getElem? (i := 47) rfl)) (hw _ (List.mem_of_getElem? (i := 46) rfl)) (by decide) (by decide)) (g := (mkF m 44 #[.val (.ref o1), .val (.ref o2), .val (.ref o2)] [(.ref b2), (.ref b1)])) rfl (by rw [hml]; rfl) (argsL := [(.ref b1), (.ref b2)]) (rest := []) (lenOf own_pd___B_B_Z rfl) rfl (by show 2 * 0 + _ ≤ _; exact Nat.le_of_eq rfl) (hb hby own_djdk_42_method_66_code_44) (fun _ _ => ⟨rfl, e9, (by decide : 0 + 0 ≤ _), (by decide : 0 + 0 ≤ _)⟩)
  dsimp only [Pt.U, Pt.locs, Pt.cells, Pt.slots] at X10 l10 y10 z10 st10 hQ10
  subst l10 y10 z10
  obtain ⟨rfl, Nq10, eq10⟩ := hQ10
  have N10 := Fr.app N0 Nq10
  refine own_st st10 ?_
  show own_Go p.tables e below RR (T10.setTop (mkF m 47 #[.val (.ref o1), .val (.ref o2), .val (.ref o2)] [(.int (0 : Int32))]))
  refine own_st (fun _ k => XS.ifYes X10.here hx rfl (pc0 := 47) (pc' := 54) rfl (hb hby own_djdk_42_method_66_code_47) rfl ((if0 _ _).trans (teq (by decide)).1) (by decide) (by decide) k) ?_
  show own_Go p.tables e below RR (T10.setTop (mkF m 54 #[.val (.ref o1), .val (.ref o2), .val (.ref o2)] []))
  refine own_st (fun _ k => XS.iconst X10.here hx rfl (hb hby own_djdk_42_method_66_code_54) k) ?_
  show own_Go p.tables e below RR (T10.setTop (mkF m 55 #[.val (.ref o1), .val (.ref o2), .val (.ref o2)] [(.int (0 : Int32))]))
  obtain ⟨fs, hrt_, hrun, hended, hW, hsame⟩ := X10.leave (v := some (.int (0 : Int32))) (fun h => by rw [Bd.returns] at h; cases h)
  refine own_fin (retN X10 hx (t := .boolean) Bd.returns (by simp) (hb hby own_djdk_42_method_66_code_55) hrt_) (hRR _ ⟨_, hrun, hended, _, _, rfl, ?_, ⟨_, rfl⟩, hW, hsame.mono (by decide) (by decide)⟩)
  show own_QEQ5 Z o1 o2 b1 b2 k1 k2 cs h0 n0 _ T10.heap _
  rw [eq10]
  exact ⟨rfl, N10, rfl⟩
theorem own_efLE6 (m : MethodId) (b1 : Addr) (b2 : Addr) : entryFrame m #[(.ref b1), (.ref b2)] 3 = mkF m 0 #[.val (.ref b1), .val (.ref b2), .unset] [] := by first | (simp [entryFrame, mkF, argsToLocals, Value.category]; done) | rfl
def own_QLE6 (Z : State) (b1 : Addr) (b2 : Addr) (k1 : ClassId) (k2 : ClassId) (h0 : Heap) (n0 : Nat) (rv__ : Option Value) (h : Heap) (rL__ : List Loc) : Prop := rv__ = some (.int (1 : Int32)) ∧ Fr n0 rL__ ∧ h = h0
abbrev own_RLE6 : Room := { frames := 0, cells := 0, slots := 0, locals := 0 }
set_option maxRecDepth 65536 in
set_option maxHeartbeats 40000000 in
theorem own_rmLE6 (l : Launch) (Z : State) (a0 : Array Value) (hw : ∀ d ∈ tables_1, d.before a0 Z = true) (ws : List Jvm.Cond) (b1 : Addr) (b2 : Addr) (k1 : ClassId) (k2 : ClassId) (h0 : Heap) (n0 : Nat) (Z0 : n0 ≤ h0.size) (AA1 : Arv Z h0 b1 k1 .byte (6 : Int32) [(.int (102 : Int32)), (.int (97 : Int32)), (.int (105 : Int32)), (.int (108 : Int32)), (.int (101 : Int32)), (.int (100 : Int32))] (.int (0 : Int32))) (AA2 : Arv Z h0 b2 k2 .byte (6 : Int32) [(.int (102 : Int32)), (.int (97 : Int32)), (.int (105 : Int32)), (.int (108 : Int32)), (.int (101 : Int32)), (.int (100 : Int32))] (.int (0 : Int32))) :
    MetFree l (⟨"java/lang/StringLatin1", "equals", "([B[B)Z"⟩ : MethodName) (head1 (Jvm.Cond.code (⟨"java/lang/StringLatin1", "equals", "([B[B)Z"⟩ : MethodName) jdk_43_method_13_code 3 (some .boolean) :: ws) own_RLE6) (fun aa__ U => aa__ = #[(.ref b1), (.ref b2)] ∧ Z.Warmed39 U.vm ∧ U.heap = h0) (fun _ _ _ _ _ => True) (fun _ U oc_ U' => ∃ rv__ rL__, oc_ = .returned rv__ ∧ own_QLE6 Z b1 b2 k1 k2 h0 n0 rv__ U'.heap rL__ ∧ FrameEnd U oc_ U' rL__ own_RLE6.cells own_RLE6.slots) := by
  refine MetFree.of_bodySF (plainFor_of_name own_pn_java_lang_StringLatin1) hisR ?_
  intro p e s m args below meth c s₁ Bd hml0 hP hK
  obtain ⟨rfl, hZ, hh⟩ := hP
  have hx := Bd.exec
  have hby := Bd.bytes
  have hml : c.maxLocals = 3 := hml0
  have hown : s.vm.findClass "java/lang/StringLatin1" = some m.cls := findClass_of_methodNamed Bd.named
  have hnm := (name_of_methodNamed Bd.named Bd.method).1
  have X0 : Stand p l e own_RLE6 s m #[(.ref b1), (.ref b2)] below meth c s₁ [] 0 0 := Stand.of_body Bd
  have e0 : s₁.heap = h0 := by rw [← hh, Bd.state]; rfl
  have N0 := Fr.nil n0
  refine own_in (fun _ k => castTop (own_efLE6 m b1 b2) k) ?_
  intro RR hRR
  show own_Go p.tables e below RR (s₁.setTop (mkF m 0 #[.val (.ref b1), .val (.ref b2), .unset] []))
  refine own_st (fun _ k => XS.aloadN X0.here hx rfl (hb hby own_djdk_43_method_13_code_0) rfl rfl k) ?_
  show own_Go p.tables e below RR (s₁.setTop (mkF m 1 #[.val (.ref b1), .val (.ref b2), .unset] [(.ref b1)]))
  obtain ⟨c1, A1, -, s1, m1, -, -⟩ := id AA1
  refine own_st (fun _ k => own_len X0 hx hZ e0 A1 s1 m1 (g := (mkF m 1 #[.val (.ref b1), .val (.ref b2), .unset] [(.ref b1)])) rfl rfl (hb hby own_djdk_43_method_13_code_1) k) ?_
  show own_Go p.tables e below RR (s₁.setTop (mkF m 2 #[.val (.ref b1), .val (.ref b2), .unset] [(.int (6 : Int32))]))
  refine own_st (fun _ k => XS.aloadN X0.here hx rfl (hb hby own_djdk_43_method_13_code_2) rfl rfl k) ?_
  show own_Go p.tables e below RR (s₁.setTop (mkF m 3 #[.val (.ref b1), .val (.ref b2), .unset] [(.ref b2), (.int (6 : Int32))]))
  obtain ⟨c2, A2, -, s2, m2, -, -⟩ := id AA2
  refine own_st (fun _ k => own_len X0 hx hZ e0 A2 s2 m2 (g := (mkF m 3 #[.val (.ref b1), .val (.ref b2), .unset] [(.ref b2), (.int (6 : Int32))])) rfl rfl (hb hby own_djdk_43_method_13_code_3) k) ?_
  show own_Go p.tables e below RR (s₁.setTop (mkF m 4 #[.val (.ref b1), .val (.ref b2), .unset] [(.int (6 : Int32)), (.int (6 : Int32))]))
  refine own_st (fun _ k => XS.icmpNo X0.here hx rfl (hb hby own_djdk_43_method_13_code_4) rfl (teq (by decide)).2 k) ?_
  show own_Go p.tables e below RR (s₁.setTop (mkF m 7 #[.val (.ref b1), .val (.ref b2), .unset] []))
  refine own_st (fun _ k => XS.iconst X0.here hx rfl (hb hby own_djdk_43_method_13_code_7) k) ?_
  show own_Go p.tables e below RR (s₁.setTop (mkF m 8 #[.val (.ref b1), .val (.ref b2), .unset] [(.int (0 : Int32))]))
  refine own_st (fun _ k => XS.istoreN X0.here hx rfl (hb hby own_djdk_43_method_13_code_8) rfl (l' := #[.val (.ref b1), .val (.ref b2), .val (.int (0 : Int32))]) rfl k) ?_
  show own_Go p.tables e below RR (s₁.setTop (mkF m 9 #[.val (.ref b1), .val (.ref b2), .val (.int (0 : Int32))] []))
  refine own_st (fun _ k => XS.iloadN X0.here hx rfl (hb hby own_djdk_43_method_13_code_9) rfl k) ?_
  show own_Go p.tables e below RR (s₁.setTop (mkF m 10 #[.val (.ref b1), .val (.ref b2), .val (.int (0 : Int32))] [(.int (0 : Int32))]))
  refine own_st (fun _ k => XS.aloadN X0.here hx rfl (hb hby own_djdk_43_method_13_code_10) rfl rfl k) ?_
  show own_Go p.tables e below RR (s₁.setTop (mkF m 11 #[.val (.ref b1), .val (.ref b2), .val (.int (0 : Int32))] [(.ref b1), (.int (0 : Int32))]))
  obtain ⟨c3, A3, -, s3, m3, -, -⟩ := id AA1
  refine own_st (fun _ k => own_len X0 hx hZ e0 A3 s3 m3 (g := (mkF m 11 #[.val (.ref b1), .val (.ref b2), .val (.int (0 : Int32))] [(.ref b1), (.int (0 : Int32))])) rfl rfl (hb hby own_djdk_43_method_13_code_11) k) ?_
  show own_Go p.tables e below RR (s₁.setTop (mkF m 12 #[.val (.ref b1), .val (.ref b2), .val (.int (0 : Int32))] [(.int (6 : Int32)), (.int (0 : Int32))]))
  refine own_st (fun _ k => XS.icmpNo X0.here hx rfl (hb hby own_djdk_43_method_13_code_12) rfl (tlt (by decide)).2.1 k) ?_
  show own_Go p.tables e below RR (s₁.setTop (mkF m 15 #[.val (.ref b1), .val (.ref b2), .val (.int (0 : Int32))] []))
  refine own_st (fun _ k => XS.aloadN X0.here hx rfl (hb hby own_djdk_43_method_13_code_15) rfl rfl k) ?_
  show own_Go p.tables e below RR (s₁.setTop (mkF m 16 #[.val (.ref b1), .val (.ref b2), .val (.int (0 : Int32))] [(.ref b1)]))
  refine own_st (fun _ k => XS.iloadN X0.here hx rfl (hb hby own_djdk_43_method_13_code_16) rfl k) ?_
  show own_Go p.tables e below RR (s₁.setTop (mkF m 17 #[.val (.ref b1), .val (.ref b2), .val (.int (0 : Int32))] [(.int (0 : Int32)), (.ref b1)]))
  obtain ⟨c4, A4, q4, s4, m4, H4, G4⟩ := id AA1
  have b4 := inb_of (j := (0 : Int32)) s4 ⟨by decide, by decide⟩
  refine own_st (fun _ k => X0.baloadBytes hx (j := (0 : Int32)) (v := (.int (102 : Int32))) (by rw [e0]; exact A4.1) (State.isArrayOf_alike hZ.alike A4.2.1) A4.2.2 b4 (Has.at H4 b4 rfl) (g := (mkF m 17 #[.val (.ref b1), .val (.ref b2), .val (.int (0 : Int32))] [(.int (0 : Int32)), (.ref b1)])) rfl rfl (hb hby own_djdk_43_method_13_code_17) _ k) ?_
  show own_Go p.tables e below RR (s₁.setTop (mkF m 18 #[.val (.ref b1), .val (.ref b2), .val (.int (0 : Int32))] [(.int (102 : Int32))]))
  refine own_st (fun _ k => XS.aloadN X0.here hx rfl (hb hby own_djdk_43_method_13_code_18) rfl rfl k) ?_
  show own_Go p.tables e below RR (s₁.setTop (mkF m 19 #[.val (.ref b1), .val (.ref b2), .val (.int (0 : Int32))] [(.ref b2), (.int (102 : Int32))]))
  refine own_st (fun _ k => XS.iloadN X0.here hx rfl (hb hby own_djdk_43_method_13_code_19) rfl k) ?_
  show own_Go p.tables e below RR (s₁.setTop (mkF m 20 #[.val (.ref b1), .val (.ref b2), .val (.int (0 : Int32))] [(.int (0 : Int32)), (.ref b2), (.int (102 : Int32))]))
  obtain ⟨c5, A5, q5, s5, m5, H5, G5⟩ := id AA2
  have b5 := inb_of (j := (0 : Int32)) s5 ⟨by decide, by decide⟩
  refine own_st (fun _ k => X0.baloadBytes hx (j := (0 : Int32)) (v := (.int (102 : Int32))) (by rw [e0]; exact A5.1) (State.isArrayOf_alike hZ.alike A5.2.1) A5.2.2 b5 (Has.at H5 b5 rfl) (g := (mkF m 20 #[.val (.ref b1), .val (.ref b2), .val (.int (0 : Int32))] [(.int (0 : Int32)), (.ref b2), (.int (102 : Int32))])) rfl rfl (hb hby own_djdk_43_method_13_code_20) _ k) ?_
  show own_Go p.tables e below RR (s₁.setTop (mkF m 21 #[.val (.ref b1), .val (.ref b2), .val (.int (0 : Int32))] [(.int (102 : Int32)), (.int (102 : Int32))]))
  refine own_st (fun _ k => XS.icmpYes X0.here hx rfl (pc0 := 21) (pc' := 26) rfl (hb hby own_djdk_43_method_13_code_21) rfl (teq (by decide)).1 (by decide) (by decide) k) ?_
  show own_Go p.tables e below RR (s₁.setTop (mkF m 26 #[.val (.ref b1), .val (.ref b2), .val (.int (0 : Int32))] []))
  refine own_st (fun _ k => XS.iinc X0.here hx rfl (hb hby own_djdk_43_method_13_code_26) rfl (l' := #[.val (.ref b1), .val (.ref b2), .val (.int (1 : Int32))]) rfl k) ?_
  show own_Go p.tables e below RR (s₁.setTop (mkF m 29 #[.val (.ref b1), .val (.ref b2), .val (.int (1 : Int32))] []))
  refine own_st (fun _ k => XS.goto X0.here hx rfl (pc0 := 29) (pc' := 9) rfl (hb hby own_djdk_43_method_13_code_29) (by decide) (by decide) k) ?_
  show own_Go p.tables e below RR (s₁.setTop (mkF m 9 #[.val (.ref b1), .val (.ref b2), .val (.int (1 : Int32))] []))
  refine own_st (fun _ k => XS.iloadN X0.here hx rfl (hb hby own_djdk_43_method_13_code_9) rfl k) ?_
  show own_Go p.tables e below RR (s₁.setTop (mkF m 10 #[.val (.ref b1), .val (.ref b2), .val (.int (1 : Int32))] [(.int (1 : Int32))]))
  refine own_st (fun _ k => XS.aloadN X0.here hx rfl (hb hby own_djdk_43_method_13_code_10) rfl rfl k) ?_
  show own_Go p.tables e below RR (s₁.setTop (mkF m 11 #[.val (.ref b1), .val (.ref b2), .val (.int (1 : Int32))] [(.ref b1), (.int (1 : Int32))]))
  obtain ⟨c6, A6, -, s6, m6, -, -⟩ := id AA1
  refine own_st (fun _ k => own_len X0 hx hZ e0 A6 s6 m6 (g := (mkF m 11 #[.val (.ref b1), .val (.ref b2), .val (.int (1 : Int32))] [(.ref b1), (.int (1 : Int32))])) rfl rfl (hb hby own_djdk_43_method_13_code_11) k) ?_
  show own_Go p.tables e below RR (s₁.setTop (mkF m 12 #[.val (.ref b1), .val (.ref b2), .val (.int (1 : Int32))] [(.int (6 : Int32)), (.int (1 : Int32))]))
  refine own_st (fun _ k => XS.icmpNo X0.here hx rfl (hb hby own_djdk_43_method_13_code_12) rfl (tlt (by decide)).2.1 k) ?_
  show own_Go p.tables e below RR (s₁.setTop (mkF m 15 #[.val (.ref b1), .val (.ref b2), .val (.int (1 : Int32))] []))
  refine own_st (fun _ k => XS.aloadN X0.here hx rfl (hb hby own_djdk_43_method_13_code_15) rfl rfl k) ?_
  show own_Go p.tables e below RR (s₁.setTop (mkF m 16 #[.val (.ref b1), .val (.ref b2), .val (.int (1 : Int32))] [(.ref b1)]))
  refine own_st (fun _ k => XS.iloadN X0.here hx rfl (hb hby own_djdk_43_method_13_code_16) rfl k) ?_
  show own_Go p.tables e below RR (s₁.setTop (mkF m 17 #[.val (.ref b1), .val (.ref b2), .val (.int (1 : Int32))] [(.int (1 : Int32)), (.ref b1)]))
  obtain ⟨c7, A7, q7, s7, m7, H7, G7⟩ := id AA1
  have b7 := inb_of (j := (1 : Int32)) s7 ⟨by decide, by decide⟩
  refine own_st (fun _ k => X0.baloadBytes hx (j := (1 : Int32)) (v := (.int (97 : Int32))) (by rw [e0]; exact A7.1) (State.isArrayOf_alike hZ.alike A7.2.1) A7.2.2 b7 (Has.at H7 b7 rfl) (g := (mkF m 17 #[.val (.ref b1), .val (.ref b2), .val (.int (1 : Int32))] [(.int (1 : Int32)), (.ref b1)])) rfl rfl (hb hby own_djdk_43_method_13_code_17) _ k) ?_
  show own_Go p.tables e below RR (s₁.setTop (mkF m 18 #[.val (.ref b1), .val (.ref b2), .val (.int (1 : Int32))] [(.int (97 : Int32))]))
  refine own_st (fun _ k => XS.aloadN X0.here hx rfl (hb hby own_djdk_43_method_13_code_18) rfl rfl k) ?_
  show own_Go p.tables e below RR (s₁.setTop (mkF m 19 #[.val (.ref b1), .val (.ref b2), .val (.int (1 : Int32))] [(.ref b2), (.int (97 : Int32))]))
  refine own_st (fun _ k => XS.iloadN X0.here hx rfl (hb hby own_djdk_43_method_13_code_19) rfl k) ?_
  show own_Go p.tables e below RR (s₁.setTop (mkF m 20 #[.val (.ref b1), .val (.ref b2), .val (.int (1 : Int32))] [(.int (1 : Int32)), (.ref b2), (.int (97 : Int32))]))
  obtain ⟨c8, A8, q8, s8, m8, H8, G8⟩ := id AA2
  have b8 := inb_of (j := (1 : Int32)) s8 ⟨by decide, by decide⟩
  refine own_st (fun _ k => X0.baloadBytes hx (j := (1 : Int32)) (v := (.int (97 : Int32))) (by rw [e0]; exact A8.1) (State.isArrayOf_alike hZ.alike A8.2.1) A8.2.2 b8 (Has.at H8 b8 rfl) (g := (mkF m 20 #[.val (.ref b1), .val (.ref b2), .val (.int (1 : Int32))] [(.int (1 : Int32)), (.ref b2), (.int (97 : Int32))])) rfl rfl (hb hby own_djdk_43_method_13_code_20) _ k) ?_
  show own_Go p.tables e below RR (s₁.setTop (mkF m 21 #[.val (.ref b1), .val (.ref b2), .val (.int (1 : Int32))] [(.int (97 : Int32)), (.int (97 : Int32))]))
  refine own_st (fun _ k => XS.icmpYes X0.here hx rfl (pc0 := 21) (pc' := 26) rfl (hb hby own_djdk_43_method_13_code_21) rfl (teq (by decide)).1 (by decide) (by decide) k) ?_
  show own_Go p.tables e below RR (s₁.setTop (mkF m 26 #[.val (.ref b1), .val (.ref b2), .val (.int (1 : Int32))] []))
  refine own_st (fun _ k => XS.iinc X0.here hx rfl (hb hby own_djdk_43_method_13_code_26) rfl (l' := #[.val (.ref b1), .val (.ref b2), .val (.int (2 : Int32))]) rfl k) ?_
  show own_Go p.tables e below RR (s₁.setTop (mkF m 29 #[.val (.ref b1), .val (.ref b2), .val (.int (2 : Int32))] []))
  refine own_st (fun _ k => XS.goto X0.here hx rfl (pc0 := 29) (pc' := 9) rfl (hb hby own_djdk_43_method_13_code_29) (by decide) (by decide) k) ?_
  show own_Go p.tables e below RR (s₁.setTop (mkF m 9 #[.val (.ref b1), .val (.ref b2), .val (.int (2 : Int32))] []))
  refine own_st (fun _ k => XS.iloadN X0.here hx rfl (hb hby own_djdk_43_method_13_code_9) rfl k) ?_
  show own_Go p.tables e below RR (s₁.setTop (mkF m 10 #[.val (.ref b1), .val (.ref b2), .val (.int (2 : Int32))] [(.int (2 : Int32))]))
  refine own_st (fun _ k => XS.aloadN X0.here hx rfl (hb hby own_djdk_43_method_13_code_10) rfl rfl k) ?_
  show own_Go p.tables e below RR (s₁.setTop (mkF m 11 #[.val (.ref b1), .val (.ref b2), .val (.int (2 : Int32))] [(.ref b1), (.int (2 : Int32))]))
  obtain ⟨c9, A9, -, s9, m9, -, -⟩ := id AA1
  refine own_st (fun _ k => own_len X0 hx hZ e0 A9 s9 m9 (g := (mkF m 11 #[.val (.ref b1), .val (.ref b2), .val (.int (2 : Int32))] [(.ref b1), (.int (2 : Int32))])) rfl rfl (hb hby own_djdk_43_method_13_code_11) k) ?_
  show own_Go p.tables e below RR (s₁.setTop (mkF m 12 #[.val (.ref b1), .val (.ref b2), .val (.int (2 : Int32))] [(.int (6 : Int32)), (.int (2 : Int32))]))
  refine own_st (fun _ k => XS.icmpNo X0.here hx rfl (hb hby own_djdk_43_method_13_code_12) rfl (tlt (by decide)).2.1 k) ?_
  show own_Go p.tables e below RR (s₁.setTop (mkF m 15 #[.val (.ref b1), .val (.ref b2), .val (.int (2 : Int32))] []))
  refine own_st (fun _ k => XS.aloadN X0.here hx rfl (hb hby own_djdk_43_method_13_code_15) rfl rfl k) ?_
  show own_Go p.tables e below RR (s₁.setTop (mkF m 16 #[.val (.ref b1), .val (.ref b2), .val (.int (2 : Int32))] [(.ref b1)]))
  refine own_st (fun _ k => XS.iloadN X0.here hx rfl (hb hby own_djdk_43_method_13_code_16) rfl k) ?_
  show own_Go p.tables e below RR (s₁.setTop (mkF m 17 #[.val (.ref b1), .val (.ref b2), .val (.int (2 : Int32))] [(.int (2 : Int32)), (.ref b1)]))
  obtain ⟨c10, A10, q10, s10, m10, H10, G10⟩ := id AA1
  have b10 := inb_of (j := (2 : Int32)) s10 ⟨by decide, by decide⟩
  refine own_st (fun _ k => X0.baloadBytes hx (j := (2 : Int32)) (v := (.int (105 : Int32))) (by rw [e0]; exact A10.1) (State.isArrayOf_alike hZ.alike A10.2.1) A10.2.2 b10 (Has.at H10 b10 rfl) (g := (mkF m 17 #[.val (.ref b1), .val (.ref b2), .val (.int (2 : Int32))] [(.int (2 : Int32)), (.ref b1)])) rfl rfl (hb hby own_djdk_43_method_13_code_17) _ k) ?_
  show own_Go p.tables e below RR (s₁.setTop (mkF m 18 #[.val (.ref b1), .val (.ref b2), .val (.int (2 : Int32))] [(.int (105 : Int32))]))
  refine own_st (fun _ k => XS.aloadN X0.here hx rfl (hb hby own_djdk_43_method_13_code_18) rfl rfl k) ?_
  show own_Go p.tables e below RR (s₁.setTop (mkF m 19 #[.val (.ref b1), .val (.ref b2), .val (.int (2 : Int32))] [(.ref b2), (.int (105 : Int32))]))
  refine own_st (fun _ k => XS.iloadN X0.here hx rfl (hb hby own_djdk_43_method_13_code_19) rfl k) ?_
  show own_Go p.tables e below RR (s₁.setTop (mkF m 20 #[.val (.ref b1), .val (.ref b2), .val (.int (2 : Int32))] [(.int (2 : Int32)), (.ref b2), (.int (105 : Int32))]))
  obtain ⟨c11, A11, q11, s11, m11, H11, G11⟩ := id AA2
  have b11 := inb_of (j := (2 : Int32)) s11 ⟨by decide, by decide⟩
  refine own_st (fun _ k => X0.baloadBytes hx (j := (2 : Int32)) (v := (.int (105 : Int32))) (by rw [e0]; exact A11.1) (State.isArrayOf_alike hZ.alike A11.2.1) A11.2.2 b11 (Has.at H11 b11 rfl) (g := (mkF m 20 #[.val (.ref b1), .val (.ref b2), .val (.int (2 : Int32))] [(.int (2 : Int32)), (.ref b2), (.int (105 : Int32))])) rfl rfl (hb hby own_djdk_43_method_13_code_20) _ k) ?_
  show own_Go p.tables e below RR (s₁.setTop (mkF m 21 #[.val (.ref b1), .val (.ref b2), .val (.int (2 : Int32))] [(.int (105 : Int32)), (.int (105 : Int32))]))
  refine own_st (fun _ k => XS.icmpYes X0.here hx rfl (pc0 := 21) (pc' := 26) rfl (hb hby own_djdk_43_method_13_code_21) rfl (teq (by decide)).1 (by decide) (by decide) k) ?_
  show own_Go p.tables e below RR (s₁.setTop (mkF m 26 #[.val (.ref b1), .val (.ref b2), .val (.int (2 : Int32))] []))
  refine own_st (fun _ k => XS.iinc X0.here hx rfl (hb hby own_djdk_43_method_13_code_26) rfl (l' := #[.val (.ref b1), .val (.ref b2), .val (.int (3 : Int32))]) rfl k) ?_
  show own_Go p.tables e below RR (s₁.setTop (mkF m 29 #[.val (.ref b1), .val (.ref b2), .val (.int (3 : Int32))] []))
  refine own_st (fun _ k => XS.goto X0.here hx rfl (pc0 := 29) (pc' := 9) rfl (hb hby own_djdk_43_method_13_code_29) (by decide) (by decide) k) ?_
  show own_Go p.tables e below RR (s₁.setTop (mkF m 9 #[.val (.ref b1), .val (.ref b2), .val (.int (3 : Int32))] []))
  refine own_st (fun _ k => XS.iloadN X0.here hx rfl (hb hby own_djdk_43_method_13_code_9) rfl k) ?_
  show own_Go p.tables e below RR (s₁.setTop (mkF m 10 #[.val (.ref b1), .val (.ref b2), .val (.int (3 : Int32))] [(.int (3 : Int32))]))
  refine own_st (fun _ k => XS.aloadN X0.here hx rfl (hb hby own_djdk_43_method_13_code_10) rfl rfl k) ?_
  show own_Go p.tables e below RR (s₁.setTop (mkF m 11 #[.val (.ref b1), .val (.ref b2), .val (.int (3 : Int32))] [(.ref b1), (.int (3 : Int32))]))
  obtain ⟨c12, A12, -, s12, m12, -, -⟩ := id AA1
  refine own_st (fun _ k => own_len X0 hx hZ e0 A12 s12 m12 (g := (mkF m 11 #[.val (.ref b1), .val (.ref b2), .val (.int (3 : Int32))] [(.ref b1), (.int (3 : Int32))])) rfl rfl (hb hby own_djdk_43_method_13_code_11) k) ?_
  show own_Go p.tables e below RR (s₁.setTop (mkF m 12 #[.val (.ref b1), .val (.ref b2), .val (.int (3 : Int32))] [(.int (6 : Int32)), (.int (3 : Int32))]))
  refine own_st (fun _ k => XS.icmpNo X0.here hx rfl (hb hby own_djdk_43_method_13_code_12) rfl (tlt (by decide)).2.1 k) ?_
  show own_Go p.tables e below RR (s₁.setTop (mkF m 15 #[.val (.ref b1), .val (.ref b2), .val (.int (3 : Int32))] []))
  refine own_st (fun _ k => XS.aloadN X0.here hx rfl (hb hby own_djdk_43_method_13_code_15) rfl rfl k) ?_
  show own_Go p.tables e below RR (s₁.setTop (mkF m 16 #[.val (.ref b1), .val (.ref b2), .val (.int (3 : Int32))] [(.ref b1)]))
  refine own_st (fun _ k => XS.iloadN X0.here hx rfl (hb hby own_djdk_43_method_13_code_16) rfl k) ?_
  show own_Go p.tables e below RR (s₁.setTop (mkF m 17 #[.val (.ref b1), .val (.ref b2), .val (.int (3 : Int32))] [(.int (3 : Int32)), (.ref b1)]))
  obtain ⟨c13, A13, q13, s13, m13, H13, G13⟩ := id AA1
  have b13 := inb_of (j := (3 : Int32)) s13 ⟨by decide, by decide⟩
  refine own_st (fun _ k => X0.baloadBytes hx (j := (3 : Int32)) (v := (.int (108 : Int32))) (by rw [e0]; exact A13.1) (State.isArrayOf_alike hZ.alike A13.2.1) A13.2.2 b13 (Has.at H13 b13 rfl) (g := (mkF m 17 #[.val (.ref b1), .val (.ref b2), .val (.int (3 : Int32))] [(.int (3 : Int32)), (.ref b1)])) rfl rfl (hb hby own_djdk_43_method_13_code_17) _ k) ?_
  show own_Go p.tables e below RR (s₁.setTop (mkF m 18 #[.val (.ref b1), .val (.ref b2), .val (.int (3 : Int32))] [(.int (108 : Int32))]))
  refine own_st (fun _ k => XS.aloadN X0.here hx rfl (hb hby own_djdk_43_method_13_code_18) rfl rfl k) ?_
  show own_Go p.tables e below RR (s₁.setTop (mkF m 19 #[.val (.ref b1), .val (.ref b2), .val (.int (3 : Int32))] [(.ref b2), (.int (108 : Int32))]))
  refine own_st (fun _ k => XS.iloadN X0.here hx rfl (hb hby own_djdk_43_method_13_code_19) rfl k) ?_
  show own_Go p.tables e below RR (s₁.setTop (mkF m 20 #[.val (.ref b1), .val (.ref b2), .val (.int (3 : Int32))] [(.int (3 : Int32)), (.ref b2), (.int (108 : Int32))]))
  obtain ⟨c14, A14, q14, s14, m14, H14, G14⟩ := id AA2
  have b14 := inb_of (j := (3 : Int32)) s14 ⟨by decide, by decide⟩
  refine own_st (fun _ k => X0.baloadBytes hx (j := (3 : Int32)) (v := (.int (108 : Int32))) (by rw [e0]; exact A14.1) (State.isArrayOf_alike hZ.alike A14.2.1) A14.2.2 b14 (Has.at H14 b14 rfl) (g := (mkF m 20 #[.val (.ref b1), .val (.ref b2), .val (.int (3 : Int32))] [(.int (3 : Int32)), (.ref b2), (.int (108 : Int32))])) rfl rfl (hb hby own_djdk_43_method_13_code_20) _ k) ?_
  show own_Go p.tables e below RR (s₁.setTop (mkF m 21 #[.val (.ref b1), .val (.ref b2), .val (.int (3 : Int32))] [(.int (108 : Int32)), (.int (108 : Int32))]))
  refine own_st (fun _ k => XS.icmpYes X0.here hx rfl (pc0 := 21) (pc' := 26) rfl (hb hby own_djdk_43_method_13_code_21) rfl (teq (by decide)).1 (by decide) (by decide) k) ?_
  show own_Go p.tables e below RR (s₁.setTop (mkF m 26 #[.val (.ref b1), .val (.ref b2), .val (.int (3 : Int32))] []))
  refine own_st (fun _ k => XS.iinc X0.here hx rfl (hb hby own_djdk_43_method_13_code_26) rfl (l' := #[.val (.ref b1), .val (.ref b2), .val (.int (4 : Int32))]) rfl k) ?_
  show own_Go p.tables e below RR (s₁.setTop (mkF m 29 #[.val (.ref b1), .val (.ref b2), .val (.int (4 : Int32))] []))
  refine own_st (fun _ k => XS.goto X0.here hx rfl (pc0 := 29) (pc' := 9) rfl (hb hby own_djdk_43_method_13_code_29) (by decide) (by decide) k) ?_
  show own_Go p.tables e below RR (s₁.setTop (mkF m 9 #[.val (.ref b1), .val (.ref b2), .val (.int (4 : Int32))] []))
  refine own_st (fun _ k => XS.iloadN X0.here hx rfl (hb hby own_djdk_43_method_13_code_9) rfl k) ?_
  show own_Go p.tables e below RR (s₁.setTop (mkF m 10 #[.val (.ref b1), .val (.ref b2), .val (.int (4 : Int32))] [(.int (4 : Int32))]))
  refine own_st (fun _ k => XS.aloadN X0.here hx rfl (hb hby own_djdk_43_method_13_code_10) rfl rfl k) ?_
  show own_Go p.tables e below RR (s₁.setTop (mkF m 11 #[.val (.ref b1), .val (.ref b2), .val (.int (4 : Int32))] [(.ref b1), (.int (4 : Int32))]))
  obtain ⟨c15, A15, -, s15, m15, -, -⟩ := id AA1
  refine own_st (fun _ k => own_len X0 hx hZ e0 A15 s15 m15 (g := (mkF m 11 #[.val (.ref b1), .val (.ref b2), .val (.int (4 : Int32))] [(.ref b1), (.int (4 : Int32))])) rfl rfl (hb hby own_djdk_43_method_13_code_11) k) ?_
  show own_Go p.tables e below RR (s₁.setTop (mkF m 12 #[.val (.ref b1), .val (.ref b2), .val (.int (4 : Int32))] [(.int (6 : Int32)), (.int (4 : Int32))]))
  refine own_st (fun _ k => XS.icmpNo X0.here hx rfl (hb hby own_djdk_43_method_13_code_12) rfl (tlt (by decide)).2.1 k) ?_
  show own_Go p.tables e below RR (s₁.setTop (mkF m 15 #[.val (.ref b1), .val (.ref b2), .val (.int (4 : Int32))] []))
  refine own_st (fun _ k => XS.aloadN X0.here hx rfl (hb hby own_djdk_43_method_13_code_15) rfl rfl k) ?_
  show own_Go p.tables e below RR (s₁.setTop (mkF m 16 #[.val (.ref b1), .val (.ref b2), .val (.int (4 : Int32))] [(.ref b1)]))
  refine own_st (fun _ k => XS.iloadN X0.here hx rfl (hb hby own_djdk_43_method_13_code_16) rfl k) ?_
  show own_Go p.tables e below RR (s₁.setTop (mkF m 17 #[.val (.ref b1), .val (.ref b2), .val (.int (4 : Int32))] [(.int (4 : Int32)), (.ref b1)]))
  obtain ⟨c16, A16, q16, s16, m16, H16, G16⟩ := id AA1
  have b16 := inb_of (j := (4 : Int32)) s16 ⟨by decide, by decide⟩
  refine own_st (fun _ k => X0.baloadBytes hx (j := (4 : Int32)) (v := (.int (101 : Int32))) (by rw [e0]; exact A16.1) (State.isArrayOf_alike hZ.alike A16.2.1) A16.2.2 b16 (Has.at H16 b16 rfl) (g := (mkF m 17 #[.val (.ref b1), .val (.ref b2), .val (.int (4 : Int32))] [(.int (4 : Int32)), (.ref b1)])) rfl rfl (hb hby own_djdk_43_method_13_code_17) _ k) ?_
  show own_Go p.tables e below RR (s₁.setTop (mkF m 18 #[.val (.ref b1), .val (.ref b2), .val (.int (4 : Int32))] [(.int (101 : Int32))]))
  refine own_st (fun _ k => XS.aloadN X0.here hx rfl (hb hby own_djdk_43_method_13_code_18) rfl rfl k) ?_
  show own_Go p.tables e below RR (s₁.setTop (mkF m 19 #[.val (.ref b1), .val (.ref b2), .val (.int (4 : Int32))] [(.ref b2), (.int (101 : Int32))]))
  refine own_st (fun _ k => XS.iloadN X0.here hx rfl (hb hby own_djdk_43_method_13_code_19) rfl k) ?_
  show own_Go p.tables e below RR (s₁.setTop (mkF m 20 #[.val (.ref b1), .val (.ref b2), .val (.int (4 : Int32))] [(.int (4 : Int32)), (.ref b2), (.int (101 : Int32))]))
  obtain ⟨c17, A17, q17, s17, m17, H17, G17⟩ := id AA2
  have b17 := inb_of (j := (4 : Int32)) s17 ⟨by decide, by decide⟩
  refine own_st (fun _ k => X0.baloadBytes hx (j := (4 : Int32)) (v := (.int (101 : Int32))) (by rw [e0]; exact A17.1) (State.isArrayOf_alike hZ.alike A17.2.1) A17.2.2 b17 (Has.at H17 b17 rfl) (g := (mkF m 20 #[.val (.ref b1), .val (.ref b2), .val (.int (4 : Int32))] [(.int (4 : Int32)), (.ref b2), (.int (101 : Int32))])) rfl rfl (hb hby own_djdk_43_method_13_code_20) _ k) ?_
  show own_Go p.tables e below RR (s₁.setTop (mkF m 21 #[.val (.ref b1), .val (.ref b2), .val (.int (4 : Int32))] [(.int (101 : Int32)), (.int (101 : Int32))]))
  refine own_st (fun _ k => XS.icmpYes X0.here hx rfl (pc0 := 21) (pc' := 26) rfl (hb hby own_djdk_43_method_13_code_21) rfl (teq (by decide)).1 (by decide) (by decide) k) ?_
  show own_Go p.tables e below RR (s₁.setTop (mkF m 26 #[.val (.ref b1), .val (.ref b2), .val (.int (4 : Int32))] []))
  refine own_st (fun _ k => XS.iinc X0.here hx rfl (hb hby own_djdk_43_method_13_code_26) rfl (l' := #[.val (.ref b1), .val (.ref b2), .val (.int (5 : Int32))]) rfl k) ?_
  show own_Go p.tables e below RR (s₁.setTop (mkF m 29 #[.val (.ref b1), .val (.ref b2), .val (.int (5 : Int32))] []))
  refine own_st (fun _ k => XS.goto X0.here hx rfl (pc0 := 29) (pc' := 9) rfl (hb hby own_djdk_43_method_13_code_29) (by decide) (by decide) k) ?_
  show own_Go p.tables e below RR (s₁.setTop (mkF m 9 #[.val (.ref b1), .val (.ref b2), .val (.int (5 : Int32))] []))
  refine own_st (fun _ k => XS.iloadN X0.here hx rfl (hb hby own_djdk_43_method_13_code_9) rfl k) ?_
  show own_Go p.tables e below RR (s₁.setTop (mkF m 10 #[.val (.ref b1), .val (.ref b2), .val (.int (5 : Int32))] [(.int (5 : Int32))]))
  refine own_st (fun _ k => XS.aloadN X0.here hx rfl (hb hby own_djdk_43_method_13_code_10) rfl rfl k) ?_
  show own_Go p.tables e below RR (s₁.setTop (mkF m 11 #[.val (.ref b1), .val (.ref b2), .val (.int (5 : Int32))] [(.ref b1), (.int (5 : Int32))]))
  obtain ⟨c18, A18, -, s18, m18, -, -⟩ := id AA1
  refine own_st (fun _ k => own_len X0 hx hZ e0 A18 s18 m18 (g := (mkF m 11 #[.val (.ref b1), .val (.ref b2), .val (.int (5 : Int32))] [(.ref b1), (.int (5 : Int32))])) rfl rfl (hb hby own_djdk_43_method_13_code_11) k) ?_
  show own_Go p.tables e below RR (s₁.setTop (mkF m 12 #[.val (.ref b1), .val (.ref b2), .val (.int (5 : Int32))] [(.int (6 : Int32)), (.int (5 : Int32))]))
  refine own_st (fun _ k => XS.icmpNo X0.here hx rfl (hb hby own_djdk_43_method_13_code_12) rfl (tlt (by decide)).2.1 k) ?_
  show own_Go p.tables e below RR (s₁.setTop (mkF m 15 #[.val (.ref b1), .val (.ref b2), .val (.int (5 : Int32))] []))
  refine own_st (fun _ k => XS.aloadN X0.here hx rfl (hb hby own_djdk_43_method_13_code_15) rfl rfl k) ?_
  show own_Go p.tables e below RR (s₁.setTop (mkF m 16 #[.val (.ref b1), .val (.ref b2), .val (.int (5 : Int32))] [(.ref b1)]))
  refine own_st (fun _ k => XS.iloadN X0.here hx rfl (hb hby own_djdk_43_method_13_code_16) rfl k) ?_
  show own_Go p.tables e below RR (s₁.setTop (mkF m 17 #[.val (.ref b1), .val (.ref b2), .val (.int (5 : Int32))] [(.int (5 : Int32)), (.ref b1)]))
  obtain ⟨c19, A19, q19, s19, m19, H19, G19⟩ := id AA1
  have b19 := inb_of (j := (5 : Int32)) s19 ⟨by decide, by decide⟩
  refine own_st (fun _ k => X0.baloadBytes hx (j := (5 : Int32)) (v := (.int (100 : Int32))) (by rw [e0]; exact A19.1) (State.isArrayOf_alike hZ.alike A19.2.1) A19.2.2 b19 (Has.at H19 b19 rfl) (g := (mkF m 17 #[.val (.ref b1), .val (.ref b2), .val (.int (5 : Int32))] [(.int (5 : Int32)), (.ref b1)])) rfl rfl (hb hby own_djdk_43_method_13_code_17) _ k) ?_
  show own_Go p.tables e below RR (s₁.setTop (mkF m 18 #[.val (.ref b1), .val (.ref b2), .val (.int (5 : Int32))] [(.int (100 : Int32))]))
  refine own_st (fun _ k => XS.aloadN X0.here hx rfl (hb hby own_djdk_43_method_13_code_18) rfl rfl k) ?_
  show own_Go p.tables e below RR (s₁.setTop (mkF m 19 #[.val (.ref b1), .val (.ref b2), .val (.int (5 : Int32))] [(.ref b2), (.int (100 : Int32))]))
  refine own_st (fun _ k => XS.iloadN X0.here hx rfl (hb hby own_djdk_43_method_13_code_19) rfl k) ?_
  show own_Go p.tables e below RR (s₁.setTop (mkF m 20 #[.val (.ref b1), .val (.ref b2), .val (.int (5 : Int32))] [(.int (5 : Int32)), (.ref b2), (.int (100 : Int32))]))
  obtain ⟨c20, A20, q20, s20, m20, H20, G20⟩ := id AA2
  have b20 := inb_of (j := (5 : Int32)) s20 ⟨by decide, by decide⟩
  refine own_st (fun _ k => X0.baloadBytes hx (j := (5 : Int32)) (v := (.int (100 : Int32))) (by rw [e0]; exact A20.1) (State.isArrayOf_alike hZ.alike A20.2.1) A20.2.2 b20 (Has.at H20 b20 rfl) (g := (mkF m 20 #[.val (.ref b1), .val (.ref b2), .val (.int (5 : Int32))] [(.int (5 : Int32)), (.ref b2), (.int (100 : Int32))])) rfl rfl (hb hby own_djdk_43_method_13_code_20) _ k) ?_
  show own_Go p.tables e below RR (s₁.setTop (mkF m 21 #[.val (.ref b1), .val (.ref b2), .val (.int (5 : Int32))] [(.int (100 : Int32)), (.int (100 : Int32))]))
  refine own_st (fun _ k => XS.icmpYes X0.here hx rfl (pc0 := 21) (pc' := 26) rfl (hb hby own_djdk_43_method_13_code_21) rfl (teq (by decide)).1 (by decide) (by decide) k) ?_
  show own_Go p.tables e below RR (s₁.setTop (mkF m 26 #[.val (.ref b1), .val (.ref b2), .val (.int (5 : Int32))] []))
  refine own_st (fun _ k => XS.iinc X0.here hx rfl (hb hby own_djdk_43_method_13_code_26) rfl (l' := #[.val (.ref b1), .val (.ref b2), .val (.int (6 : Int32))]) rfl k) ?_
  show own_Go p.tables e below RR (s₁.setTop (mkF m 29 #[.val (.ref b1), .val (.ref b2), .val (.int (6 : Int32))] []))
  refine own_st (fun _ k => XS.goto X0.here hx rfl (pc0 := 29) (pc' := 9) rfl (hb hby own_djdk_43_method_13_code_29) (by decide) (by decide) k) ?_
  show own_Go p.tables e below RR (s₁.setTop (mkF m 9 #[.val (.ref b1), .val (.ref b2), .val (.int (6 : Int32))] []))
  refine own_st (fun _ k => XS.iloadN X0.here hx rfl (hb hby own_djdk_43_method_13_code_9) rfl k) ?_
  show own_Go p.tables e below RR (s₁.setTop (mkF m 10 #[.val (.ref b1), .val (.ref b2), .val (.int (6 : Int32))] [(.int (6 : Int32))]))
  refine own_st (fun _ k => XS.aloadN X0.here hx rfl (hb hby own_djdk_43_method_13_code_10) rfl rfl k) ?_
  show own_Go p.tables e below RR (s₁.setTop (mkF m 11 #[.val (.ref b1), .val (.ref b2), .val (.int (6 : Int32))] [(.ref b1), (.int (6 : Int32))]))
  obtain ⟨c21, A21, -, s21, m21, -, -⟩ := id AA1
  refine own_st (fun _ k => own_len X0 hx hZ e0 A21 s21 m21 (g := (mkF m 11 #[.val (.ref b1), .val (.ref b2), .val (.int (6 : Int32))] [(.ref b1), (.int (6 : Int32))])) rfl rfl (hb hby own_djdk_43_method_13_code_11) k) ?_
  show own_Go p.tables e below RR (s₁.setTop (mkF m 12 #[.val (.ref b1), .val (.ref b2), .val (.int (6 : Int32))] [(.int (6 : Int32)), (.int (6 : Int32))]))
  refine own_st (fun _ k => XS.icmpYes X0.here hx rfl (pc0 := 12) (pc' := 32) rfl (hb hby own_djdk_43_method_13_code_12) rfl (flt (by decide)).2.1 (by decide) (by decide) k) ?_
  show own_Go p.tables e below RR (s₁.setTop (mkF m 32 #[.val (.ref b1), .val (.ref b2), .val (.int (6 : Int32))] []))
  refine own_st (fun _ k => XS.iconst X0.here hx rfl (hb hby own_djdk_43_method_13_code_32) k) ?_
  show own_Go p.tables e below RR (s₁.setTop (mkF m 33 #[.val (.ref b1), .val (.ref b2), .val (.int (6 : Int32))] [(.int (1 : Int32))]))
  obtain ⟨fs, hrt_, hrun, hended, hW, hsame⟩ := X0.leave (v := some (.int (1 : Int32))) (fun h => by rw [Bd.returns] at h; cases h)
  refine own_fin (retN X0 hx (t := .boolean) Bd.returns (by simp) (hb hby own_djdk_43_method_13_code_33) hrt_) (hRR _ ⟨_, hrun, hended, _, _, rfl, ?_, ⟨_, rfl⟩, hW, hsame.mono (by decide) (by decide)⟩)
  show own_QLE6 Z b1 b2 k1 k2 h0 n0 _ s₁.heap _
  rw [e0]
  exact ⟨rfl, N0, rfl⟩
theorem own_efEQ6 (m : MethodId) (o1 : Addr) (o2 : Addr) : entryFrame m #[(.ref o1), (.ref o2)] 3 = mkF m 0 #[.val (.ref o1), .val (.ref o2), .unset] [] := by first | (simp [entryFrame, mkF, argsToLocals, Value.category]; done) | rfl
def own_QEQ6 (Z : State) (o1 : Addr) (o2 : Addr) (b1 : Addr) (b2 : Addr) (k1 : ClassId) (k2 : ClassId) (cs : Int32) (h0 : Heap) (n0 : Nat) (rv__ : Option Value) (h : Heap) (rL__ : List Loc) : Prop := rv__ = some (.int (1 : Int32)) ∧ Fr n0 rL__ ∧ h = h0
abbrev own_REQ6 : Room := { frames := 1, cells := 0, slots := 0, locals := 14 }
set_option maxRecDepth 65536 in
set_option maxHeartbeats 40000000 in
theorem own_rmEQ6 (l : Launch) (Z : State) (a0 : Array Value) (hw : ∀ d ∈ tables_1, d.before a0 Z = true) (ws : List Jvm.Cond) (o1 : Addr) (o2 : Addr) (b1 : Addr) (b2 : Addr) (k1 : ClassId) (k2 : ClassId) (cs : Int32) (h0 : Heap) (n0 : Nat) (Z0 : n0 ≤ h0.size) (E2 : Exa Z h0 o2 "java/lang/String") (C1 : Fld Z h0 o1 "java/lang/String" "coder" "B" (.int (0 : Int32))) (C2 : Fld Z h0 o2 "java/lang/String" "coder" "B" (.int (0 : Int32))) (V1 : Fld Z h0 o1 "java/lang/String" "value" "[B" (.ref b1)) (V2 : Fld Z h0 o2 "java/lang/String" "value" "[B" (.ref b2)) (AA1 : Arv Z h0 b1 k1 .byte (6 : Int32) [(.int (102 : Int32)), (.int (97 : Int32)), (.int (105 : Int32)), (.int (108 : Int32)), (.int (101 : Int32)), (.int (100 : Int32))] (.int (0 : Int32))) (AA2 : Arv Z h0 b2 k2 .byte (6 : Int32) [(.int (102 : Int32)), (.int (97 : Int32)), (.int (105 : Int32)), (.int (108 : Int32)), (.int (101 : Int32)), (.int (100 : Int32))] (.int (0 : Int32))) (S0 : Sta Z h0 "java/lang/String" "COMPACT_STRINGS" "Z" (.int cs)) (hcs : ¬ cs = (0 : Int32)) :
    MetFree l (⟨"java/lang/String", "equals", "(Ljava/lang/Object;)Z"⟩ : MethodName) (head1 (Jvm.Cond.code (⟨"java/lang/String", "equals", "(Ljava/lang/Object;)Z"⟩ : MethodName) jdk_42_method_66_code 3 (some .boolean) :: ws) own_REQ6) (fun aa__ U => aa__ = #[(.ref o1), (.ref o2)] ∧ Z.Warmed39 U.vm ∧ U.heap = h0) (fun _ _ _ _ _ => True) (fun _ U oc_ U' => ∃ rv__ rL__, oc_ = .returned rv__ ∧ own_QEQ6 Z o1 o2 b1 b2 k1 k2 cs h0 n0 rv__ U'.heap rL__ ∧ FrameEnd U oc_ U' rL__ own_REQ6.cells own_REQ6.slots) := by
  refine MetFree.of_bodySF (plainFor_of_name own_pn_java_lang_String) hisR ?_
  intro p e s m args below meth c s₁ Bd hml0 hP hK
  obtain ⟨rfl, hZ, hh⟩ := hP
  have hx := Bd.exec
  have hby := Bd.bytes
  have hml : c.maxLocals = 3 := hml0
  have hown : s.vm.findClass "java/lang/String" = some m.cls := findClass_of_methodNamed Bd.named
  have hnm := (name_of_methodNamed Bd.named Bd.method).1
  have X0 : Stand p l e own_REQ6 s m #[(.ref o1), (.ref o2)] below meth c s₁ [] 0 0 := Stand.of_body Bd
  have e0 : s₁.heap = h0 := by rw [← hh, Bd.state]; rfl
  have N0 := Fr.nil n0
  refine own_in (fun _ k => castTop (own_efEQ6 m o1 o2) k) ?_
  intro RR hRR
  show own_Go p.tables e below RR (s₁.setTop (mkF m 0 #[.val (.ref o1), .val (.ref o2), .unset] []))
  refine own_st (fun _ k => XS.aloadN X0.here hx rfl (hb hby own_djdk_42_method_66_code_0) rfl rfl k) ?_
  show own_Go p.tables e below RR (s₁.setTop (mkF m 1 #[.val (.ref o1), .val (.ref o2), .unset] [(.ref o1)]))
  refine own_st (fun _ k => XS.aloadN X0.here hx rfl (hb hby own_djdk_42_method_66_code_1) rfl rfl k) ?_
  show own_Go p.tables e below RR (s₁.setTop (mkF m 2 #[.val (.ref o1), .val (.ref o2), .unset] [(.ref o2), (.ref o1)]))
  by_cases hc2_1 : o1 = o2
  · refine own_st (fun _ k => Jvm.RoadKit.acmp (g := (mkF m 2 #[.val (.ref o1), .val (.ref o2), .unset] [(.ref o2), (.ref o1)])) X0 hx rfl rfl rfl (pc0 := 2) (pc' := 5) (same := true) rfl (hb hby own_djdk_42_method_66_code_2) rfl (decide_eq_true (congrArg Value.ref hc2_1)) (by decide) (by decide) k) ?_
    show own_Go p.tables e below RR (s₁.setTop (mkF m 5 #[.val (.ref o1), .val (.ref o2), .unset] []))
    refine own_st (fun _ k => XS.iconst X0.here hx rfl (hb hby own_djdk_42_method_66_code_5) k) ?_
    show own_Go p.tables e below RR (s₁.setTop (mkF m 6 #[.val (.ref o1), .val (.ref o2), .unset] [(.int (1 : Int32))]))
    obtain ⟨fs, hrt_, hrun, hended, hW, hsame⟩ := X0.leave (v := some (.int (1 : Int32))) (fun h => by rw [Bd.returns] at h; cases h)
    refine own_fin (retN X0 hx (t := .boolean) Bd.returns (by simp) (hb hby own_djdk_42_method_66_code_6) hrt_) (hRR _ ⟨_, hrun, hended, _, _, rfl, ?_, ⟨_, rfl⟩, hW, hsame.mono (by decide) (by decide)⟩)
    show own_QEQ6 Z o1 o2 b1 b2 k1 k2 cs h0 n0 _ s₁.heap _
    rw [e0]
    exact ⟨rfl, N0, rfl⟩
  · refine own_st (fun _ k => Jvm.RoadKit.acmp (g := (mkF m 2 #[.val (.ref o1), .val (.ref o2), .unset] [(.ref o2), (.ref o1)])) X0 hx rfl rfl rfl (pc0 := 2) (pc' := 7) (same := false) rfl (hb hby own_djdk_42_method_66_code_2) rfl (decide_eq_false fun q => hc2_1 (Value.ref.inj q)) (by decide) (by decide) k) ?_
    show own_Go p.tables e below RR (s₁.setTop (mkF m 7 #[.val (.ref o1), .val (.ref o2), .unset] []))
    refine own_st (fun _ k => XS.aloadN X0.here hx rfl (hb hby own_djdk_42_method_66_code_7) rfl rfl k) ?_
    show own_Go p.tables e below RR (s₁.setTop (mkF m 8 #[.val (.ref o1), .val (.ref o2), .unset] [(.ref o2)]))
    obtain ⟨T2, X2, e2, st2⟩ := instY X0 hx hZ hown (hw _ (List.mem_of_getElem? (i := 39) rfl)) e0 (Ins.self E2) (g := (mkF m 8 #[.val (.ref o1), .val (.ref o2), .unset] [(.ref o2)])) rfl rfl (hb hby own_djdk_42_method_66_code_8)
    refine own_st st2 ?_
    show own_Go p.tables e below RR (T2.setTop (mkF m 11 #[.val (.ref o1), .val (.ref o2), .unset] [(.int (1 : Int32))]))
    refine own_st (fun _ k => XS.ifNo X2.here hx rfl (hb hby own_djdk_42_method_66_code_11) rfl ((if0 _ _).trans (feq (by decide)).1) k) ?_
    show own_Go p.tables e below RR (T2.setTop (mkF m 14 #[.val (.ref o1), .val (.ref o2), .unset] []))
    refine own_st (fun _ k => XS.aloadN X2.here hx rfl (hb hby own_djdk_42_method_66_code_14) rfl rfl k) ?_
    show own_Go p.tables e below RR (T2.setTop (mkF m 15 #[.val (.ref o1), .val (.ref o2), .unset] [(.ref o2)]))
    obtain ⟨T3, X3, e3, st3⟩ := castY X2 hx hZ hown (hw _ (List.mem_of_getElem? (i := 39) rfl)) e2 (Ins.self E2) (g := (mkF m 15 #[.val (.ref o1), .val (.ref o2), .unset] [(.ref o2)])) rfl rfl (hb hby own_djdk_42_method_66_code_15)
    refine own_st st3 ?_
    show own_Go p.tables e below RR (T3.setTop (mkF m 18 #[.val (.ref o1), .val (.ref o2), .unset] [(.ref o2)]))
    refine own_st (fun _ k => XS.astoreN X3.here hx rfl (hb hby own_djdk_42_method_66_code_18) rfl rfl (l' := #[.val (.ref o1), .val (.ref o2), .val (.ref o2)]) rfl k) ?_
    show own_Go p.tables e below RR (T3.setTop (mkF m 19 #[.val (.ref o1), .val (.ref o2), .val (.ref o2)] []))
    obtain ⟨T4, X4, e4, st4⟩ := getS2 X3 hx hZ hown (host := "") (Or.inl (hw _ (List.mem_of_getElem? (i := 41) rfl))) Via.refl e3 S0 (g := (mkF m 19 #[.val (.ref o1), .val (.ref o2), .val (.ref o2)] [])) rfl (hb hby own_djdk_42_method_66_code_19)
    refine own_st st4 ?_
    show own_Go p.tables e below RR (T4.setTop (mkF m 22 #[.val (.ref o1), .val (.ref o2), .val (.ref o2)] [(.int cs)]))
    have hc22_5 : ¬ (cs = (0 : Int32)) := hcs
    refine own_st (fun _ k => XS.ifNo X4.here hx rfl (hb hby own_djdk_42_method_66_code_22) rfl ((if0 _ _).trans (feq hc22_5).1) k) ?_
    show own_Go p.tables e below RR (T4.setTop (mkF m 25 #[.val (.ref o1), .val (.ref o2), .val (.ref o2)] []))
    refine own_st (fun _ k => XS.aloadN X4.here hx rfl (hb hby own_djdk_42_method_66_code_25) rfl rfl k) ?_
    show own_Go p.tables e below RR (T4.setTop (mkF m 26 #[.val (.ref o1), .val (.ref o2), .val (.ref o2)] [(.ref o1)]))
    obtain ⟨T6, X6, e6, st6⟩ := getF X4 hx hZ hown (host := "") (Or.inl (hw _ (List.mem_of_getElem? (i := 42) rfl))) Via.refl e4 C1 (g := (mkF m 26 #[.val (.ref o1), .val (.ref o2), .val (.ref o2)] [(.ref o1)])) rfl rfl (hb hby own_djdk_42_method_66_code_26)
    refine own_st st6 ?_
    show own_Go p.tables e below RR (T6.setTop (mkF m 29 #[.val (.ref o1), .val (.ref o2), .val (.ref o2)] [(.int (0 : Int32))]))
    refine own_st (fun _ k => XS.aloadN X6.here hx rfl (hb hby own_djdk_42_method_66_code_29) rfl rfl k) ?_
    show own_Go p.tables e below RR (T6.setTop (mkF m 30 #[.val (.ref o1), .val (.ref o2), .val (.ref o2)] [(.ref o2), (.int (0 : Int32))]))
    obtain ⟨T7, X7, e7, st7⟩ := getF X6 hx hZ hown (host := "") (Or.inl (hw _ (List.mem_of_getElem? (i := 42) rfl))) Via.refl e6 C2 (g := (mkF m 30 #[.val (.ref o1), .val (.ref o2), .val (.ref o2)] [(.ref o2), (.int (0 : Int32))])) rfl rfl (hb hby own_djdk_42_method_66_code_30)
    refine own_st st7 ?_
    show own_Go p.tables e below RR (T7.setTop (mkF m 33 #[.val (.ref o1), .val (.ref o2), .val (.ref o2)] [(.int (0 : Int32)), (.int (0 : Int32))]))
    refine own_st (fun _ k => XS.icmpNo X7.here hx rfl (hb hby own_djdk_42_method_66_code_33) rfl (teq (by decide)).2 k) ?_
    show own_Go p.tables e below RR (T7.setTop (mkF m 36 #[.val (.ref o1), .val (.ref o2), .val (.ref o2)] []))
    refine own_st (fun _ k => XS.aloadN X7.here hx rfl (hb hby own_djdk_42_method_66_code_36) rfl rfl k) ?_
    show own_Go p.tables e below RR (T7.setTop (mkF m 37 #[.val (.ref o1), .val (.ref o2), .val (.ref o2)] [(.ref o1)]))
    obtain ⟨T8, X8, e8, st8⟩ := getF X7 hx hZ hown (host := "") (Or.inl (hw _ (List.mem_of_getElem? (i := 43) rfl))) Via.refl e7 V1 (g := (mkF m 37 #[.val (.ref o1), .val (.ref o2), .val (.ref o2)] [(.ref o1)])) rfl rfl (hb hby own_djdk_42_method_66_code_37)
    refine own_st st8 ?_
    show own_Go p.tables e below RR (T8.setTop (mkF m 40 #[.val (.ref o1), .val (.ref o2), .val (.ref o2)] [(.ref b1)]))
    refine own_st (fun _ k => XS.aloadN X8.here hx rfl (hb hby own_djdk_42_method_66_code_40) rfl rfl k) ?_
    show own_Go p.tables e below RR (T8.setTop (mkF m 41 #[.val (.ref o1), .val (.ref o2), .val (.ref o2)] [(.ref o2), (.ref b1)]))
    obtain ⟨T9, X9, e9, st9⟩ := getF X8 hx hZ hown (host := "") (Or.inl (hw _ (List.mem_of_getElem? (i := 43) rfl))) Via.refl e8 V2 (g := (mkF m 41 #[.val (.ref o1), .val (.ref o2), .val (.ref o2)] [(.ref o2), (.ref b1)])) rfl rfl (hb hby own_djdk_42_method_66_code_41)
    refine own_st st9 ?_
    show own_Go p.tables e below RR (T9.setTop (mkF m 44 #[.val (.ref o1), .val (.ref o2), .val (.ref o2)] [(.ref b2), (.ref b1)]))
    obtain ⟨_, _, ⟨T10, L10, k10, n10⟩, -, X10, ⟨Lc10, hQ10, l10, y10, z10⟩, st10⟩ := Jvm.LawKit.callS X9 hx (y := (⟨"java/lang/StringLatin1", "equals", "([B[B)Z"⟩ : MethodName)) hown (mvT hZ (hw _ (List.mem_of_getElem? (i := 44) rfl))) (mvT hZ (hw _ (List.mem_of_getElem? (i := 45) rfl))) (mvT hZ (hw _ (List.mem_of_getElem? (i := 46) rfl))) (mvT hZ (hw _ (List.mem_of_getElem? (i := 47) rfl))) (by decide) (backOf (W := 0) (own_rmLE6 l Z a0 hw [] b1 b2 k1 k2 h0 n0 Z0 AA1 AA2) hZ (hw _ (List.mem_of_getElem? (i := 47) rfl)) (hw _ (List.mem_of_getElem? (i := 46) rfl)) (by decide) (by decide)) (g := (mkF m 44 #[.val (.ref o1), .val (.ref o2), .val (.ref o2)] [(.ref b2), (.ref b1)])) rfl (by rw [hml]; rfl) (argsL := [(.ref b1), (.ref b2)]) (rest := []) (lenOf own_pd___B_B_Z rfl) rfl (by show 2 * 0 + _ ≤ _; exact Nat.le_of_eq rfl) (hb hby own_djdk_42_method_66_code_44) (fun _ _ => ⟨rfl, e9, (by decide : 0 + 0 ≤ _), (by decide : 0 + 0 ≤ _)⟩)
    dsimp only [Pt.U, Pt.locs, Pt.cells, Pt.slots] at X10 l10 y10 z10 st10 hQ10
    subst l10 y10 z10
    obtain ⟨rfl, Nq10, eq10⟩ := hQ10
    have N10 := Fr.app N0 Nq10
    refine own_st st10 ?_
    show own_Go p.tables e below RR (T10.setTop (mkF m 47 #[.val (.ref o1), .val (.ref o2), .val (.ref o2)] [(.int (1 : Int32))]))
    refine own_st (fun _ k => XS.ifNo X10.here hx rfl (hb hby own_djdk_42_method_66_code_47) rfl ((if0 _ _).trans (feq (by decide)).1) k) ?_
    show own_Go p.tables e below RR (T10.setTop (mkF m 50 #[.val (.ref o1), .val (.ref o2), .val (.ref o2)] []))
    refine own_st (fun _ k => XS.iconst X10.here hx rfl (hb hby own_djdk_42_method_66_code_50) k) ?_
    show own_Go p.tables e below RR (T10.setTop (mkF m 51 #[.val (.ref o1), .val (.ref o2), .val (.ref o2)] [(.int (1 : Int32))]))
    refine own_st (fun _ k => XS.goto X10.here hx rfl (pc0 := 51) (pc' := 55) rfl (hb hby own_djdk_42_method_66_code_51) (by decide) (by decide) k) ?_
    show own_Go p.tables e below RR (T10.setTop (mkF m 55 #[.val (.ref o1), .val (.ref o2), .val (.ref o2)] [(.int (1 : Int32))]))
    obtain ⟨fs, hrt_, hrun, hended, hW, hsame⟩ := X10.leave (v := some (.int (1 : Int32))) (fun h => by rw [Bd.returns] at h; cases h)
    refine own_fin (retN X10 hx (t := .boolean) Bd.returns (by simp) (hb hby own_djdk_42_method_66_code_55) hrt_) (hRR _ ⟨_, hrun, hended, _, _, rfl, ?_, ⟨_, rfl⟩, hW, hsame.mono (by decide) (by decide)⟩)
    show own_QEQ6 Z o1 o2 b1 b2 k1 k2 cs h0 n0 _ T10.heap _
    rw [eq10]
    exact ⟨rfl, N10, rfl⟩
theorem own_pd__I_Lcom_example_unstor_unstor_JobStatus_ : parseMethodDescriptor "(I)Lcom/example/unstor/unstor/JobStatus;" = some ⟨[.int], some (.object "com/example/unstor/unstor/JobStatus")⟩ := by decide +kernel
theorem own_pd___Z : parseMethodDescriptor "()Z" = some ⟨[], some .boolean⟩ := by decide +kernel
theorem own_pd__I_Z : parseMethodDescriptor "(I)Z" = some ⟨[.int], some .boolean⟩ := by decide +kernel
theorem own_pd___Ljava_lang_String_ : parseMethodDescriptor "()Ljava/lang/String;" = some ⟨[], some (.object "java/lang/String")⟩ := by decide +kernel
theorem own_pd__Ljava_lang_Object__Z : parseMethodDescriptor "(Ljava/lang/Object;)Z" = some ⟨[(.object "java/lang/Object")], some .boolean⟩ := by decide +kernel
theorem own_ef0 (m : MethodId) (p1 : Int32) : entryFrame m #[(.int p1)] maxLocals = mkF m 0 #[.val (.int p1), .unset, .unset, .unset, .unset, .unset] [] := by first | (simp [entryFrame, mkF, argsToLocals, Value.category, maxLocals]; done) | rfl
def own_Q0 (Z : State) (p1 : Int32) (a_NEW : Addr) (a_COMPLETED : Addr) (a_ERROR : Addr) (a_PROCESSING : Addr) (s_NEW : Addr) (b_NEW : Addr) (kb_NEW : ClassId) (s_PROCESSING : Addr) (b_PROCESSING : Addr) (kb_PROCESSING : ClassId) (s_COMPLETED : Addr) (b_COMPLETED : Addr) (kb_COMPLETED : ClassId) (s_ERROR : Addr) (b_ERROR : Addr) (kb_ERROR : ClassId) (cs : Int32) (h0 : Heap) (n0 : Nat) (rv__ : Option Value) (h : Heap) (rL__ : List Loc) : Prop := rv__ = some (.int 1) ∧ Fr n0 rL__
set_option maxRecDepth 65536 in
set_option maxHeartbeats 40000000 in
theorem own_rm0 (l : Launch) (Z : State) (a0 : Array Value) (hw : ∀ d ∈ tables_1, d.before a0 Z = true) (ws : List Jvm.Cond) (p1 : Int32) (a_NEW : Addr) (a_COMPLETED : Addr) (a_ERROR : Addr) (a_PROCESSING : Addr) (s_NEW : Addr) (b_NEW : Addr) (kb_NEW : ClassId) (s_PROCESSING : Addr) (b_PROCESSING : Addr) (kb_PROCESSING : ClassId) (s_COMPLETED : Addr) (b_COMPLETED : Addr) (kb_COMPLETED : ClassId) (s_ERROR : Addr) (b_ERROR : Addr) (kb_ERROR : ClassId) (cs : Int32) (h0 : Heap) (n0 : Nat) (Z0 : n0 ≤ h0.size) (E_NEW : Exa Z h0 a_NEW "com/example/unstor/unstor/JobStatus") (S_NEW : Sta Z h0 "com/example/unstor/unstor/JobStatus" "NEW" "Lcom/example/unstor/unstor/JobStatus;" (.ref a_NEW)) (E_COMPLETED : Exa Z h0 a_COMPLETED "com/example/unstor/unstor/JobStatus") (S_COMPLETED : Sta Z h0 "com/example/unstor/unstor/JobStatus" "COMPLETED" "Lcom/example/unstor/unstor/JobStatus;" (.ref a_COMPLETED)) (F_NEW_ordinal : Fld Z h0 a_NEW "java/lang/Enum" "ordinal" "I" (.int (0 : Int32))) (F_COMPLETED_ordinal : Fld Z h0 a_COMPLETED "java/lang/Enum" "ordinal" "I" (.int (2 : Int32))) (E_ERROR : Exa Z h0 a_ERROR "com/example/unstor/unstor/JobStatus") (S_ERROR : Sta Z h0 "com/example/unstor/unstor/JobStatus" "ERROR" "Lcom/example/unstor/unstor/JobStatus;" (.ref a_ERROR)) (F_ERROR_ordinal : Fld Z h0 a_ERROR "java/lang/Enum" "ordinal" "I" (.int (3 : Int32))) (E_PROCESSING : Exa Z h0 a_PROCESSING "com/example/unstor/unstor/JobStatus") (S_PROCESSING : Sta Z h0 "com/example/unstor/unstor/JobStatus" "PROCESSING" "Lcom/example/unstor/unstor/JobStatus;" (.ref a_PROCESSING)) (F_PROCESSING_ordinal : Fld Z h0 a_PROCESSING "java/lang/Enum" "ordinal" "I" (.int (1 : Int32))) (Es_NEW : Exa Z h0 s_NEW "java/lang/String") (Fs_NEW : Fld Z h0 a_NEW "com/example/unstor/unstor/JobStatus" "workOrderName" "Ljava/lang/String;" (.ref s_NEW)) (Fc_NEW : Fld Z h0 s_NEW "java/lang/String" "coder" "B" (.int (0 : Int32))) (Fv_NEW : Fld Z h0 s_NEW "java/lang/String" "value" "[B" (.ref b_NEW)) (V_NEW : Arv Z h0 b_NEW kb_NEW .byte (8 : Int32) [(.int (114 : Int32)), (.int (101 : Int32)), (.int (99 : Int32)), (.int (101 : Int32)), (.int (105 : Int32)), (.int (118 : Int32)), (.int (101 : Int32)), (.int (100 : Int32))] (.int (0 : Int32))) (Es_PROCESSING : Exa Z h0 s_PROCESSING "java/lang/String") (Fs_PROCESSING : Fld Z h0 a_PROCESSING "com/example/unstor/unstor/JobStatus" "workOrderName" "Ljava/lang/String;" (.ref s_PROCESSING)) (Fc_PROCESSING : Fld Z h0 s_PROCESSING "java/lang/String" "coder" "B" (.int (0 : Int32))) (Fv_PROCESSING : Fld Z h0 s_PROCESSING "java/lang/String" "value" "[B" (.ref b_PROCESSING)) (V_PROCESSING : Arv Z h0 b_PROCESSING kb_PROCESSING .byte (8 : Int32) [(.int (105 : Int32)), (.int (110 : Int32)), (.int (103 : Int32)), (.int (101 : Int32)), (.int (115 : Int32)), (.int (116 : Int32)), (.int (101 : Int32)), (.int (100 : Int32))] (.int (0 : Int32))) (Es_COMPLETED : Exa Z h0 s_COMPLETED "java/lang/String") (Fs_COMPLETED : Fld Z h0 a_COMPLETED "com/example/unstor/unstor/JobStatus" "workOrderName" "Ljava/lang/String;" (.ref s_COMPLETED)) (Fc_COMPLETED : Fld Z h0 s_COMPLETED "java/lang/String" "coder" "B" (.int (0 : Int32))) (Fv_COMPLETED : Fld Z h0 s_COMPLETED "java/lang/String" "value" "[B" (.ref b_COMPLETED)) (V_COMPLETED : Arv Z h0 b_COMPLETED kb_COMPLETED .byte (9 : Int32) [(.int (99 : Int32)), (.int (111 : Int32)), (.int (109 : Int32)), (.int (112 : Int32)), (.int (108 : Int32)), (.int (101 : Int32)), (.int (116 : Int32)), (.int (101 : Int32)), (.int (100 : Int32))] (.int (0 : Int32))) (Es_ERROR : Exa Z h0 s_ERROR "java/lang/String") (Fs_ERROR : Fld Z h0 a_ERROR "com/example/unstor/unstor/JobStatus" "workOrderName" "Ljava/lang/String;" (.ref s_ERROR)) (Fc_ERROR : Fld Z h0 s_ERROR "java/lang/String" "coder" "B" (.int (0 : Int32))) (Fv_ERROR : Fld Z h0 s_ERROR "java/lang/String" "value" "[B" (.ref b_ERROR)) (V_ERROR : Arv Z h0 b_ERROR kb_ERROR .byte (6 : Int32) [(.int (102 : Int32)), (.int (97 : Int32)), (.int (105 : Int32)), (.int (108 : Int32)), (.int (101 : Int32)), (.int (100 : Int32))] (.int (0 : Int32))) (S0 : Sta Z h0 "java/lang/String" "COMPACT_STRINGS" "Z" (.int cs)) (hcs : ¬ cs = (0 : Int32)) (hcw : Jvm.Lit.compactW.before a0 Z = true) (hcon40 : Jvm.Lit.constHeld Z "com/example/unstor/unstor/JobStatusIsFinishedPinLaw" 40) (hcon48 : Jvm.Lit.constHeld Z "com/example/unstor/unstor/JobStatusIsFinishedPinLaw" 48) :
    MetFree l x (head1 (Jvm.Cond.code x code maxLocals ret :: ws) room_1) (fun aa__ U => aa__ = #[(.int p1)] ∧ U = Z ∧ U.heap = h0 ∧ U.heap.size = n0) (fun _ _ _ _ _ => True) (fun _ U oc_ U' => ∃ rv__ rL__, oc_ = .returned rv__ ∧ own_Q0 Z p1 a_NEW a_COMPLETED a_ERROR a_PROCESSING s_NEW b_NEW kb_NEW s_PROCESSING b_PROCESSING kb_PROCESSING s_COMPLETED b_COMPLETED kb_COMPLETED s_ERROR b_ERROR kb_ERROR cs h0 n0 rv__ U'.heap rL__ ∧ ReturnedEndW U oc_ U' rL__ room_1.cells room_1.slots) := by
  refine MetFree.of_bodySF (plainFor_of_name own_pn_com_example_unstor_unstor_JobStatusIsFinishedPinLaw) hisR ?_
  intro p e s m args below meth c s₁ Bd hml0 hP hK
  obtain ⟨rfl, hUZ, hh, hn0⟩ := hP
  have hZ : Z.Warmed39 s.vm := by rw [hUZ]; exact State.Warmed39.refl _
  have ib0 : IB Z s.vm [] := by rw [hUZ]; exact IB.start
  have hx := Bd.exec
  have hby := Bd.bytes
  have hml : c.maxLocals = 6 := hml0
  have hown : s.vm.findClass "com/example/unstor/unstor/JobStatusIsFinishedPinLaw" = some m.cls := findClass_of_methodNamed Bd.named
  have hnm := (name_of_methodNamed Bd.named Bd.method).1
  have X0 : Stand p l e room_1 s m #[(.int p1)] below meth c s₁ [] 0 0 := Stand.of_body Bd
  have e0 : s₁.heap = h0 := by rw [← hh, Bd.state]; rfl
  have N0 := Fr.nil n0
  refine own_in (fun _ k => castTop (own_ef0 m p1) k) ?_
  intro RR hRR
  have own_wS : ∀ a ∈ Bundle.stringAtoms, a.before a0 Z = true := fun a ha => hw a (own_sub a ha)
  show own_Go p.tables e below RR (s₁.setTop (mkF m 0 #[.val (.int p1), .unset, .unset, .unset, .unset, .unset] []))
  refine own_st (fun _ k => XS.iloadN X0.here hx rfl (hb hby at_0) rfl k) ?_
  show own_Go p.tables e below RR (s₁.setTop (mkF m 1 #[.val (.int p1), .unset, .unset, .unset, .unset, .unset] [(.int p1)]))
  refine own_st (fun _ k => XS.iconst X0.here hx rfl (hb hby at_1) k) ?_
  show own_Go p.tables e below RR (s₁.setTop (mkF m 2 #[.val (.int p1), .unset, .unset, .unset, .unset, .unset] [(.int (3 : Int32)), (.int p1)]))
  refine own_st (fun _ k => XS.iand X0.here hx rfl (hb hby at_2) rfl k) ?_
  show own_Go p.tables e below RR (s₁.setTop (mkF m 3 #[.val (.int p1), .unset, .unset, .unset, .unset, .unset] [(.int (p1 &&& (3 : Int32)))]))
  generalize gv1 : (p1 &&& (3 : Int32)) = v1
  show own_Go p.tables e below RR (s₁.setTop (mkF m 3 #[.val (.int p1), .unset, .unset, .unset, .unset, .unset] [(.int v1)]))
  refine own_st (fun _ k => XS.istoreN X0.here hx rfl (hb hby at_3) rfl (l' := #[.val (.int p1), .val (.int v1), .unset, .unset, .unset, .unset]) rfl k) ?_
  show own_Go p.tables e below RR (s₁.setTop (mkF m 4 #[.val (.int p1), .val (.int v1), .unset, .unset, .unset, .unset] []))
  show own_Go p.tables e below RR (s₁.setTop (mkF m 4 #[.val (.int p1), .val (.int v1), .unset, .unset, .unset, .unset] []))
  show own_Go p.tables e below RR (s₁.setTop (mkF m 4 #[.val (.int p1), .val (.int v1), .unset, .unset, .unset, .unset] []))
  rcases own_four gv1 with rfl | rfl | rfl | rfl
  · show own_Go p.tables e below RR (s₁.setTop (mkF m 4 #[.val (.int p1), .val (.int (0 : Int32)), .unset, .unset, .unset, .unset] []))
    show own_Go p.tables e below RR (s₁.setTop (mkF m 4 #[.val (.int p1), .val (.int (0 : Int32)), .unset, .unset, .unset, .unset] []))
    refine own_st (fun _ k => XS.iloadN X0.here hx rfl (hb hby at_4) rfl k) ?_
    show own_Go p.tables e below RR (s₁.setTop (mkF m 5 #[.val (.int p1), .val (.int (0 : Int32)), .unset, .unset, .unset, .unset] [(.int (0 : Int32))]))
    obtain ⟨_, _, ⟨T2, L2, k2, n2⟩, -, X2, ⟨Lc2, hQ2, l2, y2, z2⟩, st2⟩ := Jvm.LawKit.callS X0 hx (y := (⟨"com/example/unstor/unstor/JobStatusIsFinishedPinLaw", "pick", "(I)Lcom/example/unstor/unstor/JobStatus;"⟩ : MethodName)) hown (mvT hZ (hw _ (List.mem_of_getElem? (i := 0) rfl))) (mvT hZ (hw _ (List.mem_of_getElem? (i := 1) rfl))) (mvT hZ (hw _ (List.mem_of_getElem? (i := 2) rfl))) (mvT hZ (hw _ (List.mem_of_getElem? (i := 3) rfl))) (by decide) (backOf (W := 0) (own_rmP l Z a0 hw [] (0 : Int32) a_NEW a_COMPLETED a_ERROR a_PROCESSING a_NEW h0 n0 Z0 S_NEW S_COMPLETED S_ERROR S_PROCESSING rfl) hZ (hw _ (List.mem_of_getElem? (i := 3) rfl)) (hw _ (List.mem_of_getElem? (i := 2) rfl)) (by decide) (by decide)) (g := (mkF m 5 #[.val (.int p1), .val (.int (0 : Int32)), .unset, .unset, .unset, .unset] [(.int (0 : Int32))])) rfl (by rw [hml]; rfl) (argsL := [(.int (0 : Int32))]) (rest := []) (lenOf own_pd__I_Lcom_example_unstor_unstor_JobStatus_ rfl) rfl (by show 2 * 0 + _ ≤ _; exact Nat.le_of_eq rfl) (hb hby at_5) (fun _ _ => ⟨rfl, e0, (by decide : 0 + 0 ≤ _), (by decide : 0 + 0 ≤ _)⟩)
    dsimp only [Pt.U, Pt.locs, Pt.cells, Pt.slots] at X2 l2 y2 z2 st2 hQ2
    subst l2 y2 z2
    obtain ⟨rfl, Nq2, eq2⟩ := hQ2
    have N2 := Fr.app N0 Nq2
    refine own_st st2 ?_
    show own_Go p.tables e below RR (T2.setTop (mkF m 8 #[.val (.int p1), .val (.int (0 : Int32)), .unset, .unset, .unset, .unset] [(.ref a_NEW)]))
    refine own_st (fun _ k => XS.astoreN X2.here hx rfl (hb hby at_8) rfl rfl (l' := #[.val (.int p1), .val (.int (0 : Int32)), .val (.ref a_NEW), .unset, .unset, .unset]) rfl k) ?_
    show own_Go p.tables e below RR (T2.setTop (mkF m 9 #[.val (.int p1), .val (.int (0 : Int32)), .val (.ref a_NEW), .unset, .unset, .unset] []))
    refine own_st (fun _ k => XS.aloadN X2.here hx rfl (hb hby at_9) rfl rfl k) ?_
    show own_Go p.tables e below RR (T2.setTop (mkF m 10 #[.val (.int p1), .val (.int (0 : Int32)), .val (.ref a_NEW), .unset, .unset, .unset] [(.ref a_NEW)]))
    obtain ⟨cq3, kq3, q3a, q3b, q3c⟩ := isOf hZ eq2 E_NEW
    obtain ⟨_, _, ⟨T3, L3, k3, n3⟩, -, X3, ⟨Lc3, hQ3, l3, y3, z3⟩, st3⟩ := X2.virtualBack hx (y := (⟨"com/example/unstor/unstor/JobStatus", "isFinished", "()Z"⟩ : MethodName)) (z := (⟨"com/example/unstor/unstor/JobStatus", "isFinished", "()Z"⟩ : MethodName)) hown (mvT hZ (hw _ (List.mem_of_getElem? (i := 7) rfl))) (mvT hZ (hw _ (List.mem_of_getElem? (i := 8) rfl))) (notFace_of_selects (args := #[]) (mvT hZ (hw _ (List.mem_of_getElem? (i := 10) rfl)))) (mvT hZ (hw _ (List.mem_of_getElem? (i := 10) rfl))) (mvT hZ (hw _ (List.mem_of_getElem? (i := 9) rfl))) (by decide) (backOf (W := 0) (own_rmF l Z a0 hw [] a_NEW a_COMPLETED a_ERROR (0 : Int32) h0 n0 Z0 S_COMPLETED S_ERROR ((if_neg (Fld.ne F_NEW_ordinal F_COMPLETED_ordinal (by simp))).trans (if_neg (Fld.ne F_NEW_ordinal F_ERROR_ordinal (by simp))))) hZ (hw _ (List.mem_of_getElem? (i := 11) rfl)) (hw _ (List.mem_of_getElem? (i := 5) rfl)) (by decide) (by decide)) q3a q3c (g := (mkF m 10 #[.val (.int p1), .val (.int (0 : Int32)), .val (.ref a_NEW), .unset, .unset, .unset] [(.ref a_NEW)])) rfl (by rw [hml]; rfl) (Steps.refl _) (argsL := []) (rest := []) (lenOf own_pd___Z rfl) rfl (by show 2 * 0 + _ ≤ _; exact Nat.le_of_eq rfl) (hb hby at_10) (fun _ _ => ⟨rfl, eq2, (by decide : 0 + 0 ≤ _), (by decide : 0 + 0 ≤ _)⟩)
    dsimp only [Pt.U, Pt.locs, Pt.cells, Pt.slots] at X3 l3 y3 z3 st3 hQ3
    subst l3 y3 z3
    obtain ⟨rfl, Nq3, eq3⟩ := hQ3
    have N3 := Fr.app N2 Nq3
    refine own_st (fun _ k => st3.trans k) ?_
    show own_Go p.tables e below RR (T3.setTop (mkF m 13 #[.val (.int p1), .val (.int (0 : Int32)), .val (.ref a_NEW), .unset, .unset, .unset] [(.int (0 : Int32))]))
    refine own_st (fun _ k => XS.istoreN X3.here hx rfl (hb hby at_13) rfl (l' := #[.val (.int p1), .val (.int (0 : Int32)), .val (.ref a_NEW), .val (.int (0 : Int32)), .unset, .unset]) rfl k) ?_
    show own_Go p.tables e below RR (T3.setTop (mkF m 14 #[.val (.int p1), .val (.int (0 : Int32)), .val (.ref a_NEW), .val (.int (0 : Int32)), .unset, .unset] []))
    refine own_st (fun _ k => XS.iloadN X3.here hx rfl (hb hby at_14) rfl k) ?_
    show own_Go p.tables e below RR (T3.setTop (mkF m 15 #[.val (.int p1), .val (.int (0 : Int32)), .val (.ref a_NEW), .val (.int (0 : Int32)), .unset, .unset] [(.int (0 : Int32))]))
    refine own_st (fun _ k => XS.iloadN X3.here hx rfl (hb hby at_15) rfl k) ?_
    show own_Go p.tables e below RR (T3.setTop (mkF m 16 #[.val (.int p1), .val (.int (0 : Int32)), .val (.ref a_NEW), .val (.int (0 : Int32)), .unset, .unset] [(.int (0 : Int32)), (.int (0 : Int32))]))
    obtain ⟨_, _, ⟨T4, L4, k4, n4⟩, -, X4, ⟨Lc4, hQ4, l4, y4, z4⟩, st4⟩ := Jvm.LawKit.callS X3 hx (y := (⟨"com/example/unstor/unstor/JobStatusIsFinishedPinLaw", "expected", "(I)Z"⟩ : MethodName)) hown (mvT hZ (hw _ (List.mem_of_getElem? (i := 16) rfl))) (mvT hZ (hw _ (List.mem_of_getElem? (i := 17) rfl))) (mvT hZ (hw _ (List.mem_of_getElem? (i := 2) rfl))) (mvT hZ (hw _ (List.mem_of_getElem? (i := 18) rfl))) (by decide) (backOf (W := 1) (own_rmX l Z a0 hw [] (0 : Int32) (0 : Int32) h0 n0 Z0 rfl) hZ (hw _ (List.mem_of_getElem? (i := 18) rfl)) (hw _ (List.mem_of_getElem? (i := 2) rfl)) (by decide) (by decide)) (g := (mkF m 16 #[.val (.int p1), .val (.int (0 : Int32)), .val (.ref a_NEW), .val (.int (0 : Int32)), .unset, .unset] [(.int (0 : Int32)), (.int (0 : Int32))])) rfl (by rw [hml]; rfl) (argsL := [(.int (0 : Int32))]) (rest := [(.int (0 : Int32))]) (lenOf own_pd__I_Z rfl) rfl (by show 2 * 0 + _ ≤ _; exact Nat.le_of_eq rfl) (hb hby at_16) (fun _ _ => ⟨rfl, eq3, (by decide : 0 + 0 ≤ _), (by decide : 0 + 0 ≤ _)⟩)
    dsimp only [Pt.U, Pt.locs, Pt.cells, Pt.slots] at X4 l4 y4 z4 st4 hQ4
    subst l4 y4 z4
    obtain ⟨rfl, Nq4, eq4⟩ := hQ4
    have N4 := Fr.app N3 Nq4
    refine own_st st4 ?_
    show own_Go p.tables e below RR (T4.setTop (mkF m 19 #[.val (.int p1), .val (.int (0 : Int32)), .val (.ref a_NEW), .val (.int (0 : Int32)), .unset, .unset] [(.int (0 : Int32)), (.int (0 : Int32))]))
    refine own_st (fun _ k => XS.icmpYes X4.here hx rfl (pc0 := 19) (pc' := 24) rfl (hb hby at_19) rfl (teq (by decide)).1 (by decide) (by decide) k) ?_
    show own_Go p.tables e below RR (T4.setTop (mkF m 24 #[.val (.int p1), .val (.int (0 : Int32)), .val (.ref a_NEW), .val (.int (0 : Int32)), .unset, .unset] []))
    refine own_st (fun _ k => XS.aloadN X4.here hx rfl (hb hby at_24) rfl rfl k) ?_
    show own_Go p.tables e below RR (T4.setTop (mkF m 25 #[.val (.int p1), .val (.int (0 : Int32)), .val (.ref a_NEW), .val (.int (0 : Int32)), .unset, .unset] [(.ref a_NEW)]))
    obtain ⟨cq5, kq5, q5a, q5b, q5c⟩ := isOf hZ eq4 E_NEW
    obtain ⟨_, _, ⟨T5, L5, k5, n5⟩, -, X5, ⟨Lc5, hQ5, l5, y5, z5⟩, st5⟩ := X4.virtualBack hx (y := (⟨"com/example/unstor/unstor/JobStatus", "workOrderName", "()Ljava/lang/String;"⟩ : MethodName)) (z := (⟨"com/example/unstor/unstor/JobStatus", "workOrderName", "()Ljava/lang/String;"⟩ : MethodName)) hown (mvT hZ (hw _ (List.mem_of_getElem? (i := 19) rfl))) (mvT hZ (hw _ (List.mem_of_getElem? (i := 20) rfl))) (notFace_of_selects (args := #[]) (mvT hZ (hw _ (List.mem_of_getElem? (i := 22) rfl)))) (mvT hZ (hw _ (List.mem_of_getElem? (i := 22) rfl))) (mvT hZ (hw _ (List.mem_of_getElem? (i := 21) rfl))) (by decide) (backOf (W := 0) (own_rmW l Z a0 hw [] a_NEW s_NEW h0 n0 Z0 Fs_NEW) hZ (hw _ (List.mem_of_getElem? (i := 23) rfl)) (hw _ (List.mem_of_getElem? (i := 5) rfl)) (by decide) (by decide)) q5a q5c (g := (mkF m 25 #[.val (.int p1), .val (.int (0 : Int32)), .val (.ref a_NEW), .val (.int (0 : Int32)), .unset, .unset] [(.ref a_NEW)])) rfl (by rw [hml]; rfl) (Steps.refl _) (argsL := []) (rest := []) (lenOf own_pd___Ljava_lang_String_ rfl) rfl (by show 2 * 0 + _ ≤ _; exact Nat.le_of_eq rfl) (hb hby at_25) (fun _ _ => ⟨rfl, eq4, (by decide : 0 + 0 ≤ _), (by decide : 0 + 0 ≤ _)⟩)
    dsimp only [Pt.U, Pt.locs, Pt.cells, Pt.slots] at X5 l5 y5 z5 st5 hQ5
    subst l5 y5 z5
    obtain ⟨rfl, Nq5, eq5⟩ := hQ5
    have N5 := Fr.app N4 Nq5
    refine own_st (fun _ k => st5.trans k) ?_
    show own_Go p.tables e below RR (T5.setTop (mkF m 28 #[.val (.int p1), .val (.int (0 : Int32)), .val (.ref a_NEW), .val (.int (0 : Int32)), .unset, .unset] [(.ref s_NEW)]))
    refine own_st (fun _ k => XS.astore X5.here hx rfl (hb hby at_28) rfl rfl (l' := #[.val (.int p1), .val (.int (0 : Int32)), .val (.ref a_NEW), .val (.int (0 : Int32)), .val (.ref s_NEW), .unset]) rfl k) ?_
    show own_Go p.tables e below RR (T5.setTop (mkF m 30 #[.val (.int p1), .val (.int (0 : Int32)), .val (.ref a_NEW), .val (.int (0 : Int32)), .val (.ref s_NEW), .unset] []))
    obtain ⟨a6, T6, h6, k6, b6, kb6, X6, e6, E6, hS6, hk6, hZ, hown, Es6, Fc6, Fv6, V6, la6, lb6, ib6, st6⟩ := ldcSV (s := s) (vm0 := s.vm) X5 hx hZ hown (hw _ (List.mem_of_getElem? (i := 26) rfl)) own_wS eq5 ((State.WarmedH.refl s).since 0) (Nat.zero_le _) (by rw [hn0]; exact N5) (fun b cl q => by rw [hUZ]; exact q) ib0 (by decide) hcon40 hcw (vs := [(.int (99 : Int32)), (.int (111 : Int32)), (.int (109 : Int32)), (.int (112 : Int32)), (.int (108 : Int32)), (.int (101 : Int32)), (.int (116 : Int32)), (.int (101 : Int32)), (.int (100 : Int32))]) (z := (9 : Int32)) ⟨by decide, rfl⟩ (by decide) rfl (g := (mkF m 30 #[.val (.int p1), .val (.int (0 : Int32)), .val (.ref a_NEW), .val (.int (0 : Int32)), .val (.ref s_NEW), .unset] [])) rfl (hb hby at_30) (n := 36) (by decide) (by decide) (by decide) (by decide)
    refine own_st st6 ?_
    have z7 : n0 ≤ h6.size := Nat.le_trans Z0 E6.1
    show own_Go p.tables e below RR (T6.setTop (mkF m 32 #[.val (.int p1), .val (.int (0 : Int32)), .val (.ref a_NEW), .val (.int (0 : Int32)), .val (.ref s_NEW), .unset] [(.ref a6)]))
    refine own_st (fun _ k => XS.aload X6.here hx rfl (hb hby at_32) rfl rfl k) ?_
    show own_Go p.tables e below RR (T6.setTop (mkF m 34 #[.val (.int p1), .val (.int (0 : Int32)), .val (.ref a_NEW), .val (.int (0 : Int32)), .val (.ref s_NEW), .unset] [(.ref s_NEW), (.ref a6)]))
    have f8 := (V_NEW.ext E6)
    have f9 := (Fv_NEW.ext E6)
    have f10 := (Es_NEW.ext E6)
    have f11 := (Fc_NEW.ext E6)
    have f12 := (S0.ext E6)
    obtain ⟨cq13, kq13, q13a, q13b, q13c⟩ := isOf hZ e6 Es6
    obtain ⟨_, _, ⟨T13, L13, k13, n13⟩, -, X13, ⟨Lc13, hQ13, l13, y13, z13⟩, st13⟩ := X6.virtualBack hx (y := (⟨"java/lang/String", "equals", "(Ljava/lang/Object;)Z"⟩ : MethodName)) (z := (⟨"java/lang/String", "equals", "(Ljava/lang/Object;)Z"⟩ : MethodName)) hown (mvT hZ (hw _ (List.mem_of_getElem? (i := 34) rfl))) (mvT hZ (hw _ (List.mem_of_getElem? (i := 35) rfl))) (notFace_of_selects (args := #[]) (mvT hZ (hw _ (List.mem_of_getElem? (i := 37) rfl)))) (mvT hZ (hw _ (List.mem_of_getElem? (i := 37) rfl))) (mvT hZ (hw _ (List.mem_of_getElem? (i := 36) rfl))) (by decide) (backOf (W := 0) (own_rmEQ0 l Z a0 hw [] a6 s_NEW b6 b_NEW kb6 kb_NEW cs h6 n0 z7 f10 Fc6 f11 Fv6 f9 V6 f8 f12 hcs (Fld.ne Fv6 f9 (fun q => own_arv_ne V6 f8 (by decide) (Value.ref.inj q)))) hZ (hw _ (List.mem_of_getElem? (i := 38) rfl)) (hw _ (List.mem_of_getElem? (i := 27) rfl)) (by decide) (by decide)) q13a q13c (g := (mkF m 34 #[.val (.int p1), .val (.int (0 : Int32)), .val (.ref a_NEW), .val (.int (0 : Int32)), .val (.ref s_NEW), .unset] [(.ref s_NEW), (.ref a6)])) rfl (by rw [hml]; rfl) (Steps.refl _) (argsL := [(.ref s_NEW)]) (rest := []) (lenOf own_pd__Ljava_lang_Object__Z rfl) rfl (by show 2 * 0 + _ ≤ _; exact Nat.le_of_eq rfl) (hb hby at_34) (fun _ _ => ⟨rfl, e6, (by decide : 2 + 0 ≤ _), (by decide : 40 + 0 ≤ _)⟩)
    dsimp only [Pt.U, Pt.locs, Pt.cells, Pt.slots] at X13 l13 y13 z13 st13 hQ13
    subst l13 y13 z13
    obtain ⟨rfl, Nq13, eq13⟩ := hQ13
    have N13 := Fr.app N5 Nq13
    refine own_st (fun _ k => st13.trans k) ?_
    show own_Go p.tables e below RR (T13.setTop (mkF m 37 #[.val (.int p1), .val (.int (0 : Int32)), .val (.ref a_NEW), .val (.int (0 : Int32)), .val (.ref s_NEW), .unset] [(.int (0 : Int32))]))
    refine own_st (fun _ k => XS.ifNo X13.here hx rfl (hb hby at_37) rfl ((if0 _ _).trans (teq (by decide)).2) k) ?_
    show own_Go p.tables e below RR (T13.setTop (mkF m 40 #[.val (.int p1), .val (.int (0 : Int32)), .val (.ref a_NEW), .val (.int (0 : Int32)), .val (.ref s_NEW), .unset] []))
    obtain ⟨a14, T14, h14, k14, b14, kb14, X14, e14, E14, hS14, hk14, hZ, hown, Es14, Fc14, Fv14, V14, la14, lb14, ib14, st14⟩ := ldcSV (s := s) (vm0 := T6.vm) X13 hx hZ hown (hw _ (List.mem_of_getElem? (i := 48) rfl)) own_wS eq13 hS6 hk6 (by rw [hn0]; exact N13) (fun b cl q => by rw [hUZ]; exact q) ib6 (by decide) hcon48 hcw (vs := [(.int (102 : Int32)), (.int (97 : Int32)), (.int (105 : Int32)), (.int (108 : Int32)), (.int (101 : Int32)), (.int (100 : Int32))]) (z := (6 : Int32)) ⟨by decide, rfl⟩ (by decide) rfl (g := (mkF m 40 #[.val (.int p1), .val (.int (0 : Int32)), .val (.ref a_NEW), .val (.int (0 : Int32)), .val (.ref s_NEW), .unset] [])) rfl (hb hby at_40) (n := 24) (by decide) (by decide) (by decide) (by decide)
    refine own_st st14 ?_
    have z15 : n0 ≤ h14.size := Nat.le_trans z7 E14.1
    show own_Go p.tables e below RR (T14.setTop (mkF m 42 #[.val (.int p1), .val (.int (0 : Int32)), .val (.ref a_NEW), .val (.int (0 : Int32)), .val (.ref s_NEW), .unset] [(.ref a14)]))
    refine own_st (fun _ k => XS.aload X14.here hx rfl (hb hby at_42) rfl rfl k) ?_
    show own_Go p.tables e below RR (T14.setTop (mkF m 44 #[.val (.int p1), .val (.int (0 : Int32)), .val (.ref a_NEW), .val (.int (0 : Int32)), .val (.ref s_NEW), .unset] [(.ref s_NEW), (.ref a14)]))
    have f16 := (f8.ext E14)
    have f17 := (f9.ext E14)
    have f18 := (f10.ext E14)
    have f19 := (f11.ext E14)
    have f20 := (f12.ext E14)
    obtain ⟨cq21, kq21, q21a, q21b, q21c⟩ := isOf hZ e14 Es14
    obtain ⟨_, _, ⟨T21, L21, k21, n21⟩, -, X21, ⟨Lc21, hQ21, l21, y21, z21⟩, st21⟩ := X14.virtualBack hx (y := (⟨"java/lang/String", "equals", "(Ljava/lang/Object;)Z"⟩ : MethodName)) (z := (⟨"java/lang/String", "equals", "(Ljava/lang/Object;)Z"⟩ : MethodName)) hown (mvT hZ (hw _ (List.mem_of_getElem? (i := 34) rfl))) (mvT hZ (hw _ (List.mem_of_getElem? (i := 35) rfl))) (notFace_of_selects (args := #[]) (mvT hZ (hw _ (List.mem_of_getElem? (i := 37) rfl)))) (mvT hZ (hw _ (List.mem_of_getElem? (i := 37) rfl))) (mvT hZ (hw _ (List.mem_of_getElem? (i := 36) rfl))) (by decide) (backOf (W := 0) (own_rmEQ4 l Z a0 hw [] a14 s_NEW b14 b_NEW kb14 kb_NEW cs h14 n0 z15 f18 Fc14 f19 Fv14 f17 V14 f16 f20 hcs (Fld.ne Fv14 f17 (fun q => own_arv_ne V14 f16 (by decide) (Value.ref.inj q)))) hZ (hw _ (List.mem_of_getElem? (i := 38) rfl)) (hw _ (List.mem_of_getElem? (i := 27) rfl)) (by decide) (by decide)) q21a q21c (g := (mkF m 44 #[.val (.int p1), .val (.int (0 : Int32)), .val (.ref a_NEW), .val (.int (0 : Int32)), .val (.ref s_NEW), .unset] [(.ref s_NEW), (.ref a14)])) rfl (by rw [hml]; rfl) (Steps.refl _) (argsL := [(.ref s_NEW)]) (rest := []) (lenOf own_pd__Ljava_lang_Object__Z rfl) rfl (by show 2 * 0 + _ ≤ _; exact Nat.le_of_eq rfl) (hb hby at_44) (fun _ _ => ⟨rfl, e14, (by decide : 4 + 0 ≤ _), (by decide : 68 + 0 ≤ _)⟩)
    dsimp only [Pt.U, Pt.locs, Pt.cells, Pt.slots] at X21 l21 y21 z21 st21 hQ21
    subst l21 y21 z21
    obtain ⟨rfl, Nq21, eq21⟩ := hQ21
    have N21 := Fr.app N13 Nq21
    refine own_st (fun _ k => st21.trans k) ?_
    show own_Go p.tables e below RR (T21.setTop (mkF m 47 #[.val (.int p1), .val (.int (0 : Int32)), .val (.ref a_NEW), .val (.int (0 : Int32)), .val (.ref s_NEW), .unset] [(.int (0 : Int32))]))
    refine own_st (fun _ k => XS.ifYes X21.here hx rfl (pc0 := 47) (pc' := 54) rfl (hb hby at_47) rfl ((if0 _ _).trans (teq (by decide)).1) (by decide) (by decide) k) ?_
    show own_Go p.tables e below RR (T21.setTop (mkF m 54 #[.val (.int p1), .val (.int (0 : Int32)), .val (.ref a_NEW), .val (.int (0 : Int32)), .val (.ref s_NEW), .unset] []))
    refine own_st (fun _ k => XS.iconst X21.here hx rfl (hb hby at_54) k) ?_
    show own_Go p.tables e below RR (T21.setTop (mkF m 55 #[.val (.int p1), .val (.int (0 : Int32)), .val (.ref a_NEW), .val (.int (0 : Int32)), .val (.ref s_NEW), .unset] [(.int (0 : Int32))]))
    refine own_st (fun _ k => XS.istore X21.here hx rfl (hb hby at_55) rfl (l' := #[.val (.int p1), .val (.int (0 : Int32)), .val (.ref a_NEW), .val (.int (0 : Int32)), .val (.ref s_NEW), .val (.int (0 : Int32))]) rfl k) ?_
    show own_Go p.tables e below RR (T21.setTop (mkF m 57 #[.val (.int p1), .val (.int (0 : Int32)), .val (.ref a_NEW), .val (.int (0 : Int32)), .val (.ref s_NEW), .val (.int (0 : Int32))] []))
    refine own_st (fun _ k => XS.iloadN X21.here hx rfl (hb hby at_57) rfl k) ?_
    show own_Go p.tables e below RR (T21.setTop (mkF m 58 #[.val (.int p1), .val (.int (0 : Int32)), .val (.ref a_NEW), .val (.int (0 : Int32)), .val (.ref s_NEW), .val (.int (0 : Int32))] [(.int (0 : Int32))]))
    refine own_st (fun _ k => XS.iload X21.here hx rfl (hb hby at_58) rfl k) ?_
    show own_Go p.tables e below RR (T21.setTop (mkF m 60 #[.val (.int p1), .val (.int (0 : Int32)), .val (.ref a_NEW), .val (.int (0 : Int32)), .val (.ref s_NEW), .val (.int (0 : Int32))] [(.int (0 : Int32)), (.int (0 : Int32))]))
    refine own_st (fun _ k => XS.icmpNo X21.here hx rfl (hb hby at_60) rfl (teq (by decide)).2 k) ?_
    show own_Go p.tables e below RR (T21.setTop (mkF m 63 #[.val (.int p1), .val (.int (0 : Int32)), .val (.ref a_NEW), .val (.int (0 : Int32)), .val (.ref s_NEW), .val (.int (0 : Int32))] []))
    refine own_st (fun _ k => XS.iconst X21.here hx rfl (hb hby at_63) k) ?_
    show own_Go p.tables e below RR (T21.setTop (mkF m 64 #[.val (.int p1), .val (.int (0 : Int32)), .val (.ref a_NEW), .val (.int (0 : Int32)), .val (.ref s_NEW), .val (.int (0 : Int32))] [(.int (1 : Int32))]))
    refine own_st (fun _ k => XS.goto X21.here hx rfl (pc0 := 64) (pc' := 68) rfl (hb hby at_64) (by decide) (by decide) k) ?_
    show own_Go p.tables e below RR (T21.setTop (mkF m 68 #[.val (.int p1), .val (.int (0 : Int32)), .val (.ref a_NEW), .val (.int (0 : Int32)), .val (.ref s_NEW), .val (.int (0 : Int32))] [(.int (1 : Int32))]))
    obtain ⟨fs, hrt_, hrun, hended, hRE⟩ := X21.leaveW hS14 (by rw [eq21]; exact hk14) (v := some (.int (1 : Int32))) (fun h => by rw [Bd.returns] at h; cases h)
    refine own_fin (retN X21 hx (t := .boolean) Bd.returns (by simp) (hb hby at_68) hrt_) (hRR _ ⟨_, hrun, hended, _, _, rfl, ?_, hRE.1, hRE.2.1, hRE.2.2.1, hRE.2.2.2.mono (by decide) (by decide)⟩)
    show own_Q0 Z p1 a_NEW a_COMPLETED a_ERROR a_PROCESSING s_NEW b_NEW kb_NEW s_PROCESSING b_PROCESSING kb_PROCESSING s_COMPLETED b_COMPLETED kb_COMPLETED s_ERROR b_ERROR kb_ERROR cs h0 n0 _ T21.heap _
    rw [eq21]
    exact ⟨rfl, N21⟩
  · show own_Go p.tables e below RR (s₁.setTop (mkF m 4 #[.val (.int p1), .val (.int (1 : Int32)), .unset, .unset, .unset, .unset] []))
    show own_Go p.tables e below RR (s₁.setTop (mkF m 4 #[.val (.int p1), .val (.int (1 : Int32)), .unset, .unset, .unset, .unset] []))
    refine own_st (fun _ k => XS.iloadN X0.here hx rfl (hb hby at_4) rfl k) ?_
    show own_Go p.tables e below RR (s₁.setTop (mkF m 5 #[.val (.int p1), .val (.int (1 : Int32)), .unset, .unset, .unset, .unset] [(.int (1 : Int32))]))
    obtain ⟨_, _, ⟨T22, L22, k22, n22⟩, -, X22, ⟨Lc22, hQ22, l22, y22, z22⟩, st22⟩ := Jvm.LawKit.callS X0 hx (y := (⟨"com/example/unstor/unstor/JobStatusIsFinishedPinLaw", "pick", "(I)Lcom/example/unstor/unstor/JobStatus;"⟩ : MethodName)) hown (mvT hZ (hw _ (List.mem_of_getElem? (i := 0) rfl))) (mvT hZ (hw _ (List.mem_of_getElem? (i := 1) rfl))) (mvT hZ (hw _ (List.mem_of_getElem? (i := 2) rfl))) (mvT hZ (hw _ (List.mem_of_getElem? (i := 3) rfl))) (by decide) (backOf (W := 0) (own_rmP l Z a0 hw [] (1 : Int32) a_NEW a_COMPLETED a_ERROR a_PROCESSING a_PROCESSING h0 n0 Z0 S_NEW S_COMPLETED S_ERROR S_PROCESSING rfl) hZ (hw _ (List.mem_of_getElem? (i := 3) rfl)) (hw _ (List.mem_of_getElem? (i := 2) rfl)) (by decide) (by decide)) (g := (mkF m 5 #[.val (.int p1), .val (.int (1 : Int32)), .unset, .unset, .unset, .unset] [(.int (1 : Int32))])) rfl (by rw [hml]; rfl) (argsL := [(.int (1 : Int32))]) (rest := []) (lenOf own_pd__I_Lcom_example_unstor_unstor_JobStatus_ rfl) rfl (by show 2 * 0 + _ ≤ _; exact Nat.le_of_eq rfl) (hb hby at_5) (fun _ _ => ⟨rfl, e0, (by decide : 0 + 0 ≤ _), (by decide : 0 + 0 ≤ _)⟩)
    dsimp only [Pt.U, Pt.locs, Pt.cells, Pt.slots] at X22 l22 y22 z22 st22 hQ22
    subst l22 y22 z22
    obtain ⟨rfl, Nq22, eq22⟩ := hQ22
    have N22 := Fr.app N0 Nq22
    refine own_st st22 ?_
    show own_Go p.tables e below RR (T22.setTop (mkF m 8 #[.val (.int p1), .val (.int (1 : Int32)), .unset, .unset, .unset, .unset] [(.ref a_PROCESSING)]))
    refine own_st (fun _ k => XS.astoreN X22.here hx rfl (hb hby at_8) rfl rfl (l' := #[.val (.int p1), .val (.int (1 : Int32)), .val (.ref a_PROCESSING), .unset, .unset, .unset]) rfl k) ?_
    show own_Go p.tables e below RR (T22.setTop (mkF m 9 #[.val (.int p1), .val (.int (1 : Int32)), .val (.ref a_PROCESSING), .unset, .unset, .unset] []))
    refine own_st (fun _ k => XS.aloadN X22.here hx rfl (hb hby at_9) rfl rfl k) ?_
    show own_Go p.tables e below RR (T22.setTop (mkF m 10 #[.val (.int p1), .val (.int (1 : Int32)), .val (.ref a_PROCESSING), .unset, .unset, .unset] [(.ref a_PROCESSING)]))
    obtain ⟨cq23, kq23, q23a, q23b, q23c⟩ := isOf hZ eq22 E_PROCESSING
    obtain ⟨_, _, ⟨T23, L23, k23, n23⟩, -, X23, ⟨Lc23, hQ23, l23, y23, z23⟩, st23⟩ := X22.virtualBack hx (y := (⟨"com/example/unstor/unstor/JobStatus", "isFinished", "()Z"⟩ : MethodName)) (z := (⟨"com/example/unstor/unstor/JobStatus", "isFinished", "()Z"⟩ : MethodName)) hown (mvT hZ (hw _ (List.mem_of_getElem? (i := 7) rfl))) (mvT hZ (hw _ (List.mem_of_getElem? (i := 8) rfl))) (notFace_of_selects (args := #[]) (mvT hZ (hw _ (List.mem_of_getElem? (i := 10) rfl)))) (mvT hZ (hw _ (List.mem_of_getElem? (i := 10) rfl))) (mvT hZ (hw _ (List.mem_of_getElem? (i := 9) rfl))) (by decide) (backOf (W := 0) (own_rmF l Z a0 hw [] a_PROCESSING a_COMPLETED a_ERROR (0 : Int32) h0 n0 Z0 S_COMPLETED S_ERROR ((if_neg (Fld.ne F_PROCESSING_ordinal F_COMPLETED_ordinal (by simp))).trans (if_neg (Fld.ne F_PROCESSING_ordinal F_ERROR_ordinal (by simp))))) hZ (hw _ (List.mem_of_getElem? (i := 11) rfl)) (hw _ (List.mem_of_getElem? (i := 5) rfl)) (by decide) (by decide)) q23a q23c (g := (mkF m 10 #[.val (.int p1), .val (.int (1 : Int32)), .val (.ref a_PROCESSING), .unset, .unset, .unset] [(.ref a_PROCESSING)])) rfl (by rw [hml]; rfl) (Steps.refl _) (argsL := []) (rest := []) (lenOf own_pd___Z rfl) rfl (by show 2 * 0 + _ ≤ _; exact Nat.le_of_eq rfl) (hb hby at_10) (fun _ _ => ⟨rfl, eq22, (by decide : 0 + 0 ≤ _), (by decide : 0 + 0 ≤ _)⟩)
    dsimp only [Pt.U, Pt.locs, Pt.cells, Pt.slots] at X23 l23 y23 z23 st23 hQ23
    subst l23 y23 z23
    obtain ⟨rfl, Nq23, eq23⟩ := hQ23
    have N23 := Fr.app N22 Nq23
    refine own_st (fun _ k => st23.trans k) ?_
    show own_Go p.tables e below RR (T23.setTop (mkF m 13 #[.val (.int p1), .val (.int (1 : Int32)), .val (.ref a_PROCESSING), .unset, .unset, .unset] [(.int (0 : Int32))]))
    refine own_st (fun _ k => XS.istoreN X23.here hx rfl (hb hby at_13) rfl (l' := #[.val (.int p1), .val (.int (1 : Int32)), .val (.ref a_PROCESSING), .val (.int (0 : Int32)), .unset, .unset]) rfl k) ?_
    show own_Go p.tables e below RR (T23.setTop (mkF m 14 #[.val (.int p1), .val (.int (1 : Int32)), .val (.ref a_PROCESSING), .val (.int (0 : Int32)), .unset, .unset] []))
    refine own_st (fun _ k => XS.iloadN X23.here hx rfl (hb hby at_14) rfl k) ?_
    show own_Go p.tables e below RR (T23.setTop (mkF m 15 #[.val (.int p1), .val (.int (1 : Int32)), .val (.ref a_PROCESSING), .val (.int (0 : Int32)), .unset, .unset] [(.int (0 : Int32))]))
    refine own_st (fun _ k => XS.iloadN X23.here hx rfl (hb hby at_15) rfl k) ?_
    show own_Go p.tables e below RR (T23.setTop (mkF m 16 #[.val (.int p1), .val (.int (1 : Int32)), .val (.ref a_PROCESSING), .val (.int (0 : Int32)), .unset, .unset] [(.int (1 : Int32)), (.int (0 : Int32))]))
    obtain ⟨_, _, ⟨T24, L24, k24, n24⟩, -, X24, ⟨Lc24, hQ24, l24, y24, z24⟩, st24⟩ := Jvm.LawKit.callS X23 hx (y := (⟨"com/example/unstor/unstor/JobStatusIsFinishedPinLaw", "expected", "(I)Z"⟩ : MethodName)) hown (mvT hZ (hw _ (List.mem_of_getElem? (i := 16) rfl))) (mvT hZ (hw _ (List.mem_of_getElem? (i := 17) rfl))) (mvT hZ (hw _ (List.mem_of_getElem? (i := 2) rfl))) (mvT hZ (hw _ (List.mem_of_getElem? (i := 18) rfl))) (by decide) (backOf (W := 1) (own_rmX l Z a0 hw [] (1 : Int32) (0 : Int32) h0 n0 Z0 rfl) hZ (hw _ (List.mem_of_getElem? (i := 18) rfl)) (hw _ (List.mem_of_getElem? (i := 2) rfl)) (by decide) (by decide)) (g := (mkF m 16 #[.val (.int p1), .val (.int (1 : Int32)), .val (.ref a_PROCESSING), .val (.int (0 : Int32)), .unset, .unset] [(.int (1 : Int32)), (.int (0 : Int32))])) rfl (by rw [hml]; rfl) (argsL := [(.int (1 : Int32))]) (rest := [(.int (0 : Int32))]) (lenOf own_pd__I_Z rfl) rfl (by show 2 * 0 + _ ≤ _; exact Nat.le_of_eq rfl) (hb hby at_16) (fun _ _ => ⟨rfl, eq23, (by decide : 0 + 0 ≤ _), (by decide : 0 + 0 ≤ _)⟩)
    dsimp only [Pt.U, Pt.locs, Pt.cells, Pt.slots] at X24 l24 y24 z24 st24 hQ24
    subst l24 y24 z24
    obtain ⟨rfl, Nq24, eq24⟩ := hQ24
    have N24 := Fr.app N23 Nq24
    refine own_st st24 ?_
    show own_Go p.tables e below RR (T24.setTop (mkF m 19 #[.val (.int p1), .val (.int (1 : Int32)), .val (.ref a_PROCESSING), .val (.int (0 : Int32)), .unset, .unset] [(.int (0 : Int32)), (.int (0 : Int32))]))
    refine own_st (fun _ k => XS.icmpYes X24.here hx rfl (pc0 := 19) (pc' := 24) rfl (hb hby at_19) rfl (teq (by decide)).1 (by decide) (by decide) k) ?_
    show own_Go p.tables e below RR (T24.setTop (mkF m 24 #[.val (.int p1), .val (.int (1 : Int32)), .val (.ref a_PROCESSING), .val (.int (0 : Int32)), .unset, .unset] []))
    refine own_st (fun _ k => XS.aloadN X24.here hx rfl (hb hby at_24) rfl rfl k) ?_
    show own_Go p.tables e below RR (T24.setTop (mkF m 25 #[.val (.int p1), .val (.int (1 : Int32)), .val (.ref a_PROCESSING), .val (.int (0 : Int32)), .unset, .unset] [(.ref a_PROCESSING)]))
    obtain ⟨cq25, kq25, q25a, q25b, q25c⟩ := isOf hZ eq24 E_PROCESSING
    obtain ⟨_, _, ⟨T25, L25, k25, n25⟩, -, X25, ⟨Lc25, hQ25, l25, y25, z25⟩, st25⟩ := X24.virtualBack hx (y := (⟨"com/example/unstor/unstor/JobStatus", "workOrderName", "()Ljava/lang/String;"⟩ : MethodName)) (z := (⟨"com/example/unstor/unstor/JobStatus", "workOrderName", "()Ljava/lang/String;"⟩ : MethodName)) hown (mvT hZ (hw _ (List.mem_of_getElem? (i := 19) rfl))) (mvT hZ (hw _ (List.mem_of_getElem? (i := 20) rfl))) (notFace_of_selects (args := #[]) (mvT hZ (hw _ (List.mem_of_getElem? (i := 22) rfl)))) (mvT hZ (hw _ (List.mem_of_getElem? (i := 22) rfl))) (mvT hZ (hw _ (List.mem_of_getElem? (i := 21) rfl))) (by decide) (backOf (W := 0) (own_rmW l Z a0 hw [] a_PROCESSING s_PROCESSING h0 n0 Z0 Fs_PROCESSING) hZ (hw _ (List.mem_of_getElem? (i := 23) rfl)) (hw _ (List.mem_of_getElem? (i := 5) rfl)) (by decide) (by decide)) q25a q25c (g := (mkF m 25 #[.val (.int p1), .val (.int (1 : Int32)), .val (.ref a_PROCESSING), .val (.int (0 : Int32)), .unset, .unset] [(.ref a_PROCESSING)])) rfl (by rw [hml]; rfl) (Steps.refl _) (argsL := []) (rest := []) (lenOf own_pd___Ljava_lang_String_ rfl) rfl (by show 2 * 0 + _ ≤ _; exact Nat.le_of_eq rfl) (hb hby at_25) (fun _ _ => ⟨rfl, eq24, (by decide : 0 + 0 ≤ _), (by decide : 0 + 0 ≤ _)⟩)
    dsimp only [Pt.U, Pt.locs, Pt.cells, Pt.slots] at X25 l25 y25 z25 st25 hQ25
    subst l25 y25 z25
    obtain ⟨rfl, Nq25, eq25⟩ := hQ25
    have N25 := Fr.app N24 Nq25
    refine own_st (fun _ k => st25.trans k) ?_
    show own_Go p.tables e below RR (T25.setTop (mkF m 28 #[.val (.int p1), .val (.int (1 : Int32)), .val (.ref a_PROCESSING), .val (.int (0 : Int32)), .unset, .unset] [(.ref s_PROCESSING)]))
    refine own_st (fun _ k => XS.astore X25.here hx rfl (hb hby at_28) rfl rfl (l' := #[.val (.int p1), .val (.int (1 : Int32)), .val (.ref a_PROCESSING), .val (.int (0 : Int32)), .val (.ref s_PROCESSING), .unset]) rfl k) ?_
    show own_Go p.tables e below RR (T25.setTop (mkF m 30 #[.val (.int p1), .val (.int (1 : Int32)), .val (.ref a_PROCESSING), .val (.int (0 : Int32)), .val (.ref s_PROCESSING), .unset] []))
    obtain ⟨a26, T26, h26, k26, b26, kb26, X26, e26, E26, hS26, hk26, hZ, hown, Es26, Fc26, Fv26, V26, la26, lb26, ib26, st26⟩ := ldcSV (s := s) (vm0 := s.vm) X25 hx hZ hown (hw _ (List.mem_of_getElem? (i := 26) rfl)) own_wS eq25 ((State.WarmedH.refl s).since 0) (Nat.zero_le _) (by rw [hn0]; exact N25) (fun b cl q => by rw [hUZ]; exact q) ib0 (by decide) hcon40 hcw (vs := [(.int (99 : Int32)), (.int (111 : Int32)), (.int (109 : Int32)), (.int (112 : Int32)), (.int (108 : Int32)), (.int (101 : Int32)), (.int (116 : Int32)), (.int (101 : Int32)), (.int (100 : Int32))]) (z := (9 : Int32)) ⟨by decide, rfl⟩ (by decide) rfl (g := (mkF m 30 #[.val (.int p1), .val (.int (1 : Int32)), .val (.ref a_PROCESSING), .val (.int (0 : Int32)), .val (.ref s_PROCESSING), .unset] [])) rfl (hb hby at_30) (n := 36) (by decide) (by decide) (by decide) (by decide)
    refine own_st st26 ?_
    have z27 : n0 ≤ h26.size := Nat.le_trans Z0 E26.1
    show own_Go p.tables e below RR (T26.setTop (mkF m 32 #[.val (.int p1), .val (.int (1 : Int32)), .val (.ref a_PROCESSING), .val (.int (0 : Int32)), .val (.ref s_PROCESSING), .unset] [(.ref a26)]))
    refine own_st (fun _ k => XS.aload X26.here hx rfl (hb hby at_32) rfl rfl k) ?_
    show own_Go p.tables e below RR (T26.setTop (mkF m 34 #[.val (.int p1), .val (.int (1 : Int32)), .val (.ref a_PROCESSING), .val (.int (0 : Int32)), .val (.ref s_PROCESSING), .unset] [(.ref s_PROCESSING), (.ref a26)]))
    have f28 := (V_PROCESSING.ext E26)
    have f29 := (Fv_PROCESSING.ext E26)
    have f30 := (Es_PROCESSING.ext E26)
    have f31 := (Fc_PROCESSING.ext E26)
    have f32 := (S0.ext E26)
    obtain ⟨cq33, kq33, q33a, q33b, q33c⟩ := isOf hZ e26 Es26
    obtain ⟨_, _, ⟨T33, L33, k33, n33⟩, -, X33, ⟨Lc33, hQ33, l33, y33, z33⟩, st33⟩ := X26.virtualBack hx (y := (⟨"java/lang/String", "equals", "(Ljava/lang/Object;)Z"⟩ : MethodName)) (z := (⟨"java/lang/String", "equals", "(Ljava/lang/Object;)Z"⟩ : MethodName)) hown (mvT hZ (hw _ (List.mem_of_getElem? (i := 34) rfl))) (mvT hZ (hw _ (List.mem_of_getElem? (i := 35) rfl))) (notFace_of_selects (args := #[]) (mvT hZ (hw _ (List.mem_of_getElem? (i := 37) rfl)))) (mvT hZ (hw _ (List.mem_of_getElem? (i := 37) rfl))) (mvT hZ (hw _ (List.mem_of_getElem? (i := 36) rfl))) (by decide) (backOf (W := 0) (own_rmEQ1 l Z a0 hw [] a26 s_PROCESSING b26 b_PROCESSING kb26 kb_PROCESSING cs h26 n0 z27 f30 Fc26 f31 Fv26 f29 V26 f28 f32 hcs (Fld.ne Fv26 f29 (fun q => own_arv_ne V26 f28 (by decide) (Value.ref.inj q)))) hZ (hw _ (List.mem_of_getElem? (i := 38) rfl)) (hw _ (List.mem_of_getElem? (i := 27) rfl)) (by decide) (by decide)) q33a q33c (g := (mkF m 34 #[.val (.int p1), .val (.int (1 : Int32)), .val (.ref a_PROCESSING), .val (.int (0 : Int32)), .val (.ref s_PROCESSING), .unset] [(.ref s_PROCESSING), (.ref a26)])) rfl (by rw [hml]; rfl) (Steps.refl _) (argsL := [(.ref s_PROCESSING)]) (rest := []) (lenOf own_pd__Ljava_lang_Object__Z rfl) rfl (by show 2 * 0 + _ ≤ _; exact Nat.le_of_eq rfl) (hb hby at_34) (fun _ _ => ⟨rfl, e26, (by decide : 2 + 0 ≤ _), (by decide : 40 + 0 ≤ _)⟩)
    dsimp only [Pt.U, Pt.locs, Pt.cells, Pt.slots] at X33 l33 y33 z33 st33 hQ33
    subst l33 y33 z33
    obtain ⟨rfl, Nq33, eq33⟩ := hQ33
    have N33 := Fr.app N25 Nq33
    refine own_st (fun _ k => st33.trans k) ?_
    show own_Go p.tables e below RR (T33.setTop (mkF m 37 #[.val (.int p1), .val (.int (1 : Int32)), .val (.ref a_PROCESSING), .val (.int (0 : Int32)), .val (.ref s_PROCESSING), .unset] [(.int (0 : Int32))]))
    refine own_st (fun _ k => XS.ifNo X33.here hx rfl (hb hby at_37) rfl ((if0 _ _).trans (teq (by decide)).2) k) ?_
    show own_Go p.tables e below RR (T33.setTop (mkF m 40 #[.val (.int p1), .val (.int (1 : Int32)), .val (.ref a_PROCESSING), .val (.int (0 : Int32)), .val (.ref s_PROCESSING), .unset] []))
    obtain ⟨a34, T34, h34, k34, b34, kb34, X34, e34, E34, hS34, hk34, hZ, hown, Es34, Fc34, Fv34, V34, la34, lb34, ib34, st34⟩ := ldcSV (s := s) (vm0 := T26.vm) X33 hx hZ hown (hw _ (List.mem_of_getElem? (i := 48) rfl)) own_wS eq33 hS26 hk26 (by rw [hn0]; exact N33) (fun b cl q => by rw [hUZ]; exact q) ib26 (by decide) hcon48 hcw (vs := [(.int (102 : Int32)), (.int (97 : Int32)), (.int (105 : Int32)), (.int (108 : Int32)), (.int (101 : Int32)), (.int (100 : Int32))]) (z := (6 : Int32)) ⟨by decide, rfl⟩ (by decide) rfl (g := (mkF m 40 #[.val (.int p1), .val (.int (1 : Int32)), .val (.ref a_PROCESSING), .val (.int (0 : Int32)), .val (.ref s_PROCESSING), .unset] [])) rfl (hb hby at_40) (n := 24) (by decide) (by decide) (by decide) (by decide)
    refine own_st st34 ?_
    have z35 : n0 ≤ h34.size := Nat.le_trans z27 E34.1
    show own_Go p.tables e below RR (T34.setTop (mkF m 42 #[.val (.int p1), .val (.int (1 : Int32)), .val (.ref a_PROCESSING), .val (.int (0 : Int32)), .val (.ref s_PROCESSING), .unset] [(.ref a34)]))
    refine own_st (fun _ k => XS.aload X34.here hx rfl (hb hby at_42) rfl rfl k) ?_
    show own_Go p.tables e below RR (T34.setTop (mkF m 44 #[.val (.int p1), .val (.int (1 : Int32)), .val (.ref a_PROCESSING), .val (.int (0 : Int32)), .val (.ref s_PROCESSING), .unset] [(.ref s_PROCESSING), (.ref a34)]))
    have f36 := (f28.ext E34)
    have f37 := (f29.ext E34)
    have f38 := (f30.ext E34)
    have f39 := (f31.ext E34)
    have f40 := (f32.ext E34)
    obtain ⟨cq41, kq41, q41a, q41b, q41c⟩ := isOf hZ e34 Es34
    obtain ⟨_, _, ⟨T41, L41, k41, n41⟩, -, X41, ⟨Lc41, hQ41, l41, y41, z41⟩, st41⟩ := X34.virtualBack hx (y := (⟨"java/lang/String", "equals", "(Ljava/lang/Object;)Z"⟩ : MethodName)) (z := (⟨"java/lang/String", "equals", "(Ljava/lang/Object;)Z"⟩ : MethodName)) hown (mvT hZ (hw _ (List.mem_of_getElem? (i := 34) rfl))) (mvT hZ (hw _ (List.mem_of_getElem? (i := 35) rfl))) (notFace_of_selects (args := #[]) (mvT hZ (hw _ (List.mem_of_getElem? (i := 37) rfl)))) (mvT hZ (hw _ (List.mem_of_getElem? (i := 37) rfl))) (mvT hZ (hw _ (List.mem_of_getElem? (i := 36) rfl))) (by decide) (backOf (W := 0) (own_rmEQ5 l Z a0 hw [] a34 s_PROCESSING b34 b_PROCESSING kb34 kb_PROCESSING cs h34 n0 z35 f38 Fc34 f39 Fv34 f37 V34 f36 f40 hcs (Fld.ne Fv34 f37 (fun q => own_arv_ne V34 f36 (by decide) (Value.ref.inj q)))) hZ (hw _ (List.mem_of_getElem? (i := 38) rfl)) (hw _ (List.mem_of_getElem? (i := 27) rfl)) (by decide) (by decide)) q41a q41c (g := (mkF m 44 #[.val (.int p1), .val (.int (1 : Int32)), .val (.ref a_PROCESSING), .val (.int (0 : Int32)), .val (.ref s_PROCESSING), .unset] [(.ref s_PROCESSING), (.ref a34)])) rfl (by rw [hml]; rfl) (Steps.refl _) (argsL := [(.ref s_PROCESSING)]) (rest := []) (lenOf own_pd__Ljava_lang_Object__Z rfl) rfl (by show 2 * 0 + _ ≤ _; exact Nat.le_of_eq rfl) (hb hby at_44) (fun _ _ => ⟨rfl, e34, (by decide : 4 + 0 ≤ _), (by decide : 68 + 0 ≤ _)⟩)
    dsimp only [Pt.U, Pt.locs, Pt.cells, Pt.slots] at X41 l41 y41 z41 st41 hQ41
    subst l41 y41 z41
    obtain ⟨rfl, Nq41, eq41⟩ := hQ41
    have N41 := Fr.app N33 Nq41
    refine own_st (fun _ k => st41.trans k) ?_
    show own_Go p.tables e below RR (T41.setTop (mkF m 47 #[.val (.int p1), .val (.int (1 : Int32)), .val (.ref a_PROCESSING), .val (.int (0 : Int32)), .val (.ref s_PROCESSING), .unset] [(.int (0 : Int32))]))
    refine own_st (fun _ k => XS.ifYes X41.here hx rfl (pc0 := 47) (pc' := 54) rfl (hb hby at_47) rfl ((if0 _ _).trans (teq (by decide)).1) (by decide) (by decide) k) ?_
    show own_Go p.tables e below RR (T41.setTop (mkF m 54 #[.val (.int p1), .val (.int (1 : Int32)), .val (.ref a_PROCESSING), .val (.int (0 : Int32)), .val (.ref s_PROCESSING), .unset] []))
    refine own_st (fun _ k => XS.iconst X41.here hx rfl (hb hby at_54) k) ?_
    show own_Go p.tables e below RR (T41.setTop (mkF m 55 #[.val (.int p1), .val (.int (1 : Int32)), .val (.ref a_PROCESSING), .val (.int (0 : Int32)), .val (.ref s_PROCESSING), .unset] [(.int (0 : Int32))]))
    refine own_st (fun _ k => XS.istore X41.here hx rfl (hb hby at_55) rfl (l' := #[.val (.int p1), .val (.int (1 : Int32)), .val (.ref a_PROCESSING), .val (.int (0 : Int32)), .val (.ref s_PROCESSING), .val (.int (0 : Int32))]) rfl k) ?_
    show own_Go p.tables e below RR (T41.setTop (mkF m 57 #[.val (.int p1), .val (.int (1 : Int32)), .val (.ref a_PROCESSING), .val (.int (0 : Int32)), .val (.ref s_PROCESSING), .val (.int (0 : Int32))] []))
    refine own_st (fun _ k => XS.iloadN X41.here hx rfl (hb hby at_57) rfl k) ?_
    show own_Go p.tables e below RR (T41.setTop (mkF m 58 #[.val (.int p1), .val (.int (1 : Int32)), .val (.ref a_PROCESSING), .val (.int (0 : Int32)), .val (.ref s_PROCESSING), .val (.int (0 : Int32))] [(.int (0 : Int32))]))
    refine own_st (fun _ k => XS.iload X41.here hx rfl (hb hby at_58) rfl k) ?_
    show own_Go p.tables e below RR (T41.setTop (mkF m 60 #[.val (.int p1), .val (.int (1 : Int32)), .val (.ref a_PROCESSING), .val (.int (0 : Int32)), .val (.ref s_PROCESSING), .val (.int (0 : Int32))] [(.int (0 : Int32)), (.int (0 : Int32))]))
    refine own_st (fun _ k => XS.icmpNo X41.here hx rfl (hb hby at_60) rfl (teq (by decide)).2 k) ?_
    show own_Go p.tables e below RR (T41.setTop (mkF m 63 #[.val (.int p1), .val (.int (1 : Int32)), .val (.ref a_PROCESSING), .val (.int (0 : Int32)), .val (.ref s_PROCESSING), .val (.int (0 : Int32))] []))
    refine own_st (fun _ k => XS.iconst X41.here hx rfl (hb hby at_63) k) ?_
    show own_Go p.tables e below RR (T41.setTop (mkF m 64 #[.val (.int p1), .val (.int (1 : Int32)), .val (.ref a_PROCESSING), .val (.int (0 : Int32)), .val (.ref s_PROCESSING), .val (.int (0 : Int32))] [(.int (1 : Int32))]))
    refine own_st (fun _ k => XS.goto X41.here hx rfl (pc0 := 64) (pc' := 68) rfl (hb hby at_64) (by decide) (by decide) k) ?_
    show own_Go p.tables e below RR (T41.setTop (mkF m 68 #[.val (.int p1), .val (.int (1 : Int32)), .val (.ref a_PROCESSING), .val (.int (0 : Int32)), .val (.ref s_PROCESSING), .val (.int (0 : Int32))] [(.int (1 : Int32))]))
    obtain ⟨fs, hrt_, hrun, hended, hRE⟩ := X41.leaveW hS34 (by rw [eq41]; exact hk34) (v := some (.int (1 : Int32))) (fun h => by rw [Bd.returns] at h; cases h)
    refine own_fin (retN X41 hx (t := .boolean) Bd.returns (by simp) (hb hby at_68) hrt_) (hRR _ ⟨_, hrun, hended, _, _, rfl, ?_, hRE.1, hRE.2.1, hRE.2.2.1, hRE.2.2.2.mono (by decide) (by decide)⟩)
    show own_Q0 Z p1 a_NEW a_COMPLETED a_ERROR a_PROCESSING s_NEW b_NEW kb_NEW s_PROCESSING b_PROCESSING kb_PROCESSING s_COMPLETED b_COMPLETED kb_COMPLETED s_ERROR b_ERROR kb_ERROR cs h0 n0 _ T41.heap _
    rw [eq41]
    exact ⟨rfl, N41⟩
  · show own_Go p.tables e below RR (s₁.setTop (mkF m 4 #[.val (.int p1), .val (.int (2 : Int32)), .unset, .unset, .unset, .unset] []))
    show own_Go p.tables e below RR (s₁.setTop (mkF m 4 #[.val (.int p1), .val (.int (2 : Int32)), .unset, .unset, .unset, .unset] []))
    refine own_st (fun _ k => XS.iloadN X0.here hx rfl (hb hby at_4) rfl k) ?_
    show own_Go p.tables e below RR (s₁.setTop (mkF m 5 #[.val (.int p1), .val (.int (2 : Int32)), .unset, .unset, .unset, .unset] [(.int (2 : Int32))]))
    obtain ⟨_, _, ⟨T42, L42, k42, n42⟩, -, X42, ⟨Lc42, hQ42, l42, y42, z42⟩, st42⟩ := Jvm.LawKit.callS X0 hx (y := (⟨"com/example/unstor/unstor/JobStatusIsFinishedPinLaw", "pick", "(I)Lcom/example/unstor/unstor/JobStatus;"⟩ : MethodName)) hown (mvT hZ (hw _ (List.mem_of_getElem? (i := 0) rfl))) (mvT hZ (hw _ (List.mem_of_getElem? (i := 1) rfl))) (mvT hZ (hw _ (List.mem_of_getElem? (i := 2) rfl))) (mvT hZ (hw _ (List.mem_of_getElem? (i := 3) rfl))) (by decide) (backOf (W := 0) (own_rmP l Z a0 hw [] (2 : Int32) a_NEW a_COMPLETED a_ERROR a_PROCESSING a_COMPLETED h0 n0 Z0 S_NEW S_COMPLETED S_ERROR S_PROCESSING rfl) hZ (hw _ (List.mem_of_getElem? (i := 3) rfl)) (hw _ (List.mem_of_getElem? (i := 2) rfl)) (by decide) (by decide)) (g := (mkF m 5 #[.val (.int p1), .val (.int (2 : Int32)), .unset, .unset, .unset, .unset] [(.int (2 : Int32))])) rfl (by rw [hml]; rfl) (argsL := [(.int (2 : Int32))]) (rest := []) (lenOf own_pd__I_Lcom_example_unstor_unstor_JobStatus_ rfl) rfl (by show 2 * 0 + _ ≤ _; exact Nat.le_of_eq rfl) (hb hby at_5) (fun _ _ => ⟨rfl, e0, (by decide : 0 + 0 ≤ _), (by decide : 0 + 0 ≤ _)⟩)
    dsimp only [Pt.U, Pt.locs, Pt.cells, Pt.slots] at X42 l42 y42 z42 st42 hQ42
    subst l42 y42 z42
    obtain ⟨rfl, Nq42, eq42⟩ := hQ42
    have N42 := Fr.app N0 Nq42
    refine own_st st42 ?_
    show own_Go p.tables e below RR (T42.setTop (mkF m 8 #[.val (.int p1), .val (.int (2 : Int32)), .unset, .unset, .unset, .unset] [(.ref a_COMPLETED)]))
    refine own_st (fun _ k => XS.astoreN X42.here hx rfl (hb hby at_8) rfl rfl (l' := #[.val (.int p1), .val (.int (2 : Int32)), .val (.ref a_COMPLETED), .unset, .unset, .unset]) rfl k) ?_
    show own_Go p.tables e below RR (T42.setTop (mkF m 9 #[.val (.int p1), .val (.int (2 : Int32)), .val (.ref a_COMPLETED), .unset, .unset, .unset] []))
    refine own_st (fun _ k => XS.aloadN X42.here hx rfl (hb hby at_9) rfl rfl k) ?_
    show own_Go p.tables e below RR (T42.setTop (mkF m 10 #[.val (.int p1), .val (.int (2 : Int32)), .val (.ref a_COMPLETED), .unset, .unset, .unset] [(.ref a_COMPLETED)]))
    obtain ⟨cq43, kq43, q43a, q43b, q43c⟩ := isOf hZ eq42 E_COMPLETED
    obtain ⟨_, _, ⟨T43, L43, k43, n43⟩, -, X43, ⟨Lc43, hQ43, l43, y43, z43⟩, st43⟩ := X42.virtualBack hx (y := (⟨"com/example/unstor/unstor/JobStatus", "isFinished", "()Z"⟩ : MethodName)) (z := (⟨"com/example/unstor/unstor/JobStatus", "isFinished", "()Z"⟩ : MethodName)) hown (mvT hZ (hw _ (List.mem_of_getElem? (i := 7) rfl))) (mvT hZ (hw _ (List.mem_of_getElem? (i := 8) rfl))) (notFace_of_selects (args := #[]) (mvT hZ (hw _ (List.mem_of_getElem? (i := 10) rfl)))) (mvT hZ (hw _ (List.mem_of_getElem? (i := 10) rfl))) (mvT hZ (hw _ (List.mem_of_getElem? (i := 9) rfl))) (by decide) (backOf (W := 0) (own_rmF l Z a0 hw [] a_COMPLETED a_COMPLETED a_ERROR (1 : Int32) h0 n0 Z0 S_COMPLETED S_ERROR (if_pos rfl)) hZ (hw _ (List.mem_of_getElem? (i := 11) rfl)) (hw _ (List.mem_of_getElem? (i := 5) rfl)) (by decide) (by decide)) q43a q43c (g := (mkF m 10 #[.val (.int p1), .val (.int (2 : Int32)), .val (.ref a_COMPLETED), .unset, .unset, .unset] [(.ref a_COMPLETED)])) rfl (by rw [hml]; rfl) (Steps.refl _) (argsL := []) (rest := []) (lenOf own_pd___Z rfl) rfl (by show 2 * 0 + _ ≤ _; exact Nat.le_of_eq rfl) (hb hby at_10) (fun _ _ => ⟨rfl, eq42, (by decide : 0 + 0 ≤ _), (by decide : 0 + 0 ≤ _)⟩)
    dsimp only [Pt.U, Pt.locs, Pt.cells, Pt.slots] at X43 l43 y43 z43 st43 hQ43
    subst l43 y43 z43
    obtain ⟨rfl, Nq43, eq43⟩ := hQ43
    have N43 := Fr.app N42 Nq43
    refine own_st (fun _ k => st43.trans k) ?_
    show own_Go p.tables e below RR (T43.setTop (mkF m 13 #[.val (.int p1), .val (.int (2 : Int32)), .val (.ref a_COMPLETED), .unset, .unset, .unset] [(.int (1 : Int32))]))
    refine own_st (fun _ k => XS.istoreN X43.here hx rfl (hb hby at_13) rfl (l' := #[.val (.int p1), .val (.int (2 : Int32)), .val (.ref a_COMPLETED), .val (.int (1 : Int32)), .unset, .unset]) rfl k) ?_
    show own_Go p.tables e below RR (T43.setTop (mkF m 14 #[.val (.int p1), .val (.int (2 : Int32)), .val (.ref a_COMPLETED), .val (.int (1 : Int32)), .unset, .unset] []))
    refine own_st (fun _ k => XS.iloadN X43.here hx rfl (hb hby at_14) rfl k) ?_
    show own_Go p.tables e below RR (T43.setTop (mkF m 15 #[.val (.int p1), .val (.int (2 : Int32)), .val (.ref a_COMPLETED), .val (.int (1 : Int32)), .unset, .unset] [(.int (1 : Int32))]))
    refine own_st (fun _ k => XS.iloadN X43.here hx rfl (hb hby at_15) rfl k) ?_
    show own_Go p.tables e below RR (T43.setTop (mkF m 16 #[.val (.int p1), .val (.int (2 : Int32)), .val (.ref a_COMPLETED), .val (.int (1 : Int32)), .unset, .unset] [(.int (2 : Int32)), (.int (1 : Int32))]))
    obtain ⟨_, _, ⟨T44, L44, k44, n44⟩, -, X44, ⟨Lc44, hQ44, l44, y44, z44⟩, st44⟩ := Jvm.LawKit.callS X43 hx (y := (⟨"com/example/unstor/unstor/JobStatusIsFinishedPinLaw", "expected", "(I)Z"⟩ : MethodName)) hown (mvT hZ (hw _ (List.mem_of_getElem? (i := 16) rfl))) (mvT hZ (hw _ (List.mem_of_getElem? (i := 17) rfl))) (mvT hZ (hw _ (List.mem_of_getElem? (i := 2) rfl))) (mvT hZ (hw _ (List.mem_of_getElem? (i := 18) rfl))) (by decide) (backOf (W := 1) (own_rmX l Z a0 hw [] (2 : Int32) (1 : Int32) h0 n0 Z0 rfl) hZ (hw _ (List.mem_of_getElem? (i := 18) rfl)) (hw _ (List.mem_of_getElem? (i := 2) rfl)) (by decide) (by decide)) (g := (mkF m 16 #[.val (.int p1), .val (.int (2 : Int32)), .val (.ref a_COMPLETED), .val (.int (1 : Int32)), .unset, .unset] [(.int (2 : Int32)), (.int (1 : Int32))])) rfl (by rw [hml]; rfl) (argsL := [(.int (2 : Int32))]) (rest := [(.int (1 : Int32))]) (lenOf own_pd__I_Z rfl) rfl (by show 2 * 0 + _ ≤ _; exact Nat.le_of_eq rfl) (hb hby at_16) (fun _ _ => ⟨rfl, eq43, (by decide : 0 + 0 ≤ _), (by decide : 0 + 0 ≤ _)⟩)
    dsimp only [Pt.U, Pt.locs, Pt.cells, Pt.slots] at X44 l44 y44 z44 st44 hQ44
    subst l44 y44 z44
    obtain ⟨rfl, Nq44, eq44⟩ := hQ44
    have N44 := Fr.app N43 Nq44
    refine own_st st44 ?_
    show own_Go p.tables e below RR (T44.setTop (mkF m 19 #[.val (.int p1), .val (.int (2 : Int32)), .val (.ref a_COMPLETED), .val (.int (1 : Int32)), .unset, .unset] [(.int (1 : Int32)), (.int (1 : Int32))]))
    refine own_st (fun _ k => XS.icmpYes X44.here hx rfl (pc0 := 19) (pc' := 24) rfl (hb hby at_19) rfl (teq (by decide)).1 (by decide) (by decide) k) ?_
    show own_Go p.tables e below RR (T44.setTop (mkF m 24 #[.val (.int p1), .val (.int (2 : Int32)), .val (.ref a_COMPLETED), .val (.int (1 : Int32)), .unset, .unset] []))
    refine own_st (fun _ k => XS.aloadN X44.here hx rfl (hb hby at_24) rfl rfl k) ?_
    show own_Go p.tables e below RR (T44.setTop (mkF m 25 #[.val (.int p1), .val (.int (2 : Int32)), .val (.ref a_COMPLETED), .val (.int (1 : Int32)), .unset, .unset] [(.ref a_COMPLETED)]))
    obtain ⟨cq45, kq45, q45a, q45b, q45c⟩ := isOf hZ eq44 E_COMPLETED
    obtain ⟨_, _, ⟨T45, L45, k45, n45⟩, -, X45, ⟨Lc45, hQ45, l45, y45, z45⟩, st45⟩ := X44.virtualBack hx (y := (⟨"com/example/unstor/unstor/JobStatus", "workOrderName", "()Ljava/lang/String;"⟩ : MethodName)) (z := (⟨"com/example/unstor/unstor/JobStatus", "workOrderName", "()Ljava/lang/String;"⟩ : MethodName)) hown (mvT hZ (hw _ (List.mem_of_getElem? (i := 19) rfl))) (mvT hZ (hw _ (List.mem_of_getElem? (i := 20) rfl))) (notFace_of_selects (args := #[]) (mvT hZ (hw _ (List.mem_of_getElem? (i := 22) rfl)))) (mvT hZ (hw _ (List.mem_of_getElem? (i := 22) rfl))) (mvT hZ (hw _ (List.mem_of_getElem? (i := 21) rfl))) (by decide) (backOf (W := 0) (own_rmW l Z a0 hw [] a_COMPLETED s_COMPLETED h0 n0 Z0 Fs_COMPLETED) hZ (hw _ (List.mem_of_getElem? (i := 23) rfl)) (hw _ (List.mem_of_getElem? (i := 5) rfl)) (by decide) (by decide)) q45a q45c (g := (mkF m 25 #[.val (.int p1), .val (.int (2 : Int32)), .val (.ref a_COMPLETED), .val (.int (1 : Int32)), .unset, .unset] [(.ref a_COMPLETED)])) rfl (by rw [hml]; rfl) (Steps.refl _) (argsL := []) (rest := []) (lenOf own_pd___Ljava_lang_String_ rfl) rfl (by show 2 * 0 + _ ≤ _; exact Nat.le_of_eq rfl) (hb hby at_25) (fun _ _ => ⟨rfl, eq44, (by decide : 0 + 0 ≤ _), (by decide : 0 + 0 ≤ _)⟩)
    dsimp only [Pt.U, Pt.locs, Pt.cells, Pt.slots] at X45 l45 y45 z45 st45 hQ45
    subst l45 y45 z45
    obtain ⟨rfl, Nq45, eq45⟩ := hQ45
    have N45 := Fr.app N44 Nq45
    refine own_st (fun _ k => st45.trans k) ?_
    show own_Go p.tables e below RR (T45.setTop (mkF m 28 #[.val (.int p1), .val (.int (2 : Int32)), .val (.ref a_COMPLETED), .val (.int (1 : Int32)), .unset, .unset] [(.ref s_COMPLETED)]))
    refine own_st (fun _ k => XS.astore X45.here hx rfl (hb hby at_28) rfl rfl (l' := #[.val (.int p1), .val (.int (2 : Int32)), .val (.ref a_COMPLETED), .val (.int (1 : Int32)), .val (.ref s_COMPLETED), .unset]) rfl k) ?_
    show own_Go p.tables e below RR (T45.setTop (mkF m 30 #[.val (.int p1), .val (.int (2 : Int32)), .val (.ref a_COMPLETED), .val (.int (1 : Int32)), .val (.ref s_COMPLETED), .unset] []))
    obtain ⟨a46, T46, h46, k46, b46, kb46, X46, e46, E46, hS46, hk46, hZ, hown, Es46, Fc46, Fv46, V46, la46, lb46, ib46, st46⟩ := ldcSV (s := s) (vm0 := s.vm) X45 hx hZ hown (hw _ (List.mem_of_getElem? (i := 26) rfl)) own_wS eq45 ((State.WarmedH.refl s).since 0) (Nat.zero_le _) (by rw [hn0]; exact N45) (fun b cl q => by rw [hUZ]; exact q) ib0 (by decide) hcon40 hcw (vs := [(.int (99 : Int32)), (.int (111 : Int32)), (.int (109 : Int32)), (.int (112 : Int32)), (.int (108 : Int32)), (.int (101 : Int32)), (.int (116 : Int32)), (.int (101 : Int32)), (.int (100 : Int32))]) (z := (9 : Int32)) ⟨by decide, rfl⟩ (by decide) rfl (g := (mkF m 30 #[.val (.int p1), .val (.int (2 : Int32)), .val (.ref a_COMPLETED), .val (.int (1 : Int32)), .val (.ref s_COMPLETED), .unset] [])) rfl (hb hby at_30) (n := 36) (by decide) (by decide) (by decide) (by decide)
    refine own_st st46 ?_
    have z47 : n0 ≤ h46.size := Nat.le_trans Z0 E46.1
    show own_Go p.tables e below RR (T46.setTop (mkF m 32 #[.val (.int p1), .val (.int (2 : Int32)), .val (.ref a_COMPLETED), .val (.int (1 : Int32)), .val (.ref s_COMPLETED), .unset] [(.ref a46)]))
    refine own_st (fun _ k => XS.aload X46.here hx rfl (hb hby at_32) rfl rfl k) ?_
    show own_Go p.tables e below RR (T46.setTop (mkF m 34 #[.val (.int p1), .val (.int (2 : Int32)), .val (.ref a_COMPLETED), .val (.int (1 : Int32)), .val (.ref s_COMPLETED), .unset] [(.ref s_COMPLETED), (.ref a46)]))
    have f48 := (V_COMPLETED.ext E46)
    have f49 := (Fv_COMPLETED.ext E46)
    have f50 := (Es_COMPLETED.ext E46)
    have f51 := (Fc_COMPLETED.ext E46)
    have f52 := (S0.ext E46)
    obtain ⟨cq53, kq53, q53a, q53b, q53c⟩ := isOf hZ e46 Es46
    obtain ⟨_, _, ⟨T53, L53, k53, n53⟩, -, X53, ⟨Lc53, hQ53, l53, y53, z53⟩, st53⟩ := X46.virtualBack hx (y := (⟨"java/lang/String", "equals", "(Ljava/lang/Object;)Z"⟩ : MethodName)) (z := (⟨"java/lang/String", "equals", "(Ljava/lang/Object;)Z"⟩ : MethodName)) hown (mvT hZ (hw _ (List.mem_of_getElem? (i := 34) rfl))) (mvT hZ (hw _ (List.mem_of_getElem? (i := 35) rfl))) (notFace_of_selects (args := #[]) (mvT hZ (hw _ (List.mem_of_getElem? (i := 37) rfl)))) (mvT hZ (hw _ (List.mem_of_getElem? (i := 37) rfl))) (mvT hZ (hw _ (List.mem_of_getElem? (i := 36) rfl))) (by decide) (backOf (W := 0) (own_rmEQ2 l Z a0 hw [] a46 s_COMPLETED b46 b_COMPLETED kb46 kb_COMPLETED cs h46 n0 z47 f50 Fc46 f51 Fv46 f49 V46 f48 f52 hcs) hZ (hw _ (List.mem_of_getElem? (i := 38) rfl)) (hw _ (List.mem_of_getElem? (i := 27) rfl)) (by decide) (by decide)) q53a q53c (g := (mkF m 34 #[.val (.int p1), .val (.int (2 : Int32)), .val (.ref a_COMPLETED), .val (.int (1 : Int32)), .val (.ref s_COMPLETED), .unset] [(.ref s_COMPLETED), (.ref a46)])) rfl (by rw [hml]; rfl) (Steps.refl _) (argsL := [(.ref s_COMPLETED)]) (rest := []) (lenOf own_pd__Ljava_lang_Object__Z rfl) rfl (by show 2 * 0 + _ ≤ _; exact Nat.le_of_eq rfl) (hb hby at_34) (fun _ _ => ⟨rfl, e46, (by decide : 2 + 0 ≤ _), (by decide : 40 + 0 ≤ _)⟩)
    dsimp only [Pt.U, Pt.locs, Pt.cells, Pt.slots] at X53 l53 y53 z53 st53 hQ53
    subst l53 y53 z53
    obtain ⟨rfl, Nq53, eq53⟩ := hQ53
    have N53 := Fr.app N45 Nq53
    refine own_st (fun _ k => st53.trans k) ?_
    show own_Go p.tables e below RR (T53.setTop (mkF m 37 #[.val (.int p1), .val (.int (2 : Int32)), .val (.ref a_COMPLETED), .val (.int (1 : Int32)), .val (.ref s_COMPLETED), .unset] [(.int (1 : Int32))]))
    refine own_st (fun _ k => XS.ifYes X53.here hx rfl (pc0 := 37) (pc' := 50) rfl (hb hby at_37) rfl ((if0 _ _).trans (feq (by decide)).2) (by decide) (by decide) k) ?_
    show own_Go p.tables e below RR (T53.setTop (mkF m 50 #[.val (.int p1), .val (.int (2 : Int32)), .val (.ref a_COMPLETED), .val (.int (1 : Int32)), .val (.ref s_COMPLETED), .unset] []))
    refine own_st (fun _ k => XS.iconst X53.here hx rfl (hb hby at_50) k) ?_
    show own_Go p.tables e below RR (T53.setTop (mkF m 51 #[.val (.int p1), .val (.int (2 : Int32)), .val (.ref a_COMPLETED), .val (.int (1 : Int32)), .val (.ref s_COMPLETED), .unset] [(.int (1 : Int32))]))
    refine own_st (fun _ k => XS.goto X53.here hx rfl (pc0 := 51) (pc' := 55) rfl (hb hby at_51) (by decide) (by decide) k) ?_
    show own_Go p.tables e below RR (T53.setTop (mkF m 55 #[.val (.int p1), .val (.int (2 : Int32)), .val (.ref a_COMPLETED), .val (.int (1 : Int32)), .val (.ref s_COMPLETED), .unset] [(.int (1 : Int32))]))
    refine own_st (fun _ k => XS.istore X53.here hx rfl (hb hby at_55) rfl (l' := #[.val (.int p1), .val (.int (2 : Int32)), .val (.ref a_COMPLETED), .val (.int (1 : Int32)), .val (.ref s_COMPLETED), .val (.int (1 : Int32))]) rfl k) ?_
    show own_Go p.tables e below RR (T53.setTop (mkF m 57 #[.val (.int p1), .val (.int (2 : Int32)), .val (.ref a_COMPLETED), .val (.int (1 : Int32)), .val (.ref s_COMPLETED), .val (.int (1 : Int32))] []))
    refine own_st (fun _ k => XS.iloadN X53.here hx rfl (hb hby at_57) rfl k) ?_
    show own_Go p.tables e below RR (T53.setTop (mkF m 58 #[.val (.int p1), .val (.int (2 : Int32)), .val (.ref a_COMPLETED), .val (.int (1 : Int32)), .val (.ref s_COMPLETED), .val (.int (1 : Int32))] [(.int (1 : Int32))]))
    refine own_st (fun _ k => XS.iload X53.here hx rfl (hb hby at_58) rfl k) ?_
    show own_Go p.tables e below RR (T53.setTop (mkF m 60 #[.val (.int p1), .val (.int (2 : Int32)), .val (.ref a_COMPLETED), .val (.int (1 : Int32)), .val (.ref s_COMPLETED), .val (.int (1 : Int32))] [(.int (1 : Int32)), (.int (1 : Int32))]))
    refine own_st (fun _ k => XS.icmpNo X53.here hx rfl (hb hby at_60) rfl (teq (by decide)).2 k) ?_
    show own_Go p.tables e below RR (T53.setTop (mkF m 63 #[.val (.int p1), .val (.int (2 : Int32)), .val (.ref a_COMPLETED), .val (.int (1 : Int32)), .val (.ref s_COMPLETED), .val (.int (1 : Int32))] []))
    refine own_st (fun _ k => XS.iconst X53.here hx rfl (hb hby at_63) k) ?_
    show own_Go p.tables e below RR (T53.setTop (mkF m 64 #[.val (.int p1), .val (.int (2 : Int32)), .val (.ref a_COMPLETED), .val (.int (1 : Int32)), .val (.ref s_COMPLETED), .val (.int (1 : Int32))] [(.int (1 : Int32))]))
    refine own_st (fun _ k => XS.goto X53.here hx rfl (pc0 := 64) (pc' := 68) rfl (hb hby at_64) (by decide) (by decide) k) ?_
    show own_Go p.tables e below RR (T53.setTop (mkF m 68 #[.val (.int p1), .val (.int (2 : Int32)), .val (.ref a_COMPLETED), .val (.int (1 : Int32)), .val (.ref s_COMPLETED), .val (.int (1 : Int32))] [(.int (1 : Int32))]))
    obtain ⟨fs, hrt_, hrun, hended, hRE⟩ := X53.leaveW hS46 (by rw [eq53]; exact hk46) (v := some (.int (1 : Int32))) (fun h => by rw [Bd.returns] at h; cases h)
    refine own_fin (retN X53 hx (t := .boolean) Bd.returns (by simp) (hb hby at_68) hrt_) (hRR _ ⟨_, hrun, hended, _, _, rfl, ?_, hRE.1, hRE.2.1, hRE.2.2.1, hRE.2.2.2.mono (by decide) (by decide)⟩)
    show own_Q0 Z p1 a_NEW a_COMPLETED a_ERROR a_PROCESSING s_NEW b_NEW kb_NEW s_PROCESSING b_PROCESSING kb_PROCESSING s_COMPLETED b_COMPLETED kb_COMPLETED s_ERROR b_ERROR kb_ERROR cs h0 n0 _ T53.heap _
    rw [eq53]
    exact ⟨rfl, N53⟩
  · show own_Go p.tables e below RR (s₁.setTop (mkF m 4 #[.val (.int p1), .val (.int (3 : Int32)), .unset, .unset, .unset, .unset] []))
    show own_Go p.tables e below RR (s₁.setTop (mkF m 4 #[.val (.int p1), .val (.int (3 : Int32)), .unset, .unset, .unset, .unset] []))
    refine own_st (fun _ k => XS.iloadN X0.here hx rfl (hb hby at_4) rfl k) ?_
    show own_Go p.tables e below RR (s₁.setTop (mkF m 5 #[.val (.int p1), .val (.int (3 : Int32)), .unset, .unset, .unset, .unset] [(.int (3 : Int32))]))
    obtain ⟨_, _, ⟨T54, L54, k54, n54⟩, -, X54, ⟨Lc54, hQ54, l54, y54, z54⟩, st54⟩ := Jvm.LawKit.callS X0 hx (y := (⟨"com/example/unstor/unstor/JobStatusIsFinishedPinLaw", "pick", "(I)Lcom/example/unstor/unstor/JobStatus;"⟩ : MethodName)) hown (mvT hZ (hw _ (List.mem_of_getElem? (i := 0) rfl))) (mvT hZ (hw _ (List.mem_of_getElem? (i := 1) rfl))) (mvT hZ (hw _ (List.mem_of_getElem? (i := 2) rfl))) (mvT hZ (hw _ (List.mem_of_getElem? (i := 3) rfl))) (by decide) (backOf (W := 0) (own_rmP l Z a0 hw [] (3 : Int32) a_NEW a_COMPLETED a_ERROR a_PROCESSING a_ERROR h0 n0 Z0 S_NEW S_COMPLETED S_ERROR S_PROCESSING rfl) hZ (hw _ (List.mem_of_getElem? (i := 3) rfl)) (hw _ (List.mem_of_getElem? (i := 2) rfl)) (by decide) (by decide)) (g := (mkF m 5 #[.val (.int p1), .val (.int (3 : Int32)), .unset, .unset, .unset, .unset] [(.int (3 : Int32))])) rfl (by rw [hml]; rfl) (argsL := [(.int (3 : Int32))]) (rest := []) (lenOf own_pd__I_Lcom_example_unstor_unstor_JobStatus_ rfl) rfl (by show 2 * 0 + _ ≤ _; exact Nat.le_of_eq rfl) (hb hby at_5) (fun _ _ => ⟨rfl, e0, (by decide : 0 + 0 ≤ _), (by decide : 0 + 0 ≤ _)⟩)
    dsimp only [Pt.U, Pt.locs, Pt.cells, Pt.slots] at X54 l54 y54 z54 st54 hQ54
    subst l54 y54 z54
    obtain ⟨rfl, Nq54, eq54⟩ := hQ54
    have N54 := Fr.app N0 Nq54
    refine own_st st54 ?_
    show own_Go p.tables e below RR (T54.setTop (mkF m 8 #[.val (.int p1), .val (.int (3 : Int32)), .unset, .unset, .unset, .unset] [(.ref a_ERROR)]))
    refine own_st (fun _ k => XS.astoreN X54.here hx rfl (hb hby at_8) rfl rfl (l' := #[.val (.int p1), .val (.int (3 : Int32)), .val (.ref a_ERROR), .unset, .unset, .unset]) rfl k) ?_
    show own_Go p.tables e below RR (T54.setTop (mkF m 9 #[.val (.int p1), .val (.int (3 : Int32)), .val (.ref a_ERROR), .unset, .unset, .unset] []))
    refine own_st (fun _ k => XS.aloadN X54.here hx rfl (hb hby at_9) rfl rfl k) ?_
    show own_Go p.tables e below RR (T54.setTop (mkF m 10 #[.val (.int p1), .val (.int (3 : Int32)), .val (.ref a_ERROR), .unset, .unset, .unset] [(.ref a_ERROR)]))
    obtain ⟨cq55, kq55, q55a, q55b, q55c⟩ := isOf hZ eq54 E_ERROR
    obtain ⟨_, _, ⟨T55, L55, k55, n55⟩, -, X55, ⟨Lc55, hQ55, l55, y55, z55⟩, st55⟩ := X54.virtualBack hx (y := (⟨"com/example/unstor/unstor/JobStatus", "isFinished", "()Z"⟩ : MethodName)) (z := (⟨"com/example/unstor/unstor/JobStatus", "isFinished", "()Z"⟩ : MethodName)) hown (mvT hZ (hw _ (List.mem_of_getElem? (i := 7) rfl))) (mvT hZ (hw _ (List.mem_of_getElem? (i := 8) rfl))) (notFace_of_selects (args := #[]) (mvT hZ (hw _ (List.mem_of_getElem? (i := 10) rfl)))) (mvT hZ (hw _ (List.mem_of_getElem? (i := 10) rfl))) (mvT hZ (hw _ (List.mem_of_getElem? (i := 9) rfl))) (by decide) (backOf (W := 0) (own_rmF l Z a0 hw [] a_ERROR a_COMPLETED a_ERROR (1 : Int32) h0 n0 Z0 S_COMPLETED S_ERROR ((if_neg (Fld.ne F_ERROR_ordinal F_COMPLETED_ordinal (by simp))).trans (if_pos rfl))) hZ (hw _ (List.mem_of_getElem? (i := 11) rfl)) (hw _ (List.mem_of_getElem? (i := 5) rfl)) (by decide) (by decide)) q55a q55c (g := (mkF m 10 #[.val (.int p1), .val (.int (3 : Int32)), .val (.ref a_ERROR), .unset, .unset, .unset] [(.ref a_ERROR)])) rfl (by rw [hml]; rfl) (Steps.refl _) (argsL := []) (rest := []) (lenOf own_pd___Z rfl) rfl (by show 2 * 0 + _ ≤ _; exact Nat.le_of_eq rfl) (hb hby at_10) (fun _ _ => ⟨rfl, eq54, (by decide : 0 + 0 ≤ _), (by decide : 0 + 0 ≤ _)⟩)
    dsimp only [Pt.U, Pt.locs, Pt.cells, Pt.slots] at X55 l55 y55 z55 st55 hQ55
    subst l55 y55 z55
    obtain ⟨rfl, Nq55, eq55⟩ := hQ55
    have N55 := Fr.app N54 Nq55
    refine own_st (fun _ k => st55.trans k) ?_
    show own_Go p.tables e below RR (T55.setTop (mkF m 13 #[.val (.int p1), .val (.int (3 : Int32)), .val (.ref a_ERROR), .unset, .unset, .unset] [(.int (1 : Int32))]))
    refine own_st (fun _ k => XS.istoreN X55.here hx rfl (hb hby at_13) rfl (l' := #[.val (.int p1), .val (.int (3 : Int32)), .val (.ref a_ERROR), .val (.int (1 : Int32)), .unset, .unset]) rfl k) ?_
    show own_Go p.tables e below RR (T55.setTop (mkF m 14 #[.val (.int p1), .val (.int (3 : Int32)), .val (.ref a_ERROR), .val (.int (1 : Int32)), .unset, .unset] []))
    refine own_st (fun _ k => XS.iloadN X55.here hx rfl (hb hby at_14) rfl k) ?_
    show own_Go p.tables e below RR (T55.setTop (mkF m 15 #[.val (.int p1), .val (.int (3 : Int32)), .val (.ref a_ERROR), .val (.int (1 : Int32)), .unset, .unset] [(.int (1 : Int32))]))
    refine own_st (fun _ k => XS.iloadN X55.here hx rfl (hb hby at_15) rfl k) ?_
    show own_Go p.tables e below RR (T55.setTop (mkF m 16 #[.val (.int p1), .val (.int (3 : Int32)), .val (.ref a_ERROR), .val (.int (1 : Int32)), .unset, .unset] [(.int (3 : Int32)), (.int (1 : Int32))]))
    obtain ⟨_, _, ⟨T56, L56, k56, n56⟩, -, X56, ⟨Lc56, hQ56, l56, y56, z56⟩, st56⟩ := Jvm.LawKit.callS X55 hx (y := (⟨"com/example/unstor/unstor/JobStatusIsFinishedPinLaw", "expected", "(I)Z"⟩ : MethodName)) hown (mvT hZ (hw _ (List.mem_of_getElem? (i := 16) rfl))) (mvT hZ (hw _ (List.mem_of_getElem? (i := 17) rfl))) (mvT hZ (hw _ (List.mem_of_getElem? (i := 2) rfl))) (mvT hZ (hw _ (List.mem_of_getElem? (i := 18) rfl))) (by decide) (backOf (W := 1) (own_rmX l Z a0 hw [] (3 : Int32) (1 : Int32) h0 n0 Z0 rfl) hZ (hw _ (List.mem_of_getElem? (i := 18) rfl)) (hw _ (List.mem_of_getElem? (i := 2) rfl)) (by decide) (by decide)) (g := (mkF m 16 #[.val (.int p1), .val (.int (3 : Int32)), .val (.ref a_ERROR), .val (.int (1 : Int32)), .unset, .unset] [(.int (3 : Int32)), (.int (1 : Int32))])) rfl (by rw [hml]; rfl) (argsL := [(.int (3 : Int32))]) (rest := [(.int (1 : Int32))]) (lenOf own_pd__I_Z rfl) rfl (by show 2 * 0 + _ ≤ _; exact Nat.le_of_eq rfl) (hb hby at_16) (fun _ _ => ⟨rfl, eq55, (by decide : 0 + 0 ≤ _), (by decide : 0 + 0 ≤ _)⟩)
    dsimp only [Pt.U, Pt.locs, Pt.cells, Pt.slots] at X56 l56 y56 z56 st56 hQ56
    subst l56 y56 z56
    obtain ⟨rfl, Nq56, eq56⟩ := hQ56
    have N56 := Fr.app N55 Nq56
    refine own_st st56 ?_
    show own_Go p.tables e below RR (T56.setTop (mkF m 19 #[.val (.int p1), .val (.int (3 : Int32)), .val (.ref a_ERROR), .val (.int (1 : Int32)), .unset, .unset] [(.int (1 : Int32)), (.int (1 : Int32))]))
    refine own_st (fun _ k => XS.icmpYes X56.here hx rfl (pc0 := 19) (pc' := 24) rfl (hb hby at_19) rfl (teq (by decide)).1 (by decide) (by decide) k) ?_
    show own_Go p.tables e below RR (T56.setTop (mkF m 24 #[.val (.int p1), .val (.int (3 : Int32)), .val (.ref a_ERROR), .val (.int (1 : Int32)), .unset, .unset] []))
    refine own_st (fun _ k => XS.aloadN X56.here hx rfl (hb hby at_24) rfl rfl k) ?_
    show own_Go p.tables e below RR (T56.setTop (mkF m 25 #[.val (.int p1), .val (.int (3 : Int32)), .val (.ref a_ERROR), .val (.int (1 : Int32)), .unset, .unset] [(.ref a_ERROR)]))
    obtain ⟨cq57, kq57, q57a, q57b, q57c⟩ := isOf hZ eq56 E_ERROR
    obtain ⟨_, _, ⟨T57, L57, k57, n57⟩, -, X57, ⟨Lc57, hQ57, l57, y57, z57⟩, st57⟩ := X56.virtualBack hx (y := (⟨"com/example/unstor/unstor/JobStatus", "workOrderName", "()Ljava/lang/String;"⟩ : MethodName)) (z := (⟨"com/example/unstor/unstor/JobStatus", "workOrderName", "()Ljava/lang/String;"⟩ : MethodName)) hown (mvT hZ (hw _ (List.mem_of_getElem? (i := 19) rfl))) (mvT hZ (hw _ (List.mem_of_getElem? (i := 20) rfl))) (notFace_of_selects (args := #[]) (mvT hZ (hw _ (List.mem_of_getElem? (i := 22) rfl)))) (mvT hZ (hw _ (List.mem_of_getElem? (i := 22) rfl))) (mvT hZ (hw _ (List.mem_of_getElem? (i := 21) rfl))) (by decide) (backOf (W := 0) (own_rmW l Z a0 hw [] a_ERROR s_ERROR h0 n0 Z0 Fs_ERROR) hZ (hw _ (List.mem_of_getElem? (i := 23) rfl)) (hw _ (List.mem_of_getElem? (i := 5) rfl)) (by decide) (by decide)) q57a q57c (g := (mkF m 25 #[.val (.int p1), .val (.int (3 : Int32)), .val (.ref a_ERROR), .val (.int (1 : Int32)), .unset, .unset] [(.ref a_ERROR)])) rfl (by rw [hml]; rfl) (Steps.refl _) (argsL := []) (rest := []) (lenOf own_pd___Ljava_lang_String_ rfl) rfl (by show 2 * 0 + _ ≤ _; exact Nat.le_of_eq rfl) (hb hby at_25) (fun _ _ => ⟨rfl, eq56, (by decide : 0 + 0 ≤ _), (by decide : 0 + 0 ≤ _)⟩)
    dsimp only [Pt.U, Pt.locs, Pt.cells, Pt.slots] at X57 l57 y57 z57 st57 hQ57
    subst l57 y57 z57
    obtain ⟨rfl, Nq57, eq57⟩ := hQ57
    have N57 := Fr.app N56 Nq57
    refine own_st (fun _ k => st57.trans k) ?_
    show own_Go p.tables e below RR (T57.setTop (mkF m 28 #[.val (.int p1), .val (.int (3 : Int32)), .val (.ref a_ERROR), .val (.int (1 : Int32)), .unset, .unset] [(.ref s_ERROR)]))
    refine own_st (fun _ k => XS.astore X57.here hx rfl (hb hby at_28) rfl rfl (l' := #[.val (.int p1), .val (.int (3 : Int32)), .val (.ref a_ERROR), .val (.int (1 : Int32)), .val (.ref s_ERROR), .unset]) rfl k) ?_
    show own_Go p.tables e below RR (T57.setTop (mkF m 30 #[.val (.int p1), .val (.int (3 : Int32)), .val (.ref a_ERROR), .val (.int (1 : Int32)), .val (.ref s_ERROR), .unset] []))
    obtain ⟨a58, T58, h58, k58, b58, kb58, X58, e58, E58, hS58, hk58, hZ, hown, Es58, Fc58, Fv58, V58, la58, lb58, ib58, st58⟩ := ldcSV (s := s) (vm0 := s.vm) X57 hx hZ hown (hw _ (List.mem_of_getElem? (i := 26) rfl)) own_wS eq57 ((State.WarmedH.refl s).since 0) (Nat.zero_le _) (by rw [hn0]; exact N57) (fun b cl q => by rw [hUZ]; exact q) ib0 (by decide) hcon40 hcw (vs := [(.int (99 : Int32)), (.int (111 : Int32)), (.int (109 : Int32)), (.int (112 : Int32)), (.int (108 : Int32)), (.int (101 : Int32)), (.int (116 : Int32)), (.int (101 : Int32)), (.int (100 : Int32))]) (z := (9 : Int32)) ⟨by decide, rfl⟩ (by decide) rfl (g := (mkF m 30 #[.val (.int p1), .val (.int (3 : Int32)), .val (.ref a_ERROR), .val (.int (1 : Int32)), .val (.ref s_ERROR), .unset] [])) rfl (hb hby at_30) (n := 36) (by decide) (by decide) (by decide) (by decide)
    refine own_st st58 ?_
    have z59 : n0 ≤ h58.size := Nat.le_trans Z0 E58.1
    show own_Go p.tables e below RR (T58.setTop (mkF m 32 #[.val (.int p1), .val (.int (3 : Int32)), .val (.ref a_ERROR), .val (.int (1 : Int32)), .val (.ref s_ERROR), .unset] [(.ref a58)]))
    refine own_st (fun _ k => XS.aload X58.here hx rfl (hb hby at_32) rfl rfl k) ?_
    show own_Go p.tables e below RR (T58.setTop (mkF m 34 #[.val (.int p1), .val (.int (3 : Int32)), .val (.ref a_ERROR), .val (.int (1 : Int32)), .val (.ref s_ERROR), .unset] [(.ref s_ERROR), (.ref a58)]))
    have f60 := (V_ERROR.ext E58)
    have f61 := (Fv_ERROR.ext E58)
    have f62 := (Es_ERROR.ext E58)
    have f63 := (Fc_ERROR.ext E58)
    have f64 := (S0.ext E58)
    obtain ⟨cq65, kq65, q65a, q65b, q65c⟩ := isOf hZ e58 Es58
    obtain ⟨_, _, ⟨T65, L65, k65, n65⟩, -, X65, ⟨Lc65, hQ65, l65, y65, z65⟩, st65⟩ := X58.virtualBack hx (y := (⟨"java/lang/String", "equals", "(Ljava/lang/Object;)Z"⟩ : MethodName)) (z := (⟨"java/lang/String", "equals", "(Ljava/lang/Object;)Z"⟩ : MethodName)) hown (mvT hZ (hw _ (List.mem_of_getElem? (i := 34) rfl))) (mvT hZ (hw _ (List.mem_of_getElem? (i := 35) rfl))) (notFace_of_selects (args := #[]) (mvT hZ (hw _ (List.mem_of_getElem? (i := 37) rfl)))) (mvT hZ (hw _ (List.mem_of_getElem? (i := 37) rfl))) (mvT hZ (hw _ (List.mem_of_getElem? (i := 36) rfl))) (by decide) (backOf (W := 0) (own_rmEQ3 l Z a0 hw [] a58 s_ERROR b58 b_ERROR kb58 kb_ERROR cs h58 n0 z59 f62 Fc58 f63 Fv58 f61 V58 f60 f64 hcs (Fld.ne Fv58 f61 (fun q => own_arv_ne V58 f60 (by decide) (Value.ref.inj q)))) hZ (hw _ (List.mem_of_getElem? (i := 38) rfl)) (hw _ (List.mem_of_getElem? (i := 27) rfl)) (by decide) (by decide)) q65a q65c (g := (mkF m 34 #[.val (.int p1), .val (.int (3 : Int32)), .val (.ref a_ERROR), .val (.int (1 : Int32)), .val (.ref s_ERROR), .unset] [(.ref s_ERROR), (.ref a58)])) rfl (by rw [hml]; rfl) (Steps.refl _) (argsL := [(.ref s_ERROR)]) (rest := []) (lenOf own_pd__Ljava_lang_Object__Z rfl) rfl (by show 2 * 0 + _ ≤ _; exact Nat.le_of_eq rfl) (hb hby at_34) (fun _ _ => ⟨rfl, e58, (by decide : 2 + 0 ≤ _), (by decide : 40 + 0 ≤ _)⟩)
    dsimp only [Pt.U, Pt.locs, Pt.cells, Pt.slots] at X65 l65 y65 z65 st65 hQ65
    subst l65 y65 z65
    obtain ⟨rfl, Nq65, eq65⟩ := hQ65
    have N65 := Fr.app N57 Nq65
    refine own_st (fun _ k => st65.trans k) ?_
    show own_Go p.tables e below RR (T65.setTop (mkF m 37 #[.val (.int p1), .val (.int (3 : Int32)), .val (.ref a_ERROR), .val (.int (1 : Int32)), .val (.ref s_ERROR), .unset] [(.int (0 : Int32))]))
    refine own_st (fun _ k => XS.ifNo X65.here hx rfl (hb hby at_37) rfl ((if0 _ _).trans (teq (by decide)).2) k) ?_
    show own_Go p.tables e below RR (T65.setTop (mkF m 40 #[.val (.int p1), .val (.int (3 : Int32)), .val (.ref a_ERROR), .val (.int (1 : Int32)), .val (.ref s_ERROR), .unset] []))
    obtain ⟨a66, T66, h66, k66, b66, kb66, X66, e66, E66, hS66, hk66, hZ, hown, Es66, Fc66, Fv66, V66, la66, lb66, ib66, st66⟩ := ldcSV (s := s) (vm0 := T58.vm) X65 hx hZ hown (hw _ (List.mem_of_getElem? (i := 48) rfl)) own_wS eq65 hS58 hk58 (by rw [hn0]; exact N65) (fun b cl q => by rw [hUZ]; exact q) ib58 (by decide) hcon48 hcw (vs := [(.int (102 : Int32)), (.int (97 : Int32)), (.int (105 : Int32)), (.int (108 : Int32)), (.int (101 : Int32)), (.int (100 : Int32))]) (z := (6 : Int32)) ⟨by decide, rfl⟩ (by decide) rfl (g := (mkF m 40 #[.val (.int p1), .val (.int (3 : Int32)), .val (.ref a_ERROR), .val (.int (1 : Int32)), .val (.ref s_ERROR), .unset] [])) rfl (hb hby at_40) (n := 24) (by decide) (by decide) (by decide) (by decide)
    refine own_st st66 ?_
    have z67 : n0 ≤ h66.size := Nat.le_trans z59 E66.1
    show own_Go p.tables e below RR (T66.setTop (mkF m 42 #[.val (.int p1), .val (.int (3 : Int32)), .val (.ref a_ERROR), .val (.int (1 : Int32)), .val (.ref s_ERROR), .unset] [(.ref a66)]))
    refine own_st (fun _ k => XS.aload X66.here hx rfl (hb hby at_42) rfl rfl k) ?_
    show own_Go p.tables e below RR (T66.setTop (mkF m 44 #[.val (.int p1), .val (.int (3 : Int32)), .val (.ref a_ERROR), .val (.int (1 : Int32)), .val (.ref s_ERROR), .unset] [(.ref s_ERROR), (.ref a66)]))
    have f68 := (f60.ext E66)
    have f69 := (f61.ext E66)
    have f70 := (f62.ext E66)
    have f71 := (f63.ext E66)
    have f72 := (f64.ext E66)
    obtain ⟨cq73, kq73, q73a, q73b, q73c⟩ := isOf hZ e66 Es66
    obtain ⟨_, _, ⟨T73, L73, k73, n73⟩, -, X73, ⟨Lc73, hQ73, l73, y73, z73⟩, st73⟩ := X66.virtualBack hx (y := (⟨"java/lang/String", "equals", "(Ljava/lang/Object;)Z"⟩ : MethodName)) (z := (⟨"java/lang/String", "equals", "(Ljava/lang/Object;)Z"⟩ : MethodName)) hown (mvT hZ (hw _ (List.mem_of_getElem? (i := 34) rfl))) (mvT hZ (hw _ (List.mem_of_getElem? (i := 35) rfl))) (notFace_of_selects (args := #[]) (mvT hZ (hw _ (List.mem_of_getElem? (i := 37) rfl)))) (mvT hZ (hw _ (List.mem_of_getElem? (i := 37) rfl))) (mvT hZ (hw _ (List.mem_of_getElem? (i := 36) rfl))) (by decide) (backOf (W := 0) (own_rmEQ6 l Z a0 hw [] a66 s_ERROR b66 b_ERROR kb66 kb_ERROR cs h66 n0 z67 f70 Fc66 f71 Fv66 f69 V66 f68 f72 hcs) hZ (hw _ (List.mem_of_getElem? (i := 38) rfl)) (hw _ (List.mem_of_getElem? (i := 27) rfl)) (by decide) (by decide)) q73a q73c (g := (mkF m 44 #[.val (.int p1), .val (.int (3 : Int32)), .val (.ref a_ERROR), .val (.int (1 : Int32)), .val (.ref s_ERROR), .unset] [(.ref s_ERROR), (.ref a66)])) rfl (by rw [hml]; rfl) (Steps.refl _) (argsL := [(.ref s_ERROR)]) (rest := []) (lenOf own_pd__Ljava_lang_Object__Z rfl) rfl (by show 2 * 0 + _ ≤ _; exact Nat.le_of_eq rfl) (hb hby at_44) (fun _ _ => ⟨rfl, e66, (by decide : 4 + 0 ≤ _), (by decide : 68 + 0 ≤ _)⟩)
    dsimp only [Pt.U, Pt.locs, Pt.cells, Pt.slots] at X73 l73 y73 z73 st73 hQ73
    subst l73 y73 z73
    obtain ⟨rfl, Nq73, eq73⟩ := hQ73
    have N73 := Fr.app N65 Nq73
    refine own_st (fun _ k => st73.trans k) ?_
    show own_Go p.tables e below RR (T73.setTop (mkF m 47 #[.val (.int p1), .val (.int (3 : Int32)), .val (.ref a_ERROR), .val (.int (1 : Int32)), .val (.ref s_ERROR), .unset] [(.int (1 : Int32))]))
    refine own_st (fun _ k => XS.ifNo X73.here hx rfl (hb hby at_47) rfl ((if0 _ _).trans (feq (by decide)).1) k) ?_
    show own_Go p.tables e below RR (T73.setTop (mkF m 50 #[.val (.int p1), .val (.int (3 : Int32)), .val (.ref a_ERROR), .val (.int (1 : Int32)), .val (.ref s_ERROR), .unset] []))
    refine own_st (fun _ k => XS.iconst X73.here hx rfl (hb hby at_50) k) ?_
    show own_Go p.tables e below RR (T73.setTop (mkF m 51 #[.val (.int p1), .val (.int (3 : Int32)), .val (.ref a_ERROR), .val (.int (1 : Int32)), .val (.ref s_ERROR), .unset] [(.int (1 : Int32))]))
    refine own_st (fun _ k => XS.goto X73.here hx rfl (pc0 := 51) (pc' := 55) rfl (hb hby at_51) (by decide) (by decide) k) ?_
    show own_Go p.tables e below RR (T73.setTop (mkF m 55 #[.val (.int p1), .val (.int (3 : Int32)), .val (.ref a_ERROR), .val (.int (1 : Int32)), .val (.ref s_ERROR), .unset] [(.int (1 : Int32))]))
    refine own_st (fun _ k => XS.istore X73.here hx rfl (hb hby at_55) rfl (l' := #[.val (.int p1), .val (.int (3 : Int32)), .val (.ref a_ERROR), .val (.int (1 : Int32)), .val (.ref s_ERROR), .val (.int (1 : Int32))]) rfl k) ?_
    show own_Go p.tables e below RR (T73.setTop (mkF m 57 #[.val (.int p1), .val (.int (3 : Int32)), .val (.ref a_ERROR), .val (.int (1 : Int32)), .val (.ref s_ERROR), .val (.int (1 : Int32))] []))
    refine own_st (fun _ k => XS.iloadN X73.here hx rfl (hb hby at_57) rfl k) ?_
    show own_Go p.tables e below RR (T73.setTop (mkF m 58 #[.val (.int p1), .val (.int (3 : Int32)), .val (.ref a_ERROR), .val (.int (1 : Int32)), .val (.ref s_ERROR), .val (.int (1 : Int32))] [(.int (1 : Int32))]))
    refine own_st (fun _ k => XS.iload X73.here hx rfl (hb hby at_58) rfl k) ?_
    show own_Go p.tables e below RR (T73.setTop (mkF m 60 #[.val (.int p1), .val (.int (3 : Int32)), .val (.ref a_ERROR), .val (.int (1 : Int32)), .val (.ref s_ERROR), .val (.int (1 : Int32))] [(.int (1 : Int32)), (.int (1 : Int32))]))
    refine own_st (fun _ k => XS.icmpNo X73.here hx rfl (hb hby at_60) rfl (teq (by decide)).2 k) ?_
    show own_Go p.tables e below RR (T73.setTop (mkF m 63 #[.val (.int p1), .val (.int (3 : Int32)), .val (.ref a_ERROR), .val (.int (1 : Int32)), .val (.ref s_ERROR), .val (.int (1 : Int32))] []))
    refine own_st (fun _ k => XS.iconst X73.here hx rfl (hb hby at_63) k) ?_
    show own_Go p.tables e below RR (T73.setTop (mkF m 64 #[.val (.int p1), .val (.int (3 : Int32)), .val (.ref a_ERROR), .val (.int (1 : Int32)), .val (.ref s_ERROR), .val (.int (1 : Int32))] [(.int (1 : Int32))]))
    refine own_st (fun _ k => XS.goto X73.here hx rfl (pc0 := 64) (pc' := 68) rfl (hb hby at_64) (by decide) (by decide) k) ?_
    show own_Go p.tables e below RR (T73.setTop (mkF m 68 #[.val (.int p1), .val (.int (3 : Int32)), .val (.ref a_ERROR), .val (.int (1 : Int32)), .val (.ref s_ERROR), .val (.int (1 : Int32))] [(.int (1 : Int32))]))
    obtain ⟨fs, hrt_, hrun, hended, hRE⟩ := X73.leaveW hS66 (by rw [eq73]; exact hk66) (v := some (.int (1 : Int32))) (fun h => by rw [Bd.returns] at h; cases h)
    refine own_fin (retN X73 hx (t := .boolean) Bd.returns (by simp) (hb hby at_68) hrt_) (hRR _ ⟨_, hrun, hended, _, _, rfl, ?_, hRE.1, hRE.2.1, hRE.2.2.1, hRE.2.2.2.mono (by decide) (by decide)⟩)
    show own_Q0 Z p1 a_NEW a_COMPLETED a_ERROR a_PROCESSING s_NEW b_NEW kb_NEW s_PROCESSING b_PROCESSING kb_PROCESSING s_COMPLETED b_COMPLETED kb_COMPLETED s_ERROR b_ERROR kb_ERROR cs h0 n0 _ T73.heap _
    rw [eq73]
    exact ⟨rfl, N73⟩
set_option maxRecDepth 65536 in
set_option maxHeartbeats 40000000 in
theorem own_comes {Post : Tables → Env → Array Value → State → Outcome → State → Prop} (hpost : ∀ tb e args s v u, (limb_1_1.after args s (.returned v) u = true ∧ limb_1_2.after args s (.returned v) u = true ∧ True) → ReturnedEndW s (.returned v) u (Jvm.fieldLocs frame_1_writes args s ++ Jvm.arrayLocs frame_1_arrays args s ++ Jvm.staticLocs frame_1_statics s) 8 2112 → Post tb e args s (.returned v) u) :
    ArmFor flags0 classFile x code maxLocals ret World_1 tables_1 room_1 Calls_1 rest_1 Pre_1 Post := by
  intro l hfl _ _ p e ha hc hk s m args below hf hA hF happ hP
  obtain ⟨hcalls, hrest, hpre⟩ := hP
  obtain ⟨-, -, -, hnamed, -, -, -, hat⟩ := (Spec.applies_iff hf).mp happ
  obtain ⟨hg, hn⟩ := and_e (Cond.before_iff.mp (show (Jvm.Cond.and given_1 narrow_1).before args s = true from hpre))
  obtain ⟨u1a, u1b⟩ := and_e hg
  obtain ⟨w0, rfl⟩ : ∃ w0 : Value, args = #[w0] := by
    have hs : args.size = 1 := by simpa [Cond.value, given_1] using u1a
    obtain ⟨L⟩ := args
    match L, hs with
    | [w0], _ => exact ⟨w0, rfl⟩
  have hw := fun d (hd : d ∈ tables_1) => atoms_spec (ws := Jvm.Cond.code x code maxLocals ret :: tables_1) hat d (List.mem_cons_of_mem _ hd)
  have hfit : Fit s := fun {y c} hc i hi => by
    obtain ⟨ha, rfl⟩ := Array.getElem?_eq_some_iff.mp hc
    have q := List.all_eq_true.mp ((Array.all_eq_true_iff_forall_mem.mp hF) _ (Array.getElem_mem ha)) i (List.mem_range.mpr hi)
    simpa [Array.getElem?_eq_getElem hi] using q
  obtain ⟨hsets, hown0⟩ := atoms_of _ (rest_1_c_eq ▸ (show rest_1_c.before _ s = true from hrest))
  have hr0 := Cond.before_iff.mp hown0
  obtain ⟨i0, ei0⟩ := is_v u1b
  obtain rfl : w0 = (.int i0) := Option.some.inj ei0
  obtain ⟨u101a, u101b⟩ := and_e hn
  obtain ⟨u102a, u102b⟩ := and_e u101b
  obtain ⟨u103a, u103b⟩ := and_e u102b
  obtain ⟨u104a, u104b⟩ := and_e u103b
  obtain ⟨u105a, u105b⟩ := and_e u104b
  obtain ⟨u106a, u106b⟩ := and_e u105b
  obtain ⟨u107a, u107b⟩ := and_e u106b
  obtain ⟨u108a, u108b⟩ := and_e u107b
  obtain ⟨u109a, u109b⟩ := and_e u108b
  obtain ⟨u110a, u110b⟩ := and_e u109b
  obtain ⟨u111a, u111b⟩ := and_e u110b
  obtain ⟨u112a, u112b⟩ := and_e u111b
  obtain ⟨u113a, u113b⟩ := and_e u112b
  obtain ⟨u114a, u114b⟩ := and_e u113b
  obtain ⟨u115a, u115b⟩ := and_e u114b
  obtain ⟨u116a, u116b⟩ := and_e u115b
  obtain ⟨u117a, u117b⟩ := and_e u116b
  obtain ⟨u118a, u118b⟩ := and_e u117b
  obtain ⟨u119a, u119b⟩ := and_e u118b
  obtain ⟨u120a, u120b⟩ := and_e u119b
  obtain ⟨u121a, u121b⟩ := and_e u120b
  obtain ⟨u122a, u122b⟩ := and_e u121b
  obtain ⟨u123a, u123b⟩ := and_e u122b
  obtain ⟨u124a, u124b⟩ := and_e u123b
  obtain ⟨u125a, u125b⟩ := and_e u124b
  obtain ⟨u126a, u126b⟩ := and_e u125b
  obtain ⟨u127a, u127b⟩ := and_e u126b
  obtain ⟨u128a, u128b⟩ := and_e u127b
  obtain ⟨u129a, u129b⟩ := and_e u128b
  obtain ⟨u130a, u130b⟩ := and_e u129b
  obtain ⟨u131a, u131b⟩ := and_e u130b
  obtain ⟨u132a, u132b⟩ := and_e u131b
  obtain ⟨u133a, u133b⟩ := and_e u132b
  obtain ⟨u134a, u134b⟩ := and_e u133b
  obtain ⟨u135a, u135b⟩ := and_e u134b
  obtain ⟨u136a, u136b⟩ := and_e u135b
  obtain ⟨u137a, u137b⟩ := and_e u136b
  obtain ⟨u138a, u138b⟩ := and_e u137b
  obtain ⟨u139a, u139b⟩ := and_e u138b
  obtain ⟨u140a, u140b⟩ := and_e u139b
  obtain ⟨u141a, u141b⟩ := and_e u140b
  obtain ⟨u142a, u142b⟩ := and_e u141b
  obtain ⟨u143a, u143b⟩ := and_e u142b
  obtain ⟨u144a, u144b⟩ := and_e u143b
  obtain ⟨u145a, u145b⟩ := and_e u144b
  obtain ⟨u146a, u146b⟩ := and_e u145b
  obtain ⟨u147a, u147b⟩ := and_e u146b
  obtain ⟨u148a, u148b⟩ := and_e u147b
  obtain ⟨u149a, u149b⟩ := and_e u148b
  obtain ⟨u150a, u150b⟩ := and_e u149b
  obtain ⟨u151a, u151b⟩ := and_e u150b
  obtain ⟨u152a, u152b⟩ := and_e u151b
  obtain ⟨u153a, u153b⟩ := and_e u152b
  obtain ⟨u154a, u154b⟩ := and_e u153b
  obtain ⟨a_NEW, v_NEW⟩ := exa_v u101a
  have E_NEW := Exa.start v_NEW u101a
  have S_NEW := Sta.start v_NEW (Or.inr ⟨(hw _ (List.mem_of_getElem? (i := 5) rfl)), (hw _ (List.mem_of_getElem? (i := 6) rfl))⟩)
  obtain ⟨a_COMPLETED, v_COMPLETED⟩ := exa_v u102a
  have E_COMPLETED := Exa.start v_COMPLETED u102a
  have S_COMPLETED := Sta.start v_COMPLETED (Or.inr ⟨(hw _ (List.mem_of_getElem? (i := 5) rfl)), (hw _ (List.mem_of_getElem? (i := 13) rfl))⟩)
  have F_NEW_ordinal := Fld.start ((fld_at v_NEW).symm.trans (own_eq_int u103a))
  have F_COMPLETED_ordinal := Fld.start ((fld_at v_COMPLETED).symm.trans (own_eq_int u104a))
  obtain ⟨a_ERROR, v_ERROR⟩ := exa_v u105a
  have E_ERROR := Exa.start v_ERROR u105a
  have S_ERROR := Sta.start v_ERROR (Or.inr ⟨(hw _ (List.mem_of_getElem? (i := 5) rfl)), (hw _ (List.mem_of_getElem? (i := 15) rfl))⟩)
  have F_ERROR_ordinal := Fld.start ((fld_at v_ERROR).symm.trans (own_eq_int u106a))
  obtain ⟨a_PROCESSING, v_PROCESSING⟩ := exa_v u119a
  have E_PROCESSING := Exa.start v_PROCESSING u119a
  have S_PROCESSING := Sta.start v_PROCESSING (Or.inr ⟨(hw _ (List.mem_of_getElem? (i := 5) rfl)), (hw _ (List.mem_of_getElem? (i := 52) rfl))⟩)
  have F_PROCESSING_ordinal := Fld.start ((fld_at v_PROCESSING).symm.trans (own_eq_int u120a))
  obtain ⟨s_NEW, vs_NEW⟩ := exa_v u107a
  have Es_NEW := Exa.start vs_NEW u107a
  have Fs_NEW := Fld.start ((fld_at v_NEW).symm.trans vs_NEW)
  have Fc_NEW := Fld.start ((fld_at vs_NEW).symm.trans (own_eq_int u108a))
  obtain ⟨b_NEW, vb_NEW⟩ := arr_v u109a
  have Fv_NEW := Fld.start ((fld_at vs_NEW).symm.trans vb_NEW)
  obtain ⟨c_NEW, Ac_NEW⟩ := Arr.start vb_NEW u109a
  have at_NEW : s.arrayAt? b_NEW = some c_NEW := Arr.fin (Vm.Alike.refl _) Ac_NEW
  have lt_NEW := SBG.length_lt vb_NEW at_NEW (own_eq_int u110a)
  have V_NEW : Arv s s.heap b_NEW c_NEW.cls .byte (8 : Int32) [(.int (114 : Int32)), (.int (101 : Int32)), (.int (99 : Int32)), (.int (101 : Int32)), (.int (105 : Int32)), (.int (118 : Int32)), (.int (101 : Int32)), (.int (100 : Int32))] (.int (0 : Int32)) := Arv.start hfit Ac_NEW lt_NEW (own_lenE (len_f vb_NEW at_NEW lt_NEW) (own_eq_int u110a)) (by decide) rfl ⟨(elem_f (j := (0 : Int32)) vb_NEW rfl at_NEW (by decide)).symm.trans (own_eq_int u125a), (elem_f (j := (1 : Int32)) vb_NEW rfl at_NEW (by decide)).symm.trans (own_eq_int u126a), (elem_f (j := (2 : Int32)) vb_NEW rfl at_NEW (by decide)).symm.trans (own_eq_int u127a), (elem_f (j := (3 : Int32)) vb_NEW rfl at_NEW (by decide)).symm.trans (own_eq_int u128a), (elem_f (j := (4 : Int32)) vb_NEW rfl at_NEW (by decide)).symm.trans (own_eq_int u129a), (elem_f (j := (5 : Int32)) vb_NEW rfl at_NEW (by decide)).symm.trans (own_eq_int u130a), (elem_f (j := (6 : Int32)) vb_NEW rfl at_NEW (by decide)).symm.trans (own_eq_int u131a), (elem_f (j := (7 : Int32)) vb_NEW rfl at_NEW (by decide)).symm.trans (own_eq_int u132a), trivial⟩
  obtain ⟨s_PROCESSING, vs_PROCESSING⟩ := exa_v u121a
  have Es_PROCESSING := Exa.start vs_PROCESSING u121a
  have Fs_PROCESSING := Fld.start ((fld_at v_PROCESSING).symm.trans vs_PROCESSING)
  have Fc_PROCESSING := Fld.start ((fld_at vs_PROCESSING).symm.trans (own_eq_int u122a))
  obtain ⟨b_PROCESSING, vb_PROCESSING⟩ := arr_v u123a
  have Fv_PROCESSING := Fld.start ((fld_at vs_PROCESSING).symm.trans vb_PROCESSING)
  obtain ⟨c_PROCESSING, Ac_PROCESSING⟩ := Arr.start vb_PROCESSING u123a
  have at_PROCESSING : s.arrayAt? b_PROCESSING = some c_PROCESSING := Arr.fin (Vm.Alike.refl _) Ac_PROCESSING
  have lt_PROCESSING := SBG.length_lt vb_PROCESSING at_PROCESSING (own_eq_int u124a)
  have V_PROCESSING : Arv s s.heap b_PROCESSING c_PROCESSING.cls .byte (8 : Int32) [(.int (105 : Int32)), (.int (110 : Int32)), (.int (103 : Int32)), (.int (101 : Int32)), (.int (115 : Int32)), (.int (116 : Int32)), (.int (101 : Int32)), (.int (100 : Int32))] (.int (0 : Int32)) := Arv.start hfit Ac_PROCESSING lt_PROCESSING (own_lenE (len_f vb_PROCESSING at_PROCESSING lt_PROCESSING) (own_eq_int u124a)) (by decide) rfl ⟨(elem_f (j := (0 : Int32)) vb_PROCESSING rfl at_PROCESSING (by decide)).symm.trans (own_eq_int u148a), (elem_f (j := (1 : Int32)) vb_PROCESSING rfl at_PROCESSING (by decide)).symm.trans (own_eq_int u149a), (elem_f (j := (2 : Int32)) vb_PROCESSING rfl at_PROCESSING (by decide)).symm.trans (own_eq_int u150a), (elem_f (j := (3 : Int32)) vb_PROCESSING rfl at_PROCESSING (by decide)).symm.trans (own_eq_int u151a), (elem_f (j := (4 : Int32)) vb_PROCESSING rfl at_PROCESSING (by decide)).symm.trans (own_eq_int u152a), (elem_f (j := (5 : Int32)) vb_PROCESSING rfl at_PROCESSING (by decide)).symm.trans (own_eq_int u153a), (elem_f (j := (6 : Int32)) vb_PROCESSING rfl at_PROCESSING (by decide)).symm.trans (own_eq_int u154a), (elem_f (j := (7 : Int32)) vb_PROCESSING rfl at_PROCESSING (by decide)).symm.trans (own_eq_int u154b), trivial⟩
  obtain ⟨s_COMPLETED, vs_COMPLETED⟩ := exa_v u115a
  have Es_COMPLETED := Exa.start vs_COMPLETED u115a
  have Fs_COMPLETED := Fld.start ((fld_at v_COMPLETED).symm.trans vs_COMPLETED)
  have Fc_COMPLETED := Fld.start ((fld_at vs_COMPLETED).symm.trans (own_eq_int u116a))
  obtain ⟨b_COMPLETED, vb_COMPLETED⟩ := arr_v u117a
  have Fv_COMPLETED := Fld.start ((fld_at vs_COMPLETED).symm.trans vb_COMPLETED)
  obtain ⟨c_COMPLETED, Ac_COMPLETED⟩ := Arr.start vb_COMPLETED u117a
  have at_COMPLETED : s.arrayAt? b_COMPLETED = some c_COMPLETED := Arr.fin (Vm.Alike.refl _) Ac_COMPLETED
  have lt_COMPLETED := SBG.length_lt vb_COMPLETED at_COMPLETED (own_eq_int u118a)
  have V_COMPLETED : Arv s s.heap b_COMPLETED c_COMPLETED.cls .byte (9 : Int32) [(.int (99 : Int32)), (.int (111 : Int32)), (.int (109 : Int32)), (.int (112 : Int32)), (.int (108 : Int32)), (.int (101 : Int32)), (.int (116 : Int32)), (.int (101 : Int32)), (.int (100 : Int32))] (.int (0 : Int32)) := Arv.start hfit Ac_COMPLETED lt_COMPLETED (own_lenE (len_f vb_COMPLETED at_COMPLETED lt_COMPLETED) (own_eq_int u118a)) (by decide) rfl ⟨(elem_f (j := (0 : Int32)) vb_COMPLETED rfl at_COMPLETED (by decide)).symm.trans (own_eq_int u139a), (elem_f (j := (1 : Int32)) vb_COMPLETED rfl at_COMPLETED (by decide)).symm.trans (own_eq_int u140a), (elem_f (j := (2 : Int32)) vb_COMPLETED rfl at_COMPLETED (by decide)).symm.trans (own_eq_int u141a), (elem_f (j := (3 : Int32)) vb_COMPLETED rfl at_COMPLETED (by decide)).symm.trans (own_eq_int u142a), (elem_f (j := (4 : Int32)) vb_COMPLETED rfl at_COMPLETED (by decide)).symm.trans (own_eq_int u143a), (elem_f (j := (5 : Int32)) vb_COMPLETED rfl at_COMPLETED (by decide)).symm.trans (own_eq_int u144a), (elem_f (j := (6 : Int32)) vb_COMPLETED rfl at_COMPLETED (by decide)).symm.trans (own_eq_int u145a), (elem_f (j := (7 : Int32)) vb_COMPLETED rfl at_COMPLETED (by decide)).symm.trans (own_eq_int u146a), (elem_f (j := (8 : Int32)) vb_COMPLETED rfl at_COMPLETED (by decide)).symm.trans (own_eq_int u147a), trivial⟩
  obtain ⟨s_ERROR, vs_ERROR⟩ := exa_v u111a
  have Es_ERROR := Exa.start vs_ERROR u111a
  have Fs_ERROR := Fld.start ((fld_at v_ERROR).symm.trans vs_ERROR)
  have Fc_ERROR := Fld.start ((fld_at vs_ERROR).symm.trans (own_eq_int u112a))
  obtain ⟨b_ERROR, vb_ERROR⟩ := arr_v u113a
  have Fv_ERROR := Fld.start ((fld_at vs_ERROR).symm.trans vb_ERROR)
  obtain ⟨c_ERROR, Ac_ERROR⟩ := Arr.start vb_ERROR u113a
  have at_ERROR : s.arrayAt? b_ERROR = some c_ERROR := Arr.fin (Vm.Alike.refl _) Ac_ERROR
  have lt_ERROR := SBG.length_lt vb_ERROR at_ERROR (own_eq_int u114a)
  have V_ERROR : Arv s s.heap b_ERROR c_ERROR.cls .byte (6 : Int32) [(.int (102 : Int32)), (.int (97 : Int32)), (.int (105 : Int32)), (.int (108 : Int32)), (.int (101 : Int32)), (.int (100 : Int32))] (.int (0 : Int32)) := Arv.start hfit Ac_ERROR lt_ERROR (own_lenE (len_f vb_ERROR at_ERROR lt_ERROR) (own_eq_int u114a)) (by decide) rfl ⟨(elem_f (j := (0 : Int32)) vb_ERROR rfl at_ERROR (by decide)).symm.trans (own_eq_int u133a), (elem_f (j := (1 : Int32)) vb_ERROR rfl at_ERROR (by decide)).symm.trans (own_eq_int u134a), (elem_f (j := (2 : Int32)) vb_ERROR rfl at_ERROR (by decide)).symm.trans (own_eq_int u135a), (elem_f (j := (3 : Int32)) vb_ERROR rfl at_ERROR (by decide)).symm.trans (own_eq_int u136a), (elem_f (j := (4 : Int32)) vb_ERROR rfl at_ERROR (by decide)).symm.trans (own_eq_int u137a), (elem_f (j := (5 : Int32)) vb_ERROR rfl at_ERROR (by decide)).symm.trans (own_eq_int u138a), trivial⟩
  obtain ⟨cs, ecs⟩ := is_v (Cond.before_iff.mp (hsets _ (List.mem_of_getElem? (i := 1) rfl)))
  have S0 := Sta.start ecs (Or.inl (hsets _ (List.mem_of_getElem? (i := 0) rfl)))
  have hcs := own_nz0 (Cond.before_iff.mp (hsets _ (List.mem_of_getElem? (i := 2) rfl))) ecs
  have hc40 : Jvm.Lit.constHeld s "com/example/unstor/unstor/JobStatusIsFinishedPinLaw" 40 := hcalls.1 ("com/example/unstor/unstor/JobStatusIsFinishedPinLaw", 40) (List.mem_of_getElem? (i := 0) rfl)
  have hc48 : Jvm.Lit.constHeld s "com/example/unstor/unstor/JobStatusIsFinishedPinLaw" 48 := hcalls.1 ("com/example/unstor/unstor/JobStatusIsFinishedPinLaw", 48) (List.mem_of_getElem? (i := 1) rfl)
  obtain ⟨n, o, h1, h2, h3, _, L, rfl, ⟨rfl, N⟩, hq⟩ := own_rm0 l s _ hw tables_1 i0 a_NEW a_COMPLETED a_ERROR a_PROCESSING s_NEW b_NEW c_NEW.cls s_PROCESSING b_PROCESSING c_PROCESSING.cls s_COMPLETED b_COMPLETED c_COMPLETED.cls s_ERROR b_ERROR c_ERROR.cls cs s.heap s.heap.size (Nat.le_refl _) E_NEW S_NEW E_COMPLETED S_COMPLETED F_NEW_ordinal F_COMPLETED_ordinal E_ERROR S_ERROR F_ERROR_ordinal E_PROCESSING S_PROCESSING F_PROCESSING_ordinal Es_NEW Fs_NEW Fc_NEW Fv_NEW V_NEW Es_PROCESSING Fs_PROCESSING Fc_PROCESSING Fv_PROCESSING V_PROCESSING Es_COMPLETED Fs_COMPLETED Fc_COMPLETED Fv_COMPLETED V_COMPLETED Es_ERROR Fs_ERROR Fc_ERROR Fv_ERROR V_ERROR S0 hcs (hsets _ (List.mem_of_getElem? (i := 2) rfl)) hc40 hc48 p e ha hc hk s m _ below hf ((Spec.applies_iff_loose hf).mp happ).1 ⟨rfl, rfl, rfl, rfl⟩ trivial
  refine ⟨n, _, h1, h2, h3, hpost _ _ _ _ _ _ ⟨Cond.after_iff.mpr rfl, Cond.after_iff.mpr (eq_i res_at (Term.int_eval (1)) rfl), trivial⟩ ⟨hq.1, hq.2.1, hq.2.2.1, (hq.2.2.2.sift fun y hy => Or.inr (N y hy)).mono (by decide) (by decide)⟩⟩
theorem main_1_1 : Claimed_1_1 := own_comes fun _ _ _ _ _ _ h hF => ⟨h.1, hF⟩
theorem main_1_2 : Claimed_1_2 := own_comes fun _ _ _ _ _ _ h hF => ⟨h.2.1, hF⟩
end Jvm.Pilot.@@N@@
namespace Jvm.Pilot.@@N@@
open Jvm Jvm.ClassFile Sem Op Lib Jvm.Free Jvm.Stand Jvm.Pilot.@@N@@.Jvm.D
/-! MADE BY PROGRAM (witnessworld.py) out of the Statement's table words and the real class files: 16 classes; the members and pool entries that the words name. The judged class is class 1, her method 3. -/
namespace start1
open Jvm.ClassFile
def u (s : String) : CpInfo := .utf8 (stringToUtf16 s)
/-- a pool by its gaps: so many unusable entries, then the entry; so many at the end -/
def gap : Nat → List CpInfo → List CpInfo
  | 0, r => r
  | n + 1, r => .unusable :: gap n r
def poolList (es : List (Nat × CpInfo)) (last : Nat) : List CpInfo := es.foldr (fun e r => gap e.1 (e.2 :: r)) (gap last [])
def pool (es : List (Nat × CpInfo)) (last : Nat) : Array CpInfo := ⟨poolList es last⟩
def fileOf (pool : Array CpInfo) (this : Nat) (attrs : Array Attribute := #[]) (ms : Array MethodInfo := #[]) (fl : Nat := 33) (sup : Nat := 0) (ifs : Array Nat := #[]) (fds : Array FieldInfo := #[]) : ClassFile where
  minorVersion := 0
  majorVersion := 65
  constantPool := pool
  accessFlags := fl
  thisClass := this
  superClass := sup
  interfaces := ifs
  fields := fds
  methods := ms
  attributes := attrs
def plain (name : String) (sup : Option ClassId) : Class where
  name := name
  kind := .ordinary
  loader := none
  accessFlags := 33
  super := sup
  interfaces := #[]
  cf := none
  fields := #[]
  methods := #[]
  instanceTypes := #[]
  staticTypes := #[]
  resolved := #[]
  callSites := []
  init := .initialized
  statics := none
  mirror := none

def pool0 : Array CpInfo := pool [(5, u "<init>"), (0, u "()V"), (1, .class_ 10), (1, u "java/lang/Object")] 113

def k0m0 : Method := { name := "<init>", desc := "()V", sig := { parameters := [], returnType := none }, accessFlags := 1, code := none }
/-- java/lang/Object -/
def k0 : Class := { plain "java/lang/Object" none with
  accessFlags := 33
  interfaces := #[]
  cf := some (fileOf pool0 8 #[] #[{ accessFlags := 1, nameIndex := 5, descriptorIndex := 6, attributes := #[] }] 33 0 #[] #[])
  fields := #[]
  methods := #[k0m0]
  instanceTypes := #[]
  staticTypes := #[]
  resolved := Array.replicate 124 none
  statics := none }

def pool1 : Array CpInfo := pool [(2, .class_ 4), (1, u "java/lang/Object"), (0, u "<init>"), (0, u "()V"), (0, .fieldref 8 9), (0, .class_ 10), (0, .nameAndType 11 12), (0, u "com/example/unstor/unstor/JobStatus"), (0, u "NEW"), (0, u "Lcom/example/unstor/unstor/JobStatus;"), (0, .fieldref 8 14), (0, .nameAndType 15 12), (0, u "PROCESSING"), (0, .fieldref 8 17), (0, .nameAndType 18 12), (0, u "COMPLETED"), (0, .fieldref 8 20), (0, .nameAndType 21 12), (0, u "ERROR"), (0, .methodref 23 24), (0, .class_ 25), (0, .nameAndType 26 27), (0, u "com/example/unstor/unstor/JobStatusIsFinishedPinLaw"), (0, u "pick"), (0, u "(I)Lcom/example/unstor/unstor/JobStatus;"), (0, .methodref 8 29), (0, .nameAndType 30 31), (0, u "isFinished"), (0, u "()Z"), (0, .methodref 23 33), (0, .nameAndType 34 35), (0, u "expected"), (0, u "(I)Z"), (0, .methodref 8 37), (0, .nameAndType 38 39), (0, u "workOrderName"), (0, u "()Ljava/lang/String;"), (0, .string 41), (0, u "completed"), (0, .methodref 43 44), (0, .class_ 45), (0, .nameAndType 46 47), (0, u "java/lang/String"), (0, u "equals"), (0, u "(Ljava/lang/Object;)Z"), (0, .string 49), (0, u "failed"), (3, u "law")] 2

def k1m0 : Method := { name := "<init>", desc := "()V", sig := { parameters := [], returnType := none }, accessFlags := 1, code := none }
def k1c1 : Code := { maxStack := 2, maxLocals := 1, code := method_2_code, exceptionTable := #[], attributes := #[] }
def k1m1 : Method := { name := "pick", desc := "(I)Lcom/example/unstor/unstor/JobStatus;", sig := { parameters := [.int], returnType := some (.object "com/example/unstor/unstor/JobStatus") }, accessFlags := 10, code := some k1c1 }
def k1c2 : Code := { maxStack := 2, maxLocals := 1, code := method_3_code, exceptionTable := #[], attributes := #[] }
def k1m2 : Method := { name := "expected", desc := "(I)Z", sig := { parameters := [.int], returnType := some .boolean }, accessFlags := 10, code := some k1c2 }
def k1c3 : Code := { maxStack := 2, maxLocals := 6, code := code, exceptionTable := #[], attributes := #[] }
def k1m3 : Method := { name := "law", desc := "(I)Z", sig := { parameters := [.int], returnType := some .boolean }, accessFlags := 9, code := some k1c3 }
/-- com/example/unstor/unstor/JobStatusIsFinishedPinLaw -/
def k1 : Class := { plain "com/example/unstor/unstor/JobStatusIsFinishedPinLaw" (some 0) with
  accessFlags := 49
  interfaces := #[]
  cf := some (fileOf pool1 23 #[] #[{ accessFlags := 1, nameIndex := 5, descriptorIndex := 6, attributes := #[] }, { accessFlags := 10, nameIndex := 26, descriptorIndex := 27, attributes := #[] }, { accessFlags := 10, nameIndex := 34, descriptorIndex := 35, attributes := #[] }, { accessFlags := 9, nameIndex := 53, descriptorIndex := 35, attributes := #[] }] 49 2 #[] #[])
  fields := #[]
  methods := #[k1m0, k1m1, k1m2, k1m3]
  instanceTypes := #[]
  staticTypes := #[]
  resolved := Array.replicate 56 none
  statics := none }

def pool2 : Array CpInfo := pool [(1, .class_ 2), (0, u "java/lang/constant/Constable"), (0, .class_ 4), (0, u "java/lang/Object")] 6

/-- java/lang/constant/Constable -/
def k2 : Class := { plain "java/lang/constant/Constable" (some 0) with
  accessFlags := 1537
  interfaces := #[]
  cf := some (fileOf pool2 1 #[] #[] 1537 3 #[] #[])
  fields := #[]
  methods := #[]
  instanceTypes := #[]
  staticTypes := #[]
  resolved := Array.replicate 11 none
  statics := none }

def pool3 : Array CpInfo := pool [(1, .class_ 2), (0, u "java/lang/Comparable"), (0, .class_ 4), (0, u "java/lang/Object")] 7

/-- java/lang/Comparable -/
def k3 : Class := { plain "java/lang/Comparable" (some 0) with
  accessFlags := 1537
  interfaces := #[]
  cf := some (fileOf pool3 1 #[] #[] 1537 3 #[] #[])
  fields := #[]
  methods := #[]
  instanceTypes := #[]
  staticTypes := #[]
  resolved := Array.replicate 12 none
  statics := none }

def pool4 : Array CpInfo := pool [(1, .class_ 2), (0, u "java/io/Serializable"), (0, .class_ 4), (0, u "java/lang/Object")] 2

/-- java/io/Serializable -/
def k4 : Class := { plain "java/io/Serializable" (some 0) with
  accessFlags := 1537
  interfaces := #[]
  cf := some (fileOf pool4 1 #[] #[] 1537 3 #[] #[])
  fields := #[]
  methods := #[]
  instanceTypes := #[]
  staticTypes := #[]
  resolved := Array.replicate 7 none
  statics := none }

def pool5 : Array CpInfo := pool [(2, .class_ 4), (1, u "java/lang/Enum"), (0, u "name"), (0, u "Ljava/lang/String;"), (2, u "ordinal"), (0, u "I"), (1, .class_ 14), (1, u "java/lang/Object"), (4, u "hash"), (86, .class_ 108), (1, u "java/lang/Enum$EnumDesc"), (2, .class_ 112), (0, u "java/lang/constant/Constable"), (0, .class_ 114), (0, u "java/lang/Comparable"), (0, .class_ 116), (0, u "java/io/Serializable")] 87

/-- java/lang/Enum -/
def k5 : Class := { plain "java/lang/Enum" (some 0) with
  accessFlags := 1057
  interfaces := #[2, 3, 4]
  cf := some (fileOf pool5 2 #[.nestMembers #[106]] #[] 1057 12 #[111, 113, 115] #[{ accessFlags := 18, nameIndex := 5, descriptorIndex := 6, attributes := #[] }, { accessFlags := 18, nameIndex := 9, descriptorIndex := 10, attributes := #[] }, { accessFlags := 2, nameIndex := 19, descriptorIndex := 10, attributes := #[] }])
  fields := #[{ name := "name", type := (.object "java/lang/String"), accessFlags := 18, slot := 0, constantValue := 0 }, { name := "ordinal", type := .int, accessFlags := 18, slot := 1, constantValue := 0 }, { name := "hash", type := .int, accessFlags := 2, slot := 2, constantValue := 0 }]
  methods := #[]
  instanceTypes := #[(.object "java/lang/String"), .int, .int]
  staticTypes := #[]
  resolved := Array.replicate 204 none
  statics := none }

def pool6 : Array CpInfo := pool [(1, .class_ 2), (0, u "com/example/unstor/unstor/JobStatus"), (2, u "NEW"), (0, u "Lcom/example/unstor/unstor/JobStatus;"), (2, u "PROCESSING"), (0, .fieldref 1 11), (0, .nameAndType 12 6), (0, u "COMPLETED"), (0, .fieldref 1 14), (0, .nameAndType 15 6), (0, u "ERROR"), (2, u "$VALUES"), (0, u "[Lcom/example/unstor/unstor/JobStatus;"), (6, .class_ 28), (1, u "java/lang/Enum"), (6, .fieldref 1 36), (0, .nameAndType 37 38), (0, u "workOrderName"), (0, u "Ljava/lang/String;"), (26, u "isFinished"), (0, u "()Z"), (1, u "()Ljava/lang/String;")] 5

def k6c0 : Code := { maxStack := 2, maxLocals := 1, code := prog_19_method_4_code, exceptionTable := #[], attributes := #[] }
def k6m0 : Method := { name := "isFinished", desc := "()Z", sig := { parameters := [], returnType := some .boolean }, accessFlags := 1, code := some k6c0 }
def k6c1 : Code := { maxStack := 1, maxLocals := 1, code := prog_19_method_5_code, exceptionTable := #[], attributes := #[] }
def k6m1 : Method := { name := "workOrderName", desc := "()Ljava/lang/String;", sig := { parameters := [], returnType := some (.object "java/lang/String") }, accessFlags := 1, code := some k6c1 }
/-- com/example/unstor/unstor/JobStatus -/
def k6 : Class := { plain "com/example/unstor/unstor/JobStatus" (some 5) with
  accessFlags := 16433
  interfaces := #[]
  cf := some (fileOf pool6 1 #[] #[{ accessFlags := 1, nameIndex := 65, descriptorIndex := 66, attributes := #[] }, { accessFlags := 1, nameIndex := 37, descriptorIndex := 68, attributes := #[] }] 16433 26 #[] #[{ accessFlags := 16409, nameIndex := 5, descriptorIndex := 6, attributes := #[] }, { accessFlags := 16409, nameIndex := 9, descriptorIndex := 6, attributes := #[] }, { accessFlags := 16409, nameIndex := 12, descriptorIndex := 6, attributes := #[] }, { accessFlags := 16409, nameIndex := 15, descriptorIndex := 6, attributes := #[] }, { accessFlags := 18, nameIndex := 37, descriptorIndex := 38, attributes := #[] }, { accessFlags := 4122, nameIndex := 18, descriptorIndex := 19, attributes := #[] }])
  fields := #[{ name := "NEW", type := (.object "com/example/unstor/unstor/JobStatus"), accessFlags := 16409, slot := 0, constantValue := 0 }, { name := "PROCESSING", type := (.object "com/example/unstor/unstor/JobStatus"), accessFlags := 16409, slot := 1, constantValue := 0 }, { name := "COMPLETED", type := (.object "com/example/unstor/unstor/JobStatus"), accessFlags := 16409, slot := 2, constantValue := 0 }, { name := "ERROR", type := (.object "com/example/unstor/unstor/JobStatus"), accessFlags := 16409, slot := 3, constantValue := 0 }, { name := "workOrderName", type := (.object "java/lang/String"), accessFlags := 18, slot := 3, constantValue := 0 }, { name := "$VALUES", type := (.array (.object "com/example/unstor/unstor/JobStatus")), accessFlags := 4122, slot := 4, constantValue := 0 }]
  methods := #[k6m0, k6m1]
  instanceTypes := #[(.object "java/lang/String"), .int, .int, (.object "java/lang/String")]
  staticTypes := #[(.object "com/example/unstor/unstor/JobStatus"), (.object "com/example/unstor/unstor/JobStatus"), (.object "com/example/unstor/unstor/JobStatus"), (.object "com/example/unstor/unstor/JobStatus"), (.array (.object "com/example/unstor/unstor/JobStatus"))]
  resolved := Array.replicate 74 none
  statics := some 0 }

def pool7 : Array CpInfo := pool [(2, .class_ 4), (1, u "java/lang/CharSequence"), (42, .class_ 48), (0, u "java/lang/CharSequence$1CodePointIterator"), (10, .class_ 60), (0, u "java/lang/CharSequence$1CharIterator"), (5, .class_ 67), (0, u "java/lang/Object")] 63

/-- java/lang/CharSequence -/
def k7 : Class := { plain "java/lang/CharSequence" (some 0) with
  accessFlags := 1537
  interfaces := #[]
  cf := some (fileOf pool7 2 #[.nestMembers #[47, 59]] #[] 1537 66 #[] #[])
  fields := #[]
  methods := #[]
  instanceTypes := #[]
  staticTypes := #[]
  resolved := Array.replicate 131 none
  statics := none }

def pool8 : Array CpInfo := pool [(1, .class_ 2), (0, u "java/lang/constant/ConstantDesc"), (0, .class_ 4), (0, u "java/lang/Object")] 32

/-- java/lang/constant/ConstantDesc -/
def k8 : Class := { plain "java/lang/constant/ConstantDesc" (some 0) with
  accessFlags := 1537
  interfaces := #[]
  cf := some (fileOf pool8 1 #[] #[] 1537 3 #[] #[])
  fields := #[]
  methods := #[]
  instanceTypes := #[]
  staticTypes := #[]
  resolved := Array.replicate 37 none
  statics := none }

def pool9 : Array CpInfo := pool [(2, .class_ 4), (1, u "java/lang/Object"), (0, u "<init>"), (0, u "()V"), (2, .fieldref 10 11), (0, .class_ 12), (0, .nameAndType 13 14), (0, u "java/lang/String"), (0, u "value"), (0, u "[B"), (0, .fieldref 10 16), (0, .nameAndType 17 18), (0, u "coder"), (0, u "B"), (2, u "hash"), (0, u "I"), (2, u "hashIsZero"), (0, u "Z"), (11, .fieldref 10 39), (0, .nameAndType 40 26), (0, u "COMPACT_STRINGS"), (66, .class_ 109), (1, u "java/lang/StringLatin1"), (431, .methodref 107 542), (0, .nameAndType 543 544), (0, u "equals"), (0, u "([B[B)Z"), (28, u "(Ljava/lang/Object;)Z"), (1, .class_ 576), (0, u "java/lang/CharSequence"), (22, u "CASE_INSENSITIVE_ORDER"), (0, u "Ljava/util/Comparator;"), (500, u "serialPersistentFields"), (0, u "[Ljava/io/ObjectStreamField;"), (0, .class_ 1104), (0, u "java/lang/String$CaseInsensitiveComparator"), (1, .class_ 1107), (0, u "java/io/Serializable"), (0, .class_ 1109), (0, u "java/lang/Comparable"), (0, .class_ 1111), (0, u "java/lang/constant/Constable"), (0, .class_ 1113), (0, u "java/lang/constant/ConstantDesc"), (2, u "serialVersionUID"), (0, u "J"), (3, u "REPL"), (0, u "C"), (2, u "LATIN1"), (1, u "UTF16")] 323

def k9m0 : Method := { name := "<init>", desc := "()V", sig := { parameters := [], returnType := none }, accessFlags := 1, code := none }
def k9c1 : Code := { maxStack := 2, maxLocals := 3, code := jdk_42_method_66_code, exceptionTable := #[], attributes := #[] }
def k9m1 : Method := { name := "equals", desc := "(Ljava/lang/Object;)Z", sig := { parameters := [(.object "java/lang/Object")], returnType := some .boolean }, accessFlags := 1, code := some k9c1 }
/-- java/lang/String -/
def k9 : Class := { plain "java/lang/String" (some 0) with
  accessFlags := 49
  interfaces := #[4, 3, 7, 2, 8]
  cf := some (fileOf pool9 10 #[.nestMembers #[1103]] #[{ accessFlags := 1, nameIndex := 5, descriptorIndex := 6, attributes := #[] }, { accessFlags := 1, nameIndex := 543, descriptorIndex := 573, attributes := #[] }] 49 2 #[1106, 1108, 575, 1110, 1112] #[{ accessFlags := 18, nameIndex := 13, descriptorIndex := 14, attributes := #[] }, { accessFlags := 18, nameIndex := 17, descriptorIndex := 18, attributes := #[] }, { accessFlags := 2, nameIndex := 21, descriptorIndex := 22, attributes := #[] }, { accessFlags := 2, nameIndex := 25, descriptorIndex := 26, attributes := #[] }, { accessFlags := 26, nameIndex := 1116, descriptorIndex := 1117, attributes := #[] }, { accessFlags := 24, nameIndex := 40, descriptorIndex := 26, attributes := #[] }, { accessFlags := 26, nameIndex := 1101, descriptorIndex := 1102, attributes := #[] }, { accessFlags := 26, nameIndex := 1121, descriptorIndex := 1122, attributes := #[] }, { accessFlags := 25, nameIndex := 599, descriptorIndex := 600, attributes := #[] }, { accessFlags := 24, nameIndex := 1125, descriptorIndex := 18, attributes := #[] }, { accessFlags := 24, nameIndex := 1127, descriptorIndex := 18, attributes := #[] }])
  fields := #[{ name := "value", type := (.array .byte), accessFlags := 18, slot := 0, constantValue := 0 }, { name := "coder", type := .byte, accessFlags := 18, slot := 1, constantValue := 0 }, { name := "hash", type := .int, accessFlags := 2, slot := 2, constantValue := 0 }, { name := "hashIsZero", type := .boolean, accessFlags := 2, slot := 3, constantValue := 0 }, { name := "serialVersionUID", type := .long, accessFlags := 26, slot := 0, constantValue := 0 }, { name := "COMPACT_STRINGS", type := .boolean, accessFlags := 24, slot := 1, constantValue := 0 }, { name := "serialPersistentFields", type := (.array (.object "java/io/ObjectStreamField")), accessFlags := 26, slot := 2, constantValue := 0 }, { name := "REPL", type := .char, accessFlags := 26, slot := 3, constantValue := 0 }, { name := "CASE_INSENSITIVE_ORDER", type := (.object "java/util/Comparator"), accessFlags := 25, slot := 4, constantValue := 0 }, { name := "LATIN1", type := .byte, accessFlags := 24, slot := 5, constantValue := 0 }, { name := "UTF16", type := .byte, accessFlags := 24, slot := 6, constantValue := 0 }]
  methods := #[k9m0, k9m1]
  instanceTypes := #[(.array .byte), .byte, .int, .boolean]
  staticTypes := #[.long, .boolean, (.array (.object "java/io/ObjectStreamField")), .char, (.object "java/util/Comparator"), .byte, .byte]
  resolved := Array.replicate 1451 none
  statics := some 1 }

def pool10 : Array CpInfo := pool [(4, .class_ 6), (1, u "java/lang/Object"), (0, u "<init>"), (0, u "()V"), (5, .class_ 16), (1, u "java/lang/StringLatin1"), (104, u "$assertionsDisabled"), (0, u "Z"), (98, .class_ 223), (1, u "java/lang/StringLatin1$LinesSpliterator"), (57, u "equals"), (0, u "([B[B)Z"), (107, .class_ 391), (0, u "java/lang/StringLatin1$CharsSpliterator")] 3

def k10m0 : Method := { name := "<init>", desc := "()V", sig := { parameters := [], returnType := none }, accessFlags := 0, code := none }
def k10c1 : Code := { maxStack := 3, maxLocals := 3, code := jdk_43_method_13_code, exceptionTable := #[], attributes := #[] }
def k10m1 : Method := { name := "equals", desc := "([B[B)Z", sig := { parameters := [(.array .byte), (.array .byte)], returnType := some .boolean }, accessFlags := 9, code := some k10c1 }
/-- java/lang/StringLatin1 -/
def k10 : Class := { plain "java/lang/StringLatin1" (some 0) with
  accessFlags := 48
  interfaces := #[]
  cf := some (fileOf pool10 14 #[.nestMembers #[390, 221]] #[{ accessFlags := 0, nameIndex := 7, descriptorIndex := 8, attributes := #[] }, { accessFlags := 9, nameIndex := 281, descriptorIndex := 282, attributes := #[] }] 48 4 #[] #[{ accessFlags := 4120, nameIndex := 121, descriptorIndex := 122, attributes := #[] }])
  fields := #[{ name := "$assertionsDisabled", type := .boolean, accessFlags := 4120, slot := 0, constantValue := 0 }]
  methods := #[k10m0, k10m1]
  instanceTypes := #[]
  staticTypes := #[.boolean]
  resolved := Array.replicate 395 none
  statics := none }

def pool11 : Array CpInfo := pool [(2, .class_ 4), (1, u "java/lang/Object"), (0, u "<init>"), (0, u "()V"), (17, .class_ 26), (1, u "jdk/internal/util/Preconditions"), (28, .class_ 56), (0, u "jdk/internal/util/Preconditions$4"), (57, .class_ 115), (0, u "jdk/internal/util/Preconditions$1"), (7, u "SIOOBE_FORMATTER"), (0, u "Ljava/util/function/BiFunction;"), (0, .class_ 126), (0, u "jdk/internal/util/Preconditions$2"), (3, u "AIOOBE_FORMATTER"), (0, .class_ 132), (0, u "jdk/internal/util/Preconditions$3"), (3, u "IOOBE_FORMATTER")] 57

def k11m0 : Method := { name := "<init>", desc := "()V", sig := { parameters := [], returnType := none }, accessFlags := 1, code := none }
/-- jdk/internal/util/Preconditions -/
def k11 : Class := { plain "jdk/internal/util/Preconditions" (some 0) with
  accessFlags := 33
  interfaces := #[]
  cf := some (fileOf pool11 24 #[.nestMembers #[55, 131, 125, 114]] #[{ accessFlags := 1, nameIndex := 5, descriptorIndex := 6, attributes := #[] }] 33 2 #[] #[{ accessFlags := 25, nameIndex := 123, descriptorIndex := 124, attributes := #[] }, { accessFlags := 25, nameIndex := 130, descriptorIndex := 124, attributes := #[] }, { accessFlags := 25, nameIndex := 136, descriptorIndex := 124, attributes := #[] }])
  fields := #[{ name := "SIOOBE_FORMATTER", type := (.object "java/util/function/BiFunction"), accessFlags := 25, slot := 0, constantValue := 0 }, { name := "AIOOBE_FORMATTER", type := (.object "java/util/function/BiFunction"), accessFlags := 25, slot := 1, constantValue := 0 }, { name := "IOOBE_FORMATTER", type := (.object "java/util/function/BiFunction"), accessFlags := 25, slot := 2, constantValue := 0 }]
  methods := #[k11m0]
  instanceTypes := #[]
  staticTypes := #[(.object "java/util/function/BiFunction"), (.object "java/util/function/BiFunction"), (.object "java/util/function/BiFunction")]
  resolved := Array.replicate 194 none
  statics := some 2 }

def pool12 : Array CpInfo := pool [(9, u "<init>"), (6, .class_ 18), (1, u "java/lang/Object"), (0, u "()V"), (1, .class_ 23), (1, u "jdk/internal/util/ArraysSupport"), (0, u "LOG2_ARRAY_LONG_INDEX_SCALE"), (0, u "I"), (2, u "U"), (0, u "Ljdk/internal/misc/Unsafe;"), (8, u "BIG_ENDIAN"), (0, u "Z"), (8, u "LOG2_BYTE_BIT_SIZE"), (4, u "LOG2_ARRAY_INT_INDEX_SCALE"), (54, u "JLA"), (0, u "Ljdk/internal/access/JavaLangAccess;"), (11, u "LOG2_ARRAY_BOOLEAN_INDEX_SCALE"), (9, u "LOG2_ARRAY_BYTE_INDEX_SCALE"), (5, u "LOG2_ARRAY_CHAR_INDEX_SCALE"), (5, u "LOG2_ARRAY_SHORT_INDEX_SCALE"), (18, u "LOG2_ARRAY_FLOAT_INDEX_SCALE"), (24, u "LOG2_ARRAY_DOUBLE_INDEX_SCALE"), (89, u "T_BOOLEAN"), (2, u "T_CHAR"), (1, u "T_FLOAT"), (1, u "T_DOUBLE"), (1, u "T_BYTE"), (1, u "T_SHORT"), (1, u "T_INT"), (1, u "T_LONG"), (1, u "SOFT_MAX_ARRAY_LENGTH")] 83

def k12m0 : Method := { name := "<init>", desc := "()V", sig := { parameters := [], returnType := none }, accessFlags := 2, code := none }
/-- jdk/internal/util/ArraysSupport -/
def k12 : Class := { plain "jdk/internal/util/ArraysSupport" (some 0) with
  accessFlags := 33
  interfaces := #[]
  cf := some (fileOf pool12 21 #[] #[{ accessFlags := 2, nameIndex := 9, descriptorIndex := 19, attributes := #[] }] 33 16 #[] #[{ accessFlags := 24, nameIndex := 28, descriptorIndex := 29, attributes := #[] }, { accessFlags := 26, nameIndex := 38, descriptorIndex := 39, attributes := #[] }, { accessFlags := 25, nameIndex := 121, descriptorIndex := 25, attributes := #[] }, { accessFlags := 25, nameIndex := 131, descriptorIndex := 25, attributes := #[] }, { accessFlags := 25, nameIndex := 137, descriptorIndex := 25, attributes := #[] }, { accessFlags := 25, nameIndex := 143, descriptorIndex := 25, attributes := #[] }, { accessFlags := 25, nameIndex := 53, descriptorIndex := 25, attributes := #[] }, { accessFlags := 25, nameIndex := 24, descriptorIndex := 25, attributes := #[] }, { accessFlags := 25, nameIndex := 162, descriptorIndex := 25, attributes := #[] }, { accessFlags := 25, nameIndex := 187, descriptorIndex := 25, attributes := #[] }, { accessFlags := 26, nameIndex := 48, descriptorIndex := 25, attributes := #[] }, { accessFlags := 25, nameIndex := 277, descriptorIndex := 25, attributes := #[] }, { accessFlags := 25, nameIndex := 280, descriptorIndex := 25, attributes := #[] }, { accessFlags := 25, nameIndex := 282, descriptorIndex := 25, attributes := #[] }, { accessFlags := 25, nameIndex := 284, descriptorIndex := 25, attributes := #[] }, { accessFlags := 25, nameIndex := 286, descriptorIndex := 25, attributes := #[] }, { accessFlags := 25, nameIndex := 288, descriptorIndex := 25, attributes := #[] }, { accessFlags := 25, nameIndex := 290, descriptorIndex := 25, attributes := #[] }, { accessFlags := 25, nameIndex := 292, descriptorIndex := 25, attributes := #[] }, { accessFlags := 26, nameIndex := 108, descriptorIndex := 109, attributes := #[] }, { accessFlags := 25, nameIndex := 294, descriptorIndex := 25, attributes := #[] }])
  fields := #[{ name := "U", type := (.object "jdk/internal/misc/Unsafe"), accessFlags := 24, slot := 0, constantValue := 0 }, { name := "BIG_ENDIAN", type := .boolean, accessFlags := 26, slot := 1, constantValue := 0 }, { name := "LOG2_ARRAY_BOOLEAN_INDEX_SCALE", type := .int, accessFlags := 25, slot := 2, constantValue := 0 }, { name := "LOG2_ARRAY_BYTE_INDEX_SCALE", type := .int, accessFlags := 25, slot := 3, constantValue := 0 }, { name := "LOG2_ARRAY_CHAR_INDEX_SCALE", type := .int, accessFlags := 25, slot := 4, constantValue := 0 }, { name := "LOG2_ARRAY_SHORT_INDEX_SCALE", type := .int, accessFlags := 25, slot := 5, constantValue := 0 }, { name := "LOG2_ARRAY_INT_INDEX_SCALE", type := .int, accessFlags := 25, slot := 6, constantValue := 0 }, { name := "LOG2_ARRAY_LONG_INDEX_SCALE", type := .int, accessFlags := 25, slot := 7, constantValue := 0 }, { name := "LOG2_ARRAY_FLOAT_INDEX_SCALE", type := .int, accessFlags := 25, slot := 8, constantValue := 0 }, { name := "LOG2_ARRAY_DOUBLE_INDEX_SCALE", type := .int, accessFlags := 25, slot := 9, constantValue := 0 }, { name := "LOG2_BYTE_BIT_SIZE", type := .int, accessFlags := 26, slot := 10, constantValue := 0 }, { name := "T_BOOLEAN", type := .int, accessFlags := 25, slot := 11, constantValue := 0 }, { name := "T_CHAR", type := .int, accessFlags := 25, slot := 12, constantValue := 0 }, { name := "T_FLOAT", type := .int, accessFlags := 25, slot := 13, constantValue := 0 }, { name := "T_DOUBLE", type := .int, accessFlags := 25, slot := 14, constantValue := 0 }, { name := "T_BYTE", type := .int, accessFlags := 25, slot := 15, constantValue := 0 }, { name := "T_SHORT", type := .int, accessFlags := 25, slot := 16, constantValue := 0 }, { name := "T_INT", type := .int, accessFlags := 25, slot := 17, constantValue := 0 }, { name := "T_LONG", type := .int, accessFlags := 25, slot := 18, constantValue := 0 }, { name := "JLA", type := (.object "jdk/internal/access/JavaLangAccess"), accessFlags := 26, slot := 19, constantValue := 0 }, { name := "SOFT_MAX_ARRAY_LENGTH", type := .int, accessFlags := 25, slot := 20, constantValue := 0 }]
  methods := #[k12m0]
  instanceTypes := #[]
  staticTypes := #[(.object "jdk/internal/misc/Unsafe"), .boolean, .int, .int, .int, .int, .int, .int, .int, .int, .int, .int, .int, .int, .int, .int, .int, .int, .int, (.object "jdk/internal/access/JavaLangAccess"), .int]
  resolved := Array.replicate 378 none
  statics := none }

def pool13 : Array CpInfo := pool [(1, u "java/lang/Cloneable"), (0, .class_ 1), (0, u "java/lang/Object"), (0, .class_ 3)] 3

/-- java/lang/Cloneable -/
def k13 : Class := { plain "java/lang/Cloneable" (some 0) with
  accessFlags := 1537
  interfaces := #[]
  cf := some (fileOf pool13 2 #[] #[] 1537 4 #[] #[])
  fields := #[]
  methods := #[]
  instanceTypes := #[]
  staticTypes := #[]
  resolved := Array.replicate 8 none
  statics := none }

/-- the primitive byte -/
def k14 : Class := { plain "byte" none with kind := .primitive 'B', accessFlags := 0x411 }
/-- [B -/
def k15 : Class := { plain "[B" (some 0) with kind := .array 14 .byte, interfaces := #[13, 4], accessFlags := 1041 }

def heap : Heap := #[{ cls := 6, slots := #[.ref 3, .ref 12, .ref 4, .ref 5, .null], vm := .statics 6 },
  { cls := 9, slots := #[.long 0, .int 1, .null, .int 0, .null, .int 0, .int 0], vm := .statics 9 },
  { cls := 11, slots := #[.null, .null, .null], vm := .statics 11 },
  { cls := 6, slots := #[.null, .int 0, .int 0, .ref 6], vm := .none },
  { cls := 6, slots := #[.null, .int 2, .int 0, .ref 10], vm := .none },
  { cls := 6, slots := #[.null, .int 3, .int 0, .ref 8], vm := .none },
  { cls := 9, slots := #[.ref 7, .int 0, .int 0, .int 0], vm := .none },
  { cls := 15, slots := #[.int 114, .int 101, .int 99, .int 101, .int 105, .int 118, .int 101, .int 100], vm := .none },
  { cls := 9, slots := #[.ref 9, .int 0, .int 0, .int 0], vm := .none },
  { cls := 15, slots := #[.int 102, .int 97, .int 105, .int 108, .int 101, .int 100], vm := .none },
  { cls := 9, slots := #[.ref 11, .int 0, .int 0, .int 0], vm := .none },
  { cls := 15, slots := #[.int 99, .int 111, .int 109, .int 112, .int 108, .int 101, .int 116, .int 101, .int 100], vm := .none },
  { cls := 6, slots := #[.null, .int 1, .int 0, .ref 13], vm := .none },
  { cls := 9, slots := #[.ref 14, .int 0, .int 0, .int 0], vm := .none },
  { cls := 15, slots := #[.int 105, .int 110, .int 103, .int 101, .int 115, .int 116, .int 101, .int 100], vm := .none }]
def classes : Array Class := #[k0, k1, k2, k3, k4, k5, k6, k7, k8, k9, k10, k11, k12, k13, k14, k15]
def interned : List (Array UInt16 × Addr) := []
def slotsUsed : Nat := 78
def theMethod : MethodId := ⟨1, 3⟩
def args0 : Array Value := #[.int 5]
def aboutOver (below : List Frame) : State where
  vm := { classes := classes, interned := interned.toArray }
  heap := heap
  slotsUsed := slotsUsed
  threads := #[{ frames := .invoking theMethod args0 :: below }]
def below0 : List Frame := [.native { method := ⟨0, 0⟩, args := #[] }]
def about1 : State := aboutOver below0
def p0 : Program := .bare "" "" ""
def e0 : Env := launch0.env 0 0 0
theorem w_frames : about1.frames = Frame.invoking theMethod args0 :: below0 := rfl
set_option maxRecDepth 65536 in
theorem w_args : argsFit about1.vm theMethod args0 = true := by decide +kernel
set_option maxRecDepth 65536 in
theorem w_heap : heapFits about1 = true := by decide +kernel
set_option maxRecDepth 65536 in
theorem w_runnable : about1.curStatus? = some .runnable := by decide +kernel
set_option maxRecDepth 65536 in
theorem w_alone : about1.alone = true := by decide +kernel
set_option maxRecDepth 65536 in
theorem w_named : about1.methodNamed? x = some theMethod := by decide +kernel
set_option maxRecDepth 65536 in
theorem w_hears : about1.hears theMethod below0 = true := by decide +kernel
set_option maxRecDepth 65536 in
theorem w_ripe : about1.ripe theMethod args0 below0 = true := by decide +kernel
theorem w_running : about1.status = .running := rfl
set_option maxRecDepth 65536 in
theorem w_room : about1.hasRoom e0.platform room_1 = true :=
  launch0.hasRoom_least _ room_1 (by decide +kernel) (by decide +kernel) (by decide +kernel) (by decide +kernel) (by decide +kernel) (by decide +kernel)
theorem allAtoms_all (ts : List Jvm.Cond) (a : Array Jvm.Value) (st : Jvm.State) : (allAtoms ts).before a st = ts.all (fun c => c.before a st) := by
  induction ts with
  | nil => rfl
  | cons c t ih =>
    show (Jvm.Cond.and c (allAtoms t)).before a st = _
    rw [Jvm.Cond.before_and, ih, List.all_cons]
def words1 : List Jvm.Cond := Jvm.Cond.code x code maxLocals ret :: tables_1
/-- a 'code' word, met by the world's own term for the bytes: nothing is compared byte by byte -/
theorem code_word {y : MethodName} {bytes : ByteArray} {mx : Nat} {rt : Option FieldType} {a : Array Value} {s : State} {m : MethodId} {meth : Method} {c : Code} (h1 : s.methodNamed? y = some m) (h2 : s.vm.method? m = some meth) (h3 : meth.code = some c) (h4 : c.code = bytes)
    (h5 : (c.maxLocals == mx && c.exceptionTable.isEmpty && decide (c.maxStack ≤ mostOperands) && decide (meth.sig.returnType = rt) && !meth.locks && decide (parseMethodDescriptor y.desc = some meth.sig)) = true) : (Jvm.Cond.code y bytes mx rt).before a s = true := by
  simp only [Bool.and_eq_true, beq_iff_eq, Bool.not_eq_true', decide_eq_true_eq] at h5
  obtain ⟨⟨⟨⟨⟨g1, g2⟩, g3⟩, g4⟩, g5⟩, g6⟩ := h5
  simp [Cond.before, Cond.holds, Cond.value, h1, h2, h3, h4, g1, g2, g3, g4, g5, g6]
def isCode : Jvm.Cond → Bool
  | .code _ _ _ _ => true
  | _ => false
theorem all_split {L : List Jvm.Cond} {P : Jvm.Cond → Bool} (h1 : L.all (fun c => isCode c || P c) = true) (h2 : ∀ c ∈ L.filter isCode, P c = true) : L.all P = true := by
  refine List.all_eq_true.mpr fun c hc => ?_
  have h := List.all_eq_true.mp h1 c hc
  rcases Bool.eq_false_or_eq_true (isCode c) with hi | hi
  · exact h2 c (List.mem_filter.mpr ⟨hc, hi⟩)
  · simpa [hi] using h
set_option maxRecDepth 65536 in
theorem w_c0 : (Jvm.Cond.code x code maxLocals ret).before args0 about1 = true := code_word (m := ⟨1, 3⟩) (meth := k1m3) (c := k1c3) (by decide +kernel) rfl rfl rfl (by decide +kernel)
set_option maxRecDepth 65536 in
theorem w_c1 : (Jvm.Cond.code ({ cls := "com/example/unstor/unstor/JobStatusIsFinishedPinLaw", name := "pick", desc := "(I)Lcom/example/unstor/unstor/JobStatus;" } : Jvm.MethodName) method_2_code (1 : Nat) (Option.some (Jvm.ClassFile.FieldType.object "com/example/unstor/unstor/JobStatus"))).before args0 about1 = true := code_word (m := ⟨1, 1⟩) (meth := k1m1) (c := k1c1) (by decide +kernel) rfl rfl rfl (by decide +kernel)
set_option maxRecDepth 65536 in
theorem w_c2 : (Jvm.Cond.code ({ cls := "com/example/unstor/unstor/JobStatus", name := "isFinished", desc := "()Z" } : Jvm.MethodName) prog_19_method_4_code (1 : Nat) (Option.some Jvm.ClassFile.FieldType.boolean)).before args0 about1 = true := code_word (m := ⟨6, 0⟩) (meth := k6m0) (c := k6c0) (by decide +kernel) rfl rfl rfl (by decide +kernel)
set_option maxRecDepth 65536 in
theorem w_c3 : (Jvm.Cond.code ({ cls := "com/example/unstor/unstor/JobStatusIsFinishedPinLaw", name := "expected", desc := "(I)Z" } : Jvm.MethodName) method_3_code (1 : Nat) (Option.some Jvm.ClassFile.FieldType.boolean)).before args0 about1 = true := code_word (m := ⟨1, 2⟩) (meth := k1m2) (c := k1c2) (by decide +kernel) rfl rfl rfl (by decide +kernel)
set_option maxRecDepth 65536 in
theorem w_c4 : (Jvm.Cond.code ({ cls := "com/example/unstor/unstor/JobStatus", name := "workOrderName", desc := "()Ljava/lang/String;" } : Jvm.MethodName) prog_19_method_5_code (1 : Nat) (Option.some (Jvm.ClassFile.FieldType.object "java/lang/String"))).before args0 about1 = true := code_word (m := ⟨6, 1⟩) (meth := k6m1) (c := k6c1) (by decide +kernel) rfl rfl rfl (by decide +kernel)
set_option maxRecDepth 65536 in
theorem w_c5 : (Jvm.Cond.code ({ cls := "java/lang/String", name := "equals", desc := "(Ljava/lang/Object;)Z" } : Jvm.MethodName) jdk_42_method_66_code (3 : Nat) (Option.some Jvm.ClassFile.FieldType.boolean)).before args0 about1 = true := code_word (m := ⟨9, 1⟩) (meth := k9m1) (c := k9c1) (by decide +kernel) rfl rfl rfl (by decide +kernel)
set_option maxRecDepth 65536 in
theorem w_c6 : (Jvm.Cond.code ({ cls := "java/lang/StringLatin1", name := "equals", desc := "([B[B)Z" } : Jvm.MethodName) jdk_43_method_13_code (3 : Nat) (Option.some Jvm.ClassFile.FieldType.boolean)).before args0 about1 = true := code_word (m := ⟨10, 1⟩) (meth := k10m1) (c := k10c1) (by decide +kernel) rfl rfl rfl (by decide +kernel)
def codes1 : List Jvm.Cond := [Jvm.Cond.code x code maxLocals ret, Jvm.Cond.code ({ cls := "com/example/unstor/unstor/JobStatusIsFinishedPinLaw", name := "pick", desc := "(I)Lcom/example/unstor/unstor/JobStatus;" } : Jvm.MethodName) method_2_code (1 : Nat) (Option.some (Jvm.ClassFile.FieldType.object "com/example/unstor/unstor/JobStatus")), Jvm.Cond.code ({ cls := "com/example/unstor/unstor/JobStatus", name := "isFinished", desc := "()Z" } : Jvm.MethodName) prog_19_method_4_code (1 : Nat) (Option.some Jvm.ClassFile.FieldType.boolean), Jvm.Cond.code ({ cls := "com/example/unstor/unstor/JobStatusIsFinishedPinLaw", name := "expected", desc := "(I)Z" } : Jvm.MethodName) method_3_code (1 : Nat) (Option.some Jvm.ClassFile.FieldType.boolean), Jvm.Cond.code ({ cls := "com/example/unstor/unstor/JobStatus", name := "workOrderName", desc := "()Ljava/lang/String;" } : Jvm.MethodName) prog_19_method_5_code (1 : Nat) (Option.some (Jvm.ClassFile.FieldType.object "java/lang/String")), Jvm.Cond.code ({ cls := "java/lang/String", name := "equals", desc := "(Ljava/lang/Object;)Z" } : Jvm.MethodName) jdk_42_method_66_code (3 : Nat) (Option.some Jvm.ClassFile.FieldType.boolean), Jvm.Cond.code ({ cls := "java/lang/StringLatin1", name := "equals", desc := "([B[B)Z" } : Jvm.MethodName) jdk_43_method_13_code (3 : Nat) (Option.some Jvm.ClassFile.FieldType.boolean)]
set_option maxRecDepth 65536 in
theorem codes_eq : words1.filter isCode = codes1 := rfl
theorem w_codes : ∀ c ∈ words1.filter isCode, c.before args0 about1 = true := by
  rw [codes_eq]
  intro c hc
  simp only [codes1, List.mem_cons, List.not_mem_nil, or_false] at hc
  rcases hc with rfl | rfl | rfl | rfl | rfl | rfl | rfl
  · exact w_c0
  · exact w_c1
  · exact w_c2
  · exact w_c3
  · exact w_c4
  · exact w_c5
  · exact w_c6
set_option maxRecDepth 65536 in
theorem w_t1 : (words1.take 24).all (fun c => isCode c || c.before args0 about1) = true := by decide +kernel
set_option maxRecDepth 65536 in
theorem w_t2 : ((words1.drop 24).take 24).all (fun c => isCode c || c.before args0 about1) = true := by decide +kernel
set_option maxRecDepth 65536 in
theorem w_t3 : ((words1.drop 24).drop 24).all (fun c => isCode c || c.before args0 about1) = true := by decide +kernel
theorem w_tables : (allAtoms (Jvm.Cond.code x code maxLocals ret :: tables_1)).before args0 about1 = true := by
  rw [allAtoms_all]
  show words1.all (fun c => c.before args0 about1) = true
  refine all_split ?_ w_codes
  rw [← List.take_append_drop 24 words1, List.all_append, w_t1, ← List.take_append_drop 24 (words1.drop 24), List.all_append, w_t2, w_t3]
  rfl
set_option maxRecDepth 65536 in
theorem w_rest : rest_1_c.before args0 about1 = true := by decide +kernel
set_option maxRecDepth 65536 in
theorem w_case : (Jvm.Cond.and given_1 narrow_1).before args0 about1 = true := by decide +kernel
set_option maxRecDepth 65536 in
theorem w_consts : constsHeld consts_1 about1 := Jvm.Lit.constsHeldB_iff.mp (by decide +kernel)
theorem w_applies : (headSpec (Jvm.Cond.code x code maxLocals ret :: tables_1) room_1).applies x e0.platform about1 = true :=
  (Spec.applies_iff w_frames).mpr ⟨w_running, w_runnable, w_alone, w_named, w_hears, w_ripe, w_room, w_tables⟩
theorem atStart : AtStart classFile x code maxLocals ret World_1 tables_1 room_1 Calls_1 rest_1 Pre_1 launch0 p0 e0 about1 theMethod args0 below0 :=
  ⟨lists_1, trivial, launch0.admits_env _ _ _, launch0.least_env, fairChoices_fair.cas, fairChoices_fair.clock, w_frames, w_args, w_heap, w_applies, ⟨w_consts, trivial⟩, w_rest, w_case⟩
end start1
theorem witness_1 : WitnessClaimed_1 := ⟨start1.p0, start1.e0, start1.about1, start1.theMethod, start1.args0, start1.below0, start1.atStart⟩
end Jvm.Pilot.@@N@@
