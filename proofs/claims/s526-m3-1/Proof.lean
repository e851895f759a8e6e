import JvmDerived
import JvmDerived.Pilot.@@N@@Statement
import JvmDerived.Pilot.@@N@@Code
set_option linter.unusedVariables false
set_option linter.unusedSimpArgs false
namespace Jvm.RoadKit
open Sem ClassFile Op Lib Jvm.Stand Jvm.Free Jvm.LawKit
section Own
/-- from u a state is reached where R holds -/
def own_Go (tb : Tables) (e : Env) (below : List Frame) (R : State → Prop) (u : State) : Prop := ∃ t, Steps tb e below u t ∧ R t
theorem own_st {tb : Tables} {e : Env} {below : List Frame} {R : State → Prop} {u v : State} (h : ∀ t, Steps tb e below v t → Steps tb e below u t) (g : own_Go tb e below R v) : own_Go tb e below R u := by
  obtain ⟨t, h1, h2⟩ := g
  exact ⟨t, h t h1, h2⟩
theorem own_fin {tb : Tables} {e : Env} {below : List Frame} {R : State → Prop} {u t : State} (h : Steps tb e below u t) (r : R t) : own_Go tb e below R u := ⟨t, h, r⟩
theorem own_in {tb : Tables} {e : Env} {below : List Frame} {u v : State} {P : State → Outcome → Prop} (h : ∀ t, Steps tb e below v t → Steps tb e below u t)
    (g : ∀ RR : State → Prop, (∀ t, (∃ o, t.status = .running ∧ P t o) → RR t) → own_Go tb e below RR v) : ∃ t o, Steps tb e below u t ∧ t.status = .running ∧ P t o := by
  obtain ⟨t, h1, o, h2, h3⟩ := g (fun t => ∃ o, t.status = .running ∧ P t o) fun _ q => q
  exact ⟨t, o, h t h1, h2, h3⟩
theorem own_ri {x y : Int32} (h : x = y) : some (Value.int x) = some (Value.int y) := h ▸ rfl
theorem own_rj {x y : Int64} (h : x = y) : some (Value.long x) = some (Value.long y) := h ▸ rfl
theorem own_rr {x y : Addr} (h : x = y) : some (Value.ref x) = some (Value.ref y) := h ▸ rfl
theorem own_eq_int {args : Array Value} {first s : State} {o : Option Outcome} {idx : List Nat} {a : Term} {k : Int32} (h : (Cond.eq a (.int k)).value args first o s idx = some true) : a.eval args first o idx s = some (.int k) := by
  simp only [Cond.value, Term.eval] at h
  cases ht : a.eval args first o idx s with
  | none => simp [ht] at h
  | some x => cases x <;> simp [ht] at h ⊢; exact h
theorem own_eq_long {args : Array Value} {first s : State} {o : Option Outcome} {idx : List Nat} {a : Term} {k : Int64} (h : (Cond.eq a (.long k)).value args first o s idx = some true) : a.eval args first o idx s = some (.long k) := by
  simp only [Cond.value, Term.eval] at h
  cases ht : a.eval args first o idx s with
  | none => simp [ht] at h
  | some x => cases x <;> simp [ht] at h ⊢; exact h
theorem own_selP {s : State} {args : Array Value} {y : MethodName} {n : Nat} (wi : (Cond.instantiable y.cls n).before args s = true) (hp : s.PrivateAt y) (hi : (Cond.instanceMethod y).before args s = true) (hy : y.cls ≠ "java/lang/invoke/MethodHandle" ∧ y.cls ≠ "java/lang/invoke/VarHandle") : (Cond.selects y.cls y y).before args s = true := by
  obtain ⟨c, k, h1, h2, -, h4, -⟩ := Cond.instantiable_spec wi
  exact selects_self_of_private h1 h2 (Bool.or_eq_false_iff.mp h4).1 hp hi hy
variable {p : Program} {l : Launch} {e : Env} {R : Room} {s : State} {m : MethodId} {args : Array Value} {below : List Frame} {meth : Method} {c : Code} {T : State} {locs : List Loc} {cells slots : Nat} {Z : State} {h : Heap}
theorem retI (X : Stand p l e R s m args below meth c T locs cells slots) (hx : p.tables.exec = Jvm.exec) {pc : Nat} {Ls : Array Slot} {z : Int32} {rest : List Value} (hret : meth.sig.returnType = some .int) (hd : decode c.code pc = .ok (.ireturn, 1)) {fs : List Frame}
    (hl : ∀ (f : JFrame) (acts : List Action), f.method = m → f.locked = none → f.entered = [] → (doReturn e (T.setTop f) acts (some (.int z))).1 = T.setFrames fs) : Steps p.tables e below (T.setTop (mkF m pc Ls (.int z :: rest))) (T.setFrames fs) :=
  retOut X hx hret rfl (Or.inl ⟨rfl, Or.inl rfl, z, rfl⟩) hd hl
theorem own_len (X : Stand p l e R s m args below meth c T locs cells slots) (hx : p.tables.exec = Jvm.exec) (hZ : Z.Warmed39 s.vm) (eT : T.heap = h) {a : Addr} {cl : Cell} {ty : FieldType} (A : Arr Z h a cl ty) {z : Int32} (S : cl.slots.size = z.toNatClampNeg) (N : ¬ z < 0)
    {g : JFrame} (hg : g.method = m) {rest : List Value} (hs : g.stack = .ref a :: rest) (hd : decode c.code g.pc = .ok (.arraylength, 1)) {target : State}
    (k : Steps p.tables e below (T.setTop { g with pc := g.pc + 1, stack := .int z :: rest }) target) : Steps p.tables e below (T.setTop g) target :=
  X.arraylength hx (by rw [eT]; exact A.1) (State.isArrayOf_alike hZ.alike A.2.1) hg hs hd target (by rw [len_of S N]; exact k)
end Own
end Jvm.RoadKit
namespace Jvm.Pilot.@@N@@
open Jvm Jvm.ClassFile Sem Op Lib Jvm.Free Jvm.Stand Jvm.LawKit Jvm.RoadKit Bundle Jvm.Pilot.@@N@@.Jvm.D
theorem own_nn {x v : Int32} (h : (x &&& (2147483647 : Int32)) = v) : 0 ≤ v.toInt := by
  have h1 := c_mask x 2147483647 31 (by decide) (by decide)
  rw [h] at h1
  omega
theorem own_n3 {x v : Int32} (h : (x &&& (3 : Int32)) = v) : 0 ≤ v.toInt := by
  have h1 := c_mask x 3 2 (by decide) (by decide)
  rw [h] at h1
  omega
theorem own_pos {v : Int32} (h : 0 ≤ v.toInt) (h0 : ¬ v = 0) : (0 : Int32) < v := by
  rw [Int32.lt_iff_toInt_lt]
  have : ¬ v.toInt = (0 : Int32).toInt := fun q => h0 (Int32.toInt_inj.mp q)
  have e : (0 : Int32).toInt = 0 := by decide
  omega
theorem own_big {v : Int32} (h : 0 ≤ v.toInt) (h0 : ¬ v = 0) (h1 : ¬ v = 1) : ¬ v < (2 : Int32) := by
  rw [Int32.lt_iff_toInt_lt]
  have : ¬ v.toInt = (0 : Int32).toInt := fun q => h0 (Int32.toInt_inj.mp q)
  have : ¬ v.toInt = (1 : Int32).toInt := fun q => h1 (Int32.toInt_inj.mp q)
  have e : (0 : Int32).toInt = 0 := by decide
  have e : (1 : Int32).toInt = 1 := by decide
  have e : (2 : Int32).toInt = 2 := by decide
  omega
theorem own_pf_java_lang_Mathmin : plainFor (⟨"java/lang/Math", "min", "(II)I"⟩ : MethodName) = true := by first | exact Jvm.Free.JP.mathPlain rfl (by decide +kernel) | decide +kernel
theorem own_djdk_29_method_69_code_0 : decode jdk_29_method_69_code 0 = .ok (.iload_n 0, 1) := by decide +kernel
theorem own_djdk_29_method_69_code_1 : decode jdk_29_method_69_code 1 = .ok (.iload_n 1, 1) := by decide +kernel
theorem own_djdk_29_method_69_code_2 : decode jdk_29_method_69_code 2 = .ok (.if_icmp .gt 7, 3) := by decide +kernel
theorem own_djdk_29_method_69_code_9 : decode jdk_29_method_69_code 9 = .ok (.iload_n 1, 1) := by decide +kernel
theorem own_djdk_29_method_69_code_10 : decode jdk_29_method_69_code 10 = .ok (.ireturn, 1) := by decide +kernel
theorem own_djdk_29_method_69_code_5 : decode jdk_29_method_69_code 5 = .ok (.iload_n 0, 1) := by decide +kernel
theorem own_djdk_29_method_69_code_6 : decode jdk_29_method_69_code 6 = .ok (.goto 4, 3) := by decide +kernel
theorem own_efM (m : MethodId) (p1 : Int32) (p2 : Int32) : entryFrame m #[(.int p1), (.int p2)] 2 = mkF m 0 #[.val (.int p1), .val (.int p2)] [] := by first | (simp [entryFrame, mkF, argsToLocals, Value.category]; done) | rfl
def own_QM (Z : State) (p1 : Int32) (p2 : Int32) (r : Int32) (h0 : Heap) (n0 : Nat) (rv__ : Option Value) (h : Heap) (rL__ : List Loc) : Prop := rv__ = some (.int r) ∧ Fr n0 rL__ ∧ h = h0
abbrev own_RM : Room := { frames := 0, cells := 0, slots := 0, locals := 0 }
set_option maxRecDepth 65536 in
set_option maxHeartbeats 40000000 in
theorem own_rmM (l : Launch) (Z : State) (a0 : Array Value) (hw : ∀ d ∈ tables_1, d.before a0 Z = true) (ws : List Jvm.Cond) (p1 : Int32) (p2 : Int32) (r : Int32) (h0 : Heap) (n0 : Nat) (Z0 : n0 ≤ h0.size) (hv : (if p2 < p1 then p2 else p1) = r) :
    MetFree l (⟨"java/lang/Math", "min", "(II)I"⟩ : MethodName) (head1 (Jvm.Cond.code (⟨"java/lang/Math", "min", "(II)I"⟩ : MethodName) jdk_29_method_69_code 2 (some .int) :: ws) own_RM) (fun aa__ U => aa__ = #[(.int p1), (.int p2)] ∧ Z.Warmed39 U.vm ∧ U.heap = h0) (fun _ _ _ _ _ => True) (fun _ U oc_ U' => ∃ rv__ rL__, oc_ = .returned rv__ ∧ own_QM Z p1 p2 r h0 n0 rv__ U'.heap rL__ ∧ FrameEnd U oc_ U' rL__ own_RM.cells own_RM.slots) := by
  refine MetFree.of_bodySF own_pf_java_lang_Mathmin hisR ?_
  intro p e s m args below meth c s₁ Bd hml0 hP hK
  obtain ⟨rfl, hZ, hh⟩ := hP
  have hx := Bd.exec
  have hby := Bd.bytes
  have hml : c.maxLocals = 2 := hml0
  have hown : s.vm.findClass "java/lang/Math" = some m.cls := findClass_of_methodNamed Bd.named
  have hnm := (name_of_methodNamed Bd.named Bd.method).1
  have X0 : Stand p l e own_RM s m #[(.int p1), (.int p2)] below meth c s₁ [] 0 0 := Stand.of_body Bd
  have e0 : s₁.heap = h0 := by rw [← hh, Bd.state]; rfl
  have N0 := Fr.nil n0
  refine own_in (fun _ k => castTop (own_efM m p1 p2) k) ?_
  intro RR hRR
  show own_Go p.tables e below RR (s₁.setTop (mkF m 0 #[.val (.int p1), .val (.int p2)] []))
  refine own_st (fun _ k => XS.iloadN X0.here hx rfl (hb hby own_djdk_29_method_69_code_0) rfl (XS.iloadN X0.here hx rfl (hb hby own_djdk_29_method_69_code_1) rfl k)) ?_
  show own_Go p.tables e below RR (s₁.setTop (mkF m 2 #[.val (.int p1), .val (.int p2)] [(.int p2), (.int p1)]))
  by_cases hc2_1 : p2 < p1
  · refine own_st (fun _ k => XS.icmpYes X0.here hx rfl (pc0 := 2) (pc' := 9) rfl (hb hby own_djdk_29_method_69_code_2) rfl (tlt hc2_1).2.2.1 (by decide) (by decide) (XS.iloadN X0.here hx rfl (hb hby own_djdk_29_method_69_code_9) rfl k)) ?_
    show own_Go p.tables e below RR (s₁.setTop (mkF m 10 #[.val (.int p1), .val (.int p2)] [(.int p2)]))
    obtain ⟨fs, hrt_, hrun, hended, hW, hsame⟩ := X0.leave (v := some (.int p2)) (fun h => by rw [Bd.returns] at h; cases h)
    refine own_fin (retI X0 hx Bd.returns (hb hby own_djdk_29_method_69_code_10) hrt_) (hRR _ ⟨_, hrun, hended, _, _, rfl, ?_, ⟨_, rfl⟩, hW, hsame.mono (by decide) (by decide)⟩)
    show own_QM Z p1 p2 r h0 n0 _ s₁.heap _
    rw [e0]
    exact ⟨own_ri (by first | simpa only [hc2_1, if_true, if_false] using hv | simpa [hc2_1] using hv), N0, rfl⟩
  · refine own_st (fun _ k => XS.icmpNo X0.here hx rfl (hb hby own_djdk_29_method_69_code_2) rfl (flt hc2_1).2.2.1 (XS.iloadN X0.here hx rfl (hb hby own_djdk_29_method_69_code_5) rfl (XS.goto X0.here hx rfl (pc0 := 6) (pc' := 10) rfl (hb hby own_djdk_29_method_69_code_6) (by decide) (by decide) k))) ?_
    show own_Go p.tables e below RR (s₁.setTop (mkF m 10 #[.val (.int p1), .val (.int p2)] [(.int p1)]))
    obtain ⟨fs, hrt_, hrun, hended, hW, hsame⟩ := X0.leave (v := some (.int p1)) (fun h => by rw [Bd.returns] at h; cases h)
    refine own_fin (retI X0 hx Bd.returns (hb hby own_djdk_29_method_69_code_10) hrt_) (hRR _ ⟨_, hrun, hended, _, _, rfl, ?_, ⟨_, rfl⟩, hW, hsame.mono (by decide) (by decide)⟩)
    show own_QM Z p1 p2 r h0 n0 _ s₁.heap _
    rw [e0]
    exact ⟨own_ri (by first | simpa only [hc2_1, if_true, if_false] using hv | simpa [hc2_1] using hv), N0, rfl⟩
theorem own_pn_com_example_powderhorn_powderhorn_rules_escarmouche_Initiative : plainName "com/example/powderhorn/powderhorn/rules/escarmouche/Initiative" = true := by first | (simp [plainName, overriddenIn]; done) | decide +kernel
theorem own_dprog_53_method_4_code_0 : decode prog_53_method_4_code 0 = .ok (.iload_n 0, 1) := by decide +kernel
theorem own_dprog_53_method_4_code_1 : decode prog_53_method_4_code 1 = .ok (.ifCond .ne 10, 3) := by decide +kernel
theorem own_dprog_53_method_4_code_4 : decode prog_53_method_4_code 4 = .ok (.getstatic 3, 3) := by decide +kernel
theorem own_dprog_53_method_4_code_7 : decode prog_53_method_4_code 7 = .ok (.astore_n 2, 1) := by decide +kernel
theorem own_dprog_53_method_4_code_8 : decode prog_53_method_4_code 8 = .ok (.goto 23, 3) := by decide +kernel
theorem own_dprog_53_method_4_code_31 : decode prog_53_method_4_code 31 = .ok (.aload_n 2, 1) := by decide +kernel
theorem own_dprog_53_method_4_code_32 : decode prog_53_method_4_code 32 = .ok (.areturn, 1) := by decide +kernel
theorem own_dprog_53_method_4_code_11 : decode prog_53_method_4_code 11 = .ok (.iload_n 0, 1) := by decide +kernel
theorem own_dprog_53_method_4_code_12 : decode prog_53_method_4_code 12 = .ok (.iconst 1, 1) := by decide +kernel
theorem own_dprog_53_method_4_code_13 : decode prog_53_method_4_code 13 = .ok (.if_icmp .ne 14, 3) := by decide +kernel
theorem own_dprog_53_method_4_code_16 : decode prog_53_method_4_code 16 = .ok (.iload_n 1, 1) := by decide +kernel
theorem own_dprog_53_method_4_code_17 : decode prog_53_method_4_code 17 = .ok (.ifCond .ne 10, 3) := by decide +kernel
theorem own_dprog_53_method_4_code_20 : decode prog_53_method_4_code 20 = .ok (.getstatic 7, 3) := by decide +kernel
theorem own_dprog_53_method_4_code_23 : decode prog_53_method_4_code 23 = .ok (.astore_n 2, 1) := by decide +kernel
theorem own_dprog_53_method_4_code_24 : decode prog_53_method_4_code 24 = .ok (.goto 7, 3) := by decide +kernel
theorem own_dprog_53_method_4_code_27 : decode prog_53_method_4_code 27 = .ok (.getstatic 10, 3) := by decide +kernel
theorem own_dprog_53_method_4_code_30 : decode prog_53_method_4_code 30 = .ok (.astore_n 2, 1) := by decide +kernel
theorem own_efA (m : MethodId) (p1 : Int32) (p2 : Int32) : entryFrame m #[(.int p1), (.int p2)] 3 = mkF m 0 #[.val (.int p1), .val (.int p2), .unset] [] := by first | (simp [entryFrame, mkF, argsToLocals, Value.category]; done) | rfl
def own_QA (Z : State) (p1 : Int32) (p2 : Int32) (a_KEEP : Addr) (a_FIGURE_ENDS : Addr) (a_SIDE_ENDS : Addr) (r : Addr) (h0 : Heap) (n0 : Nat) (rv__ : Option Value) (h : Heap) (rL__ : List Loc) : Prop := rv__ = some (.ref r) ∧ Fr n0 rL__ ∧ h = h0
abbrev own_RA : Room := { frames := 0, cells := 0, slots := 0, locals := 0 }
set_option maxRecDepth 65536 in
set_option maxHeartbeats 40000000 in
theorem own_rmA (l : Launch) (Z : State) (a0 : Array Value) (hw : ∀ d ∈ tables_1, d.before a0 Z = true) (ws : List Jvm.Cond) (p1 : Int32) (p2 : Int32) (a_KEEP : Addr) (a_FIGURE_ENDS : Addr) (a_SIDE_ENDS : Addr) (r : Addr) (h0 : Heap) (n0 : Nat) (Z0 : n0 ≤ h0.size) (S_KEEP : Sta Z h0 "com/example/powderhorn/powderhorn/rules/escarmouche/Initiative" "KEEP" "Lcom/example/powderhorn/powderhorn/rules/escarmouche/Initiative;" (.ref a_KEEP)) (S_FIGURE_ENDS : Sta Z h0 "com/example/powderhorn/powderhorn/rules/escarmouche/Initiative" "FIGURE_ENDS" "Lcom/example/powderhorn/powderhorn/rules/escarmouche/Initiative;" (.ref a_FIGURE_ENDS)) (S_SIDE_ENDS : Sta Z h0 "com/example/powderhorn/powderhorn/rules/escarmouche/Initiative" "SIDE_ENDS" "Lcom/example/powderhorn/powderhorn/rules/escarmouche/Initiative;" (.ref a_SIDE_ENDS)) (hp : (if p1 = (0 : Int32) then a_KEEP else if p1 = (1 : Int32) ∧ p2 = (0 : Int32) then a_FIGURE_ENDS else a_SIDE_ENDS) = r) :
    MetFree l (⟨"com/example/powderhorn/powderhorn/rules/escarmouche/Initiative", "after", "(IZ)Lcom/example/powderhorn/powderhorn/rules/escarmouche/Initiative;"⟩ : MethodName) (head1 (Jvm.Cond.code (⟨"com/example/powderhorn/powderhorn/rules/escarmouche/Initiative", "after", "(IZ)Lcom/example/powderhorn/powderhorn/rules/escarmouche/Initiative;"⟩ : MethodName) prog_53_method_4_code 3 (some (.object "com/example/powderhorn/powderhorn/rules/escarmouche/Initiative")) :: ws) own_RA) (fun aa__ U => aa__ = #[(.int p1), (.int p2)] ∧ Z.Warmed39 U.vm ∧ U.heap = h0) (fun _ _ _ _ _ => True) (fun _ U oc_ U' => ∃ rv__ rL__, oc_ = .returned rv__ ∧ own_QA Z p1 p2 a_KEEP a_FIGURE_ENDS a_SIDE_ENDS r h0 n0 rv__ U'.heap rL__ ∧ FrameEnd U oc_ U' rL__ own_RA.cells own_RA.slots) := by
  refine MetFree.of_bodySF (plainFor_of_name own_pn_com_example_powderhorn_powderhorn_rules_escarmouche_Initiative) hisR ?_
  intro p e s m args below meth c s₁ Bd hml0 hP hK
  obtain ⟨rfl, hZ, hh⟩ := hP
  have hx := Bd.exec
  have hby := Bd.bytes
  have hml : c.maxLocals = 3 := hml0
  have hown : s.vm.findClass "com/example/powderhorn/powderhorn/rules/escarmouche/Initiative" = some m.cls := findClass_of_methodNamed Bd.named
  have hnm := (name_of_methodNamed Bd.named Bd.method).1
  have X0 : Stand p l e own_RA s m #[(.int p1), (.int p2)] below meth c s₁ [] 0 0 := Stand.of_body Bd
  have e0 : s₁.heap = h0 := by rw [← hh, Bd.state]; rfl
  have N0 := Fr.nil n0
  refine own_in (fun _ k => castTop (own_efA m p1 p2) k) ?_
  intro RR hRR
  show own_Go p.tables e below RR (s₁.setTop (mkF m 0 #[.val (.int p1), .val (.int p2), .unset] []))
  refine own_st (fun _ k => XS.iloadN X0.here hx rfl (hb hby own_dprog_53_method_4_code_0) rfl k) ?_
  show own_Go p.tables e below RR (s₁.setTop (mkF m 1 #[.val (.int p1), .val (.int p2), .unset] [(.int p1)]))
  by_cases hc1_1 : p1 = (0 : Int32)
  · refine own_st (fun _ k => XS.ifNo X0.here hx rfl (hb hby own_dprog_53_method_4_code_1) rfl ((if0 _ _).trans (teq hc1_1).2) k) ?_
    show own_Go p.tables e below RR (s₁.setTop (mkF m 4 #[.val (.int p1), .val (.int p2), .unset] []))
    obtain ⟨T2, X2, e2, st2⟩ := getS2 X0 hx hZ hown (host := "") (Or.inl (hw _ (List.mem_of_getElem? (i := 17) rfl))) Via.refl e0 S_KEEP (g := (mkF m 4 #[.val (.int p1), .val (.int p2), .unset] [])) rfl (hb hby own_dprog_53_method_4_code_4)
    refine own_st st2 ?_
    show own_Go p.tables e below RR (T2.setTop (mkF m 7 #[.val (.int p1), .val (.int p2), .unset] [(.ref a_KEEP)]))
    refine own_st (fun _ k => XS.astoreN X2.here hx rfl (hb hby own_dprog_53_method_4_code_7) rfl rfl (l' := #[.val (.int p1), .val (.int p2), .val (.ref a_KEEP)]) rfl (XS.goto X2.here hx rfl (pc0 := 8) (pc' := 31) rfl (hb hby own_dprog_53_method_4_code_8) (by decide) (by decide) (XS.aloadN X2.here hx rfl (hb hby own_dprog_53_method_4_code_31) rfl rfl k))) ?_
    show own_Go p.tables e below RR (T2.setTop (mkF m 32 #[.val (.int p1), .val (.int p2), .val (.ref a_KEEP)] [(.ref a_KEEP)]))
    obtain ⟨fs, hrt_, hrun, hended, hW, hsame⟩ := X2.leave (v := some (.ref a_KEEP)) (fun h => by rw [Bd.returns] at h; cases h)
    refine own_fin (retOut X2 hx Bd.returns rfl (Or.inr (Or.inr (Or.inr (Or.inr ⟨rfl, rfl, rfl⟩)))) (hb hby own_dprog_53_method_4_code_32) hrt_) (hRR _ ⟨_, hrun, hended, _, _, rfl, ?_, ⟨_, rfl⟩, hW, hsame.mono (by decide) (by decide)⟩)
    show own_QA Z p1 p2 a_KEEP a_FIGURE_ENDS a_SIDE_ENDS r h0 n0 _ T2.heap _
    rw [e2]
    exact ⟨own_rr (by simpa [hc1_1] using hp), N0, rfl⟩
  · refine own_st (fun _ k => XS.ifYes X0.here hx rfl (pc0 := 1) (pc' := 11) rfl (hb hby own_dprog_53_method_4_code_1) rfl ((if0 _ _).trans (feq hc1_1).2) (by decide) (by decide) (XS.iloadN X0.here hx rfl (hb hby own_dprog_53_method_4_code_11) rfl (XS.iconst X0.here hx rfl (hb hby own_dprog_53_method_4_code_12) k))) ?_
    show own_Go p.tables e below RR (s₁.setTop (mkF m 13 #[.val (.int p1), .val (.int p2), .unset] [(.int (1 : Int32)), (.int p1)]))
    by_cases hc13_3 : p1 = (1 : Int32)
    · refine own_st (fun _ k => XS.icmpNo X0.here hx rfl (hb hby own_dprog_53_method_4_code_13) rfl (teq hc13_3).2 (XS.iloadN X0.here hx rfl (hb hby own_dprog_53_method_4_code_16) rfl k)) ?_
      show own_Go p.tables e below RR (s₁.setTop (mkF m 17 #[.val (.int p1), .val (.int p2), .unset] [(.int p2)]))
      by_cases hc17_4 : p2 = (0 : Int32)
      · refine own_st (fun _ k => XS.ifNo X0.here hx rfl (hb hby own_dprog_53_method_4_code_17) rfl ((if0 _ _).trans (teq hc17_4).2) k) ?_
        show own_Go p.tables e below RR (s₁.setTop (mkF m 20 #[.val (.int p1), .val (.int p2), .unset] []))
        obtain ⟨T5, X5, e5, st5⟩ := getS2 X0 hx hZ hown (host := "") (Or.inl (hw _ (List.mem_of_getElem? (i := 20) rfl))) Via.refl e0 S_FIGURE_ENDS (g := (mkF m 20 #[.val (.int p1), .val (.int p2), .unset] [])) rfl (hb hby own_dprog_53_method_4_code_20)
        refine own_st st5 ?_
        show own_Go p.tables e below RR (T5.setTop (mkF m 23 #[.val (.int p1), .val (.int p2), .unset] [(.ref a_FIGURE_ENDS)]))
        refine own_st (fun _ k => XS.astoreN X5.here hx rfl (hb hby own_dprog_53_method_4_code_23) rfl rfl (l' := #[.val (.int p1), .val (.int p2), .val (.ref a_FIGURE_ENDS)]) rfl (XS.goto X5.here hx rfl (pc0 := 24) (pc' := 31) rfl (hb hby own_dprog_53_method_4_code_24) (by decide) (by decide) (XS.aloadN X5.here hx rfl (hb hby own_dprog_53_method_4_code_31) rfl rfl k))) ?_
        show own_Go p.tables e below RR (T5.setTop (mkF m 32 #[.val (.int p1), .val (.int p2), .val (.ref a_FIGURE_ENDS)] [(.ref a_FIGURE_ENDS)]))
        obtain ⟨fs, hrt_, hrun, hended, hW, hsame⟩ := X5.leave (v := some (.ref a_FIGURE_ENDS)) (fun h => by rw [Bd.returns] at h; cases h)
        refine own_fin (retOut X5 hx Bd.returns rfl (Or.inr (Or.inr (Or.inr (Or.inr ⟨rfl, rfl, rfl⟩)))) (hb hby own_dprog_53_method_4_code_32) hrt_) (hRR _ ⟨_, hrun, hended, _, _, rfl, ?_, ⟨_, rfl⟩, hW, hsame.mono (by decide) (by decide)⟩)
        show own_QA Z p1 p2 a_KEEP a_FIGURE_ENDS a_SIDE_ENDS r h0 n0 _ T5.heap _
        rw [e5]
        exact ⟨own_rr (by simpa [hc1_1, hc13_3, hc17_4] using hp), N0, rfl⟩
      · refine own_st (fun _ k => XS.ifYes X0.here hx rfl (pc0 := 17) (pc' := 27) rfl (hb hby own_dprog_53_method_4_code_17) rfl ((if0 _ _).trans (feq hc17_4).2) (by decide) (by decide) k) ?_
        show own_Go p.tables e below RR (s₁.setTop (mkF m 27 #[.val (.int p1), .val (.int p2), .unset] []))
        obtain ⟨T6, X6, e6, st6⟩ := getS2 X0 hx hZ hown (host := "") (Or.inl (hw _ (List.mem_of_getElem? (i := 19) rfl))) Via.refl e0 S_SIDE_ENDS (g := (mkF m 27 #[.val (.int p1), .val (.int p2), .unset] [])) rfl (hb hby own_dprog_53_method_4_code_27)
        refine own_st st6 ?_
        show own_Go p.tables e below RR (T6.setTop (mkF m 30 #[.val (.int p1), .val (.int p2), .unset] [(.ref a_SIDE_ENDS)]))
        refine own_st (fun _ k => XS.astoreN X6.here hx rfl (hb hby own_dprog_53_method_4_code_30) rfl rfl (l' := #[.val (.int p1), .val (.int p2), .val (.ref a_SIDE_ENDS)]) rfl (XS.aloadN X6.here hx rfl (hb hby own_dprog_53_method_4_code_31) rfl rfl k)) ?_
        show own_Go p.tables e below RR (T6.setTop (mkF m 32 #[.val (.int p1), .val (.int p2), .val (.ref a_SIDE_ENDS)] [(.ref a_SIDE_ENDS)]))
        obtain ⟨fs, hrt_, hrun, hended, hW, hsame⟩ := X6.leave (v := some (.ref a_SIDE_ENDS)) (fun h => by rw [Bd.returns] at h; cases h)
        refine own_fin (retOut X6 hx Bd.returns rfl (Or.inr (Or.inr (Or.inr (Or.inr ⟨rfl, rfl, rfl⟩)))) (hb hby own_dprog_53_method_4_code_32) hrt_) (hRR _ ⟨_, hrun, hended, _, _, rfl, ?_, ⟨_, rfl⟩, hW, hsame.mono (by decide) (by decide)⟩)
        show own_QA Z p1 p2 a_KEEP a_FIGURE_ENDS a_SIDE_ENDS r h0 n0 _ T6.heap _
        rw [e6]
        exact ⟨own_rr (by simpa [hc1_1, hc13_3, hc17_4] using hp), N0, rfl⟩
    · refine own_st (fun _ k => XS.icmpYes X0.here hx rfl (pc0 := 13) (pc' := 27) rfl (hb hby own_dprog_53_method_4_code_13) rfl (feq hc13_3).2 (by decide) (by decide) k) ?_
      show own_Go p.tables e below RR (s₁.setTop (mkF m 27 #[.val (.int p1), .val (.int p2), .unset] []))
      obtain ⟨T7, X7, e7, st7⟩ := getS2 X0 hx hZ hown (host := "") (Or.inl (hw _ (List.mem_of_getElem? (i := 19) rfl))) Via.refl e0 S_SIDE_ENDS (g := (mkF m 27 #[.val (.int p1), .val (.int p2), .unset] [])) rfl (hb hby own_dprog_53_method_4_code_27)
      refine own_st st7 ?_
      show own_Go p.tables e below RR (T7.setTop (mkF m 30 #[.val (.int p1), .val (.int p2), .unset] [(.ref a_SIDE_ENDS)]))
      refine own_st (fun _ k => XS.astoreN X7.here hx rfl (hb hby own_dprog_53_method_4_code_30) rfl rfl (l' := #[.val (.int p1), .val (.int p2), .val (.ref a_SIDE_ENDS)]) rfl (XS.aloadN X7.here hx rfl (hb hby own_dprog_53_method_4_code_31) rfl rfl k)) ?_
      show own_Go p.tables e below RR (T7.setTop (mkF m 32 #[.val (.int p1), .val (.int p2), .val (.ref a_SIDE_ENDS)] [(.ref a_SIDE_ENDS)]))
      obtain ⟨fs, hrt_, hrun, hended, hW, hsame⟩ := X7.leave (v := some (.ref a_SIDE_ENDS)) (fun h => by rw [Bd.returns] at h; cases h)
      refine own_fin (retOut X7 hx Bd.returns rfl (Or.inr (Or.inr (Or.inr (Or.inr ⟨rfl, rfl, rfl⟩)))) (hb hby own_dprog_53_method_4_code_32) hrt_) (hRR _ ⟨_, hrun, hended, _, _, rfl, ?_, ⟨_, rfl⟩, hW, hsame.mono (by decide) (by decide)⟩)
      show own_QA Z p1 p2 a_KEEP a_FIGURE_ENDS a_SIDE_ENDS r h0 n0 _ T7.heap _
      rw [e7]
      exact ⟨own_rr (by simpa [hc1_1, hc13_3] using hp), N0, rfl⟩
theorem own_pn_com_example_powderhorn_powderhorn_rules_escarmouche_InitiativeAfterPinLaw : plainName "com/example/powderhorn/powderhorn/rules/escarmouche/InitiativeAfterPinLaw" = true := by first | (simp [plainName, overriddenIn]; done) | decide +kernel
theorem own_pd__II_I : parseMethodDescriptor "(II)I" = some ⟨[.int, .int], some .int⟩ := by decide +kernel
theorem own_pd__IZ_Lcom_example_powderhorn_powderhorn_rules_escarmouche_Initiative_ : parseMethodDescriptor "(IZ)Lcom/example/powderhorn/powderhorn/rules/escarmouche/Initiative;" = some ⟨[.int, .boolean], some (.object "com/example/powderhorn/powderhorn/rules/escarmouche/Initiative")⟩ := by decide +kernel
theorem own_ef0 (m : MethodId) (p1 : Int32) (p2 : Int32) : entryFrame m #[(.int p1), (.int p2)] maxLocals = mkF m 0 #[.val (.int p1), .val (.int p2), .unset, .unset, .unset, .unset, .unset, .unset] [] := by first | (simp [entryFrame, mkF, argsToLocals, Value.category, maxLocals]; done) | rfl
def own_Q0 (Z : State) (p1 : Int32) (p2 : Int32) (a_KEEP : Addr) (a_FIGURE_ENDS : Addr) (a_SIDE_ENDS : Addr) (h0 : Heap) (n0 : Nat) (rv__ : Option Value) (h : Heap) (rL__ : List Loc) : Prop := rv__ = some (.int 1) ∧ Fr n0 rL__
set_option maxRecDepth 65536 in
set_option maxHeartbeats 40000000 in
theorem own_rm0 (l : Launch) (Z : State) (a0 : Array Value) (hw : ∀ d ∈ tables_1, d.before a0 Z = true) (ws : List Jvm.Cond) (p1 : Int32) (p2 : Int32) (a_KEEP : Addr) (a_FIGURE_ENDS : Addr) (a_SIDE_ENDS : Addr) (h0 : Heap) (n0 : Nat) (Z0 : n0 ≤ h0.size) (E_KEEP : Exa Z h0 a_KEEP "com/example/powderhorn/powderhorn/rules/escarmouche/Initiative") (S_KEEP : Sta Z h0 "com/example/powderhorn/powderhorn/rules/escarmouche/Initiative" "KEEP" "Lcom/example/powderhorn/powderhorn/rules/escarmouche/Initiative;" (.ref a_KEEP)) (E_FIGURE_ENDS : Exa Z h0 a_FIGURE_ENDS "com/example/powderhorn/powderhorn/rules/escarmouche/Initiative") (S_FIGURE_ENDS : Sta Z h0 "com/example/powderhorn/powderhorn/rules/escarmouche/Initiative" "FIGURE_ENDS" "Lcom/example/powderhorn/powderhorn/rules/escarmouche/Initiative;" (.ref a_FIGURE_ENDS)) (E_SIDE_ENDS : Exa Z h0 a_SIDE_ENDS "com/example/powderhorn/powderhorn/rules/escarmouche/Initiative") (S_SIDE_ENDS : Sta Z h0 "com/example/powderhorn/powderhorn/rules/escarmouche/Initiative" "SIDE_ENDS" "Lcom/example/powderhorn/powderhorn/rules/escarmouche/Initiative;" (.ref a_SIDE_ENDS)) :
    MetFree l x (head1 (Jvm.Cond.code x code maxLocals ret :: ws) room_1) (fun aa__ U => aa__ = #[(.int p1), (.int p2)] ∧ Z.Warmed39 U.vm ∧ U.heap = h0) (fun _ _ _ _ _ => True) (fun _ U oc_ U' => ∃ rv__ rL__, oc_ = .returned rv__ ∧ own_Q0 Z p1 p2 a_KEEP a_FIGURE_ENDS a_SIDE_ENDS h0 n0 rv__ U'.heap rL__ ∧ FrameEnd U oc_ U' rL__ room_1.cells room_1.slots) := by
  refine MetFree.of_bodySF (plainFor_of_name own_pn_com_example_powderhorn_powderhorn_rules_escarmouche_InitiativeAfterPinLaw) hisR ?_
  intro p e s m args below meth c s₁ Bd hml0 hP hK
  obtain ⟨rfl, hZ, hh⟩ := hP
  have hx := Bd.exec
  have hby := Bd.bytes
  have hml : c.maxLocals = 8 := hml0
  have hown : s.vm.findClass "com/example/powderhorn/powderhorn/rules/escarmouche/InitiativeAfterPinLaw" = some m.cls := findClass_of_methodNamed Bd.named
  have hnm := (name_of_methodNamed Bd.named Bd.method).1
  have X0 : Stand p l e room_1 s m #[(.int p1), (.int p2)] below meth c s₁ [] 0 0 := Stand.of_body Bd
  have e0 : s₁.heap = h0 := by rw [← hh, Bd.state]; rfl
  have N0 := Fr.nil n0
  refine own_in (fun _ k => castTop (own_ef0 m p1 p2) k) ?_
  intro RR hRR
  show own_Go p.tables e below RR (s₁.setTop (mkF m 0 #[.val (.int p1), .val (.int p2), .unset, .unset, .unset, .unset, .unset, .unset] []))
  refine own_st (fun _ k => XS.iloadN X0.here hx rfl (hb hby at_0) rfl (XS.iconst X0.here hx rfl (hb hby at_1) (XS.iand X0.here hx rfl (hb hby at_2) rfl k))) ?_
  show own_Go p.tables e below RR (s₁.setTop (mkF m 3 #[.val (.int p1), .val (.int p2), .unset, .unset, .unset, .unset, .unset, .unset] [(.int (p2 &&& (1 : Int32)))]))
  by_cases hc3_1 : (p2 &&& (1 : Int32)) = (0 : Int32)
  · refine own_st (fun _ k => XS.ifYes X0.here hx rfl (pc0 := 3) (pc' := 10) rfl (hb hby at_3) rfl ((if0 _ _).trans (teq hc3_1).1) (by decide) (by decide) (XS.iconst X0.here hx rfl (hb hby at_10) (XS.istoreN X0.here hx rfl (hb hby at_11) rfl (l' := #[.val (.int p1), .val (.int p2), .val (.int (0 : Int32)), .unset, .unset, .unset, .unset, .unset]) rfl (XS.iloadN X0.here hx rfl (hb hby at_12) rfl (XS.iconst X0.here hx rfl (hb hby at_13) (XS.iand X0.here hx rfl (hb hby at_14) rfl k)))))) ?_
    show own_Go p.tables e below RR (s₁.setTop (mkF m 15 #[.val (.int p1), .val (.int p2), .val (.int (0 : Int32)), .unset, .unset, .unset, .unset, .unset] [(.int (p2 &&& (2 : Int32)))]))
    by_cases hc15_2 : (p2 &&& (2 : Int32)) = (0 : Int32)
    · refine own_st (fun _ k => XS.ifYes X0.here hx rfl (pc0 := 15) (pc' := 24) rfl (hb hby at_15) rfl ((if0 _ _).trans (teq hc15_2).1) (by decide) (by decide) (XS.iloadN X0.here hx rfl (hb hby at_24) rfl (X0.ldcInt hx hown (mvT hZ (hw _ (List.mem_of_getElem? (i := 18) rfl))) (g := (mkF m 25 #[.val (.int p1), .val (.int p2), .val (.int (0 : Int32)), .unset, .unset, .unset, .unset, .unset] [(.int p1)])) rfl (hb hby at_25) _ (XS.iand X0.here hx rfl (hb hby at_27) rfl k)))) ?_
      show own_Go p.tables e below RR (s₁.setTop (mkF m 28 #[.val (.int p1), .val (.int p2), .val (.int (0 : Int32)), .unset, .unset, .unset, .unset, .unset] [(.int (p1 &&& (2147483647 : Int32)))]))
      generalize gv3 : (p1 &&& (2147483647 : Int32)) = v3
      show own_Go p.tables e below RR (s₁.setTop (mkF m 28 #[.val (.int p1), .val (.int p2), .val (.int (0 : Int32)), .unset, .unset, .unset, .unset, .unset] [(.int v3)]))
      refine own_st (fun _ k => XS.istoreN X0.here hx rfl (hb hby at_28) rfl (l' := #[.val (.int p1), .val (.int p2), .val (.int (0 : Int32)), .val (.int v3), .unset, .unset, .unset, .unset]) rfl k) ?_
      show own_Go p.tables e below RR (s₁.setTop (mkF m 29 #[.val (.int p1), .val (.int p2), .val (.int (0 : Int32)), .val (.int v3), .unset, .unset, .unset, .unset] []))
      show own_Go p.tables e below RR (s₁.setTop (mkF m 29 #[.val (.int p1), .val (.int p2), .val (.int (0 : Int32)), .val (.int v3), .unset, .unset, .unset, .unset] []))
      by_cases ho4 : v3 = (0 : Int32)
      · subst ho4
        show own_Go p.tables e below RR (s₁.setTop (mkF m 29 #[.val (.int p1), .val (.int p2), .val (.int (0 : Int32)), .val (.int (0 : Int32)), .unset, .unset, .unset, .unset] []))
        show own_Go p.tables e below RR (s₁.setTop (mkF m 29 #[.val (.int p1), .val (.int p2), .val (.int (0 : Int32)), .val (.int (0 : Int32)), .unset, .unset, .unset, .unset] []))
        refine own_st (fun _ k => XS.iconst X0.here hx rfl (hb hby at_29) (XS.iloadN X0.here hx rfl (hb hby at_30) rfl k)) ?_
        show own_Go p.tables e below RR (s₁.setTop (mkF m 31 #[.val (.int p1), .val (.int p2), .val (.int (0 : Int32)), .val (.int (0 : Int32)), .unset, .unset, .unset, .unset] [(.int (0 : Int32)), (.int (2 : Int32))]))
        obtain ⟨_, _, ⟨T6, L6, k6, n6⟩, -, X6, ⟨Lc6, hQ6, l6, y6, z6⟩, st6⟩ := Jvm.LawKit.callS X0 hx (y := (⟨"java/lang/Math", "min", "(II)I"⟩ : MethodName)) hown (mvT hZ (hw _ (List.mem_of_getElem? (i := 0) rfl))) (mvT hZ (hw _ (List.mem_of_getElem? (i := 1) rfl))) (mvT hZ (hw _ (List.mem_of_getElem? (i := 2) rfl))) (mvT hZ (hw _ (List.mem_of_getElem? (i := 3) rfl))) (by decide) (backOf (W := 0) (own_rmM l Z a0 hw [] (2 : Int32) (0 : Int32) (0 : Int32) h0 n0 Z0 (by decide)) hZ (hw _ (List.mem_of_getElem? (i := 3) rfl)) (hw _ (List.mem_of_getElem? (i := 2) rfl)) (by decide) (by decide)) (g := (mkF m 31 #[.val (.int p1), .val (.int p2), .val (.int (0 : Int32)), .val (.int (0 : Int32)), .unset, .unset, .unset, .unset] [(.int (0 : Int32)), (.int (2 : Int32))])) rfl (by rw [hml]; rfl) (argsL := [(.int (2 : Int32)), (.int (0 : Int32))]) (rest := []) (lenOf own_pd__II_I rfl) rfl (by show 2 * 0 + _ ≤ _; exact Nat.le_of_eq rfl) (hb hby at_31) (fun _ _ => ⟨rfl, e0, (by decide : 0 + 0 ≤ _), (by decide : 0 + 0 ≤ _)⟩)
        dsimp only [Pt.U, Pt.locs, Pt.cells, Pt.slots] at X6 l6 y6 z6 st6 hQ6
        subst l6 y6 z6
        obtain ⟨rfl, Nq6, eq6⟩ := hQ6
        have N6 := Fr.app N0 Nq6
        refine own_st st6 ?_
        show own_Go p.tables e below RR (T6.setTop (mkF m 34 #[.val (.int p1), .val (.int p2), .val (.int (0 : Int32)), .val (.int (0 : Int32)), .unset, .unset, .unset, .unset] [(.int (0 : Int32))]))
        refine own_st (fun _ k => XS.istore X6.here hx rfl (hb hby at_34) rfl (l' := #[.val (.int p1), .val (.int p2), .val (.int (0 : Int32)), .val (.int (0 : Int32)), .val (.int (0 : Int32)), .unset, .unset, .unset]) rfl (XS.iloadN X6.here hx rfl (hb hby at_36) rfl k)) ?_
        show own_Go p.tables e below RR (T6.setTop (mkF m 37 #[.val (.int p1), .val (.int p2), .val (.int (0 : Int32)), .val (.int (0 : Int32)), .val (.int (0 : Int32)), .unset, .unset, .unset] [(.int (0 : Int32))]))
        refine own_st (fun _ k => XS.ifYes X6.here hx rfl (pc0 := 37) (pc' := 54) rfl (hb hby at_37) rfl ((if0 _ _).trans (teq (by decide)).1) (by decide) (by decide) (XS.iconst X6.here hx rfl (hb hby at_54) k)) ?_
        show own_Go p.tables e below RR (T6.setTop (mkF m 55 #[.val (.int p1), .val (.int p2), .val (.int (0 : Int32)), .val (.int (0 : Int32)), .val (.int (0 : Int32)), .unset, .unset, .unset] [(.int (3 : Int32))]))
        obtain ⟨T7, h7, k7, X7, e7, E7, A7, O7, st7⟩ := newR X6 hx hZ hown (hw _ (List.mem_of_getElem? (i := 4) rfl)) (hw _ (List.mem_of_getElem? (i := 5) rfl)) eq6 (g := (mkF m 55 #[.val (.int p1), .val (.int p2), .val (.int (0 : Int32)), .val (.int (0 : Int32)), .val (.int (0 : Int32)), .unset, .unset, .unset] [(.int (3 : Int32))])) rfl (hb hby at_55) rfl (by decide) (cap := 3) (by decide) (by decide) (by decide) (by decide)
        obtain ⟨b7, gb7⟩ : ∃ z, z = h0.size := ⟨_, rfl⟩
        rw [← gb7] at A7 st7
        have ge7 : n0 ≤ b7 := Nat.le_trans Z0 (Nat.le_of_eq gb7.symm)
        refine own_st st7 ?_
        have z8 : n0 ≤ h7.size := Nat.le_trans Z0 E7.1
        have V7 : Arv Z h7 b7 k7 (.object "com/example/powderhorn/powderhorn/rules/escarmouche/Initiative") (3 : Int32) [.null, .null, .null] .null := (Arv.new A7 (by decide)).pad (pad_rep [] .null 3)
        show own_Go p.tables e below RR (T7.setTop (mkF m 58 #[.val (.int p1), .val (.int p2), .val (.int (0 : Int32)), .val (.int (0 : Int32)), .val (.int (0 : Int32)), .unset, .unset, .unset] [(.ref b7)]))
        refine own_st (fun _ k => XS.dup X7.here hx rfl (hb hby at_58) rfl rfl (XS.iconst X7.here hx rfl (hb hby at_59) k)) ?_
        show own_Go p.tables e below RR (T7.setTop (mkF m 60 #[.val (.int p1), .val (.int p2), .val (.int (0 : Int32)), .val (.int (0 : Int32)), .val (.int (0 : Int32)), .unset, .unset, .unset] [(.int (0 : Int32)), (.ref b7), (.ref b7)]))
        have f9 := (S_KEEP.ext E7)
        obtain ⟨T10, X10, e10, st10⟩ := getS2 X7 hx hZ hown (host := "") (Or.inl (hw _ (List.mem_of_getElem? (i := 6) rfl))) Via.refl e7 f9 (g := (mkF m 60 #[.val (.int p1), .val (.int p2), .val (.int (0 : Int32)), .val (.int (0 : Int32)), .val (.int (0 : Int32)), .unset, .unset, .unset] [(.int (0 : Int32)), (.ref b7), (.ref b7)])) rfl (hb hby at_60)
        refine own_st st10 ?_
        show own_Go p.tables e below RR (T10.setTop (mkF m 63 #[.val (.int p1), .val (.int p2), .val (.int (0 : Int32)), .val (.int (0 : Int32)), .val (.int (0 : Int32)), .unset, .unset, .unset] [(.ref a_KEEP), (.int (0 : Int32)), (.ref b7), (.ref b7)]))
        obtain ⟨c11, A11, q11, s11, m11, H11, G11⟩ := id V7
        have f12 := (E_KEEP.ext E7)
        obtain ⟨T13, h13, X13, e13, W13, st13⟩ := stR X10 hx hZ e10 A11 (j := (0 : Int32)) (inb_of s11 ⟨by decide, by decide⟩) rfl (Sto.ofV A11 q11 O7 (Ins.self f12)) (g := (mkF m 63 #[.val (.int p1), .val (.int p2), .val (.int (0 : Int32)), .val (.int (0 : Int32)), .val (.int (0 : Int32)), .unset, .unset, .unset] [(.ref a_KEEP), (.int (0 : Int32)), (.ref b7), (.ref b7)])) rfl rfl (hb hby at_63)
        have V13 := Arv.set A11 q11 s11 m11 H11 G11 rfl W13 0 rfl (Nat.le_of_ble_eq_true rfl)
        have V13 : Arv Z h13 b7 k7 (.object "com/example/powderhorn/powderhorn/rules/escarmouche/Initiative") (3 : Int32) [(.ref a_KEEP), .null, .null] .null := V13
        have N13 := Fr.snoc X13 N6 ge7
        refine own_st st13 ?_
        have z14 : n0 ≤ h13.size := Nat.le_trans z8 (Keep.of_wr W13).1
        show own_Go p.tables e below RR (T13.setTop (mkF m 64 #[.val (.int p1), .val (.int p2), .val (.int (0 : Int32)), .val (.int (0 : Int32)), .val (.int (0 : Int32)), .unset, .unset, .unset] [(.ref b7)]))
        refine own_st (fun _ k => XS.dup X13.here hx rfl (hb hby at_64) rfl rfl (XS.iconst X13.here hx rfl (hb hby at_65) k)) ?_
        show own_Go p.tables e below RR (T13.setTop (mkF m 66 #[.val (.int p1), .val (.int p2), .val (.int (0 : Int32)), .val (.int (0 : Int32)), .val (.int (0 : Int32)), .unset, .unset, .unset] [(.int (1 : Int32)), (.ref b7), (.ref b7)]))
        have f15 := ((S_FIGURE_ENDS.ext E7).wr W13)
        obtain ⟨T16, X16, e16, st16⟩ := getS2 X13 hx hZ hown (host := "") (Or.inl (hw _ (List.mem_of_getElem? (i := 10) rfl))) Via.refl e13 f15 (g := (mkF m 66 #[.val (.int p1), .val (.int p2), .val (.int (0 : Int32)), .val (.int (0 : Int32)), .val (.int (0 : Int32)), .unset, .unset, .unset] [(.int (1 : Int32)), (.ref b7), (.ref b7)])) rfl (hb hby at_66)
        refine own_st st16 ?_
        show own_Go p.tables e below RR (T16.setTop (mkF m 69 #[.val (.int p1), .val (.int p2), .val (.int (0 : Int32)), .val (.int (0 : Int32)), .val (.int (0 : Int32)), .unset, .unset, .unset] [(.ref a_FIGURE_ENDS), (.int (1 : Int32)), (.ref b7), (.ref b7)]))
        obtain ⟨c17, A17, q17, s17, m17, H17, G17⟩ := id V13
        have f18 := ((E_FIGURE_ENDS.ext E7).wr W13)
        obtain ⟨T19, h19, X19, e19, W19, st19⟩ := stR X16 hx hZ e16 A17 (j := (1 : Int32)) (inb_of s17 ⟨by decide, by decide⟩) rfl (Sto.ofV A17 q17 O7 (Ins.self f18)) (g := (mkF m 69 #[.val (.int p1), .val (.int p2), .val (.int (0 : Int32)), .val (.int (0 : Int32)), .val (.int (0 : Int32)), .unset, .unset, .unset] [(.ref a_FIGURE_ENDS), (.int (1 : Int32)), (.ref b7), (.ref b7)])) rfl rfl (hb hby at_69)
        have V19 := Arv.set A17 q17 s17 m17 H17 G17 rfl W19 1 rfl (Nat.le_of_ble_eq_true rfl)
        have V19 : Arv Z h19 b7 k7 (.object "com/example/powderhorn/powderhorn/rules/escarmouche/Initiative") (3 : Int32) [(.ref a_KEEP), (.ref a_FIGURE_ENDS), .null] .null := V19
        have N19 := Fr.snoc X19 N13 ge7
        refine own_st st19 ?_
        have z20 : n0 ≤ h19.size := Nat.le_trans z14 (Keep.of_wr W19).1
        show own_Go p.tables e below RR (T19.setTop (mkF m 70 #[.val (.int p1), .val (.int p2), .val (.int (0 : Int32)), .val (.int (0 : Int32)), .val (.int (0 : Int32)), .unset, .unset, .unset] [(.ref b7)]))
        refine own_st (fun _ k => XS.dup X19.here hx rfl (hb hby at_70) rfl rfl (XS.iconst X19.here hx rfl (hb hby at_71) k)) ?_
        show own_Go p.tables e below RR (T19.setTop (mkF m 72 #[.val (.int p1), .val (.int p2), .val (.int (0 : Int32)), .val (.int (0 : Int32)), .val (.int (0 : Int32)), .unset, .unset, .unset] [(.int (2 : Int32)), (.ref b7), (.ref b7)]))
        have f21 := (((S_SIDE_ENDS.ext E7).wr W13).wr W19)
        obtain ⟨T22, X22, e22, st22⟩ := getS2 X19 hx hZ hown (host := "") (Or.inl (hw _ (List.mem_of_getElem? (i := 12) rfl))) Via.refl e19 f21 (g := (mkF m 72 #[.val (.int p1), .val (.int p2), .val (.int (0 : Int32)), .val (.int (0 : Int32)), .val (.int (0 : Int32)), .unset, .unset, .unset] [(.int (2 : Int32)), (.ref b7), (.ref b7)])) rfl (hb hby at_72)
        refine own_st st22 ?_
        show own_Go p.tables e below RR (T22.setTop (mkF m 75 #[.val (.int p1), .val (.int p2), .val (.int (0 : Int32)), .val (.int (0 : Int32)), .val (.int (0 : Int32)), .unset, .unset, .unset] [(.ref a_SIDE_ENDS), (.int (2 : Int32)), (.ref b7), (.ref b7)]))
        obtain ⟨c23, A23, q23, s23, m23, H23, G23⟩ := id V19
        have f24 := (((E_SIDE_ENDS.ext E7).wr W13).wr W19)
        obtain ⟨T25, h25, X25, e25, W25, st25⟩ := stR X22 hx hZ e22 A23 (j := (2 : Int32)) (inb_of s23 ⟨by decide, by decide⟩) rfl (Sto.ofV A23 q23 O7 (Ins.self f24)) (g := (mkF m 75 #[.val (.int p1), .val (.int p2), .val (.int (0 : Int32)), .val (.int (0 : Int32)), .val (.int (0 : Int32)), .unset, .unset, .unset] [(.ref a_SIDE_ENDS), (.int (2 : Int32)), (.ref b7), (.ref b7)])) rfl rfl (hb hby at_75)
        have V25 := Arv.set A23 q23 s23 m23 H23 G23 rfl W25 2 rfl (Nat.le_of_ble_eq_true rfl)
        have V25 : Arv Z h25 b7 k7 (.object "com/example/powderhorn/powderhorn/rules/escarmouche/Initiative") (3 : Int32) [(.ref a_KEEP), (.ref a_FIGURE_ENDS), (.ref a_SIDE_ENDS)] .null := V25
        have N25 := Fr.snoc X25 N19 ge7
        refine own_st st25 ?_
        have z26 : n0 ≤ h25.size := Nat.le_trans z20 (Keep.of_wr W25).1
        show own_Go p.tables e below RR (T25.setTop (mkF m 76 #[.val (.int p1), .val (.int p2), .val (.int (0 : Int32)), .val (.int (0 : Int32)), .val (.int (0 : Int32)), .unset, .unset, .unset] [(.ref b7)]))
        refine own_st (fun _ k => XS.astore X25.here hx rfl (hb hby at_76) rfl rfl (l' := #[.val (.int p1), .val (.int p2), .val (.int (0 : Int32)), .val (.int (0 : Int32)), .val (.int (0 : Int32)), .val (.ref b7), .unset, .unset]) rfl (XS.aload X25.here hx rfl (hb hby at_78) rfl rfl (XS.iload X25.here hx rfl (hb hby at_80) rfl k))) ?_
        show own_Go p.tables e below RR (T25.setTop (mkF m 82 #[.val (.int p1), .val (.int p2), .val (.int (0 : Int32)), .val (.int (0 : Int32)), .val (.int (0 : Int32)), .val (.ref b7), .unset, .unset] [(.int (0 : Int32)), (.ref b7)]))
        obtain ⟨c27, A27, q27, s27, m27, H27, G27⟩ := id V25
        have b27 := inb_of (j := (0 : Int32)) s27 ⟨by decide, by decide⟩
        refine own_st (fun _ k => X25.aaload hx (j := (0 : Int32)) (v := (.ref a_KEEP)) (by rw [e25]; exact A27.1) (State.isArrayOf_alike hZ.alike A27.2.1) rfl A27.2.2 b27 (Has.at H27 b27 rfl) (g := (mkF m 82 #[.val (.int p1), .val (.int p2), .val (.int (0 : Int32)), .val (.int (0 : Int32)), .val (.int (0 : Int32)), .val (.ref b7), .unset, .unset] [(.int (0 : Int32)), (.ref b7)])) rfl rfl (hb hby at_82) _ (XS.astore X25.here hx rfl (hb hby at_83) rfl rfl (l' := #[.val (.int p1), .val (.int p2), .val (.int (0 : Int32)), .val (.int (0 : Int32)), .val (.int (0 : Int32)), .val (.ref b7), .val (.ref a_KEEP), .unset]) rfl (XS.iloadN X25.here hx rfl (hb hby at_85) rfl (XS.iloadN X25.here hx rfl (hb hby at_86) rfl k)))) ?_
        show own_Go p.tables e below RR (T25.setTop (mkF m 87 #[.val (.int p1), .val (.int p2), .val (.int (0 : Int32)), .val (.int (0 : Int32)), .val (.int (0 : Int32)), .val (.ref b7), .val (.ref a_KEEP), .unset] [(.int (0 : Int32)), (.int (0 : Int32))]))
        have f28 := (((f9.wr W13).wr W19).wr W25)
        have f29 := ((f15.wr W19).wr W25)
        have f30 := (f21.wr W25)
        obtain ⟨_, _, ⟨T31, L31, k31, n31⟩, -, X31, ⟨Lc31, hQ31, l31, y31, z31⟩, st31⟩ := Jvm.LawKit.callS X25 hx (y := (⟨"com/example/powderhorn/powderhorn/rules/escarmouche/Initiative", "after", "(IZ)Lcom/example/powderhorn/powderhorn/rules/escarmouche/Initiative;"⟩ : MethodName)) hown (mvT hZ (hw _ (List.mem_of_getElem? (i := 14) rfl))) (mvT hZ (hw _ (List.mem_of_getElem? (i := 15) rfl))) (mvT hZ (hw _ (List.mem_of_getElem? (i := 7) rfl))) (mvT hZ (hw _ (List.mem_of_getElem? (i := 16) rfl))) (by decide) (backOf (W := 0) (own_rmA l Z a0 hw [] (0 : Int32) (0 : Int32) a_KEEP a_FIGURE_ENDS a_SIDE_ENDS a_KEEP h25 n0 z26 f28 f29 f30 (by simp)) hZ (hw _ (List.mem_of_getElem? (i := 16) rfl)) (hw _ (List.mem_of_getElem? (i := 7) rfl)) (by decide) (by decide)) (g := (mkF m 87 #[.val (.int p1), .val (.int p2), .val (.int (0 : Int32)), .val (.int (0 : Int32)), .val (.int (0 : Int32)), .val (.ref b7), .val (.ref a_KEEP), .unset] [(.int (0 : Int32)), (.int (0 : Int32))])) rfl (by rw [hml]; rfl) (argsL := [(.int (0 : Int32)), (.int (0 : Int32))]) (rest := []) (lenOf own_pd__IZ_Lcom_example_powderhorn_powderhorn_rules_escarmouche_Initiative_ rfl) rfl (by show 2 * 0 + _ ≤ _; exact Nat.le_of_eq rfl) (hb hby at_87) (fun _ _ => ⟨rfl, e25, (by decide : 1 + 0 ≤ _), (by decide : 3 + 0 ≤ _)⟩)
        dsimp only [Pt.U, Pt.locs, Pt.cells, Pt.slots] at X31 l31 y31 z31 st31 hQ31
        subst l31 y31 z31
        obtain ⟨rfl, Nq31, eq31⟩ := hQ31
        have N31 := Fr.app N25 Nq31
        refine own_st st31 ?_
        show own_Go p.tables e below RR (T31.setTop (mkF m 90 #[.val (.int p1), .val (.int p2), .val (.int (0 : Int32)), .val (.int (0 : Int32)), .val (.int (0 : Int32)), .val (.ref b7), .val (.ref a_KEEP), .unset] [(.ref a_KEEP)]))
        refine own_st (fun _ k => XS.astore X31.here hx rfl (hb hby at_90) rfl rfl (l' := #[.val (.int p1), .val (.int p2), .val (.int (0 : Int32)), .val (.int (0 : Int32)), .val (.int (0 : Int32)), .val (.ref b7), .val (.ref a_KEEP), .val (.ref a_KEEP)]) rfl (XS.aload X31.here hx rfl (hb hby at_92) rfl rfl (XS.aload X31.here hx rfl (hb hby at_94) rfl rfl k))) ?_
        show own_Go p.tables e below RR (T31.setTop (mkF m 96 #[.val (.int p1), .val (.int p2), .val (.int (0 : Int32)), .val (.int (0 : Int32)), .val (.int (0 : Int32)), .val (.ref b7), .val (.ref a_KEEP), .val (.ref a_KEEP)] [(.ref a_KEEP), (.ref a_KEEP)]))
        refine own_st (fun _ k => Jvm.RoadKit.acmp (g := (mkF m 96 #[.val (.int p1), .val (.int p2), .val (.int (0 : Int32)), .val (.int (0 : Int32)), .val (.int (0 : Int32)), .val (.ref b7), .val (.ref a_KEEP), .val (.ref a_KEEP)] [(.ref a_KEEP), (.ref a_KEEP)])) X31 hx rfl rfl rfl (pc0 := 96) (pc' := 99) (same := true) rfl (hb hby at_96) rfl (decide_eq_true rfl) (by decide) (by decide) (XS.iconst X31.here hx rfl (hb hby at_99) (XS.goto X31.here hx rfl (pc0 := 100) (pc' := 104) rfl (hb hby at_100) (by decide) (by decide) k))) ?_
        show own_Go p.tables e below RR (T31.setTop (mkF m 104 #[.val (.int p1), .val (.int p2), .val (.int (0 : Int32)), .val (.int (0 : Int32)), .val (.int (0 : Int32)), .val (.ref b7), .val (.ref a_KEEP), .val (.ref a_KEEP)] [(.int (1 : Int32))]))
        obtain ⟨fs, hrt_, hrun, hended, hW, hsame⟩ := X31.leave (v := some (.int (1 : Int32))) (fun h => by rw [Bd.returns] at h; cases h)
        refine own_fin (retN X31 hx (t := .boolean) Bd.returns (by simp) (hb hby at_104) hrt_) (hRR _ ⟨_, hrun, hended, _, _, rfl, ?_, ⟨_, rfl⟩, hW, hsame.mono (by decide) (by decide)⟩)
        show own_Q0 Z p1 p2 a_KEEP a_FIGURE_ENDS a_SIDE_ENDS h0 n0 _ T31.heap _
        rw [eq31]
        exact ⟨rfl, N31⟩
      · by_cases ho5 : v3 = (1 : Int32)
        · subst ho5
          show own_Go p.tables e below RR (s₁.setTop (mkF m 29 #[.val (.int p1), .val (.int p2), .val (.int (0 : Int32)), .val (.int (1 : Int32)), .unset, .unset, .unset, .unset] []))
          show own_Go p.tables e below RR (s₁.setTop (mkF m 29 #[.val (.int p1), .val (.int p2), .val (.int (0 : Int32)), .val (.int (1 : Int32)), .unset, .unset, .unset, .unset] []))
          refine own_st (fun _ k => XS.iconst X0.here hx rfl (hb hby at_29) (XS.iloadN X0.here hx rfl (hb hby at_30) rfl k)) ?_
          show own_Go p.tables e below RR (s₁.setTop (mkF m 31 #[.val (.int p1), .val (.int p2), .val (.int (0 : Int32)), .val (.int (1 : Int32)), .unset, .unset, .unset, .unset] [(.int (1 : Int32)), (.int (2 : Int32))]))
          obtain ⟨_, _, ⟨T32, L32, k32, n32⟩, -, X32, ⟨Lc32, hQ32, l32, y32, z32⟩, st32⟩ := Jvm.LawKit.callS X0 hx (y := (⟨"java/lang/Math", "min", "(II)I"⟩ : MethodName)) hown (mvT hZ (hw _ (List.mem_of_getElem? (i := 0) rfl))) (mvT hZ (hw _ (List.mem_of_getElem? (i := 1) rfl))) (mvT hZ (hw _ (List.mem_of_getElem? (i := 2) rfl))) (mvT hZ (hw _ (List.mem_of_getElem? (i := 3) rfl))) (by decide) (backOf (W := 0) (own_rmM l Z a0 hw [] (2 : Int32) (1 : Int32) (1 : Int32) h0 n0 Z0 (by decide)) hZ (hw _ (List.mem_of_getElem? (i := 3) rfl)) (hw _ (List.mem_of_getElem? (i := 2) rfl)) (by decide) (by decide)) (g := (mkF m 31 #[.val (.int p1), .val (.int p2), .val (.int (0 : Int32)), .val (.int (1 : Int32)), .unset, .unset, .unset, .unset] [(.int (1 : Int32)), (.int (2 : Int32))])) rfl (by rw [hml]; rfl) (argsL := [(.int (2 : Int32)), (.int (1 : Int32))]) (rest := []) (lenOf own_pd__II_I rfl) rfl (by show 2 * 0 + _ ≤ _; exact Nat.le_of_eq rfl) (hb hby at_31) (fun _ _ => ⟨rfl, e0, (by decide : 0 + 0 ≤ _), (by decide : 0 + 0 ≤ _)⟩)
          dsimp only [Pt.U, Pt.locs, Pt.cells, Pt.slots] at X32 l32 y32 z32 st32 hQ32
          subst l32 y32 z32
          obtain ⟨rfl, Nq32, eq32⟩ := hQ32
          have N32 := Fr.app N0 Nq32
          refine own_st st32 ?_
          show own_Go p.tables e below RR (T32.setTop (mkF m 34 #[.val (.int p1), .val (.int p2), .val (.int (0 : Int32)), .val (.int (1 : Int32)), .unset, .unset, .unset, .unset] [(.int (1 : Int32))]))
          refine own_st (fun _ k => XS.istore X32.here hx rfl (hb hby at_34) rfl (l' := #[.val (.int p1), .val (.int p2), .val (.int (0 : Int32)), .val (.int (1 : Int32)), .val (.int (1 : Int32)), .unset, .unset, .unset]) rfl (XS.iloadN X32.here hx rfl (hb hby at_36) rfl k)) ?_
          show own_Go p.tables e below RR (T32.setTop (mkF m 37 #[.val (.int p1), .val (.int p2), .val (.int (0 : Int32)), .val (.int (1 : Int32)), .val (.int (1 : Int32)), .unset, .unset, .unset] [(.int (0 : Int32))]))
          refine own_st (fun _ k => XS.ifYes X32.here hx rfl (pc0 := 37) (pc' := 54) rfl (hb hby at_37) rfl ((if0 _ _).trans (teq (by decide)).1) (by decide) (by decide) (XS.iconst X32.here hx rfl (hb hby at_54) k)) ?_
          show own_Go p.tables e below RR (T32.setTop (mkF m 55 #[.val (.int p1), .val (.int p2), .val (.int (0 : Int32)), .val (.int (1 : Int32)), .val (.int (1 : Int32)), .unset, .unset, .unset] [(.int (3 : Int32))]))
          obtain ⟨T33, h33, k33, X33, e33, E33, A33, O33, st33⟩ := newR X32 hx hZ hown (hw _ (List.mem_of_getElem? (i := 4) rfl)) (hw _ (List.mem_of_getElem? (i := 5) rfl)) eq32 (g := (mkF m 55 #[.val (.int p1), .val (.int p2), .val (.int (0 : Int32)), .val (.int (1 : Int32)), .val (.int (1 : Int32)), .unset, .unset, .unset] [(.int (3 : Int32))])) rfl (hb hby at_55) rfl (by decide) (cap := 3) (by decide) (by decide) (by decide) (by decide)
          obtain ⟨b33, gb33⟩ : ∃ z, z = h0.size := ⟨_, rfl⟩
          rw [← gb33] at A33 st33
          have ge33 : n0 ≤ b33 := Nat.le_trans Z0 (Nat.le_of_eq gb33.symm)
          refine own_st st33 ?_
          have z34 : n0 ≤ h33.size := Nat.le_trans Z0 E33.1
          have V33 : Arv Z h33 b33 k33 (.object "com/example/powderhorn/powderhorn/rules/escarmouche/Initiative") (3 : Int32) [.null, .null, .null] .null := (Arv.new A33 (by decide)).pad (pad_rep [] .null 3)
          show own_Go p.tables e below RR (T33.setTop (mkF m 58 #[.val (.int p1), .val (.int p2), .val (.int (0 : Int32)), .val (.int (1 : Int32)), .val (.int (1 : Int32)), .unset, .unset, .unset] [(.ref b33)]))
          refine own_st (fun _ k => XS.dup X33.here hx rfl (hb hby at_58) rfl rfl (XS.iconst X33.here hx rfl (hb hby at_59) k)) ?_
          show own_Go p.tables e below RR (T33.setTop (mkF m 60 #[.val (.int p1), .val (.int p2), .val (.int (0 : Int32)), .val (.int (1 : Int32)), .val (.int (1 : Int32)), .unset, .unset, .unset] [(.int (0 : Int32)), (.ref b33), (.ref b33)]))
          have f35 := (S_KEEP.ext E33)
          obtain ⟨T36, X36, e36, st36⟩ := getS2 X33 hx hZ hown (host := "") (Or.inl (hw _ (List.mem_of_getElem? (i := 6) rfl))) Via.refl e33 f35 (g := (mkF m 60 #[.val (.int p1), .val (.int p2), .val (.int (0 : Int32)), .val (.int (1 : Int32)), .val (.int (1 : Int32)), .unset, .unset, .unset] [(.int (0 : Int32)), (.ref b33), (.ref b33)])) rfl (hb hby at_60)
          refine own_st st36 ?_
          show own_Go p.tables e below RR (T36.setTop (mkF m 63 #[.val (.int p1), .val (.int p2), .val (.int (0 : Int32)), .val (.int (1 : Int32)), .val (.int (1 : Int32)), .unset, .unset, .unset] [(.ref a_KEEP), (.int (0 : Int32)), (.ref b33), (.ref b33)]))
          obtain ⟨c37, A37, q37, s37, m37, H37, G37⟩ := id V33
          have f38 := (E_KEEP.ext E33)
          obtain ⟨T39, h39, X39, e39, W39, st39⟩ := stR X36 hx hZ e36 A37 (j := (0 : Int32)) (inb_of s37 ⟨by decide, by decide⟩) rfl (Sto.ofV A37 q37 O33 (Ins.self f38)) (g := (mkF m 63 #[.val (.int p1), .val (.int p2), .val (.int (0 : Int32)), .val (.int (1 : Int32)), .val (.int (1 : Int32)), .unset, .unset, .unset] [(.ref a_KEEP), (.int (0 : Int32)), (.ref b33), (.ref b33)])) rfl rfl (hb hby at_63)
          have V39 := Arv.set A37 q37 s37 m37 H37 G37 rfl W39 0 rfl (Nat.le_of_ble_eq_true rfl)
          have V39 : Arv Z h39 b33 k33 (.object "com/example/powderhorn/powderhorn/rules/escarmouche/Initiative") (3 : Int32) [(.ref a_KEEP), .null, .null] .null := V39
          have N39 := Fr.snoc X39 N32 ge33
          refine own_st st39 ?_
          have z40 : n0 ≤ h39.size := Nat.le_trans z34 (Keep.of_wr W39).1
          show own_Go p.tables e below RR (T39.setTop (mkF m 64 #[.val (.int p1), .val (.int p2), .val (.int (0 : Int32)), .val (.int (1 : Int32)), .val (.int (1 : Int32)), .unset, .unset, .unset] [(.ref b33)]))
          refine own_st (fun _ k => XS.dup X39.here hx rfl (hb hby at_64) rfl rfl (XS.iconst X39.here hx rfl (hb hby at_65) k)) ?_
          show own_Go p.tables e below RR (T39.setTop (mkF m 66 #[.val (.int p1), .val (.int p2), .val (.int (0 : Int32)), .val (.int (1 : Int32)), .val (.int (1 : Int32)), .unset, .unset, .unset] [(.int (1 : Int32)), (.ref b33), (.ref b33)]))
          have f41 := ((S_FIGURE_ENDS.ext E33).wr W39)
          obtain ⟨T42, X42, e42, st42⟩ := getS2 X39 hx hZ hown (host := "") (Or.inl (hw _ (List.mem_of_getElem? (i := 10) rfl))) Via.refl e39 f41 (g := (mkF m 66 #[.val (.int p1), .val (.int p2), .val (.int (0 : Int32)), .val (.int (1 : Int32)), .val (.int (1 : Int32)), .unset, .unset, .unset] [(.int (1 : Int32)), (.ref b33), (.ref b33)])) rfl (hb hby at_66)
          refine own_st st42 ?_
          show own_Go p.tables e below RR (T42.setTop (mkF m 69 #[.val (.int p1), .val (.int p2), .val (.int (0 : Int32)), .val (.int (1 : Int32)), .val (.int (1 : Int32)), .unset, .unset, .unset] [(.ref a_FIGURE_ENDS), (.int (1 : Int32)), (.ref b33), (.ref b33)]))
          obtain ⟨c43, A43, q43, s43, m43, H43, G43⟩ := id V39
          have f44 := ((E_FIGURE_ENDS.ext E33).wr W39)
          obtain ⟨T45, h45, X45, e45, W45, st45⟩ := stR X42 hx hZ e42 A43 (j := (1 : Int32)) (inb_of s43 ⟨by decide, by decide⟩) rfl (Sto.ofV A43 q43 O33 (Ins.self f44)) (g := (mkF m 69 #[.val (.int p1), .val (.int p2), .val (.int (0 : Int32)), .val (.int (1 : Int32)), .val (.int (1 : Int32)), .unset, .unset, .unset] [(.ref a_FIGURE_ENDS), (.int (1 : Int32)), (.ref b33), (.ref b33)])) rfl rfl (hb hby at_69)
          have V45 := Arv.set A43 q43 s43 m43 H43 G43 rfl W45 1 rfl (Nat.le_of_ble_eq_true rfl)
          have V45 : Arv Z h45 b33 k33 (.object "com/example/powderhorn/powderhorn/rules/escarmouche/Initiative") (3 : Int32) [(.ref a_KEEP), (.ref a_FIGURE_ENDS), .null] .null := V45
          have N45 := Fr.snoc X45 N39 ge33
          refine own_st st45 ?_
          have z46 : n0 ≤ h45.size := Nat.le_trans z40 (Keep.of_wr W45).1
          show own_Go p.tables e below RR (T45.setTop (mkF m 70 #[.val (.int p1), .val (.int p2), .val (.int (0 : Int32)), .val (.int (1 : Int32)), .val (.int (1 : Int32)), .unset, .unset, .unset] [(.ref b33)]))
          refine own_st (fun _ k => XS.dup X45.here hx rfl (hb hby at_70) rfl rfl (XS.iconst X45.here hx rfl (hb hby at_71) k)) ?_
          show own_Go p.tables e below RR (T45.setTop (mkF m 72 #[.val (.int p1), .val (.int p2), .val (.int (0 : Int32)), .val (.int (1 : Int32)), .val (.int (1 : Int32)), .unset, .unset, .unset] [(.int (2 : Int32)), (.ref b33), (.ref b33)]))
          have f47 := (((S_SIDE_ENDS.ext E33).wr W39).wr W45)
          obtain ⟨T48, X48, e48, st48⟩ := getS2 X45 hx hZ hown (host := "") (Or.inl (hw _ (List.mem_of_getElem? (i := 12) rfl))) Via.refl e45 f47 (g := (mkF m 72 #[.val (.int p1), .val (.int p2), .val (.int (0 : Int32)), .val (.int (1 : Int32)), .val (.int (1 : Int32)), .unset, .unset, .unset] [(.int (2 : Int32)), (.ref b33), (.ref b33)])) rfl (hb hby at_72)
          refine own_st st48 ?_
          show own_Go p.tables e below RR (T48.setTop (mkF m 75 #[.val (.int p1), .val (.int p2), .val (.int (0 : Int32)), .val (.int (1 : Int32)), .val (.int (1 : Int32)), .unset, .unset, .unset] [(.ref a_SIDE_ENDS), (.int (2 : Int32)), (.ref b33), (.ref b33)]))
          obtain ⟨c49, A49, q49, s49, m49, H49, G49⟩ := id V45
          have f50 := (((E_SIDE_ENDS.ext E33).wr W39).wr W45)
          obtain ⟨T51, h51, X51, e51, W51, st51⟩ := stR X48 hx hZ e48 A49 (j := (2 : Int32)) (inb_of s49 ⟨by decide, by decide⟩) rfl (Sto.ofV A49 q49 O33 (Ins.self f50)) (g := (mkF m 75 #[.val (.int p1), .val (.int p2), .val (.int (0 : Int32)), .val (.int (1 : Int32)), .val (.int (1 : Int32)), .unset, .unset, .unset] [(.ref a_SIDE_ENDS), (.int (2 : Int32)), (.ref b33), (.ref b33)])) rfl rfl (hb hby at_75)
          have V51 := Arv.set A49 q49 s49 m49 H49 G49 rfl W51 2 rfl (Nat.le_of_ble_eq_true rfl)
          have V51 : Arv Z h51 b33 k33 (.object "com/example/powderhorn/powderhorn/rules/escarmouche/Initiative") (3 : Int32) [(.ref a_KEEP), (.ref a_FIGURE_ENDS), (.ref a_SIDE_ENDS)] .null := V51
          have N51 := Fr.snoc X51 N45 ge33
          refine own_st st51 ?_
          have z52 : n0 ≤ h51.size := Nat.le_trans z46 (Keep.of_wr W51).1
          show own_Go p.tables e below RR (T51.setTop (mkF m 76 #[.val (.int p1), .val (.int p2), .val (.int (0 : Int32)), .val (.int (1 : Int32)), .val (.int (1 : Int32)), .unset, .unset, .unset] [(.ref b33)]))
          refine own_st (fun _ k => XS.astore X51.here hx rfl (hb hby at_76) rfl rfl (l' := #[.val (.int p1), .val (.int p2), .val (.int (0 : Int32)), .val (.int (1 : Int32)), .val (.int (1 : Int32)), .val (.ref b33), .unset, .unset]) rfl (XS.aload X51.here hx rfl (hb hby at_78) rfl rfl (XS.iload X51.here hx rfl (hb hby at_80) rfl k))) ?_
          show own_Go p.tables e below RR (T51.setTop (mkF m 82 #[.val (.int p1), .val (.int p2), .val (.int (0 : Int32)), .val (.int (1 : Int32)), .val (.int (1 : Int32)), .val (.ref b33), .unset, .unset] [(.int (1 : Int32)), (.ref b33)]))
          obtain ⟨c53, A53, q53, s53, m53, H53, G53⟩ := id V51
          have b53 := inb_of (j := (1 : Int32)) s53 ⟨by decide, by decide⟩
          refine own_st (fun _ k => X51.aaload hx (j := (1 : Int32)) (v := (.ref a_FIGURE_ENDS)) (by rw [e51]; exact A53.1) (State.isArrayOf_alike hZ.alike A53.2.1) rfl A53.2.2 b53 (Has.at H53 b53 rfl) (g := (mkF m 82 #[.val (.int p1), .val (.int p2), .val (.int (0 : Int32)), .val (.int (1 : Int32)), .val (.int (1 : Int32)), .val (.ref b33), .unset, .unset] [(.int (1 : Int32)), (.ref b33)])) rfl rfl (hb hby at_82) _ (XS.astore X51.here hx rfl (hb hby at_83) rfl rfl (l' := #[.val (.int p1), .val (.int p2), .val (.int (0 : Int32)), .val (.int (1 : Int32)), .val (.int (1 : Int32)), .val (.ref b33), .val (.ref a_FIGURE_ENDS), .unset]) rfl (XS.iloadN X51.here hx rfl (hb hby at_85) rfl (XS.iloadN X51.here hx rfl (hb hby at_86) rfl k)))) ?_
          show own_Go p.tables e below RR (T51.setTop (mkF m 87 #[.val (.int p1), .val (.int p2), .val (.int (0 : Int32)), .val (.int (1 : Int32)), .val (.int (1 : Int32)), .val (.ref b33), .val (.ref a_FIGURE_ENDS), .unset] [(.int (0 : Int32)), (.int (1 : Int32))]))
          have f54 := (((f35.wr W39).wr W45).wr W51)
          have f55 := ((f41.wr W45).wr W51)
          have f56 := (f47.wr W51)
          obtain ⟨_, _, ⟨T57, L57, k57, n57⟩, -, X57, ⟨Lc57, hQ57, l57, y57, z57⟩, st57⟩ := Jvm.LawKit.callS X51 hx (y := (⟨"com/example/powderhorn/powderhorn/rules/escarmouche/Initiative", "after", "(IZ)Lcom/example/powderhorn/powderhorn/rules/escarmouche/Initiative;"⟩ : MethodName)) hown (mvT hZ (hw _ (List.mem_of_getElem? (i := 14) rfl))) (mvT hZ (hw _ (List.mem_of_getElem? (i := 15) rfl))) (mvT hZ (hw _ (List.mem_of_getElem? (i := 7) rfl))) (mvT hZ (hw _ (List.mem_of_getElem? (i := 16) rfl))) (by decide) (backOf (W := 0) (own_rmA l Z a0 hw [] (1 : Int32) (0 : Int32) a_KEEP a_FIGURE_ENDS a_SIDE_ENDS a_FIGURE_ENDS h51 n0 z52 f54 f55 f56 (by simp)) hZ (hw _ (List.mem_of_getElem? (i := 16) rfl)) (hw _ (List.mem_of_getElem? (i := 7) rfl)) (by decide) (by decide)) (g := (mkF m 87 #[.val (.int p1), .val (.int p2), .val (.int (0 : Int32)), .val (.int (1 : Int32)), .val (.int (1 : Int32)), .val (.ref b33), .val (.ref a_FIGURE_ENDS), .unset] [(.int (0 : Int32)), (.int (1 : Int32))])) rfl (by rw [hml]; rfl) (argsL := [(.int (1 : Int32)), (.int (0 : Int32))]) (rest := []) (lenOf own_pd__IZ_Lcom_example_powderhorn_powderhorn_rules_escarmouche_Initiative_ rfl) rfl (by show 2 * 0 + _ ≤ _; exact Nat.le_of_eq rfl) (hb hby at_87) (fun _ _ => ⟨rfl, e51, (by decide : 1 + 0 ≤ _), (by decide : 3 + 0 ≤ _)⟩)
          dsimp only [Pt.U, Pt.locs, Pt.cells, Pt.slots] at X57 l57 y57 z57 st57 hQ57
          subst l57 y57 z57
          obtain ⟨rfl, Nq57, eq57⟩ := hQ57
          have N57 := Fr.app N51 Nq57
          refine own_st st57 ?_
          show own_Go p.tables e below RR (T57.setTop (mkF m 90 #[.val (.int p1), .val (.int p2), .val (.int (0 : Int32)), .val (.int (1 : Int32)), .val (.int (1 : Int32)), .val (.ref b33), .val (.ref a_FIGURE_ENDS), .unset] [(.ref a_FIGURE_ENDS)]))
          refine own_st (fun _ k => XS.astore X57.here hx rfl (hb hby at_90) rfl rfl (l' := #[.val (.int p1), .val (.int p2), .val (.int (0 : Int32)), .val (.int (1 : Int32)), .val (.int (1 : Int32)), .val (.ref b33), .val (.ref a_FIGURE_ENDS), .val (.ref a_FIGURE_ENDS)]) rfl (XS.aload X57.here hx rfl (hb hby at_92) rfl rfl (XS.aload X57.here hx rfl (hb hby at_94) rfl rfl k))) ?_
          show own_Go p.tables e below RR (T57.setTop (mkF m 96 #[.val (.int p1), .val (.int p2), .val (.int (0 : Int32)), .val (.int (1 : Int32)), .val (.int (1 : Int32)), .val (.ref b33), .val (.ref a_FIGURE_ENDS), .val (.ref a_FIGURE_ENDS)] [(.ref a_FIGURE_ENDS), (.ref a_FIGURE_ENDS)]))
          refine own_st (fun _ k => Jvm.RoadKit.acmp (g := (mkF m 96 #[.val (.int p1), .val (.int p2), .val (.int (0 : Int32)), .val (.int (1 : Int32)), .val (.int (1 : Int32)), .val (.ref b33), .val (.ref a_FIGURE_ENDS), .val (.ref a_FIGURE_ENDS)] [(.ref a_FIGURE_ENDS), (.ref a_FIGURE_ENDS)])) X57 hx rfl rfl rfl (pc0 := 96) (pc' := 99) (same := true) rfl (hb hby at_96) rfl (decide_eq_true rfl) (by decide) (by decide) (XS.iconst X57.here hx rfl (hb hby at_99) (XS.goto X57.here hx rfl (pc0 := 100) (pc' := 104) rfl (hb hby at_100) (by decide) (by decide) k))) ?_
          show own_Go p.tables e below RR (T57.setTop (mkF m 104 #[.val (.int p1), .val (.int p2), .val (.int (0 : Int32)), .val (.int (1 : Int32)), .val (.int (1 : Int32)), .val (.ref b33), .val (.ref a_FIGURE_ENDS), .val (.ref a_FIGURE_ENDS)] [(.int (1 : Int32))]))
          obtain ⟨fs, hrt_, hrun, hended, hW, hsame⟩ := X57.leave (v := some (.int (1 : Int32))) (fun h => by rw [Bd.returns] at h; cases h)
          refine own_fin (retN X57 hx (t := .boolean) Bd.returns (by simp) (hb hby at_104) hrt_) (hRR _ ⟨_, hrun, hended, _, _, rfl, ?_, ⟨_, rfl⟩, hW, hsame.mono (by decide) (by decide)⟩)
          show own_Q0 Z p1 p2 a_KEEP a_FIGURE_ENDS a_SIDE_ENDS h0 n0 _ T57.heap _
          rw [eq57]
          exact ⟨rfl, N57⟩
        · show own_Go p.tables e below RR (s₁.setTop (mkF m 29 #[.val (.int p1), .val (.int p2), .val (.int (0 : Int32)), .val (.int v3), .unset, .unset, .unset, .unset] []))
          show own_Go p.tables e below RR (s₁.setTop (mkF m 29 #[.val (.int p1), .val (.int p2), .val (.int (0 : Int32)), .val (.int v3), .unset, .unset, .unset, .unset] []))
          refine own_st (fun _ k => XS.iconst X0.here hx rfl (hb hby at_29) (XS.iloadN X0.here hx rfl (hb hby at_30) rfl k)) ?_
          show own_Go p.tables e below RR (s₁.setTop (mkF m 31 #[.val (.int p1), .val (.int p2), .val (.int (0 : Int32)), .val (.int v3), .unset, .unset, .unset, .unset] [(.int v3), (.int (2 : Int32))]))
          obtain ⟨_, _, ⟨T58, L58, k58, n58⟩, -, X58, ⟨Lc58, hQ58, l58, y58, z58⟩, st58⟩ := Jvm.LawKit.callS X0 hx (y := (⟨"java/lang/Math", "min", "(II)I"⟩ : MethodName)) hown (mvT hZ (hw _ (List.mem_of_getElem? (i := 0) rfl))) (mvT hZ (hw _ (List.mem_of_getElem? (i := 1) rfl))) (mvT hZ (hw _ (List.mem_of_getElem? (i := 2) rfl))) (mvT hZ (hw _ (List.mem_of_getElem? (i := 3) rfl))) (by decide) (backOf (W := 0) (own_rmM l Z a0 hw [] (2 : Int32) v3 (2 : Int32) h0 n0 Z0 (if_neg (own_big (own_nn gv3) ho4 ho5))) hZ (hw _ (List.mem_of_getElem? (i := 3) rfl)) (hw _ (List.mem_of_getElem? (i := 2) rfl)) (by decide) (by decide)) (g := (mkF m 31 #[.val (.int p1), .val (.int p2), .val (.int (0 : Int32)), .val (.int v3), .unset, .unset, .unset, .unset] [(.int v3), (.int (2 : Int32))])) rfl (by rw [hml]; rfl) (argsL := [(.int (2 : Int32)), (.int v3)]) (rest := []) (lenOf own_pd__II_I rfl) rfl (by show 2 * 0 + _ ≤ _; exact Nat.le_of_eq rfl) (hb hby at_31) (fun _ _ => ⟨rfl, e0, (by decide : 0 + 0 ≤ _), (by decide : 0 + 0 ≤ _)⟩)
          dsimp only [Pt.U, Pt.locs, Pt.cells, Pt.slots] at X58 l58 y58 z58 st58 hQ58
          subst l58 y58 z58
          obtain ⟨rfl, Nq58, eq58⟩ := hQ58
          have N58 := Fr.app N0 Nq58
          refine own_st st58 ?_
          show own_Go p.tables e below RR (T58.setTop (mkF m 34 #[.val (.int p1), .val (.int p2), .val (.int (0 : Int32)), .val (.int v3), .unset, .unset, .unset, .unset] [(.int (2 : Int32))]))
          refine own_st (fun _ k => XS.istore X58.here hx rfl (hb hby at_34) rfl (l' := #[.val (.int p1), .val (.int p2), .val (.int (0 : Int32)), .val (.int v3), .val (.int (2 : Int32)), .unset, .unset, .unset]) rfl (XS.iloadN X58.here hx rfl (hb hby at_36) rfl k)) ?_
          show own_Go p.tables e below RR (T58.setTop (mkF m 37 #[.val (.int p1), .val (.int p2), .val (.int (0 : Int32)), .val (.int v3), .val (.int (2 : Int32)), .unset, .unset, .unset] [(.int (0 : Int32))]))
          refine own_st (fun _ k => XS.ifYes X58.here hx rfl (pc0 := 37) (pc' := 54) rfl (hb hby at_37) rfl ((if0 _ _).trans (teq (by decide)).1) (by decide) (by decide) (XS.iconst X58.here hx rfl (hb hby at_54) k)) ?_
          show own_Go p.tables e below RR (T58.setTop (mkF m 55 #[.val (.int p1), .val (.int p2), .val (.int (0 : Int32)), .val (.int v3), .val (.int (2 : Int32)), .unset, .unset, .unset] [(.int (3 : Int32))]))
          obtain ⟨T59, h59, k59, X59, e59, E59, A59, O59, st59⟩ := newR X58 hx hZ hown (hw _ (List.mem_of_getElem? (i := 4) rfl)) (hw _ (List.mem_of_getElem? (i := 5) rfl)) eq58 (g := (mkF m 55 #[.val (.int p1), .val (.int p2), .val (.int (0 : Int32)), .val (.int v3), .val (.int (2 : Int32)), .unset, .unset, .unset] [(.int (3 : Int32))])) rfl (hb hby at_55) rfl (by decide) (cap := 3) (by decide) (by decide) (by decide) (by decide)
          obtain ⟨b59, gb59⟩ : ∃ z, z = h0.size := ⟨_, rfl⟩
          rw [← gb59] at A59 st59
          have ge59 : n0 ≤ b59 := Nat.le_trans Z0 (Nat.le_of_eq gb59.symm)
          refine own_st st59 ?_
          have z60 : n0 ≤ h59.size := Nat.le_trans Z0 E59.1
          have V59 : Arv Z h59 b59 k59 (.object "com/example/powderhorn/powderhorn/rules/escarmouche/Initiative") (3 : Int32) [.null, .null, .null] .null := (Arv.new A59 (by decide)).pad (pad_rep [] .null 3)
          show own_Go p.tables e below RR (T59.setTop (mkF m 58 #[.val (.int p1), .val (.int p2), .val (.int (0 : Int32)), .val (.int v3), .val (.int (2 : Int32)), .unset, .unset, .unset] [(.ref b59)]))
          refine own_st (fun _ k => XS.dup X59.here hx rfl (hb hby at_58) rfl rfl (XS.iconst X59.here hx rfl (hb hby at_59) k)) ?_
          show own_Go p.tables e below RR (T59.setTop (mkF m 60 #[.val (.int p1), .val (.int p2), .val (.int (0 : Int32)), .val (.int v3), .val (.int (2 : Int32)), .unset, .unset, .unset] [(.int (0 : Int32)), (.ref b59), (.ref b59)]))
          have f61 := (S_KEEP.ext E59)
          obtain ⟨T62, X62, e62, st62⟩ := getS2 X59 hx hZ hown (host := "") (Or.inl (hw _ (List.mem_of_getElem? (i := 6) rfl))) Via.refl e59 f61 (g := (mkF m 60 #[.val (.int p1), .val (.int p2), .val (.int (0 : Int32)), .val (.int v3), .val (.int (2 : Int32)), .unset, .unset, .unset] [(.int (0 : Int32)), (.ref b59), (.ref b59)])) rfl (hb hby at_60)
          refine own_st st62 ?_
          show own_Go p.tables e below RR (T62.setTop (mkF m 63 #[.val (.int p1), .val (.int p2), .val (.int (0 : Int32)), .val (.int v3), .val (.int (2 : Int32)), .unset, .unset, .unset] [(.ref a_KEEP), (.int (0 : Int32)), (.ref b59), (.ref b59)]))
          obtain ⟨c63, A63, q63, s63, m63, H63, G63⟩ := id V59
          have f64 := (E_KEEP.ext E59)
          obtain ⟨T65, h65, X65, e65, W65, st65⟩ := stR X62 hx hZ e62 A63 (j := (0 : Int32)) (inb_of s63 ⟨by decide, by decide⟩) rfl (Sto.ofV A63 q63 O59 (Ins.self f64)) (g := (mkF m 63 #[.val (.int p1), .val (.int p2), .val (.int (0 : Int32)), .val (.int v3), .val (.int (2 : Int32)), .unset, .unset, .unset] [(.ref a_KEEP), (.int (0 : Int32)), (.ref b59), (.ref b59)])) rfl rfl (hb hby at_63)
          have V65 := Arv.set A63 q63 s63 m63 H63 G63 rfl W65 0 rfl (Nat.le_of_ble_eq_true rfl)
          have V65 : Arv Z h65 b59 k59 (.object "com/example/powderhorn/powderhorn/rules/escarmouche/Initiative") (3 : Int32) [(.ref a_KEEP), .null, .null] .null := V65
          have N65 := Fr.snoc X65 N58 ge59
          refine own_st st65 ?_
          have z66 : n0 ≤ h65.size := Nat.le_trans z60 (Keep.of_wr W65).1
          show own_Go p.tables e below RR (T65.setTop (mkF m 64 #[.val (.int p1), .val (.int p2), .val (.int (0 : Int32)), .val (.int v3), .val (.int (2 : Int32)), .unset, .unset, .unset] [(.ref b59)]))
          refine own_st (fun _ k => XS.dup X65.here hx rfl (hb hby at_64) rfl rfl (XS.iconst X65.here hx rfl (hb hby at_65) k)) ?_
          show own_Go p.tables e below RR (T65.setTop (mkF m 66 #[.val (.int p1), .val (.int p2), .val (.int (0 : Int32)), .val (.int v3), .val (.int (2 : Int32)), .unset, .unset, .unset] [(.int (1 : Int32)), (.ref b59), (.ref b59)]))
          have f67 := ((S_FIGURE_ENDS.ext E59).wr W65)
          obtain ⟨T68, X68, e68, st68⟩ := getS2 X65 hx hZ hown (host := "") (Or.inl (hw _ (List.mem_of_getElem? (i := 10) rfl))) Via.refl e65 f67 (g := (mkF m 66 #[.val (.int p1), .val (.int p2), .val (.int (0 : Int32)), .val (.int v3), .val (.int (2 : Int32)), .unset, .unset, .unset] [(.int (1 : Int32)), (.ref b59), (.ref b59)])) rfl (hb hby at_66)
          refine own_st st68 ?_
          show own_Go p.tables e below RR (T68.setTop (mkF m 69 #[.val (.int p1), .val (.int p2), .val (.int (0 : Int32)), .val (.int v3), .val (.int (2 : Int32)), .unset, .unset, .unset] [(.ref a_FIGURE_ENDS), (.int (1 : Int32)), (.ref b59), (.ref b59)]))
          obtain ⟨c69, A69, q69, s69, m69, H69, G69⟩ := id V65
          have f70 := ((E_FIGURE_ENDS.ext E59).wr W65)
          obtain ⟨T71, h71, X71, e71, W71, st71⟩ := stR X68 hx hZ e68 A69 (j := (1 : Int32)) (inb_of s69 ⟨by decide, by decide⟩) rfl (Sto.ofV A69 q69 O59 (Ins.self f70)) (g := (mkF m 69 #[.val (.int p1), .val (.int p2), .val (.int (0 : Int32)), .val (.int v3), .val (.int (2 : Int32)), .unset, .unset, .unset] [(.ref a_FIGURE_ENDS), (.int (1 : Int32)), (.ref b59), (.ref b59)])) rfl rfl (hb hby at_69)
          have V71 := Arv.set A69 q69 s69 m69 H69 G69 rfl W71 1 rfl (Nat.le_of_ble_eq_true rfl)
          have V71 : Arv Z h71 b59 k59 (.object "com/example/powderhorn/powderhorn/rules/escarmouche/Initiative") (3 : Int32) [(.ref a_KEEP), (.ref a_FIGURE_ENDS), .null] .null := V71
          have N71 := Fr.snoc X71 N65 ge59
          refine own_st st71 ?_
          have z72 : n0 ≤ h71.size := Nat.le_trans z66 (Keep.of_wr W71).1
          show own_Go p.tables e below RR (T71.setTop (mkF m 70 #[.val (.int p1), .val (.int p2), .val (.int (0 : Int32)), .val (.int v3), .val (.int (2 : Int32)), .unset, .unset, .unset] [(.ref b59)]))
          refine own_st (fun _ k => XS.dup X71.here hx rfl (hb hby at_70) rfl rfl (XS.iconst X71.here hx rfl (hb hby at_71) k)) ?_
          show own_Go p.tables e below RR (T71.setTop (mkF m 72 #[.val (.int p1), .val (.int p2), .val (.int (0 : Int32)), .val (.int v3), .val (.int (2 : Int32)), .unset, .unset, .unset] [(.int (2 : Int32)), (.ref b59), (.ref b59)]))
          have f73 := (((S_SIDE_ENDS.ext E59).wr W65).wr W71)
          obtain ⟨T74, X74, e74, st74⟩ := getS2 X71 hx hZ hown (host := "") (Or.inl (hw _ (List.mem_of_getElem? (i := 12) rfl))) Via.refl e71 f73 (g := (mkF m 72 #[.val (.int p1), .val (.int p2), .val (.int (0 : Int32)), .val (.int v3), .val (.int (2 : Int32)), .unset, .unset, .unset] [(.int (2 : Int32)), (.ref b59), (.ref b59)])) rfl (hb hby at_72)
          refine own_st st74 ?_
          show own_Go p.tables e below RR (T74.setTop (mkF m 75 #[.val (.int p1), .val (.int p2), .val (.int (0 : Int32)), .val (.int v3), .val (.int (2 : Int32)), .unset, .unset, .unset] [(.ref a_SIDE_ENDS), (.int (2 : Int32)), (.ref b59), (.ref b59)]))
          obtain ⟨c75, A75, q75, s75, m75, H75, G75⟩ := id V71
          have f76 := (((E_SIDE_ENDS.ext E59).wr W65).wr W71)
          obtain ⟨T77, h77, X77, e77, W77, st77⟩ := stR X74 hx hZ e74 A75 (j := (2 : Int32)) (inb_of s75 ⟨by decide, by decide⟩) rfl (Sto.ofV A75 q75 O59 (Ins.self f76)) (g := (mkF m 75 #[.val (.int p1), .val (.int p2), .val (.int (0 : Int32)), .val (.int v3), .val (.int (2 : Int32)), .unset, .unset, .unset] [(.ref a_SIDE_ENDS), (.int (2 : Int32)), (.ref b59), (.ref b59)])) rfl rfl (hb hby at_75)
          have V77 := Arv.set A75 q75 s75 m75 H75 G75 rfl W77 2 rfl (Nat.le_of_ble_eq_true rfl)
          have V77 : Arv Z h77 b59 k59 (.object "com/example/powderhorn/powderhorn/rules/escarmouche/Initiative") (3 : Int32) [(.ref a_KEEP), (.ref a_FIGURE_ENDS), (.ref a_SIDE_ENDS)] .null := V77
          have N77 := Fr.snoc X77 N71 ge59
          refine own_st st77 ?_
          have z78 : n0 ≤ h77.size := Nat.le_trans z72 (Keep.of_wr W77).1
          show own_Go p.tables e below RR (T77.setTop (mkF m 76 #[.val (.int p1), .val (.int p2), .val (.int (0 : Int32)), .val (.int v3), .val (.int (2 : Int32)), .unset, .unset, .unset] [(.ref b59)]))
          refine own_st (fun _ k => XS.astore X77.here hx rfl (hb hby at_76) rfl rfl (l' := #[.val (.int p1), .val (.int p2), .val (.int (0 : Int32)), .val (.int v3), .val (.int (2 : Int32)), .val (.ref b59), .unset, .unset]) rfl (XS.aload X77.here hx rfl (hb hby at_78) rfl rfl (XS.iload X77.here hx rfl (hb hby at_80) rfl k))) ?_
          show own_Go p.tables e below RR (T77.setTop (mkF m 82 #[.val (.int p1), .val (.int p2), .val (.int (0 : Int32)), .val (.int v3), .val (.int (2 : Int32)), .val (.ref b59), .unset, .unset] [(.int (2 : Int32)), (.ref b59)]))
          obtain ⟨c79, A79, q79, s79, m79, H79, G79⟩ := id V77
          have b79 := inb_of (j := (2 : Int32)) s79 ⟨by decide, by decide⟩
          refine own_st (fun _ k => X77.aaload hx (j := (2 : Int32)) (v := (.ref a_SIDE_ENDS)) (by rw [e77]; exact A79.1) (State.isArrayOf_alike hZ.alike A79.2.1) rfl A79.2.2 b79 (Has.at H79 b79 rfl) (g := (mkF m 82 #[.val (.int p1), .val (.int p2), .val (.int (0 : Int32)), .val (.int v3), .val (.int (2 : Int32)), .val (.ref b59), .unset, .unset] [(.int (2 : Int32)), (.ref b59)])) rfl rfl (hb hby at_82) _ (XS.astore X77.here hx rfl (hb hby at_83) rfl rfl (l' := #[.val (.int p1), .val (.int p2), .val (.int (0 : Int32)), .val (.int v3), .val (.int (2 : Int32)), .val (.ref b59), .val (.ref a_SIDE_ENDS), .unset]) rfl (XS.iloadN X77.here hx rfl (hb hby at_85) rfl (XS.iloadN X77.here hx rfl (hb hby at_86) rfl k)))) ?_
          show own_Go p.tables e below RR (T77.setTop (mkF m 87 #[.val (.int p1), .val (.int p2), .val (.int (0 : Int32)), .val (.int v3), .val (.int (2 : Int32)), .val (.ref b59), .val (.ref a_SIDE_ENDS), .unset] [(.int (0 : Int32)), (.int v3)]))
          have f80 := (((f61.wr W65).wr W71).wr W77)
          have f81 := ((f67.wr W71).wr W77)
          have f82 := (f73.wr W77)
          obtain ⟨_, _, ⟨T83, L83, k83, n83⟩, -, X83, ⟨Lc83, hQ83, l83, y83, z83⟩, st83⟩ := Jvm.LawKit.callS X77 hx (y := (⟨"com/example/powderhorn/powderhorn/rules/escarmouche/Initiative", "after", "(IZ)Lcom/example/powderhorn/powderhorn/rules/escarmouche/Initiative;"⟩ : MethodName)) hown (mvT hZ (hw _ (List.mem_of_getElem? (i := 14) rfl))) (mvT hZ (hw _ (List.mem_of_getElem? (i := 15) rfl))) (mvT hZ (hw _ (List.mem_of_getElem? (i := 7) rfl))) (mvT hZ (hw _ (List.mem_of_getElem? (i := 16) rfl))) (by decide) (backOf (W := 0) (own_rmA l Z a0 hw [] v3 (0 : Int32) a_KEEP a_FIGURE_ENDS a_SIDE_ENDS a_SIDE_ENDS h77 n0 z78 f80 f81 f82 (by simp [ho4, ho5])) hZ (hw _ (List.mem_of_getElem? (i := 16) rfl)) (hw _ (List.mem_of_getElem? (i := 7) rfl)) (by decide) (by decide)) (g := (mkF m 87 #[.val (.int p1), .val (.int p2), .val (.int (0 : Int32)), .val (.int v3), .val (.int (2 : Int32)), .val (.ref b59), .val (.ref a_SIDE_ENDS), .unset] [(.int (0 : Int32)), (.int v3)])) rfl (by rw [hml]; rfl) (argsL := [(.int v3), (.int (0 : Int32))]) (rest := []) (lenOf own_pd__IZ_Lcom_example_powderhorn_powderhorn_rules_escarmouche_Initiative_ rfl) rfl (by show 2 * 0 + _ ≤ _; exact Nat.le_of_eq rfl) (hb hby at_87) (fun _ _ => ⟨rfl, e77, (by decide : 1 + 0 ≤ _), (by decide : 3 + 0 ≤ _)⟩)
          dsimp only [Pt.U, Pt.locs, Pt.cells, Pt.slots] at X83 l83 y83 z83 st83 hQ83
          subst l83 y83 z83
          obtain ⟨rfl, Nq83, eq83⟩ := hQ83
          have N83 := Fr.app N77 Nq83
          refine own_st st83 ?_
          show own_Go p.tables e below RR (T83.setTop (mkF m 90 #[.val (.int p1), .val (.int p2), .val (.int (0 : Int32)), .val (.int v3), .val (.int (2 : Int32)), .val (.ref b59), .val (.ref a_SIDE_ENDS), .unset] [(.ref a_SIDE_ENDS)]))
          refine own_st (fun _ k => XS.astore X83.here hx rfl (hb hby at_90) rfl rfl (l' := #[.val (.int p1), .val (.int p2), .val (.int (0 : Int32)), .val (.int v3), .val (.int (2 : Int32)), .val (.ref b59), .val (.ref a_SIDE_ENDS), .val (.ref a_SIDE_ENDS)]) rfl (XS.aload X83.here hx rfl (hb hby at_92) rfl rfl (XS.aload X83.here hx rfl (hb hby at_94) rfl rfl k))) ?_
          show own_Go p.tables e below RR (T83.setTop (mkF m 96 #[.val (.int p1), .val (.int p2), .val (.int (0 : Int32)), .val (.int v3), .val (.int (2 : Int32)), .val (.ref b59), .val (.ref a_SIDE_ENDS), .val (.ref a_SIDE_ENDS)] [(.ref a_SIDE_ENDS), (.ref a_SIDE_ENDS)]))
          refine own_st (fun _ k => Jvm.RoadKit.acmp (g := (mkF m 96 #[.val (.int p1), .val (.int p2), .val (.int (0 : Int32)), .val (.int v3), .val (.int (2 : Int32)), .val (.ref b59), .val (.ref a_SIDE_ENDS), .val (.ref a_SIDE_ENDS)] [(.ref a_SIDE_ENDS), (.ref a_SIDE_ENDS)])) X83 hx rfl rfl rfl (pc0 := 96) (pc' := 99) (same := true) rfl (hb hby at_96) rfl (decide_eq_true rfl) (by decide) (by decide) (XS.iconst X83.here hx rfl (hb hby at_99) (XS.goto X83.here hx rfl (pc0 := 100) (pc' := 104) rfl (hb hby at_100) (by decide) (by decide) k))) ?_
          show own_Go p.tables e below RR (T83.setTop (mkF m 104 #[.val (.int p1), .val (.int p2), .val (.int (0 : Int32)), .val (.int v3), .val (.int (2 : Int32)), .val (.ref b59), .val (.ref a_SIDE_ENDS), .val (.ref a_SIDE_ENDS)] [(.int (1 : Int32))]))
          obtain ⟨fs, hrt_, hrun, hended, hW, hsame⟩ := X83.leave (v := some (.int (1 : Int32))) (fun h => by rw [Bd.returns] at h; cases h)
          refine own_fin (retN X83 hx (t := .boolean) Bd.returns (by simp) (hb hby at_104) hrt_) (hRR _ ⟨_, hrun, hended, _, _, rfl, ?_, ⟨_, rfl⟩, hW, hsame.mono (by decide) (by decide)⟩)
          show own_Q0 Z p1 p2 a_KEEP a_FIGURE_ENDS a_SIDE_ENDS h0 n0 _ T83.heap _
          rw [eq83]
          exact ⟨rfl, N83⟩
    · refine own_st (fun _ k => XS.ifNo X0.here hx rfl (hb hby at_15) rfl ((if0 _ _).trans (feq hc15_2).1) (XS.iloadN X0.here hx rfl (hb hby at_18) rfl (XS.iconst X0.here hx rfl (hb hby at_19) (XS.iand X0.here hx rfl (hb hby at_20) rfl k)))) ?_
      show own_Go p.tables e below RR (s₁.setTop (mkF m 21 #[.val (.int p1), .val (.int p2), .val (.int (0 : Int32)), .unset, .unset, .unset, .unset, .unset] [(.int (p1 &&& (3 : Int32)))]))
      generalize gv84 : (p1 &&& (3 : Int32)) = v84
      show own_Go p.tables e below RR (s₁.setTop (mkF m 21 #[.val (.int p1), .val (.int p2), .val (.int (0 : Int32)), .unset, .unset, .unset, .unset, .unset] [(.int v84)]))
      refine own_st (fun _ k => XS.goto X0.here hx rfl (pc0 := 21) (pc' := 28) rfl (hb hby at_21) (by decide) (by decide) (XS.istoreN X0.here hx rfl (hb hby at_28) rfl (l' := #[.val (.int p1), .val (.int p2), .val (.int (0 : Int32)), .val (.int v84), .unset, .unset, .unset, .unset]) rfl k)) ?_
      show own_Go p.tables e below RR (s₁.setTop (mkF m 29 #[.val (.int p1), .val (.int p2), .val (.int (0 : Int32)), .val (.int v84), .unset, .unset, .unset, .unset] []))
      show own_Go p.tables e below RR (s₁.setTop (mkF m 29 #[.val (.int p1), .val (.int p2), .val (.int (0 : Int32)), .val (.int v84), .unset, .unset, .unset, .unset] []))
      by_cases ho85 : v84 = (0 : Int32)
      · subst ho85
        show own_Go p.tables e below RR (s₁.setTop (mkF m 29 #[.val (.int p1), .val (.int p2), .val (.int (0 : Int32)), .val (.int (0 : Int32)), .unset, .unset, .unset, .unset] []))
        show own_Go p.tables e below RR (s₁.setTop (mkF m 29 #[.val (.int p1), .val (.int p2), .val (.int (0 : Int32)), .val (.int (0 : Int32)), .unset, .unset, .unset, .unset] []))
        refine own_st (fun _ k => XS.iconst X0.here hx rfl (hb hby at_29) (XS.iloadN X0.here hx rfl (hb hby at_30) rfl k)) ?_
        show own_Go p.tables e below RR (s₁.setTop (mkF m 31 #[.val (.int p1), .val (.int p2), .val (.int (0 : Int32)), .val (.int (0 : Int32)), .unset, .unset, .unset, .unset] [(.int (0 : Int32)), (.int (2 : Int32))]))
        obtain ⟨_, _, ⟨T87, L87, k87, n87⟩, -, X87, ⟨Lc87, hQ87, l87, y87, z87⟩, st87⟩ := Jvm.LawKit.callS X0 hx (y := (⟨"java/lang/Math", "min", "(II)I"⟩ : MethodName)) hown (mvT hZ (hw _ (List.mem_of_getElem? (i := 0) rfl))) (mvT hZ (hw _ (List.mem_of_getElem? (i := 1) rfl))) (mvT hZ (hw _ (List.mem_of_getElem? (i := 2) rfl))) (mvT hZ (hw _ (List.mem_of_getElem? (i := 3) rfl))) (by decide) (backOf (W := 0) (own_rmM l Z a0 hw [] (2 : Int32) (0 : Int32) (0 : Int32) h0 n0 Z0 (by decide)) hZ (hw _ (List.mem_of_getElem? (i := 3) rfl)) (hw _ (List.mem_of_getElem? (i := 2) rfl)) (by decide) (by decide)) (g := (mkF m 31 #[.val (.int p1), .val (.int p2), .val (.int (0 : Int32)), .val (.int (0 : Int32)), .unset, .unset, .unset, .unset] [(.int (0 : Int32)), (.int (2 : Int32))])) rfl (by rw [hml]; rfl) (argsL := [(.int (2 : Int32)), (.int (0 : Int32))]) (rest := []) (lenOf own_pd__II_I rfl) rfl (by show 2 * 0 + _ ≤ _; exact Nat.le_of_eq rfl) (hb hby at_31) (fun _ _ => ⟨rfl, e0, (by decide : 0 + 0 ≤ _), (by decide : 0 + 0 ≤ _)⟩)
        dsimp only [Pt.U, Pt.locs, Pt.cells, Pt.slots] at X87 l87 y87 z87 st87 hQ87
        subst l87 y87 z87
        obtain ⟨rfl, Nq87, eq87⟩ := hQ87
        have N87 := Fr.app N0 Nq87
        refine own_st st87 ?_
        show own_Go p.tables e below RR (T87.setTop (mkF m 34 #[.val (.int p1), .val (.int p2), .val (.int (0 : Int32)), .val (.int (0 : Int32)), .unset, .unset, .unset, .unset] [(.int (0 : Int32))]))
        refine own_st (fun _ k => XS.istore X87.here hx rfl (hb hby at_34) rfl (l' := #[.val (.int p1), .val (.int p2), .val (.int (0 : Int32)), .val (.int (0 : Int32)), .val (.int (0 : Int32)), .unset, .unset, .unset]) rfl (XS.iloadN X87.here hx rfl (hb hby at_36) rfl k)) ?_
        show own_Go p.tables e below RR (T87.setTop (mkF m 37 #[.val (.int p1), .val (.int p2), .val (.int (0 : Int32)), .val (.int (0 : Int32)), .val (.int (0 : Int32)), .unset, .unset, .unset] [(.int (0 : Int32))]))
        refine own_st (fun _ k => XS.ifYes X87.here hx rfl (pc0 := 37) (pc' := 54) rfl (hb hby at_37) rfl ((if0 _ _).trans (teq (by decide)).1) (by decide) (by decide) (XS.iconst X87.here hx rfl (hb hby at_54) k)) ?_
        show own_Go p.tables e below RR (T87.setTop (mkF m 55 #[.val (.int p1), .val (.int p2), .val (.int (0 : Int32)), .val (.int (0 : Int32)), .val (.int (0 : Int32)), .unset, .unset, .unset] [(.int (3 : Int32))]))
        obtain ⟨T88, h88, k88, X88, e88, E88, A88, O88, st88⟩ := newR X87 hx hZ hown (hw _ (List.mem_of_getElem? (i := 4) rfl)) (hw _ (List.mem_of_getElem? (i := 5) rfl)) eq87 (g := (mkF m 55 #[.val (.int p1), .val (.int p2), .val (.int (0 : Int32)), .val (.int (0 : Int32)), .val (.int (0 : Int32)), .unset, .unset, .unset] [(.int (3 : Int32))])) rfl (hb hby at_55) rfl (by decide) (cap := 3) (by decide) (by decide) (by decide) (by decide)
        obtain ⟨b88, gb88⟩ : ∃ z, z = h0.size := ⟨_, rfl⟩
        rw [← gb88] at A88 st88
        have ge88 : n0 ≤ b88 := Nat.le_trans Z0 (Nat.le_of_eq gb88.symm)
        refine own_st st88 ?_
        have z89 : n0 ≤ h88.size := Nat.le_trans Z0 E88.1
        have V88 : Arv Z h88 b88 k88 (.object "com/example/powderhorn/powderhorn/rules/escarmouche/Initiative") (3 : Int32) [.null, .null, .null] .null := (Arv.new A88 (by decide)).pad (pad_rep [] .null 3)
        show own_Go p.tables e below RR (T88.setTop (mkF m 58 #[.val (.int p1), .val (.int p2), .val (.int (0 : Int32)), .val (.int (0 : Int32)), .val (.int (0 : Int32)), .unset, .unset, .unset] [(.ref b88)]))
        refine own_st (fun _ k => XS.dup X88.here hx rfl (hb hby at_58) rfl rfl (XS.iconst X88.here hx rfl (hb hby at_59) k)) ?_
        show own_Go p.tables e below RR (T88.setTop (mkF m 60 #[.val (.int p1), .val (.int p2), .val (.int (0 : Int32)), .val (.int (0 : Int32)), .val (.int (0 : Int32)), .unset, .unset, .unset] [(.int (0 : Int32)), (.ref b88), (.ref b88)]))
        have f90 := (S_KEEP.ext E88)
        obtain ⟨T91, X91, e91, st91⟩ := getS2 X88 hx hZ hown (host := "") (Or.inl (hw _ (List.mem_of_getElem? (i := 6) rfl))) Via.refl e88 f90 (g := (mkF m 60 #[.val (.int p1), .val (.int p2), .val (.int (0 : Int32)), .val (.int (0 : Int32)), .val (.int (0 : Int32)), .unset, .unset, .unset] [(.int (0 : Int32)), (.ref b88), (.ref b88)])) rfl (hb hby at_60)
        refine own_st st91 ?_
        show own_Go p.tables e below RR (T91.setTop (mkF m 63 #[.val (.int p1), .val (.int p2), .val (.int (0 : Int32)), .val (.int (0 : Int32)), .val (.int (0 : Int32)), .unset, .unset, .unset] [(.ref a_KEEP), (.int (0 : Int32)), (.ref b88), (.ref b88)]))
        obtain ⟨c92, A92, q92, s92, m92, H92, G92⟩ := id V88
        have f93 := (E_KEEP.ext E88)
        obtain ⟨T94, h94, X94, e94, W94, st94⟩ := stR X91 hx hZ e91 A92 (j := (0 : Int32)) (inb_of s92 ⟨by decide, by decide⟩) rfl (Sto.ofV A92 q92 O88 (Ins.self f93)) (g := (mkF m 63 #[.val (.int p1), .val (.int p2), .val (.int (0 : Int32)), .val (.int (0 : Int32)), .val (.int (0 : Int32)), .unset, .unset, .unset] [(.ref a_KEEP), (.int (0 : Int32)), (.ref b88), (.ref b88)])) rfl rfl (hb hby at_63)
        have V94 := Arv.set A92 q92 s92 m92 H92 G92 rfl W94 0 rfl (Nat.le_of_ble_eq_true rfl)
        have V94 : Arv Z h94 b88 k88 (.object "com/example/powderhorn/powderhorn/rules/escarmouche/Initiative") (3 : Int32) [(.ref a_KEEP), .null, .null] .null := V94
        have N94 := Fr.snoc X94 N87 ge88
        refine own_st st94 ?_
        have z95 : n0 ≤ h94.size := Nat.le_trans z89 (Keep.of_wr W94).1
        show own_Go p.tables e below RR (T94.setTop (mkF m 64 #[.val (.int p1), .val (.int p2), .val (.int (0 : Int32)), .val (.int (0 : Int32)), .val (.int (0 : Int32)), .unset, .unset, .unset] [(.ref b88)]))
        refine own_st (fun _ k => XS.dup X94.here hx rfl (hb hby at_64) rfl rfl (XS.iconst X94.here hx rfl (hb hby at_65) k)) ?_
        show own_Go p.tables e below RR (T94.setTop (mkF m 66 #[.val (.int p1), .val (.int p2), .val (.int (0 : Int32)), .val (.int (0 : Int32)), .val (.int (0 : Int32)), .unset, .unset, .unset] [(.int (1 : Int32)), (.ref b88), (.ref b88)]))
        have f96 := ((S_FIGURE_ENDS.ext E88).wr W94)
        obtain ⟨T97, X97, e97, st97⟩ := getS2 X94 hx hZ hown (host := "") (Or.inl (hw _ (List.mem_of_getElem? (i := 10) rfl))) Via.refl e94 f96 (g := (mkF m 66 #[.val (.int p1), .val (.int p2), .val (.int (0 : Int32)), .val (.int (0 : Int32)), .val (.int (0 : Int32)), .unset, .unset, .unset] [(.int (1 : Int32)), (.ref b88), (.ref b88)])) rfl (hb hby at_66)
        refine own_st st97 ?_
        show own_Go p.tables e below RR (T97.setTop (mkF m 69 #[.val (.int p1), .val (.int p2), .val (.int (0 : Int32)), .val (.int (0 : Int32)), .val (.int (0 : Int32)), .unset, .unset, .unset] [(.ref a_FIGURE_ENDS), (.int (1 : Int32)), (.ref b88), (.ref b88)]))
        obtain ⟨c98, A98, q98, s98, m98, H98, G98⟩ := id V94
        have f99 := ((E_FIGURE_ENDS.ext E88).wr W94)
        obtain ⟨T100, h100, X100, e100, W100, st100⟩ := stR X97 hx hZ e97 A98 (j := (1 : Int32)) (inb_of s98 ⟨by decide, by decide⟩) rfl (Sto.ofV A98 q98 O88 (Ins.self f99)) (g := (mkF m 69 #[.val (.int p1), .val (.int p2), .val (.int (0 : Int32)), .val (.int (0 : Int32)), .val (.int (0 : Int32)), .unset, .unset, .unset] [(.ref a_FIGURE_ENDS), (.int (1 : Int32)), (.ref b88), (.ref b88)])) rfl rfl (hb hby at_69)
        have V100 := Arv.set A98 q98 s98 m98 H98 G98 rfl W100 1 rfl (Nat.le_of_ble_eq_true rfl)
        have V100 : Arv Z h100 b88 k88 (.object "com/example/powderhorn/powderhorn/rules/escarmouche/Initiative") (3 : Int32) [(.ref a_KEEP), (.ref a_FIGURE_ENDS), .null] .null := V100
        have N100 := Fr.snoc X100 N94 ge88
        refine own_st st100 ?_
        have z101 : n0 ≤ h100.size := Nat.le_trans z95 (Keep.of_wr W100).1
        show own_Go p.tables e below RR (T100.setTop (mkF m 70 #[.val (.int p1), .val (.int p2), .val (.int (0 : Int32)), .val (.int (0 : Int32)), .val (.int (0 : Int32)), .unset, .unset, .unset] [(.ref b88)]))
        refine own_st (fun _ k => XS.dup X100.here hx rfl (hb hby at_70) rfl rfl (XS.iconst X100.here hx rfl (hb hby at_71) k)) ?_
        show own_Go p.tables e below RR (T100.setTop (mkF m 72 #[.val (.int p1), .val (.int p2), .val (.int (0 : Int32)), .val (.int (0 : Int32)), .val (.int (0 : Int32)), .unset, .unset, .unset] [(.int (2 : Int32)), (.ref b88), (.ref b88)]))
        have f102 := (((S_SIDE_ENDS.ext E88).wr W94).wr W100)
        obtain ⟨T103, X103, e103, st103⟩ := getS2 X100 hx hZ hown (host := "") (Or.inl (hw _ (List.mem_of_getElem? (i := 12) rfl))) Via.refl e100 f102 (g := (mkF m 72 #[.val (.int p1), .val (.int p2), .val (.int (0 : Int32)), .val (.int (0 : Int32)), .val (.int (0 : Int32)), .unset, .unset, .unset] [(.int (2 : Int32)), (.ref b88), (.ref b88)])) rfl (hb hby at_72)
        refine own_st st103 ?_
        show own_Go p.tables e below RR (T103.setTop (mkF m 75 #[.val (.int p1), .val (.int p2), .val (.int (0 : Int32)), .val (.int (0 : Int32)), .val (.int (0 : Int32)), .unset, .unset, .unset] [(.ref a_SIDE_ENDS), (.int (2 : Int32)), (.ref b88), (.ref b88)]))
        obtain ⟨c104, A104, q104, s104, m104, H104, G104⟩ := id V100
        have f105 := (((E_SIDE_ENDS.ext E88).wr W94).wr W100)
        obtain ⟨T106, h106, X106, e106, W106, st106⟩ := stR X103 hx hZ e103 A104 (j := (2 : Int32)) (inb_of s104 ⟨by decide, by decide⟩) rfl (Sto.ofV A104 q104 O88 (Ins.self f105)) (g := (mkF m 75 #[.val (.int p1), .val (.int p2), .val (.int (0 : Int32)), .val (.int (0 : Int32)), .val (.int (0 : Int32)), .unset, .unset, .unset] [(.ref a_SIDE_ENDS), (.int (2 : Int32)), (.ref b88), (.ref b88)])) rfl rfl (hb hby at_75)
        have V106 := Arv.set A104 q104 s104 m104 H104 G104 rfl W106 2 rfl (Nat.le_of_ble_eq_true rfl)
        have V106 : Arv Z h106 b88 k88 (.object "com/example/powderhorn/powderhorn/rules/escarmouche/Initiative") (3 : Int32) [(.ref a_KEEP), (.ref a_FIGURE_ENDS), (.ref a_SIDE_ENDS)] .null := V106
        have N106 := Fr.snoc X106 N100 ge88
        refine own_st st106 ?_
        have z107 : n0 ≤ h106.size := Nat.le_trans z101 (Keep.of_wr W106).1
        show own_Go p.tables e below RR (T106.setTop (mkF m 76 #[.val (.int p1), .val (.int p2), .val (.int (0 : Int32)), .val (.int (0 : Int32)), .val (.int (0 : Int32)), .unset, .unset, .unset] [(.ref b88)]))
        refine own_st (fun _ k => XS.astore X106.here hx rfl (hb hby at_76) rfl rfl (l' := #[.val (.int p1), .val (.int p2), .val (.int (0 : Int32)), .val (.int (0 : Int32)), .val (.int (0 : Int32)), .val (.ref b88), .unset, .unset]) rfl (XS.aload X106.here hx rfl (hb hby at_78) rfl rfl (XS.iload X106.here hx rfl (hb hby at_80) rfl k))) ?_
        show own_Go p.tables e below RR (T106.setTop (mkF m 82 #[.val (.int p1), .val (.int p2), .val (.int (0 : Int32)), .val (.int (0 : Int32)), .val (.int (0 : Int32)), .val (.ref b88), .unset, .unset] [(.int (0 : Int32)), (.ref b88)]))
        obtain ⟨c108, A108, q108, s108, m108, H108, G108⟩ := id V106
        have b108 := inb_of (j := (0 : Int32)) s108 ⟨by decide, by decide⟩
        refine own_st (fun _ k => X106.aaload hx (j := (0 : Int32)) (v := (.ref a_KEEP)) (by rw [e106]; exact A108.1) (State.isArrayOf_alike hZ.alike A108.2.1) rfl A108.2.2 b108 (Has.at H108 b108 rfl) (g := (mkF m 82 #[.val (.int p1), .val (.int p2), .val (.int (0 : Int32)), .val (.int (0 : Int32)), .val (.int (0 : Int32)), .val (.ref b88), .unset, .unset] [(.int (0 : Int32)), (.ref b88)])) rfl rfl (hb hby at_82) _ (XS.astore X106.here hx rfl (hb hby at_83) rfl rfl (l' := #[.val (.int p1), .val (.int p2), .val (.int (0 : Int32)), .val (.int (0 : Int32)), .val (.int (0 : Int32)), .val (.ref b88), .val (.ref a_KEEP), .unset]) rfl (XS.iloadN X106.here hx rfl (hb hby at_85) rfl (XS.iloadN X106.here hx rfl (hb hby at_86) rfl k)))) ?_
        show own_Go p.tables e below RR (T106.setTop (mkF m 87 #[.val (.int p1), .val (.int p2), .val (.int (0 : Int32)), .val (.int (0 : Int32)), .val (.int (0 : Int32)), .val (.ref b88), .val (.ref a_KEEP), .unset] [(.int (0 : Int32)), (.int (0 : Int32))]))
        have f109 := (((f90.wr W94).wr W100).wr W106)
        have f110 := ((f96.wr W100).wr W106)
        have f111 := (f102.wr W106)
        obtain ⟨_, _, ⟨T112, L112, k112, n112⟩, -, X112, ⟨Lc112, hQ112, l112, y112, z112⟩, st112⟩ := Jvm.LawKit.callS X106 hx (y := (⟨"com/example/powderhorn/powderhorn/rules/escarmouche/Initiative", "after", "(IZ)Lcom/example/powderhorn/powderhorn/rules/escarmouche/Initiative;"⟩ : MethodName)) hown (mvT hZ (hw _ (List.mem_of_getElem? (i := 14) rfl))) (mvT hZ (hw _ (List.mem_of_getElem? (i := 15) rfl))) (mvT hZ (hw _ (List.mem_of_getElem? (i := 7) rfl))) (mvT hZ (hw _ (List.mem_of_getElem? (i := 16) rfl))) (by decide) (backOf (W := 0) (own_rmA l Z a0 hw [] (0 : Int32) (0 : Int32) a_KEEP a_FIGURE_ENDS a_SIDE_ENDS a_KEEP h106 n0 z107 f109 f110 f111 (by simp)) hZ (hw _ (List.mem_of_getElem? (i := 16) rfl)) (hw _ (List.mem_of_getElem? (i := 7) rfl)) (by decide) (by decide)) (g := (mkF m 87 #[.val (.int p1), .val (.int p2), .val (.int (0 : Int32)), .val (.int (0 : Int32)), .val (.int (0 : Int32)), .val (.ref b88), .val (.ref a_KEEP), .unset] [(.int (0 : Int32)), (.int (0 : Int32))])) rfl (by rw [hml]; rfl) (argsL := [(.int (0 : Int32)), (.int (0 : Int32))]) (rest := []) (lenOf own_pd__IZ_Lcom_example_powderhorn_powderhorn_rules_escarmouche_Initiative_ rfl) rfl (by show 2 * 0 + _ ≤ _; exact Nat.le_of_eq rfl) (hb hby at_87) (fun _ _ => ⟨rfl, e106, (by decide : 1 + 0 ≤ _), (by decide : 3 + 0 ≤ _)⟩)
        dsimp only [Pt.U, Pt.locs, Pt.cells, Pt.slots] at X112 l112 y112 z112 st112 hQ112
        subst l112 y112 z112
        obtain ⟨rfl, Nq112, eq112⟩ := hQ112
        have N112 := Fr.app N106 Nq112
        refine own_st st112 ?_
        show own_Go p.tables e below RR (T112.setTop (mkF m 90 #[.val (.int p1), .val (.int p2), .val (.int (0 : Int32)), .val (.int (0 : Int32)), .val (.int (0 : Int32)), .val (.ref b88), .val (.ref a_KEEP), .unset] [(.ref a_KEEP)]))
        refine own_st (fun _ k => XS.astore X112.here hx rfl (hb hby at_90) rfl rfl (l' := #[.val (.int p1), .val (.int p2), .val (.int (0 : Int32)), .val (.int (0 : Int32)), .val (.int (0 : Int32)), .val (.ref b88), .val (.ref a_KEEP), .val (.ref a_KEEP)]) rfl (XS.aload X112.here hx rfl (hb hby at_92) rfl rfl (XS.aload X112.here hx rfl (hb hby at_94) rfl rfl k))) ?_
        show own_Go p.tables e below RR (T112.setTop (mkF m 96 #[.val (.int p1), .val (.int p2), .val (.int (0 : Int32)), .val (.int (0 : Int32)), .val (.int (0 : Int32)), .val (.ref b88), .val (.ref a_KEEP), .val (.ref a_KEEP)] [(.ref a_KEEP), (.ref a_KEEP)]))
        refine own_st (fun _ k => Jvm.RoadKit.acmp (g := (mkF m 96 #[.val (.int p1), .val (.int p2), .val (.int (0 : Int32)), .val (.int (0 : Int32)), .val (.int (0 : Int32)), .val (.ref b88), .val (.ref a_KEEP), .val (.ref a_KEEP)] [(.ref a_KEEP), (.ref a_KEEP)])) X112 hx rfl rfl rfl (pc0 := 96) (pc' := 99) (same := true) rfl (hb hby at_96) rfl (decide_eq_true rfl) (by decide) (by decide) (XS.iconst X112.here hx rfl (hb hby at_99) (XS.goto X112.here hx rfl (pc0 := 100) (pc' := 104) rfl (hb hby at_100) (by decide) (by decide) k))) ?_
        show own_Go p.tables e below RR (T112.setTop (mkF m 104 #[.val (.int p1), .val (.int p2), .val (.int (0 : Int32)), .val (.int (0 : Int32)), .val (.int (0 : Int32)), .val (.ref b88), .val (.ref a_KEEP), .val (.ref a_KEEP)] [(.int (1 : Int32))]))
        obtain ⟨fs, hrt_, hrun, hended, hW, hsame⟩ := X112.leave (v := some (.int (1 : Int32))) (fun h => by rw [Bd.returns] at h; cases h)
        refine own_fin (retN X112 hx (t := .boolean) Bd.returns (by simp) (hb hby at_104) hrt_) (hRR _ ⟨_, hrun, hended, _, _, rfl, ?_, ⟨_, rfl⟩, hW, hsame.mono (by decide) (by decide)⟩)
        show own_Q0 Z p1 p2 a_KEEP a_FIGURE_ENDS a_SIDE_ENDS h0 n0 _ T112.heap _
        rw [eq112]
        exact ⟨rfl, N112⟩
      · by_cases ho86 : v84 = (1 : Int32)
        · subst ho86
          show own_Go p.tables e below RR (s₁.setTop (mkF m 29 #[.val (.int p1), .val (.int p2), .val (.int (0 : Int32)), .val (.int (1 : Int32)), .unset, .unset, .unset, .unset] []))
          show own_Go p.tables e below RR (s₁.setTop (mkF m 29 #[.val (.int p1), .val (.int p2), .val (.int (0 : Int32)), .val (.int (1 : Int32)), .unset, .unset, .unset, .unset] []))
          refine own_st (fun _ k => XS.iconst X0.here hx rfl (hb hby at_29) (XS.iloadN X0.here hx rfl (hb hby at_30) rfl k)) ?_
          show own_Go p.tables e below RR (s₁.setTop (mkF m 31 #[.val (.int p1), .val (.int p2), .val (.int (0 : Int32)), .val (.int (1 : Int32)), .unset, .unset, .unset, .unset] [(.int (1 : Int32)), (.int (2 : Int32))]))
          obtain ⟨_, _, ⟨T113, L113, k113, n113⟩, -, X113, ⟨Lc113, hQ113, l113, y113, z113⟩, st113⟩ := Jvm.LawKit.callS X0 hx (y := (⟨"java/lang/Math", "min", "(II)I"⟩ : MethodName)) hown (mvT hZ (hw _ (List.mem_of_getElem? (i := 0) rfl))) (mvT hZ (hw _ (List.mem_of_getElem? (i := 1) rfl))) (mvT hZ (hw _ (List.mem_of_getElem? (i := 2) rfl))) (mvT hZ (hw _ (List.mem_of_getElem? (i := 3) rfl))) (by decide) (backOf (W := 0) (own_rmM l Z a0 hw [] (2 : Int32) (1 : Int32) (1 : Int32) h0 n0 Z0 (by decide)) hZ (hw _ (List.mem_of_getElem? (i := 3) rfl)) (hw _ (List.mem_of_getElem? (i := 2) rfl)) (by decide) (by decide)) (g := (mkF m 31 #[.val (.int p1), .val (.int p2), .val (.int (0 : Int32)), .val (.int (1 : Int32)), .unset, .unset, .unset, .unset] [(.int (1 : Int32)), (.int (2 : Int32))])) rfl (by rw [hml]; rfl) (argsL := [(.int (2 : Int32)), (.int (1 : Int32))]) (rest := []) (lenOf own_pd__II_I rfl) rfl (by show 2 * 0 + _ ≤ _; exact Nat.le_of_eq rfl) (hb hby at_31) (fun _ _ => ⟨rfl, e0, (by decide : 0 + 0 ≤ _), (by decide : 0 + 0 ≤ _)⟩)
          dsimp only [Pt.U, Pt.locs, Pt.cells, Pt.slots] at X113 l113 y113 z113 st113 hQ113
          subst l113 y113 z113
          obtain ⟨rfl, Nq113, eq113⟩ := hQ113
          have N113 := Fr.app N0 Nq113
          refine own_st st113 ?_
          show own_Go p.tables e below RR (T113.setTop (mkF m 34 #[.val (.int p1), .val (.int p2), .val (.int (0 : Int32)), .val (.int (1 : Int32)), .unset, .unset, .unset, .unset] [(.int (1 : Int32))]))
          refine own_st (fun _ k => XS.istore X113.here hx rfl (hb hby at_34) rfl (l' := #[.val (.int p1), .val (.int p2), .val (.int (0 : Int32)), .val (.int (1 : Int32)), .val (.int (1 : Int32)), .unset, .unset, .unset]) rfl (XS.iloadN X113.here hx rfl (hb hby at_36) rfl k)) ?_
          show own_Go p.tables e below RR (T113.setTop (mkF m 37 #[.val (.int p1), .val (.int p2), .val (.int (0 : Int32)), .val (.int (1 : Int32)), .val (.int (1 : Int32)), .unset, .unset, .unset] [(.int (0 : Int32))]))
          refine own_st (fun _ k => XS.ifYes X113.here hx rfl (pc0 := 37) (pc' := 54) rfl (hb hby at_37) rfl ((if0 _ _).trans (teq (by decide)).1) (by decide) (by decide) (XS.iconst X113.here hx rfl (hb hby at_54) k)) ?_
          show own_Go p.tables e below RR (T113.setTop (mkF m 55 #[.val (.int p1), .val (.int p2), .val (.int (0 : Int32)), .val (.int (1 : Int32)), .val (.int (1 : Int32)), .unset, .unset, .unset] [(.int (3 : Int32))]))
          obtain ⟨T114, h114, k114, X114, e114, E114, A114, O114, st114⟩ := newR X113 hx hZ hown (hw _ (List.mem_of_getElem? (i := 4) rfl)) (hw _ (List.mem_of_getElem? (i := 5) rfl)) eq113 (g := (mkF m 55 #[.val (.int p1), .val (.int p2), .val (.int (0 : Int32)), .val (.int (1 : Int32)), .val (.int (1 : Int32)), .unset, .unset, .unset] [(.int (3 : Int32))])) rfl (hb hby at_55) rfl (by decide) (cap := 3) (by decide) (by decide) (by decide) (by decide)
          obtain ⟨b114, gb114⟩ : ∃ z, z = h0.size := ⟨_, rfl⟩
          rw [← gb114] at A114 st114
          have ge114 : n0 ≤ b114 := Nat.le_trans Z0 (Nat.le_of_eq gb114.symm)
          refine own_st st114 ?_
          have z115 : n0 ≤ h114.size := Nat.le_trans Z0 E114.1
          have V114 : Arv Z h114 b114 k114 (.object "com/example/powderhorn/powderhorn/rules/escarmouche/Initiative") (3 : Int32) [.null, .null, .null] .null := (Arv.new A114 (by decide)).pad (pad_rep [] .null 3)
          show own_Go p.tables e below RR (T114.setTop (mkF m 58 #[.val (.int p1), .val (.int p2), .val (.int (0 : Int32)), .val (.int (1 : Int32)), .val (.int (1 : Int32)), .unset, .unset, .unset] [(.ref b114)]))
          refine own_st (fun _ k => XS.dup X114.here hx rfl (hb hby at_58) rfl rfl (XS.iconst X114.here hx rfl (hb hby at_59) k)) ?_
          show own_Go p.tables e below RR (T114.setTop (mkF m 60 #[.val (.int p1), .val (.int p2), .val (.int (0 : Int32)), .val (.int (1 : Int32)), .val (.int (1 : Int32)), .unset, .unset, .unset] [(.int (0 : Int32)), (.ref b114), (.ref b114)]))
          have f116 := (S_KEEP.ext E114)
          obtain ⟨T117, X117, e117, st117⟩ := getS2 X114 hx hZ hown (host := "") (Or.inl (hw _ (List.mem_of_getElem? (i := 6) rfl))) Via.refl e114 f116 (g := (mkF m 60 #[.val (.int p1), .val (.int p2), .val (.int (0 : Int32)), .val (.int (1 : Int32)), .val (.int (1 : Int32)), .unset, .unset, .unset] [(.int (0 : Int32)), (.ref b114), (.ref b114)])) rfl (hb hby at_60)
          refine own_st st117 ?_
          show own_Go p.tables e below RR (T117.setTop (mkF m 63 #[.val (.int p1), .val (.int p2), .val (.int (0 : Int32)), .val (.int (1 : Int32)), .val (.int (1 : Int32)), .unset, .unset, .unset] [(.ref a_KEEP), (.int (0 : Int32)), (.ref b114), (.ref b114)]))
          obtain ⟨c118, A118, q118, s118, m118, H118, G118⟩ := id V114
          have f119 := (E_KEEP.ext E114)
          obtain ⟨T120, h120, X120, e120, W120, st120⟩ := stR X117 hx hZ e117 A118 (j := (0 : Int32)) (inb_of s118 ⟨by decide, by decide⟩) rfl (Sto.ofV A118 q118 O114 (Ins.self f119)) (g := (mkF m 63 #[.val (.int p1), .val (.int p2), .val (.int (0 : Int32)), .val (.int (1 : Int32)), .val (.int (1 : Int32)), .unset, .unset, .unset] [(.ref a_KEEP), (.int (0 : Int32)), (.ref b114), (.ref b114)])) rfl rfl (hb hby at_63)
          have V120 := Arv.set A118 q118 s118 m118 H118 G118 rfl W120 0 rfl (Nat.le_of_ble_eq_true rfl)
          have V120 : Arv Z h120 b114 k114 (.object "com/example/powderhorn/powderhorn/rules/escarmouche/Initiative") (3 : Int32) [(.ref a_KEEP), .null, .null] .null := V120
          have N120 := Fr.snoc X120 N113 ge114
          refine own_st st120 ?_
          have z121 : n0 ≤ h120.size := Nat.le_trans z115 (Keep.of_wr W120).1
          show own_Go p.tables e below RR (T120.setTop (mkF m 64 #[.val (.int p1), .val (.int p2), .val (.int (0 : Int32)), .val (.int (1 : Int32)), .val (.int (1 : Int32)), .unset, .unset, .unset] [(.ref b114)]))
          refine own_st (fun _ k => XS.dup X120.here hx rfl (hb hby at_64) rfl rfl (XS.iconst X120.here hx rfl (hb hby at_65) k)) ?_
          show own_Go p.tables e below RR (T120.setTop (mkF m 66 #[.val (.int p1), .val (.int p2), .val (.int (0 : Int32)), .val (.int (1 : Int32)), .val (.int (1 : Int32)), .unset, .unset, .unset] [(.int (1 : Int32)), (.ref b114), (.ref b114)]))
          have f122 := ((S_FIGURE_ENDS.ext E114).wr W120)
          obtain ⟨T123, X123, e123, st123⟩ := getS2 X120 hx hZ hown (host := "") (Or.inl (hw _ (List.mem_of_getElem? (i := 10) rfl))) Via.refl e120 f122 (g := (mkF m 66 #[.val (.int p1), .val (.int p2), .val (.int (0 : Int32)), .val (.int (1 : Int32)), .val (.int (1 : Int32)), .unset, .unset, .unset] [(.int (1 : Int32)), (.ref b114), (.ref b114)])) rfl (hb hby at_66)
          refine own_st st123 ?_
          show own_Go p.tables e below RR (T123.setTop (mkF m 69 #[.val (.int p1), .val (.int p2), .val (.int (0 : Int32)), .val (.int (1 : Int32)), .val (.int (1 : Int32)), .unset, .unset, .unset] [(.ref a_FIGURE_ENDS), (.int (1 : Int32)), (.ref b114), (.ref b114)]))
          obtain ⟨c124, A124, q124, s124, m124, H124, G124⟩ := id V120
          have f125 := ((E_FIGURE_ENDS.ext E114).wr W120)
          obtain ⟨T126, h126, X126, e126, W126, st126⟩ := stR X123 hx hZ e123 A124 (j := (1 : Int32)) (inb_of s124 ⟨by decide, by decide⟩) rfl (Sto.ofV A124 q124 O114 (Ins.self f125)) (g := (mkF m 69 #[.val (.int p1), .val (.int p2), .val (.int (0 : Int32)), .val (.int (1 : Int32)), .val (.int (1 : Int32)), .unset, .unset, .unset] [(.ref a_FIGURE_ENDS), (.int (1 : Int32)), (.ref b114), (.ref b114)])) rfl rfl (hb hby at_69)
          have V126 := Arv.set A124 q124 s124 m124 H124 G124 rfl W126 1 rfl (Nat.le_of_ble_eq_true rfl)
          have V126 : Arv Z h126 b114 k114 (.object "com/example/powderhorn/powderhorn/rules/escarmouche/Initiative") (3 : Int32) [(.ref a_KEEP), (.ref a_FIGURE_ENDS), .null] .null := V126
          have N126 := Fr.snoc X126 N120 ge114
          refine own_st st126 ?_
          have z127 : n0 ≤ h126.size := Nat.le_trans z121 (Keep.of_wr W126).1
          show own_Go p.tables e below RR (T126.setTop (mkF m 70 #[.val (.int p1), .val (.int p2), .val (.int (0 : Int32)), .val (.int (1 : Int32)), .val (.int (1 : Int32)), .unset, .unset, .unset] [(.ref b114)]))
          refine own_st (fun _ k => XS.dup X126.here hx rfl (hb hby at_70) rfl rfl (XS.iconst X126.here hx rfl (hb hby at_71) k)) ?_
          show own_Go p.tables e below RR (T126.setTop (mkF m 72 #[.val (.int p1), .val (.int p2), .val (.int (0 : Int32)), .val (.int (1 : Int32)), .val (.int (1 : Int32)), .unset, .unset, .unset] [(.int (2 : Int32)), (.ref b114), (.ref b114)]))
          have f128 := (((S_SIDE_ENDS.ext E114).wr W120).wr W126)
          obtain ⟨T129, X129, e129, st129⟩ := getS2 X126 hx hZ hown (host := "") (Or.inl (hw _ (List.mem_of_getElem? (i := 12) rfl))) Via.refl e126 f128 (g := (mkF m 72 #[.val (.int p1), .val (.int p2), .val (.int (0 : Int32)), .val (.int (1 : Int32)), .val (.int (1 : Int32)), .unset, .unset, .unset] [(.int (2 : Int32)), (.ref b114), (.ref b114)])) rfl (hb hby at_72)
          refine own_st st129 ?_
          show own_Go p.tables e below RR (T129.setTop (mkF m 75 #[.val (.int p1), .val (.int p2), .val (.int (0 : Int32)), .val (.int (1 : Int32)), .val (.int (1 : Int32)), .unset, .unset, .unset] [(.ref a_SIDE_ENDS), (.int (2 : Int32)), (.ref b114), (.ref b114)]))
          obtain ⟨c130, A130, q130, s130, m130, H130, G130⟩ := id V126
          have f131 := (((E_SIDE_ENDS.ext E114).wr W120).wr W126)
          obtain ⟨T132, h132, X132, e132, W132, st132⟩ := stR X129 hx hZ e129 A130 (j := (2 : Int32)) (inb_of s130 ⟨by decide, by decide⟩) rfl (Sto.ofV A130 q130 O114 (Ins.self f131)) (g := (mkF m 75 #[.val (.int p1), .val (.int p2), .val (.int (0 : Int32)), .val (.int (1 : Int32)), .val (.int (1 : Int32)), .unset, .unset, .unset] [(.ref a_SIDE_ENDS), (.int (2 : Int32)), (.ref b114), (.ref b114)])) rfl rfl (hb hby at_75)
          have V132 := Arv.set A130 q130 s130 m130 H130 G130 rfl W132 2 rfl (Nat.le_of_ble_eq_true rfl)
          have V132 : Arv Z h132 b114 k114 (.object "com/example/powderhorn/powderhorn/rules/escarmouche/Initiative") (3 : Int32) [(.ref a_KEEP), (.ref a_FIGURE_ENDS), (.ref a_SIDE_ENDS)] .null := V132
          have N132 := Fr.snoc X132 N126 ge114
          refine own_st st132 ?_
          have z133 : n0 ≤ h132.size := Nat.le_trans z127 (Keep.of_wr W132).1
          show own_Go p.tables e below RR (T132.setTop (mkF m 76 #[.val (.int p1), .val (.int p2), .val (.int (0 : Int32)), .val (.int (1 : Int32)), .val (.int (1 : Int32)), .unset, .unset, .unset] [(.ref b114)]))
          refine own_st (fun _ k => XS.astore X132.here hx rfl (hb hby at_76) rfl rfl (l' := #[.val (.int p1), .val (.int p2), .val (.int (0 : Int32)), .val (.int (1 : Int32)), .val (.int (1 : Int32)), .val (.ref b114), .unset, .unset]) rfl (XS.aload X132.here hx rfl (hb hby at_78) rfl rfl (XS.iload X132.here hx rfl (hb hby at_80) rfl k))) ?_
          show own_Go p.tables e below RR (T132.setTop (mkF m 82 #[.val (.int p1), .val (.int p2), .val (.int (0 : Int32)), .val (.int (1 : Int32)), .val (.int (1 : Int32)), .val (.ref b114), .unset, .unset] [(.int (1 : Int32)), (.ref b114)]))
          obtain ⟨c134, A134, q134, s134, m134, H134, G134⟩ := id V132
          have b134 := inb_of (j := (1 : Int32)) s134 ⟨by decide, by decide⟩
          refine own_st (fun _ k => X132.aaload hx (j := (1 : Int32)) (v := (.ref a_FIGURE_ENDS)) (by rw [e132]; exact A134.1) (State.isArrayOf_alike hZ.alike A134.2.1) rfl A134.2.2 b134 (Has.at H134 b134 rfl) (g := (mkF m 82 #[.val (.int p1), .val (.int p2), .val (.int (0 : Int32)), .val (.int (1 : Int32)), .val (.int (1 : Int32)), .val (.ref b114), .unset, .unset] [(.int (1 : Int32)), (.ref b114)])) rfl rfl (hb hby at_82) _ (XS.astore X132.here hx rfl (hb hby at_83) rfl rfl (l' := #[.val (.int p1), .val (.int p2), .val (.int (0 : Int32)), .val (.int (1 : Int32)), .val (.int (1 : Int32)), .val (.ref b114), .val (.ref a_FIGURE_ENDS), .unset]) rfl (XS.iloadN X132.here hx rfl (hb hby at_85) rfl (XS.iloadN X132.here hx rfl (hb hby at_86) rfl k)))) ?_
          show own_Go p.tables e below RR (T132.setTop (mkF m 87 #[.val (.int p1), .val (.int p2), .val (.int (0 : Int32)), .val (.int (1 : Int32)), .val (.int (1 : Int32)), .val (.ref b114), .val (.ref a_FIGURE_ENDS), .unset] [(.int (0 : Int32)), (.int (1 : Int32))]))
          have f135 := (((f116.wr W120).wr W126).wr W132)
          have f136 := ((f122.wr W126).wr W132)
          have f137 := (f128.wr W132)
          obtain ⟨_, _, ⟨T138, L138, k138, n138⟩, -, X138, ⟨Lc138, hQ138, l138, y138, z138⟩, st138⟩ := Jvm.LawKit.callS X132 hx (y := (⟨"com/example/powderhorn/powderhorn/rules/escarmouche/Initiative", "after", "(IZ)Lcom/example/powderhorn/powderhorn/rules/escarmouche/Initiative;"⟩ : MethodName)) hown (mvT hZ (hw _ (List.mem_of_getElem? (i := 14) rfl))) (mvT hZ (hw _ (List.mem_of_getElem? (i := 15) rfl))) (mvT hZ (hw _ (List.mem_of_getElem? (i := 7) rfl))) (mvT hZ (hw _ (List.mem_of_getElem? (i := 16) rfl))) (by decide) (backOf (W := 0) (own_rmA l Z a0 hw [] (1 : Int32) (0 : Int32) a_KEEP a_FIGURE_ENDS a_SIDE_ENDS a_FIGURE_ENDS h132 n0 z133 f135 f136 f137 (by simp)) hZ (hw _ (List.mem_of_getElem? (i := 16) rfl)) (hw _ (List.mem_of_getElem? (i := 7) rfl)) (by decide) (by decide)) (g := (mkF m 87 #[.val (.int p1), .val (.int p2), .val (.int (0 : Int32)), .val (.int (1 : Int32)), .val (.int (1 : Int32)), .val (.ref b114), .val (.ref a_FIGURE_ENDS), .unset] [(.int (0 : Int32)), (.int (1 : Int32))])) rfl (by rw [hml]; rfl) (argsL := [(.int (1 : Int32)), (.int (0 : Int32))]) (rest := []) (lenOf own_pd__IZ_Lcom_example_powderhorn_powderhorn_rules_escarmouche_Initiative_ rfl) rfl (by show 2 * 0 + _ ≤ _; exact Nat.le_of_eq rfl) (hb hby at_87) (fun _ _ => ⟨rfl, e132, (by decide : 1 + 0 ≤ _), (by decide : 3 + 0 ≤ _)⟩)
          dsimp only [Pt.U, Pt.locs, Pt.cells, Pt.slots] at X138 l138 y138 z138 st138 hQ138
          subst l138 y138 z138
          obtain ⟨rfl, Nq138, eq138⟩ := hQ138
          have N138 := Fr.app N132 Nq138
          refine own_st st138 ?_
          show own_Go p.tables e below RR (T138.setTop (mkF m 90 #[.val (.int p1), .val (.int p2), .val (.int (0 : Int32)), .val (.int (1 : Int32)), .val (.int (1 : Int32)), .val (.ref b114), .val (.ref a_FIGURE_ENDS), .unset] [(.ref a_FIGURE_ENDS)]))
          refine own_st (fun _ k => XS.astore X138.here hx rfl (hb hby at_90) rfl rfl (l' := #[.val (.int p1), .val (.int p2), .val (.int (0 : Int32)), .val (.int (1 : Int32)), .val (.int (1 : Int32)), .val (.ref b114), .val (.ref a_FIGURE_ENDS), .val (.ref a_FIGURE_ENDS)]) rfl (XS.aload X138.here hx rfl (hb hby at_92) rfl rfl (XS.aload X138.here hx rfl (hb hby at_94) rfl rfl k))) ?_
          show own_Go p.tables e below RR (T138.setTop (mkF m 96 #[.val (.int p1), .val (.int p2), .val (.int (0 : Int32)), .val (.int (1 : Int32)), .val (.int (1 : Int32)), .val (.ref b114), .val (.ref a_FIGURE_ENDS), .val (.ref a_FIGURE_ENDS)] [(.ref a_FIGURE_ENDS), (.ref a_FIGURE_ENDS)]))
          refine own_st (fun _ k => Jvm.RoadKit.acmp (g := (mkF m 96 #[.val (.int p1), .val (.int p2), .val (.int (0 : Int32)), .val (.int (1 : Int32)), .val (.int (1 : Int32)), .val (.ref b114), .val (.ref a_FIGURE_ENDS), .val (.ref a_FIGURE_ENDS)] [(.ref a_FIGURE_ENDS), (.ref a_FIGURE_ENDS)])) X138 hx rfl rfl rfl (pc0 := 96) (pc' := 99) (same := true) rfl (hb hby at_96) rfl (decide_eq_true rfl) (by decide) (by decide) (XS.iconst X138.here hx rfl (hb hby at_99) (XS.goto X138.here hx rfl (pc0 := 100) (pc' := 104) rfl (hb hby at_100) (by decide) (by decide) k))) ?_
          show own_Go p.tables e below RR (T138.setTop (mkF m 104 #[.val (.int p1), .val (.int p2), .val (.int (0 : Int32)), .val (.int (1 : Int32)), .val (.int (1 : Int32)), .val (.ref b114), .val (.ref a_FIGURE_ENDS), .val (.ref a_FIGURE_ENDS)] [(.int (1 : Int32))]))
          obtain ⟨fs, hrt_, hrun, hended, hW, hsame⟩ := X138.leave (v := some (.int (1 : Int32))) (fun h => by rw [Bd.returns] at h; cases h)
          refine own_fin (retN X138 hx (t := .boolean) Bd.returns (by simp) (hb hby at_104) hrt_) (hRR _ ⟨_, hrun, hended, _, _, rfl, ?_, ⟨_, rfl⟩, hW, hsame.mono (by decide) (by decide)⟩)
          show own_Q0 Z p1 p2 a_KEEP a_FIGURE_ENDS a_SIDE_ENDS h0 n0 _ T138.heap _
          rw [eq138]
          exact ⟨rfl, N138⟩
        · show own_Go p.tables e below RR (s₁.setTop (mkF m 29 #[.val (.int p1), .val (.int p2), .val (.int (0 : Int32)), .val (.int v84), .unset, .unset, .unset, .unset] []))
          show own_Go p.tables e below RR (s₁.setTop (mkF m 29 #[.val (.int p1), .val (.int p2), .val (.int (0 : Int32)), .val (.int v84), .unset, .unset, .unset, .unset] []))
          refine own_st (fun _ k => XS.iconst X0.here hx rfl (hb hby at_29) (XS.iloadN X0.here hx rfl (hb hby at_30) rfl k)) ?_
          show own_Go p.tables e below RR (s₁.setTop (mkF m 31 #[.val (.int p1), .val (.int p2), .val (.int (0 : Int32)), .val (.int v84), .unset, .unset, .unset, .unset] [(.int v84), (.int (2 : Int32))]))
          obtain ⟨_, _, ⟨T139, L139, k139, n139⟩, -, X139, ⟨Lc139, hQ139, l139, y139, z139⟩, st139⟩ := Jvm.LawKit.callS X0 hx (y := (⟨"java/lang/Math", "min", "(II)I"⟩ : MethodName)) hown (mvT hZ (hw _ (List.mem_of_getElem? (i := 0) rfl))) (mvT hZ (hw _ (List.mem_of_getElem? (i := 1) rfl))) (mvT hZ (hw _ (List.mem_of_getElem? (i := 2) rfl))) (mvT hZ (hw _ (List.mem_of_getElem? (i := 3) rfl))) (by decide) (backOf (W := 0) (own_rmM l Z a0 hw [] (2 : Int32) v84 (2 : Int32) h0 n0 Z0 (if_neg (own_big (own_n3 gv84) ho85 ho86))) hZ (hw _ (List.mem_of_getElem? (i := 3) rfl)) (hw _ (List.mem_of_getElem? (i := 2) rfl)) (by decide) (by decide)) (g := (mkF m 31 #[.val (.int p1), .val (.int p2), .val (.int (0 : Int32)), .val (.int v84), .unset, .unset, .unset, .unset] [(.int v84), (.int (2 : Int32))])) rfl (by rw [hml]; rfl) (argsL := [(.int (2 : Int32)), (.int v84)]) (rest := []) (lenOf own_pd__II_I rfl) rfl (by show 2 * 0 + _ ≤ _; exact Nat.le_of_eq rfl) (hb hby at_31) (fun _ _ => ⟨rfl, e0, (by decide : 0 + 0 ≤ _), (by decide : 0 + 0 ≤ _)⟩)
          dsimp only [Pt.U, Pt.locs, Pt.cells, Pt.slots] at X139 l139 y139 z139 st139 hQ139
          subst l139 y139 z139
          obtain ⟨rfl, Nq139, eq139⟩ := hQ139
          have N139 := Fr.app N0 Nq139
          refine own_st st139 ?_
          show own_Go p.tables e below RR (T139.setTop (mkF m 34 #[.val (.int p1), .val (.int p2), .val (.int (0 : Int32)), .val (.int v84), .unset, .unset, .unset, .unset] [(.int (2 : Int32))]))
          refine own_st (fun _ k => XS.istore X139.here hx rfl (hb hby at_34) rfl (l' := #[.val (.int p1), .val (.int p2), .val (.int (0 : Int32)), .val (.int v84), .val (.int (2 : Int32)), .unset, .unset, .unset]) rfl (XS.iloadN X139.here hx rfl (hb hby at_36) rfl k)) ?_
          show own_Go p.tables e below RR (T139.setTop (mkF m 37 #[.val (.int p1), .val (.int p2), .val (.int (0 : Int32)), .val (.int v84), .val (.int (2 : Int32)), .unset, .unset, .unset] [(.int (0 : Int32))]))
          refine own_st (fun _ k => XS.ifYes X139.here hx rfl (pc0 := 37) (pc' := 54) rfl (hb hby at_37) rfl ((if0 _ _).trans (teq (by decide)).1) (by decide) (by decide) (XS.iconst X139.here hx rfl (hb hby at_54) k)) ?_
          show own_Go p.tables e below RR (T139.setTop (mkF m 55 #[.val (.int p1), .val (.int p2), .val (.int (0 : Int32)), .val (.int v84), .val (.int (2 : Int32)), .unset, .unset, .unset] [(.int (3 : Int32))]))
          obtain ⟨T140, h140, k140, X140, e140, E140, A140, O140, st140⟩ := newR X139 hx hZ hown (hw _ (List.mem_of_getElem? (i := 4) rfl)) (hw _ (List.mem_of_getElem? (i := 5) rfl)) eq139 (g := (mkF m 55 #[.val (.int p1), .val (.int p2), .val (.int (0 : Int32)), .val (.int v84), .val (.int (2 : Int32)), .unset, .unset, .unset] [(.int (3 : Int32))])) rfl (hb hby at_55) rfl (by decide) (cap := 3) (by decide) (by decide) (by decide) (by decide)
          obtain ⟨b140, gb140⟩ : ∃ z, z = h0.size := ⟨_, rfl⟩
          rw [← gb140] at A140 st140
          have ge140 : n0 ≤ b140 := Nat.le_trans Z0 (Nat.le_of_eq gb140.symm)
          refine own_st st140 ?_
          have z141 : n0 ≤ h140.size := Nat.le_trans Z0 E140.1
          have V140 : Arv Z h140 b140 k140 (.object "com/example/powderhorn/powderhorn/rules/escarmouche/Initiative") (3 : Int32) [.null, .null, .null] .null := (Arv.new A140 (by decide)).pad (pad_rep [] .null 3)
          show own_Go p.tables e below RR (T140.setTop (mkF m 58 #[.val (.int p1), .val (.int p2), .val (.int (0 : Int32)), .val (.int v84), .val (.int (2 : Int32)), .unset, .unset, .unset] [(.ref b140)]))
          refine own_st (fun _ k => XS.dup X140.here hx rfl (hb hby at_58) rfl rfl (XS.iconst X140.here hx rfl (hb hby at_59) k)) ?_
          show own_Go p.tables e below RR (T140.setTop (mkF m 60 #[.val (.int p1), .val (.int p2), .val (.int (0 : Int32)), .val (.int v84), .val (.int (2 : Int32)), .unset, .unset, .unset] [(.int (0 : Int32)), (.ref b140), (.ref b140)]))
          have f142 := (S_KEEP.ext E140)
          obtain ⟨T143, X143, e143, st143⟩ := getS2 X140 hx hZ hown (host := "") (Or.inl (hw _ (List.mem_of_getElem? (i := 6) rfl))) Via.refl e140 f142 (g := (mkF m 60 #[.val (.int p1), .val (.int p2), .val (.int (0 : Int32)), .val (.int v84), .val (.int (2 : Int32)), .unset, .unset, .unset] [(.int (0 : Int32)), (.ref b140), (.ref b140)])) rfl (hb hby at_60)
          refine own_st st143 ?_
          show own_Go p.tables e below RR (T143.setTop (mkF m 63 #[.val (.int p1), .val (.int p2), .val (.int (0 : Int32)), .val (.int v84), .val (.int (2 : Int32)), .unset, .unset, .unset] [(.ref a_KEEP), (.int (0 : Int32)), (.ref b140), (.ref b140)]))
          obtain ⟨c144, A144, q144, s144, m144, H144, G144⟩ := id V140
          have f145 := (E_KEEP.ext E140)
          obtain ⟨T146, h146, X146, e146, W146, st146⟩ := stR X143 hx hZ e143 A144 (j := (0 : Int32)) (inb_of s144 ⟨by decide, by decide⟩) rfl (Sto.ofV A144 q144 O140 (Ins.self f145)) (g := (mkF m 63 #[.val (.int p1), .val (.int p2), .val (.int (0 : Int32)), .val (.int v84), .val (.int (2 : Int32)), .unset, .unset, .unset] [(.ref a_KEEP), (.int (0 : Int32)), (.ref b140), (.ref b140)])) rfl rfl (hb hby at_63)
          have V146 := Arv.set A144 q144 s144 m144 H144 G144 rfl W146 0 rfl (Nat.le_of_ble_eq_true rfl)
          have V146 : Arv Z h146 b140 k140 (.object "com/example/powderhorn/powderhorn/rules/escarmouche/Initiative") (3 : Int32) [(.ref a_KEEP), .null, .null] .null := V146
          have N146 := Fr.snoc X146 N139 ge140
          refine own_st st146 ?_
          have z147 : n0 ≤ h146.size := Nat.le_trans z141 (Keep.of_wr W146).1
          show own_Go p.tables e below RR (T146.setTop (mkF m 64 #[.val (.int p1), .val (.int p2), .val (.int (0 : Int32)), .val (.int v84), .val (.int (2 : Int32)), .unset, .unset, .unset] [(.ref b140)]))
          refine own_st (fun _ k => XS.dup X146.here hx rfl (hb hby at_64) rfl rfl (XS.iconst X146.here hx rfl (hb hby at_65) k)) ?_
          show own_Go p.tables e below RR (T146.setTop (mkF m 66 #[.val (.int p1), .val (.int p2), .val (.int (0 : Int32)), .val (.int v84), .val (.int (2 : Int32)), .unset, .unset, .unset] [(.int (1 : Int32)), (.ref b140), (.ref b140)]))
          have f148 := ((S_FIGURE_ENDS.ext E140).wr W146)
          obtain ⟨T149, X149, e149, st149⟩ := getS2 X146 hx hZ hown (host := "") (Or.inl (hw _ (List.mem_of_getElem? (i := 10) rfl))) Via.refl e146 f148 (g := (mkF m 66 #[.val (.int p1), .val (.int p2), .val (.int (0 : Int32)), .val (.int v84), .val (.int (2 : Int32)), .unset, .unset, .unset] [(.int (1 : Int32)), (.ref b140), (.ref b140)])) rfl (hb hby at_66)
          refine own_st st149 ?_
          show own_Go p.tables e below RR (T149.setTop (mkF m 69 #[.val (.int p1), .val (.int p2), .val (.int (0 : Int32)), .val (.int v84), .val (.int (2 : Int32)), .unset, .unset, .unset] [(.ref a_FIGURE_ENDS), (.int (1 : Int32)), (.ref b140), (.ref b140)]))
          obtain ⟨c150, A150, q150, s150, m150, H150, G150⟩ := id V146
          have f151 := ((E_FIGURE_ENDS.ext E140).wr W146)
          obtain ⟨T152, h152, X152, e152, W152, st152⟩ := stR X149 hx hZ e149 A150 (j := (1 : Int32)) (inb_of s150 ⟨by decide, by decide⟩) rfl (Sto.ofV A150 q150 O140 (Ins.self f151)) (g := (mkF m 69 #[.val (.int p1), .val (.int p2), .val (.int (0 : Int32)), .val (.int v84), .val (.int (2 : Int32)), .unset, .unset, .unset] [(.ref a_FIGURE_ENDS), (.int (1 : Int32)), (.ref b140), (.ref b140)])) rfl rfl (hb hby at_69)
          have V152 := Arv.set A150 q150 s150 m150 H150 G150 rfl W152 1 rfl (Nat.le_of_ble_eq_true rfl)
          have V152 : Arv Z h152 b140 k140 (.object "com/example/powderhorn/powderhorn/rules/escarmouche/Initiative") (3 : Int32) [(.ref a_KEEP), (.ref a_FIGURE_ENDS), .null] .null := V152
          have N152 := Fr.snoc X152 N146 ge140
          refine own_st st152 ?_
          have z153 : n0 ≤ h152.size := Nat.le_trans z147 (Keep.of_wr W152).1
          show own_Go p.tables e below RR (T152.setTop (mkF m 70 #[.val (.int p1), .val (.int p2), .val (.int (0 : Int32)), .val (.int v84), .val (.int (2 : Int32)), .unset, .unset, .unset] [(.ref b140)]))
          refine own_st (fun _ k => XS.dup X152.here hx rfl (hb hby at_70) rfl rfl (XS.iconst X152.here hx rfl (hb hby at_71) k)) ?_
          show own_Go p.tables e below RR (T152.setTop (mkF m 72 #[.val (.int p1), .val (.int p2), .val (.int (0 : Int32)), .val (.int v84), .val (.int (2 : Int32)), .unset, .unset, .unset] [(.int (2 : Int32)), (.ref b140), (.ref b140)]))
          have f154 := (((S_SIDE_ENDS.ext E140).wr W146).wr W152)
          obtain ⟨T155, X155, e155, st155⟩ := getS2 X152 hx hZ hown (host := "") (Or.inl (hw _ (List.mem_of_getElem? (i := 12) rfl))) Via.refl e152 f154 (g := (mkF m 72 #[.val (.int p1), .val (.int p2), .val (.int (0 : Int32)), .val (.int v84), .val (.int (2 : Int32)), .unset, .unset, .unset] [(.int (2 : Int32)), (.ref b140), (.ref b140)])) rfl (hb hby at_72)
          refine own_st st155 ?_
          show own_Go p.tables e below RR (T155.setTop (mkF m 75 #[.val (.int p1), .val (.int p2), .val (.int (0 : Int32)), .val (.int v84), .val (.int (2 : Int32)), .unset, .unset, .unset] [(.ref a_SIDE_ENDS), (.int (2 : Int32)), (.ref b140), (.ref b140)]))
          obtain ⟨c156, A156, q156, s156, m156, H156, G156⟩ := id V152
          have f157 := (((E_SIDE_ENDS.ext E140).wr W146).wr W152)
          obtain ⟨T158, h158, X158, e158, W158, st158⟩ := stR X155 hx hZ e155 A156 (j := (2 : Int32)) (inb_of s156 ⟨by decide, by decide⟩) rfl (Sto.ofV A156 q156 O140 (Ins.self f157)) (g := (mkF m 75 #[.val (.int p1), .val (.int p2), .val (.int (0 : Int32)), .val (.int v84), .val (.int (2 : Int32)), .unset, .unset, .unset] [(.ref a_SIDE_ENDS), (.int (2 : Int32)), (.ref b140), (.ref b140)])) rfl rfl (hb hby at_75)
          have V158 := Arv.set A156 q156 s156 m156 H156 G156 rfl W158 2 rfl (Nat.le_of_ble_eq_true rfl)
          have V158 : Arv Z h158 b140 k140 (.object "com/example/powderhorn/powderhorn/rules/escarmouche/Initiative") (3 : Int32) [(.ref a_KEEP), (.ref a_FIGURE_ENDS), (.ref a_SIDE_ENDS)] .null := V158
          have N158 := Fr.snoc X158 N152 ge140
          refine own_st st158 ?_
          have z159 : n0 ≤ h158.size := Nat.le_trans z153 (Keep.of_wr W158).1
          show own_Go p.tables e below RR (T158.setTop (mkF m 76 #[.val (.int p1), .val (.int p2), .val (.int (0 : Int32)), .val (.int v84), .val (.int (2 : Int32)), .unset, .unset, .unset] [(.ref b140)]))
          refine own_st (fun _ k => XS.astore X158.here hx rfl (hb hby at_76) rfl rfl (l' := #[.val (.int p1), .val (.int p2), .val (.int (0 : Int32)), .val (.int v84), .val (.int (2 : Int32)), .val (.ref b140), .unset, .unset]) rfl (XS.aload X158.here hx rfl (hb hby at_78) rfl rfl (XS.iload X158.here hx rfl (hb hby at_80) rfl k))) ?_
          show own_Go p.tables e below RR (T158.setTop (mkF m 82 #[.val (.int p1), .val (.int p2), .val (.int (0 : Int32)), .val (.int v84), .val (.int (2 : Int32)), .val (.ref b140), .unset, .unset] [(.int (2 : Int32)), (.ref b140)]))
          obtain ⟨c160, A160, q160, s160, m160, H160, G160⟩ := id V158
          have b160 := inb_of (j := (2 : Int32)) s160 ⟨by decide, by decide⟩
          refine own_st (fun _ k => X158.aaload hx (j := (2 : Int32)) (v := (.ref a_SIDE_ENDS)) (by rw [e158]; exact A160.1) (State.isArrayOf_alike hZ.alike A160.2.1) rfl A160.2.2 b160 (Has.at H160 b160 rfl) (g := (mkF m 82 #[.val (.int p1), .val (.int p2), .val (.int (0 : Int32)), .val (.int v84), .val (.int (2 : Int32)), .val (.ref b140), .unset, .unset] [(.int (2 : Int32)), (.ref b140)])) rfl rfl (hb hby at_82) _ (XS.astore X158.here hx rfl (hb hby at_83) rfl rfl (l' := #[.val (.int p1), .val (.int p2), .val (.int (0 : Int32)), .val (.int v84), .val (.int (2 : Int32)), .val (.ref b140), .val (.ref a_SIDE_ENDS), .unset]) rfl (XS.iloadN X158.here hx rfl (hb hby at_85) rfl (XS.iloadN X158.here hx rfl (hb hby at_86) rfl k)))) ?_
          show own_Go p.tables e below RR (T158.setTop (mkF m 87 #[.val (.int p1), .val (.int p2), .val (.int (0 : Int32)), .val (.int v84), .val (.int (2 : Int32)), .val (.ref b140), .val (.ref a_SIDE_ENDS), .unset] [(.int (0 : Int32)), (.int v84)]))
          have f161 := (((f142.wr W146).wr W152).wr W158)
          have f162 := ((f148.wr W152).wr W158)
          have f163 := (f154.wr W158)
          obtain ⟨_, _, ⟨T164, L164, k164, n164⟩, -, X164, ⟨Lc164, hQ164, l164, y164, z164⟩, st164⟩ := Jvm.LawKit.callS X158 hx (y := (⟨"com/example/powderhorn/powderhorn/rules/escarmouche/Initiative", "after", "(IZ)Lcom/example/powderhorn/powderhorn/rules/escarmouche/Initiative;"⟩ : MethodName)) hown (mvT hZ (hw _ (List.mem_of_getElem? (i := 14) rfl))) (mvT hZ (hw _ (List.mem_of_getElem? (i := 15) rfl))) (mvT hZ (hw _ (List.mem_of_getElem? (i := 7) rfl))) (mvT hZ (hw _ (List.mem_of_getElem? (i := 16) rfl))) (by decide) (backOf (W := 0) (own_rmA l Z a0 hw [] v84 (0 : Int32) a_KEEP a_FIGURE_ENDS a_SIDE_ENDS a_SIDE_ENDS h158 n0 z159 f161 f162 f163 (by simp [ho85, ho86])) hZ (hw _ (List.mem_of_getElem? (i := 16) rfl)) (hw _ (List.mem_of_getElem? (i := 7) rfl)) (by decide) (by decide)) (g := (mkF m 87 #[.val (.int p1), .val (.int p2), .val (.int (0 : Int32)), .val (.int v84), .val (.int (2 : Int32)), .val (.ref b140), .val (.ref a_SIDE_ENDS), .unset] [(.int (0 : Int32)), (.int v84)])) rfl (by rw [hml]; rfl) (argsL := [(.int v84), (.int (0 : Int32))]) (rest := []) (lenOf own_pd__IZ_Lcom_example_powderhorn_powderhorn_rules_escarmouche_Initiative_ rfl) rfl (by show 2 * 0 + _ ≤ _; exact Nat.le_of_eq rfl) (hb hby at_87) (fun _ _ => ⟨rfl, e158, (by decide : 1 + 0 ≤ _), (by decide : 3 + 0 ≤ _)⟩)
          dsimp only [Pt.U, Pt.locs, Pt.cells, Pt.slots] at X164 l164 y164 z164 st164 hQ164
          subst l164 y164 z164
          obtain ⟨rfl, Nq164, eq164⟩ := hQ164
          have N164 := Fr.app N158 Nq164
          refine own_st st164 ?_
          show own_Go p.tables e below RR (T164.setTop (mkF m 90 #[.val (.int p1), .val (.int p2), .val (.int (0 : Int32)), .val (.int v84), .val (.int (2 : Int32)), .val (.ref b140), .val (.ref a_SIDE_ENDS), .unset] [(.ref a_SIDE_ENDS)]))
          refine own_st (fun _ k => XS.astore X164.here hx rfl (hb hby at_90) rfl rfl (l' := #[.val (.int p1), .val (.int p2), .val (.int (0 : Int32)), .val (.int v84), .val (.int (2 : Int32)), .val (.ref b140), .val (.ref a_SIDE_ENDS), .val (.ref a_SIDE_ENDS)]) rfl (XS.aload X164.here hx rfl (hb hby at_92) rfl rfl (XS.aload X164.here hx rfl (hb hby at_94) rfl rfl k))) ?_
          show own_Go p.tables e below RR (T164.setTop (mkF m 96 #[.val (.int p1), .val (.int p2), .val (.int (0 : Int32)), .val (.int v84), .val (.int (2 : Int32)), .val (.ref b140), .val (.ref a_SIDE_ENDS), .val (.ref a_SIDE_ENDS)] [(.ref a_SIDE_ENDS), (.ref a_SIDE_ENDS)]))
          refine own_st (fun _ k => Jvm.RoadKit.acmp (g := (mkF m 96 #[.val (.int p1), .val (.int p2), .val (.int (0 : Int32)), .val (.int v84), .val (.int (2 : Int32)), .val (.ref b140), .val (.ref a_SIDE_ENDS), .val (.ref a_SIDE_ENDS)] [(.ref a_SIDE_ENDS), (.ref a_SIDE_ENDS)])) X164 hx rfl rfl rfl (pc0 := 96) (pc' := 99) (same := true) rfl (hb hby at_96) rfl (decide_eq_true rfl) (by decide) (by decide) (XS.iconst X164.here hx rfl (hb hby at_99) (XS.goto X164.here hx rfl (pc0 := 100) (pc' := 104) rfl (hb hby at_100) (by decide) (by decide) k))) ?_
          show own_Go p.tables e below RR (T164.setTop (mkF m 104 #[.val (.int p1), .val (.int p2), .val (.int (0 : Int32)), .val (.int v84), .val (.int (2 : Int32)), .val (.ref b140), .val (.ref a_SIDE_ENDS), .val (.ref a_SIDE_ENDS)] [(.int (1 : Int32))]))
          obtain ⟨fs, hrt_, hrun, hended, hW, hsame⟩ := X164.leave (v := some (.int (1 : Int32))) (fun h => by rw [Bd.returns] at h; cases h)
          refine own_fin (retN X164 hx (t := .boolean) Bd.returns (by simp) (hb hby at_104) hrt_) (hRR _ ⟨_, hrun, hended, _, _, rfl, ?_, ⟨_, rfl⟩, hW, hsame.mono (by decide) (by decide)⟩)
          show own_Q0 Z p1 p2 a_KEEP a_FIGURE_ENDS a_SIDE_ENDS h0 n0 _ T164.heap _
          rw [eq164]
          exact ⟨rfl, N164⟩
  · refine own_st (fun _ k => XS.ifNo X0.here hx rfl (hb hby at_3) rfl ((if0 _ _).trans (feq hc3_1).1) (XS.iconst X0.here hx rfl (hb hby at_6) (XS.goto X0.here hx rfl (pc0 := 7) (pc' := 11) rfl (hb hby at_7) (by decide) (by decide) (XS.istoreN X0.here hx rfl (hb hby at_11) rfl (l' := #[.val (.int p1), .val (.int p2), .val (.int (1 : Int32)), .unset, .unset, .unset, .unset, .unset]) rfl (XS.iloadN X0.here hx rfl (hb hby at_12) rfl (XS.iconst X0.here hx rfl (hb hby at_13) (XS.iand X0.here hx rfl (hb hby at_14) rfl k))))))) ?_
    show own_Go p.tables e below RR (s₁.setTop (mkF m 15 #[.val (.int p1), .val (.int p2), .val (.int (1 : Int32)), .unset, .unset, .unset, .unset, .unset] [(.int (p2 &&& (2 : Int32)))]))
    by_cases hc15_165 : (p2 &&& (2 : Int32)) = (0 : Int32)
    · refine own_st (fun _ k => XS.ifYes X0.here hx rfl (pc0 := 15) (pc' := 24) rfl (hb hby at_15) rfl ((if0 _ _).trans (teq hc15_165).1) (by decide) (by decide) (XS.iloadN X0.here hx rfl (hb hby at_24) rfl (X0.ldcInt hx hown (mvT hZ (hw _ (List.mem_of_getElem? (i := 18) rfl))) (g := (mkF m 25 #[.val (.int p1), .val (.int p2), .val (.int (1 : Int32)), .unset, .unset, .unset, .unset, .unset] [(.int p1)])) rfl (hb hby at_25) _ (XS.iand X0.here hx rfl (hb hby at_27) rfl k)))) ?_
      show own_Go p.tables e below RR (s₁.setTop (mkF m 28 #[.val (.int p1), .val (.int p2), .val (.int (1 : Int32)), .unset, .unset, .unset, .unset, .unset] [(.int (p1 &&& (2147483647 : Int32)))]))
      generalize gv166 : (p1 &&& (2147483647 : Int32)) = v166
      show own_Go p.tables e below RR (s₁.setTop (mkF m 28 #[.val (.int p1), .val (.int p2), .val (.int (1 : Int32)), .unset, .unset, .unset, .unset, .unset] [(.int v166)]))
      refine own_st (fun _ k => XS.istoreN X0.here hx rfl (hb hby at_28) rfl (l' := #[.val (.int p1), .val (.int p2), .val (.int (1 : Int32)), .val (.int v166), .unset, .unset, .unset, .unset]) rfl k) ?_
      show own_Go p.tables e below RR (s₁.setTop (mkF m 29 #[.val (.int p1), .val (.int p2), .val (.int (1 : Int32)), .val (.int v166), .unset, .unset, .unset, .unset] []))
      show own_Go p.tables e below RR (s₁.setTop (mkF m 29 #[.val (.int p1), .val (.int p2), .val (.int (1 : Int32)), .val (.int v166), .unset, .unset, .unset, .unset] []))
      by_cases ho167 : v166 = (0 : Int32)
      · subst ho167
        show own_Go p.tables e below RR (s₁.setTop (mkF m 29 #[.val (.int p1), .val (.int p2), .val (.int (1 : Int32)), .val (.int (0 : Int32)), .unset, .unset, .unset, .unset] []))
        show own_Go p.tables e below RR (s₁.setTop (mkF m 29 #[.val (.int p1), .val (.int p2), .val (.int (1 : Int32)), .val (.int (0 : Int32)), .unset, .unset, .unset, .unset] []))
        refine own_st (fun _ k => XS.iconst X0.here hx rfl (hb hby at_29) (XS.iloadN X0.here hx rfl (hb hby at_30) rfl k)) ?_
        show own_Go p.tables e below RR (s₁.setTop (mkF m 31 #[.val (.int p1), .val (.int p2), .val (.int (1 : Int32)), .val (.int (0 : Int32)), .unset, .unset, .unset, .unset] [(.int (0 : Int32)), (.int (2 : Int32))]))
        obtain ⟨_, _, ⟨T169, L169, k169, n169⟩, -, X169, ⟨Lc169, hQ169, l169, y169, z169⟩, st169⟩ := Jvm.LawKit.callS X0 hx (y := (⟨"java/lang/Math", "min", "(II)I"⟩ : MethodName)) hown (mvT hZ (hw _ (List.mem_of_getElem? (i := 0) rfl))) (mvT hZ (hw _ (List.mem_of_getElem? (i := 1) rfl))) (mvT hZ (hw _ (List.mem_of_getElem? (i := 2) rfl))) (mvT hZ (hw _ (List.mem_of_getElem? (i := 3) rfl))) (by decide) (backOf (W := 0) (own_rmM l Z a0 hw [] (2 : Int32) (0 : Int32) (0 : Int32) h0 n0 Z0 (by decide)) hZ (hw _ (List.mem_of_getElem? (i := 3) rfl)) (hw _ (List.mem_of_getElem? (i := 2) rfl)) (by decide) (by decide)) (g := (mkF m 31 #[.val (.int p1), .val (.int p2), .val (.int (1 : Int32)), .val (.int (0 : Int32)), .unset, .unset, .unset, .unset] [(.int (0 : Int32)), (.int (2 : Int32))])) rfl (by rw [hml]; rfl) (argsL := [(.int (2 : Int32)), (.int (0 : Int32))]) (rest := []) (lenOf own_pd__II_I rfl) rfl (by show 2 * 0 + _ ≤ _; exact Nat.le_of_eq rfl) (hb hby at_31) (fun _ _ => ⟨rfl, e0, (by decide : 0 + 0 ≤ _), (by decide : 0 + 0 ≤ _)⟩)
        dsimp only [Pt.U, Pt.locs, Pt.cells, Pt.slots] at X169 l169 y169 z169 st169 hQ169
        subst l169 y169 z169
        obtain ⟨rfl, Nq169, eq169⟩ := hQ169
        have N169 := Fr.app N0 Nq169
        refine own_st st169 ?_
        show own_Go p.tables e below RR (T169.setTop (mkF m 34 #[.val (.int p1), .val (.int p2), .val (.int (1 : Int32)), .val (.int (0 : Int32)), .unset, .unset, .unset, .unset] [(.int (0 : Int32))]))
        refine own_st (fun _ k => XS.istore X169.here hx rfl (hb hby at_34) rfl (l' := #[.val (.int p1), .val (.int p2), .val (.int (1 : Int32)), .val (.int (0 : Int32)), .val (.int (0 : Int32)), .unset, .unset, .unset]) rfl (XS.iloadN X169.here hx rfl (hb hby at_36) rfl k)) ?_
        show own_Go p.tables e below RR (T169.setTop (mkF m 37 #[.val (.int p1), .val (.int p2), .val (.int (1 : Int32)), .val (.int (0 : Int32)), .val (.int (0 : Int32)), .unset, .unset, .unset] [(.int (1 : Int32))]))
        refine own_st (fun _ k => XS.ifNo X169.here hx rfl (hb hby at_37) rfl ((if0 _ _).trans (feq (by decide)).1) (XS.iloadN X169.here hx rfl (hb hby at_40) rfl k)) ?_
        show own_Go p.tables e below RR (T169.setTop (mkF m 41 #[.val (.int p1), .val (.int p2), .val (.int (1 : Int32)), .val (.int (0 : Int32)), .val (.int (0 : Int32)), .unset, .unset, .unset] [(.int (0 : Int32))]))
        refine own_st (fun _ k => XS.ifYes X169.here hx rfl (pc0 := 41) (pc' := 54) rfl (hb hby at_41) rfl ((if0 _ _).trans (flt (by decide)).2.2.2) (by decide) (by decide) (XS.iconst X169.here hx rfl (hb hby at_54) k)) ?_
        show own_Go p.tables e below RR (T169.setTop (mkF m 55 #[.val (.int p1), .val (.int p2), .val (.int (1 : Int32)), .val (.int (0 : Int32)), .val (.int (0 : Int32)), .unset, .unset, .unset] [(.int (3 : Int32))]))
        obtain ⟨T170, h170, k170, X170, e170, E170, A170, O170, st170⟩ := newR X169 hx hZ hown (hw _ (List.mem_of_getElem? (i := 4) rfl)) (hw _ (List.mem_of_getElem? (i := 5) rfl)) eq169 (g := (mkF m 55 #[.val (.int p1), .val (.int p2), .val (.int (1 : Int32)), .val (.int (0 : Int32)), .val (.int (0 : Int32)), .unset, .unset, .unset] [(.int (3 : Int32))])) rfl (hb hby at_55) rfl (by decide) (cap := 3) (by decide) (by decide) (by decide) (by decide)
        obtain ⟨b170, gb170⟩ : ∃ z, z = h0.size := ⟨_, rfl⟩
        rw [← gb170] at A170 st170
        have ge170 : n0 ≤ b170 := Nat.le_trans Z0 (Nat.le_of_eq gb170.symm)
        refine own_st st170 ?_
        have z171 : n0 ≤ h170.size := Nat.le_trans Z0 E170.1
        have V170 : Arv Z h170 b170 k170 (.object "com/example/powderhorn/powderhorn/rules/escarmouche/Initiative") (3 : Int32) [.null, .null, .null] .null := (Arv.new A170 (by decide)).pad (pad_rep [] .null 3)
        show own_Go p.tables e below RR (T170.setTop (mkF m 58 #[.val (.int p1), .val (.int p2), .val (.int (1 : Int32)), .val (.int (0 : Int32)), .val (.int (0 : Int32)), .unset, .unset, .unset] [(.ref b170)]))
        refine own_st (fun _ k => XS.dup X170.here hx rfl (hb hby at_58) rfl rfl (XS.iconst X170.here hx rfl (hb hby at_59) k)) ?_
        show own_Go p.tables e below RR (T170.setTop (mkF m 60 #[.val (.int p1), .val (.int p2), .val (.int (1 : Int32)), .val (.int (0 : Int32)), .val (.int (0 : Int32)), .unset, .unset, .unset] [(.int (0 : Int32)), (.ref b170), (.ref b170)]))
        have f172 := (S_KEEP.ext E170)
        obtain ⟨T173, X173, e173, st173⟩ := getS2 X170 hx hZ hown (host := "") (Or.inl (hw _ (List.mem_of_getElem? (i := 6) rfl))) Via.refl e170 f172 (g := (mkF m 60 #[.val (.int p1), .val (.int p2), .val (.int (1 : Int32)), .val (.int (0 : Int32)), .val (.int (0 : Int32)), .unset, .unset, .unset] [(.int (0 : Int32)), (.ref b170), (.ref b170)])) rfl (hb hby at_60)
        refine own_st st173 ?_
        show own_Go p.tables e below RR (T173.setTop (mkF m 63 #[.val (.int p1), .val (.int p2), .val (.int (1 : Int32)), .val (.int (0 : Int32)), .val (.int (0 : Int32)), .unset, .unset, .unset] [(.ref a_KEEP), (.int (0 : Int32)), (.ref b170), (.ref b170)]))
        obtain ⟨c174, A174, q174, s174, m174, H174, G174⟩ := id V170
        have f175 := (E_KEEP.ext E170)
        obtain ⟨T176, h176, X176, e176, W176, st176⟩ := stR X173 hx hZ e173 A174 (j := (0 : Int32)) (inb_of s174 ⟨by decide, by decide⟩) rfl (Sto.ofV A174 q174 O170 (Ins.self f175)) (g := (mkF m 63 #[.val (.int p1), .val (.int p2), .val (.int (1 : Int32)), .val (.int (0 : Int32)), .val (.int (0 : Int32)), .unset, .unset, .unset] [(.ref a_KEEP), (.int (0 : Int32)), (.ref b170), (.ref b170)])) rfl rfl (hb hby at_63)
        have V176 := Arv.set A174 q174 s174 m174 H174 G174 rfl W176 0 rfl (Nat.le_of_ble_eq_true rfl)
        have V176 : Arv Z h176 b170 k170 (.object "com/example/powderhorn/powderhorn/rules/escarmouche/Initiative") (3 : Int32) [(.ref a_KEEP), .null, .null] .null := V176
        have N176 := Fr.snoc X176 N169 ge170
        refine own_st st176 ?_
        have z177 : n0 ≤ h176.size := Nat.le_trans z171 (Keep.of_wr W176).1
        show own_Go p.tables e below RR (T176.setTop (mkF m 64 #[.val (.int p1), .val (.int p2), .val (.int (1 : Int32)), .val (.int (0 : Int32)), .val (.int (0 : Int32)), .unset, .unset, .unset] [(.ref b170)]))
        refine own_st (fun _ k => XS.dup X176.here hx rfl (hb hby at_64) rfl rfl (XS.iconst X176.here hx rfl (hb hby at_65) k)) ?_
        show own_Go p.tables e below RR (T176.setTop (mkF m 66 #[.val (.int p1), .val (.int p2), .val (.int (1 : Int32)), .val (.int (0 : Int32)), .val (.int (0 : Int32)), .unset, .unset, .unset] [(.int (1 : Int32)), (.ref b170), (.ref b170)]))
        have f178 := ((S_FIGURE_ENDS.ext E170).wr W176)
        obtain ⟨T179, X179, e179, st179⟩ := getS2 X176 hx hZ hown (host := "") (Or.inl (hw _ (List.mem_of_getElem? (i := 10) rfl))) Via.refl e176 f178 (g := (mkF m 66 #[.val (.int p1), .val (.int p2), .val (.int (1 : Int32)), .val (.int (0 : Int32)), .val (.int (0 : Int32)), .unset, .unset, .unset] [(.int (1 : Int32)), (.ref b170), (.ref b170)])) rfl (hb hby at_66)
        refine own_st st179 ?_
        show own_Go p.tables e below RR (T179.setTop (mkF m 69 #[.val (.int p1), .val (.int p2), .val (.int (1 : Int32)), .val (.int (0 : Int32)), .val (.int (0 : Int32)), .unset, .unset, .unset] [(.ref a_FIGURE_ENDS), (.int (1 : Int32)), (.ref b170), (.ref b170)]))
        obtain ⟨c180, A180, q180, s180, m180, H180, G180⟩ := id V176
        have f181 := ((E_FIGURE_ENDS.ext E170).wr W176)
        obtain ⟨T182, h182, X182, e182, W182, st182⟩ := stR X179 hx hZ e179 A180 (j := (1 : Int32)) (inb_of s180 ⟨by decide, by decide⟩) rfl (Sto.ofV A180 q180 O170 (Ins.self f181)) (g := (mkF m 69 #[.val (.int p1), .val (.int p2), .val (.int (1 : Int32)), .val (.int (0 : Int32)), .val (.int (0 : Int32)), .unset, .unset, .unset] [(.ref a_FIGURE_ENDS), (.int (1 : Int32)), (.ref b170), (.ref b170)])) rfl rfl (hb hby at_69)
        have V182 := Arv.set A180 q180 s180 m180 H180 G180 rfl W182 1 rfl (Nat.le_of_ble_eq_true rfl)
        have V182 : Arv Z h182 b170 k170 (.object "com/example/powderhorn/powderhorn/rules/escarmouche/Initiative") (3 : Int32) [(.ref a_KEEP), (.ref a_FIGURE_ENDS), .null] .null := V182
        have N182 := Fr.snoc X182 N176 ge170
        refine own_st st182 ?_
        have z183 : n0 ≤ h182.size := Nat.le_trans z177 (Keep.of_wr W182).1
        show own_Go p.tables e below RR (T182.setTop (mkF m 70 #[.val (.int p1), .val (.int p2), .val (.int (1 : Int32)), .val (.int (0 : Int32)), .val (.int (0 : Int32)), .unset, .unset, .unset] [(.ref b170)]))
        refine own_st (fun _ k => XS.dup X182.here hx rfl (hb hby at_70) rfl rfl (XS.iconst X182.here hx rfl (hb hby at_71) k)) ?_
        show own_Go p.tables e below RR (T182.setTop (mkF m 72 #[.val (.int p1), .val (.int p2), .val (.int (1 : Int32)), .val (.int (0 : Int32)), .val (.int (0 : Int32)), .unset, .unset, .unset] [(.int (2 : Int32)), (.ref b170), (.ref b170)]))
        have f184 := (((S_SIDE_ENDS.ext E170).wr W176).wr W182)
        obtain ⟨T185, X185, e185, st185⟩ := getS2 X182 hx hZ hown (host := "") (Or.inl (hw _ (List.mem_of_getElem? (i := 12) rfl))) Via.refl e182 f184 (g := (mkF m 72 #[.val (.int p1), .val (.int p2), .val (.int (1 : Int32)), .val (.int (0 : Int32)), .val (.int (0 : Int32)), .unset, .unset, .unset] [(.int (2 : Int32)), (.ref b170), (.ref b170)])) rfl (hb hby at_72)
        refine own_st st185 ?_
        show own_Go p.tables e below RR (T185.setTop (mkF m 75 #[.val (.int p1), .val (.int p2), .val (.int (1 : Int32)), .val (.int (0 : Int32)), .val (.int (0 : Int32)), .unset, .unset, .unset] [(.ref a_SIDE_ENDS), (.int (2 : Int32)), (.ref b170), (.ref b170)]))
        obtain ⟨c186, A186, q186, s186, m186, H186, G186⟩ := id V182
        have f187 := (((E_SIDE_ENDS.ext E170).wr W176).wr W182)
        obtain ⟨T188, h188, X188, e188, W188, st188⟩ := stR X185 hx hZ e185 A186 (j := (2 : Int32)) (inb_of s186 ⟨by decide, by decide⟩) rfl (Sto.ofV A186 q186 O170 (Ins.self f187)) (g := (mkF m 75 #[.val (.int p1), .val (.int p2), .val (.int (1 : Int32)), .val (.int (0 : Int32)), .val (.int (0 : Int32)), .unset, .unset, .unset] [(.ref a_SIDE_ENDS), (.int (2 : Int32)), (.ref b170), (.ref b170)])) rfl rfl (hb hby at_75)
        have V188 := Arv.set A186 q186 s186 m186 H186 G186 rfl W188 2 rfl (Nat.le_of_ble_eq_true rfl)
        have V188 : Arv Z h188 b170 k170 (.object "com/example/powderhorn/powderhorn/rules/escarmouche/Initiative") (3 : Int32) [(.ref a_KEEP), (.ref a_FIGURE_ENDS), (.ref a_SIDE_ENDS)] .null := V188
        have N188 := Fr.snoc X188 N182 ge170
        refine own_st st188 ?_
        have z189 : n0 ≤ h188.size := Nat.le_trans z183 (Keep.of_wr W188).1
        show own_Go p.tables e below RR (T188.setTop (mkF m 76 #[.val (.int p1), .val (.int p2), .val (.int (1 : Int32)), .val (.int (0 : Int32)), .val (.int (0 : Int32)), .unset, .unset, .unset] [(.ref b170)]))
        refine own_st (fun _ k => XS.astore X188.here hx rfl (hb hby at_76) rfl rfl (l' := #[.val (.int p1), .val (.int p2), .val (.int (1 : Int32)), .val (.int (0 : Int32)), .val (.int (0 : Int32)), .val (.ref b170), .unset, .unset]) rfl (XS.aload X188.here hx rfl (hb hby at_78) rfl rfl (XS.iload X188.here hx rfl (hb hby at_80) rfl k))) ?_
        show own_Go p.tables e below RR (T188.setTop (mkF m 82 #[.val (.int p1), .val (.int p2), .val (.int (1 : Int32)), .val (.int (0 : Int32)), .val (.int (0 : Int32)), .val (.ref b170), .unset, .unset] [(.int (0 : Int32)), (.ref b170)]))
        obtain ⟨c190, A190, q190, s190, m190, H190, G190⟩ := id V188
        have b190 := inb_of (j := (0 : Int32)) s190 ⟨by decide, by decide⟩
        refine own_st (fun _ k => X188.aaload hx (j := (0 : Int32)) (v := (.ref a_KEEP)) (by rw [e188]; exact A190.1) (State.isArrayOf_alike hZ.alike A190.2.1) rfl A190.2.2 b190 (Has.at H190 b190 rfl) (g := (mkF m 82 #[.val (.int p1), .val (.int p2), .val (.int (1 : Int32)), .val (.int (0 : Int32)), .val (.int (0 : Int32)), .val (.ref b170), .unset, .unset] [(.int (0 : Int32)), (.ref b170)])) rfl rfl (hb hby at_82) _ (XS.astore X188.here hx rfl (hb hby at_83) rfl rfl (l' := #[.val (.int p1), .val (.int p2), .val (.int (1 : Int32)), .val (.int (0 : Int32)), .val (.int (0 : Int32)), .val (.ref b170), .val (.ref a_KEEP), .unset]) rfl (XS.iloadN X188.here hx rfl (hb hby at_85) rfl (XS.iloadN X188.here hx rfl (hb hby at_86) rfl k)))) ?_
        show own_Go p.tables e below RR (T188.setTop (mkF m 87 #[.val (.int p1), .val (.int p2), .val (.int (1 : Int32)), .val (.int (0 : Int32)), .val (.int (0 : Int32)), .val (.ref b170), .val (.ref a_KEEP), .unset] [(.int (1 : Int32)), (.int (0 : Int32))]))
        have f191 := (((f172.wr W176).wr W182).wr W188)
        have f192 := ((f178.wr W182).wr W188)
        have f193 := (f184.wr W188)
        obtain ⟨_, _, ⟨T194, L194, k194, n194⟩, -, X194, ⟨Lc194, hQ194, l194, y194, z194⟩, st194⟩ := Jvm.LawKit.callS X188 hx (y := (⟨"com/example/powderhorn/powderhorn/rules/escarmouche/Initiative", "after", "(IZ)Lcom/example/powderhorn/powderhorn/rules/escarmouche/Initiative;"⟩ : MethodName)) hown (mvT hZ (hw _ (List.mem_of_getElem? (i := 14) rfl))) (mvT hZ (hw _ (List.mem_of_getElem? (i := 15) rfl))) (mvT hZ (hw _ (List.mem_of_getElem? (i := 7) rfl))) (mvT hZ (hw _ (List.mem_of_getElem? (i := 16) rfl))) (by decide) (backOf (W := 0) (own_rmA l Z a0 hw [] (0 : Int32) (1 : Int32) a_KEEP a_FIGURE_ENDS a_SIDE_ENDS a_KEEP h188 n0 z189 f191 f192 f193 (by simp)) hZ (hw _ (List.mem_of_getElem? (i := 16) rfl)) (hw _ (List.mem_of_getElem? (i := 7) rfl)) (by decide) (by decide)) (g := (mkF m 87 #[.val (.int p1), .val (.int p2), .val (.int (1 : Int32)), .val (.int (0 : Int32)), .val (.int (0 : Int32)), .val (.ref b170), .val (.ref a_KEEP), .unset] [(.int (1 : Int32)), (.int (0 : Int32))])) rfl (by rw [hml]; rfl) (argsL := [(.int (0 : Int32)), (.int (1 : Int32))]) (rest := []) (lenOf own_pd__IZ_Lcom_example_powderhorn_powderhorn_rules_escarmouche_Initiative_ rfl) rfl (by show 2 * 0 + _ ≤ _; exact Nat.le_of_eq rfl) (hb hby at_87) (fun _ _ => ⟨rfl, e188, (by decide : 1 + 0 ≤ _), (by decide : 3 + 0 ≤ _)⟩)
        dsimp only [Pt.U, Pt.locs, Pt.cells, Pt.slots] at X194 l194 y194 z194 st194 hQ194
        subst l194 y194 z194
        obtain ⟨rfl, Nq194, eq194⟩ := hQ194
        have N194 := Fr.app N188 Nq194
        refine own_st st194 ?_
        show own_Go p.tables e below RR (T194.setTop (mkF m 90 #[.val (.int p1), .val (.int p2), .val (.int (1 : Int32)), .val (.int (0 : Int32)), .val (.int (0 : Int32)), .val (.ref b170), .val (.ref a_KEEP), .unset] [(.ref a_KEEP)]))
        refine own_st (fun _ k => XS.astore X194.here hx rfl (hb hby at_90) rfl rfl (l' := #[.val (.int p1), .val (.int p2), .val (.int (1 : Int32)), .val (.int (0 : Int32)), .val (.int (0 : Int32)), .val (.ref b170), .val (.ref a_KEEP), .val (.ref a_KEEP)]) rfl (XS.aload X194.here hx rfl (hb hby at_92) rfl rfl (XS.aload X194.here hx rfl (hb hby at_94) rfl rfl k))) ?_
        show own_Go p.tables e below RR (T194.setTop (mkF m 96 #[.val (.int p1), .val (.int p2), .val (.int (1 : Int32)), .val (.int (0 : Int32)), .val (.int (0 : Int32)), .val (.ref b170), .val (.ref a_KEEP), .val (.ref a_KEEP)] [(.ref a_KEEP), (.ref a_KEEP)]))
        refine own_st (fun _ k => Jvm.RoadKit.acmp (g := (mkF m 96 #[.val (.int p1), .val (.int p2), .val (.int (1 : Int32)), .val (.int (0 : Int32)), .val (.int (0 : Int32)), .val (.ref b170), .val (.ref a_KEEP), .val (.ref a_KEEP)] [(.ref a_KEEP), (.ref a_KEEP)])) X194 hx rfl rfl rfl (pc0 := 96) (pc' := 99) (same := true) rfl (hb hby at_96) rfl (decide_eq_true rfl) (by decide) (by decide) (XS.iconst X194.here hx rfl (hb hby at_99) (XS.goto X194.here hx rfl (pc0 := 100) (pc' := 104) rfl (hb hby at_100) (by decide) (by decide) k))) ?_
        show own_Go p.tables e below RR (T194.setTop (mkF m 104 #[.val (.int p1), .val (.int p2), .val (.int (1 : Int32)), .val (.int (0 : Int32)), .val (.int (0 : Int32)), .val (.ref b170), .val (.ref a_KEEP), .val (.ref a_KEEP)] [(.int (1 : Int32))]))
        obtain ⟨fs, hrt_, hrun, hended, hW, hsame⟩ := X194.leave (v := some (.int (1 : Int32))) (fun h => by rw [Bd.returns] at h; cases h)
        refine own_fin (retN X194 hx (t := .boolean) Bd.returns (by simp) (hb hby at_104) hrt_) (hRR _ ⟨_, hrun, hended, _, _, rfl, ?_, ⟨_, rfl⟩, hW, hsame.mono (by decide) (by decide)⟩)
        show own_Q0 Z p1 p2 a_KEEP a_FIGURE_ENDS a_SIDE_ENDS h0 n0 _ T194.heap _
        rw [eq194]
        exact ⟨rfl, N194⟩
      · by_cases ho168 : v166 = (1 : Int32)
        · subst ho168
          show own_Go p.tables e below RR (s₁.setTop (mkF m 29 #[.val (.int p1), .val (.int p2), .val (.int (1 : Int32)), .val (.int (1 : Int32)), .unset, .unset, .unset, .unset] []))
          show own_Go p.tables e below RR (s₁.setTop (mkF m 29 #[.val (.int p1), .val (.int p2), .val (.int (1 : Int32)), .val (.int (1 : Int32)), .unset, .unset, .unset, .unset] []))
          refine own_st (fun _ k => XS.iconst X0.here hx rfl (hb hby at_29) (XS.iloadN X0.here hx rfl (hb hby at_30) rfl k)) ?_
          show own_Go p.tables e below RR (s₁.setTop (mkF m 31 #[.val (.int p1), .val (.int p2), .val (.int (1 : Int32)), .val (.int (1 : Int32)), .unset, .unset, .unset, .unset] [(.int (1 : Int32)), (.int (2 : Int32))]))
          obtain ⟨_, _, ⟨T195, L195, k195, n195⟩, -, X195, ⟨Lc195, hQ195, l195, y195, z195⟩, st195⟩ := Jvm.LawKit.callS X0 hx (y := (⟨"java/lang/Math", "min", "(II)I"⟩ : MethodName)) hown (mvT hZ (hw _ (List.mem_of_getElem? (i := 0) rfl))) (mvT hZ (hw _ (List.mem_of_getElem? (i := 1) rfl))) (mvT hZ (hw _ (List.mem_of_getElem? (i := 2) rfl))) (mvT hZ (hw _ (List.mem_of_getElem? (i := 3) rfl))) (by decide) (backOf (W := 0) (own_rmM l Z a0 hw [] (2 : Int32) (1 : Int32) (1 : Int32) h0 n0 Z0 (by decide)) hZ (hw _ (List.mem_of_getElem? (i := 3) rfl)) (hw _ (List.mem_of_getElem? (i := 2) rfl)) (by decide) (by decide)) (g := (mkF m 31 #[.val (.int p1), .val (.int p2), .val (.int (1 : Int32)), .val (.int (1 : Int32)), .unset, .unset, .unset, .unset] [(.int (1 : Int32)), (.int (2 : Int32))])) rfl (by rw [hml]; rfl) (argsL := [(.int (2 : Int32)), (.int (1 : Int32))]) (rest := []) (lenOf own_pd__II_I rfl) rfl (by show 2 * 0 + _ ≤ _; exact Nat.le_of_eq rfl) (hb hby at_31) (fun _ _ => ⟨rfl, e0, (by decide : 0 + 0 ≤ _), (by decide : 0 + 0 ≤ _)⟩)
          dsimp only [Pt.U, Pt.locs, Pt.cells, Pt.slots] at X195 l195 y195 z195 st195 hQ195
          subst l195 y195 z195
          obtain ⟨rfl, Nq195, eq195⟩ := hQ195
          have N195 := Fr.app N0 Nq195
          refine own_st st195 ?_
          show own_Go p.tables e below RR (T195.setTop (mkF m 34 #[.val (.int p1), .val (.int p2), .val (.int (1 : Int32)), .val (.int (1 : Int32)), .unset, .unset, .unset, .unset] [(.int (1 : Int32))]))
          refine own_st (fun _ k => XS.istore X195.here hx rfl (hb hby at_34) rfl (l' := #[.val (.int p1), .val (.int p2), .val (.int (1 : Int32)), .val (.int (1 : Int32)), .val (.int (1 : Int32)), .unset, .unset, .unset]) rfl (XS.iloadN X195.here hx rfl (hb hby at_36) rfl k)) ?_
          show own_Go p.tables e below RR (T195.setTop (mkF m 37 #[.val (.int p1), .val (.int p2), .val (.int (1 : Int32)), .val (.int (1 : Int32)), .val (.int (1 : Int32)), .unset, .unset, .unset] [(.int (1 : Int32))]))
          refine own_st (fun _ k => XS.ifNo X195.here hx rfl (hb hby at_37) rfl ((if0 _ _).trans (feq (by decide)).1) (XS.iloadN X195.here hx rfl (hb hby at_40) rfl k)) ?_
          show own_Go p.tables e below RR (T195.setTop (mkF m 41 #[.val (.int p1), .val (.int p2), .val (.int (1 : Int32)), .val (.int (1 : Int32)), .val (.int (1 : Int32)), .unset, .unset, .unset] [(.int (1 : Int32))]))
          refine own_st (fun _ k => XS.ifNo X195.here hx rfl (hb hby at_41) rfl ((if0 _ _).trans (tlt (by decide)).2.2.2) (XS.iconst X195.here hx rfl (hb hby at_44) (XS.iload X195.here hx rfl (hb hby at_45) rfl (XS.iconst X195.here hx rfl (hb hby at_47) (XS.iadd X195.here hx rfl (hb hby at_48) rfl k))))) ?_
          show own_Go p.tables e below RR (T195.setTop (mkF m 49 #[.val (.int p1), .val (.int p2), .val (.int (1 : Int32)), .val (.int (1 : Int32)), .val (.int (1 : Int32)), .unset, .unset, .unset] [(.int (2 : Int32)), (.int (2 : Int32))]))
          obtain ⟨_, _, ⟨T196, L196, k196, n196⟩, -, X196, ⟨Lc196, hQ196, l196, y196, z196⟩, st196⟩ := Jvm.LawKit.callS X195 hx (y := (⟨"java/lang/Math", "min", "(II)I"⟩ : MethodName)) hown (mvT hZ (hw _ (List.mem_of_getElem? (i := 0) rfl))) (mvT hZ (hw _ (List.mem_of_getElem? (i := 1) rfl))) (mvT hZ (hw _ (List.mem_of_getElem? (i := 2) rfl))) (mvT hZ (hw _ (List.mem_of_getElem? (i := 3) rfl))) (by decide) (backOf (W := 0) (own_rmM l Z a0 hw [] (2 : Int32) (2 : Int32) (2 : Int32) h0 n0 Z0 (by decide)) hZ (hw _ (List.mem_of_getElem? (i := 3) rfl)) (hw _ (List.mem_of_getElem? (i := 2) rfl)) (by decide) (by decide)) (g := (mkF m 49 #[.val (.int p1), .val (.int p2), .val (.int (1 : Int32)), .val (.int (1 : Int32)), .val (.int (1 : Int32)), .unset, .unset, .unset] [(.int (2 : Int32)), (.int (2 : Int32))])) rfl (by rw [hml]; rfl) (argsL := [(.int (2 : Int32)), (.int (2 : Int32))]) (rest := []) (lenOf own_pd__II_I rfl) rfl (by show 2 * 0 + _ ≤ _; exact Nat.le_of_eq rfl) (hb hby at_49) (fun _ _ => ⟨rfl, eq195, (by decide : 0 + 0 ≤ _), (by decide : 0 + 0 ≤ _)⟩)
          dsimp only [Pt.U, Pt.locs, Pt.cells, Pt.slots] at X196 l196 y196 z196 st196 hQ196
          subst l196 y196 z196
          obtain ⟨rfl, Nq196, eq196⟩ := hQ196
          have N196 := Fr.app N195 Nq196
          refine own_st st196 ?_
          show own_Go p.tables e below RR (T196.setTop (mkF m 52 #[.val (.int p1), .val (.int p2), .val (.int (1 : Int32)), .val (.int (1 : Int32)), .val (.int (1 : Int32)), .unset, .unset, .unset] [(.int (2 : Int32))]))
          refine own_st (fun _ k => XS.istore X196.here hx rfl (hb hby at_52) rfl (l' := #[.val (.int p1), .val (.int p2), .val (.int (1 : Int32)), .val (.int (1 : Int32)), .val (.int (2 : Int32)), .unset, .unset, .unset]) rfl (XS.iconst X196.here hx rfl (hb hby at_54) k)) ?_
          show own_Go p.tables e below RR (T196.setTop (mkF m 55 #[.val (.int p1), .val (.int p2), .val (.int (1 : Int32)), .val (.int (1 : Int32)), .val (.int (2 : Int32)), .unset, .unset, .unset] [(.int (3 : Int32))]))
          obtain ⟨T197, h197, k197, X197, e197, E197, A197, O197, st197⟩ := newR X196 hx hZ hown (hw _ (List.mem_of_getElem? (i := 4) rfl)) (hw _ (List.mem_of_getElem? (i := 5) rfl)) eq196 (g := (mkF m 55 #[.val (.int p1), .val (.int p2), .val (.int (1 : Int32)), .val (.int (1 : Int32)), .val (.int (2 : Int32)), .unset, .unset, .unset] [(.int (3 : Int32))])) rfl (hb hby at_55) rfl (by decide) (cap := 3) (by decide) (by decide) (by decide) (by decide)
          obtain ⟨b197, gb197⟩ : ∃ z, z = h0.size := ⟨_, rfl⟩
          rw [← gb197] at A197 st197
          have ge197 : n0 ≤ b197 := Nat.le_trans Z0 (Nat.le_of_eq gb197.symm)
          refine own_st st197 ?_
          have z198 : n0 ≤ h197.size := Nat.le_trans Z0 E197.1
          have V197 : Arv Z h197 b197 k197 (.object "com/example/powderhorn/powderhorn/rules/escarmouche/Initiative") (3 : Int32) [.null, .null, .null] .null := (Arv.new A197 (by decide)).pad (pad_rep [] .null 3)
          show own_Go p.tables e below RR (T197.setTop (mkF m 58 #[.val (.int p1), .val (.int p2), .val (.int (1 : Int32)), .val (.int (1 : Int32)), .val (.int (2 : Int32)), .unset, .unset, .unset] [(.ref b197)]))
          refine own_st (fun _ k => XS.dup X197.here hx rfl (hb hby at_58) rfl rfl (XS.iconst X197.here hx rfl (hb hby at_59) k)) ?_
          show own_Go p.tables e below RR (T197.setTop (mkF m 60 #[.val (.int p1), .val (.int p2), .val (.int (1 : Int32)), .val (.int (1 : Int32)), .val (.int (2 : Int32)), .unset, .unset, .unset] [(.int (0 : Int32)), (.ref b197), (.ref b197)]))
          have f199 := (S_KEEP.ext E197)
          obtain ⟨T200, X200, e200, st200⟩ := getS2 X197 hx hZ hown (host := "") (Or.inl (hw _ (List.mem_of_getElem? (i := 6) rfl))) Via.refl e197 f199 (g := (mkF m 60 #[.val (.int p1), .val (.int p2), .val (.int (1 : Int32)), .val (.int (1 : Int32)), .val (.int (2 : Int32)), .unset, .unset, .unset] [(.int (0 : Int32)), (.ref b197), (.ref b197)])) rfl (hb hby at_60)
          refine own_st st200 ?_
          show own_Go p.tables e below RR (T200.setTop (mkF m 63 #[.val (.int p1), .val (.int p2), .val (.int (1 : Int32)), .val (.int (1 : Int32)), .val (.int (2 : Int32)), .unset, .unset, .unset] [(.ref a_KEEP), (.int (0 : Int32)), (.ref b197), (.ref b197)]))
          obtain ⟨c201, A201, q201, s201, m201, H201, G201⟩ := id V197
          have f202 := (E_KEEP.ext E197)
          obtain ⟨T203, h203, X203, e203, W203, st203⟩ := stR X200 hx hZ e200 A201 (j := (0 : Int32)) (inb_of s201 ⟨by decide, by decide⟩) rfl (Sto.ofV A201 q201 O197 (Ins.self f202)) (g := (mkF m 63 #[.val (.int p1), .val (.int p2), .val (.int (1 : Int32)), .val (.int (1 : Int32)), .val (.int (2 : Int32)), .unset, .unset, .unset] [(.ref a_KEEP), (.int (0 : Int32)), (.ref b197), (.ref b197)])) rfl rfl (hb hby at_63)
          have V203 := Arv.set A201 q201 s201 m201 H201 G201 rfl W203 0 rfl (Nat.le_of_ble_eq_true rfl)
          have V203 : Arv Z h203 b197 k197 (.object "com/example/powderhorn/powderhorn/rules/escarmouche/Initiative") (3 : Int32) [(.ref a_KEEP), .null, .null] .null := V203
          have N203 := Fr.snoc X203 N196 ge197
          refine own_st st203 ?_
          have z204 : n0 ≤ h203.size := Nat.le_trans z198 (Keep.of_wr W203).1
          show own_Go p.tables e below RR (T203.setTop (mkF m 64 #[.val (.int p1), .val (.int p2), .val (.int (1 : Int32)), .val (.int (1 : Int32)), .val (.int (2 : Int32)), .unset, .unset, .unset] [(.ref b197)]))
          refine own_st (fun _ k => XS.dup X203.here hx rfl (hb hby at_64) rfl rfl (XS.iconst X203.here hx rfl (hb hby at_65) k)) ?_
          show own_Go p.tables e below RR (T203.setTop (mkF m 66 #[.val (.int p1), .val (.int p2), .val (.int (1 : Int32)), .val (.int (1 : Int32)), .val (.int (2 : Int32)), .unset, .unset, .unset] [(.int (1 : Int32)), (.ref b197), (.ref b197)]))
          have f205 := ((S_FIGURE_ENDS.ext E197).wr W203)
          obtain ⟨T206, X206, e206, st206⟩ := getS2 X203 hx hZ hown (host := "") (Or.inl (hw _ (List.mem_of_getElem? (i := 10) rfl))) Via.refl e203 f205 (g := (mkF m 66 #[.val (.int p1), .val (.int p2), .val (.int (1 : Int32)), .val (.int (1 : Int32)), .val (.int (2 : Int32)), .unset, .unset, .unset] [(.int (1 : Int32)), (.ref b197), (.ref b197)])) rfl (hb hby at_66)
          refine own_st st206 ?_
          show own_Go p.tables e below RR (T206.setTop (mkF m 69 #[.val (.int p1), .val (.int p2), .val (.int (1 : Int32)), .val (.int (1 : Int32)), .val (.int (2 : Int32)), .unset, .unset, .unset] [(.ref a_FIGURE_ENDS), (.int (1 : Int32)), (.ref b197), (.ref b197)]))
          obtain ⟨c207, A207, q207, s207, m207, H207, G207⟩ := id V203
          have f208 := ((E_FIGURE_ENDS.ext E197).wr W203)
          obtain ⟨T209, h209, X209, e209, W209, st209⟩ := stR X206 hx hZ e206 A207 (j := (1 : Int32)) (inb_of s207 ⟨by decide, by decide⟩) rfl (Sto.ofV A207 q207 O197 (Ins.self f208)) (g := (mkF m 69 #[.val (.int p1), .val (.int p2), .val (.int (1 : Int32)), .val (.int (1 : Int32)), .val (.int (2 : Int32)), .unset, .unset, .unset] [(.ref a_FIGURE_ENDS), (.int (1 : Int32)), (.ref b197), (.ref b197)])) rfl rfl (hb hby at_69)
          have V209 := Arv.set A207 q207 s207 m207 H207 G207 rfl W209 1 rfl (Nat.le_of_ble_eq_true rfl)
          have V209 : Arv Z h209 b197 k197 (.object "com/example/powderhorn/powderhorn/rules/escarmouche/Initiative") (3 : Int32) [(.ref a_KEEP), (.ref a_FIGURE_ENDS), .null] .null := V209
          have N209 := Fr.snoc X209 N203 ge197
          refine own_st st209 ?_
          have z210 : n0 ≤ h209.size := Nat.le_trans z204 (Keep.of_wr W209).1
          show own_Go p.tables e below RR (T209.setTop (mkF m 70 #[.val (.int p1), .val (.int p2), .val (.int (1 : Int32)), .val (.int (1 : Int32)), .val (.int (2 : Int32)), .unset, .unset, .unset] [(.ref b197)]))
          refine own_st (fun _ k => XS.dup X209.here hx rfl (hb hby at_70) rfl rfl (XS.iconst X209.here hx rfl (hb hby at_71) k)) ?_
          show own_Go p.tables e below RR (T209.setTop (mkF m 72 #[.val (.int p1), .val (.int p2), .val (.int (1 : Int32)), .val (.int (1 : Int32)), .val (.int (2 : Int32)), .unset, .unset, .unset] [(.int (2 : Int32)), (.ref b197), (.ref b197)]))
          have f211 := (((S_SIDE_ENDS.ext E197).wr W203).wr W209)
          obtain ⟨T212, X212, e212, st212⟩ := getS2 X209 hx hZ hown (host := "") (Or.inl (hw _ (List.mem_of_getElem? (i := 12) rfl))) Via.refl e209 f211 (g := (mkF m 72 #[.val (.int p1), .val (.int p2), .val (.int (1 : Int32)), .val (.int (1 : Int32)), .val (.int (2 : Int32)), .unset, .unset, .unset] [(.int (2 : Int32)), (.ref b197), (.ref b197)])) rfl (hb hby at_72)
          refine own_st st212 ?_
          show own_Go p.tables e below RR (T212.setTop (mkF m 75 #[.val (.int p1), .val (.int p2), .val (.int (1 : Int32)), .val (.int (1 : Int32)), .val (.int (2 : Int32)), .unset, .unset, .unset] [(.ref a_SIDE_ENDS), (.int (2 : Int32)), (.ref b197), (.ref b197)]))
          obtain ⟨c213, A213, q213, s213, m213, H213, G213⟩ := id V209
          have f214 := (((E_SIDE_ENDS.ext E197).wr W203).wr W209)
          obtain ⟨T215, h215, X215, e215, W215, st215⟩ := stR X212 hx hZ e212 A213 (j := (2 : Int32)) (inb_of s213 ⟨by decide, by decide⟩) rfl (Sto.ofV A213 q213 O197 (Ins.self f214)) (g := (mkF m 75 #[.val (.int p1), .val (.int p2), .val (.int (1 : Int32)), .val (.int (1 : Int32)), .val (.int (2 : Int32)), .unset, .unset, .unset] [(.ref a_SIDE_ENDS), (.int (2 : Int32)), (.ref b197), (.ref b197)])) rfl rfl (hb hby at_75)
          have V215 := Arv.set A213 q213 s213 m213 H213 G213 rfl W215 2 rfl (Nat.le_of_ble_eq_true rfl)
          have V215 : Arv Z h215 b197 k197 (.object "com/example/powderhorn/powderhorn/rules/escarmouche/Initiative") (3 : Int32) [(.ref a_KEEP), (.ref a_FIGURE_ENDS), (.ref a_SIDE_ENDS)] .null := V215
          have N215 := Fr.snoc X215 N209 ge197
          refine own_st st215 ?_
          have z216 : n0 ≤ h215.size := Nat.le_trans z210 (Keep.of_wr W215).1
          show own_Go p.tables e below RR (T215.setTop (mkF m 76 #[.val (.int p1), .val (.int p2), .val (.int (1 : Int32)), .val (.int (1 : Int32)), .val (.int (2 : Int32)), .unset, .unset, .unset] [(.ref b197)]))
          refine own_st (fun _ k => XS.astore X215.here hx rfl (hb hby at_76) rfl rfl (l' := #[.val (.int p1), .val (.int p2), .val (.int (1 : Int32)), .val (.int (1 : Int32)), .val (.int (2 : Int32)), .val (.ref b197), .unset, .unset]) rfl (XS.aload X215.here hx rfl (hb hby at_78) rfl rfl (XS.iload X215.here hx rfl (hb hby at_80) rfl k))) ?_
          show own_Go p.tables e below RR (T215.setTop (mkF m 82 #[.val (.int p1), .val (.int p2), .val (.int (1 : Int32)), .val (.int (1 : Int32)), .val (.int (2 : Int32)), .val (.ref b197), .unset, .unset] [(.int (2 : Int32)), (.ref b197)]))
          obtain ⟨c217, A217, q217, s217, m217, H217, G217⟩ := id V215
          have b217 := inb_of (j := (2 : Int32)) s217 ⟨by decide, by decide⟩
          refine own_st (fun _ k => X215.aaload hx (j := (2 : Int32)) (v := (.ref a_SIDE_ENDS)) (by rw [e215]; exact A217.1) (State.isArrayOf_alike hZ.alike A217.2.1) rfl A217.2.2 b217 (Has.at H217 b217 rfl) (g := (mkF m 82 #[.val (.int p1), .val (.int p2), .val (.int (1 : Int32)), .val (.int (1 : Int32)), .val (.int (2 : Int32)), .val (.ref b197), .unset, .unset] [(.int (2 : Int32)), (.ref b197)])) rfl rfl (hb hby at_82) _ (XS.astore X215.here hx rfl (hb hby at_83) rfl rfl (l' := #[.val (.int p1), .val (.int p2), .val (.int (1 : Int32)), .val (.int (1 : Int32)), .val (.int (2 : Int32)), .val (.ref b197), .val (.ref a_SIDE_ENDS), .unset]) rfl (XS.iloadN X215.here hx rfl (hb hby at_85) rfl (XS.iloadN X215.here hx rfl (hb hby at_86) rfl k)))) ?_
          show own_Go p.tables e below RR (T215.setTop (mkF m 87 #[.val (.int p1), .val (.int p2), .val (.int (1 : Int32)), .val (.int (1 : Int32)), .val (.int (2 : Int32)), .val (.ref b197), .val (.ref a_SIDE_ENDS), .unset] [(.int (1 : Int32)), (.int (1 : Int32))]))
          have f218 := (((f199.wr W203).wr W209).wr W215)
          have f219 := ((f205.wr W209).wr W215)
          have f220 := (f211.wr W215)
          obtain ⟨_, _, ⟨T221, L221, k221, n221⟩, -, X221, ⟨Lc221, hQ221, l221, y221, z221⟩, st221⟩ := Jvm.LawKit.callS X215 hx (y := (⟨"com/example/powderhorn/powderhorn/rules/escarmouche/Initiative", "after", "(IZ)Lcom/example/powderhorn/powderhorn/rules/escarmouche/Initiative;"⟩ : MethodName)) hown (mvT hZ (hw _ (List.mem_of_getElem? (i := 14) rfl))) (mvT hZ (hw _ (List.mem_of_getElem? (i := 15) rfl))) (mvT hZ (hw _ (List.mem_of_getElem? (i := 7) rfl))) (mvT hZ (hw _ (List.mem_of_getElem? (i := 16) rfl))) (by decide) (backOf (W := 0) (own_rmA l Z a0 hw [] (1 : Int32) (1 : Int32) a_KEEP a_FIGURE_ENDS a_SIDE_ENDS a_SIDE_ENDS h215 n0 z216 f218 f219 f220 (by simp)) hZ (hw _ (List.mem_of_getElem? (i := 16) rfl)) (hw _ (List.mem_of_getElem? (i := 7) rfl)) (by decide) (by decide)) (g := (mkF m 87 #[.val (.int p1), .val (.int p2), .val (.int (1 : Int32)), .val (.int (1 : Int32)), .val (.int (2 : Int32)), .val (.ref b197), .val (.ref a_SIDE_ENDS), .unset] [(.int (1 : Int32)), (.int (1 : Int32))])) rfl (by rw [hml]; rfl) (argsL := [(.int (1 : Int32)), (.int (1 : Int32))]) (rest := []) (lenOf own_pd__IZ_Lcom_example_powderhorn_powderhorn_rules_escarmouche_Initiative_ rfl) rfl (by show 2 * 0 + _ ≤ _; exact Nat.le_of_eq rfl) (hb hby at_87) (fun _ _ => ⟨rfl, e215, (by decide : 1 + 0 ≤ _), (by decide : 3 + 0 ≤ _)⟩)
          dsimp only [Pt.U, Pt.locs, Pt.cells, Pt.slots] at X221 l221 y221 z221 st221 hQ221
          subst l221 y221 z221
          obtain ⟨rfl, Nq221, eq221⟩ := hQ221
          have N221 := Fr.app N215 Nq221
          refine own_st st221 ?_
          show own_Go p.tables e below RR (T221.setTop (mkF m 90 #[.val (.int p1), .val (.int p2), .val (.int (1 : Int32)), .val (.int (1 : Int32)), .val (.int (2 : Int32)), .val (.ref b197), .val (.ref a_SIDE_ENDS), .unset] [(.ref a_SIDE_ENDS)]))
          refine own_st (fun _ k => XS.astore X221.here hx rfl (hb hby at_90) rfl rfl (l' := #[.val (.int p1), .val (.int p2), .val (.int (1 : Int32)), .val (.int (1 : Int32)), .val (.int (2 : Int32)), .val (.ref b197), .val (.ref a_SIDE_ENDS), .val (.ref a_SIDE_ENDS)]) rfl (XS.aload X221.here hx rfl (hb hby at_92) rfl rfl (XS.aload X221.here hx rfl (hb hby at_94) rfl rfl k))) ?_
          show own_Go p.tables e below RR (T221.setTop (mkF m 96 #[.val (.int p1), .val (.int p2), .val (.int (1 : Int32)), .val (.int (1 : Int32)), .val (.int (2 : Int32)), .val (.ref b197), .val (.ref a_SIDE_ENDS), .val (.ref a_SIDE_ENDS)] [(.ref a_SIDE_ENDS), (.ref a_SIDE_ENDS)]))
          refine own_st (fun _ k => Jvm.RoadKit.acmp (g := (mkF m 96 #[.val (.int p1), .val (.int p2), .val (.int (1 : Int32)), .val (.int (1 : Int32)), .val (.int (2 : Int32)), .val (.ref b197), .val (.ref a_SIDE_ENDS), .val (.ref a_SIDE_ENDS)] [(.ref a_SIDE_ENDS), (.ref a_SIDE_ENDS)])) X221 hx rfl rfl rfl (pc0 := 96) (pc' := 99) (same := true) rfl (hb hby at_96) rfl (decide_eq_true rfl) (by decide) (by decide) (XS.iconst X221.here hx rfl (hb hby at_99) (XS.goto X221.here hx rfl (pc0 := 100) (pc' := 104) rfl (hb hby at_100) (by decide) (by decide) k))) ?_
          show own_Go p.tables e below RR (T221.setTop (mkF m 104 #[.val (.int p1), .val (.int p2), .val (.int (1 : Int32)), .val (.int (1 : Int32)), .val (.int (2 : Int32)), .val (.ref b197), .val (.ref a_SIDE_ENDS), .val (.ref a_SIDE_ENDS)] [(.int (1 : Int32))]))
          obtain ⟨fs, hrt_, hrun, hended, hW, hsame⟩ := X221.leave (v := some (.int (1 : Int32))) (fun h => by rw [Bd.returns] at h; cases h)
          refine own_fin (retN X221 hx (t := .boolean) Bd.returns (by simp) (hb hby at_104) hrt_) (hRR _ ⟨_, hrun, hended, _, _, rfl, ?_, ⟨_, rfl⟩, hW, hsame.mono (by decide) (by decide)⟩)
          show own_Q0 Z p1 p2 a_KEEP a_FIGURE_ENDS a_SIDE_ENDS h0 n0 _ T221.heap _
          rw [eq221]
          exact ⟨rfl, N221⟩
        · show own_Go p.tables e below RR (s₁.setTop (mkF m 29 #[.val (.int p1), .val (.int p2), .val (.int (1 : Int32)), .val (.int v166), .unset, .unset, .unset, .unset] []))
          show own_Go p.tables e below RR (s₁.setTop (mkF m 29 #[.val (.int p1), .val (.int p2), .val (.int (1 : Int32)), .val (.int v166), .unset, .unset, .unset, .unset] []))
          refine own_st (fun _ k => XS.iconst X0.here hx rfl (hb hby at_29) (XS.iloadN X0.here hx rfl (hb hby at_30) rfl k)) ?_
          show own_Go p.tables e below RR (s₁.setTop (mkF m 31 #[.val (.int p1), .val (.int p2), .val (.int (1 : Int32)), .val (.int v166), .unset, .unset, .unset, .unset] [(.int v166), (.int (2 : Int32))]))
          obtain ⟨_, _, ⟨T222, L222, k222, n222⟩, -, X222, ⟨Lc222, hQ222, l222, y222, z222⟩, st222⟩ := Jvm.LawKit.callS X0 hx (y := (⟨"java/lang/Math", "min", "(II)I"⟩ : MethodName)) hown (mvT hZ (hw _ (List.mem_of_getElem? (i := 0) rfl))) (mvT hZ (hw _ (List.mem_of_getElem? (i := 1) rfl))) (mvT hZ (hw _ (List.mem_of_getElem? (i := 2) rfl))) (mvT hZ (hw _ (List.mem_of_getElem? (i := 3) rfl))) (by decide) (backOf (W := 0) (own_rmM l Z a0 hw [] (2 : Int32) v166 (2 : Int32) h0 n0 Z0 (if_neg (own_big (own_nn gv166) ho167 ho168))) hZ (hw _ (List.mem_of_getElem? (i := 3) rfl)) (hw _ (List.mem_of_getElem? (i := 2) rfl)) (by decide) (by decide)) (g := (mkF m 31 #[.val (.int p1), .val (.int p2), .val (.int (1 : Int32)), .val (.int v166), .unset, .unset, .unset, .unset] [(.int v166), (.int (2 : Int32))])) rfl (by rw [hml]; rfl) (argsL := [(.int (2 : Int32)), (.int v166)]) (rest := []) (lenOf own_pd__II_I rfl) rfl (by show 2 * 0 + _ ≤ _; exact Nat.le_of_eq rfl) (hb hby at_31) (fun _ _ => ⟨rfl, e0, (by decide : 0 + 0 ≤ _), (by decide : 0 + 0 ≤ _)⟩)
          dsimp only [Pt.U, Pt.locs, Pt.cells, Pt.slots] at X222 l222 y222 z222 st222 hQ222
          subst l222 y222 z222
          obtain ⟨rfl, Nq222, eq222⟩ := hQ222
          have N222 := Fr.app N0 Nq222
          refine own_st st222 ?_
          show own_Go p.tables e below RR (T222.setTop (mkF m 34 #[.val (.int p1), .val (.int p2), .val (.int (1 : Int32)), .val (.int v166), .unset, .unset, .unset, .unset] [(.int (2 : Int32))]))
          refine own_st (fun _ k => XS.istore X222.here hx rfl (hb hby at_34) rfl (l' := #[.val (.int p1), .val (.int p2), .val (.int (1 : Int32)), .val (.int v166), .val (.int (2 : Int32)), .unset, .unset, .unset]) rfl (XS.iloadN X222.here hx rfl (hb hby at_36) rfl k)) ?_
          show own_Go p.tables e below RR (T222.setTop (mkF m 37 #[.val (.int p1), .val (.int p2), .val (.int (1 : Int32)), .val (.int v166), .val (.int (2 : Int32)), .unset, .unset, .unset] [(.int (1 : Int32))]))
          refine own_st (fun _ k => XS.ifNo X222.here hx rfl (hb hby at_37) rfl ((if0 _ _).trans (feq (by decide)).1) (XS.iloadN X222.here hx rfl (hb hby at_40) rfl k)) ?_
          show own_Go p.tables e below RR (T222.setTop (mkF m 41 #[.val (.int p1), .val (.int p2), .val (.int (1 : Int32)), .val (.int v166), .val (.int (2 : Int32)), .unset, .unset, .unset] [(.int v166)]))
          refine own_st (fun _ k => XS.ifNo X222.here hx rfl (hb hby at_41) rfl ((if0 _ _).trans (tlt (own_pos (own_nn gv166) ho167)).2.2.2) (XS.iconst X222.here hx rfl (hb hby at_44) (XS.iload X222.here hx rfl (hb hby at_45) rfl (XS.iconst X222.here hx rfl (hb hby at_47) (XS.iadd X222.here hx rfl (hb hby at_48) rfl k))))) ?_
          show own_Go p.tables e below RR (T222.setTop (mkF m 49 #[.val (.int p1), .val (.int p2), .val (.int (1 : Int32)), .val (.int v166), .val (.int (2 : Int32)), .unset, .unset, .unset] [(.int (3 : Int32)), (.int (2 : Int32))]))
          obtain ⟨_, _, ⟨T223, L223, k223, n223⟩, -, X223, ⟨Lc223, hQ223, l223, y223, z223⟩, st223⟩ := Jvm.LawKit.callS X222 hx (y := (⟨"java/lang/Math", "min", "(II)I"⟩ : MethodName)) hown (mvT hZ (hw _ (List.mem_of_getElem? (i := 0) rfl))) (mvT hZ (hw _ (List.mem_of_getElem? (i := 1) rfl))) (mvT hZ (hw _ (List.mem_of_getElem? (i := 2) rfl))) (mvT hZ (hw _ (List.mem_of_getElem? (i := 3) rfl))) (by decide) (backOf (W := 0) (own_rmM l Z a0 hw [] (2 : Int32) (3 : Int32) (2 : Int32) h0 n0 Z0 (by decide)) hZ (hw _ (List.mem_of_getElem? (i := 3) rfl)) (hw _ (List.mem_of_getElem? (i := 2) rfl)) (by decide) (by decide)) (g := (mkF m 49 #[.val (.int p1), .val (.int p2), .val (.int (1 : Int32)), .val (.int v166), .val (.int (2 : Int32)), .unset, .unset, .unset] [(.int (3 : Int32)), (.int (2 : Int32))])) rfl (by rw [hml]; rfl) (argsL := [(.int (2 : Int32)), (.int (3 : Int32))]) (rest := []) (lenOf own_pd__II_I rfl) rfl (by show 2 * 0 + _ ≤ _; exact Nat.le_of_eq rfl) (hb hby at_49) (fun _ _ => ⟨rfl, eq222, (by decide : 0 + 0 ≤ _), (by decide : 0 + 0 ≤ _)⟩)
          dsimp only [Pt.U, Pt.locs, Pt.cells, Pt.slots] at X223 l223 y223 z223 st223 hQ223
          subst l223 y223 z223
          obtain ⟨rfl, Nq223, eq223⟩ := hQ223
          have N223 := Fr.app N222 Nq223
          refine own_st st223 ?_
          show own_Go p.tables e below RR (T223.setTop (mkF m 52 #[.val (.int p1), .val (.int p2), .val (.int (1 : Int32)), .val (.int v166), .val (.int (2 : Int32)), .unset, .unset, .unset] [(.int (2 : Int32))]))
          refine own_st (fun _ k => XS.istore X223.here hx rfl (hb hby at_52) rfl (l' := #[.val (.int p1), .val (.int p2), .val (.int (1 : Int32)), .val (.int v166), .val (.int (2 : Int32)), .unset, .unset, .unset]) rfl (XS.iconst X223.here hx rfl (hb hby at_54) k)) ?_
          show own_Go p.tables e below RR (T223.setTop (mkF m 55 #[.val (.int p1), .val (.int p2), .val (.int (1 : Int32)), .val (.int v166), .val (.int (2 : Int32)), .unset, .unset, .unset] [(.int (3 : Int32))]))
          obtain ⟨T224, h224, k224, X224, e224, E224, A224, O224, st224⟩ := newR X223 hx hZ hown (hw _ (List.mem_of_getElem? (i := 4) rfl)) (hw _ (List.mem_of_getElem? (i := 5) rfl)) eq223 (g := (mkF m 55 #[.val (.int p1), .val (.int p2), .val (.int (1 : Int32)), .val (.int v166), .val (.int (2 : Int32)), .unset, .unset, .unset] [(.int (3 : Int32))])) rfl (hb hby at_55) rfl (by decide) (cap := 3) (by decide) (by decide) (by decide) (by decide)
          obtain ⟨b224, gb224⟩ : ∃ z, z = h0.size := ⟨_, rfl⟩
          rw [← gb224] at A224 st224
          have ge224 : n0 ≤ b224 := Nat.le_trans Z0 (Nat.le_of_eq gb224.symm)
          refine own_st st224 ?_
          have z225 : n0 ≤ h224.size := Nat.le_trans Z0 E224.1
          have V224 : Arv Z h224 b224 k224 (.object "com/example/powderhorn/powderhorn/rules/escarmouche/Initiative") (3 : Int32) [.null, .null, .null] .null := (Arv.new A224 (by decide)).pad (pad_rep [] .null 3)
          show own_Go p.tables e below RR (T224.setTop (mkF m 58 #[.val (.int p1), .val (.int p2), .val (.int (1 : Int32)), .val (.int v166), .val (.int (2 : Int32)), .unset, .unset, .unset] [(.ref b224)]))
          refine own_st (fun _ k => XS.dup X224.here hx rfl (hb hby at_58) rfl rfl (XS.iconst X224.here hx rfl (hb hby at_59) k)) ?_
          show own_Go p.tables e below RR (T224.setTop (mkF m 60 #[.val (.int p1), .val (.int p2), .val (.int (1 : Int32)), .val (.int v166), .val (.int (2 : Int32)), .unset, .unset, .unset] [(.int (0 : Int32)), (.ref b224), (.ref b224)]))
          have f226 := (S_KEEP.ext E224)
          obtain ⟨T227, X227, e227, st227⟩ := getS2 X224 hx hZ hown (host := "") (Or.inl (hw _ (List.mem_of_getElem? (i := 6) rfl))) Via.refl e224 f226 (g := (mkF m 60 #[.val (.int p1), .val (.int p2), .val (.int (1 : Int32)), .val (.int v166), .val (.int (2 : Int32)), .unset, .unset, .unset] [(.int (0 : Int32)), (.ref b224), (.ref b224)])) rfl (hb hby at_60)
          refine own_st st227 ?_
          show own_Go p.tables e below RR (T227.setTop (mkF m 63 #[.val (.int p1), .val (.int p2), .val (.int (1 : Int32)), .val (.int v166), .val (.int (2 : Int32)), .unset, .unset, .unset] [(.ref a_KEEP), (.int (0 : Int32)), (.ref b224), (.ref b224)]))
          obtain ⟨c228, A228, q228, s228, m228, H228, G228⟩ := id V224
          have f229 := (E_KEEP.ext E224)
          obtain ⟨T230, h230, X230, e230, W230, st230⟩ := stR X227 hx hZ e227 A228 (j := (0 : Int32)) (inb_of s228 ⟨by decide, by decide⟩) rfl (Sto.ofV A228 q228 O224 (Ins.self f229)) (g := (mkF m 63 #[.val (.int p1), .val (.int p2), .val (.int (1 : Int32)), .val (.int v166), .val (.int (2 : Int32)), .unset, .unset, .unset] [(.ref a_KEEP), (.int (0 : Int32)), (.ref b224), (.ref b224)])) rfl rfl (hb hby at_63)
          have V230 := Arv.set A228 q228 s228 m228 H228 G228 rfl W230 0 rfl (Nat.le_of_ble_eq_true rfl)
          have V230 : Arv Z h230 b224 k224 (.object "com/example/powderhorn/powderhorn/rules/escarmouche/Initiative") (3 : Int32) [(.ref a_KEEP), .null, .null] .null := V230
          have N230 := Fr.snoc X230 N223 ge224
          refine own_st st230 ?_
          have z231 : n0 ≤ h230.size := Nat.le_trans z225 (Keep.of_wr W230).1
          show own_Go p.tables e below RR (T230.setTop (mkF m 64 #[.val (.int p1), .val (.int p2), .val (.int (1 : Int32)), .val (.int v166), .val (.int (2 : Int32)), .unset, .unset, .unset] [(.ref b224)]))
          refine own_st (fun _ k => XS.dup X230.here hx rfl (hb hby at_64) rfl rfl (XS.iconst X230.here hx rfl (hb hby at_65) k)) ?_
          show own_Go p.tables e below RR (T230.setTop (mkF m 66 #[.val (.int p1), .val (.int p2), .val (.int (1 : Int32)), .val (.int v166), .val (.int (2 : Int32)), .unset, .unset, .unset] [(.int (1 : Int32)), (.ref b224), (.ref b224)]))
          have f232 := ((S_FIGURE_ENDS.ext E224).wr W230)
          obtain ⟨T233, X233, e233, st233⟩ := getS2 X230 hx hZ hown (host := "") (Or.inl (hw _ (List.mem_of_getElem? (i := 10) rfl))) Via.refl e230 f232 (g := (mkF m 66 #[.val (.int p1), .val (.int p2), .val (.int (1 : Int32)), .val (.int v166), .val (.int (2 : Int32)), .unset, .unset, .unset] [(.int (1 : Int32)), (.ref b224), (.ref b224)])) rfl (hb hby at_66)
          refine own_st st233 ?_
          show own_Go p.tables e below RR (T233.setTop (mkF m 69 #[.val (.int p1), .val (.int p2), .val (.int (1 : Int32)), .val (.int v166), .val (.int (2 : Int32)), .unset, .unset, .unset] [(.ref a_FIGURE_ENDS), (.int (1 : Int32)), (.ref b224), (.ref b224)]))
          obtain ⟨c234, A234, q234, s234, m234, H234, G234⟩ := id V230
          have f235 := ((E_FIGURE_ENDS.ext E224).wr W230)
          obtain ⟨T236, h236, X236, e236, W236, st236⟩ := stR X233 hx hZ e233 A234 (j := (1 : Int32)) (inb_of s234 ⟨by decide, by decide⟩) rfl (Sto.ofV A234 q234 O224 (Ins.self f235)) (g := (mkF m 69 #[.val (.int p1), .val (.int p2), .val (.int (1 : Int32)), .val (.int v166), .val (.int (2 : Int32)), .unset, .unset, .unset] [(.ref a_FIGURE_ENDS), (.int (1 : Int32)), (.ref b224), (.ref b224)])) rfl rfl (hb hby at_69)
          have V236 := Arv.set A234 q234 s234 m234 H234 G234 rfl W236 1 rfl (Nat.le_of_ble_eq_true rfl)
          have V236 : Arv Z h236 b224 k224 (.object "com/example/powderhorn/powderhorn/rules/escarmouche/Initiative") (3 : Int32) [(.ref a_KEEP), (.ref a_FIGURE_ENDS), .null] .null := V236
          have N236 := Fr.snoc X236 N230 ge224
          refine own_st st236 ?_
          have z237 : n0 ≤ h236.size := Nat.le_trans z231 (Keep.of_wr W236).1
          show own_Go p.tables e below RR (T236.setTop (mkF m 70 #[.val (.int p1), .val (.int p2), .val (.int (1 : Int32)), .val (.int v166), .val (.int (2 : Int32)), .unset, .unset, .unset] [(.ref b224)]))
          refine own_st (fun _ k => XS.dup X236.here hx rfl (hb hby at_70) rfl rfl (XS.iconst X236.here hx rfl (hb hby at_71) k)) ?_
          show own_Go p.tables e below RR (T236.setTop (mkF m 72 #[.val (.int p1), .val (.int p2), .val (.int (1 : Int32)), .val (.int v166), .val (.int (2 : Int32)), .unset, .unset, .unset] [(.int (2 : Int32)), (.ref b224), (.ref b224)]))
          have f238 := (((S_SIDE_ENDS.ext E224).wr W230).wr W236)
          obtain ⟨T239, X239, e239, st239⟩ := getS2 X236 hx hZ hown (host := "") (Or.inl (hw _ (List.mem_of_getElem? (i := 12) rfl))) Via.refl e236 f238 (g := (mkF m 72 #[.val (.int p1), .val (.int p2), .val (.int (1 : Int32)), .val (.int v166), .val (.int (2 : Int32)), .unset, .unset, .unset] [(.int (2 : Int32)), (.ref b224), (.ref b224)])) rfl (hb hby at_72)
          refine own_st st239 ?_
          show own_Go p.tables e below RR (T239.setTop (mkF m 75 #[.val (.int p1), .val (.int p2), .val (.int (1 : Int32)), .val (.int v166), .val (.int (2 : Int32)), .unset, .unset, .unset] [(.ref a_SIDE_ENDS), (.int (2 : Int32)), (.ref b224), (.ref b224)]))
          obtain ⟨c240, A240, q240, s240, m240, H240, G240⟩ := id V236
          have f241 := (((E_SIDE_ENDS.ext E224).wr W230).wr W236)
          obtain ⟨T242, h242, X242, e242, W242, st242⟩ := stR X239 hx hZ e239 A240 (j := (2 : Int32)) (inb_of s240 ⟨by decide, by decide⟩) rfl (Sto.ofV A240 q240 O224 (Ins.self f241)) (g := (mkF m 75 #[.val (.int p1), .val (.int p2), .val (.int (1 : Int32)), .val (.int v166), .val (.int (2 : Int32)), .unset, .unset, .unset] [(.ref a_SIDE_ENDS), (.int (2 : Int32)), (.ref b224), (.ref b224)])) rfl rfl (hb hby at_75)
          have V242 := Arv.set A240 q240 s240 m240 H240 G240 rfl W242 2 rfl (Nat.le_of_ble_eq_true rfl)
          have V242 : Arv Z h242 b224 k224 (.object "com/example/powderhorn/powderhorn/rules/escarmouche/Initiative") (3 : Int32) [(.ref a_KEEP), (.ref a_FIGURE_ENDS), (.ref a_SIDE_ENDS)] .null := V242
          have N242 := Fr.snoc X242 N236 ge224
          refine own_st st242 ?_
          have z243 : n0 ≤ h242.size := Nat.le_trans z237 (Keep.of_wr W242).1
          show own_Go p.tables e below RR (T242.setTop (mkF m 76 #[.val (.int p1), .val (.int p2), .val (.int (1 : Int32)), .val (.int v166), .val (.int (2 : Int32)), .unset, .unset, .unset] [(.ref b224)]))
          refine own_st (fun _ k => XS.astore X242.here hx rfl (hb hby at_76) rfl rfl (l' := #[.val (.int p1), .val (.int p2), .val (.int (1 : Int32)), .val (.int v166), .val (.int (2 : Int32)), .val (.ref b224), .unset, .unset]) rfl (XS.aload X242.here hx rfl (hb hby at_78) rfl rfl (XS.iload X242.here hx rfl (hb hby at_80) rfl k))) ?_
          show own_Go p.tables e below RR (T242.setTop (mkF m 82 #[.val (.int p1), .val (.int p2), .val (.int (1 : Int32)), .val (.int v166), .val (.int (2 : Int32)), .val (.ref b224), .unset, .unset] [(.int (2 : Int32)), (.ref b224)]))
          obtain ⟨c244, A244, q244, s244, m244, H244, G244⟩ := id V242
          have b244 := inb_of (j := (2 : Int32)) s244 ⟨by decide, by decide⟩
          refine own_st (fun _ k => X242.aaload hx (j := (2 : Int32)) (v := (.ref a_SIDE_ENDS)) (by rw [e242]; exact A244.1) (State.isArrayOf_alike hZ.alike A244.2.1) rfl A244.2.2 b244 (Has.at H244 b244 rfl) (g := (mkF m 82 #[.val (.int p1), .val (.int p2), .val (.int (1 : Int32)), .val (.int v166), .val (.int (2 : Int32)), .val (.ref b224), .unset, .unset] [(.int (2 : Int32)), (.ref b224)])) rfl rfl (hb hby at_82) _ (XS.astore X242.here hx rfl (hb hby at_83) rfl rfl (l' := #[.val (.int p1), .val (.int p2), .val (.int (1 : Int32)), .val (.int v166), .val (.int (2 : Int32)), .val (.ref b224), .val (.ref a_SIDE_ENDS), .unset]) rfl (XS.iloadN X242.here hx rfl (hb hby at_85) rfl (XS.iloadN X242.here hx rfl (hb hby at_86) rfl k)))) ?_
          show own_Go p.tables e below RR (T242.setTop (mkF m 87 #[.val (.int p1), .val (.int p2), .val (.int (1 : Int32)), .val (.int v166), .val (.int (2 : Int32)), .val (.ref b224), .val (.ref a_SIDE_ENDS), .unset] [(.int (1 : Int32)), (.int v166)]))
          have f245 := (((f226.wr W230).wr W236).wr W242)
          have f246 := ((f232.wr W236).wr W242)
          have f247 := (f238.wr W242)
          obtain ⟨_, _, ⟨T248, L248, k248, n248⟩, -, X248, ⟨Lc248, hQ248, l248, y248, z248⟩, st248⟩ := Jvm.LawKit.callS X242 hx (y := (⟨"com/example/powderhorn/powderhorn/rules/escarmouche/Initiative", "after", "(IZ)Lcom/example/powderhorn/powderhorn/rules/escarmouche/Initiative;"⟩ : MethodName)) hown (mvT hZ (hw _ (List.mem_of_getElem? (i := 14) rfl))) (mvT hZ (hw _ (List.mem_of_getElem? (i := 15) rfl))) (mvT hZ (hw _ (List.mem_of_getElem? (i := 7) rfl))) (mvT hZ (hw _ (List.mem_of_getElem? (i := 16) rfl))) (by decide) (backOf (W := 0) (own_rmA l Z a0 hw [] v166 (1 : Int32) a_KEEP a_FIGURE_ENDS a_SIDE_ENDS a_SIDE_ENDS h242 n0 z243 f245 f246 f247 (by simp [ho167, ho168])) hZ (hw _ (List.mem_of_getElem? (i := 16) rfl)) (hw _ (List.mem_of_getElem? (i := 7) rfl)) (by decide) (by decide)) (g := (mkF m 87 #[.val (.int p1), .val (.int p2), .val (.int (1 : Int32)), .val (.int v166), .val (.int (2 : Int32)), .val (.ref b224), .val (.ref a_SIDE_ENDS), .unset] [(.int (1 : Int32)), (.int v166)])) rfl (by rw [hml]; rfl) (argsL := [(.int v166), (.int (1 : Int32))]) (rest := []) (lenOf own_pd__IZ_Lcom_example_powderhorn_powderhorn_rules_escarmouche_Initiative_ rfl) rfl (by show 2 * 0 + _ ≤ _; exact Nat.le_of_eq rfl) (hb hby at_87) (fun _ _ => ⟨rfl, e242, (by decide : 1 + 0 ≤ _), (by decide : 3 + 0 ≤ _)⟩)
          dsimp only [Pt.U, Pt.locs, Pt.cells, Pt.slots] at X248 l248 y248 z248 st248 hQ248
          subst l248 y248 z248
          obtain ⟨rfl, Nq248, eq248⟩ := hQ248
          have N248 := Fr.app N242 Nq248
          refine own_st st248 ?_
          show own_Go p.tables e below RR (T248.setTop (mkF m 90 #[.val (.int p1), .val (.int p2), .val (.int (1 : Int32)), .val (.int v166), .val (.int (2 : Int32)), .val (.ref b224), .val (.ref a_SIDE_ENDS), .unset] [(.ref a_SIDE_ENDS)]))
          refine own_st (fun _ k => XS.astore X248.here hx rfl (hb hby at_90) rfl rfl (l' := #[.val (.int p1), .val (.int p2), .val (.int (1 : Int32)), .val (.int v166), .val (.int (2 : Int32)), .val (.ref b224), .val (.ref a_SIDE_ENDS), .val (.ref a_SIDE_ENDS)]) rfl (XS.aload X248.here hx rfl (hb hby at_92) rfl rfl (XS.aload X248.here hx rfl (hb hby at_94) rfl rfl k))) ?_
          show own_Go p.tables e below RR (T248.setTop (mkF m 96 #[.val (.int p1), .val (.int p2), .val (.int (1 : Int32)), .val (.int v166), .val (.int (2 : Int32)), .val (.ref b224), .val (.ref a_SIDE_ENDS), .val (.ref a_SIDE_ENDS)] [(.ref a_SIDE_ENDS), (.ref a_SIDE_ENDS)]))
          refine own_st (fun _ k => Jvm.RoadKit.acmp (g := (mkF m 96 #[.val (.int p1), .val (.int p2), .val (.int (1 : Int32)), .val (.int v166), .val (.int (2 : Int32)), .val (.ref b224), .val (.ref a_SIDE_ENDS), .val (.ref a_SIDE_ENDS)] [(.ref a_SIDE_ENDS), (.ref a_SIDE_ENDS)])) X248 hx rfl rfl rfl (pc0 := 96) (pc' := 99) (same := true) rfl (hb hby at_96) rfl (decide_eq_true rfl) (by decide) (by decide) (XS.iconst X248.here hx rfl (hb hby at_99) (XS.goto X248.here hx rfl (pc0 := 100) (pc' := 104) rfl (hb hby at_100) (by decide) (by decide) k))) ?_
          show own_Go p.tables e below RR (T248.setTop (mkF m 104 #[.val (.int p1), .val (.int p2), .val (.int (1 : Int32)), .val (.int v166), .val (.int (2 : Int32)), .val (.ref b224), .val (.ref a_SIDE_ENDS), .val (.ref a_SIDE_ENDS)] [(.int (1 : Int32))]))
          obtain ⟨fs, hrt_, hrun, hended, hW, hsame⟩ := X248.leave (v := some (.int (1 : Int32))) (fun h => by rw [Bd.returns] at h; cases h)
          refine own_fin (retN X248 hx (t := .boolean) Bd.returns (by simp) (hb hby at_104) hrt_) (hRR _ ⟨_, hrun, hended, _, _, rfl, ?_, ⟨_, rfl⟩, hW, hsame.mono (by decide) (by decide)⟩)
          show own_Q0 Z p1 p2 a_KEEP a_FIGURE_ENDS a_SIDE_ENDS h0 n0 _ T248.heap _
          rw [eq248]
          exact ⟨rfl, N248⟩
    · refine own_st (fun _ k => XS.ifNo X0.here hx rfl (hb hby at_15) rfl ((if0 _ _).trans (feq hc15_165).1) (XS.iloadN X0.here hx rfl (hb hby at_18) rfl (XS.iconst X0.here hx rfl (hb hby at_19) (XS.iand X0.here hx rfl (hb hby at_20) rfl k)))) ?_
      show own_Go p.tables e below RR (s₁.setTop (mkF m 21 #[.val (.int p1), .val (.int p2), .val (.int (1 : Int32)), .unset, .unset, .unset, .unset, .unset] [(.int (p1 &&& (3 : Int32)))]))
      generalize gv249 : (p1 &&& (3 : Int32)) = v249
      show own_Go p.tables e below RR (s₁.setTop (mkF m 21 #[.val (.int p1), .val (.int p2), .val (.int (1 : Int32)), .unset, .unset, .unset, .unset, .unset] [(.int v249)]))
      refine own_st (fun _ k => XS.goto X0.here hx rfl (pc0 := 21) (pc' := 28) rfl (hb hby at_21) (by decide) (by decide) (XS.istoreN X0.here hx rfl (hb hby at_28) rfl (l' := #[.val (.int p1), .val (.int p2), .val (.int (1 : Int32)), .val (.int v249), .unset, .unset, .unset, .unset]) rfl k)) ?_
      show own_Go p.tables e below RR (s₁.setTop (mkF m 29 #[.val (.int p1), .val (.int p2), .val (.int (1 : Int32)), .val (.int v249), .unset, .unset, .unset, .unset] []))
      show own_Go p.tables e below RR (s₁.setTop (mkF m 29 #[.val (.int p1), .val (.int p2), .val (.int (1 : Int32)), .val (.int v249), .unset, .unset, .unset, .unset] []))
      by_cases ho250 : v249 = (0 : Int32)
      · subst ho250
        show own_Go p.tables e below RR (s₁.setTop (mkF m 29 #[.val (.int p1), .val (.int p2), .val (.int (1 : Int32)), .val (.int (0 : Int32)), .unset, .unset, .unset, .unset] []))
        show own_Go p.tables e below RR (s₁.setTop (mkF m 29 #[.val (.int p1), .val (.int p2), .val (.int (1 : Int32)), .val (.int (0 : Int32)), .unset, .unset, .unset, .unset] []))
        refine own_st (fun _ k => XS.iconst X0.here hx rfl (hb hby at_29) (XS.iloadN X0.here hx rfl (hb hby at_30) rfl k)) ?_
        show own_Go p.tables e below RR (s₁.setTop (mkF m 31 #[.val (.int p1), .val (.int p2), .val (.int (1 : Int32)), .val (.int (0 : Int32)), .unset, .unset, .unset, .unset] [(.int (0 : Int32)), (.int (2 : Int32))]))
        obtain ⟨_, _, ⟨T252, L252, k252, n252⟩, -, X252, ⟨Lc252, hQ252, l252, y252, z252⟩, st252⟩ := Jvm.LawKit.callS X0 hx (y := (⟨"java/lang/Math", "min", "(II)I"⟩ : MethodName)) hown (mvT hZ (hw _ (List.mem_of_getElem? (i := 0) rfl))) (mvT hZ (hw _ (List.mem_of_getElem? (i := 1) rfl))) (mvT hZ (hw _ (List.mem_of_getElem? (i := 2) rfl))) (mvT hZ (hw _ (List.mem_of_getElem? (i := 3) rfl))) (by decide) (backOf (W := 0) (own_rmM l Z a0 hw [] (2 : Int32) (0 : Int32) (0 : Int32) h0 n0 Z0 (by decide)) hZ (hw _ (List.mem_of_getElem? (i := 3) rfl)) (hw _ (List.mem_of_getElem? (i := 2) rfl)) (by decide) (by decide)) (g := (mkF m 31 #[.val (.int p1), .val (.int p2), .val (.int (1 : Int32)), .val (.int (0 : Int32)), .unset, .unset, .unset, .unset] [(.int (0 : Int32)), (.int (2 : Int32))])) rfl (by rw [hml]; rfl) (argsL := [(.int (2 : Int32)), (.int (0 : Int32))]) (rest := []) (lenOf own_pd__II_I rfl) rfl (by show 2 * 0 + _ ≤ _; exact Nat.le_of_eq rfl) (hb hby at_31) (fun _ _ => ⟨rfl, e0, (by decide : 0 + 0 ≤ _), (by decide : 0 + 0 ≤ _)⟩)
        dsimp only [Pt.U, Pt.locs, Pt.cells, Pt.slots] at X252 l252 y252 z252 st252 hQ252
        subst l252 y252 z252
        obtain ⟨rfl, Nq252, eq252⟩ := hQ252
        have N252 := Fr.app N0 Nq252
        refine own_st st252 ?_
        show own_Go p.tables e below RR (T252.setTop (mkF m 34 #[.val (.int p1), .val (.int p2), .val (.int (1 : Int32)), .val (.int (0 : Int32)), .unset, .unset, .unset, .unset] [(.int (0 : Int32))]))
        refine own_st (fun _ k => XS.istore X252.here hx rfl (hb hby at_34) rfl (l' := #[.val (.int p1), .val (.int p2), .val (.int (1 : Int32)), .val (.int (0 : Int32)), .val (.int (0 : Int32)), .unset, .unset, .unset]) rfl (XS.iloadN X252.here hx rfl (hb hby at_36) rfl k)) ?_
        show own_Go p.tables e below RR (T252.setTop (mkF m 37 #[.val (.int p1), .val (.int p2), .val (.int (1 : Int32)), .val (.int (0 : Int32)), .val (.int (0 : Int32)), .unset, .unset, .unset] [(.int (1 : Int32))]))
        refine own_st (fun _ k => XS.ifNo X252.here hx rfl (hb hby at_37) rfl ((if0 _ _).trans (feq (by decide)).1) (XS.iloadN X252.here hx rfl (hb hby at_40) rfl k)) ?_
        show own_Go p.tables e below RR (T252.setTop (mkF m 41 #[.val (.int p1), .val (.int p2), .val (.int (1 : Int32)), .val (.int (0 : Int32)), .val (.int (0 : Int32)), .unset, .unset, .unset] [(.int (0 : Int32))]))
        refine own_st (fun _ k => XS.ifYes X252.here hx rfl (pc0 := 41) (pc' := 54) rfl (hb hby at_41) rfl ((if0 _ _).trans (flt (by decide)).2.2.2) (by decide) (by decide) (XS.iconst X252.here hx rfl (hb hby at_54) k)) ?_
        show own_Go p.tables e below RR (T252.setTop (mkF m 55 #[.val (.int p1), .val (.int p2), .val (.int (1 : Int32)), .val (.int (0 : Int32)), .val (.int (0 : Int32)), .unset, .unset, .unset] [(.int (3 : Int32))]))
        obtain ⟨T253, h253, k253, X253, e253, E253, A253, O253, st253⟩ := newR X252 hx hZ hown (hw _ (List.mem_of_getElem? (i := 4) rfl)) (hw _ (List.mem_of_getElem? (i := 5) rfl)) eq252 (g := (mkF m 55 #[.val (.int p1), .val (.int p2), .val (.int (1 : Int32)), .val (.int (0 : Int32)), .val (.int (0 : Int32)), .unset, .unset, .unset] [(.int (3 : Int32))])) rfl (hb hby at_55) rfl (by decide) (cap := 3) (by decide) (by decide) (by decide) (by decide)
        obtain ⟨b253, gb253⟩ : ∃ z, z = h0.size := ⟨_, rfl⟩
        rw [← gb253] at A253 st253
        have ge253 : n0 ≤ b253 := Nat.le_trans Z0 (Nat.le_of_eq gb253.symm)
        refine own_st st253 ?_
        have z254 : n0 ≤ h253.size := Nat.le_trans Z0 E253.1
        have V253 : Arv Z h253 b253 k253 (.object "com/example/powderhorn/powderhorn/rules/escarmouche/Initiative") (3 : Int32) [.null, .null, .null] .null := (Arv.new A253 (by decide)).pad (pad_rep [] .null 3)
        show own_Go p.tables e below RR (T253.setTop (mkF m 58 #[.val (.int p1), .val (.int p2), .val (.int (1 : Int32)), .val (.int (0 : Int32)), .val (.int (0 : Int32)), .unset, .unset, .unset] [(.ref b253)]))
        refine own_st (fun _ k => XS.dup X253.here hx rfl (hb hby at_58) rfl rfl (XS.iconst X253.here hx rfl (hb hby at_59) k)) ?_
        show own_Go p.tables e below RR (T253.setTop (mkF m 60 #[.val (.int p1), .val (.int p2), .val (.int (1 : Int32)), .val (.int (0 : Int32)), .val (.int (0 : Int32)), .unset, .unset, .unset] [(.int (0 : Int32)), (.ref b253), (.ref b253)]))
        have f255 := (S_KEEP.ext E253)
        obtain ⟨T256, X256, e256, st256⟩ := getS2 X253 hx hZ hown (host := "") (Or.inl (hw _ (List.mem_of_getElem? (i := 6) rfl))) Via.refl e253 f255 (g := (mkF m 60 #[.val (.int p1), .val (.int p2), .val (.int (1 : Int32)), .val (.int (0 : Int32)), .val (.int (0 : Int32)), .unset, .unset, .unset] [(.int (0 : Int32)), (.ref b253), (.ref b253)])) rfl (hb hby at_60)
        refine own_st st256 ?_
        show own_Go p.tables e below RR (T256.setTop (mkF m 63 #[.val (.int p1), .val (.int p2), .val (.int (1 : Int32)), .val (.int (0 : Int32)), .val (.int (0 : Int32)), .unset, .unset, .unset] [(.ref a_KEEP), (.int (0 : Int32)), (.ref b253), (.ref b253)]))
        obtain ⟨c257, A257, q257, s257, m257, H257, G257⟩ := id V253
        have f258 := (E_KEEP.ext E253)
        obtain ⟨T259, h259, X259, e259, W259, st259⟩ := stR X256 hx hZ e256 A257 (j := (0 : Int32)) (inb_of s257 ⟨by decide, by decide⟩) rfl (Sto.ofV A257 q257 O253 (Ins.self f258)) (g := (mkF m 63 #[.val (.int p1), .val (.int p2), .val (.int (1 : Int32)), .val (.int (0 : Int32)), .val (.int (0 : Int32)), .unset, .unset, .unset] [(.ref a_KEEP), (.int (0 : Int32)), (.ref b253), (.ref b253)])) rfl rfl (hb hby at_63)
        have V259 := Arv.set A257 q257 s257 m257 H257 G257 rfl W259 0 rfl (Nat.le_of_ble_eq_true rfl)
        have V259 : Arv Z h259 b253 k253 (.object "com/example/powderhorn/powderhorn/rules/escarmouche/Initiative") (3 : Int32) [(.ref a_KEEP), .null, .null] .null := V259
        have N259 := Fr.snoc X259 N252 ge253
        refine own_st st259 ?_
        have z260 : n0 ≤ h259.size := Nat.le_trans z254 (Keep.of_wr W259).1
        show own_Go p.tables e below RR (T259.setTop (mkF m 64 #[.val (.int p1), .val (.int p2), .val (.int (1 : Int32)), .val (.int (0 : Int32)), .val (.int (0 : Int32)), .unset, .unset, .unset] [(.ref b253)]))
        refine own_st (fun _ k => XS.dup X259.here hx rfl (hb hby at_64) rfl rfl (XS.iconst X259.here hx rfl (hb hby at_65) k)) ?_
        show own_Go p.tables e below RR (T259.setTop (mkF m 66 #[.val (.int p1), .val (.int p2), .val (.int (1 : Int32)), .val (.int (0 : Int32)), .val (.int (0 : Int32)), .unset, .unset, .unset] [(.int (1 : Int32)), (.ref b253), (.ref b253)]))
        have f261 := ((S_FIGURE_ENDS.ext E253).wr W259)
        obtain ⟨T262, X262, e262, st262⟩ := getS2 X259 hx hZ hown (host := "") (Or.inl (hw _ (List.mem_of_getElem? (i := 10) rfl))) Via.refl e259 f261 (g := (mkF m 66 #[.val (.int p1), .val (.int p2), .val (.int (1 : Int32)), .val (.int (0 : Int32)), .val (.int (0 : Int32)), .unset, .unset, .unset] [(.int (1 : Int32)), (.ref b253), (.ref b253)])) rfl (hb hby at_66)
        refine own_st st262 ?_
        show own_Go p.tables e below RR (T262.setTop (mkF m 69 #[.val (.int p1), .val (.int p2), .val (.int (1 : Int32)), .val (.int (0 : Int32)), .val (.int (0 : Int32)), .unset, .unset, .unset] [(.ref a_FIGURE_ENDS), (.int (1 : Int32)), (.ref b253), (.ref b253)]))
        obtain ⟨c263, A263, q263, s263, m263, H263, G263⟩ := id V259
        have f264 := ((E_FIGURE_ENDS.ext E253).wr W259)
        obtain ⟨T265, h265, X265, e265, W265, st265⟩ := stR X262 hx hZ e262 A263 (j := (1 : Int32)) (inb_of s263 ⟨by decide, by decide⟩) rfl (Sto.ofV A263 q263 O253 (Ins.self f264)) (g := (mkF m 69 #[.val (.int p1), .val (.int p2), .val (.int (1 : Int32)), .val (.int (0 : Int32)), .val (.int (0 : Int32)), .unset, .unset, .unset] [(.ref a_FIGURE_ENDS), (.int (1 : Int32)), (.ref b253), (.ref b253)])) rfl rfl (hb hby at_69)
        have V265 := Arv.set A263 q263 s263 m263 H263 G263 rfl W265 1 rfl (Nat.le_of_ble_eq_true rfl)
        have V265 : Arv Z h265 b253 k253 (.object "com/example/powderhorn/powderhorn/rules/escarmouche/Initiative") (3 : Int32) [(.ref a_KEEP), (.ref a_FIGURE_ENDS), .null] .null := V265
        have N265 := Fr.snoc X265 N259 ge253
        refine own_st st265 ?_
        have z266 : n0 ≤ h265.size := Nat.le_trans z260 (Keep.of_wr W265).1
        show own_Go p.tables e below RR (T265.setTop (mkF m 70 #[.val (.int p1), .val (.int p2), .val (.int (1 : Int32)), .val (.int (0 : Int32)), .val (.int (0 : Int32)), .unset, .unset, .unset] [(.ref b253)]))
        refine own_st (fun _ k => XS.dup X265.here hx rfl (hb hby at_70) rfl rfl (XS.iconst X265.here hx rfl (hb hby at_71) k)) ?_
        show own_Go p.tables e below RR (T265.setTop (mkF m 72 #[.val (.int p1), .val (.int p2), .val (.int (1 : Int32)), .val (.int (0 : Int32)), .val (.int (0 : Int32)), .unset, .unset, .unset] [(.int (2 : Int32)), (.ref b253), (.ref b253)]))
        have f267 := (((S_SIDE_ENDS.ext E253).wr W259).wr W265)
        obtain ⟨T268, X268, e268, st268⟩ := getS2 X265 hx hZ hown (host := "") (Or.inl (hw _ (List.mem_of_getElem? (i := 12) rfl))) Via.refl e265 f267 (g := (mkF m 72 #[.val (.int p1), .val (.int p2), .val (.int (1 : Int32)), .val (.int (0 : Int32)), .val (.int (0 : Int32)), .unset, .unset, .unset] [(.int (2 : Int32)), (.ref b253), (.ref b253)])) rfl (hb hby at_72)
        refine own_st st268 ?_
        show own_Go p.tables e below RR (T268.setTop (mkF m 75 #[.val (.int p1), .val (.int p2), .val (.int (1 : Int32)), .val (.int (0 : Int32)), .val (.int (0 : Int32)), .unset, .unset, .unset] [(.ref a_SIDE_ENDS), (.int (2 : Int32)), (.ref b253), (.ref b253)]))
        obtain ⟨c269, A269, q269, s269, m269, H269, G269⟩ := id V265
        have f270 := (((E_SIDE_ENDS.ext E253).wr W259).wr W265)
        obtain ⟨T271, h271, X271, e271, W271, st271⟩ := stR X268 hx hZ e268 A269 (j := (2 : Int32)) (inb_of s269 ⟨by decide, by decide⟩) rfl (Sto.ofV A269 q269 O253 (Ins.self f270)) (g := (mkF m 75 #[.val (.int p1), .val (.int p2), .val (.int (1 : Int32)), .val (.int (0 : Int32)), .val (.int (0 : Int32)), .unset, .unset, .unset] [(.ref a_SIDE_ENDS), (.int (2 : Int32)), (.ref b253), (.ref b253)])) rfl rfl (hb hby at_75)
        have V271 := Arv.set A269 q269 s269 m269 H269 G269 rfl W271 2 rfl (Nat.le_of_ble_eq_true rfl)
        have V271 : Arv Z h271 b253 k253 (.object "com/example/powderhorn/powderhorn/rules/escarmouche/Initiative") (3 : Int32) [(.ref a_KEEP), (.ref a_FIGURE_ENDS), (.ref a_SIDE_ENDS)] .null := V271
        have N271 := Fr.snoc X271 N265 ge253
        refine own_st st271 ?_
        have z272 : n0 ≤ h271.size := Nat.le_trans z266 (Keep.of_wr W271).1
        show own_Go p.tables e below RR (T271.setTop (mkF m 76 #[.val (.int p1), .val (.int p2), .val (.int (1 : Int32)), .val (.int (0 : Int32)), .val (.int (0 : Int32)), .unset, .unset, .unset] [(.ref b253)]))
        refine own_st (fun _ k => XS.astore X271.here hx rfl (hb hby at_76) rfl rfl (l' := #[.val (.int p1), .val (.int p2), .val (.int (1 : Int32)), .val (.int (0 : Int32)), .val (.int (0 : Int32)), .val (.ref b253), .unset, .unset]) rfl (XS.aload X271.here hx rfl (hb hby at_78) rfl rfl (XS.iload X271.here hx rfl (hb hby at_80) rfl k))) ?_
        show own_Go p.tables e below RR (T271.setTop (mkF m 82 #[.val (.int p1), .val (.int p2), .val (.int (1 : Int32)), .val (.int (0 : Int32)), .val (.int (0 : Int32)), .val (.ref b253), .unset, .unset] [(.int (0 : Int32)), (.ref b253)]))
        obtain ⟨c273, A273, q273, s273, m273, H273, G273⟩ := id V271
        have b273 := inb_of (j := (0 : Int32)) s273 ⟨by decide, by decide⟩
        refine own_st (fun _ k => X271.aaload hx (j := (0 : Int32)) (v := (.ref a_KEEP)) (by rw [e271]; exact A273.1) (State.isArrayOf_alike hZ.alike A273.2.1) rfl A273.2.2 b273 (Has.at H273 b273 rfl) (g := (mkF m 82 #[.val (.int p1), .val (.int p2), .val (.int (1 : Int32)), .val (.int (0 : Int32)), .val (.int (0 : Int32)), .val (.ref b253), .unset, .unset] [(.int (0 : Int32)), (.ref b253)])) rfl rfl (hb hby at_82) _ (XS.astore X271.here hx rfl (hb hby at_83) rfl rfl (l' := #[.val (.int p1), .val (.int p2), .val (.int (1 : Int32)), .val (.int (0 : Int32)), .val (.int (0 : Int32)), .val (.ref b253), .val (.ref a_KEEP), .unset]) rfl (XS.iloadN X271.here hx rfl (hb hby at_85) rfl (XS.iloadN X271.here hx rfl (hb hby at_86) rfl k)))) ?_
        show own_Go p.tables e below RR (T271.setTop (mkF m 87 #[.val (.int p1), .val (.int p2), .val (.int (1 : Int32)), .val (.int (0 : Int32)), .val (.int (0 : Int32)), .val (.ref b253), .val (.ref a_KEEP), .unset] [(.int (1 : Int32)), (.int (0 : Int32))]))
        have f274 := (((f255.wr W259).wr W265).wr W271)
        have f275 := ((f261.wr W265).wr W271)
        have f276 := (f267.wr W271)
        obtain ⟨_, _, ⟨T277, L277, k277, n277⟩, -, X277, ⟨Lc277, hQ277, l277, y277, z277⟩, st277⟩ := Jvm.LawKit.callS X271 hx (y := (⟨"com/example/powderhorn/powderhorn/rules/escarmouche/Initiative", "after", "(IZ)Lcom/example/powderhorn/powderhorn/rules/escarmouche/Initiative;"⟩ : MethodName)) hown (mvT hZ (hw _ (List.mem_of_getElem? (i := 14) rfl))) (mvT hZ (hw _ (List.mem_of_getElem? (i := 15) rfl))) (mvT hZ (hw _ (List.mem_of_getElem? (i := 7) rfl))) (mvT hZ (hw _ (List.mem_of_getElem? (i := 16) rfl))) (by decide) (backOf (W := 0) (own_rmA l Z a0 hw [] (0 : Int32) (1 : Int32) a_KEEP a_FIGURE_ENDS a_SIDE_ENDS a_KEEP h271 n0 z272 f274 f275 f276 (by simp)) hZ (hw _ (List.mem_of_getElem? (i := 16) rfl)) (hw _ (List.mem_of_getElem? (i := 7) rfl)) (by decide) (by decide)) (g := (mkF m 87 #[.val (.int p1), .val (.int p2), .val (.int (1 : Int32)), .val (.int (0 : Int32)), .val (.int (0 : Int32)), .val (.ref b253), .val (.ref a_KEEP), .unset] [(.int (1 : Int32)), (.int (0 : Int32))])) rfl (by rw [hml]; rfl) (argsL := [(.int (0 : Int32)), (.int (1 : Int32))]) (rest := []) (lenOf own_pd__IZ_Lcom_example_powderhorn_powderhorn_rules_escarmouche_Initiative_ rfl) rfl (by show 2 * 0 + _ ≤ _; exact Nat.le_of_eq rfl) (hb hby at_87) (fun _ _ => ⟨rfl, e271, (by decide : 1 + 0 ≤ _), (by decide : 3 + 0 ≤ _)⟩)
        dsimp only [Pt.U, Pt.locs, Pt.cells, Pt.slots] at X277 l277 y277 z277 st277 hQ277
        subst l277 y277 z277
        obtain ⟨rfl, Nq277, eq277⟩ := hQ277
        have N277 := Fr.app N271 Nq277
        refine own_st st277 ?_
        show own_Go p.tables e below RR (T277.setTop (mkF m 90 #[.val (.int p1), .val (.int p2), .val (.int (1 : Int32)), .val (.int (0 : Int32)), .val (.int (0 : Int32)), .val (.ref b253), .val (.ref a_KEEP), .unset] [(.ref a_KEEP)]))
        refine own_st (fun _ k => XS.astore X277.here hx rfl (hb hby at_90) rfl rfl (l' := #[.val (.int p1), .val (.int p2), .val (.int (1 : Int32)), .val (.int (0 : Int32)), .val (.int (0 : Int32)), .val (.ref b253), .val (.ref a_KEEP), .val (.ref a_KEEP)]) rfl (XS.aload X277.here hx rfl (hb hby at_92) rfl rfl (XS.aload X277.here hx rfl (hb hby at_94) rfl rfl k))) ?_
        show own_Go p.tables e below RR (T277.setTop (mkF m 96 #[.val (.int p1), .val (.int p2), .val (.int (1 : Int32)), .val (.int (0 : Int32)), .val (.int (0 : Int32)), .val (.ref b253), .val (.ref a_KEEP), .val (.ref a_KEEP)] [(.ref a_KEEP), (.ref a_KEEP)]))
        refine own_st (fun _ k => Jvm.RoadKit.acmp (g := (mkF m 96 #[.val (.int p1), .val (.int p2), .val (.int (1 : Int32)), .val (.int (0 : Int32)), .val (.int (0 : Int32)), .val (.ref b253), .val (.ref a_KEEP), .val (.ref a_KEEP)] [(.ref a_KEEP), (.ref a_KEEP)])) X277 hx rfl rfl rfl (pc0 := 96) (pc' := 99) (same := true) rfl (hb hby at_96) rfl (decide_eq_true rfl) (by decide) (by decide) (XS.iconst X277.here hx rfl (hb hby at_99) (XS.goto X277.here hx rfl (pc0 := 100) (pc' := 104) rfl (hb hby at_100) (by decide) (by decide) k))) ?_
        show own_Go p.tables e below RR (T277.setTop (mkF m 104 #[.val (.int p1), .val (.int p2), .val (.int (1 : Int32)), .val (.int (0 : Int32)), .val (.int (0 : Int32)), .val (.ref b253), .val (.ref a_KEEP), .val (.ref a_KEEP)] [(.int (1 : Int32))]))
        obtain ⟨fs, hrt_, hrun, hended, hW, hsame⟩ := X277.leave (v := some (.int (1 : Int32))) (fun h => by rw [Bd.returns] at h; cases h)
        refine own_fin (retN X277 hx (t := .boolean) Bd.returns (by simp) (hb hby at_104) hrt_) (hRR _ ⟨_, hrun, hended, _, _, rfl, ?_, ⟨_, rfl⟩, hW, hsame.mono (by decide) (by decide)⟩)
        show own_Q0 Z p1 p2 a_KEEP a_FIGURE_ENDS a_SIDE_ENDS h0 n0 _ T277.heap _
        rw [eq277]
        exact ⟨rfl, N277⟩
      · by_cases ho251 : v249 = (1 : Int32)
        · subst ho251
          show own_Go p.tables e below RR (s₁.setTop (mkF m 29 #[.val (.int p1), .val (.int p2), .val (.int (1 : Int32)), .val (.int (1 : Int32)), .unset, .unset, .unset, .unset] []))
          show own_Go p.tables e below RR (s₁.setTop (mkF m 29 #[.val (.int p1), .val (.int p2), .val (.int (1 : Int32)), .val (.int (1 : Int32)), .unset, .unset, .unset, .unset] []))
          refine own_st (fun _ k => XS.iconst X0.here hx rfl (hb hby at_29) (XS.iloadN X0.here hx rfl (hb hby at_30) rfl k)) ?_
          show own_Go p.tables e below RR (s₁.setTop (mkF m 31 #[.val (.int p1), .val (.int p2), .val (.int (1 : Int32)), .val (.int (1 : Int32)), .unset, .unset, .unset, .unset] [(.int (1 : Int32)), (.int (2 : Int32))]))
          obtain ⟨_, _, ⟨T278, L278, k278, n278⟩, -, X278, ⟨Lc278, hQ278, l278, y278, z278⟩, st278⟩ := Jvm.LawKit.callS X0 hx (y := (⟨"java/lang/Math", "min", "(II)I"⟩ : MethodName)) hown (mvT hZ (hw _ (List.mem_of_getElem? (i := 0) rfl))) (mvT hZ (hw _ (List.mem_of_getElem? (i := 1) rfl))) (mvT hZ (hw _ (List.mem_of_getElem? (i := 2) rfl))) (mvT hZ (hw _ (List.mem_of_getElem? (i := 3) rfl))) (by decide) (backOf (W := 0) (own_rmM l Z a0 hw [] (2 : Int32) (1 : Int32) (1 : Int32) h0 n0 Z0 (by decide)) hZ (hw _ (List.mem_of_getElem? (i := 3) rfl)) (hw _ (List.mem_of_getElem? (i := 2) rfl)) (by decide) (by decide)) (g := (mkF m 31 #[.val (.int p1), .val (.int p2), .val (.int (1 : Int32)), .val (.int (1 : Int32)), .unset, .unset, .unset, .unset] [(.int (1 : Int32)), (.int (2 : Int32))])) rfl (by rw [hml]; rfl) (argsL := [(.int (2 : Int32)), (.int (1 : Int32))]) (rest := []) (lenOf own_pd__II_I rfl) rfl (by show 2 * 0 + _ ≤ _; exact Nat.le_of_eq rfl) (hb hby at_31) (fun _ _ => ⟨rfl, e0, (by decide : 0 + 0 ≤ _), (by decide : 0 + 0 ≤ _)⟩)
          dsimp only [Pt.U, Pt.locs, Pt.cells, Pt.slots] at X278 l278 y278 z278 st278 hQ278
          subst l278 y278 z278
          obtain ⟨rfl, Nq278, eq278⟩ := hQ278
          have N278 := Fr.app N0 Nq278
          refine own_st st278 ?_
          show own_Go p.tables e below RR (T278.setTop (mkF m 34 #[.val (.int p1), .val (.int p2), .val (.int (1 : Int32)), .val (.int (1 : Int32)), .unset, .unset, .unset, .unset] [(.int (1 : Int32))]))
          refine own_st (fun _ k => XS.istore X278.here hx rfl (hb hby at_34) rfl (l' := #[.val (.int p1), .val (.int p2), .val (.int (1 : Int32)), .val (.int (1 : Int32)), .val (.int (1 : Int32)), .unset, .unset, .unset]) rfl (XS.iloadN X278.here hx rfl (hb hby at_36) rfl k)) ?_
          show own_Go p.tables e below RR (T278.setTop (mkF m 37 #[.val (.int p1), .val (.int p2), .val (.int (1 : Int32)), .val (.int (1 : Int32)), .val (.int (1 : Int32)), .unset, .unset, .unset] [(.int (1 : Int32))]))
          refine own_st (fun _ k => XS.ifNo X278.here hx rfl (hb hby at_37) rfl ((if0 _ _).trans (feq (by decide)).1) (XS.iloadN X278.here hx rfl (hb hby at_40) rfl k)) ?_
          show own_Go p.tables e below RR (T278.setTop (mkF m 41 #[.val (.int p1), .val (.int p2), .val (.int (1 : Int32)), .val (.int (1 : Int32)), .val (.int (1 : Int32)), .unset, .unset, .unset] [(.int (1 : Int32))]))
          refine own_st (fun _ k => XS.ifNo X278.here hx rfl (hb hby at_41) rfl ((if0 _ _).trans (tlt (by decide)).2.2.2) (XS.iconst X278.here hx rfl (hb hby at_44) (XS.iload X278.here hx rfl (hb hby at_45) rfl (XS.iconst X278.here hx rfl (hb hby at_47) (XS.iadd X278.here hx rfl (hb hby at_48) rfl k))))) ?_
          show own_Go p.tables e below RR (T278.setTop (mkF m 49 #[.val (.int p1), .val (.int p2), .val (.int (1 : Int32)), .val (.int (1 : Int32)), .val (.int (1 : Int32)), .unset, .unset, .unset] [(.int (2 : Int32)), (.int (2 : Int32))]))
          obtain ⟨_, _, ⟨T279, L279, k279, n279⟩, -, X279, ⟨Lc279, hQ279, l279, y279, z279⟩, st279⟩ := Jvm.LawKit.callS X278 hx (y := (⟨"java/lang/Math", "min", "(II)I"⟩ : MethodName)) hown (mvT hZ (hw _ (List.mem_of_getElem? (i := 0) rfl))) (mvT hZ (hw _ (List.mem_of_getElem? (i := 1) rfl))) (mvT hZ (hw _ (List.mem_of_getElem? (i := 2) rfl))) (mvT hZ (hw _ (List.mem_of_getElem? (i := 3) rfl))) (by decide) (backOf (W := 0) (own_rmM l Z a0 hw [] (2 : Int32) (2 : Int32) (2 : Int32) h0 n0 Z0 (by decide)) hZ (hw _ (List.mem_of_getElem? (i := 3) rfl)) (hw _ (List.mem_of_getElem? (i := 2) rfl)) (by decide) (by decide)) (g := (mkF m 49 #[.val (.int p1), .val (.int p2), .val (.int (1 : Int32)), .val (.int (1 : Int32)), .val (.int (1 : Int32)), .unset, .unset, .unset] [(.int (2 : Int32)), (.int (2 : Int32))])) rfl (by rw [hml]; rfl) (argsL := [(.int (2 : Int32)), (.int (2 : Int32))]) (rest := []) (lenOf own_pd__II_I rfl) rfl (by show 2 * 0 + _ ≤ _; exact Nat.le_of_eq rfl) (hb hby at_49) (fun _ _ => ⟨rfl, eq278, (by decide : 0 + 0 ≤ _), (by decide : 0 + 0 ≤ _)⟩)
          dsimp only [Pt.U, Pt.locs, Pt.cells, Pt.slots] at X279 l279 y279 z279 st279 hQ279
          subst l279 y279 z279
          obtain ⟨rfl, Nq279, eq279⟩ := hQ279
          have N279 := Fr.app N278 Nq279
          refine own_st st279 ?_
          show own_Go p.tables e below RR (T279.setTop (mkF m 52 #[.val (.int p1), .val (.int p2), .val (.int (1 : Int32)), .val (.int (1 : Int32)), .val (.int (1 : Int32)), .unset, .unset, .unset] [(.int (2 : Int32))]))
          refine own_st (fun _ k => XS.istore X279.here hx rfl (hb hby at_52) rfl (l' := #[.val (.int p1), .val (.int p2), .val (.int (1 : Int32)), .val (.int (1 : Int32)), .val (.int (2 : Int32)), .unset, .unset, .unset]) rfl (XS.iconst X279.here hx rfl (hb hby at_54) k)) ?_
          show own_Go p.tables e below RR (T279.setTop (mkF m 55 #[.val (.int p1), .val (.int p2), .val (.int (1 : Int32)), .val (.int (1 : Int32)), .val (.int (2 : Int32)), .unset, .unset, .unset] [(.int (3 : Int32))]))
          obtain ⟨T280, h280, k280, X280, e280, E280, A280, O280, st280⟩ := newR X279 hx hZ hown (hw _ (List.mem_of_getElem? (i := 4) rfl)) (hw _ (List.mem_of_getElem? (i := 5) rfl)) eq279 (g := (mkF m 55 #[.val (.int p1), .val (.int p2), .val (.int (1 : Int32)), .val (.int (1 : Int32)), .val (.int (2 : Int32)), .unset, .unset, .unset] [(.int (3 : Int32))])) rfl (hb hby at_55) rfl (by decide) (cap := 3) (by decide) (by decide) (by decide) (by decide)
          obtain ⟨b280, gb280⟩ : ∃ z, z = h0.size := ⟨_, rfl⟩
          rw [← gb280] at A280 st280
          have ge280 : n0 ≤ b280 := Nat.le_trans Z0 (Nat.le_of_eq gb280.symm)
          refine own_st st280 ?_
          have z281 : n0 ≤ h280.size := Nat.le_trans Z0 E280.1
          have V280 : Arv Z h280 b280 k280 (.object "com/example/powderhorn/powderhorn/rules/escarmouche/Initiative") (3 : Int32) [.null, .null, .null] .null := (Arv.new A280 (by decide)).pad (pad_rep [] .null 3)
          show own_Go p.tables e below RR (T280.setTop (mkF m 58 #[.val (.int p1), .val (.int p2), .val (.int (1 : Int32)), .val (.int (1 : Int32)), .val (.int (2 : Int32)), .unset, .unset, .unset] [(.ref b280)]))
          refine own_st (fun _ k => XS.dup X280.here hx rfl (hb hby at_58) rfl rfl (XS.iconst X280.here hx rfl (hb hby at_59) k)) ?_
          show own_Go p.tables e below RR (T280.setTop (mkF m 60 #[.val (.int p1), .val (.int p2), .val (.int (1 : Int32)), .val (.int (1 : Int32)), .val (.int (2 : Int32)), .unset, .unset, .unset] [(.int (0 : Int32)), (.ref b280), (.ref b280)]))
          have f282 := (S_KEEP.ext E280)
          obtain ⟨T283, X283, e283, st283⟩ := getS2 X280 hx hZ hown (host := "") (Or.inl (hw _ (List.mem_of_getElem? (i := 6) rfl))) Via.refl e280 f282 (g := (mkF m 60 #[.val (.int p1), .val (.int p2), .val (.int (1 : Int32)), .val (.int (1 : Int32)), .val (.int (2 : Int32)), .unset, .unset, .unset] [(.int (0 : Int32)), (.ref b280), (.ref b280)])) rfl (hb hby at_60)
          refine own_st st283 ?_
          show own_Go p.tables e below RR (T283.setTop (mkF m 63 #[.val (.int p1), .val (.int p2), .val (.int (1 : Int32)), .val (.int (1 : Int32)), .val (.int (2 : Int32)), .unset, .unset, .unset] [(.ref a_KEEP), (.int (0 : Int32)), (.ref b280), (.ref b280)]))
          obtain ⟨c284, A284, q284, s284, m284, H284, G284⟩ := id V280
          have f285 := (E_KEEP.ext E280)
          obtain ⟨T286, h286, X286, e286, W286, st286⟩ := stR X283 hx hZ e283 A284 (j := (0 : Int32)) (inb_of s284 ⟨by decide, by decide⟩) rfl (Sto.ofV A284 q284 O280 (Ins.self f285)) (g := (mkF m 63 #[.val (.int p1), .val (.int p2), .val (.int (1 : Int32)), .val (.int (1 : Int32)), .val (.int (2 : Int32)), .unset, .unset, .unset] [(.ref a_KEEP), (.int (0 : Int32)), (.ref b280), (.ref b280)])) rfl rfl (hb hby at_63)
          have V286 := Arv.set A284 q284 s284 m284 H284 G284 rfl W286 0 rfl (Nat.le_of_ble_eq_true rfl)
          have V286 : Arv Z h286 b280 k280 (.object "com/example/powderhorn/powderhorn/rules/escarmouche/Initiative") (3 : Int32) [(.ref a_KEEP), .null, .null] .null := V286
          have N286 := Fr.snoc X286 N279 ge280
          refine own_st st286 ?_
          have z287 : n0 ≤ h286.size := Nat.le_trans z281 (Keep.of_wr W286).1
          show own_Go p.tables e below RR (T286.setTop (mkF m 64 #[.val (.int p1), .val (.int p2), .val (.int (1 : Int32)), .val (.int (1 : Int32)), .val (.int (2 : Int32)), .unset, .unset, .unset] [(.ref b280)]))
          refine own_st (fun _ k => XS.dup X286.here hx rfl (hb hby at_64) rfl rfl (XS.iconst X286.here hx rfl (hb hby at_65) k)) ?_
          show own_Go p.tables e below RR (T286.setTop (mkF m 66 #[.val (.int p1), .val (.int p2), .val (.int (1 : Int32)), .val (.int (1 : Int32)), .val (.int (2 : Int32)), .unset, .unset, .unset] [(.int (1 : Int32)), (.ref b280), (.ref b280)]))
          have f288 := ((S_FIGURE_ENDS.ext E280).wr W286)
          obtain ⟨T289, X289, e289, st289⟩ := getS2 X286 hx hZ hown (host := "") (Or.inl (hw _ (List.mem_of_getElem? (i := 10) rfl))) Via.refl e286 f288 (g := (mkF m 66 #[.val (.int p1), .val (.int p2), .val (.int (1 : Int32)), .val (.int (1 : Int32)), .val (.int (2 : Int32)), .unset, .unset, .unset] [(.int (1 : Int32)), (.ref b280), (.ref b280)])) rfl (hb hby at_66)
          refine own_st st289 ?_
          show own_Go p.tables e below RR (T289.setTop (mkF m 69 #[.val (.int p1), .val (.int p2), .val (.int (1 : Int32)), .val (.int (1 : Int32)), .val (.int (2 : Int32)), .unset, .unset, .unset] [(.ref a_FIGURE_ENDS), (.int (1 : Int32)), (.ref b280), (.ref b280)]))
          obtain ⟨c290, A290, q290, s290, m290, H290, G290⟩ := id V286
          have f291 := ((E_FIGURE_ENDS.ext E280).wr W286)
          obtain ⟨T292, h292, X292, e292, W292, st292⟩ := stR X289 hx hZ e289 A290 (j := (1 : Int32)) (inb_of s290 ⟨by decide, by decide⟩) rfl (Sto.ofV A290 q290 O280 (Ins.self f291)) (g := (mkF m 69 #[.val (.int p1), .val (.int p2), .val (.int (1 : Int32)), .val (.int (1 : Int32)), .val (.int (2 : Int32)), .unset, .unset, .unset] [(.ref a_FIGURE_ENDS), (.int (1 : Int32)), (.ref b280), (.ref b280)])) rfl rfl (hb hby at_69)
          have V292 := Arv.set A290 q290 s290 m290 H290 G290 rfl W292 1 rfl (Nat.le_of_ble_eq_true rfl)
          have V292 : Arv Z h292 b280 k280 (.object "com/example/powderhorn/powderhorn/rules/escarmouche/Initiative") (3 : Int32) [(.ref a_KEEP), (.ref a_FIGURE_ENDS), .null] .null := V292
          have N292 := Fr.snoc X292 N286 ge280
          refine own_st st292 ?_
          have z293 : n0 ≤ h292.size := Nat.le_trans z287 (Keep.of_wr W292).1
          show own_Go p.tables e below RR (T292.setTop (mkF m 70 #[.val (.int p1), .val (.int p2), .val (.int (1 : Int32)), .val (.int (1 : Int32)), .val (.int (2 : Int32)), .unset, .unset, .unset] [(.ref b280)]))
          refine own_st (fun _ k => XS.dup X292.here hx rfl (hb hby at_70) rfl rfl (XS.iconst X292.here hx rfl (hb hby at_71) k)) ?_
          show own_Go p.tables e below RR (T292.setTop (mkF m 72 #[.val (.int p1), .val (.int p2), .val (.int (1 : Int32)), .val (.int (1 : Int32)), .val (.int (2 : Int32)), .unset, .unset, .unset] [(.int (2 : Int32)), (.ref b280), (.ref b280)]))
          have f294 := (((S_SIDE_ENDS.ext E280).wr W286).wr W292)
          obtain ⟨T295, X295, e295, st295⟩ := getS2 X292 hx hZ hown (host := "") (Or.inl (hw _ (List.mem_of_getElem? (i := 12) rfl))) Via.refl e292 f294 (g := (mkF m 72 #[.val (.int p1), .val (.int p2), .val (.int (1 : Int32)), .val (.int (1 : Int32)), .val (.int (2 : Int32)), .unset, .unset, .unset] [(.int (2 : Int32)), (.ref b280), (.ref b280)])) rfl (hb hby at_72)
          refine own_st st295 ?_
          show own_Go p.tables e below RR (T295.setTop (mkF m 75 #[.val (.int p1), .val (.int p2), .val (.int (1 : Int32)), .val (.int (1 : Int32)), .val (.int (2 : Int32)), .unset, .unset, .unset] [(.ref a_SIDE_ENDS), (.int (2 : Int32)), (.ref b280), (.ref b280)]))
          obtain ⟨c296, A296, q296, s296, m296, H296, G296⟩ := id V292
          have f297 := (((E_SIDE_ENDS.ext E280).wr W286).wr W292)
          obtain ⟨T298, h298, X298, e298, W298, st298⟩ := stR X295 hx hZ e295 A296 (j := (2 : Int32)) (inb_of s296 ⟨by decide, by decide⟩) rfl (Sto.ofV A296 q296 O280 (Ins.self f297)) (g := (mkF m 75 #[.val (.int p1), .val (.int p2), .val (.int (1 : Int32)), .val (.int (1 : Int32)), .val (.int (2 : Int32)), .unset, .unset, .unset] [(.ref a_SIDE_ENDS), (.int (2 : Int32)), (.ref b280), (.ref b280)])) rfl rfl (hb hby at_75)
          have V298 := Arv.set A296 q296 s296 m296 H296 G296 rfl W298 2 rfl (Nat.le_of_ble_eq_true rfl)
          have V298 : Arv Z h298 b280 k280 (.object "com/example/powderhorn/powderhorn/rules/escarmouche/Initiative") (3 : Int32) [(.ref a_KEEP), (.ref a_FIGURE_ENDS), (.ref a_SIDE_ENDS)] .null := V298
          have N298 := Fr.snoc X298 N292 ge280
          refine own_st st298 ?_
          have z299 : n0 ≤ h298.size := Nat.le_trans z293 (Keep.of_wr W298).1
          show own_Go p.tables e below RR (T298.setTop (mkF m 76 #[.val (.int p1), .val (.int p2), .val (.int (1 : Int32)), .val (.int (1 : Int32)), .val (.int (2 : Int32)), .unset, .unset, .unset] [(.ref b280)]))
          refine own_st (fun _ k => XS.astore X298.here hx rfl (hb hby at_76) rfl rfl (l' := #[.val (.int p1), .val (.int p2), .val (.int (1 : Int32)), .val (.int (1 : Int32)), .val (.int (2 : Int32)), .val (.ref b280), .unset, .unset]) rfl (XS.aload X298.here hx rfl (hb hby at_78) rfl rfl (XS.iload X298.here hx rfl (hb hby at_80) rfl k))) ?_
          show own_Go p.tables e below RR (T298.setTop (mkF m 82 #[.val (.int p1), .val (.int p2), .val (.int (1 : Int32)), .val (.int (1 : Int32)), .val (.int (2 : Int32)), .val (.ref b280), .unset, .unset] [(.int (2 : Int32)), (.ref b280)]))
          obtain ⟨c300, A300, q300, s300, m300, H300, G300⟩ := id V298
          have b300 := inb_of (j := (2 : Int32)) s300 ⟨by decide, by decide⟩
          refine own_st (fun _ k => X298.aaload hx (j := (2 : Int32)) (v := (.ref a_SIDE_ENDS)) (by rw [e298]; exact A300.1) (State.isArrayOf_alike hZ.alike A300.2.1) rfl A300.2.2 b300 (Has.at H300 b300 rfl) (g := (mkF m 82 #[.val (.int p1), .val (.int p2), .val (.int (1 : Int32)), .val (.int (1 : Int32)), .val (.int (2 : Int32)), .val (.ref b280), .unset, .unset] [(.int (2 : Int32)), (.ref b280)])) rfl rfl (hb hby at_82) _ (XS.astore X298.here hx rfl (hb hby at_83) rfl rfl (l' := #[.val (.int p1), .val (.int p2), .val (.int (1 : Int32)), .val (.int (1 : Int32)), .val (.int (2 : Int32)), .val (.ref b280), .val (.ref a_SIDE_ENDS), .unset]) rfl (XS.iloadN X298.here hx rfl (hb hby at_85) rfl (XS.iloadN X298.here hx rfl (hb hby at_86) rfl k)))) ?_
          show own_Go p.tables e below RR (T298.setTop (mkF m 87 #[.val (.int p1), .val (.int p2), .val (.int (1 : Int32)), .val (.int (1 : Int32)), .val (.int (2 : Int32)), .val (.ref b280), .val (.ref a_SIDE_ENDS), .unset] [(.int (1 : Int32)), (.int (1 : Int32))]))
          have f301 := (((f282.wr W286).wr W292).wr W298)
          have f302 := ((f288.wr W292).wr W298)
          have f303 := (f294.wr W298)
          obtain ⟨_, _, ⟨T304, L304, k304, n304⟩, -, X304, ⟨Lc304, hQ304, l304, y304, z304⟩, st304⟩ := Jvm.LawKit.callS X298 hx (y := (⟨"com/example/powderhorn/powderhorn/rules/escarmouche/Initiative", "after", "(IZ)Lcom/example/powderhorn/powderhorn/rules/escarmouche/Initiative;"⟩ : MethodName)) hown (mvT hZ (hw _ (List.mem_of_getElem? (i := 14) rfl))) (mvT hZ (hw _ (List.mem_of_getElem? (i := 15) rfl))) (mvT hZ (hw _ (List.mem_of_getElem? (i := 7) rfl))) (mvT hZ (hw _ (List.mem_of_getElem? (i := 16) rfl))) (by decide) (backOf (W := 0) (own_rmA l Z a0 hw [] (1 : Int32) (1 : Int32) a_KEEP a_FIGURE_ENDS a_SIDE_ENDS a_SIDE_ENDS h298 n0 z299 f301 f302 f303 (by simp)) hZ (hw _ (List.mem_of_getElem? (i := 16) rfl)) (hw _ (List.mem_of_getElem? (i := 7) rfl)) (by decide) (by decide)) (g := (mkF m 87 #[.val (.int p1), .val (.int p2), .val (.int (1 : Int32)), .val (.int (1 : Int32)), .val (.int (2 : Int32)), .val (.ref b280), .val (.ref a_SIDE_ENDS), .unset] [(.int (1 : Int32)), (.int (1 : Int32))])) rfl (by rw [hml]; rfl) (argsL := [(.int (1 : Int32)), (.int (1 : Int32))]) (rest := []) (lenOf own_pd__IZ_Lcom_example_powderhorn_powderhorn_rules_escarmouche_Initiative_ rfl) rfl (by show 2 * 0 + _ ≤ _; exact Nat.le_of_eq rfl) (hb hby at_87) (fun _ _ => ⟨rfl, e298, (by decide : 1 + 0 ≤ _), (by decide : 3 + 0 ≤ _)⟩)
          dsimp only [Pt.U, Pt.locs, Pt.cells, Pt.slots] at X304 l304 y304 z304 st304 hQ304
          subst l304 y304 z304
          obtain ⟨rfl, Nq304, eq304⟩ := hQ304
          have N304 := Fr.app N298 Nq304
          refine own_st st304 ?_
          show own_Go p.tables e below RR (T304.setTop (mkF m 90 #[.val (.int p1), .val (.int p2), .val (.int (1 : Int32)), .val (.int (1 : Int32)), .val (.int (2 : Int32)), .val (.ref b280), .val (.ref a_SIDE_ENDS), .unset] [(.ref a_SIDE_ENDS)]))
          refine own_st (fun _ k => XS.astore X304.here hx rfl (hb hby at_90) rfl rfl (l' := #[.val (.int p1), .val (.int p2), .val (.int (1 : Int32)), .val (.int (1 : Int32)), .val (.int (2 : Int32)), .val (.ref b280), .val (.ref a_SIDE_ENDS), .val (.ref a_SIDE_ENDS)]) rfl (XS.aload X304.here hx rfl (hb hby at_92) rfl rfl (XS.aload X304.here hx rfl (hb hby at_94) rfl rfl k))) ?_
          show own_Go p.tables e below RR (T304.setTop (mkF m 96 #[.val (.int p1), .val (.int p2), .val (.int (1 : Int32)), .val (.int (1 : Int32)), .val (.int (2 : Int32)), .val (.ref b280), .val (.ref a_SIDE_ENDS), .val (.ref a_SIDE_ENDS)] [(.ref a_SIDE_ENDS), (.ref a_SIDE_ENDS)]))
          refine own_st (fun _ k => Jvm.RoadKit.acmp (g := (mkF m 96 #[.val (.int p1), .val (.int p2), .val (.int (1 : Int32)), .val (.int (1 : Int32)), .val (.int (2 : Int32)), .val (.ref b280), .val (.ref a_SIDE_ENDS), .val (.ref a_SIDE_ENDS)] [(.ref a_SIDE_ENDS), (.ref a_SIDE_ENDS)])) X304 hx rfl rfl rfl (pc0 := 96) (pc' := 99) (same := true) rfl (hb hby at_96) rfl (decide_eq_true rfl) (by decide) (by decide) (XS.iconst X304.here hx rfl (hb hby at_99) (XS.goto X304.here hx rfl (pc0 := 100) (pc' := 104) rfl (hb hby at_100) (by decide) (by decide) k))) ?_
          show own_Go p.tables e below RR (T304.setTop (mkF m 104 #[.val (.int p1), .val (.int p2), .val (.int (1 : Int32)), .val (.int (1 : Int32)), .val (.int (2 : Int32)), .val (.ref b280), .val (.ref a_SIDE_ENDS), .val (.ref a_SIDE_ENDS)] [(.int (1 : Int32))]))
          obtain ⟨fs, hrt_, hrun, hended, hW, hsame⟩ := X304.leave (v := some (.int (1 : Int32))) (fun h => by rw [Bd.returns] at h; cases h)
          refine own_fin (retN X304 hx (t := .boolean) Bd.returns (by simp) (hb hby at_104) hrt_) (hRR _ ⟨_, hrun, hended, _, _, rfl, ?_, ⟨_, rfl⟩, hW, hsame.mono (by decide) (by decide)⟩)
          show own_Q0 Z p1 p2 a_KEEP a_FIGURE_ENDS a_SIDE_ENDS h0 n0 _ T304.heap _
          rw [eq304]
          exact ⟨rfl, N304⟩
        · show own_Go p.tables e below RR (s₁.setTop (mkF m 29 #[.val (.int p1), .val (.int p2), .val (.int (1 : Int32)), .val (.int v249), .unset, .unset, .unset, .unset] []))
          show own_Go p.tables e below RR (s₁.setTop (mkF m 29 #[.val (.int p1), .val (.int p2), .val (.int (1 : Int32)), .val (.int v249), .unset, .unset, .unset, .unset] []))
          refine own_st (fun _ k => XS.iconst X0.here hx rfl (hb hby at_29) (XS.iloadN X0.here hx rfl (hb hby at_30) rfl k)) ?_
          show own_Go p.tables e below RR (s₁.setTop (mkF m 31 #[.val (.int p1), .val (.int p2), .val (.int (1 : Int32)), .val (.int v249), .unset, .unset, .unset, .unset] [(.int v249), (.int (2 : Int32))]))
          obtain ⟨_, _, ⟨T305, L305, k305, n305⟩, -, X305, ⟨Lc305, hQ305, l305, y305, z305⟩, st305⟩ := Jvm.LawKit.callS X0 hx (y := (⟨"java/lang/Math", "min", "(II)I"⟩ : MethodName)) hown (mvT hZ (hw _ (List.mem_of_getElem? (i := 0) rfl))) (mvT hZ (hw _ (List.mem_of_getElem? (i := 1) rfl))) (mvT hZ (hw _ (List.mem_of_getElem? (i := 2) rfl))) (mvT hZ (hw _ (List.mem_of_getElem? (i := 3) rfl))) (by decide) (backOf (W := 0) (own_rmM l Z a0 hw [] (2 : Int32) v249 (2 : Int32) h0 n0 Z0 (if_neg (own_big (own_n3 gv249) ho250 ho251))) hZ (hw _ (List.mem_of_getElem? (i := 3) rfl)) (hw _ (List.mem_of_getElem? (i := 2) rfl)) (by decide) (by decide)) (g := (mkF m 31 #[.val (.int p1), .val (.int p2), .val (.int (1 : Int32)), .val (.int v249), .unset, .unset, .unset, .unset] [(.int v249), (.int (2 : Int32))])) rfl (by rw [hml]; rfl) (argsL := [(.int (2 : Int32)), (.int v249)]) (rest := []) (lenOf own_pd__II_I rfl) rfl (by show 2 * 0 + _ ≤ _; exact Nat.le_of_eq rfl) (hb hby at_31) (fun _ _ => ⟨rfl, e0, (by decide : 0 + 0 ≤ _), (by decide : 0 + 0 ≤ _)⟩)
          dsimp only [Pt.U, Pt.locs, Pt.cells, Pt.slots] at X305 l305 y305 z305 st305 hQ305
          subst l305 y305 z305
          obtain ⟨rfl, Nq305, eq305⟩ := hQ305
          have N305 := Fr.app N0 Nq305
          refine own_st st305 ?_
          show own_Go p.tables e below RR (T305.setTop (mkF m 34 #[.val (.int p1), .val (.int p2), .val (.int (1 : Int32)), .val (.int v249), .unset, .unset, .unset, .unset] [(.int (2 : Int32))]))
          refine own_st (fun _ k => XS.istore X305.here hx rfl (hb hby at_34) rfl (l' := #[.val (.int p1), .val (.int p2), .val (.int (1 : Int32)), .val (.int v249), .val (.int (2 : Int32)), .unset, .unset, .unset]) rfl (XS.iloadN X305.here hx rfl (hb hby at_36) rfl k)) ?_
          show own_Go p.tables e below RR (T305.setTop (mkF m 37 #[.val (.int p1), .val (.int p2), .val (.int (1 : Int32)), .val (.int v249), .val (.int (2 : Int32)), .unset, .unset, .unset] [(.int (1 : Int32))]))
          refine own_st (fun _ k => XS.ifNo X305.here hx rfl (hb hby at_37) rfl ((if0 _ _).trans (feq (by decide)).1) (XS.iloadN X305.here hx rfl (hb hby at_40) rfl k)) ?_
          show own_Go p.tables e below RR (T305.setTop (mkF m 41 #[.val (.int p1), .val (.int p2), .val (.int (1 : Int32)), .val (.int v249), .val (.int (2 : Int32)), .unset, .unset, .unset] [(.int v249)]))
          refine own_st (fun _ k => XS.ifNo X305.here hx rfl (hb hby at_41) rfl ((if0 _ _).trans (tlt (own_pos (own_n3 gv249) ho250)).2.2.2) (XS.iconst X305.here hx rfl (hb hby at_44) (XS.iload X305.here hx rfl (hb hby at_45) rfl (XS.iconst X305.here hx rfl (hb hby at_47) (XS.iadd X305.here hx rfl (hb hby at_48) rfl k))))) ?_
          show own_Go p.tables e below RR (T305.setTop (mkF m 49 #[.val (.int p1), .val (.int p2), .val (.int (1 : Int32)), .val (.int v249), .val (.int (2 : Int32)), .unset, .unset, .unset] [(.int (3 : Int32)), (.int (2 : Int32))]))
          obtain ⟨_, _, ⟨T306, L306, k306, n306⟩, -, X306, ⟨Lc306, hQ306, l306, y306, z306⟩, st306⟩ := Jvm.LawKit.callS X305 hx (y := (⟨"java/lang/Math", "min", "(II)I"⟩ : MethodName)) hown (mvT hZ (hw _ (List.mem_of_getElem? (i := 0) rfl))) (mvT hZ (hw _ (List.mem_of_getElem? (i := 1) rfl))) (mvT hZ (hw _ (List.mem_of_getElem? (i := 2) rfl))) (mvT hZ (hw _ (List.mem_of_getElem? (i := 3) rfl))) (by decide) (backOf (W := 0) (own_rmM l Z a0 hw [] (2 : Int32) (3 : Int32) (2 : Int32) h0 n0 Z0 (by decide)) hZ (hw _ (List.mem_of_getElem? (i := 3) rfl)) (hw _ (List.mem_of_getElem? (i := 2) rfl)) (by decide) (by decide)) (g := (mkF m 49 #[.val (.int p1), .val (.int p2), .val (.int (1 : Int32)), .val (.int v249), .val (.int (2 : Int32)), .unset, .unset, .unset] [(.int (3 : Int32)), (.int (2 : Int32))])) rfl (by rw [hml]; rfl) (argsL := [(.int (2 : Int32)), (.int (3 : Int32))]) (rest := []) (lenOf own_pd__II_I rfl) rfl (by show 2 * 0 + _ ≤ _; exact Nat.le_of_eq rfl) (hb hby at_49) (fun _ _ => ⟨rfl, eq305, (by decide : 0 + 0 ≤ _), (by decide : 0 + 0 ≤ _)⟩)
          dsimp only [Pt.U, Pt.locs, Pt.cells, Pt.slots] at X306 l306 y306 z306 st306 hQ306
          subst l306 y306 z306
          obtain ⟨rfl, Nq306, eq306⟩ := hQ306
          have N306 := Fr.app N305 Nq306
          refine own_st st306 ?_
          show own_Go p.tables e below RR (T306.setTop (mkF m 52 #[.val (.int p1), .val (.int p2), .val (.int (1 : Int32)), .val (.int v249), .val (.int (2 : Int32)), .unset, .unset, .unset] [(.int (2 : Int32))]))
          refine own_st (fun _ k => XS.istore X306.here hx rfl (hb hby at_52) rfl (l' := #[.val (.int p1), .val (.int p2), .val (.int (1 : Int32)), .val (.int v249), .val (.int (2 : Int32)), .unset, .unset, .unset]) rfl (XS.iconst X306.here hx rfl (hb hby at_54) k)) ?_
          show own_Go p.tables e below RR (T306.setTop (mkF m 55 #[.val (.int p1), .val (.int p2), .val (.int (1 : Int32)), .val (.int v249), .val (.int (2 : Int32)), .unset, .unset, .unset] [(.int (3 : Int32))]))
          obtain ⟨T307, h307, k307, X307, e307, E307, A307, O307, st307⟩ := newR X306 hx hZ hown (hw _ (List.mem_of_getElem? (i := 4) rfl)) (hw _ (List.mem_of_getElem? (i := 5) rfl)) eq306 (g := (mkF m 55 #[.val (.int p1), .val (.int p2), .val (.int (1 : Int32)), .val (.int v249), .val (.int (2 : Int32)), .unset, .unset, .unset] [(.int (3 : Int32))])) rfl (hb hby at_55) rfl (by decide) (cap := 3) (by decide) (by decide) (by decide) (by decide)
          obtain ⟨b307, gb307⟩ : ∃ z, z = h0.size := ⟨_, rfl⟩
          rw [← gb307] at A307 st307
          have ge307 : n0 ≤ b307 := Nat.le_trans Z0 (Nat.le_of_eq gb307.symm)
          refine own_st st307 ?_
          have z308 : n0 ≤ h307.size := Nat.le_trans Z0 E307.1
          have V307 : Arv Z h307 b307 k307 (.object "com/example/powderhorn/powderhorn/rules/escarmouche/Initiative") (3 : Int32) [.null, .null, .null] .null := (Arv.new A307 (by decide)).pad (pad_rep [] .null 3)
          show own_Go p.tables e below RR (T307.setTop (mkF m 58 #[.val (.int p1), .val (.int p2), .val (.int (1 : Int32)), .val (.int v249), .val (.int (2 : Int32)), .unset, .unset, .unset] [(.ref b307)]))
          refine own_st (fun _ k => XS.dup X307.here hx rfl (hb hby at_58) rfl rfl (XS.iconst X307.here hx rfl (hb hby at_59) k)) ?_
          show own_Go p.tables e below RR (T307.setTop (mkF m 60 #[.val (.int p1), .val (.int p2), .val (.int (1 : Int32)), .val (.int v249), .val (.int (2 : Int32)), .unset, .unset, .unset] [(.int (0 : Int32)), (.ref b307), (.ref b307)]))
          have f309 := (S_KEEP.ext E307)
          obtain ⟨T310, X310, e310, st310⟩ := getS2 X307 hx hZ hown (host := "") (Or.inl (hw _ (List.mem_of_getElem? (i := 6) rfl))) Via.refl e307 f309 (g := (mkF m 60 #[.val (.int p1), .val (.int p2), .val (.int (1 : Int32)), .val (.int v249), .val (.int (2 : Int32)), .unset, .unset, .unset] [(.int (0 : Int32)), (.ref b307), (.ref b307)])) rfl (hb hby at_60)
          refine own_st st310 ?_
          show own_Go p.tables e below RR (T310.setTop (mkF m 63 #[.val (.int p1), .val (.int p2), .val (.int (1 : Int32)), .val (.int v249), .val (.int (2 : Int32)), .unset, .unset, .unset] [(.ref a_KEEP), (.int (0 : Int32)), (.ref b307), (.ref b307)]))
          obtain ⟨c311, A311, q311, s311, m311, H311, G311⟩ := id V307
          have f312 := (E_KEEP.ext E307)
          obtain ⟨T313, h313, X313, e313, W313, st313⟩ := stR X310 hx hZ e310 A311 (j := (0 : Int32)) (inb_of s311 ⟨by decide, by decide⟩) rfl (Sto.ofV A311 q311 O307 (Ins.self f312)) (g := (mkF m 63 #[.val (.int p1), .val (.int p2), .val (.int (1 : Int32)), .val (.int v249), .val (.int (2 : Int32)), .unset, .unset, .unset] [(.ref a_KEEP), (.int (0 : Int32)), (.ref b307), (.ref b307)])) rfl rfl (hb hby at_63)
          have V313 := Arv.set A311 q311 s311 m311 H311 G311 rfl W313 0 rfl (Nat.le_of_ble_eq_true rfl)
          have V313 : Arv Z h313 b307 k307 (.object "com/example/powderhorn/powderhorn/rules/escarmouche/Initiative") (3 : Int32) [(.ref a_KEEP), .null, .null] .null := V313
          have N313 := Fr.snoc X313 N306 ge307
          refine own_st st313 ?_
          have z314 : n0 ≤ h313.size := Nat.le_trans z308 (Keep.of_wr W313).1
          show own_Go p.tables e below RR (T313.setTop (mkF m 64 #[.val (.int p1), .val (.int p2), .val (.int (1 : Int32)), .val (.int v249), .val (.int (2 : Int32)), .unset, .unset, .unset] [(.ref b307)]))
          refine own_st (fun _ k => XS.dup X313.here hx rfl (hb hby at_64) rfl rfl (XS.iconst X313.here hx rfl (hb hby at_65) k)) ?_
          show own_Go p.tables e below RR (T313.setTop (mkF m 66 #[.val (.int p1), .val (.int p2), .val (.int (1 : Int32)), .val (.int v249), .val (.int (2 : Int32)), .unset, .unset, .unset] [(.int (1 : Int32)), (.ref b307), (.ref b307)]))
          have f315 := ((S_FIGURE_ENDS.ext E307).wr W313)
          obtain ⟨T316, X316, e316, st316⟩ := getS2 X313 hx hZ hown (host := "") (Or.inl (hw _ (List.mem_of_getElem? (i := 10) rfl))) Via.refl e313 f315 (g := (mkF m 66 #[.val (.int p1), .val (.int p2), .val (.int (1 : Int32)), .val (.int v249), .val (.int (2 : Int32)), .unset, .unset, .unset] [(.int (1 : Int32)), (.ref b307), (.ref b307)])) rfl (hb hby at_66)
          refine own_st st316 ?_
          show own_Go p.tables e below RR (T316.setTop (mkF m 69 #[.val (.int p1), .val (.int p2), .val (.int (1 : Int32)), .val (.int v249), .val (.int (2 : Int32)), .unset, .unset, .unset] [(.ref a_FIGURE_ENDS), (.int (1 : Int32)), (.ref b307), (.ref b307)]))
          obtain ⟨c317, A317, q317, s317, m317, H317, G317⟩ := id V313
          have f318 := ((E_FIGURE_ENDS.ext E307).wr W313)
          obtain ⟨T319, h319, X319, e319, W319, st319⟩ := stR X316 hx hZ e316 A317 (j := (1 : Int32)) (inb_of s317 ⟨by decide, by decide⟩) rfl (Sto.ofV A317 q317 O307 (Ins.self f318)) (g := (mkF m 69 #[.val (.int p1), .val (.int p2), .val (.int (1 : Int32)), .val (.int v249), .val (.int (2 : Int32)), .unset, .unset, .unset] [(.ref a_FIGURE_ENDS), (.int (1 : Int32)), (.ref b307), (.ref b307)])) rfl rfl (hb hby at_69)
          have V319 := Arv.set A317 q317 s317 m317 H317 G317 rfl W319 1 rfl (Nat.le_of_ble_eq_true rfl)
          have V319 : Arv Z h319 b307 k307 (.object "com/example/powderhorn/powderhorn/rules/escarmouche/Initiative") (3 : Int32) [(.ref a_KEEP), (.ref a_FIGURE_ENDS), .null] .null := V319
          have N319 := Fr.snoc X319 N313 ge307
          refine own_st st319 ?_
          have z320 : n0 ≤ h319.size := Nat.le_trans z314 (Keep.of_wr W319).1
          show own_Go p.tables e below RR (T319.setTop (mkF m 70 #[.val (.int p1), .val (.int p2), .val (.int (1 : Int32)), .val (.int v249), .val (.int (2 : Int32)), .unset, .unset, .unset] [(.ref b307)]))
          refine own_st (fun _ k => XS.dup X319.here hx rfl (hb hby at_70) rfl rfl (XS.iconst X319.here hx rfl (hb hby at_71) k)) ?_
          show own_Go p.tables e below RR (T319.setTop (mkF m 72 #[.val (.int p1), .val (.int p2), .val (.int (1 : Int32)), .val (.int v249), .val (.int (2 : Int32)), .unset, .unset, .unset] [(.int (2 : Int32)), (.ref b307), (.ref b307)]))
          have f321 := (((S_SIDE_ENDS.ext E307).wr W313).wr W319)
          obtain ⟨T322, X322, e322, st322⟩ := getS2 X319 hx hZ hown (host := "") (Or.inl (hw _ (List.mem_of_getElem? (i := 12) rfl))) Via.refl e319 f321 (g := (mkF m 72 #[.val (.int p1), .val (.int p2), .val (.int (1 : Int32)), .val (.int v249), .val (.int (2 : Int32)), .unset, .unset, .unset] [(.int (2 : Int32)), (.ref b307), (.ref b307)])) rfl (hb hby at_72)
          refine own_st st322 ?_
          show own_Go p.tables e below RR (T322.setTop (mkF m 75 #[.val (.int p1), .val (.int p2), .val (.int (1 : Int32)), .val (.int v249), .val (.int (2 : Int32)), .unset, .unset, .unset] [(.ref a_SIDE_ENDS), (.int (2 : Int32)), (.ref b307), (.ref b307)]))
          obtain ⟨c323, A323, q323, s323, m323, H323, G323⟩ := id V319
          have f324 := (((E_SIDE_ENDS.ext E307).wr W313).wr W319)
          obtain ⟨T325, h325, X325, e325, W325, st325⟩ := stR X322 hx hZ e322 A323 (j := (2 : Int32)) (inb_of s323 ⟨by decide, by decide⟩) rfl (Sto.ofV A323 q323 O307 (Ins.self f324)) (g := (mkF m 75 #[.val (.int p1), .val (.int p2), .val (.int (1 : Int32)), .val (.int v249), .val (.int (2 : Int32)), .unset, .unset, .unset] [(.ref a_SIDE_ENDS), (.int (2 : Int32)), (.ref b307), (.ref b307)])) rfl rfl (hb hby at_75)
          have V325 := Arv.set A323 q323 s323 m323 H323 G323 rfl W325 2 rfl (Nat.le_of_ble_eq_true rfl)
          have V325 : Arv Z h325 b307 k307 (.object "com/example/powderhorn/powderhorn/rules/escarmouche/Initiative") (3 : Int32) [(.ref a_KEEP), (.ref a_FIGURE_ENDS), (.ref a_SIDE_ENDS)] .null := V325
          have N325 := Fr.snoc X325 N319 ge307
          refine own_st st325 ?_
          have z326 : n0 ≤ h325.size := Nat.le_trans z320 (Keep.of_wr W325).1
          show own_Go p.tables e below RR (T325.setTop (mkF m 76 #[.val (.int p1), .val (.int p2), .val (.int (1 : Int32)), .val (.int v249), .val (.int (2 : Int32)), .unset, .unset, .unset] [(.ref b307)]))
          refine own_st (fun _ k => XS.astore X325.here hx rfl (hb hby at_76) rfl rfl (l' := #[.val (.int p1), .val (.int p2), .val (.int (1 : Int32)), .val (.int v249), .val (.int (2 : Int32)), .val (.ref b307), .unset, .unset]) rfl (XS.aload X325.here hx rfl (hb hby at_78) rfl rfl (XS.iload X325.here hx rfl (hb hby at_80) rfl k))) ?_
          show own_Go p.tables e below RR (T325.setTop (mkF m 82 #[.val (.int p1), .val (.int p2), .val (.int (1 : Int32)), .val (.int v249), .val (.int (2 : Int32)), .val (.ref b307), .unset, .unset] [(.int (2 : Int32)), (.ref b307)]))
          obtain ⟨c327, A327, q327, s327, m327, H327, G327⟩ := id V325
          have b327 := inb_of (j := (2 : Int32)) s327 ⟨by decide, by decide⟩
          refine own_st (fun _ k => X325.aaload hx (j := (2 : Int32)) (v := (.ref a_SIDE_ENDS)) (by rw [e325]; exact A327.1) (State.isArrayOf_alike hZ.alike A327.2.1) rfl A327.2.2 b327 (Has.at H327 b327 rfl) (g := (mkF m 82 #[.val (.int p1), .val (.int p2), .val (.int (1 : Int32)), .val (.int v249), .val (.int (2 : Int32)), .val (.ref b307), .unset, .unset] [(.int (2 : Int32)), (.ref b307)])) rfl rfl (hb hby at_82) _ (XS.astore X325.here hx rfl (hb hby at_83) rfl rfl (l' := #[.val (.int p1), .val (.int p2), .val (.int (1 : Int32)), .val (.int v249), .val (.int (2 : Int32)), .val (.ref b307), .val (.ref a_SIDE_ENDS), .unset]) rfl (XS.iloadN X325.here hx rfl (hb hby at_85) rfl (XS.iloadN X325.here hx rfl (hb hby at_86) rfl k)))) ?_
          show own_Go p.tables e below RR (T325.setTop (mkF m 87 #[.val (.int p1), .val (.int p2), .val (.int (1 : Int32)), .val (.int v249), .val (.int (2 : Int32)), .val (.ref b307), .val (.ref a_SIDE_ENDS), .unset] [(.int (1 : Int32)), (.int v249)]))
          have f328 := (((f309.wr W313).wr W319).wr W325)
          have f329 := ((f315.wr W319).wr W325)
          have f330 := (f321.wr W325)
          obtain ⟨_, _, ⟨T331, L331, k331, n331⟩, -, X331, ⟨Lc331, hQ331, l331, y331, z331⟩, st331⟩ := Jvm.LawKit.callS X325 hx (y := (⟨"com/example/powderhorn/powderhorn/rules/escarmouche/Initiative", "after", "(IZ)Lcom/example/powderhorn/powderhorn/rules/escarmouche/Initiative;"⟩ : MethodName)) hown (mvT hZ (hw _ (List.mem_of_getElem? (i := 14) rfl))) (mvT hZ (hw _ (List.mem_of_getElem? (i := 15) rfl))) (mvT hZ (hw _ (List.mem_of_getElem? (i := 7) rfl))) (mvT hZ (hw _ (List.mem_of_getElem? (i := 16) rfl))) (by decide) (backOf (W := 0) (own_rmA l Z a0 hw [] v249 (1 : Int32) a_KEEP a_FIGURE_ENDS a_SIDE_ENDS a_SIDE_ENDS h325 n0 z326 f328 f329 f330 (by simp [ho250, ho251])) hZ (hw _ (List.mem_of_getElem? (i := 16) rfl)) (hw _ (List.mem_of_getElem? (i := 7) rfl)) (by decide) (by decide)) (g := (mkF m 87 #[.val (.int p1), .val (.int p2), .val (.int (1 : Int32)), .val (.int v249), .val (.int (2 : Int32)), .val (.ref b307), .val (.ref a_SIDE_ENDS), .unset] [(.int (1 : Int32)), (.int v249)])) rfl (by rw [hml]; rfl) (argsL := [(.int v249), (.int (1 : Int32))]) (rest := []) (lenOf own_pd__IZ_Lcom_example_powderhorn_powderhorn_rules_escarmouche_Initiative_ rfl) rfl (by show 2 * 0 + _ ≤ _; exact Nat.le_of_eq rfl) (hb hby at_87) (fun _ _ => ⟨rfl, e325, (by decide : 1 + 0 ≤ _), (by decide : 3 + 0 ≤ _)⟩)
          dsimp only [Pt.U, Pt.locs, Pt.cells, Pt.slots] at X331 l331 y331 z331 st331 hQ331
          subst l331 y331 z331
          obtain ⟨rfl, Nq331, eq331⟩ := hQ331
          have N331 := Fr.app N325 Nq331
          refine own_st st331 ?_
          show own_Go p.tables e below RR (T331.setTop (mkF m 90 #[.val (.int p1), .val (.int p2), .val (.int (1 : Int32)), .val (.int v249), .val (.int (2 : Int32)), .val (.ref b307), .val (.ref a_SIDE_ENDS), .unset] [(.ref a_SIDE_ENDS)]))
          refine own_st (fun _ k => XS.astore X331.here hx rfl (hb hby at_90) rfl rfl (l' := #[.val (.int p1), .val (.int p2), .val (.int (1 : Int32)), .val (.int v249), .val (.int (2 : Int32)), .val (.ref b307), .val (.ref a_SIDE_ENDS), .val (.ref a_SIDE_ENDS)]) rfl (XS.aload X331.here hx rfl (hb hby at_92) rfl rfl (XS.aload X331.here hx rfl (hb hby at_94) rfl rfl k))) ?_
          show own_Go p.tables e below RR (T331.setTop (mkF m 96 #[.val (.int p1), .val (.int p2), .val (.int (1 : Int32)), .val (.int v249), .val (.int (2 : Int32)), .val (.ref b307), .val (.ref a_SIDE_ENDS), .val (.ref a_SIDE_ENDS)] [(.ref a_SIDE_ENDS), (.ref a_SIDE_ENDS)]))
          refine own_st (fun _ k => Jvm.RoadKit.acmp (g := (mkF m 96 #[.val (.int p1), .val (.int p2), .val (.int (1 : Int32)), .val (.int v249), .val (.int (2 : Int32)), .val (.ref b307), .val (.ref a_SIDE_ENDS), .val (.ref a_SIDE_ENDS)] [(.ref a_SIDE_ENDS), (.ref a_SIDE_ENDS)])) X331 hx rfl rfl rfl (pc0 := 96) (pc' := 99) (same := true) rfl (hb hby at_96) rfl (decide_eq_true rfl) (by decide) (by decide) (XS.iconst X331.here hx rfl (hb hby at_99) (XS.goto X331.here hx rfl (pc0 := 100) (pc' := 104) rfl (hb hby at_100) (by decide) (by decide) k))) ?_
          show own_Go p.tables e below RR (T331.setTop (mkF m 104 #[.val (.int p1), .val (.int p2), .val (.int (1 : Int32)), .val (.int v249), .val (.int (2 : Int32)), .val (.ref b307), .val (.ref a_SIDE_ENDS), .val (.ref a_SIDE_ENDS)] [(.int (1 : Int32))]))
          obtain ⟨fs, hrt_, hrun, hended, hW, hsame⟩ := X331.leave (v := some (.int (1 : Int32))) (fun h => by rw [Bd.returns] at h; cases h)
          refine own_fin (retN X331 hx (t := .boolean) Bd.returns (by simp) (hb hby at_104) hrt_) (hRR _ ⟨_, hrun, hended, _, _, rfl, ?_, ⟨_, rfl⟩, hW, hsame.mono (by decide) (by decide)⟩)
          show own_Q0 Z p1 p2 a_KEEP a_FIGURE_ENDS a_SIDE_ENDS h0 n0 _ T331.heap _
          rw [eq331]
          exact ⟨rfl, N331⟩
set_option maxRecDepth 65536 in
set_option maxHeartbeats 40000000 in
theorem own_comes {Post : Tables → Env → Array Value → State → Outcome → State → Prop} (hpost : ∀ tb e args s v u, (limb_1_1.after args s (.returned v) u = true ∧ limb_1_2.after args s (.returned v) u = true ∧ True) → FrameEnd s (.returned v) u (Jvm.fieldLocs frame_1_writes args s ++ Jvm.arrayLocs frame_1_arrays args s ++ Jvm.staticLocs frame_1_statics s) 16 128 → Post tb e args s (.returned v) u) :
    ArmFor flags0 classFile x code maxLocals ret World_1 tables_1 room_1 Calls_1 rest_1 Pre_1 Post := by
  intro l hfl _ _ p e ha hc hk s m args below hf hA hF happ hP
  obtain ⟨hcalls, hrest, hpre⟩ := hP
  obtain ⟨-, -, -, hnamed, -, -, -, hat⟩ := (Spec.applies_iff hf).mp happ
  obtain ⟨hg, hn⟩ := and_e (Cond.before_iff.mp (show (Jvm.Cond.and given_1 narrow_1).before args s = true from hpre))
  obtain ⟨u1a, u1b⟩ := and_e hg
  obtain ⟨u2a, u2b⟩ := and_e u1b
  obtain ⟨w0, w1, rfl⟩ : ∃ w0 w1 : Value, args = #[w0, w1] := by
    have hs : args.size = 2 := by simpa [Cond.value, given_1] using u1a
    obtain ⟨L⟩ := args
    match L, hs with
    | [w0, w1], _ => exact ⟨w0, w1, rfl⟩
  have hw := fun d (hd : d ∈ tables_1) => atoms_spec (ws := Jvm.Cond.code x code maxLocals ret :: tables_1) hat d (List.mem_cons_of_mem _ hd)
  have hfit : Fit s := fun {y c} hc i hi => by
    obtain ⟨ha, rfl⟩ := Array.getElem?_eq_some_iff.mp hc
    have q := List.all_eq_true.mp ((Array.all_eq_true_iff_forall_mem.mp hF) _ (Array.getElem_mem ha)) i (List.mem_range.mpr hi)
    simpa [Array.getElem?_eq_getElem hi] using q
  obtain ⟨i0, ei0⟩ := is_v u2a
  obtain rfl : w0 = (.int i0) := Option.some.inj ei0
  obtain ⟨i1, ei1⟩ := is_v u2b
  obtain rfl : w1 = (.int i1) := Option.some.inj ei1
  obtain ⟨u101a, u101b⟩ := and_e hn
  obtain ⟨u102a, u102b⟩ := and_e u101b
  obtain ⟨a_KEEP, v_KEEP⟩ := exa_v u101a
  have E_KEEP := Exa.start v_KEEP u101a
  have S_KEEP := Sta.start v_KEEP (Or.inr ⟨(hw _ (List.mem_of_getElem? (i := 7) rfl)), (hw _ (List.mem_of_getElem? (i := 8) rfl))⟩)
  obtain ⟨a_FIGURE_ENDS, v_FIGURE_ENDS⟩ := exa_v u102a
  have E_FIGURE_ENDS := Exa.start v_FIGURE_ENDS u102a
  have S_FIGURE_ENDS := Sta.start v_FIGURE_ENDS (Or.inr ⟨(hw _ (List.mem_of_getElem? (i := 7) rfl)), (hw _ (List.mem_of_getElem? (i := 11) rfl))⟩)
  obtain ⟨a_SIDE_ENDS, v_SIDE_ENDS⟩ := exa_v u102b
  have E_SIDE_ENDS := Exa.start v_SIDE_ENDS u102b
  have S_SIDE_ENDS := Sta.start v_SIDE_ENDS (Or.inr ⟨(hw _ (List.mem_of_getElem? (i := 7) rfl)), (hw _ (List.mem_of_getElem? (i := 13) rfl))⟩)
  obtain ⟨n, o, h1, h2, h3, _, L, rfl, ⟨rfl, N⟩, hq⟩ := own_rm0 l s _ hw tables_1 i0 i1 a_KEEP a_FIGURE_ENDS a_SIDE_ENDS s.heap s.heap.size (Nat.le_refl _) E_KEEP S_KEEP E_FIGURE_ENDS S_FIGURE_ENDS E_SIDE_ENDS S_SIDE_ENDS p e ha hc hk s m _ below hf ((Spec.applies_iff_loose hf).mp happ).1 ⟨rfl, State.Warmed39.refl s, rfl⟩ trivial
  refine ⟨n, _, h1, h2, h3, hpost _ _ _ _ _ _ ⟨Cond.after_iff.mpr rfl, Cond.after_iff.mpr (eq_i res_at (Term.int_eval (1)) rfl), trivial⟩ ⟨hq.1, hq.2.1, (hq.2.2.sift fun y hy => Or.inr (N y hy)).mono (by decide) (by decide)⟩⟩
theorem main_1_1 : Claimed_1_1 := own_comes fun _ _ _ _ _ _ h hF => ⟨h.1, hF⟩
theorem main_1_2 : Claimed_1_2 := own_comes fun _ _ _ _ _ _ h hF => ⟨h.2.1, hF⟩
end Jvm.Pilot.@@N@@
namespace Jvm.Pilot.@@N@@
open Jvm Jvm.ClassFile Sem Op Lib Jvm.Free Jvm.Stand Jvm.Pilot.@@N@@.Jvm.D
/-! MADE BY PROGRAM (witnessworld.py) out of the Statement's table words and the real class files: 12 classes; the members and pool entries that the words name. The judged class is class 1, her method 1. -/
namespace start1
open Jvm.ClassFile
def u (s : String) : CpInfo := .utf8 (stringToUtf16 s)
/-- a pool by its gaps: so many unusable entries, then the entry; so many at the end -/
def gap : Nat → List CpInfo → List CpInfo
  | 0, r => r
  | n + 1, r => .unusable :: gap n r
def poolList (es : List (Nat × CpInfo)) (last : Nat) : List CpInfo := es.foldr (fun e r => gap e.1 (e.2 :: r)) (gap last [])
def pool (es : List (Nat × CpInfo)) (last : Nat) : Array CpInfo := ⟨poolList es last⟩
def fileOf (pool : Array CpInfo) (this : Nat) (attrs : Array Attribute := #[]) (ms : Array MethodInfo := #[]) (fl : Nat := 33) (sup : Nat := 0) (ifs : Array Nat := #[]) (fds : Array FieldInfo := #[]) : ClassFile where
  minorVersion := 0
  majorVersion := 65
  constantPool := pool
  accessFlags := fl
  thisClass := this
  superClass := sup
  interfaces := ifs
  fields := fds
  methods := ms
  attributes := attrs
def plain (name : String) (sup : Option ClassId) : Class where
  name := name
  kind := .ordinary
  loader := none
  accessFlags := 33
  super := sup
  interfaces := #[]
  cf := none
  fields := #[]
  methods := #[]
  instanceTypes := #[]
  staticTypes := #[]
  resolved := #[]
  callSites := []
  init := .initialized
  statics := none
  mirror := none

def pool0 : Array CpInfo := pool [(5, u "<init>"), (0, u "()V"), (1, .class_ 10), (1, u "java/lang/Object")] 113

def k0m0 : Method := { name := "<init>", desc := "()V", sig := { parameters := [], returnType := none }, accessFlags := 1, code := none }
/-- java/lang/Object -/
def k0 : Class := { plain "java/lang/Object" none with
  accessFlags := 33
  interfaces := #[]
  cf := some (fileOf pool0 8 #[] #[{ accessFlags := 1, nameIndex := 5, descriptorIndex := 6, attributes := #[] }] 33 0 #[] #[])
  fields := #[]
  methods := #[k0m0]
  instanceTypes := #[]
  staticTypes := #[]
  resolved := Array.replicate 124 none
  statics := none }

def pool1 : Array CpInfo := pool [(2, .class_ 4), (1, u "java/lang/Object"), (0, u "<init>"), (0, u "()V"), (0, .integer 2147483647), (0, .methodref 9 10), (0, .class_ 11), (0, .nameAndType 12 13), (0, u "java/lang/Math"), (0, u "min"), (0, u "(II)I"), (0, .class_ 15), (0, u "com/example/powderhorn/powderhorn/rules/escarmouche/Initiative"), (0, .fieldref 14 17), (0, .nameAndType 18 19), (0, u "KEEP"), (0, u "Lcom/example/powderhorn/powderhorn/rules/escarmouche/Initiative;"), (0, .fieldref 14 21), (0, .nameAndType 22 19), (0, u "FIGURE_ENDS"), (0, .fieldref 14 24), (0, .nameAndType 25 19), (0, u "SIDE_ENDS"), (0, .methodref 14 27), (0, .nameAndType 28 29), (0, u "after"), (0, u "(IZ)Lcom/example/powderhorn/powderhorn/rules/escarmouche/Initiative;"), (0, .class_ 31), (0, u "com/example/powderhorn/powderhorn/rules/escarmouche/InitiativeAfterPinLaw"), (2, u "law"), (0, u "(II)Z")] 5

def k1m0 : Method := { name := "<init>", desc := "()V", sig := { parameters := [], returnType := none }, accessFlags := 1, code := none }
def k1c1 : Code := { maxStack := 4, maxLocals := 8, code := code, exceptionTable := #[], attributes := #[] }
def k1m1 : Method := { name := "law", desc := "(II)Z", sig := { parameters := [.int, .int], returnType := some .boolean }, accessFlags := 9, code := some k1c1 }
/-- com/example/powderhorn/powderhorn/rules/escarmouche/InitiativeAfterPinLaw -/
def k1 : Class := { plain "com/example/powderhorn/powderhorn/rules/escarmouche/InitiativeAfterPinLaw" (some 0) with
  accessFlags := 49
  interfaces := #[]
  cf := some (fileOf pool1 30 #[] #[{ accessFlags := 1, nameIndex := 5, descriptorIndex := 6, attributes := #[] }, { accessFlags := 9, nameIndex := 34, descriptorIndex := 35, attributes := #[] }] 49 2 #[] #[])
  fields := #[]
  methods := #[k1m0, k1m1]
  instanceTypes := #[]
  staticTypes := #[]
  resolved := Array.replicate 41 none
  statics := none }

def pool2 : Array CpInfo := pool [(1, .class_ 2), (0, u "java/lang/Math"), (1, .class_ 6), (1, u "java/lang/Object"), (0, u "<init>"), (0, u "()V"), (89, .class_ 100), (1, u "java/lang/Math$RandomNumberGeneratorHolder"), (71, u "negativeZeroFloatBits"), (0, u "J"), (2, u "negativeZeroDoubleBits"), (24, u "min"), (43, u "$assertionsDisabled"), (0, u "Z"), (88, u "(II)I"), (2, u "twoToTheDoubleScaleDown"), (0, u "D"), (4, u "twoToTheDoubleScaleUp"), (9, u "E"), (3, u "PI"), (2, u "TAU"), (2, u "DEGREES_TO_RADIANS"), (0, u "RADIANS_TO_DEGREES")] 94

def k2m0 : Method := { name := "<init>", desc := "()V", sig := { parameters := [], returnType := none }, accessFlags := 2, code := none }
def k2c1 : Code := { maxStack := 2, maxLocals := 2, code := jdk_29_method_69_code, exceptionTable := #[], attributes := #[] }
def k2m1 : Method := { name := "min", desc := "(II)I", sig := { parameters := [.int, .int], returnType := some .int }, accessFlags := 9, code := some k2c1 }
/-- java/lang/Math -/
def k2 : Class := { plain "java/lang/Math" (some 0) with
  accessFlags := 49
  interfaces := #[]
  cf := some (fileOf pool2 1 #[.nestMembers #[98]] #[{ accessFlags := 2, nameIndex := 7, descriptorIndex := 8, attributes := #[] }, { accessFlags := 9, nameIndex := 201, descriptorIndex := 335, attributes := #[] }] 49 4 #[] #[{ accessFlags := 25, nameIndex := 354, descriptorIndex := 339, attributes := #[] }, { accessFlags := 25, nameIndex := 358, descriptorIndex := 339, attributes := #[] }, { accessFlags := 25, nameIndex := 361, descriptorIndex := 339, attributes := #[] }, { accessFlags := 26, nameIndex := 364, descriptorIndex := 339, attributes := #[] }, { accessFlags := 26, nameIndex := 365, descriptorIndex := 339, attributes := #[] }, { accessFlags := 26, nameIndex := 172, descriptorIndex := 173, attributes := #[] }, { accessFlags := 26, nameIndex := 176, descriptorIndex := 173, attributes := #[] }, { accessFlags := 8, nameIndex := 344, descriptorIndex := 339, attributes := #[] }, { accessFlags := 8, nameIndex := 338, descriptorIndex := 339, attributes := #[] }, { accessFlags := 4120, nameIndex := 245, descriptorIndex := 246, attributes := #[] }])
  fields := #[{ name := "E", type := .double, accessFlags := 25, slot := 0, constantValue := 0 }, { name := "PI", type := .double, accessFlags := 25, slot := 1, constantValue := 0 }, { name := "TAU", type := .double, accessFlags := 25, slot := 2, constantValue := 0 }, { name := "DEGREES_TO_RADIANS", type := .double, accessFlags := 26, slot := 3, constantValue := 0 }, { name := "RADIANS_TO_DEGREES", type := .double, accessFlags := 26, slot := 4, constantValue := 0 }, { name := "negativeZeroFloatBits", type := .long, accessFlags := 26, slot := 5, constantValue := 0 }, { name := "negativeZeroDoubleBits", type := .long, accessFlags := 26, slot := 6, constantValue := 0 }, { name := "twoToTheDoubleScaleUp", type := .double, accessFlags := 8, slot := 7, constantValue := 0 }, { name := "twoToTheDoubleScaleDown", type := .double, accessFlags := 8, slot := 8, constantValue := 0 }, { name := "$assertionsDisabled", type := .boolean, accessFlags := 4120, slot := 9, constantValue := 0 }]
  methods := #[k2m0, k2m1]
  instanceTypes := #[]
  staticTypes := #[.double, .double, .double, .double, .double, .long, .long, .double, .double, .boolean]
  resolved := Array.replicate 460 none
  statics := none }

def pool3 : Array CpInfo := pool [(1, .class_ 2), (0, u "java/lang/constant/Constable"), (0, .class_ 4), (0, u "java/lang/Object")] 6

/-- java/lang/constant/Constable -/
def k3 : Class := { plain "java/lang/constant/Constable" (some 0) with
  accessFlags := 1537
  interfaces := #[]
  cf := some (fileOf pool3 1 #[] #[] 1537 3 #[] #[])
  fields := #[]
  methods := #[]
  instanceTypes := #[]
  staticTypes := #[]
  resolved := Array.replicate 11 none
  statics := none }

def pool4 : Array CpInfo := pool [(1, .class_ 2), (0, u "java/lang/Comparable"), (0, .class_ 4), (0, u "java/lang/Object")] 7

/-- java/lang/Comparable -/
def k4 : Class := { plain "java/lang/Comparable" (some 0) with
  accessFlags := 1537
  interfaces := #[]
  cf := some (fileOf pool4 1 #[] #[] 1537 3 #[] #[])
  fields := #[]
  methods := #[]
  instanceTypes := #[]
  staticTypes := #[]
  resolved := Array.replicate 12 none
  statics := none }

def pool5 : Array CpInfo := pool [(1, .class_ 2), (0, u "java/io/Serializable"), (0, .class_ 4), (0, u "java/lang/Object")] 2

/-- java/io/Serializable -/
def k5 : Class := { plain "java/io/Serializable" (some 0) with
  accessFlags := 1537
  interfaces := #[]
  cf := some (fileOf pool5 1 #[] #[] 1537 3 #[] #[])
  fields := #[]
  methods := #[]
  instanceTypes := #[]
  staticTypes := #[]
  resolved := Array.replicate 7 none
  statics := none }

def pool6 : Array CpInfo := pool [(2, .class_ 4), (1, u "java/lang/Enum"), (0, u "name"), (0, u "Ljava/lang/String;"), (2, u "ordinal"), (0, u "I"), (1, .class_ 14), (1, u "java/lang/Object"), (4, u "hash"), (86, .class_ 108), (1, u "java/lang/Enum$EnumDesc"), (2, .class_ 112), (0, u "java/lang/constant/Constable"), (0, .class_ 114), (0, u "java/lang/Comparable"), (0, .class_ 116), (0, u "java/io/Serializable")] 87

/-- java/lang/Enum -/
def k6 : Class := { plain "java/lang/Enum" (some 0) with
  accessFlags := 1057
  interfaces := #[3, 4, 5]
  cf := some (fileOf pool6 2 #[.nestMembers #[106]] #[] 1057 12 #[111, 113, 115] #[{ accessFlags := 18, nameIndex := 5, descriptorIndex := 6, attributes := #[] }, { accessFlags := 18, nameIndex := 9, descriptorIndex := 10, attributes := #[] }, { accessFlags := 2, nameIndex := 19, descriptorIndex := 10, attributes := #[] }])
  fields := #[{ name := "name", type := (.object "java/lang/String"), accessFlags := 18, slot := 0, constantValue := 0 }, { name := "ordinal", type := .int, accessFlags := 18, slot := 1, constantValue := 0 }, { name := "hash", type := .int, accessFlags := 2, slot := 2, constantValue := 0 }]
  methods := #[]
  instanceTypes := #[(.object "java/lang/String"), .int, .int]
  staticTypes := #[]
  resolved := Array.replicate 204 none
  statics := none }

def pool7 : Array CpInfo := pool [(1, .class_ 2), (0, u "com/example/powderhorn/powderhorn/rules/escarmouche/Initiative"), (0, .fieldref 1 4), (0, .nameAndType 5 6), (0, u "KEEP"), (0, u "Lcom/example/powderhorn/powderhorn/rules/escarmouche/Initiative;"), (0, .fieldref 1 8), (0, .nameAndType 9 6), (0, u "FIGURE_ENDS"), (0, .fieldref 1 11), (0, .nameAndType 12 6), (0, u "SIDE_ENDS"), (2, u "$VALUES"), (0, u "[Lcom/example/powderhorn/powderhorn/rules/escarmouche/Initiative;"), (6, .class_ 25), (1, u "java/lang/Enum"), (8, u "name"), (0, u "Ljava/lang/String;"), (53, u "after"), (0, u "(IZ)Lcom/example/powderhorn/powderhorn/rules/escarmouche/Initiative;")] 97

def k7c0 : Code := { maxStack := 2, maxLocals := 3, code := prog_53_method_4_code, exceptionTable := #[], attributes := #[] }
def k7m0 : Method := { name := "after", desc := "(IZ)Lcom/example/powderhorn/powderhorn/rules/escarmouche/Initiative;", sig := { parameters := [.int, .boolean], returnType := some (.object "com/example/powderhorn/powderhorn/rules/escarmouche/Initiative") }, accessFlags := 9, code := some k7c0 }
/-- com/example/powderhorn/powderhorn/rules/escarmouche/Initiative -/
def k7 : Class := { plain "com/example/powderhorn/powderhorn/rules/escarmouche/Initiative" (some 6) with
  accessFlags := 16433
  interfaces := #[]
  cf := some (fileOf pool7 1 #[] #[{ accessFlags := 9, nameIndex := 89, descriptorIndex := 90, attributes := #[] }] 16433 23 #[] #[{ accessFlags := 16409, nameIndex := 5, descriptorIndex := 6, attributes := #[] }, { accessFlags := 16409, nameIndex := 9, descriptorIndex := 6, attributes := #[] }, { accessFlags := 16409, nameIndex := 12, descriptorIndex := 6, attributes := #[] }, { accessFlags := 18, nameIndex := 34, descriptorIndex := 35, attributes := #[] }, { accessFlags := 4122, nameIndex := 15, descriptorIndex := 16, attributes := #[] }])
  fields := #[{ name := "KEEP", type := (.object "com/example/powderhorn/powderhorn/rules/escarmouche/Initiative"), accessFlags := 16409, slot := 0, constantValue := 0 }, { name := "FIGURE_ENDS", type := (.object "com/example/powderhorn/powderhorn/rules/escarmouche/Initiative"), accessFlags := 16409, slot := 1, constantValue := 0 }, { name := "SIDE_ENDS", type := (.object "com/example/powderhorn/powderhorn/rules/escarmouche/Initiative"), accessFlags := 16409, slot := 2, constantValue := 0 }, { name := "name", type := (.object "java/lang/String"), accessFlags := 18, slot := 3, constantValue := 0 }, { name := "$VALUES", type := (.array (.object "com/example/powderhorn/powderhorn/rules/escarmouche/Initiative")), accessFlags := 4122, slot := 3, constantValue := 0 }]
  methods := #[k7m0]
  instanceTypes := #[(.object "java/lang/String"), .int, .int, (.object "java/lang/String")]
  staticTypes := #[(.object "com/example/powderhorn/powderhorn/rules/escarmouche/Initiative"), (.object "com/example/powderhorn/powderhorn/rules/escarmouche/Initiative"), (.object "com/example/powderhorn/powderhorn/rules/escarmouche/Initiative"), (.array (.object "com/example/powderhorn/powderhorn/rules/escarmouche/Initiative"))]
  resolved := Array.replicate 188 none
  statics := some 0 }

def pool8 : Array CpInfo := pool [(1, u "java/lang/Cloneable"), (0, .class_ 1), (0, u "java/lang/Object"), (0, .class_ 3)] 3

/-- java/lang/Cloneable -/
def k8 : Class := { plain "java/lang/Cloneable" (some 0) with
  accessFlags := 1537
  interfaces := #[]
  cf := some (fileOf pool8 2 #[] #[] 1537 4 #[] #[])
  fields := #[]
  methods := #[]
  instanceTypes := #[]
  staticTypes := #[]
  resolved := Array.replicate 8 none
  statics := none }

/-- the primitive byte -/
def k9 : Class := { plain "byte" none with kind := .primitive 'B', accessFlags := 0x411 }
/-- [B -/
def k10 : Class := { plain "[B" (some 0) with kind := .array 9 .byte, interfaces := #[8, 5], accessFlags := 1041 }

/-- [Lcom/example/powderhorn/powderhorn/rules/escarmouche/Initiative; -/
def k11 : Class := { plain "[Lcom/example/powderhorn/powderhorn/rules/escarmouche/Initiative;" (some 0) with kind := .array 7 (.object "com/example/powderhorn/powderhorn/rules/escarmouche/Initiative"), interfaces := #[8, 5], accessFlags := 1041 }

def heap : Heap := #[{ cls := 7, slots := #[.ref 1, .ref 2, .ref 3, .null], vm := .statics 7 },
  { cls := 7, slots := #[.null, .int 0, .int 0, .null], vm := .none },
  { cls := 7, slots := #[.null, .int 0, .int 0, .null], vm := .none },
  { cls := 7, slots := #[.null, .int 0, .int 0, .null], vm := .none }]
def classes : Array Class := #[k0, k1, k2, k3, k4, k5, k6, k7, k8, k9, k10, k11]
def interned : List (Array UInt16 × Addr) := []
def slotsUsed : Nat := 16
def theMethod : MethodId := ⟨1, 1⟩
def args0 : Array Value := #[.int 5, .int 3]
def aboutOver (below : List Frame) : State where
  vm := { classes := classes, interned := interned.toArray }
  heap := heap
  slotsUsed := slotsUsed
  threads := #[{ frames := .invoking theMethod args0 :: below }]
def below0 : List Frame := [.native { method := ⟨0, 0⟩, args := #[] }]
def about1 : State := aboutOver below0
def p0 : Program := .bare "" "" ""
def e0 : Env := launch0.env 0 0 0
theorem w_frames : about1.frames = Frame.invoking theMethod args0 :: below0 := rfl
set_option maxRecDepth 65536 in
theorem w_args : argsFit about1.vm theMethod args0 = true := by decide +kernel
set_option maxRecDepth 65536 in
theorem w_heap : heapFits about1 = true := by decide +kernel
set_option maxRecDepth 65536 in
theorem w_runnable : about1.curStatus? = some .runnable := by decide +kernel
set_option maxRecDepth 65536 in
theorem w_alone : about1.alone = true := by decide +kernel
set_option maxRecDepth 65536 in
theorem w_named : about1.methodNamed? x = some theMethod := by decide +kernel
set_option maxRecDepth 65536 in
theorem w_hears : about1.hears theMethod below0 = true := by decide +kernel
set_option maxRecDepth 65536 in
theorem w_ripe : about1.ripe theMethod args0 below0 = true := by decide +kernel
theorem w_running : about1.status = .running := rfl
set_option maxRecDepth 65536 in
theorem w_room : about1.hasRoom e0.platform room_1 = true :=
  launch0.hasRoom_least _ room_1 (by decide +kernel) (by decide +kernel) (by decide +kernel) (by decide +kernel) (by decide +kernel) (by decide +kernel)
theorem allAtoms_all (ts : List Jvm.Cond) (a : Array Jvm.Value) (st : Jvm.State) : (allAtoms ts).before a st = ts.all (fun c => c.before a st) := by
  induction ts with
  | nil => rfl
  | cons c t ih =>
    show (Jvm.Cond.and c (allAtoms t)).before a st = _
    rw [Jvm.Cond.before_and, ih, List.all_cons]
def words1 : List Jvm.Cond := Jvm.Cond.code x code maxLocals ret :: tables_1
/-- a 'code' word, met by the world's own term for the bytes: nothing is compared byte by byte -/
theorem code_word {y : MethodName} {bytes : ByteArray} {mx : Nat} {rt : Option FieldType} {a : Array Value} {s : State} {m : MethodId} {meth : Method} {c : Code} (h1 : s.methodNamed? y = some m) (h2 : s.vm.method? m = some meth) (h3 : meth.code = some c) (h4 : c.code = bytes)
    (h5 : (c.maxLocals == mx && c.exceptionTable.isEmpty && decide (c.maxStack ≤ mostOperands) && decide (meth.sig.returnType = rt) && !meth.locks && decide (parseMethodDescriptor y.desc = some meth.sig)) = true) : (Jvm.Cond.code y bytes mx rt).before a s = true := by
  simp only [Bool.and_eq_true, beq_iff_eq, Bool.not_eq_true', decide_eq_true_eq] at h5
  obtain ⟨⟨⟨⟨⟨g1, g2⟩, g3⟩, g4⟩, g5⟩, g6⟩ := h5
  simp [Cond.before, Cond.holds, Cond.value, h1, h2, h3, h4, g1, g2, g3, g4, g5, g6]
def isCode : Jvm.Cond → Bool
  | .code _ _ _ _ => true
  | _ => false
theorem all_split {L : List Jvm.Cond} {P : Jvm.Cond → Bool} (h1 : L.all (fun c => isCode c || P c) = true) (h2 : ∀ c ∈ L.filter isCode, P c = true) : L.all P = true := by
  refine List.all_eq_true.mpr fun c hc => ?_
  have h := List.all_eq_true.mp h1 c hc
  rcases Bool.eq_false_or_eq_true (isCode c) with hi | hi
  · exact h2 c (List.mem_filter.mpr ⟨hc, hi⟩)
  · simpa [hi] using h
set_option maxRecDepth 65536 in
theorem w_c0 : (Jvm.Cond.code x code maxLocals ret).before args0 about1 = true := code_word (m := ⟨1, 1⟩) (meth := k1m1) (c := k1c1) (by decide +kernel) rfl rfl rfl (by decide +kernel)
set_option maxRecDepth 65536 in
theorem w_c1 : (Jvm.Cond.code ({ cls := "java/lang/Math", name := "min", desc := "(II)I" } : Jvm.MethodName) jdk_29_method_69_code (2 : Nat) (Option.some Jvm.ClassFile.FieldType.int)).before args0 about1 = true := code_word (m := ⟨2, 1⟩) (meth := k2m1) (c := k2c1) (by decide +kernel) rfl rfl rfl (by decide +kernel)
set_option maxRecDepth 65536 in
theorem w_c2 : (Jvm.Cond.code ({ cls := "com/example/powderhorn/powderhorn/rules/escarmouche/Initiative", name := "after", desc := "(IZ)Lcom/example/powderhorn/powderhorn/rules/escarmouche/Initiative;" } : Jvm.MethodName) prog_53_method_4_code (3 : Nat) (Option.some (Jvm.ClassFile.FieldType.object "com/example/powderhorn/powderhorn/rules/escarmouche/Initiative"))).before args0 about1 = true := code_word (m := ⟨7, 0⟩) (meth := k7m0) (c := k7c0) (by decide +kernel) rfl rfl rfl (by decide +kernel)
def codes1 : List Jvm.Cond := [Jvm.Cond.code x code maxLocals ret, Jvm.Cond.code ({ cls := "java/lang/Math", name := "min", desc := "(II)I" } : Jvm.MethodName) jdk_29_method_69_code (2 : Nat) (Option.some Jvm.ClassFile.FieldType.int), Jvm.Cond.code ({ cls := "com/example/powderhorn/powderhorn/rules/escarmouche/Initiative", name := "after", desc := "(IZ)Lcom/example/powderhorn/powderhorn/rules/escarmouche/Initiative;" } : Jvm.MethodName) prog_53_method_4_code (3 : Nat) (Option.some (Jvm.ClassFile.FieldType.object "com/example/powderhorn/powderhorn/rules/escarmouche/Initiative"))]
set_option maxRecDepth 65536 in
theorem codes_eq : words1.filter isCode = codes1 := rfl
theorem w_codes : ∀ c ∈ words1.filter isCode, c.before args0 about1 = true := by
  rw [codes_eq]
  intro c hc
  simp only [codes1, List.mem_cons, List.not_mem_nil, or_false] at hc
  rcases hc with rfl | rfl | rfl
  · exact w_c0
  · exact w_c1
  · exact w_c2
set_option maxRecDepth 65536 in
theorem w_t1 : words1.all (fun c => isCode c || c.before args0 about1) = true := by decide +kernel
theorem w_tables : (allAtoms (Jvm.Cond.code x code maxLocals ret :: tables_1)).before args0 about1 = true := by
  rw [allAtoms_all]
  show words1.all (fun c => c.before args0 about1) = true
  refine all_split ?_ w_codes
  rw [w_t1]
set_option maxRecDepth 65536 in
theorem w_case : (Jvm.Cond.and given_1 narrow_1).before args0 about1 = true := by decide +kernel
theorem w_applies : (headSpec (Jvm.Cond.code x code maxLocals ret :: tables_1) room_1).applies x e0.platform about1 = true :=
  (Spec.applies_iff w_frames).mpr ⟨w_running, w_runnable, w_alone, w_named, w_hears, w_ripe, w_room, w_tables⟩
theorem atStart : AtStart classFile x code maxLocals ret World_1 tables_1 room_1 Calls_1 rest_1 Pre_1 launch0 p0 e0 about1 theMethod args0 below0 :=
  ⟨lists_1, trivial, launch0.admits_env _ _ _, launch0.least_env, fairChoices_fair.cas, fairChoices_fair.clock, w_frames, w_args, w_heap, w_applies, trivial, trivial, w_case⟩
end start1
theorem witness_1 : WitnessClaimed_1 := ⟨start1.p0, start1.e0, start1.about1, start1.theMethod, start1.args0, start1.below0, start1.atStart⟩
end Jvm.Pilot.@@N@@
