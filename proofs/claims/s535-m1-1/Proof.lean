import JvmDerived
import JvmDerived.Pilot.@@N@@Statement
import JvmDerived.Pilot.@@N@@Code
set_option linter.unusedVariables false
set_option linter.unusedSimpArgs false
namespace Jvm.RoadKit
open Sem ClassFile Op Lib Jvm.Stand Jvm.Free Jvm.LawKit
section Own
/-- from u a state is reached where R holds -/
def own_Go (tb : Tables) (e : Env) (below : List Frame) (R : State → Prop) (u : State) : Prop := ∃ t, Steps tb e below u t ∧ R t
theorem own_st {tb : Tables} {e : Env} {below : List Frame} {R : State → Prop} {u v : State} (h : ∀ t, Steps tb e below v t → Steps tb e below u t) (g : own_Go tb e below R v) : own_Go tb e below R u := by
  obtain ⟨t, h1, h2⟩ := g
  exact ⟨t, h t h1, h2⟩
theorem own_fin {tb : Tables} {e : Env} {below : List Frame} {R : State → Prop} {u t : State} (h : Steps tb e below u t) (r : R t) : own_Go tb e below R u := ⟨t, h, r⟩
theorem own_in {tb : Tables} {e : Env} {below : List Frame} {u v : State} {P : State → Outcome → Prop} (h : ∀ t, Steps tb e below v t → Steps tb e below u t)
    (g : ∀ RR : State → Prop, (∀ t, (∃ o, t.status = .running ∧ P t o) → RR t) → own_Go tb e below RR v) : ∃ t o, Steps tb e below u t ∧ t.status = .running ∧ P t o := by
  obtain ⟨t, h1, o, h2, h3⟩ := g (fun t => ∃ o, t.status = .running ∧ P t o) fun _ q => q
  exact ⟨t, o, h t h1, h2, h3⟩
theorem own_ri {x y : Int32} (h : x = y) : some (Value.int x) = some (Value.int y) := h ▸ rfl
theorem own_rj {x y : Int64} (h : x = y) : some (Value.long x) = some (Value.long y) := h ▸ rfl
theorem own_rr {x y : Addr} (h : x = y) : some (Value.ref x) = some (Value.ref y) := h ▸ rfl
theorem own_eq_int {args : Array Value} {first s : State} {o : Option Outcome} {idx : List Nat} {a : Term} {k : Int32} (h : (Cond.eq a (.int k)).value args first o s idx = some true) : a.eval args first o idx s = some (.int k) := by
  simp only [Cond.value, Term.eval] at h
  cases ht : a.eval args first o idx s with
  | none => simp [ht] at h
  | some x => cases x <;> simp [ht] at h ⊢; exact h
theorem own_eq_long {args : Array Value} {first s : State} {o : Option Outcome} {idx : List Nat} {a : Term} {k : Int64} (h : (Cond.eq a (.long k)).value args first o s idx = some true) : a.eval args first o idx s = some (.long k) := by
  simp only [Cond.value, Term.eval] at h
  cases ht : a.eval args first o idx s with
  | none => simp [ht] at h
  | some x => cases x <;> simp [ht] at h ⊢; exact h
theorem own_selP {s : State} {args : Array Value} {y : MethodName} {n : Nat} (wi : (Cond.instantiable y.cls n).before args s = true) (hp : s.PrivateAt y) (hi : (Cond.instanceMethod y).before args s = true) (hy : y.cls ≠ "java/lang/invoke/MethodHandle" ∧ y.cls ≠ "java/lang/invoke/VarHandle") : (Cond.selects y.cls y y).before args s = true := by
  obtain ⟨c, k, h1, h2, -, h4, -⟩ := Cond.instantiable_spec wi
  exact selects_self_of_private h1 h2 (Bool.or_eq_false_iff.mp h4).1 hp hi hy
variable {p : Program} {l : Launch} {e : Env} {R : Room} {s : State} {m : MethodId} {args : Array Value} {below : List Frame} {meth : Method} {c : Code} {T : State} {locs : List Loc} {cells slots : Nat} {Z : State} {h : Heap}
theorem retI (X : Stand p l e R s m args below meth c T locs cells slots) (hx : p.tables.exec = Jvm.exec) {pc : Nat} {Ls : Array Slot} {z : Int32} {rest : List Value} (hret : meth.sig.returnType = some .int) (hd : decode c.code pc = .ok (.ireturn, 1)) {fs : List Frame}
    (hl : ∀ (f : JFrame) (acts : List Action), f.method = m → f.locked = none → f.entered = [] → (doReturn e (T.setTop f) acts (some (.int z))).1 = T.setFrames fs) : Steps p.tables e below (T.setTop (mkF m pc Ls (.int z :: rest))) (T.setFrames fs) :=
  retOut X hx hret rfl (Or.inl ⟨rfl, Or.inl rfl, z, rfl⟩) hd hl
theorem own_len (X : Stand p l e R s m args below meth c T locs cells slots) (hx : p.tables.exec = Jvm.exec) (hZ : Z.Warmed39 s.vm) (eT : T.heap = h) {a : Addr} {cl : Cell} {ty : FieldType} (A : Arr Z h a cl ty) {z : Int32} (S : cl.slots.size = z.toNatClampNeg) (N : ¬ z < 0)
    {g : JFrame} (hg : g.method = m) {rest : List Value} (hs : g.stack = .ref a :: rest) (hd : decode c.code g.pc = .ok (.arraylength, 1)) {target : State}
    (k : Steps p.tables e below (T.setTop { g with pc := g.pc + 1, stack := .int z :: rest }) target) : Steps p.tables e below (T.setTop g) target :=
  X.arraylength hx (by rw [eT]; exact A.1) (State.isArrayOf_alike hZ.alike A.2.1) hg hs hd target (by rw [len_of S N]; exact k)
end Own
end Jvm.RoadKit
namespace Jvm.Pilot.@@N@@
open Jvm Jvm.ClassFile Sem Op Lib Jvm.Free Jvm.Stand Jvm.LawKit Jvm.RoadKit Bundle Jvm.Pilot.@@N@@.Jvm.D
def own_pick (k : Int32) (a0 a1 a2 a3 a4 a5 : Addr) : Addr := if k = 0 then a0 else if k = 1 then a1 else if k = 2 then a2 else if k = 3 then a3 else if k = 4 then a4 else a5
theorem own_six {x v : Int32} (h : (x &&& (2147483647 : Int32)) % (6 : Int32) = v) : v = 0 ∨ v = 1 ∨ v = 2 ∨ v = 3 ∨ v = 4 ∨ v = 5 := by
  have h1 := c_mask x 2147483647 31 (by decide) (by decide)
  have h2 := c_irem (x &&& 2147483647) 6 6 (by decide)
  rw [h] at h2
  have e : v.toInt = 0 ∨ v.toInt = 1 ∨ v.toInt = 2 ∨ v.toInt = 3 ∨ v.toInt = 4 ∨ v.toInt = 5 := by omega
  simpa [← Int32.toInt_inj] using e
theorem own_pn_com_example_seshat_seshat_query_OperatorListsValuesPinLaw : plainName "com/example/seshat/seshat/query/OperatorListsValuesPinLaw" = true := by first | (simp [plainName, overriddenIn]; done) | decide +kernel
theorem own_dmethod_2_code_0 : decode method_2_code 0 = .ok (.iload_n 0, 1) := by decide +kernel
theorem own_dmethod_2_code_1 : decode method_2_code 1 = .ok (.ifCond .ne 7, 3) := by decide +kernel
theorem own_dmethod_2_code_4 : decode method_2_code 4 = .ok (.getstatic 7, 3) := by decide +kernel
theorem own_dmethod_2_code_7 : decode method_2_code 7 = .ok (.areturn, 1) := by decide +kernel
theorem own_dmethod_2_code_8 : decode method_2_code 8 = .ok (.iload_n 0, 1) := by decide +kernel
theorem own_dmethod_2_code_9 : decode method_2_code 9 = .ok (.iconst 1, 1) := by decide +kernel
theorem own_dmethod_2_code_10 : decode method_2_code 10 = .ok (.if_icmp .ne 7, 3) := by decide +kernel
theorem own_dmethod_2_code_13 : decode method_2_code 13 = .ok (.getstatic 13, 3) := by decide +kernel
theorem own_dmethod_2_code_16 : decode method_2_code 16 = .ok (.areturn, 1) := by decide +kernel
theorem own_dmethod_2_code_17 : decode method_2_code 17 = .ok (.iload_n 0, 1) := by decide +kernel
theorem own_dmethod_2_code_18 : decode method_2_code 18 = .ok (.iconst 2, 1) := by decide +kernel
theorem own_dmethod_2_code_19 : decode method_2_code 19 = .ok (.if_icmp .ne 7, 3) := by decide +kernel
theorem own_dmethod_2_code_22 : decode method_2_code 22 = .ok (.getstatic 16, 3) := by decide +kernel
theorem own_dmethod_2_code_25 : decode method_2_code 25 = .ok (.areturn, 1) := by decide +kernel
theorem own_dmethod_2_code_26 : decode method_2_code 26 = .ok (.iload_n 0, 1) := by decide +kernel
theorem own_dmethod_2_code_27 : decode method_2_code 27 = .ok (.iconst 3, 1) := by decide +kernel
theorem own_dmethod_2_code_28 : decode method_2_code 28 = .ok (.if_icmp .ne 7, 3) := by decide +kernel
theorem own_dmethod_2_code_31 : decode method_2_code 31 = .ok (.getstatic 19, 3) := by decide +kernel
theorem own_dmethod_2_code_34 : decode method_2_code 34 = .ok (.areturn, 1) := by decide +kernel
theorem own_dmethod_2_code_35 : decode method_2_code 35 = .ok (.iload_n 0, 1) := by decide +kernel
theorem own_dmethod_2_code_36 : decode method_2_code 36 = .ok (.iconst 4, 1) := by decide +kernel
theorem own_dmethod_2_code_37 : decode method_2_code 37 = .ok (.if_icmp .ne 7, 3) := by decide +kernel
theorem own_dmethod_2_code_40 : decode method_2_code 40 = .ok (.getstatic 22, 3) := by decide +kernel
theorem own_dmethod_2_code_43 : decode method_2_code 43 = .ok (.areturn, 1) := by decide +kernel
theorem own_dmethod_2_code_44 : decode method_2_code 44 = .ok (.getstatic 25, 3) := by decide +kernel
theorem own_dmethod_2_code_47 : decode method_2_code 47 = .ok (.areturn, 1) := by decide +kernel
theorem own_efP (m : MethodId) (p1 : Int32) : entryFrame m #[(.int p1)] 1 = mkF m 0 #[.val (.int p1)] [] := by first | (simp [entryFrame, mkF, argsToLocals, Value.category]; done) | rfl
def own_QP (Z : State) (p1 : Int32) (a_EQ : Addr) (a_IN : Addr) (a_LTE : Addr) (a_GT : Addr) (a_LT : Addr) (a_GTE : Addr) (r : Addr) (h0 : Heap) (n0 : Nat) (rv__ : Option Value) (h : Heap) (rL__ : List Loc) : Prop := rv__ = some (.ref r) ∧ Fr n0 rL__ ∧ h = h0
abbrev own_RP : Room := { frames := 0, cells := 0, slots := 0, locals := 0 }
set_option maxRecDepth 65536 in
set_option maxHeartbeats 40000000 in
theorem own_rmP (l : Launch) (Z : State) (a0 : Array Value) (hw : ∀ d ∈ tables_1, d.before a0 Z = true) (ws : List Jvm.Cond) (p1 : Int32) (a_EQ : Addr) (a_IN : Addr) (a_LTE : Addr) (a_GT : Addr) (a_LT : Addr) (a_GTE : Addr) (r : Addr) (h0 : Heap) (n0 : Nat) (Z0 : n0 ≤ h0.size) (S_EQ : Sta Z h0 "com/example/seshat/seshat/query/Operator" "EQ" "Lcom/example/seshat/seshat/query/Operator;" (.ref a_EQ)) (S_IN : Sta Z h0 "com/example/seshat/seshat/query/Operator" "IN" "Lcom/example/seshat/seshat/query/Operator;" (.ref a_IN)) (S_LTE : Sta Z h0 "com/example/seshat/seshat/query/Operator" "LTE" "Lcom/example/seshat/seshat/query/Operator;" (.ref a_LTE)) (S_GT : Sta Z h0 "com/example/seshat/seshat/query/Operator" "GT" "Lcom/example/seshat/seshat/query/Operator;" (.ref a_GT)) (S_LT : Sta Z h0 "com/example/seshat/seshat/query/Operator" "LT" "Lcom/example/seshat/seshat/query/Operator;" (.ref a_LT)) (S_GTE : Sta Z h0 "com/example/seshat/seshat/query/Operator" "GTE" "Lcom/example/seshat/seshat/query/Operator;" (.ref a_GTE)) (hp : own_pick p1 a_EQ a_LT a_GT a_LTE a_GTE a_IN = r) :
    MetFree l (⟨"com/example/seshat/seshat/query/OperatorListsValuesPinLaw", "pick", "(I)Lcom/example/seshat/seshat/query/Operator;"⟩ : MethodName) (head1 (Jvm.Cond.code (⟨"com/example/seshat/seshat/query/OperatorListsValuesPinLaw", "pick", "(I)Lcom/example/seshat/seshat/query/Operator;"⟩ : MethodName) method_2_code 1 (some (.object "com/example/seshat/seshat/query/Operator")) :: ws) own_RP) (fun aa__ U => aa__ = #[(.int p1)] ∧ Z.Warmed39 U.vm ∧ U.heap = h0) (fun _ _ _ _ _ => True) (fun _ U oc_ U' => ∃ rv__ rL__, oc_ = .returned rv__ ∧ own_QP Z p1 a_EQ a_IN a_LTE a_GT a_LT a_GTE r h0 n0 rv__ U'.heap rL__ ∧ FrameEnd U oc_ U' rL__ own_RP.cells own_RP.slots) := by
  refine MetFree.of_bodySF (plainFor_of_name own_pn_com_example_seshat_seshat_query_OperatorListsValuesPinLaw) hisR ?_
  intro p e s m args below meth c s₁ Bd hml0 hP hK
  obtain ⟨rfl, hZ, hh⟩ := hP
  have hx := Bd.exec
  have hby := Bd.bytes
  have hml : c.maxLocals = 1 := hml0
  have hown : s.vm.findClass "com/example/seshat/seshat/query/OperatorListsValuesPinLaw" = some m.cls := findClass_of_methodNamed Bd.named
  have hnm := (name_of_methodNamed Bd.named Bd.method).1
  have X0 : Stand p l e own_RP s m #[(.int p1)] below meth c s₁ [] 0 0 := Stand.of_body Bd
  have e0 : s₁.heap = h0 := by rw [← hh, Bd.state]; rfl
  have N0 := Fr.nil n0
  refine own_in (fun _ k => castTop (own_efP m p1) k) ?_
  intro RR hRR
  show own_Go p.tables e below RR (s₁.setTop (mkF m 0 #[.val (.int p1)] []))
  refine own_st (fun _ k => XS.iloadN X0.here hx rfl (hb hby own_dmethod_2_code_0) rfl k) ?_
  show own_Go p.tables e below RR (s₁.setTop (mkF m 1 #[.val (.int p1)] [(.int p1)]))
  by_cases hc1_1 : p1 = (0 : Int32)
  · refine own_st (fun _ k => XS.ifNo X0.here hx rfl (hb hby own_dmethod_2_code_1) rfl ((if0 _ _).trans (teq hc1_1).2) k) ?_
    show own_Go p.tables e below RR (s₁.setTop (mkF m 4 #[.val (.int p1)] []))
    obtain ⟨T2, X2, e2, st2⟩ := getS2 X0 hx hZ hown (host := "") (Or.inl (hw _ (List.mem_of_getElem? (i := 5) rfl))) Via.refl e0 S_EQ (g := (mkF m 4 #[.val (.int p1)] [])) rfl (hb hby own_dmethod_2_code_4)
    refine own_st st2 ?_
    show own_Go p.tables e below RR (T2.setTop (mkF m 7 #[.val (.int p1)] [(.ref a_EQ)]))
    obtain ⟨fs, hrt_, hrun, hended, hW, hsame⟩ := X2.leave (v := some (.ref a_EQ)) (fun h => by rw [Bd.returns] at h; cases h)
    refine own_fin (retOut X2 hx Bd.returns rfl (Or.inr (Or.inr (Or.inr (Or.inr ⟨rfl, rfl, rfl⟩)))) (hb hby own_dmethod_2_code_7) hrt_) (hRR _ ⟨_, hrun, hended, _, _, rfl, ?_, ⟨_, rfl⟩, hW, hsame.mono (by decide) (by decide)⟩)
    show own_QP Z p1 a_EQ a_IN a_LTE a_GT a_LT a_GTE r h0 n0 _ T2.heap _
    rw [e2]
    exact ⟨own_rr (by simpa [own_pick, hc1_1] using hp), N0, rfl⟩
  · refine own_st (fun _ k => XS.ifYes X0.here hx rfl (pc0 := 1) (pc' := 8) rfl (hb hby own_dmethod_2_code_1) rfl ((if0 _ _).trans (feq hc1_1).2) (by decide) (by decide) (XS.iloadN X0.here hx rfl (hb hby own_dmethod_2_code_8) rfl (XS.iconst X0.here hx rfl (hb hby own_dmethod_2_code_9) k))) ?_
    show own_Go p.tables e below RR (s₁.setTop (mkF m 10 #[.val (.int p1)] [(.int (1 : Int32)), (.int p1)]))
    by_cases hc10_3 : p1 = (1 : Int32)
    · refine own_st (fun _ k => XS.icmpNo X0.here hx rfl (hb hby own_dmethod_2_code_10) rfl (teq hc10_3).2 k) ?_
      show own_Go p.tables e below RR (s₁.setTop (mkF m 13 #[.val (.int p1)] []))
      obtain ⟨T4, X4, e4, st4⟩ := getS2 X0 hx hZ hown (host := "") (Or.inl (hw _ (List.mem_of_getElem? (i := 19) rfl))) Via.refl e0 S_LT (g := (mkF m 13 #[.val (.int p1)] [])) rfl (hb hby own_dmethod_2_code_13)
      refine own_st st4 ?_
      show own_Go p.tables e below RR (T4.setTop (mkF m 16 #[.val (.int p1)] [(.ref a_LT)]))
      obtain ⟨fs, hrt_, hrun, hended, hW, hsame⟩ := X4.leave (v := some (.ref a_LT)) (fun h => by rw [Bd.returns] at h; cases h)
      refine own_fin (retOut X4 hx Bd.returns rfl (Or.inr (Or.inr (Or.inr (Or.inr ⟨rfl, rfl, rfl⟩)))) (hb hby own_dmethod_2_code_16) hrt_) (hRR _ ⟨_, hrun, hended, _, _, rfl, ?_, ⟨_, rfl⟩, hW, hsame.mono (by decide) (by decide)⟩)
      show own_QP Z p1 a_EQ a_IN a_LTE a_GT a_LT a_GTE r h0 n0 _ T4.heap _
      rw [e4]
      exact ⟨own_rr (by simpa [own_pick, hc1_1, hc10_3] using hp), N0, rfl⟩
    · refine own_st (fun _ k => XS.icmpYes X0.here hx rfl (pc0 := 10) (pc' := 17) rfl (hb hby own_dmethod_2_code_10) rfl (feq hc10_3).2 (by decide) (by decide) (XS.iloadN X0.here hx rfl (hb hby own_dmethod_2_code_17) rfl (XS.iconst X0.here hx rfl (hb hby own_dmethod_2_code_18) k))) ?_
      show own_Go p.tables e below RR (s₁.setTop (mkF m 19 #[.val (.int p1)] [(.int (2 : Int32)), (.int p1)]))
      by_cases hc19_5 : p1 = (2 : Int32)
      · refine own_st (fun _ k => XS.icmpNo X0.here hx rfl (hb hby own_dmethod_2_code_19) rfl (teq hc19_5).2 k) ?_
        show own_Go p.tables e below RR (s₁.setTop (mkF m 22 #[.val (.int p1)] []))
        obtain ⟨T6, X6, e6, st6⟩ := getS2 X0 hx hZ hown (host := "") (Or.inl (hw _ (List.mem_of_getElem? (i := 17) rfl))) Via.refl e0 S_GT (g := (mkF m 22 #[.val (.int p1)] [])) rfl (hb hby own_dmethod_2_code_22)
        refine own_st st6 ?_
        show own_Go p.tables e below RR (T6.setTop (mkF m 25 #[.val (.int p1)] [(.ref a_GT)]))
        obtain ⟨fs, hrt_, hrun, hended, hW, hsame⟩ := X6.leave (v := some (.ref a_GT)) (fun h => by rw [Bd.returns] at h; cases h)
        refine own_fin (retOut X6 hx Bd.returns rfl (Or.inr (Or.inr (Or.inr (Or.inr ⟨rfl, rfl, rfl⟩)))) (hb hby own_dmethod_2_code_25) hrt_) (hRR _ ⟨_, hrun, hended, _, _, rfl, ?_, ⟨_, rfl⟩, hW, hsame.mono (by decide) (by decide)⟩)
        show own_QP Z p1 a_EQ a_IN a_LTE a_GT a_LT a_GTE r h0 n0 _ T6.heap _
        rw [e6]
        exact ⟨own_rr (by simpa [own_pick, hc1_1, hc10_3, hc19_5] using hp), N0, rfl⟩
      · refine own_st (fun _ k => XS.icmpYes X0.here hx rfl (pc0 := 19) (pc' := 26) rfl (hb hby own_dmethod_2_code_19) rfl (feq hc19_5).2 (by decide) (by decide) (XS.iloadN X0.here hx rfl (hb hby own_dmethod_2_code_26) rfl (XS.iconst X0.here hx rfl (hb hby own_dmethod_2_code_27) k))) ?_
        show own_Go p.tables e below RR (s₁.setTop (mkF m 28 #[.val (.int p1)] [(.int (3 : Int32)), (.int p1)]))
        by_cases hc28_7 : p1 = (3 : Int32)
        · refine own_st (fun _ k => XS.icmpNo X0.here hx rfl (hb hby own_dmethod_2_code_28) rfl (teq hc28_7).2 k) ?_
          show own_Go p.tables e below RR (s₁.setTop (mkF m 31 #[.val (.int p1)] []))
          obtain ⟨T8, X8, e8, st8⟩ := getS2 X0 hx hZ hown (host := "") (Or.inl (hw _ (List.mem_of_getElem? (i := 15) rfl))) Via.refl e0 S_LTE (g := (mkF m 31 #[.val (.int p1)] [])) rfl (hb hby own_dmethod_2_code_31)
          refine own_st st8 ?_
          show own_Go p.tables e below RR (T8.setTop (mkF m 34 #[.val (.int p1)] [(.ref a_LTE)]))
          obtain ⟨fs, hrt_, hrun, hended, hW, hsame⟩ := X8.leave (v := some (.ref a_LTE)) (fun h => by rw [Bd.returns] at h; cases h)
          refine own_fin (retOut X8 hx Bd.returns rfl (Or.inr (Or.inr (Or.inr (Or.inr ⟨rfl, rfl, rfl⟩)))) (hb hby own_dmethod_2_code_34) hrt_) (hRR _ ⟨_, hrun, hended, _, _, rfl, ?_, ⟨_, rfl⟩, hW, hsame.mono (by decide) (by decide)⟩)
          show own_QP Z p1 a_EQ a_IN a_LTE a_GT a_LT a_GTE r h0 n0 _ T8.heap _
          rw [e8]
          exact ⟨own_rr (by simpa [own_pick, hc1_1, hc10_3, hc19_5, hc28_7] using hp), N0, rfl⟩
        · refine own_st (fun _ k => XS.icmpYes X0.here hx rfl (pc0 := 28) (pc' := 35) rfl (hb hby own_dmethod_2_code_28) rfl (feq hc28_7).2 (by decide) (by decide) (XS.iloadN X0.here hx rfl (hb hby own_dmethod_2_code_35) rfl (XS.iconst X0.here hx rfl (hb hby own_dmethod_2_code_36) k))) ?_
          show own_Go p.tables e below RR (s₁.setTop (mkF m 37 #[.val (.int p1)] [(.int (4 : Int32)), (.int p1)]))
          by_cases hc37_9 : p1 = (4 : Int32)
          · refine own_st (fun _ k => XS.icmpNo X0.here hx rfl (hb hby own_dmethod_2_code_37) rfl (teq hc37_9).2 k) ?_
            show own_Go p.tables e below RR (s₁.setTop (mkF m 40 #[.val (.int p1)] []))
            obtain ⟨T10, X10, e10, st10⟩ := getS2 X0 hx hZ hown (host := "") (Or.inl (hw _ (List.mem_of_getElem? (i := 22) rfl))) Via.refl e0 S_GTE (g := (mkF m 40 #[.val (.int p1)] [])) rfl (hb hby own_dmethod_2_code_40)
            refine own_st st10 ?_
            show own_Go p.tables e below RR (T10.setTop (mkF m 43 #[.val (.int p1)] [(.ref a_GTE)]))
            obtain ⟨fs, hrt_, hrun, hended, hW, hsame⟩ := X10.leave (v := some (.ref a_GTE)) (fun h => by rw [Bd.returns] at h; cases h)
            refine own_fin (retOut X10 hx Bd.returns rfl (Or.inr (Or.inr (Or.inr (Or.inr ⟨rfl, rfl, rfl⟩)))) (hb hby own_dmethod_2_code_43) hrt_) (hRR _ ⟨_, hrun, hended, _, _, rfl, ?_, ⟨_, rfl⟩, hW, hsame.mono (by decide) (by decide)⟩)
            show own_QP Z p1 a_EQ a_IN a_LTE a_GT a_LT a_GTE r h0 n0 _ T10.heap _
            rw [e10]
            exact ⟨own_rr (by simpa [own_pick, hc1_1, hc10_3, hc19_5, hc28_7, hc37_9] using hp), N0, rfl⟩
          · refine own_st (fun _ k => XS.icmpYes X0.here hx rfl (pc0 := 37) (pc' := 44) rfl (hb hby own_dmethod_2_code_37) rfl (feq hc37_9).2 (by decide) (by decide) k) ?_
            show own_Go p.tables e below RR (s₁.setTop (mkF m 44 #[.val (.int p1)] []))
            obtain ⟨T11, X11, e11, st11⟩ := getS2 X0 hx hZ hown (host := "") (Or.inl (hw _ (List.mem_of_getElem? (i := 21) rfl))) Via.refl e0 S_IN (g := (mkF m 44 #[.val (.int p1)] [])) rfl (hb hby own_dmethod_2_code_44)
            refine own_st st11 ?_
            show own_Go p.tables e below RR (T11.setTop (mkF m 47 #[.val (.int p1)] [(.ref a_IN)]))
            obtain ⟨fs, hrt_, hrun, hended, hW, hsame⟩ := X11.leave (v := some (.ref a_IN)) (fun h => by rw [Bd.returns] at h; cases h)
            refine own_fin (retOut X11 hx Bd.returns rfl (Or.inr (Or.inr (Or.inr (Or.inr ⟨rfl, rfl, rfl⟩)))) (hb hby own_dmethod_2_code_47) hrt_) (hRR _ ⟨_, hrun, hended, _, _, rfl, ?_, ⟨_, rfl⟩, hW, hsame.mono (by decide) (by decide)⟩)
            show own_QP Z p1 a_EQ a_IN a_LTE a_GT a_LT a_GTE r h0 n0 _ T11.heap _
            rw [e11]
            exact ⟨own_rr (by simpa [own_pick, hc1_1, hc10_3, hc19_5, hc28_7, hc37_9] using hp), N0, rfl⟩
theorem own_pn_com_example_seshat_seshat_query_Operator : plainName "com/example/seshat/seshat/query/Operator" = true := by first | (simp [plainName, overriddenIn]; done) | decide +kernel
theorem own_dprog_16_method_6_code_0 : decode prog_16_method_6_code 0 = .ok (.aload_n 0, 1) := by decide +kernel
theorem own_dprog_16_method_6_code_1 : decode prog_16_method_6_code 1 = .ok (.getstatic 19, 3) := by decide +kernel
theorem own_dprog_16_method_6_code_4 : decode prog_16_method_6_code 4 = .ok (.if_acmp .ne 7, 3) := by decide +kernel
theorem own_dprog_16_method_6_code_7 : decode prog_16_method_6_code 7 = .ok (.iconst 1, 1) := by decide +kernel
theorem own_dprog_16_method_6_code_8 : decode prog_16_method_6_code 8 = .ok (.goto 4, 3) := by decide +kernel
theorem own_dprog_16_method_6_code_12 : decode prog_16_method_6_code 12 = .ok (.ireturn, 1) := by decide +kernel
theorem own_dprog_16_method_6_code_11 : decode prog_16_method_6_code 11 = .ok (.iconst 0, 1) := by decide +kernel
theorem own_efV (m : MethodId) (o : Addr) : entryFrame m #[(.ref o)] 1 = mkF m 0 #[.val (.ref o)] [] := by first | (simp [entryFrame, mkF, argsToLocals, Value.category]; done) | rfl
def own_QV (Z : State) (o : Addr) (a_IN : Addr) (r : Int32) (h0 : Heap) (n0 : Nat) (rv__ : Option Value) (h : Heap) (rL__ : List Loc) : Prop := rv__ = some (.int r) ∧ Fr n0 rL__ ∧ h = h0
abbrev own_RV : Room := { frames := 0, cells := 0, slots := 0, locals := 0 }
set_option maxRecDepth 65536 in
set_option maxHeartbeats 40000000 in
theorem own_rmV (l : Launch) (Z : State) (a0 : Array Value) (hw : ∀ d ∈ tables_1, d.before a0 Z = true) (ws : List Jvm.Cond) (o : Addr) (a_IN : Addr) (r : Int32) (h0 : Heap) (n0 : Nat) (Z0 : n0 ≤ h0.size) (S_IN : Sta Z h0 "com/example/seshat/seshat/query/Operator" "IN" "Lcom/example/seshat/seshat/query/Operator;" (.ref a_IN)) (hv : (if o = a_IN then (1 : Int32) else 0) = r) :
    MetFree l (⟨"com/example/seshat/seshat/query/Operator", "listsValues", "()Z"⟩ : MethodName) (head1 (Jvm.Cond.code (⟨"com/example/seshat/seshat/query/Operator", "listsValues", "()Z"⟩ : MethodName) prog_16_method_6_code 1 (some .boolean) :: ws) own_RV) (fun aa__ U => aa__ = #[(.ref o)] ∧ Z.Warmed39 U.vm ∧ U.heap = h0) (fun _ _ _ _ _ => True) (fun _ U oc_ U' => ∃ rv__ rL__, oc_ = .returned rv__ ∧ own_QV Z o a_IN r h0 n0 rv__ U'.heap rL__ ∧ FrameEnd U oc_ U' rL__ own_RV.cells own_RV.slots) := by
  refine MetFree.of_bodySF (plainFor_of_name own_pn_com_example_seshat_seshat_query_Operator) hisR ?_
  intro p e s m args below meth c s₁ Bd hml0 hP hK
  obtain ⟨rfl, hZ, hh⟩ := hP
  have hx := Bd.exec
  have hby := Bd.bytes
  have hml : c.maxLocals = 1 := hml0
  have hown : s.vm.findClass "com/example/seshat/seshat/query/Operator" = some m.cls := findClass_of_methodNamed Bd.named
  have hnm := (name_of_methodNamed Bd.named Bd.method).1
  have X0 : Stand p l e own_RV s m #[(.ref o)] below meth c s₁ [] 0 0 := Stand.of_body Bd
  have e0 : s₁.heap = h0 := by rw [← hh, Bd.state]; rfl
  have N0 := Fr.nil n0
  refine own_in (fun _ k => castTop (own_efV m o) k) ?_
  intro RR hRR
  show own_Go p.tables e below RR (s₁.setTop (mkF m 0 #[.val (.ref o)] []))
  refine own_st (fun _ k => XS.aloadN X0.here hx rfl (hb hby own_dprog_16_method_6_code_0) rfl rfl k) ?_
  show own_Go p.tables e below RR (s₁.setTop (mkF m 1 #[.val (.ref o)] [(.ref o)]))
  obtain ⟨T1, X1, e1, st1⟩ := getS2 X0 hx hZ hown (host := "") (Or.inl (hw _ (List.mem_of_getElem? (i := 13) rfl))) Via.refl e0 S_IN (g := (mkF m 1 #[.val (.ref o)] [(.ref o)])) rfl (hb hby own_dprog_16_method_6_code_1)
  refine own_st st1 ?_
  show own_Go p.tables e below RR (T1.setTop (mkF m 4 #[.val (.ref o)] [(.ref a_IN), (.ref o)]))
  by_cases hc4_2 : o = a_IN
  · refine own_st (fun _ k => Jvm.RoadKit.acmp (g := (mkF m 4 #[.val (.ref o)] [(.ref a_IN), (.ref o)])) X1 hx rfl rfl rfl (pc0 := 4) (pc' := 7) (same := true) rfl (hb hby own_dprog_16_method_6_code_4) rfl (decide_eq_true (congrArg Value.ref hc4_2)) (by decide) (by decide) (XS.iconst X1.here hx rfl (hb hby own_dprog_16_method_6_code_7) (XS.goto X1.here hx rfl (pc0 := 8) (pc' := 12) rfl (hb hby own_dprog_16_method_6_code_8) (by decide) (by decide) k))) ?_
    show own_Go p.tables e below RR (T1.setTop (mkF m 12 #[.val (.ref o)] [(.int (1 : Int32))]))
    obtain ⟨fs, hrt_, hrun, hended, hW, hsame⟩ := X1.leave (v := some (.int (1 : Int32))) (fun h => by rw [Bd.returns] at h; cases h)
    refine own_fin (retN X1 hx (t := .boolean) Bd.returns (by simp) (hb hby own_dprog_16_method_6_code_12) hrt_) (hRR _ ⟨_, hrun, hended, _, _, rfl, ?_, ⟨_, rfl⟩, hW, hsame.mono (by decide) (by decide)⟩)
    show own_QV Z o a_IN r h0 n0 _ T1.heap _
    rw [e1]
    exact ⟨own_ri (by simpa [hc4_2] using hv), N0, rfl⟩
  · refine own_st (fun _ k => Jvm.RoadKit.acmp (g := (mkF m 4 #[.val (.ref o)] [(.ref a_IN), (.ref o)])) X1 hx rfl rfl rfl (pc0 := 4) (pc' := 11) (same := false) rfl (hb hby own_dprog_16_method_6_code_4) rfl (decide_eq_false fun q => hc4_2 (Value.ref.inj q)) (by decide) (by decide) (XS.iconst X1.here hx rfl (hb hby own_dprog_16_method_6_code_11) k)) ?_
    show own_Go p.tables e below RR (T1.setTop (mkF m 12 #[.val (.ref o)] [(.int (0 : Int32))]))
    obtain ⟨fs, hrt_, hrun, hended, hW, hsame⟩ := X1.leave (v := some (.int (0 : Int32))) (fun h => by rw [Bd.returns] at h; cases h)
    refine own_fin (retN X1 hx (t := .boolean) Bd.returns (by simp) (hb hby own_dprog_16_method_6_code_12) hrt_) (hRR _ ⟨_, hrun, hended, _, _, rfl, ?_, ⟨_, rfl⟩, hW, hsame.mono (by decide) (by decide)⟩)
    show own_QV Z o a_IN r h0 n0 _ T1.heap _
    rw [e1]
    exact ⟨own_ri (by simpa [hc4_2] using hv), N0, rfl⟩
theorem own_pd__I_Lcom_example_seshat_seshat_query_Operator_ : parseMethodDescriptor "(I)Lcom/example/seshat/seshat/query/Operator;" = some ⟨[.int], some (.object "com/example/seshat/seshat/query/Operator")⟩ := by decide +kernel
theorem own_pd___Z : parseMethodDescriptor "()Z" = some ⟨[], some .boolean⟩ := by decide +kernel
theorem own_ef0 (m : MethodId) (p1 : Int32) : entryFrame m #[(.int p1)] maxLocals = mkF m 0 #[.val (.int p1), .unset, .unset, .unset] [] := by first | (simp [entryFrame, mkF, argsToLocals, Value.category, maxLocals]; done) | rfl
def own_Q0 (Z : State) (p1 : Int32) (a_EQ : Addr) (a_IN : Addr) (a_LTE : Addr) (a_GT : Addr) (a_LT : Addr) (a_GTE : Addr) (h0 : Heap) (n0 : Nat) (rv__ : Option Value) (h : Heap) (rL__ : List Loc) : Prop := rv__ = some (.int 1) ∧ Fr n0 rL__
set_option maxRecDepth 65536 in
set_option maxHeartbeats 40000000 in
theorem own_rm0 (l : Launch) (Z : State) (a0 : Array Value) (hw : ∀ d ∈ tables_1, d.before a0 Z = true) (ws : List Jvm.Cond) (p1 : Int32) (a_EQ : Addr) (a_IN : Addr) (a_LTE : Addr) (a_GT : Addr) (a_LT : Addr) (a_GTE : Addr) (h0 : Heap) (n0 : Nat) (Z0 : n0 ≤ h0.size) (E_EQ : Exa Z h0 a_EQ "com/example/seshat/seshat/query/Operator") (S_EQ : Sta Z h0 "com/example/seshat/seshat/query/Operator" "EQ" "Lcom/example/seshat/seshat/query/Operator;" (.ref a_EQ)) (E_IN : Exa Z h0 a_IN "com/example/seshat/seshat/query/Operator") (S_IN : Sta Z h0 "com/example/seshat/seshat/query/Operator" "IN" "Lcom/example/seshat/seshat/query/Operator;" (.ref a_IN)) (F_EQ_ordinal : Fld Z h0 a_EQ "java/lang/Enum" "ordinal" "I" (.int (0 : Int32))) (F_IN_ordinal : Fld Z h0 a_IN "java/lang/Enum" "ordinal" "I" (.int (5 : Int32))) (E_LTE : Exa Z h0 a_LTE "com/example/seshat/seshat/query/Operator") (S_LTE : Sta Z h0 "com/example/seshat/seshat/query/Operator" "LTE" "Lcom/example/seshat/seshat/query/Operator;" (.ref a_LTE)) (F_LTE_ordinal : Fld Z h0 a_LTE "java/lang/Enum" "ordinal" "I" (.int (3 : Int32))) (E_GT : Exa Z h0 a_GT "com/example/seshat/seshat/query/Operator") (S_GT : Sta Z h0 "com/example/seshat/seshat/query/Operator" "GT" "Lcom/example/seshat/seshat/query/Operator;" (.ref a_GT)) (F_GT_ordinal : Fld Z h0 a_GT "java/lang/Enum" "ordinal" "I" (.int (2 : Int32))) (E_LT : Exa Z h0 a_LT "com/example/seshat/seshat/query/Operator") (S_LT : Sta Z h0 "com/example/seshat/seshat/query/Operator" "LT" "Lcom/example/seshat/seshat/query/Operator;" (.ref a_LT)) (F_LT_ordinal : Fld Z h0 a_LT "java/lang/Enum" "ordinal" "I" (.int (1 : Int32))) (E_GTE : Exa Z h0 a_GTE "com/example/seshat/seshat/query/Operator") (S_GTE : Sta Z h0 "com/example/seshat/seshat/query/Operator" "GTE" "Lcom/example/seshat/seshat/query/Operator;" (.ref a_GTE)) (F_GTE_ordinal : Fld Z h0 a_GTE "java/lang/Enum" "ordinal" "I" (.int (4 : Int32))) :
    MetFree l x (head1 (Jvm.Cond.code x code maxLocals ret :: ws) room_1) (fun aa__ U => aa__ = #[(.int p1)] ∧ Z.Warmed39 U.vm ∧ U.heap = h0) (fun _ _ _ _ _ => True) (fun _ U oc_ U' => ∃ rv__ rL__, oc_ = .returned rv__ ∧ own_Q0 Z p1 a_EQ a_IN a_LTE a_GT a_LT a_GTE h0 n0 rv__ U'.heap rL__ ∧ FrameEnd U oc_ U' rL__ room_1.cells room_1.slots) := by
  refine MetFree.of_bodySF (plainFor_of_name own_pn_com_example_seshat_seshat_query_OperatorListsValuesPinLaw) hisR ?_
  intro p e s m args below meth c s₁ Bd hml0 hP hK
  obtain ⟨rfl, hZ, hh⟩ := hP
  have hx := Bd.exec
  have hby := Bd.bytes
  have hml : c.maxLocals = 4 := hml0
  have hown : s.vm.findClass "com/example/seshat/seshat/query/OperatorListsValuesPinLaw" = some m.cls := findClass_of_methodNamed Bd.named
  have hnm := (name_of_methodNamed Bd.named Bd.method).1
  have X0 : Stand p l e room_1 s m #[(.int p1)] below meth c s₁ [] 0 0 := Stand.of_body Bd
  have e0 : s₁.heap = h0 := by rw [← hh, Bd.state]; rfl
  have N0 := Fr.nil n0
  refine own_in (fun _ k => castTop (own_ef0 m p1) k) ?_
  intro RR hRR
  show own_Go p.tables e below RR (s₁.setTop (mkF m 0 #[.val (.int p1), .unset, .unset, .unset] []))
  refine own_st (fun _ k => XS.iloadN X0.here hx rfl (hb hby at_0) rfl (X0.ldcInt hx hown (mvT hZ (hw _ (List.mem_of_getElem? (i := 0) rfl))) (g := (mkF m 1 #[.val (.int p1), .unset, .unset, .unset] [(.int p1)])) rfl (hb hby at_1) _ (XS.iand X0.here hx rfl (hb hby at_3) rfl (XS.bipush X0.here hx rfl (hb hby at_4) k)))) ?_
  show own_Go p.tables e below RR (s₁.setTop (mkF m 6 #[.val (.int p1), .unset, .unset, .unset] [(.int (6 : Int32)), (.int (p1 &&& (2147483647 : Int32)))]))
  refine own_st (fun _ k => XS.irem X0.here hx rfl (hb hby at_6) rfl (by decide) k) ?_
  show own_Go p.tables e below RR (s₁.setTop (mkF m 7 #[.val (.int p1), .unset, .unset, .unset] [(.int ((p1 &&& (2147483647 : Int32)) - ((p1 &&& (2147483647 : Int32)) / (6 : Int32)) * (6 : Int32)))]))
  rw [irem_eq_mod (p1 &&& (2147483647 : Int32)) (6 : Int32)]
  show own_Go p.tables e below RR (s₁.setTop (mkF m 7 #[.val (.int p1), .unset, .unset, .unset] [(.int ((p1 &&& (2147483647 : Int32)) % (6 : Int32)))]))
  generalize gv1 : ((p1 &&& (2147483647 : Int32)) % (6 : Int32)) = v1
  show own_Go p.tables e below RR (s₁.setTop (mkF m 7 #[.val (.int p1), .unset, .unset, .unset] [(.int v1)]))
  refine own_st (fun _ k => XS.istoreN X0.here hx rfl (hb hby at_7) rfl (l' := #[.val (.int p1), .val (.int v1), .unset, .unset]) rfl k) ?_
  show own_Go p.tables e below RR (s₁.setTop (mkF m 8 #[.val (.int p1), .val (.int v1), .unset, .unset] []))
  show own_Go p.tables e below RR (s₁.setTop (mkF m 8 #[.val (.int p1), .val (.int v1), .unset, .unset] []))
  show own_Go p.tables e below RR (s₁.setTop (mkF m 8 #[.val (.int p1), .val (.int v1), .unset, .unset] []))
  rcases own_six gv1 with rfl | rfl | rfl | rfl | rfl | rfl
  · show own_Go p.tables e below RR (s₁.setTop (mkF m 8 #[.val (.int p1), .val (.int (0 : Int32)), .unset, .unset] []))
    show own_Go p.tables e below RR (s₁.setTop (mkF m 8 #[.val (.int p1), .val (.int (0 : Int32)), .unset, .unset] []))
    refine own_st (fun _ k => XS.iloadN X0.here hx rfl (hb hby at_8) rfl k) ?_
    show own_Go p.tables e below RR (s₁.setTop (mkF m 9 #[.val (.int p1), .val (.int (0 : Int32)), .unset, .unset] [(.int (0 : Int32))]))
    obtain ⟨_, _, ⟨T2, L2, k2, n2⟩, -, X2, ⟨Lc2, hQ2, l2, y2, z2⟩, st2⟩ := Jvm.LawKit.callS X0 hx (y := (⟨"com/example/seshat/seshat/query/OperatorListsValuesPinLaw", "pick", "(I)Lcom/example/seshat/seshat/query/Operator;"⟩ : MethodName)) hown (mvT hZ (hw _ (List.mem_of_getElem? (i := 1) rfl))) (mvT hZ (hw _ (List.mem_of_getElem? (i := 2) rfl))) (mvT hZ (hw _ (List.mem_of_getElem? (i := 3) rfl))) (mvT hZ (hw _ (List.mem_of_getElem? (i := 4) rfl))) (by decide) (backOf (W := 0) (own_rmP l Z a0 hw [] (0 : Int32) a_EQ a_IN a_LTE a_GT a_LT a_GTE a_EQ h0 n0 Z0 S_EQ S_IN S_LTE S_GT S_LT S_GTE rfl) hZ (hw _ (List.mem_of_getElem? (i := 4) rfl)) (hw _ (List.mem_of_getElem? (i := 3) rfl)) (by decide) (by decide)) (g := (mkF m 9 #[.val (.int p1), .val (.int (0 : Int32)), .unset, .unset] [(.int (0 : Int32))])) rfl (by rw [hml]; rfl) (argsL := [(.int (0 : Int32))]) (rest := []) (lenOf own_pd__I_Lcom_example_seshat_seshat_query_Operator_ rfl) rfl (by show 2 * 0 + _ ≤ _; exact Nat.le_of_eq rfl) (hb hby at_9) (fun _ _ => ⟨rfl, e0, (by decide : 0 + 0 ≤ _), (by decide : 0 + 0 ≤ _)⟩)
    dsimp only [Pt.U, Pt.locs, Pt.cells, Pt.slots] at X2 l2 y2 z2 st2 hQ2
    subst l2 y2 z2
    obtain ⟨rfl, Nq2, eq2⟩ := hQ2
    have N2 := Fr.app N0 Nq2
    refine own_st st2 ?_
    show own_Go p.tables e below RR (T2.setTop (mkF m 12 #[.val (.int p1), .val (.int (0 : Int32)), .unset, .unset] [(.ref a_EQ)]))
    refine own_st (fun _ k => XS.astoreN X2.here hx rfl (hb hby at_12) rfl rfl (l' := #[.val (.int p1), .val (.int (0 : Int32)), .val (.ref a_EQ), .unset]) rfl (XS.iloadN X2.here hx rfl (hb hby at_13) rfl (XS.iconst X2.here hx rfl (hb hby at_14) k))) ?_
    show own_Go p.tables e below RR (T2.setTop (mkF m 15 #[.val (.int p1), .val (.int (0 : Int32)), .val (.ref a_EQ), .unset] [(.int (5 : Int32)), (.int (0 : Int32))]))
    refine own_st (fun _ k => XS.icmpYes X2.here hx rfl (pc0 := 15) (pc' := 22) rfl (hb hby at_15) rfl (feq (by decide)).2 (by decide) (by decide) (XS.iconst X2.here hx rfl (hb hby at_22) (XS.istoreN X2.here hx rfl (hb hby at_23) rfl (l' := #[.val (.int p1), .val (.int (0 : Int32)), .val (.ref a_EQ), .val (.int (0 : Int32))]) rfl (XS.aloadN X2.here hx rfl (hb hby at_24) rfl rfl k)))) ?_
    show own_Go p.tables e below RR (T2.setTop (mkF m 25 #[.val (.int p1), .val (.int (0 : Int32)), .val (.ref a_EQ), .val (.int (0 : Int32))] [(.ref a_EQ)]))
    obtain ⟨cq3, kq3, q3a, q3b, q3c⟩ := isOf hZ eq2 E_EQ
    obtain ⟨_, _, ⟨T3, L3, k3, n3⟩, -, X3, ⟨Lc3, hQ3, l3, y3, z3⟩, st3⟩ := X2.virtualBack hx (y := (⟨"com/example/seshat/seshat/query/Operator", "listsValues", "()Z"⟩ : MethodName)) (z := (⟨"com/example/seshat/seshat/query/Operator", "listsValues", "()Z"⟩ : MethodName)) hown (mvT hZ (hw _ (List.mem_of_getElem? (i := 8) rfl))) (mvT hZ (hw _ (List.mem_of_getElem? (i := 9) rfl))) (notFace_of_selects (args := #[]) (mvT hZ (hw _ (List.mem_of_getElem? (i := 11) rfl)))) (mvT hZ (hw _ (List.mem_of_getElem? (i := 11) rfl))) (mvT hZ (hw _ (List.mem_of_getElem? (i := 10) rfl))) (by decide) (backOf (W := 0) (own_rmV l Z a0 hw [] a_EQ a_IN (0 : Int32) h0 n0 Z0 S_IN (if_neg (Fld.ne F_EQ_ordinal F_IN_ordinal (by simp)))) hZ (hw _ (List.mem_of_getElem? (i := 12) rfl)) (hw _ (List.mem_of_getElem? (i := 6) rfl)) (by decide) (by decide)) q3a q3c (g := (mkF m 25 #[.val (.int p1), .val (.int (0 : Int32)), .val (.ref a_EQ), .val (.int (0 : Int32))] [(.ref a_EQ)])) rfl (by rw [hml]; rfl) (Steps.refl _) (argsL := []) (rest := []) (lenOf own_pd___Z rfl) rfl (by show 2 * 0 + _ ≤ _; exact Nat.le_of_eq rfl) (hb hby at_25) (fun _ _ => ⟨rfl, eq2, (by decide : 0 + 0 ≤ _), (by decide : 0 + 0 ≤ _)⟩)
    dsimp only [Pt.U, Pt.locs, Pt.cells, Pt.slots] at X3 l3 y3 z3 st3 hQ3
    subst l3 y3 z3
    obtain ⟨rfl, Nq3, eq3⟩ := hQ3
    have N3 := Fr.app N2 Nq3
    refine own_st (fun _ k => st3.trans k) ?_
    show own_Go p.tables e below RR (T3.setTop (mkF m 28 #[.val (.int p1), .val (.int (0 : Int32)), .val (.ref a_EQ), .val (.int (0 : Int32))] [(.int (0 : Int32))]))
    refine own_st (fun _ k => XS.iloadN X3.here hx rfl (hb hby at_28) rfl k) ?_
    show own_Go p.tables e below RR (T3.setTop (mkF m 29 #[.val (.int p1), .val (.int (0 : Int32)), .val (.ref a_EQ), .val (.int (0 : Int32))] [(.int (0 : Int32)), (.int (0 : Int32))]))
    refine own_st (fun _ k => XS.icmpNo X3.here hx rfl (hb hby at_29) rfl (teq (by decide)).2 (XS.iconst X3.here hx rfl (hb hby at_32) (XS.goto X3.here hx rfl (pc0 := 33) (pc' := 37) rfl (hb hby at_33) (by decide) (by decide) k))) ?_
    show own_Go p.tables e below RR (T3.setTop (mkF m 37 #[.val (.int p1), .val (.int (0 : Int32)), .val (.ref a_EQ), .val (.int (0 : Int32))] [(.int (1 : Int32))]))
    obtain ⟨fs, hrt_, hrun, hended, hW, hsame⟩ := X3.leave (v := some (.int (1 : Int32))) (fun h => by rw [Bd.returns] at h; cases h)
    refine own_fin (retN X3 hx (t := .boolean) Bd.returns (by simp) (hb hby at_37) hrt_) (hRR _ ⟨_, hrun, hended, _, _, rfl, ?_, ⟨_, rfl⟩, hW, hsame.mono (by decide) (by decide)⟩)
    show own_Q0 Z p1 a_EQ a_IN a_LTE a_GT a_LT a_GTE h0 n0 _ T3.heap _
    rw [eq3]
    exact ⟨rfl, N3⟩
  · show own_Go p.tables e below RR (s₁.setTop (mkF m 8 #[.val (.int p1), .val (.int (1 : Int32)), .unset, .unset] []))
    show own_Go p.tables e below RR (s₁.setTop (mkF m 8 #[.val (.int p1), .val (.int (1 : Int32)), .unset, .unset] []))
    refine own_st (fun _ k => XS.iloadN X0.here hx rfl (hb hby at_8) rfl k) ?_
    show own_Go p.tables e below RR (s₁.setTop (mkF m 9 #[.val (.int p1), .val (.int (1 : Int32)), .unset, .unset] [(.int (1 : Int32))]))
    obtain ⟨_, _, ⟨T4, L4, k4, n4⟩, -, X4, ⟨Lc4, hQ4, l4, y4, z4⟩, st4⟩ := Jvm.LawKit.callS X0 hx (y := (⟨"com/example/seshat/seshat/query/OperatorListsValuesPinLaw", "pick", "(I)Lcom/example/seshat/seshat/query/Operator;"⟩ : MethodName)) hown (mvT hZ (hw _ (List.mem_of_getElem? (i := 1) rfl))) (mvT hZ (hw _ (List.mem_of_getElem? (i := 2) rfl))) (mvT hZ (hw _ (List.mem_of_getElem? (i := 3) rfl))) (mvT hZ (hw _ (List.mem_of_getElem? (i := 4) rfl))) (by decide) (backOf (W := 0) (own_rmP l Z a0 hw [] (1 : Int32) a_EQ a_IN a_LTE a_GT a_LT a_GTE a_LT h0 n0 Z0 S_EQ S_IN S_LTE S_GT S_LT S_GTE rfl) hZ (hw _ (List.mem_of_getElem? (i := 4) rfl)) (hw _ (List.mem_of_getElem? (i := 3) rfl)) (by decide) (by decide)) (g := (mkF m 9 #[.val (.int p1), .val (.int (1 : Int32)), .unset, .unset] [(.int (1 : Int32))])) rfl (by rw [hml]; rfl) (argsL := [(.int (1 : Int32))]) (rest := []) (lenOf own_pd__I_Lcom_example_seshat_seshat_query_Operator_ rfl) rfl (by show 2 * 0 + _ ≤ _; exact Nat.le_of_eq rfl) (hb hby at_9) (fun _ _ => ⟨rfl, e0, (by decide : 0 + 0 ≤ _), (by decide : 0 + 0 ≤ _)⟩)
    dsimp only [Pt.U, Pt.locs, Pt.cells, Pt.slots] at X4 l4 y4 z4 st4 hQ4
    subst l4 y4 z4
    obtain ⟨rfl, Nq4, eq4⟩ := hQ4
    have N4 := Fr.app N0 Nq4
    refine own_st st4 ?_
    show own_Go p.tables e below RR (T4.setTop (mkF m 12 #[.val (.int p1), .val (.int (1 : Int32)), .unset, .unset] [(.ref a_LT)]))
    refine own_st (fun _ k => XS.astoreN X4.here hx rfl (hb hby at_12) rfl rfl (l' := #[.val (.int p1), .val (.int (1 : Int32)), .val (.ref a_LT), .unset]) rfl (XS.iloadN X4.here hx rfl (hb hby at_13) rfl (XS.iconst X4.here hx rfl (hb hby at_14) k))) ?_
    show own_Go p.tables e below RR (T4.setTop (mkF m 15 #[.val (.int p1), .val (.int (1 : Int32)), .val (.ref a_LT), .unset] [(.int (5 : Int32)), (.int (1 : Int32))]))
    refine own_st (fun _ k => XS.icmpYes X4.here hx rfl (pc0 := 15) (pc' := 22) rfl (hb hby at_15) rfl (feq (by decide)).2 (by decide) (by decide) (XS.iconst X4.here hx rfl (hb hby at_22) (XS.istoreN X4.here hx rfl (hb hby at_23) rfl (l' := #[.val (.int p1), .val (.int (1 : Int32)), .val (.ref a_LT), .val (.int (0 : Int32))]) rfl (XS.aloadN X4.here hx rfl (hb hby at_24) rfl rfl k)))) ?_
    show own_Go p.tables e below RR (T4.setTop (mkF m 25 #[.val (.int p1), .val (.int (1 : Int32)), .val (.ref a_LT), .val (.int (0 : Int32))] [(.ref a_LT)]))
    obtain ⟨cq5, kq5, q5a, q5b, q5c⟩ := isOf hZ eq4 E_LT
    obtain ⟨_, _, ⟨T5, L5, k5, n5⟩, -, X5, ⟨Lc5, hQ5, l5, y5, z5⟩, st5⟩ := X4.virtualBack hx (y := (⟨"com/example/seshat/seshat/query/Operator", "listsValues", "()Z"⟩ : MethodName)) (z := (⟨"com/example/seshat/seshat/query/Operator", "listsValues", "()Z"⟩ : MethodName)) hown (mvT hZ (hw _ (List.mem_of_getElem? (i := 8) rfl))) (mvT hZ (hw _ (List.mem_of_getElem? (i := 9) rfl))) (notFace_of_selects (args := #[]) (mvT hZ (hw _ (List.mem_of_getElem? (i := 11) rfl)))) (mvT hZ (hw _ (List.mem_of_getElem? (i := 11) rfl))) (mvT hZ (hw _ (List.mem_of_getElem? (i := 10) rfl))) (by decide) (backOf (W := 0) (own_rmV l Z a0 hw [] a_LT a_IN (0 : Int32) h0 n0 Z0 S_IN (if_neg (Fld.ne F_LT_ordinal F_IN_ordinal (by simp)))) hZ (hw _ (List.mem_of_getElem? (i := 12) rfl)) (hw _ (List.mem_of_getElem? (i := 6) rfl)) (by decide) (by decide)) q5a q5c (g := (mkF m 25 #[.val (.int p1), .val (.int (1 : Int32)), .val (.ref a_LT), .val (.int (0 : Int32))] [(.ref a_LT)])) rfl (by rw [hml]; rfl) (Steps.refl _) (argsL := []) (rest := []) (lenOf own_pd___Z rfl) rfl (by show 2 * 0 + _ ≤ _; exact Nat.le_of_eq rfl) (hb hby at_25) (fun _ _ => ⟨rfl, eq4, (by decide : 0 + 0 ≤ _), (by decide : 0 + 0 ≤ _)⟩)
    dsimp only [Pt.U, Pt.locs, Pt.cells, Pt.slots] at X5 l5 y5 z5 st5 hQ5
    subst l5 y5 z5
    obtain ⟨rfl, Nq5, eq5⟩ := hQ5
    have N5 := Fr.app N4 Nq5
    refine own_st (fun _ k => st5.trans k) ?_
    show own_Go p.tables e below RR (T5.setTop (mkF m 28 #[.val (.int p1), .val (.int (1 : Int32)), .val (.ref a_LT), .val (.int (0 : Int32))] [(.int (0 : Int32))]))
    refine own_st (fun _ k => XS.iloadN X5.here hx rfl (hb hby at_28) rfl k) ?_
    show own_Go p.tables e below RR (T5.setTop (mkF m 29 #[.val (.int p1), .val (.int (1 : Int32)), .val (.ref a_LT), .val (.int (0 : Int32))] [(.int (0 : Int32)), (.int (0 : Int32))]))
    refine own_st (fun _ k => XS.icmpNo X5.here hx rfl (hb hby at_29) rfl (teq (by decide)).2 (XS.iconst X5.here hx rfl (hb hby at_32) (XS.goto X5.here hx rfl (pc0 := 33) (pc' := 37) rfl (hb hby at_33) (by decide) (by decide) k))) ?_
    show own_Go p.tables e below RR (T5.setTop (mkF m 37 #[.val (.int p1), .val (.int (1 : Int32)), .val (.ref a_LT), .val (.int (0 : Int32))] [(.int (1 : Int32))]))
    obtain ⟨fs, hrt_, hrun, hended, hW, hsame⟩ := X5.leave (v := some (.int (1 : Int32))) (fun h => by rw [Bd.returns] at h; cases h)
    refine own_fin (retN X5 hx (t := .boolean) Bd.returns (by simp) (hb hby at_37) hrt_) (hRR _ ⟨_, hrun, hended, _, _, rfl, ?_, ⟨_, rfl⟩, hW, hsame.mono (by decide) (by decide)⟩)
    show own_Q0 Z p1 a_EQ a_IN a_LTE a_GT a_LT a_GTE h0 n0 _ T5.heap _
    rw [eq5]
    exact ⟨rfl, N5⟩
  · show own_Go p.tables e below RR (s₁.setTop (mkF m 8 #[.val (.int p1), .val (.int (2 : Int32)), .unset, .unset] []))
    show own_Go p.tables e below RR (s₁.setTop (mkF m 8 #[.val (.int p1), .val (.int (2 : Int32)), .unset, .unset] []))
    refine own_st (fun _ k => XS.iloadN X0.here hx rfl (hb hby at_8) rfl k) ?_
    show own_Go p.tables e below RR (s₁.setTop (mkF m 9 #[.val (.int p1), .val (.int (2 : Int32)), .unset, .unset] [(.int (2 : Int32))]))
    obtain ⟨_, _, ⟨T6, L6, k6, n6⟩, -, X6, ⟨Lc6, hQ6, l6, y6, z6⟩, st6⟩ := Jvm.LawKit.callS X0 hx (y := (⟨"com/example/seshat/seshat/query/OperatorListsValuesPinLaw", "pick", "(I)Lcom/example/seshat/seshat/query/Operator;"⟩ : MethodName)) hown (mvT hZ (hw _ (List.mem_of_getElem? (i := 1) rfl))) (mvT hZ (hw _ (List.mem_of_getElem? (i := 2) rfl))) (mvT hZ (hw _ (List.mem_of_getElem? (i := 3) rfl))) (mvT hZ (hw _ (List.mem_of_getElem? (i := 4) rfl))) (by decide) (backOf (W := 0) (own_rmP l Z a0 hw [] (2 : Int32) a_EQ a_IN a_LTE a_GT a_LT a_GTE a_GT h0 n0 Z0 S_EQ S_IN S_LTE S_GT S_LT S_GTE rfl) hZ (hw _ (List.mem_of_getElem? (i := 4) rfl)) (hw _ (List.mem_of_getElem? (i := 3) rfl)) (by decide) (by decide)) (g := (mkF m 9 #[.val (.int p1), .val (.int (2 : Int32)), .unset, .unset] [(.int (2 : Int32))])) rfl (by rw [hml]; rfl) (argsL := [(.int (2 : Int32))]) (rest := []) (lenOf own_pd__I_Lcom_example_seshat_seshat_query_Operator_ rfl) rfl (by show 2 * 0 + _ ≤ _; exact Nat.le_of_eq rfl) (hb hby at_9) (fun _ _ => ⟨rfl, e0, (by decide : 0 + 0 ≤ _), (by decide : 0 + 0 ≤ _)⟩)
    dsimp only [Pt.U, Pt.locs, Pt.cells, Pt.slots] at X6 l6 y6 z6 st6 hQ6
    subst l6 y6 z6
    obtain ⟨rfl, Nq6, eq6⟩ := hQ6
    have N6 := Fr.app N0 Nq6
    refine own_st st6 ?_
    show own_Go p.tables e below RR (T6.setTop (mkF m 12 #[.val (.int p1), .val (.int (2 : Int32)), .unset, .unset] [(.ref a_GT)]))
    refine own_st (fun _ k => XS.astoreN X6.here hx rfl (hb hby at_12) rfl rfl (l' := #[.val (.int p1), .val (.int (2 : Int32)), .val (.ref a_GT), .unset]) rfl (XS.iloadN X6.here hx rfl (hb hby at_13) rfl (XS.iconst X6.here hx rfl (hb hby at_14) k))) ?_
    show own_Go p.tables e below RR (T6.setTop (mkF m 15 #[.val (.int p1), .val (.int (2 : Int32)), .val (.ref a_GT), .unset] [(.int (5 : Int32)), (.int (2 : Int32))]))
    refine own_st (fun _ k => XS.icmpYes X6.here hx rfl (pc0 := 15) (pc' := 22) rfl (hb hby at_15) rfl (feq (by decide)).2 (by decide) (by decide) (XS.iconst X6.here hx rfl (hb hby at_22) (XS.istoreN X6.here hx rfl (hb hby at_23) rfl (l' := #[.val (.int p1), .val (.int (2 : Int32)), .val (.ref a_GT), .val (.int (0 : Int32))]) rfl (XS.aloadN X6.here hx rfl (hb hby at_24) rfl rfl k)))) ?_
    show own_Go p.tables e below RR (T6.setTop (mkF m 25 #[.val (.int p1), .val (.int (2 : Int32)), .val (.ref a_GT), .val (.int (0 : Int32))] [(.ref a_GT)]))
    obtain ⟨cq7, kq7, q7a, q7b, q7c⟩ := isOf hZ eq6 E_GT
    obtain ⟨_, _, ⟨T7, L7, k7, n7⟩, -, X7, ⟨Lc7, hQ7, l7, y7, z7⟩, st7⟩ := X6.virtualBack hx (y := (⟨"com/example/seshat/seshat/query/Operator", "listsValues", "()Z"⟩ : MethodName)) (z := (⟨"com/example/seshat/seshat/query/Operator", "listsValues", "()Z"⟩ : MethodName)) hown (mvT hZ (hw _ (List.mem_of_getElem? (i := 8) rfl))) (mvT hZ (hw _ (List.mem_of_getElem? (i := 9) rfl))) (notFace_of_selects (args := #[]) (mvT hZ (hw _ (List.mem_of_getElem? (i := 11) rfl)))) (mvT hZ (hw _ (List.mem_of_getElem? (i := 11) rfl))) (mvT hZ (hw _ (List.mem_of_getElem? (i := 10) rfl))) (by decide) (backOf (W := 0) (own_rmV l Z a0 hw [] a_GT a_IN (0 : Int32) h0 n0 Z0 S_IN (if_neg (Fld.ne F_GT_ordinal F_IN_ordinal (by simp)))) hZ (hw _ (List.mem_of_getElem? (i := 12) rfl)) (hw _ (List.mem_of_getElem? (i := 6) rfl)) (by decide) (by decide)) q7a q7c (g := (mkF m 25 #[.val (.int p1), .val (.int (2 : Int32)), .val (.ref a_GT), .val (.int (0 : Int32))] [(.ref a_GT)])) rfl (by rw [hml]; rfl) (Steps.refl _) (argsL := []) (rest := []) (lenOf own_pd___Z rfl) rfl (by show 2 * 0 + _ ≤ _; exact Nat.le_of_eq rfl) (hb hby at_25) (fun _ _ => ⟨rfl, eq6, (by decide : 0 + 0 ≤ _), (by decide : 0 + 0 ≤ _)⟩)
    dsimp only [Pt.U, Pt.locs, Pt.cells, Pt.slots] at X7 l7 y7 z7 st7 hQ7
    subst l7 y7 z7
    obtain ⟨rfl, Nq7, eq7⟩ := hQ7
    have N7 := Fr.app N6 Nq7
    refine own_st (fun _ k => st7.trans k) ?_
    show own_Go p.tables e below RR (T7.setTop (mkF m 28 #[.val (.int p1), .val (.int (2 : Int32)), .val (.ref a_GT), .val (.int (0 : Int32))] [(.int (0 : Int32))]))
    refine own_st (fun _ k => XS.iloadN X7.here hx rfl (hb hby at_28) rfl k) ?_
    show own_Go p.tables e below RR (T7.setTop (mkF m 29 #[.val (.int p1), .val (.int (2 : Int32)), .val (.ref a_GT), .val (.int (0 : Int32))] [(.int (0 : Int32)), (.int (0 : Int32))]))
    refine own_st (fun _ k => XS.icmpNo X7.here hx rfl (hb hby at_29) rfl (teq (by decide)).2 (XS.iconst X7.here hx rfl (hb hby at_32) (XS.goto X7.here hx rfl (pc0 := 33) (pc' := 37) rfl (hb hby at_33) (by decide) (by decide) k))) ?_
    show own_Go p.tables e below RR (T7.setTop (mkF m 37 #[.val (.int p1), .val (.int (2 : Int32)), .val (.ref a_GT), .val (.int (0 : Int32))] [(.int (1 : Int32))]))
    obtain ⟨fs, hrt_, hrun, hended, hW, hsame⟩ := X7.leave (v := some (.int (1 : Int32))) (fun h => by rw [Bd.returns] at h; cases h)
    refine own_fin (retN X7 hx (t := .boolean) Bd.returns (by simp) (hb hby at_37) hrt_) (hRR _ ⟨_, hrun, hended, _, _, rfl, ?_, ⟨_, rfl⟩, hW, hsame.mono (by decide) (by decide)⟩)
    show own_Q0 Z p1 a_EQ a_IN a_LTE a_GT a_LT a_GTE h0 n0 _ T7.heap _
    rw [eq7]
    exact ⟨rfl, N7⟩
  · show own_Go p.tables e below RR (s₁.setTop (mkF m 8 #[.val (.int p1), .val (.int (3 : Int32)), .unset, .unset] []))
    show own_Go p.tables e below RR (s₁.setTop (mkF m 8 #[.val (.int p1), .val (.int (3 : Int32)), .unset, .unset] []))
    refine own_st (fun _ k => XS.iloadN X0.here hx rfl (hb hby at_8) rfl k) ?_
    show own_Go p.tables e below RR (s₁.setTop (mkF m 9 #[.val (.int p1), .val (.int (3 : Int32)), .unset, .unset] [(.int (3 : Int32))]))
    obtain ⟨_, _, ⟨T8, L8, k8, n8⟩, -, X8, ⟨Lc8, hQ8, l8, y8, z8⟩, st8⟩ := Jvm.LawKit.callS X0 hx (y := (⟨"com/example/seshat/seshat/query/OperatorListsValuesPinLaw", "pick", "(I)Lcom/example/seshat/seshat/query/Operator;"⟩ : MethodName)) hown (mvT hZ (hw _ (List.mem_of_getElem? (i := 1) rfl))) (mvT hZ (hw _ (List.mem_of_getElem? (i := 2) rfl))) (mvT hZ (hw _ (List.mem_of_getElem? (i := 3) rfl))) (mvT hZ (hw _ (List.mem_of_getElem? (i := 4) rfl))) (by decide) (backOf (W := 0) (own_rmP l Z a0 hw [] (3 : Int32) a_EQ a_IN a_LTE a_GT a_LT a_GTE a_LTE h0 n0 Z0 S_EQ S_IN S_LTE S_GT S_LT S_GTE rfl) hZ (hw _ (List.mem_of_getElem? (i := 4) rfl)) (hw _ (List.mem_of_getElem? (i := 3) rfl)) (by decide) (by decide)) (g := (mkF m 9 #[.val (.int p1), .val (.int (3 : Int32)), .unset, .unset] [(.int (3 : Int32))])) rfl (by rw [hml]; rfl) (argsL := [(.int (3 : Int32))]) (rest := []) (lenOf own_pd__I_Lcom_example_seshat_seshat_query_Operator_ rfl) rfl (by show 2 * 0 + _ ≤ _; exact Nat.le_of_eq rfl) (hb hby at_9) (fun _ _ => ⟨rfl, e0, (by decide : 0 + 0 ≤ _), (by decide : 0 + 0 ≤ _)⟩)
    dsimp only [Pt.U, Pt.locs, Pt.cells, Pt.slots] at X8 l8 y8 z8 st8 hQ8
    subst l8 y8 z8
    obtain ⟨rfl, Nq8, eq8⟩ := hQ8
    have N8 := Fr.app N0 Nq8
    refine own_st st8 ?_
    show own_Go p.tables e below RR (T8.setTop (mkF m 12 #[.val (.int p1), .val (.int (3 : Int32)), .unset, .unset] [(.ref a_LTE)]))
    refine own_st (fun _ k => XS.astoreN X8.here hx rfl (hb hby at_12) rfl rfl (l' := #[.val (.int p1), .val (.int (3 : Int32)), .val (.ref a_LTE), .unset]) rfl (XS.iloadN X8.here hx rfl (hb hby at_13) rfl (XS.iconst X8.here hx rfl (hb hby at_14) k))) ?_
    show own_Go p.tables e below RR (T8.setTop (mkF m 15 #[.val (.int p1), .val (.int (3 : Int32)), .val (.ref a_LTE), .unset] [(.int (5 : Int32)), (.int (3 : Int32))]))
    refine own_st (fun _ k => XS.icmpYes X8.here hx rfl (pc0 := 15) (pc' := 22) rfl (hb hby at_15) rfl (feq (by decide)).2 (by decide) (by decide) (XS.iconst X8.here hx rfl (hb hby at_22) (XS.istoreN X8.here hx rfl (hb hby at_23) rfl (l' := #[.val (.int p1), .val (.int (3 : Int32)), .val (.ref a_LTE), .val (.int (0 : Int32))]) rfl (XS.aloadN X8.here hx rfl (hb hby at_24) rfl rfl k)))) ?_
    show own_Go p.tables e below RR (T8.setTop (mkF m 25 #[.val (.int p1), .val (.int (3 : Int32)), .val (.ref a_LTE), .val (.int (0 : Int32))] [(.ref a_LTE)]))
    obtain ⟨cq9, kq9, q9a, q9b, q9c⟩ := isOf hZ eq8 E_LTE
    obtain ⟨_, _, ⟨T9, L9, k9, n9⟩, -, X9, ⟨Lc9, hQ9, l9, y9, z9⟩, st9⟩ := X8.virtualBack hx (y := (⟨"com/example/seshat/seshat/query/Operator", "listsValues", "()Z"⟩ : MethodName)) (z := (⟨"com/example/seshat/seshat/query/Operator", "listsValues", "()Z"⟩ : MethodName)) hown (mvT hZ (hw _ (List.mem_of_getElem? (i := 8) rfl))) (mvT hZ (hw _ (List.mem_of_getElem? (i := 9) rfl))) (notFace_of_selects (args := #[]) (mvT hZ (hw _ (List.mem_of_getElem? (i := 11) rfl)))) (mvT hZ (hw _ (List.mem_of_getElem? (i := 11) rfl))) (mvT hZ (hw _ (List.mem_of_getElem? (i := 10) rfl))) (by decide) (backOf (W := 0) (own_rmV l Z a0 hw [] a_LTE a_IN (0 : Int32) h0 n0 Z0 S_IN (if_neg (Fld.ne F_LTE_ordinal F_IN_ordinal (by simp)))) hZ (hw _ (List.mem_of_getElem? (i := 12) rfl)) (hw _ (List.mem_of_getElem? (i := 6) rfl)) (by decide) (by decide)) q9a q9c (g := (mkF m 25 #[.val (.int p1), .val (.int (3 : Int32)), .val (.ref a_LTE), .val (.int (0 : Int32))] [(.ref a_LTE)])) rfl (by rw [hml]; rfl) (Steps.refl _) (argsL := []) (rest := []) (lenOf own_pd___Z rfl) rfl (by show 2 * 0 + _ ≤ _; exact Nat.le_of_eq rfl) (hb hby at_25) (fun _ _ => ⟨rfl, eq8, (by decide : 0 + 0 ≤ _), (by decide : 0 + 0 ≤ _)⟩)
    dsimp only [Pt.U, Pt.locs, Pt.cells, Pt.slots] at X9 l9 y9 z9 st9 hQ9
    subst l9 y9 z9
    obtain ⟨rfl, Nq9, eq9⟩ := hQ9
    have N9 := Fr.app N8 Nq9
    refine own_st (fun _ k => st9.trans k) ?_
    show own_Go p.tables e below RR (T9.setTop (mkF m 28 #[.val (.int p1), .val (.int (3 : Int32)), .val (.ref a_LTE), .val (.int (0 : Int32))] [(.int (0 : Int32))]))
    refine own_st (fun _ k => XS.iloadN X9.here hx rfl (hb hby at_28) rfl k) ?_
    show own_Go p.tables e below RR (T9.setTop (mkF m 29 #[.val (.int p1), .val (.int (3 : Int32)), .val (.ref a_LTE), .val (.int (0 : Int32))] [(.int (0 : Int32)), (.int (0 : Int32))]))
    refine own_st (fun _ k => XS.icmpNo X9.here hx rfl (hb hby at_29) rfl (teq (by decide)).2 (XS.iconst X9.here hx rfl (hb hby at_32) (XS.goto X9.here hx rfl (pc0 := 33) (pc' := 37) rfl (hb hby at_33) (by decide) (by decide) k))) ?_
    show own_Go p.tables e below RR (T9.setTop (mkF m 37 #[.val (.int p1), .val (.int (3 : Int32)), .val (.ref a_LTE), .val (.int (0 : Int32))] [(.int (1 : Int32))]))
    obtain ⟨fs, hrt_, hrun, hended, hW, hsame⟩ := X9.leave (v := some (.int (1 : Int32))) (fun h => by rw [Bd.returns] at h; cases h)
    refine own_fin (retN X9 hx (t := .boolean) Bd.returns (by simp) (hb hby at_37) hrt_) (hRR _ ⟨_, hrun, hended, _, _, rfl, ?_, ⟨_, rfl⟩, hW, hsame.mono (by decide) (by decide)⟩)
    show own_Q0 Z p1 a_EQ a_IN a_LTE a_GT a_LT a_GTE h0 n0 _ T9.heap _
    rw [eq9]
    exact ⟨rfl, N9⟩
  · show own_Go p.tables e below RR (s₁.setTop (mkF m 8 #[.val (.int p1), .val (.int (4 : Int32)), .unset, .unset] []))
    show own_Go p.tables e below RR (s₁.setTop (mkF m 8 #[.val (.int p1), .val (.int (4 : Int32)), .unset, .unset] []))
    refine own_st (fun _ k => XS.iloadN X0.here hx rfl (hb hby at_8) rfl k) ?_
    show own_Go p.tables e below RR (s₁.setTop (mkF m 9 #[.val (.int p1), .val (.int (4 : Int32)), .unset, .unset] [(.int (4 : Int32))]))
    obtain ⟨_, _, ⟨T10, L10, k10, n10⟩, -, X10, ⟨Lc10, hQ10, l10, y10, z10⟩, st10⟩ := Jvm.LawKit.callS X0 hx (y := (⟨"com/example/seshat/seshat/query/OperatorListsValuesPinLaw", "pick", "(I)Lcom/example/seshat/seshat/query/Operator;"⟩ : MethodName)) hown (mvT hZ (hw _ (List.mem_of_getElem? (i := 1) rfl))) (mvT hZ (hw _ (List.mem_of_getElem? (i := 2) rfl))) (mvT hZ (hw _ (List.mem_of_getElem? (i := 3) rfl))) (mvT hZ (hw _ (List.mem_of_getElem? (i := 4) rfl))) (by decide) (backOf (W := 0) (own_rmP l Z a0 hw [] (4 : Int32) a_EQ a_IN a_LTE a_GT a_LT a_GTE a_GTE h0 n0 Z0 S_EQ S_IN S_LTE S_GT S_LT S_GTE rfl) hZ (hw _ (List.mem_of_getElem? (i := 4) rfl)) (hw _ (List.mem_of_getElem? (i := 3) rfl)) (by decide) (by decide)) (g := (mkF m 9 #[.val (.int p1), .val (.int (4 : Int32)), .unset, .unset] [(.int (4 : Int32))])) rfl (by rw [hml]; rfl) (argsL := [(.int (4 : Int32))]) (rest := []) (lenOf own_pd__I_Lcom_example_seshat_seshat_query_Operator_ rfl) rfl (by show 2 * 0 + _ ≤ _; exact Nat.le_of_eq rfl) (hb hby at_9) (fun _ _ => ⟨rfl, e0, (by decide : 0 + 0 ≤ _), (by decide : 0 + 0 ≤ _)⟩)
    dsimp only [Pt.U, Pt.locs, Pt.cells, Pt.slots] at X10 l10 y10 z10 st10 hQ10
    subst l10 y10 z10
    obtain ⟨rfl, Nq10, eq10⟩ := hQ10
    have N10 := Fr.app N0 Nq10
    refine own_st st10 ?_
    show own_Go p.tables e below RR (T10.setTop (mkF m 12 #[.val (.int p1), .val (.int (4 : Int32)), .unset, .unset] [(.ref a_GTE)]))
    refine own_st (fun _ k => XS.astoreN X10.here hx rfl (hb hby at_12) rfl rfl (l' := #[.val (.int p1), .val (.int (4 : Int32)), .val (.ref a_GTE), .unset]) rfl (XS.iloadN X10.here hx rfl (hb hby at_13) rfl (XS.iconst X10.here hx rfl (hb hby at_14) k))) ?_
    show own_Go p.tables e below RR (T10.setTop (mkF m 15 #[.val (.int p1), .val (.int (4 : Int32)), .val (.ref a_GTE), .unset] [(.int (5 : Int32)), (.int (4 : Int32))]))
    refine own_st (fun _ k => XS.icmpYes X10.here hx rfl (pc0 := 15) (pc' := 22) rfl (hb hby at_15) rfl (feq (by decide)).2 (by decide) (by decide) (XS.iconst X10.here hx rfl (hb hby at_22) (XS.istoreN X10.here hx rfl (hb hby at_23) rfl (l' := #[.val (.int p1), .val (.int (4 : Int32)), .val (.ref a_GTE), .val (.int (0 : Int32))]) rfl (XS.aloadN X10.here hx rfl (hb hby at_24) rfl rfl k)))) ?_
    show own_Go p.tables e below RR (T10.setTop (mkF m 25 #[.val (.int p1), .val (.int (4 : Int32)), .val (.ref a_GTE), .val (.int (0 : Int32))] [(.ref a_GTE)]))
    obtain ⟨cq11, kq11, q11a, q11b, q11c⟩ := isOf hZ eq10 E_GTE
    obtain ⟨_, _, ⟨T11, L11, k11, n11⟩, -, X11, ⟨Lc11, hQ11, l11, y11, z11⟩, st11⟩ := X10.virtualBack hx (y := (⟨"com/example/seshat/seshat/query/Operator", "listsValues", "()Z"⟩ : MethodName)) (z := (⟨"com/example/seshat/seshat/query/Operator", "listsValues", "()Z"⟩ : MethodName)) hown (mvT hZ (hw _ (List.mem_of_getElem? (i := 8) rfl))) (mvT hZ (hw _ (List.mem_of_getElem? (i := 9) rfl))) (notFace_of_selects (args := #[]) (mvT hZ (hw _ (List.mem_of_getElem? (i := 11) rfl)))) (mvT hZ (hw _ (List.mem_of_getElem? (i := 11) rfl))) (mvT hZ (hw _ (List.mem_of_getElem? (i := 10) rfl))) (by decide) (backOf (W := 0) (own_rmV l Z a0 hw [] a_GTE a_IN (0 : Int32) h0 n0 Z0 S_IN (if_neg (Fld.ne F_GTE_ordinal F_IN_ordinal (by simp)))) hZ (hw _ (List.mem_of_getElem? (i := 12) rfl)) (hw _ (List.mem_of_getElem? (i := 6) rfl)) (by decide) (by decide)) q11a q11c (g := (mkF m 25 #[.val (.int p1), .val (.int (4 : Int32)), .val (.ref a_GTE), .val (.int (0 : Int32))] [(.ref a_GTE)])) rfl (by rw [hml]; rfl) (Steps.refl _) (argsL := []) (rest := []) (lenOf own_pd___Z rfl) rfl (by show 2 * 0 + _ ≤ _; exact Nat.le_of_eq rfl) (hb hby at_25) (fun _ _ => ⟨rfl, eq10, (by decide : 0 + 0 ≤ _), (by decide : 0 + 0 ≤ _)⟩)
    dsimp only [Pt.U, Pt.locs, Pt.cells, Pt.slots] at X11 l11 y11 z11 st11 hQ11
    subst l11 y11 z11
    obtain ⟨rfl, Nq11, eq11⟩ := hQ11
    have N11 := Fr.app N10 Nq11
    refine own_st (fun _ k => st11.trans k) ?_
    show own_Go p.tables e below RR (T11.setTop (mkF m 28 #[.val (.int p1), .val (.int (4 : Int32)), .val (.ref a_GTE), .val (.int (0 : Int32))] [(.int (0 : Int32))]))
    refine own_st (fun _ k => XS.iloadN X11.here hx rfl (hb hby at_28) rfl k) ?_
    show own_Go p.tables e below RR (T11.setTop (mkF m 29 #[.val (.int p1), .val (.int (4 : Int32)), .val (.ref a_GTE), .val (.int (0 : Int32))] [(.int (0 : Int32)), (.int (0 : Int32))]))
    refine own_st (fun _ k => XS.icmpNo X11.here hx rfl (hb hby at_29) rfl (teq (by decide)).2 (XS.iconst X11.here hx rfl (hb hby at_32) (XS.goto X11.here hx rfl (pc0 := 33) (pc' := 37) rfl (hb hby at_33) (by decide) (by decide) k))) ?_
    show own_Go p.tables e below RR (T11.setTop (mkF m 37 #[.val (.int p1), .val (.int (4 : Int32)), .val (.ref a_GTE), .val (.int (0 : Int32))] [(.int (1 : Int32))]))
    obtain ⟨fs, hrt_, hrun, hended, hW, hsame⟩ := X11.leave (v := some (.int (1 : Int32))) (fun h => by rw [Bd.returns] at h; cases h)
    refine own_fin (retN X11 hx (t := .boolean) Bd.returns (by simp) (hb hby at_37) hrt_) (hRR _ ⟨_, hrun, hended, _, _, rfl, ?_, ⟨_, rfl⟩, hW, hsame.mono (by decide) (by decide)⟩)
    show own_Q0 Z p1 a_EQ a_IN a_LTE a_GT a_LT a_GTE h0 n0 _ T11.heap _
    rw [eq11]
    exact ⟨rfl, N11⟩
  · show own_Go p.tables e below RR (s₁.setTop (mkF m 8 #[.val (.int p1), .val (.int (5 : Int32)), .unset, .unset] []))
    show own_Go p.tables e below RR (s₁.setTop (mkF m 8 #[.val (.int p1), .val (.int (5 : Int32)), .unset, .unset] []))
    refine own_st (fun _ k => XS.iloadN X0.here hx rfl (hb hby at_8) rfl k) ?_
    show own_Go p.tables e below RR (s₁.setTop (mkF m 9 #[.val (.int p1), .val (.int (5 : Int32)), .unset, .unset] [(.int (5 : Int32))]))
    obtain ⟨_, _, ⟨T12, L12, k12, n12⟩, -, X12, ⟨Lc12, hQ12, l12, y12, z12⟩, st12⟩ := Jvm.LawKit.callS X0 hx (y := (⟨"com/example/seshat/seshat/query/OperatorListsValuesPinLaw", "pick", "(I)Lcom/example/seshat/seshat/query/Operator;"⟩ : MethodName)) hown (mvT hZ (hw _ (List.mem_of_getElem? (i := 1) rfl))) (mvT hZ (hw _ (List.mem_of_getElem? (i := 2) rfl))) (mvT hZ (hw _ (List.mem_of_getElem? (i := 3) rfl))) (mvT hZ (hw _ (List.mem_of_getElem? (i := 4) rfl))) (by decide) (backOf (W := 0) (own_rmP l Z a0 hw [] (5 : Int32) a_EQ a_IN a_LTE a_GT a_LT a_GTE a_IN h0 n0 Z0 S_EQ S_IN S_LTE S_GT S_LT S_GTE rfl) hZ (hw _ (List.mem_of_getElem? (i := 4) rfl)) (hw _ (List.mem_of_getElem? (i := 3) rfl)) (by decide) (by decide)) (g := (mkF m 9 #[.val (.int p1), .val (.int (5 : Int32)), .unset, .unset] [(.int (5 : Int32))])) rfl (by rw [hml]; rfl) (argsL := [(.int (5 : Int32))]) (rest := []) (lenOf own_pd__I_Lcom_example_seshat_seshat_query_Operator_ rfl) rfl (by show 2 * 0 + _ ≤ _; exact Nat.le_of_eq rfl) (hb hby at_9) (fun _ _ => ⟨rfl, e0, (by decide : 0 + 0 ≤ _), (by decide : 0 + 0 ≤ _)⟩)
    dsimp only [Pt.U, Pt.locs, Pt.cells, Pt.slots] at X12 l12 y12 z12 st12 hQ12
    subst l12 y12 z12
    obtain ⟨rfl, Nq12, eq12⟩ := hQ12
    have N12 := Fr.app N0 Nq12
    refine own_st st12 ?_
    show own_Go p.tables e below RR (T12.setTop (mkF m 12 #[.val (.int p1), .val (.int (5 : Int32)), .unset, .unset] [(.ref a_IN)]))
    refine own_st (fun _ k => XS.astoreN X12.here hx rfl (hb hby at_12) rfl rfl (l' := #[.val (.int p1), .val (.int (5 : Int32)), .val (.ref a_IN), .unset]) rfl (XS.iloadN X12.here hx rfl (hb hby at_13) rfl (XS.iconst X12.here hx rfl (hb hby at_14) k))) ?_
    show own_Go p.tables e below RR (T12.setTop (mkF m 15 #[.val (.int p1), .val (.int (5 : Int32)), .val (.ref a_IN), .unset] [(.int (5 : Int32)), (.int (5 : Int32))]))
    refine own_st (fun _ k => XS.icmpNo X12.here hx rfl (hb hby at_15) rfl (teq (by decide)).2 (XS.iconst X12.here hx rfl (hb hby at_18) (XS.goto X12.here hx rfl (pc0 := 19) (pc' := 23) rfl (hb hby at_19) (by decide) (by decide) (XS.istoreN X12.here hx rfl (hb hby at_23) rfl (l' := #[.val (.int p1), .val (.int (5 : Int32)), .val (.ref a_IN), .val (.int (1 : Int32))]) rfl (XS.aloadN X12.here hx rfl (hb hby at_24) rfl rfl k))))) ?_
    show own_Go p.tables e below RR (T12.setTop (mkF m 25 #[.val (.int p1), .val (.int (5 : Int32)), .val (.ref a_IN), .val (.int (1 : Int32))] [(.ref a_IN)]))
    obtain ⟨cq13, kq13, q13a, q13b, q13c⟩ := isOf hZ eq12 E_IN
    obtain ⟨_, _, ⟨T13, L13, k13, n13⟩, -, X13, ⟨Lc13, hQ13, l13, y13, z13⟩, st13⟩ := X12.virtualBack hx (y := (⟨"com/example/seshat/seshat/query/Operator", "listsValues", "()Z"⟩ : MethodName)) (z := (⟨"com/example/seshat/seshat/query/Operator", "listsValues", "()Z"⟩ : MethodName)) hown (mvT hZ (hw _ (List.mem_of_getElem? (i := 8) rfl))) (mvT hZ (hw _ (List.mem_of_getElem? (i := 9) rfl))) (notFace_of_selects (args := #[]) (mvT hZ (hw _ (List.mem_of_getElem? (i := 11) rfl)))) (mvT hZ (hw _ (List.mem_of_getElem? (i := 11) rfl))) (mvT hZ (hw _ (List.mem_of_getElem? (i := 10) rfl))) (by decide) (backOf (W := 0) (own_rmV l Z a0 hw [] a_IN a_IN (1 : Int32) h0 n0 Z0 S_IN (if_pos rfl)) hZ (hw _ (List.mem_of_getElem? (i := 12) rfl)) (hw _ (List.mem_of_getElem? (i := 6) rfl)) (by decide) (by decide)) q13a q13c (g := (mkF m 25 #[.val (.int p1), .val (.int (5 : Int32)), .val (.ref a_IN), .val (.int (1 : Int32))] [(.ref a_IN)])) rfl (by rw [hml]; rfl) (Steps.refl _) (argsL := []) (rest := []) (lenOf own_pd___Z rfl) rfl (by show 2 * 0 + _ ≤ _; exact Nat.le_of_eq rfl) (hb hby at_25) (fun _ _ => ⟨rfl, eq12, (by decide : 0 + 0 ≤ _), (by decide : 0 + 0 ≤ _)⟩)
    dsimp only [Pt.U, Pt.locs, Pt.cells, Pt.slots] at X13 l13 y13 z13 st13 hQ13
    subst l13 y13 z13
    obtain ⟨rfl, Nq13, eq13⟩ := hQ13
    have N13 := Fr.app N12 Nq13
    refine own_st (fun _ k => st13.trans k) ?_
    show own_Go p.tables e below RR (T13.setTop (mkF m 28 #[.val (.int p1), .val (.int (5 : Int32)), .val (.ref a_IN), .val (.int (1 : Int32))] [(.int (1 : Int32))]))
    refine own_st (fun _ k => XS.iloadN X13.here hx rfl (hb hby at_28) rfl k) ?_
    show own_Go p.tables e below RR (T13.setTop (mkF m 29 #[.val (.int p1), .val (.int (5 : Int32)), .val (.ref a_IN), .val (.int (1 : Int32))] [(.int (1 : Int32)), (.int (1 : Int32))]))
    refine own_st (fun _ k => XS.icmpNo X13.here hx rfl (hb hby at_29) rfl (teq (by decide)).2 (XS.iconst X13.here hx rfl (hb hby at_32) (XS.goto X13.here hx rfl (pc0 := 33) (pc' := 37) rfl (hb hby at_33) (by decide) (by decide) k))) ?_
    show own_Go p.tables e below RR (T13.setTop (mkF m 37 #[.val (.int p1), .val (.int (5 : Int32)), .val (.ref a_IN), .val (.int (1 : Int32))] [(.int (1 : Int32))]))
    obtain ⟨fs, hrt_, hrun, hended, hW, hsame⟩ := X13.leave (v := some (.int (1 : Int32))) (fun h => by rw [Bd.returns] at h; cases h)
    refine own_fin (retN X13 hx (t := .boolean) Bd.returns (by simp) (hb hby at_37) hrt_) (hRR _ ⟨_, hrun, hended, _, _, rfl, ?_, ⟨_, rfl⟩, hW, hsame.mono (by decide) (by decide)⟩)
    show own_Q0 Z p1 a_EQ a_IN a_LTE a_GT a_LT a_GTE h0 n0 _ T13.heap _
    rw [eq13]
    exact ⟨rfl, N13⟩
set_option maxRecDepth 65536 in
set_option maxHeartbeats 40000000 in
theorem own_comes {Post : Tables → Env → Array Value → State → Outcome → State → Prop} (hpost : ∀ tb e args s v u, (limb_1_1.after args s (.returned v) u = true ∧ limb_1_2.after args s (.returned v) u = true ∧ True) → FrameEnd s (.returned v) u (Jvm.fieldLocs frame_1_writes args s ++ Jvm.arrayLocs frame_1_arrays args s ++ Jvm.staticLocs frame_1_statics s) 0 0 → Post tb e args s (.returned v) u) :
    ArmFor flags0 classFile x code maxLocals ret World_1 tables_1 room_1 Calls_1 rest_1 Pre_1 Post := by
  intro l hfl _ _ p e ha hc hk s m args below hf hA hF happ hP
  obtain ⟨hcalls, hrest, hpre⟩ := hP
  obtain ⟨-, -, -, hnamed, -, -, -, hat⟩ := (Spec.applies_iff hf).mp happ
  obtain ⟨hg, hn⟩ := and_e (Cond.before_iff.mp (show (Jvm.Cond.and given_1 narrow_1).before args s = true from hpre))
  obtain ⟨u1a, u1b⟩ := and_e hg
  obtain ⟨w0, rfl⟩ : ∃ w0 : Value, args = #[w0] := by
    have hs : args.size = 1 := by simpa [Cond.value, given_1] using u1a
    obtain ⟨L⟩ := args
    match L, hs with
    | [w0], _ => exact ⟨w0, rfl⟩
  have hw := fun d (hd : d ∈ tables_1) => atoms_spec (ws := Jvm.Cond.code x code maxLocals ret :: tables_1) hat d (List.mem_cons_of_mem _ hd)
  have hfit : Fit s := fun {y c} hc i hi => by
    obtain ⟨ha, rfl⟩ := Array.getElem?_eq_some_iff.mp hc
    have q := List.all_eq_true.mp ((Array.all_eq_true_iff_forall_mem.mp hF) _ (Array.getElem_mem ha)) i (List.mem_range.mpr hi)
    simpa [Array.getElem?_eq_getElem hi] using q
  obtain ⟨i0, ei0⟩ := is_v u1b
  obtain rfl : w0 = (.int i0) := Option.some.inj ei0
  obtain ⟨u101a, u101b⟩ := and_e hn
  obtain ⟨u102a, u102b⟩ := and_e u101b
  obtain ⟨u103a, u103b⟩ := and_e u102b
  obtain ⟨u104a, u104b⟩ := and_e u103b
  obtain ⟨u105a, u105b⟩ := and_e u104b
  obtain ⟨u106a, u106b⟩ := and_e u105b
  obtain ⟨u107a, u107b⟩ := and_e u106b
  obtain ⟨u108a, u108b⟩ := and_e u107b
  obtain ⟨u109a, u109b⟩ := and_e u108b
  obtain ⟨u110a, u110b⟩ := and_e u109b
  obtain ⟨u111a, u111b⟩ := and_e u110b
  obtain ⟨a_EQ, v_EQ⟩ := exa_v u101a
  have E_EQ := Exa.start v_EQ u101a
  have S_EQ := Sta.start v_EQ (Or.inr ⟨(hw _ (List.mem_of_getElem? (i := 6) rfl)), (hw _ (List.mem_of_getElem? (i := 7) rfl))⟩)
  obtain ⟨a_IN, v_IN⟩ := exa_v u102a
  have E_IN := Exa.start v_IN u102a
  have S_IN := Sta.start v_IN (Or.inr ⟨(hw _ (List.mem_of_getElem? (i := 6) rfl)), (hw _ (List.mem_of_getElem? (i := 14) rfl))⟩)
  have F_EQ_ordinal := Fld.start ((fld_at v_EQ).symm.trans (own_eq_int u103a))
  have F_IN_ordinal := Fld.start ((fld_at v_IN).symm.trans (own_eq_int u104a))
  obtain ⟨a_LTE, v_LTE⟩ := exa_v u105a
  have E_LTE := Exa.start v_LTE u105a
  have S_LTE := Sta.start v_LTE (Or.inr ⟨(hw _ (List.mem_of_getElem? (i := 6) rfl)), (hw _ (List.mem_of_getElem? (i := 16) rfl))⟩)
  have F_LTE_ordinal := Fld.start ((fld_at v_LTE).symm.trans (own_eq_int u106a))
  obtain ⟨a_GT, v_GT⟩ := exa_v u107a
  have E_GT := Exa.start v_GT u107a
  have S_GT := Sta.start v_GT (Or.inr ⟨(hw _ (List.mem_of_getElem? (i := 6) rfl)), (hw _ (List.mem_of_getElem? (i := 18) rfl))⟩)
  have F_GT_ordinal := Fld.start ((fld_at v_GT).symm.trans (own_eq_int u108a))
  obtain ⟨a_LT, v_LT⟩ := exa_v u109a
  have E_LT := Exa.start v_LT u109a
  have S_LT := Sta.start v_LT (Or.inr ⟨(hw _ (List.mem_of_getElem? (i := 6) rfl)), (hw _ (List.mem_of_getElem? (i := 20) rfl))⟩)
  have F_LT_ordinal := Fld.start ((fld_at v_LT).symm.trans (own_eq_int u110a))
  obtain ⟨a_GTE, v_GTE⟩ := exa_v u111a
  have E_GTE := Exa.start v_GTE u111a
  have S_GTE := Sta.start v_GTE (Or.inr ⟨(hw _ (List.mem_of_getElem? (i := 6) rfl)), (hw _ (List.mem_of_getElem? (i := 23) rfl))⟩)
  have F_GTE_ordinal := Fld.start ((fld_at v_GTE).symm.trans (own_eq_int u111b))
  obtain ⟨n, o, h1, h2, h3, _, L, rfl, ⟨rfl, N⟩, hq⟩ := own_rm0 l s _ hw tables_1 i0 a_EQ a_IN a_LTE a_GT a_LT a_GTE s.heap s.heap.size (Nat.le_refl _) E_EQ S_EQ E_IN S_IN F_EQ_ordinal F_IN_ordinal E_LTE S_LTE F_LTE_ordinal E_GT S_GT F_GT_ordinal E_LT S_LT F_LT_ordinal E_GTE S_GTE F_GTE_ordinal p e ha hc hk s m _ below hf ((Spec.applies_iff_loose hf).mp happ).1 ⟨rfl, State.Warmed39.refl s, rfl⟩ trivial
  refine ⟨n, _, h1, h2, h3, hpost _ _ _ _ _ _ ⟨Cond.after_iff.mpr rfl, Cond.after_iff.mpr (eq_i res_at (Term.int_eval (1)) rfl), trivial⟩ ⟨hq.1, hq.2.1, (hq.2.2.sift fun y hy => Or.inr (N y hy)).mono (by decide) (by decide)⟩⟩
theorem main_1_1 : Claimed_1_1 := own_comes fun _ _ _ _ _ _ h hF => ⟨h.1, hF⟩
theorem main_1_2 : Claimed_1_2 := own_comes fun _ _ _ _ _ _ h hF => ⟨h.2.1, hF⟩
end Jvm.Pilot.@@N@@
namespace Jvm.Pilot.@@N@@
open Jvm Jvm.ClassFile Sem Op Lib Jvm.Free Jvm.Stand Jvm.Pilot.@@N@@.Jvm.D
/-! MADE BY PROGRAM (witnessworld.py) out of the Statement's table words and the real class files: 10 classes; the members and pool entries that the words name. The judged class is class 1, her method 2. -/
namespace start1
open Jvm.ClassFile
def u (s : String) : CpInfo := .utf8 (stringToUtf16 s)
/-- a pool by its gaps: so many unusable entries, then the entry; so many at the end -/
def gap : Nat → List CpInfo → List CpInfo
  | 0, r => r
  | n + 1, r => .unusable :: gap n r
def poolList (es : List (Nat × CpInfo)) (last : Nat) : List CpInfo := es.foldr (fun e r => gap e.1 (e.2 :: r)) (gap last [])
def pool (es : List (Nat × CpInfo)) (last : Nat) : Array CpInfo := ⟨poolList es last⟩
def fileOf (pool : Array CpInfo) (this : Nat) (attrs : Array Attribute := #[]) (ms : Array MethodInfo := #[]) (fl : Nat := 33) (sup : Nat := 0) (ifs : Array Nat := #[]) (fds : Array FieldInfo := #[]) : ClassFile where
  minorVersion := 0
  majorVersion := 65
  constantPool := pool
  accessFlags := fl
  thisClass := this
  superClass := sup
  interfaces := ifs
  fields := fds
  methods := ms
  attributes := attrs
def plain (name : String) (sup : Option ClassId) : Class where
  name := name
  kind := .ordinary
  loader := none
  accessFlags := 33
  super := sup
  interfaces := #[]
  cf := none
  fields := #[]
  methods := #[]
  instanceTypes := #[]
  staticTypes := #[]
  resolved := #[]
  callSites := []
  init := .initialized
  statics := none
  mirror := none

def pool0 : Array CpInfo := pool [(5, u "<init>"), (0, u "()V"), (1, .class_ 10), (1, u "java/lang/Object")] 113

def k0m0 : Method := { name := "<init>", desc := "()V", sig := { parameters := [], returnType := none }, accessFlags := 1, code := none }
/-- java/lang/Object -/
def k0 : Class := { plain "java/lang/Object" none with
  accessFlags := 33
  interfaces := #[]
  cf := some (fileOf pool0 8 #[] #[{ accessFlags := 1, nameIndex := 5, descriptorIndex := 6, attributes := #[] }] 33 0 #[] #[])
  fields := #[]
  methods := #[k0m0]
  instanceTypes := #[]
  staticTypes := #[]
  resolved := Array.replicate 124 none
  statics := none }

def pool1 : Array CpInfo := pool [(2, .class_ 4), (1, u "java/lang/Object"), (0, u "<init>"), (0, u "()V"), (0, .fieldref 8 9), (0, .class_ 10), (0, .nameAndType 11 12), (0, u "com/example/seshat/seshat/query/Operator"), (0, u "EQ"), (0, u "Lcom/example/seshat/seshat/query/Operator;"), (0, .fieldref 8 14), (0, .nameAndType 15 12), (0, u "LT"), (0, .fieldref 8 17), (0, .nameAndType 18 12), (0, u "GT"), (0, .fieldref 8 20), (0, .nameAndType 21 12), (0, u "LTE"), (0, .fieldref 8 23), (0, .nameAndType 24 12), (0, u "GTE"), (0, .fieldref 8 26), (0, .nameAndType 27 12), (0, u "IN"), (0, .integer 2147483647), (0, .methodref 30 31), (0, .class_ 32), (0, .nameAndType 33 34), (0, u "com/example/seshat/seshat/query/OperatorListsValuesPinLaw"), (0, u "pick"), (0, u "(I)Lcom/example/seshat/seshat/query/Operator;"), (0, .methodref 8 36), (0, .nameAndType 37 38), (0, u "listsValues"), (0, u "()Z"), (3, u "law"), (0, u "(I)Z")] 2

def k1m0 : Method := { name := "<init>", desc := "()V", sig := { parameters := [], returnType := none }, accessFlags := 2, code := none }
def k1c1 : Code := { maxStack := 2, maxLocals := 1, code := method_2_code, exceptionTable := #[], attributes := #[] }
def k1m1 : Method := { name := "pick", desc := "(I)Lcom/example/seshat/seshat/query/Operator;", sig := { parameters := [.int], returnType := some (.object "com/example/seshat/seshat/query/Operator") }, accessFlags := 10, code := some k1c1 }
def k1c2 : Code := { maxStack := 2, maxLocals := 4, code := code, exceptionTable := #[], attributes := #[] }
def k1m2 : Method := { name := "law", desc := "(I)Z", sig := { parameters := [.int], returnType := some .boolean }, accessFlags := 9, code := some k1c2 }
/-- com/example/seshat/seshat/query/OperatorListsValuesPinLaw -/
def k1 : Class := { plain "com/example/seshat/seshat/query/OperatorListsValuesPinLaw" (some 0) with
  accessFlags := 49
  interfaces := #[]
  cf := some (fileOf pool1 30 #[] #[{ accessFlags := 2, nameIndex := 5, descriptorIndex := 6, attributes := #[] }, { accessFlags := 10, nameIndex := 33, descriptorIndex := 34, attributes := #[] }, { accessFlags := 9, nameIndex := 42, descriptorIndex := 43, attributes := #[] }] 49 2 #[] #[])
  fields := #[]
  methods := #[k1m0, k1m1, k1m2]
  instanceTypes := #[]
  staticTypes := #[]
  resolved := Array.replicate 46 none
  statics := none }

def pool2 : Array CpInfo := pool [(1, .class_ 2), (0, u "java/lang/constant/Constable"), (0, .class_ 4), (0, u "java/lang/Object")] 6

/-- java/lang/constant/Constable -/
def k2 : Class := { plain "java/lang/constant/Constable" (some 0) with
  accessFlags := 1537
  interfaces := #[]
  cf := some (fileOf pool2 1 #[] #[] 1537 3 #[] #[])
  fields := #[]
  methods := #[]
  instanceTypes := #[]
  staticTypes := #[]
  resolved := Array.replicate 11 none
  statics := none }

def pool3 : Array CpInfo := pool [(1, .class_ 2), (0, u "java/lang/Comparable"), (0, .class_ 4), (0, u "java/lang/Object")] 7

/-- java/lang/Comparable -/
def k3 : Class := { plain "java/lang/Comparable" (some 0) with
  accessFlags := 1537
  interfaces := #[]
  cf := some (fileOf pool3 1 #[] #[] 1537 3 #[] #[])
  fields := #[]
  methods := #[]
  instanceTypes := #[]
  staticTypes := #[]
  resolved := Array.replicate 12 none
  statics := none }

def pool4 : Array CpInfo := pool [(1, .class_ 2), (0, u "java/io/Serializable"), (0, .class_ 4), (0, u "java/lang/Object")] 2

/-- java/io/Serializable -/
def k4 : Class := { plain "java/io/Serializable" (some 0) with
  accessFlags := 1537
  interfaces := #[]
  cf := some (fileOf pool4 1 #[] #[] 1537 3 #[] #[])
  fields := #[]
  methods := #[]
  instanceTypes := #[]
  staticTypes := #[]
  resolved := Array.replicate 7 none
  statics := none }

def pool5 : Array CpInfo := pool [(2, .class_ 4), (1, u "java/lang/Enum"), (0, u "name"), (0, u "Ljava/lang/String;"), (2, u "ordinal"), (0, u "I"), (1, .class_ 14), (1, u "java/lang/Object"), (4, u "hash"), (86, .class_ 108), (1, u "java/lang/Enum$EnumDesc"), (2, .class_ 112), (0, u "java/lang/constant/Constable"), (0, .class_ 114), (0, u "java/lang/Comparable"), (0, .class_ 116), (0, u "java/io/Serializable")] 87

/-- java/lang/Enum -/
def k5 : Class := { plain "java/lang/Enum" (some 0) with
  accessFlags := 1057
  interfaces := #[2, 3, 4]
  cf := some (fileOf pool5 2 #[.nestMembers #[106]] #[] 1057 12 #[111, 113, 115] #[{ accessFlags := 18, nameIndex := 5, descriptorIndex := 6, attributes := #[] }, { accessFlags := 18, nameIndex := 9, descriptorIndex := 10, attributes := #[] }, { accessFlags := 2, nameIndex := 19, descriptorIndex := 10, attributes := #[] }])
  fields := #[{ name := "name", type := (.object "java/lang/String"), accessFlags := 18, slot := 0, constantValue := 0 }, { name := "ordinal", type := .int, accessFlags := 18, slot := 1, constantValue := 0 }, { name := "hash", type := .int, accessFlags := 2, slot := 2, constantValue := 0 }]
  methods := #[]
  instanceTypes := #[(.object "java/lang/String"), .int, .int]
  staticTypes := #[]
  resolved := Array.replicate 204 none
  statics := none }

def pool6 : Array CpInfo := pool [(1, .class_ 2), (0, u "com/example/seshat/seshat/query/Operator"), (2, u "EQ"), (0, u "Lcom/example/seshat/seshat/query/Operator;"), (2, u "LT"), (2, u "GT"), (2, u "LTE"), (2, u "GTE"), (0, .fieldref 1 20), (0, .nameAndType 21 6), (0, u "IN"), (2, u "$VALUES"), (0, u "[Lcom/example/seshat/seshat/query/Operator;"), (6, .class_ 34), (1, u "java/lang/Enum"), (91, u "listsValues"), (0, u "()Z")] 21

def k6c0 : Code := { maxStack := 2, maxLocals := 1, code := prog_16_method_6_code, exceptionTable := #[], attributes := #[] }
def k6m0 : Method := { name := "listsValues", desc := "()Z", sig := { parameters := [], returnType := some .boolean }, accessFlags := 0, code := some k6c0 }
/-- com/example/seshat/seshat/query/Operator -/
def k6 : Class := { plain "com/example/seshat/seshat/query/Operator" (some 5) with
  accessFlags := 16432
  interfaces := #[]
  cf := some (fileOf pool6 1 #[] #[{ accessFlags := 0, nameIndex := 126, descriptorIndex := 127, attributes := #[] }] 16432 32 #[] #[{ accessFlags := 16409, nameIndex := 5, descriptorIndex := 6, attributes := #[] }, { accessFlags := 16409, nameIndex := 9, descriptorIndex := 6, attributes := #[] }, { accessFlags := 16409, nameIndex := 12, descriptorIndex := 6, attributes := #[] }, { accessFlags := 16409, nameIndex := 15, descriptorIndex := 6, attributes := #[] }, { accessFlags := 16409, nameIndex := 18, descriptorIndex := 6, attributes := #[] }, { accessFlags := 16409, nameIndex := 21, descriptorIndex := 6, attributes := #[] }, { accessFlags := 4122, nameIndex := 24, descriptorIndex := 25, attributes := #[] }])
  fields := #[{ name := "EQ", type := (.object "com/example/seshat/seshat/query/Operator"), accessFlags := 16409, slot := 0, constantValue := 0 }, { name := "LT", type := (.object "com/example/seshat/seshat/query/Operator"), accessFlags := 16409, slot := 1, constantValue := 0 }, { name := "GT", type := (.object "com/example/seshat/seshat/query/Operator"), accessFlags := 16409, slot := 2, constantValue := 0 }, { name := "LTE", type := (.object "com/example/seshat/seshat/query/Operator"), accessFlags := 16409, slot := 3, constantValue := 0 }, { name := "GTE", type := (.object "com/example/seshat/seshat/query/Operator"), accessFlags := 16409, slot := 4, constantValue := 0 }, { name := "IN", type := (.object "com/example/seshat/seshat/query/Operator"), accessFlags := 16409, slot := 5, constantValue := 0 }, { name := "$VALUES", type := (.array (.object "com/example/seshat/seshat/query/Operator")), accessFlags := 4122, slot := 6, constantValue := 0 }]
  methods := #[k6m0]
  instanceTypes := #[(.object "java/lang/String"), .int, .int]
  staticTypes := #[(.object "com/example/seshat/seshat/query/Operator"), (.object "com/example/seshat/seshat/query/Operator"), (.object "com/example/seshat/seshat/query/Operator"), (.object "com/example/seshat/seshat/query/Operator"), (.object "com/example/seshat/seshat/query/Operator"), (.object "com/example/seshat/seshat/query/Operator"), (.array (.object "com/example/seshat/seshat/query/Operator"))]
  resolved := Array.replicate 149 none
  statics := some 0 }

def pool7 : Array CpInfo := pool [(1, u "java/lang/Cloneable"), (0, .class_ 1), (0, u "java/lang/Object"), (0, .class_ 3)] 3

/-- java/lang/Cloneable -/
def k7 : Class := { plain "java/lang/Cloneable" (some 0) with
  accessFlags := 1537
  interfaces := #[]
  cf := some (fileOf pool7 2 #[] #[] 1537 4 #[] #[])
  fields := #[]
  methods := #[]
  instanceTypes := #[]
  staticTypes := #[]
  resolved := Array.replicate 8 none
  statics := none }

/-- the primitive byte -/
def k8 : Class := { plain "byte" none with kind := .primitive 'B', accessFlags := 0x411 }
/-- [B -/
def k9 : Class := { plain "[B" (some 0) with kind := .array 8 .byte, interfaces := #[7, 4], accessFlags := 1041 }

def heap : Heap := #[{ cls := 6, slots := #[.ref 1, .ref 5, .ref 4, .ref 3, .ref 6, .ref 2, .null], vm := .statics 6 },
  { cls := 6, slots := #[.null, .int 0, .int 0], vm := .none },
  { cls := 6, slots := #[.null, .int 5, .int 0], vm := .none },
  { cls := 6, slots := #[.null, .int 3, .int 0], vm := .none },
  { cls := 6, slots := #[.null, .int 2, .int 0], vm := .none },
  { cls := 6, slots := #[.null, .int 1, .int 0], vm := .none },
  { cls := 6, slots := #[.null, .int 4, .int 0], vm := .none }]
def classes : Array Class := #[k0, k1, k2, k3, k4, k5, k6, k7, k8, k9]
def interned : List (Array UInt16 × Addr) := []
def slotsUsed : Nat := 25
def theMethod : MethodId := ⟨1, 2⟩
def args0 : Array Value := #[.int 5]
def aboutOver (below : List Frame) : State where
  vm := { classes := classes, interned := interned.toArray }
  heap := heap
  slotsUsed := slotsUsed
  threads := #[{ frames := .invoking theMethod args0 :: below }]
def below0 : List Frame := [.native { method := ⟨0, 0⟩, args := #[] }]
def about1 : State := aboutOver below0
def p0 : Program := .bare "" "" ""
def e0 : Env := launch0.env 0 0 0
theorem w_frames : about1.frames = Frame.invoking theMethod args0 :: below0 := rfl
set_option maxRecDepth 65536 in
theorem w_args : argsFit about1.vm theMethod args0 = true := by decide +kernel
set_option maxRecDepth 65536 in
theorem w_heap : heapFits about1 = true := by decide +kernel
set_option maxRecDepth 65536 in
theorem w_runnable : about1.curStatus? = some .runnable := by decide +kernel
set_option maxRecDepth 65536 in
theorem w_alone : about1.alone = true := by decide +kernel
set_option maxRecDepth 65536 in
theorem w_named : about1.methodNamed? x = some theMethod := by decide +kernel
set_option maxRecDepth 65536 in
theorem w_hears : about1.hears theMethod below0 = true := by decide +kernel
set_option maxRecDepth 65536 in
theorem w_ripe : about1.ripe theMethod args0 below0 = true := by decide +kernel
theorem w_running : about1.status = .running := rfl
set_option maxRecDepth 65536 in
theorem w_room : about1.hasRoom e0.platform room_1 = true :=
  launch0.hasRoom_least _ room_1 (by decide +kernel) (by decide +kernel) (by decide +kernel) (by decide +kernel) (by decide +kernel) (by decide +kernel)
theorem allAtoms_all (ts : List Jvm.Cond) (a : Array Jvm.Value) (st : Jvm.State) : (allAtoms ts).before a st = ts.all (fun c => c.before a st) := by
  induction ts with
  | nil => rfl
  | cons c t ih =>
    show (Jvm.Cond.and c (allAtoms t)).before a st = _
    rw [Jvm.Cond.before_and, ih, List.all_cons]
def words1 : List Jvm.Cond := Jvm.Cond.code x code maxLocals ret :: tables_1
/-- a 'code' word, met by the world's own term for the bytes: nothing is compared byte by byte -/
theorem code_word {y : MethodName} {bytes : ByteArray} {mx : Nat} {rt : Option FieldType} {a : Array Value} {s : State} {m : MethodId} {meth : Method} {c : Code} (h1 : s.methodNamed? y = some m) (h2 : s.vm.method? m = some meth) (h3 : meth.code = some c) (h4 : c.code = bytes)
    (h5 : (c.maxLocals == mx && c.exceptionTable.isEmpty && decide (c.maxStack ≤ mostOperands) && decide (meth.sig.returnType = rt) && !meth.locks && decide (parseMethodDescriptor y.desc = some meth.sig)) = true) : (Jvm.Cond.code y bytes mx rt).before a s = true := by
  simp only [Bool.and_eq_true, beq_iff_eq, Bool.not_eq_true', decide_eq_true_eq] at h5
  obtain ⟨⟨⟨⟨⟨g1, g2⟩, g3⟩, g4⟩, g5⟩, g6⟩ := h5
  simp [Cond.before, Cond.holds, Cond.value, h1, h2, h3, h4, g1, g2, g3, g4, g5, g6]
def isCode : Jvm.Cond → Bool
  | .code _ _ _ _ => true
  | _ => false
theorem all_split {L : List Jvm.Cond} {P : Jvm.Cond → Bool} (h1 : L.all (fun c => isCode c || P c) = true) (h2 : ∀ c ∈ L.filter isCode, P c = true) : L.all P = true := by
  refine List.all_eq_true.mpr fun c hc => ?_
  have h := List.all_eq_true.mp h1 c hc
  rcases Bool.eq_false_or_eq_true (isCode c) with hi | hi
  · exact h2 c (List.mem_filter.mpr ⟨hc, hi⟩)
  · simpa [hi] using h
set_option maxRecDepth 65536 in
theorem w_c0 : (Jvm.Cond.code x code maxLocals ret).before args0 about1 = true := code_word (m := ⟨1, 2⟩) (meth := k1m2) (c := k1c2) (by decide +kernel) rfl rfl rfl (by decide +kernel)
set_option maxRecDepth 65536 in
theorem w_c1 : (Jvm.Cond.code ({ cls := "com/example/seshat/seshat/query/OperatorListsValuesPinLaw", name := "pick", desc := "(I)Lcom/example/seshat/seshat/query/Operator;" } : Jvm.MethodName) method_2_code (1 : Nat) (Option.some (Jvm.ClassFile.FieldType.object "com/example/seshat/seshat/query/Operator"))).before args0 about1 = true := code_word (m := ⟨1, 1⟩) (meth := k1m1) (c := k1c1) (by decide +kernel) rfl rfl rfl (by decide +kernel)
set_option maxRecDepth 65536 in
theorem w_c2 : (Jvm.Cond.code ({ cls := "com/example/seshat/seshat/query/Operator", name := "listsValues", desc := "()Z" } : Jvm.MethodName) prog_16_method_6_code (1 : Nat) (Option.some Jvm.ClassFile.FieldType.boolean)).before args0 about1 = true := code_word (m := ⟨6, 0⟩) (meth := k6m0) (c := k6c0) (by decide +kernel) rfl rfl rfl (by decide +kernel)
def codes1 : List Jvm.Cond := [Jvm.Cond.code x code maxLocals ret, Jvm.Cond.code ({ cls := "com/example/seshat/seshat/query/OperatorListsValuesPinLaw", name := "pick", desc := "(I)Lcom/example/seshat/seshat/query/Operator;" } : Jvm.MethodName) method_2_code (1 : Nat) (Option.some (Jvm.ClassFile.FieldType.object "com/example/seshat/seshat/query/Operator")), Jvm.Cond.code ({ cls := "com/example/seshat/seshat/query/Operator", name := "listsValues", desc := "()Z" } : Jvm.MethodName) prog_16_method_6_code (1 : Nat) (Option.some Jvm.ClassFile.FieldType.boolean)]
set_option maxRecDepth 65536 in
theorem codes_eq : words1.filter isCode = codes1 := rfl
theorem w_codes : ∀ c ∈ words1.filter isCode, c.before args0 about1 = true := by
  rw [codes_eq]
  intro c hc
  simp only [codes1, List.mem_cons, List.not_mem_nil, or_false] at hc
  rcases hc with rfl | rfl | rfl
  · exact w_c0
  · exact w_c1
  · exact w_c2
set_option maxRecDepth 65536 in
theorem w_t1 : (words1.take 24).all (fun c => isCode c || c.before args0 about1) = true := by decide +kernel
set_option maxRecDepth 65536 in
theorem w_t2 : (words1.drop 24).all (fun c => isCode c || c.before args0 about1) = true := by decide +kernel
theorem w_tables : (allAtoms (Jvm.Cond.code x code maxLocals ret :: tables_1)).before args0 about1 = true := by
  rw [allAtoms_all]
  show words1.all (fun c => c.before args0 about1) = true
  refine all_split ?_ w_codes
  rw [← List.take_append_drop 24 words1, List.all_append, w_t1, w_t2]
  rfl
set_option maxRecDepth 65536 in
theorem w_case : (Jvm.Cond.and given_1 narrow_1).before args0 about1 = true := by decide +kernel
theorem w_applies : (headSpec (Jvm.Cond.code x code maxLocals ret :: tables_1) room_1).applies x e0.platform about1 = true :=
  (Spec.applies_iff w_frames).mpr ⟨w_running, w_runnable, w_alone, w_named, w_hears, w_ripe, w_room, w_tables⟩
theorem atStart : AtStart classFile x code maxLocals ret World_1 tables_1 room_1 Calls_1 rest_1 Pre_1 launch0 p0 e0 about1 theMethod args0 below0 :=
  ⟨lists_1, trivial, launch0.admits_env _ _ _, launch0.least_env, fairChoices_fair.cas, fairChoices_fair.clock, w_frames, w_args, w_heap, w_applies, trivial, trivial, w_case⟩
end start1
theorem witness_1 : WitnessClaimed_1 := ⟨start1.p0, start1.e0, start1.about1, start1.theMethod, start1.args0, start1.below0, start1.atStart⟩
end Jvm.Pilot.@@N@@
