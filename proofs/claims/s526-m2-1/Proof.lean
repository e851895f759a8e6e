import JvmDerived
import JvmDerived.Pilot.@@N@@Statement
import JvmDerived.Pilot.@@N@@Code
set_option linter.unusedVariables false
set_option linter.unusedSimpArgs false
namespace Jvm.RoadKit
open Sem ClassFile Op Lib Jvm.Stand Jvm.Free Jvm.LawKit
section Own
/-- from u a state is reached where R holds -/
def own_Go (tb : Tables) (e : Env) (below : List Frame) (R : State → Prop) (u : State) : Prop := ∃ t, Steps tb e below u t ∧ R t
theorem own_st {tb : Tables} {e : Env} {below : List Frame} {R : State → Prop} {u v : State} (h : ∀ t, Steps tb e below v t → Steps tb e below u t) (g : own_Go tb e below R v) : own_Go tb e below R u := by
  obtain ⟨t, h1, h2⟩ := g
  exact ⟨t, h t h1, h2⟩
theorem own_fin {tb : Tables} {e : Env} {below : List Frame} {R : State → Prop} {u t : State} (h : Steps tb e below u t) (r : R t) : own_Go tb e below R u := ⟨t, h, r⟩
theorem own_in {tb : Tables} {e : Env} {below : List Frame} {u v : State} {P : State → Outcome → Prop} (h : ∀ t, Steps tb e below v t → Steps tb e below u t)
    (g : ∀ RR : State → Prop, (∀ t, (∃ o, t.status = .running ∧ P t o) → RR t) → own_Go tb e below RR v) : ∃ t o, Steps tb e below u t ∧ t.status = .running ∧ P t o := by
  obtain ⟨t, h1, o, h2, h3⟩ := g (fun t => ∃ o, t.status = .running ∧ P t o) fun _ q => q
  exact ⟨t, o, h t h1, h2, h3⟩
theorem own_ri {x y : Int32} (h : x = y) : some (Value.int x) = some (Value.int y) := h ▸ rfl
theorem own_rj {x y : Int64} (h : x = y) : some (Value.long x) = some (Value.long y) := h ▸ rfl
theorem own_rr {x y : Addr} (h : x = y) : some (Value.ref x) = some (Value.ref y) := h ▸ rfl
theorem own_eq_int {args : Array Value} {first s : State} {o : Option Outcome} {idx : List Nat} {a : Term} {k : Int32} (h : (Cond.eq a (.int k)).value args first o s idx = some true) : a.eval args first o idx s = some (.int k) := by
  simp only [Cond.value, Term.eval] at h
  cases ht : a.eval args first o idx s with
  | none => simp [ht] at h
  | some x => cases x <;> simp [ht] at h ⊢; exact h
theorem own_eq_long {args : Array Value} {first s : State} {o : Option Outcome} {idx : List Nat} {a : Term} {k : Int64} (h : (Cond.eq a (.long k)).value args first o s idx = some true) : a.eval args first o idx s = some (.long k) := by
  simp only [Cond.value, Term.eval] at h
  cases ht : a.eval args first o idx s with
  | none => simp [ht] at h
  | some x => cases x <;> simp [ht] at h ⊢; exact h
theorem own_selP {s : State} {args : Array Value} {y : MethodName} {n : Nat} (wi : (Cond.instantiable y.cls n).before args s = true) (hp : s.PrivateAt y) (hi : (Cond.instanceMethod y).before args s = true) (hy : y.cls ≠ "java/lang/invoke/MethodHandle" ∧ y.cls ≠ "java/lang/invoke/VarHandle") : (Cond.selects y.cls y y).before args s = true := by
  obtain ⟨c, k, h1, h2, -, h4, -⟩ := Cond.instantiable_spec wi
  exact selects_self_of_private h1 h2 (Bool.or_eq_false_iff.mp h4).1 hp hi hy
variable {p : Program} {l : Launch} {e : Env} {R : Room} {s : State} {m : MethodId} {args : Array Value} {below : List Frame} {meth : Method} {c : Code} {T : State} {locs : List Loc} {cells slots : Nat} {Z : State} {h : Heap}
theorem retI (X : Stand p l e R s m args below meth c T locs cells slots) (hx : p.tables.exec = Jvm.exec) {pc : Nat} {Ls : Array Slot} {z : Int32} {rest : List Value} (hret : meth.sig.returnType = some .int) (hd : decode c.code pc = .ok (.ireturn, 1)) {fs : List Frame}
    (hl : ∀ (f : JFrame) (acts : List Action), f.method = m → f.locked = none → f.entered = [] → (doReturn e (T.setTop f) acts (some (.int z))).1 = T.setFrames fs) : Steps p.tables e below (T.setTop (mkF m pc Ls (.int z :: rest))) (T.setFrames fs) :=
  retOut X hx hret rfl (Or.inl ⟨rfl, Or.inl rfl, z, rfl⟩) hd hl
theorem own_len (X : Stand p l e R s m args below meth c T locs cells slots) (hx : p.tables.exec = Jvm.exec) (hZ : Z.Warmed39 s.vm) (eT : T.heap = h) {a : Addr} {cl : Cell} {ty : FieldType} (A : Arr Z h a cl ty) {z : Int32} (S : cl.slots.size = z.toNatClampNeg) (N : ¬ z < 0)
    {g : JFrame} (hg : g.method = m) {rest : List Value} (hs : g.stack = .ref a :: rest) (hd : decode c.code g.pc = .ok (.arraylength, 1)) {target : State}
    (k : Steps p.tables e below (T.setTop { g with pc := g.pc + 1, stack := .int z :: rest }) target) : Steps p.tables e below (T.setTop g) target :=
  X.arraylength hx (by rw [eT]; exact A.1) (State.isArrayOf_alike hZ.alike A.2.1) hg hs hd target (by rw [len_of S N]; exact k)
end Own
end Jvm.RoadKit
namespace Jvm.Pilot.@@N@@
open Jvm Jvm.ClassFile Sem Op Lib Jvm.Free Jvm.Stand Jvm.LawKit Jvm.RoadKit Bundle Jvm.Pilot.@@N@@.Jvm.D
def own_pick (k : Int32) (a0 a1 a2 a3 a4 a5 : Addr) : Addr := if k = 0 then a0 else if k = 1 then a1 else if k = 2 then a2 else if k = 3 then a3 else if k = 4 then a4 else a5
def own_base (k : Int32) : Int32 := if k = 0 then 0 else if k = 3 then 2 else if k = 4 then 3 else 1
theorem own_six {x v : Int32} (h : (x &&& (2147483647 : Int32)) % (6 : Int32) = v) : v = 0 ∨ v = 1 ∨ v = 2 ∨ v = 3 ∨ v = 4 ∨ v = 5 := by
  have h1 := c_mask x 2147483647 31 (by decide) (by decide)
  have h2 := c_irem (x &&& 2147483647) 6 6 (by decide)
  rw [h] at h2
  have e : v.toInt = 0 ∨ v.toInt = 1 ∨ v.toInt = 2 ∨ v.toInt = 3 ∨ v.toInt = 4 ∨ v.toInt = 5 := by omega
  simpa [← Int32.toInt_inj] using e
theorem own_spear {k : Int32} {a0 a1 a2 a3 a4 a5 : Addr} (h0 : a0 ≠ a1) (h2 : a2 ≠ a1) (h3 : a3 ≠ a1) (h4 : a4 ≠ a1) (h5 : a5 ≠ a1) (hk : ¬ k = (1 : Int32)) : ¬ own_pick k a0 a1 a2 a3 a4 a5 = a1 := by
  unfold own_pick
  split
  · exact h0
  · first | rw [if_neg hk] | skip
    split
    · exact h2
    · split
      · exact h3
      · split
        · exact h4
        · exact h5
theorem own_spear1 {k : Int32} {a0 a1 a2 a3 a4 a5 : Addr} (hk : k = (1 : Int32)) : own_pick k a0 a1 a2 a3 a4 a5 = a1 := by
  subst hk
  rfl
theorem own_pn_com_example_powderhorn_powderhorn_rules_pigwars_MeleeWeaponBonusPinLaw : plainName "com/example/powderhorn/powderhorn/rules/pigwars/MeleeWeaponBonusPinLaw" = true := by first | (simp [plainName, overriddenIn]; done) | decide +kernel
theorem own_dmethod_2_code_0 : decode method_2_code 0 = .ok (.iload_n 0, 1) := by decide +kernel
theorem own_dmethod_2_code_1 : decode method_2_code 1 = .ok (.ifCond .ne 7, 3) := by decide +kernel
theorem own_dmethod_2_code_4 : decode method_2_code 4 = .ok (.getstatic 7, 3) := by decide +kernel
theorem own_dmethod_2_code_7 : decode method_2_code 7 = .ok (.areturn, 1) := by decide +kernel
theorem own_dmethod_2_code_8 : decode method_2_code 8 = .ok (.iload_n 0, 1) := by decide +kernel
theorem own_dmethod_2_code_9 : decode method_2_code 9 = .ok (.iconst 1, 1) := by decide +kernel
theorem own_dmethod_2_code_10 : decode method_2_code 10 = .ok (.if_icmp .ne 7, 3) := by decide +kernel
theorem own_dmethod_2_code_13 : decode method_2_code 13 = .ok (.getstatic 13, 3) := by decide +kernel
theorem own_dmethod_2_code_16 : decode method_2_code 16 = .ok (.areturn, 1) := by decide +kernel
theorem own_dmethod_2_code_17 : decode method_2_code 17 = .ok (.iload_n 0, 1) := by decide +kernel
theorem own_dmethod_2_code_18 : decode method_2_code 18 = .ok (.iconst 2, 1) := by decide +kernel
theorem own_dmethod_2_code_19 : decode method_2_code 19 = .ok (.if_icmp .ne 7, 3) := by decide +kernel
theorem own_dmethod_2_code_22 : decode method_2_code 22 = .ok (.getstatic 16, 3) := by decide +kernel
theorem own_dmethod_2_code_25 : decode method_2_code 25 = .ok (.areturn, 1) := by decide +kernel
theorem own_dmethod_2_code_26 : decode method_2_code 26 = .ok (.iload_n 0, 1) := by decide +kernel
theorem own_dmethod_2_code_27 : decode method_2_code 27 = .ok (.iconst 3, 1) := by decide +kernel
theorem own_dmethod_2_code_28 : decode method_2_code 28 = .ok (.if_icmp .ne 7, 3) := by decide +kernel
theorem own_dmethod_2_code_31 : decode method_2_code 31 = .ok (.getstatic 19, 3) := by decide +kernel
theorem own_dmethod_2_code_34 : decode method_2_code 34 = .ok (.areturn, 1) := by decide +kernel
theorem own_dmethod_2_code_35 : decode method_2_code 35 = .ok (.iload_n 0, 1) := by decide +kernel
theorem own_dmethod_2_code_36 : decode method_2_code 36 = .ok (.iconst 4, 1) := by decide +kernel
theorem own_dmethod_2_code_37 : decode method_2_code 37 = .ok (.if_icmp .ne 7, 3) := by decide +kernel
theorem own_dmethod_2_code_40 : decode method_2_code 40 = .ok (.getstatic 22, 3) := by decide +kernel
theorem own_dmethod_2_code_43 : decode method_2_code 43 = .ok (.areturn, 1) := by decide +kernel
theorem own_dmethod_2_code_44 : decode method_2_code 44 = .ok (.getstatic 25, 3) := by decide +kernel
theorem own_dmethod_2_code_47 : decode method_2_code 47 = .ok (.areturn, 1) := by decide +kernel
theorem own_efP (m : MethodId) (p1 : Int32) : entryFrame m #[(.int p1)] 1 = mkF m 0 #[.val (.int p1)] [] := by first | (simp [entryFrame, mkF, argsToLocals, Value.category]; done) | rfl
def own_QP (Z : State) (p1 : Int32) (a_IMPROVISED : Addr) (a_ONE_HAND_EDGED : Addr) (a_LANCE : Addr) (a_SPEAR : Addr) (a_TWO_HAND_EDGED : Addr) (a_CLUB : Addr) (r : Addr) (h0 : Heap) (n0 : Nat) (rv__ : Option Value) (h : Heap) (rL__ : List Loc) : Prop := rv__ = some (.ref r) ∧ Fr n0 rL__ ∧ h = h0
abbrev own_RP : Room := { frames := 0, cells := 0, slots := 0, locals := 0 }
set_option maxRecDepth 65536 in
set_option maxHeartbeats 40000000 in
theorem own_rmP (l : Launch) (Z : State) (a0 : Array Value) (hw : ∀ d ∈ tables_1, d.before a0 Z = true) (ws : List Jvm.Cond) (p1 : Int32) (a_IMPROVISED : Addr) (a_ONE_HAND_EDGED : Addr) (a_LANCE : Addr) (a_SPEAR : Addr) (a_TWO_HAND_EDGED : Addr) (a_CLUB : Addr) (r : Addr) (h0 : Heap) (n0 : Nat) (Z0 : n0 ≤ h0.size) (S_IMPROVISED : Sta Z h0 "com/example/powderhorn/powderhorn/rules/pigwars/MeleeWeapon" "IMPROVISED" "Lcom/example/powderhorn/powderhorn/rules/pigwars/MeleeWeapon;" (.ref a_IMPROVISED)) (S_ONE_HAND_EDGED : Sta Z h0 "com/example/powderhorn/powderhorn/rules/pigwars/MeleeWeapon" "ONE_HAND_EDGED" "Lcom/example/powderhorn/powderhorn/rules/pigwars/MeleeWeapon;" (.ref a_ONE_HAND_EDGED)) (S_LANCE : Sta Z h0 "com/example/powderhorn/powderhorn/rules/pigwars/MeleeWeapon" "LANCE" "Lcom/example/powderhorn/powderhorn/rules/pigwars/MeleeWeapon;" (.ref a_LANCE)) (S_SPEAR : Sta Z h0 "com/example/powderhorn/powderhorn/rules/pigwars/MeleeWeapon" "SPEAR" "Lcom/example/powderhorn/powderhorn/rules/pigwars/MeleeWeapon;" (.ref a_SPEAR)) (S_TWO_HAND_EDGED : Sta Z h0 "com/example/powderhorn/powderhorn/rules/pigwars/MeleeWeapon" "TWO_HAND_EDGED" "Lcom/example/powderhorn/powderhorn/rules/pigwars/MeleeWeapon;" (.ref a_TWO_HAND_EDGED)) (S_CLUB : Sta Z h0 "com/example/powderhorn/powderhorn/rules/pigwars/MeleeWeapon" "CLUB" "Lcom/example/powderhorn/powderhorn/rules/pigwars/MeleeWeapon;" (.ref a_CLUB)) (hp : own_pick p1 a_IMPROVISED a_SPEAR a_CLUB a_ONE_HAND_EDGED a_TWO_HAND_EDGED a_LANCE = r) :
    MetFree l (⟨"com/example/powderhorn/powderhorn/rules/pigwars/MeleeWeaponBonusPinLaw", "pick", "(I)Lcom/example/powderhorn/powderhorn/rules/pigwars/MeleeWeapon;"⟩ : MethodName) (head1 (Jvm.Cond.code (⟨"com/example/powderhorn/powderhorn/rules/pigwars/MeleeWeaponBonusPinLaw", "pick", "(I)Lcom/example/powderhorn/powderhorn/rules/pigwars/MeleeWeapon;"⟩ : MethodName) method_2_code 1 (some (.object "com/example/powderhorn/powderhorn/rules/pigwars/MeleeWeapon")) :: ws) own_RP) (fun aa__ U => aa__ = #[(.int p1)] ∧ Z.Warmed39 U.vm ∧ U.heap = h0) (fun _ _ _ _ _ => True) (fun _ U oc_ U' => ∃ rv__ rL__, oc_ = .returned rv__ ∧ own_QP Z p1 a_IMPROVISED a_ONE_HAND_EDGED a_LANCE a_SPEAR a_TWO_HAND_EDGED a_CLUB r h0 n0 rv__ U'.heap rL__ ∧ FrameEnd U oc_ U' rL__ own_RP.cells own_RP.slots) := by
  refine MetFree.of_bodySF (plainFor_of_name own_pn_com_example_powderhorn_powderhorn_rules_pigwars_MeleeWeaponBonusPinLaw) hisR ?_
  intro p e s m args below meth c s₁ Bd hml0 hP hK
  obtain ⟨rfl, hZ, hh⟩ := hP
  have hx := Bd.exec
  have hby := Bd.bytes
  have hml : c.maxLocals = 1 := hml0
  have hown : s.vm.findClass "com/example/powderhorn/powderhorn/rules/pigwars/MeleeWeaponBonusPinLaw" = some m.cls := findClass_of_methodNamed Bd.named
  have hnm := (name_of_methodNamed Bd.named Bd.method).1
  have X0 : Stand p l e own_RP s m #[(.int p1)] below meth c s₁ [] 0 0 := Stand.of_body Bd
  have e0 : s₁.heap = h0 := by rw [← hh, Bd.state]; rfl
  have N0 := Fr.nil n0
  refine own_in (fun _ k => castTop (own_efP m p1) k) ?_
  intro RR hRR
  show own_Go p.tables e below RR (s₁.setTop (mkF m 0 #[.val (.int p1)] []))
  refine own_st (fun _ k => XS.iloadN X0.here hx rfl (hb hby own_dmethod_2_code_0) rfl k) ?_
  show own_Go p.tables e below RR (s₁.setTop (mkF m 1 #[.val (.int p1)] [(.int p1)]))
  by_cases hc1_1 : p1 = (0 : Int32)
  · refine own_st (fun _ k => XS.ifNo X0.here hx rfl (hb hby own_dmethod_2_code_1) rfl ((if0 _ _).trans (teq hc1_1).2) k) ?_
    show own_Go p.tables e below RR (s₁.setTop (mkF m 4 #[.val (.int p1)] []))
    obtain ⟨T2, X2, e2, st2⟩ := getS2 X0 hx hZ hown (host := "") (Or.inl (hw _ (List.mem_of_getElem? (i := 5) rfl))) Via.refl e0 S_IMPROVISED (g := (mkF m 4 #[.val (.int p1)] [])) rfl (hb hby own_dmethod_2_code_4)
    refine own_st st2 ?_
    show own_Go p.tables e below RR (T2.setTop (mkF m 7 #[.val (.int p1)] [(.ref a_IMPROVISED)]))
    obtain ⟨fs, hrt_, hrun, hended, hW, hsame⟩ := X2.leave (v := some (.ref a_IMPROVISED)) (fun h => by rw [Bd.returns] at h; cases h)
    refine own_fin (retOut X2 hx Bd.returns rfl (Or.inr (Or.inr (Or.inr (Or.inr ⟨rfl, rfl, rfl⟩)))) (hb hby own_dmethod_2_code_7) hrt_) (hRR _ ⟨_, hrun, hended, _, _, rfl, ?_, ⟨_, rfl⟩, hW, hsame.mono (by decide) (by decide)⟩)
    show own_QP Z p1 a_IMPROVISED a_ONE_HAND_EDGED a_LANCE a_SPEAR a_TWO_HAND_EDGED a_CLUB r h0 n0 _ T2.heap _
    rw [e2]
    exact ⟨own_rr (by first | simpa only [own_pick, hc1_1, if_true, if_false] using hp | simpa [own_pick, hc1_1] using hp), N0, rfl⟩
  · refine own_st (fun _ k => XS.ifYes X0.here hx rfl (pc0 := 1) (pc' := 8) rfl (hb hby own_dmethod_2_code_1) rfl ((if0 _ _).trans (feq hc1_1).2) (by decide) (by decide) (XS.iloadN X0.here hx rfl (hb hby own_dmethod_2_code_8) rfl (XS.iconst X0.here hx rfl (hb hby own_dmethod_2_code_9) k))) ?_
    show own_Go p.tables e below RR (s₁.setTop (mkF m 10 #[.val (.int p1)] [(.int (1 : Int32)), (.int p1)]))
    by_cases hc10_3 : p1 = (1 : Int32)
    · refine own_st (fun _ k => XS.icmpNo X0.here hx rfl (hb hby own_dmethod_2_code_10) rfl (teq hc10_3).2 k) ?_
      show own_Go p.tables e below RR (s₁.setTop (mkF m 13 #[.val (.int p1)] []))
      obtain ⟨T4, X4, e4, st4⟩ := getS2 X0 hx hZ hown (host := "") (Or.inl (hw _ (List.mem_of_getElem? (i := 22) rfl))) Via.refl e0 S_SPEAR (g := (mkF m 13 #[.val (.int p1)] [])) rfl (hb hby own_dmethod_2_code_13)
      refine own_st st4 ?_
      show own_Go p.tables e below RR (T4.setTop (mkF m 16 #[.val (.int p1)] [(.ref a_SPEAR)]))
      obtain ⟨fs, hrt_, hrun, hended, hW, hsame⟩ := X4.leave (v := some (.ref a_SPEAR)) (fun h => by rw [Bd.returns] at h; cases h)
      refine own_fin (retOut X4 hx Bd.returns rfl (Or.inr (Or.inr (Or.inr (Or.inr ⟨rfl, rfl, rfl⟩)))) (hb hby own_dmethod_2_code_16) hrt_) (hRR _ ⟨_, hrun, hended, _, _, rfl, ?_, ⟨_, rfl⟩, hW, hsame.mono (by decide) (by decide)⟩)
      show own_QP Z p1 a_IMPROVISED a_ONE_HAND_EDGED a_LANCE a_SPEAR a_TWO_HAND_EDGED a_CLUB r h0 n0 _ T4.heap _
      rw [e4]
      exact ⟨own_rr (by first | simpa only [own_pick, hc1_1, hc10_3, if_true, if_false] using hp | simpa [own_pick, hc1_1, hc10_3] using hp), N0, rfl⟩
    · refine own_st (fun _ k => XS.icmpYes X0.here hx rfl (pc0 := 10) (pc' := 17) rfl (hb hby own_dmethod_2_code_10) rfl (feq hc10_3).2 (by decide) (by decide) (XS.iloadN X0.here hx rfl (hb hby own_dmethod_2_code_17) rfl (XS.iconst X0.here hx rfl (hb hby own_dmethod_2_code_18) k))) ?_
      show own_Go p.tables e below RR (s₁.setTop (mkF m 19 #[.val (.int p1)] [(.int (2 : Int32)), (.int p1)]))
      by_cases hc19_5 : p1 = (2 : Int32)
      · refine own_st (fun _ k => XS.icmpNo X0.here hx rfl (hb hby own_dmethod_2_code_19) rfl (teq hc19_5).2 k) ?_
        show own_Go p.tables e below RR (s₁.setTop (mkF m 22 #[.val (.int p1)] []))
        obtain ⟨T6, X6, e6, st6⟩ := getS2 X0 hx hZ hown (host := "") (Or.inl (hw _ (List.mem_of_getElem? (i := 26) rfl))) Via.refl e0 S_CLUB (g := (mkF m 22 #[.val (.int p1)] [])) rfl (hb hby own_dmethod_2_code_22)
        refine own_st st6 ?_
        show own_Go p.tables e below RR (T6.setTop (mkF m 25 #[.val (.int p1)] [(.ref a_CLUB)]))
        obtain ⟨fs, hrt_, hrun, hended, hW, hsame⟩ := X6.leave (v := some (.ref a_CLUB)) (fun h => by rw [Bd.returns] at h; cases h)
        refine own_fin (retOut X6 hx Bd.returns rfl (Or.inr (Or.inr (Or.inr (Or.inr ⟨rfl, rfl, rfl⟩)))) (hb hby own_dmethod_2_code_25) hrt_) (hRR _ ⟨_, hrun, hended, _, _, rfl, ?_, ⟨_, rfl⟩, hW, hsame.mono (by decide) (by decide)⟩)
        show own_QP Z p1 a_IMPROVISED a_ONE_HAND_EDGED a_LANCE a_SPEAR a_TWO_HAND_EDGED a_CLUB r h0 n0 _ T6.heap _
        rw [e6]
        exact ⟨own_rr (by first | simpa only [own_pick, hc1_1, hc10_3, hc19_5, if_true, if_false] using hp | simpa [own_pick, hc1_1, hc10_3, hc19_5] using hp), N0, rfl⟩
      · refine own_st (fun _ k => XS.icmpYes X0.here hx rfl (pc0 := 19) (pc' := 26) rfl (hb hby own_dmethod_2_code_19) rfl (feq hc19_5).2 (by decide) (by decide) (XS.iloadN X0.here hx rfl (hb hby own_dmethod_2_code_26) rfl (XS.iconst X0.here hx rfl (hb hby own_dmethod_2_code_27) k))) ?_
        show own_Go p.tables e below RR (s₁.setTop (mkF m 28 #[.val (.int p1)] [(.int (3 : Int32)), (.int p1)]))
        by_cases hc28_7 : p1 = (3 : Int32)
        · refine own_st (fun _ k => XS.icmpNo X0.here hx rfl (hb hby own_dmethod_2_code_28) rfl (teq hc28_7).2 k) ?_
          show own_Go p.tables e below RR (s₁.setTop (mkF m 31 #[.val (.int p1)] []))
          obtain ⟨T8, X8, e8, st8⟩ := getS2 X0 hx hZ hown (host := "") (Or.inl (hw _ (List.mem_of_getElem? (i := 8) rfl))) Via.refl e0 S_ONE_HAND_EDGED (g := (mkF m 31 #[.val (.int p1)] [])) rfl (hb hby own_dmethod_2_code_31)
          refine own_st st8 ?_
          show own_Go p.tables e below RR (T8.setTop (mkF m 34 #[.val (.int p1)] [(.ref a_ONE_HAND_EDGED)]))
          obtain ⟨fs, hrt_, hrun, hended, hW, hsame⟩ := X8.leave (v := some (.ref a_ONE_HAND_EDGED)) (fun h => by rw [Bd.returns] at h; cases h)
          refine own_fin (retOut X8 hx Bd.returns rfl (Or.inr (Or.inr (Or.inr (Or.inr ⟨rfl, rfl, rfl⟩)))) (hb hby own_dmethod_2_code_34) hrt_) (hRR _ ⟨_, hrun, hended, _, _, rfl, ?_, ⟨_, rfl⟩, hW, hsame.mono (by decide) (by decide)⟩)
          show own_QP Z p1 a_IMPROVISED a_ONE_HAND_EDGED a_LANCE a_SPEAR a_TWO_HAND_EDGED a_CLUB r h0 n0 _ T8.heap _
          rw [e8]
          exact ⟨own_rr (by first | simpa only [own_pick, hc1_1, hc10_3, hc19_5, hc28_7, if_true, if_false] using hp | simpa [own_pick, hc1_1, hc10_3, hc19_5, hc28_7] using hp), N0, rfl⟩
        · refine own_st (fun _ k => XS.icmpYes X0.here hx rfl (pc0 := 28) (pc' := 35) rfl (hb hby own_dmethod_2_code_28) rfl (feq hc28_7).2 (by decide) (by decide) (XS.iloadN X0.here hx rfl (hb hby own_dmethod_2_code_35) rfl (XS.iconst X0.here hx rfl (hb hby own_dmethod_2_code_36) k))) ?_
          show own_Go p.tables e below RR (s₁.setTop (mkF m 37 #[.val (.int p1)] [(.int (4 : Int32)), (.int p1)]))
          by_cases hc37_9 : p1 = (4 : Int32)
          · refine own_st (fun _ k => XS.icmpNo X0.here hx rfl (hb hby own_dmethod_2_code_37) rfl (teq hc37_9).2 k) ?_
            show own_Go p.tables e below RR (s₁.setTop (mkF m 40 #[.val (.int p1)] []))
            obtain ⟨T10, X10, e10, st10⟩ := getS2 X0 hx hZ hown (host := "") (Or.inl (hw _ (List.mem_of_getElem? (i := 24) rfl))) Via.refl e0 S_TWO_HAND_EDGED (g := (mkF m 40 #[.val (.int p1)] [])) rfl (hb hby own_dmethod_2_code_40)
            refine own_st st10 ?_
            show own_Go p.tables e below RR (T10.setTop (mkF m 43 #[.val (.int p1)] [(.ref a_TWO_HAND_EDGED)]))
            obtain ⟨fs, hrt_, hrun, hended, hW, hsame⟩ := X10.leave (v := some (.ref a_TWO_HAND_EDGED)) (fun h => by rw [Bd.returns] at h; cases h)
            refine own_fin (retOut X10 hx Bd.returns rfl (Or.inr (Or.inr (Or.inr (Or.inr ⟨rfl, rfl, rfl⟩)))) (hb hby own_dmethod_2_code_43) hrt_) (hRR _ ⟨_, hrun, hended, _, _, rfl, ?_, ⟨_, rfl⟩, hW, hsame.mono (by decide) (by decide)⟩)
            show own_QP Z p1 a_IMPROVISED a_ONE_HAND_EDGED a_LANCE a_SPEAR a_TWO_HAND_EDGED a_CLUB r h0 n0 _ T10.heap _
            rw [e10]
            exact ⟨own_rr (by first | simpa only [own_pick, hc1_1, hc10_3, hc19_5, hc28_7, hc37_9, if_true, if_false] using hp | simpa [own_pick, hc1_1, hc10_3, hc19_5, hc28_7, hc37_9] using hp), N0, rfl⟩
          · refine own_st (fun _ k => XS.icmpYes X0.here hx rfl (pc0 := 37) (pc' := 44) rfl (hb hby own_dmethod_2_code_37) rfl (feq hc37_9).2 (by decide) (by decide) k) ?_
            show own_Go p.tables e below RR (s₁.setTop (mkF m 44 #[.val (.int p1)] []))
            obtain ⟨T11, X11, e11, st11⟩ := getS2 X0 hx hZ hown (host := "") (Or.inl (hw _ (List.mem_of_getElem? (i := 28) rfl))) Via.refl e0 S_LANCE (g := (mkF m 44 #[.val (.int p1)] [])) rfl (hb hby own_dmethod_2_code_44)
            refine own_st st11 ?_
            show own_Go p.tables e below RR (T11.setTop (mkF m 47 #[.val (.int p1)] [(.ref a_LANCE)]))
            obtain ⟨fs, hrt_, hrun, hended, hW, hsame⟩ := X11.leave (v := some (.ref a_LANCE)) (fun h => by rw [Bd.returns] at h; cases h)
            refine own_fin (retOut X11 hx Bd.returns rfl (Or.inr (Or.inr (Or.inr (Or.inr ⟨rfl, rfl, rfl⟩)))) (hb hby own_dmethod_2_code_47) hrt_) (hRR _ ⟨_, hrun, hended, _, _, rfl, ?_, ⟨_, rfl⟩, hW, hsame.mono (by decide) (by decide)⟩)
            show own_QP Z p1 a_IMPROVISED a_ONE_HAND_EDGED a_LANCE a_SPEAR a_TWO_HAND_EDGED a_CLUB r h0 n0 _ T11.heap _
            rw [e11]
            exact ⟨own_rr (by first | simpa only [own_pick, hc1_1, hc10_3, hc19_5, hc28_7, hc37_9, if_true, if_false] using hp | simpa [own_pick, hc1_1, hc10_3, hc19_5, hc28_7, hc37_9] using hp), N0, rfl⟩
theorem own_dmethod_3_code_0 : decode method_3_code 0 = .ok (.iload_n 0, 1) := by decide +kernel
theorem own_dmethod_3_code_1 : decode method_3_code 1 = .ok (.ifCond .ne 5, 3) := by decide +kernel
theorem own_dmethod_3_code_4 : decode method_3_code 4 = .ok (.iconst 0, 1) := by decide +kernel
theorem own_dmethod_3_code_5 : decode method_3_code 5 = .ok (.ireturn, 1) := by decide +kernel
theorem own_dmethod_3_code_6 : decode method_3_code 6 = .ok (.iload_n 0, 1) := by decide +kernel
theorem own_dmethod_3_code_7 : decode method_3_code 7 = .ok (.iconst 3, 1) := by decide +kernel
theorem own_dmethod_3_code_8 : decode method_3_code 8 = .ok (.if_icmp .ne 5, 3) := by decide +kernel
theorem own_dmethod_3_code_11 : decode method_3_code 11 = .ok (.iconst 2, 1) := by decide +kernel
theorem own_dmethod_3_code_12 : decode method_3_code 12 = .ok (.ireturn, 1) := by decide +kernel
theorem own_dmethod_3_code_13 : decode method_3_code 13 = .ok (.iload_n 0, 1) := by decide +kernel
theorem own_dmethod_3_code_14 : decode method_3_code 14 = .ok (.iconst 4, 1) := by decide +kernel
theorem own_dmethod_3_code_15 : decode method_3_code 15 = .ok (.if_icmp .ne 5, 3) := by decide +kernel
theorem own_dmethod_3_code_18 : decode method_3_code 18 = .ok (.iconst 3, 1) := by decide +kernel
theorem own_dmethod_3_code_19 : decode method_3_code 19 = .ok (.ireturn, 1) := by decide +kernel
theorem own_dmethod_3_code_20 : decode method_3_code 20 = .ok (.iconst 1, 1) := by decide +kernel
theorem own_dmethod_3_code_21 : decode method_3_code 21 = .ok (.ireturn, 1) := by decide +kernel
theorem own_efB (m : MethodId) (p1 : Int32) : entryFrame m #[(.int p1)] 1 = mkF m 0 #[.val (.int p1)] [] := by first | (simp [entryFrame, mkF, argsToLocals, Value.category]; done) | rfl
def own_QB (Z : State) (p1 : Int32) (r : Int32) (h0 : Heap) (n0 : Nat) (rv__ : Option Value) (h : Heap) (rL__ : List Loc) : Prop := rv__ = some (.int r) ∧ Fr n0 rL__ ∧ h = h0
abbrev own_RB : Room := { frames := 0, cells := 0, slots := 0, locals := 0 }
set_option maxRecDepth 65536 in
set_option maxHeartbeats 40000000 in
theorem own_rmB (l : Launch) (Z : State) (a0 : Array Value) (hw : ∀ d ∈ tables_1, d.before a0 Z = true) (ws : List Jvm.Cond) (p1 : Int32) (r : Int32) (h0 : Heap) (n0 : Nat) (Z0 : n0 ≤ h0.size) (hv : own_base p1 = r) :
    MetFree l (⟨"com/example/powderhorn/powderhorn/rules/pigwars/MeleeWeaponBonusPinLaw", "base", "(I)I"⟩ : MethodName) (head1 (Jvm.Cond.code (⟨"com/example/powderhorn/powderhorn/rules/pigwars/MeleeWeaponBonusPinLaw", "base", "(I)I"⟩ : MethodName) method_3_code 1 (some .int) :: ws) own_RB) (fun aa__ U => aa__ = #[(.int p1)] ∧ Z.Warmed39 U.vm ∧ U.heap = h0) (fun _ _ _ _ _ => True) (fun _ U oc_ U' => ∃ rv__ rL__, oc_ = .returned rv__ ∧ own_QB Z p1 r h0 n0 rv__ U'.heap rL__ ∧ FrameEnd U oc_ U' rL__ own_RB.cells own_RB.slots) := by
  refine MetFree.of_bodySF (plainFor_of_name own_pn_com_example_powderhorn_powderhorn_rules_pigwars_MeleeWeaponBonusPinLaw) hisR ?_
  intro p e s m args below meth c s₁ Bd hml0 hP hK
  obtain ⟨rfl, hZ, hh⟩ := hP
  have hx := Bd.exec
  have hby := Bd.bytes
  have hml : c.maxLocals = 1 := hml0
  have hown : s.vm.findClass "com/example/powderhorn/powderhorn/rules/pigwars/MeleeWeaponBonusPinLaw" = some m.cls := findClass_of_methodNamed Bd.named
  have hnm := (name_of_methodNamed Bd.named Bd.method).1
  have X0 : Stand p l e own_RB s m #[(.int p1)] below meth c s₁ [] 0 0 := Stand.of_body Bd
  have e0 : s₁.heap = h0 := by rw [← hh, Bd.state]; rfl
  have N0 := Fr.nil n0
  refine own_in (fun _ k => castTop (own_efB m p1) k) ?_
  intro RR hRR
  show own_Go p.tables e below RR (s₁.setTop (mkF m 0 #[.val (.int p1)] []))
  refine own_st (fun _ k => XS.iloadN X0.here hx rfl (hb hby own_dmethod_3_code_0) rfl k) ?_
  show own_Go p.tables e below RR (s₁.setTop (mkF m 1 #[.val (.int p1)] [(.int p1)]))
  by_cases hc1_1 : p1 = (0 : Int32)
  · refine own_st (fun _ k => XS.ifNo X0.here hx rfl (hb hby own_dmethod_3_code_1) rfl ((if0 _ _).trans (teq hc1_1).2) (XS.iconst X0.here hx rfl (hb hby own_dmethod_3_code_4) k)) ?_
    show own_Go p.tables e below RR (s₁.setTop (mkF m 5 #[.val (.int p1)] [(.int (0 : Int32))]))
    obtain ⟨fs, hrt_, hrun, hended, hW, hsame⟩ := X0.leave (v := some (.int (0 : Int32))) (fun h => by rw [Bd.returns] at h; cases h)
    refine own_fin (retI X0 hx Bd.returns (hb hby own_dmethod_3_code_5) hrt_) (hRR _ ⟨_, hrun, hended, _, _, rfl, ?_, ⟨_, rfl⟩, hW, hsame.mono (by decide) (by decide)⟩)
    show own_QB Z p1 r h0 n0 _ s₁.heap _
    rw [e0]
    exact ⟨own_ri (by first | simpa only [own_base, hc1_1, if_true, if_false] using hv | simpa [own_base, hc1_1] using hv), N0, rfl⟩
  · refine own_st (fun _ k => XS.ifYes X0.here hx rfl (pc0 := 1) (pc' := 6) rfl (hb hby own_dmethod_3_code_1) rfl ((if0 _ _).trans (feq hc1_1).2) (by decide) (by decide) (XS.iloadN X0.here hx rfl (hb hby own_dmethod_3_code_6) rfl (XS.iconst X0.here hx rfl (hb hby own_dmethod_3_code_7) k))) ?_
    show own_Go p.tables e below RR (s₁.setTop (mkF m 8 #[.val (.int p1)] [(.int (3 : Int32)), (.int p1)]))
    by_cases hc8_2 : p1 = (3 : Int32)
    · refine own_st (fun _ k => XS.icmpNo X0.here hx rfl (hb hby own_dmethod_3_code_8) rfl (teq hc8_2).2 (XS.iconst X0.here hx rfl (hb hby own_dmethod_3_code_11) k)) ?_
      show own_Go p.tables e below RR (s₁.setTop (mkF m 12 #[.val (.int p1)] [(.int (2 : Int32))]))
      obtain ⟨fs, hrt_, hrun, hended, hW, hsame⟩ := X0.leave (v := some (.int (2 : Int32))) (fun h => by rw [Bd.returns] at h; cases h)
      refine own_fin (retI X0 hx Bd.returns (hb hby own_dmethod_3_code_12) hrt_) (hRR _ ⟨_, hrun, hended, _, _, rfl, ?_, ⟨_, rfl⟩, hW, hsame.mono (by decide) (by decide)⟩)
      show own_QB Z p1 r h0 n0 _ s₁.heap _
      rw [e0]
      exact ⟨own_ri (by first | simpa only [own_base, hc1_1, hc8_2, if_true, if_false] using hv | simpa [own_base, hc1_1, hc8_2] using hv), N0, rfl⟩
    · refine own_st (fun _ k => XS.icmpYes X0.here hx rfl (pc0 := 8) (pc' := 13) rfl (hb hby own_dmethod_3_code_8) rfl (feq hc8_2).2 (by decide) (by decide) (XS.iloadN X0.here hx rfl (hb hby own_dmethod_3_code_13) rfl (XS.iconst X0.here hx rfl (hb hby own_dmethod_3_code_14) k))) ?_
      show own_Go p.tables e below RR (s₁.setTop (mkF m 15 #[.val (.int p1)] [(.int (4 : Int32)), (.int p1)]))
      by_cases hc15_3 : p1 = (4 : Int32)
      · refine own_st (fun _ k => XS.icmpNo X0.here hx rfl (hb hby own_dmethod_3_code_15) rfl (teq hc15_3).2 (XS.iconst X0.here hx rfl (hb hby own_dmethod_3_code_18) k)) ?_
        show own_Go p.tables e below RR (s₁.setTop (mkF m 19 #[.val (.int p1)] [(.int (3 : Int32))]))
        obtain ⟨fs, hrt_, hrun, hended, hW, hsame⟩ := X0.leave (v := some (.int (3 : Int32))) (fun h => by rw [Bd.returns] at h; cases h)
        refine own_fin (retI X0 hx Bd.returns (hb hby own_dmethod_3_code_19) hrt_) (hRR _ ⟨_, hrun, hended, _, _, rfl, ?_, ⟨_, rfl⟩, hW, hsame.mono (by decide) (by decide)⟩)
        show own_QB Z p1 r h0 n0 _ s₁.heap _
        rw [e0]
        exact ⟨own_ri (by first | simpa only [own_base, hc1_1, hc8_2, hc15_3, if_true, if_false] using hv | simpa [own_base, hc1_1, hc8_2, hc15_3] using hv), N0, rfl⟩
      · refine own_st (fun _ k => XS.icmpYes X0.here hx rfl (pc0 := 15) (pc' := 20) rfl (hb hby own_dmethod_3_code_15) rfl (feq hc15_3).2 (by decide) (by decide) (XS.iconst X0.here hx rfl (hb hby own_dmethod_3_code_20) k)) ?_
        show own_Go p.tables e below RR (s₁.setTop (mkF m 21 #[.val (.int p1)] [(.int (1 : Int32))]))
        obtain ⟨fs, hrt_, hrun, hended, hW, hsame⟩ := X0.leave (v := some (.int (1 : Int32))) (fun h => by rw [Bd.returns] at h; cases h)
        refine own_fin (retI X0 hx Bd.returns (hb hby own_dmethod_3_code_21) hrt_) (hRR _ ⟨_, hrun, hended, _, _, rfl, ?_, ⟨_, rfl⟩, hW, hsame.mono (by decide) (by decide)⟩)
        show own_QB Z p1 r h0 n0 _ s₁.heap _
        rw [e0]
        exact ⟨own_ri (by first | simpa only [own_base, hc1_1, hc8_2, hc15_3, if_true, if_false] using hv | simpa [own_base, hc1_1, hc8_2, hc15_3] using hv), N0, rfl⟩
theorem own_pn_com_example_powderhorn_powderhorn_rules_pigwars_MeleeWeapon : plainName "com/example/powderhorn/powderhorn/rules/pigwars/MeleeWeapon" = true := by first | (simp [plainName, overriddenIn]; done) | decide +kernel
theorem own_dprog_60_method_4_code_0 : decode prog_60_method_4_code 0 = .ok (.aload_n 0, 1) := by decide +kernel
theorem own_dprog_60_method_4_code_1 : decode prog_60_method_4_code 1 = .ok (.getstatic 19, 3) := by decide +kernel
theorem own_dprog_60_method_4_code_4 : decode prog_60_method_4_code 4 = .ok (.if_acmp .ne 23, 3) := by decide +kernel
theorem own_dprog_60_method_4_code_7 : decode prog_60_method_4_code 7 = .ok (.iload_n 1, 1) := by decide +kernel
theorem own_dprog_60_method_4_code_8 : decode prog_60_method_4_code 8 = .ok (.iconst 1, 1) := by decide +kernel
theorem own_dprog_60_method_4_code_9 : decode prog_60_method_4_code 9 = .ok (.if_icmp .ne 18, 3) := by decide +kernel
theorem own_dprog_60_method_4_code_12 : decode prog_60_method_4_code 12 = .ok (.aload_n 2, 1) := by decide +kernel
theorem own_dprog_60_method_4_code_13 : decode prog_60_method_4_code 13 = .ok (.getstatic 7, 3) := by decide +kernel
theorem own_dprog_60_method_4_code_16 : decode prog_60_method_4_code 16 = .ok (.if_acmp .eq 11, 3) := by decide +kernel
theorem own_dprog_60_method_4_code_27 : decode prog_60_method_4_code 27 = .ok (.iconst 0, 1) := by decide +kernel
theorem own_dprog_60_method_4_code_28 : decode prog_60_method_4_code 28 = .ok (.istore 4, 2) := by decide +kernel
theorem own_dprog_60_method_4_code_30 : decode prog_60_method_4_code 30 = .ok (.iload 4, 2) := by decide +kernel
theorem own_dprog_60_method_4_code_32 : decode prog_60_method_4_code 32 = .ok (.ifCond .eq 7, 3) := by decide +kernel
theorem own_dprog_60_method_4_code_39 : decode prog_60_method_4_code 39 = .ok (.aload_n 0, 1) := by decide +kernel
theorem own_dprog_60_method_4_code_40 : decode prog_60_method_4_code 40 = .ok (.getfield 45, 3) := by decide +kernel
theorem own_dprog_60_method_4_code_43 : decode prog_60_method_4_code 43 = .ok (.ireturn, 1) := by decide +kernel
theorem own_dprog_60_method_4_code_19 : decode prog_60_method_4_code 19 = .ok (.iload_n 3, 1) := by decide +kernel
theorem own_dprog_60_method_4_code_20 : decode prog_60_method_4_code 20 = .ok (.ifCond .ne 7, 3) := by decide +kernel
theorem own_dprog_60_method_4_code_23 : decode prog_60_method_4_code 23 = .ok (.iconst 1, 1) := by decide +kernel
theorem own_dprog_60_method_4_code_24 : decode prog_60_method_4_code 24 = .ok (.goto 4, 3) := by decide +kernel
theorem own_dprog_60_method_4_code_35 : decode prog_60_method_4_code 35 = .ok (.iconst 5, 1) := by decide +kernel
theorem own_dprog_60_method_4_code_36 : decode prog_60_method_4_code 36 = .ok (.goto 7, 3) := by decide +kernel
theorem own_efN (m : MethodId) (o : Addr) (p1 : Int32) (en : Addr) (p2 : Int32) : entryFrame m #[(.ref o), (.int p1), (.ref en), (.int p2)] 5 = mkF m 0 #[.val (.ref o), .val (.int p1), .val (.ref en), .val (.int p2), .unset] [] := by first | (simp [entryFrame, mkF, argsToLocals, Value.category]; done) | rfl
def own_QN (Z : State) (o : Addr) (p1 : Int32) (en : Addr) (p2 : Int32) (b : Int32) (a_LANCE : Addr) (a_SPEAR : Addr) (r : Int32) (h0 : Heap) (n0 : Nat) (rv__ : Option Value) (h : Heap) (rL__ : List Loc) : Prop := rv__ = some (.int r) ∧ Fr n0 rL__ ∧ h = h0
abbrev own_RN : Room := { frames := 0, cells := 0, slots := 0, locals := 0 }
set_option maxRecDepth 65536 in
set_option maxHeartbeats 40000000 in
theorem own_rmN (l : Launch) (Z : State) (a0 : Array Value) (hw : ∀ d ∈ tables_1, d.before a0 Z = true) (ws : List Jvm.Cond) (o : Addr) (p1 : Int32) (en : Addr) (p2 : Int32) (b : Int32) (a_LANCE : Addr) (a_SPEAR : Addr) (r : Int32) (h0 : Heap) (n0 : Nat) (Z0 : n0 ≤ h0.size) (S_LANCE : Sta Z h0 "com/example/powderhorn/powderhorn/rules/pigwars/MeleeWeapon" "LANCE" "Lcom/example/powderhorn/powderhorn/rules/pigwars/MeleeWeapon;" (.ref a_LANCE)) (S_SPEAR : Sta Z h0 "com/example/powderhorn/powderhorn/rules/pigwars/MeleeWeapon" "SPEAR" "Lcom/example/powderhorn/powderhorn/rules/pigwars/MeleeWeapon;" (.ref a_SPEAR)) (F : Fld Z h0 o "com/example/powderhorn/powderhorn/rules/pigwars/MeleeWeapon" "bonus" "I" (.int b)) (hv : (if o = a_LANCE ∧ p1 = (1 : Int32) ∧ ¬ en = a_SPEAR ∧ p2 = (0 : Int32) then (5 : Int32) else b) = r) :
    MetFree l (⟨"com/example/powderhorn/powderhorn/rules/pigwars/MeleeWeapon", "bonus", "(ILcom/example/powderhorn/powderhorn/rules/pigwars/MeleeWeapon;Z)I"⟩ : MethodName) (head1 (Jvm.Cond.code (⟨"com/example/powderhorn/powderhorn/rules/pigwars/MeleeWeapon", "bonus", "(ILcom/example/powderhorn/powderhorn/rules/pigwars/MeleeWeapon;Z)I"⟩ : MethodName) prog_60_method_4_code 5 (some .int) :: ws) own_RN) (fun aa__ U => aa__ = #[(.ref o), (.int p1), (.ref en), (.int p2)] ∧ Z.Warmed39 U.vm ∧ U.heap = h0) (fun _ _ _ _ _ => True) (fun _ U oc_ U' => ∃ rv__ rL__, oc_ = .returned rv__ ∧ own_QN Z o p1 en p2 b a_LANCE a_SPEAR r h0 n0 rv__ U'.heap rL__ ∧ FrameEnd U oc_ U' rL__ own_RN.cells own_RN.slots) := by
  refine MetFree.of_bodySF (plainFor_of_name own_pn_com_example_powderhorn_powderhorn_rules_pigwars_MeleeWeapon) hisR ?_
  intro p e s m args below meth c s₁ Bd hml0 hP hK
  obtain ⟨rfl, hZ, hh⟩ := hP
  have hx := Bd.exec
  have hby := Bd.bytes
  have hml : c.maxLocals = 5 := hml0
  have hown : s.vm.findClass "com/example/powderhorn/powderhorn/rules/pigwars/MeleeWeapon" = some m.cls := findClass_of_methodNamed Bd.named
  have hnm := (name_of_methodNamed Bd.named Bd.method).1
  have X0 : Stand p l e own_RN s m #[(.ref o), (.int p1), (.ref en), (.int p2)] below meth c s₁ [] 0 0 := Stand.of_body Bd
  have e0 : s₁.heap = h0 := by rw [← hh, Bd.state]; rfl
  have N0 := Fr.nil n0
  refine own_in (fun _ k => castTop (own_efN m o p1 en p2) k) ?_
  intro RR hRR
  show own_Go p.tables e below RR (s₁.setTop (mkF m 0 #[.val (.ref o), .val (.int p1), .val (.ref en), .val (.int p2), .unset] []))
  refine own_st (fun _ k => XS.aloadN X0.here hx rfl (hb hby own_dprog_60_method_4_code_0) rfl rfl k) ?_
  show own_Go p.tables e below RR (s₁.setTop (mkF m 1 #[.val (.ref o), .val (.int p1), .val (.ref en), .val (.int p2), .unset] [(.ref o)]))
  obtain ⟨T1, X1, e1, st1⟩ := getS2 X0 hx hZ hown (host := "") (Or.inl (hw _ (List.mem_of_getElem? (i := 18) rfl))) Via.refl e0 S_LANCE (g := (mkF m 1 #[.val (.ref o), .val (.int p1), .val (.ref en), .val (.int p2), .unset] [(.ref o)])) rfl (hb hby own_dprog_60_method_4_code_1)
  refine own_st st1 ?_
  show own_Go p.tables e below RR (T1.setTop (mkF m 4 #[.val (.ref o), .val (.int p1), .val (.ref en), .val (.int p2), .unset] [(.ref a_LANCE), (.ref o)]))
  by_cases hc4_2 : o = a_LANCE
  · refine own_st (fun _ k => Jvm.RoadKit.acmp (g := (mkF m 4 #[.val (.ref o), .val (.int p1), .val (.ref en), .val (.int p2), .unset] [(.ref a_LANCE), (.ref o)])) X1 hx rfl rfl rfl (pc0 := 4) (pc' := 7) (same := true) rfl (hb hby own_dprog_60_method_4_code_4) rfl (decide_eq_true (congrArg Value.ref hc4_2)) (by decide) (by decide) (XS.iloadN X1.here hx rfl (hb hby own_dprog_60_method_4_code_7) rfl (XS.iconst X1.here hx rfl (hb hby own_dprog_60_method_4_code_8) k))) ?_
    show own_Go p.tables e below RR (T1.setTop (mkF m 9 #[.val (.ref o), .val (.int p1), .val (.ref en), .val (.int p2), .unset] [(.int (1 : Int32)), (.int p1)]))
    by_cases hc9_3 : p1 = (1 : Int32)
    · refine own_st (fun _ k => XS.icmpNo X1.here hx rfl (hb hby own_dprog_60_method_4_code_9) rfl (teq hc9_3).2 (XS.aloadN X1.here hx rfl (hb hby own_dprog_60_method_4_code_12) rfl rfl k)) ?_
      show own_Go p.tables e below RR (T1.setTop (mkF m 13 #[.val (.ref o), .val (.int p1), .val (.ref en), .val (.int p2), .unset] [(.ref en)]))
      obtain ⟨T4, X4, e4, st4⟩ := getS2 X1 hx hZ hown (host := "") (Or.inl (hw _ (List.mem_of_getElem? (i := 29) rfl))) Via.refl e1 S_SPEAR (g := (mkF m 13 #[.val (.ref o), .val (.int p1), .val (.ref en), .val (.int p2), .unset] [(.ref en)])) rfl (hb hby own_dprog_60_method_4_code_13)
      refine own_st st4 ?_
      show own_Go p.tables e below RR (T4.setTop (mkF m 16 #[.val (.ref o), .val (.int p1), .val (.ref en), .val (.int p2), .unset] [(.ref a_SPEAR), (.ref en)]))
      by_cases hc16_5 : en = a_SPEAR
      · refine own_st (fun _ k => Jvm.RoadKit.acmp (g := (mkF m 16 #[.val (.ref o), .val (.int p1), .val (.ref en), .val (.int p2), .unset] [(.ref a_SPEAR), (.ref en)])) X4 hx rfl rfl rfl (pc0 := 16) (pc' := 27) (same := true) rfl (hb hby own_dprog_60_method_4_code_16) rfl (decide_eq_true (congrArg Value.ref hc16_5)) (by decide) (by decide) (XS.iconst X4.here hx rfl (hb hby own_dprog_60_method_4_code_27) (XS.istore X4.here hx rfl (hb hby own_dprog_60_method_4_code_28) rfl (l' := #[.val (.ref o), .val (.int p1), .val (.ref en), .val (.int p2), .val (.int (0 : Int32))]) rfl (XS.iload X4.here hx rfl (hb hby own_dprog_60_method_4_code_30) rfl k)))) ?_
        show own_Go p.tables e below RR (T4.setTop (mkF m 32 #[.val (.ref o), .val (.int p1), .val (.ref en), .val (.int p2), .val (.int (0 : Int32))] [(.int (0 : Int32))]))
        refine own_st (fun _ k => XS.ifYes X4.here hx rfl (pc0 := 32) (pc' := 39) rfl (hb hby own_dprog_60_method_4_code_32) rfl ((if0 _ _).trans (teq (by decide)).1) (by decide) (by decide) (XS.aloadN X4.here hx rfl (hb hby own_dprog_60_method_4_code_39) rfl rfl k)) ?_
        show own_Go p.tables e below RR (T4.setTop (mkF m 40 #[.val (.ref o), .val (.int p1), .val (.ref en), .val (.int p2), .val (.int (0 : Int32))] [(.ref o)]))
        obtain ⟨T6, X6, e6, st6⟩ := getF X4 hx hZ hown (host := "") (Or.inl (hw _ (List.mem_of_getElem? (i := 20) rfl))) Via.refl e4 F (g := (mkF m 40 #[.val (.ref o), .val (.int p1), .val (.ref en), .val (.int p2), .val (.int (0 : Int32))] [(.ref o)])) rfl rfl (hb hby own_dprog_60_method_4_code_40)
        refine own_st st6 ?_
        show own_Go p.tables e below RR (T6.setTop (mkF m 43 #[.val (.ref o), .val (.int p1), .val (.ref en), .val (.int p2), .val (.int (0 : Int32))] [(.int b)]))
        obtain ⟨fs, hrt_, hrun, hended, hW, hsame⟩ := X6.leave (v := some (.int b)) (fun h => by rw [Bd.returns] at h; cases h)
        refine own_fin (retI X6 hx Bd.returns (hb hby own_dprog_60_method_4_code_43) hrt_) (hRR _ ⟨_, hrun, hended, _, _, rfl, ?_, ⟨_, rfl⟩, hW, hsame.mono (by decide) (by decide)⟩)
        show own_QN Z o p1 en p2 b a_LANCE a_SPEAR r h0 n0 _ T6.heap _
        rw [e6]
        exact ⟨own_ri (by simpa [hc4_2, hc9_3, hc16_5] using hv), N0, rfl⟩
      · refine own_st (fun _ k => Jvm.RoadKit.acmp (g := (mkF m 16 #[.val (.ref o), .val (.int p1), .val (.ref en), .val (.int p2), .unset] [(.ref a_SPEAR), (.ref en)])) X4 hx rfl rfl rfl (pc0 := 16) (pc' := 19) (same := false) rfl (hb hby own_dprog_60_method_4_code_16) rfl (decide_eq_false fun q => hc16_5 (Value.ref.inj q)) (by decide) (by decide) (XS.iloadN X4.here hx rfl (hb hby own_dprog_60_method_4_code_19) rfl k)) ?_
        show own_Go p.tables e below RR (T4.setTop (mkF m 20 #[.val (.ref o), .val (.int p1), .val (.ref en), .val (.int p2), .unset] [(.int p2)]))
        by_cases hc20_7 : p2 = (0 : Int32)
        · refine own_st (fun _ k => XS.ifNo X4.here hx rfl (hb hby own_dprog_60_method_4_code_20) rfl ((if0 _ _).trans (teq hc20_7).2) (XS.iconst X4.here hx rfl (hb hby own_dprog_60_method_4_code_23) (XS.goto X4.here hx rfl (pc0 := 24) (pc' := 28) rfl (hb hby own_dprog_60_method_4_code_24) (by decide) (by decide) (XS.istore X4.here hx rfl (hb hby own_dprog_60_method_4_code_28) rfl (l' := #[.val (.ref o), .val (.int p1), .val (.ref en), .val (.int p2), .val (.int (1 : Int32))]) rfl (XS.iload X4.here hx rfl (hb hby own_dprog_60_method_4_code_30) rfl k))))) ?_
          show own_Go p.tables e below RR (T4.setTop (mkF m 32 #[.val (.ref o), .val (.int p1), .val (.ref en), .val (.int p2), .val (.int (1 : Int32))] [(.int (1 : Int32))]))
          refine own_st (fun _ k => XS.ifNo X4.here hx rfl (hb hby own_dprog_60_method_4_code_32) rfl ((if0 _ _).trans (feq (by decide)).1) (XS.iconst X4.here hx rfl (hb hby own_dprog_60_method_4_code_35) (XS.goto X4.here hx rfl (pc0 := 36) (pc' := 43) rfl (hb hby own_dprog_60_method_4_code_36) (by decide) (by decide) k))) ?_
          show own_Go p.tables e below RR (T4.setTop (mkF m 43 #[.val (.ref o), .val (.int p1), .val (.ref en), .val (.int p2), .val (.int (1 : Int32))] [(.int (5 : Int32))]))
          obtain ⟨fs, hrt_, hrun, hended, hW, hsame⟩ := X4.leave (v := some (.int (5 : Int32))) (fun h => by rw [Bd.returns] at h; cases h)
          refine own_fin (retI X4 hx Bd.returns (hb hby own_dprog_60_method_4_code_43) hrt_) (hRR _ ⟨_, hrun, hended, _, _, rfl, ?_, ⟨_, rfl⟩, hW, hsame.mono (by decide) (by decide)⟩)
          show own_QN Z o p1 en p2 b a_LANCE a_SPEAR r h0 n0 _ T4.heap _
          rw [e4]
          exact ⟨own_ri (by simpa [hc4_2, hc9_3, hc16_5, hc20_7] using hv), N0, rfl⟩
        · refine own_st (fun _ k => XS.ifYes X4.here hx rfl (pc0 := 20) (pc' := 27) rfl (hb hby own_dprog_60_method_4_code_20) rfl ((if0 _ _).trans (feq hc20_7).2) (by decide) (by decide) (XS.iconst X4.here hx rfl (hb hby own_dprog_60_method_4_code_27) (XS.istore X4.here hx rfl (hb hby own_dprog_60_method_4_code_28) rfl (l' := #[.val (.ref o), .val (.int p1), .val (.ref en), .val (.int p2), .val (.int (0 : Int32))]) rfl (XS.iload X4.here hx rfl (hb hby own_dprog_60_method_4_code_30) rfl k)))) ?_
          show own_Go p.tables e below RR (T4.setTop (mkF m 32 #[.val (.ref o), .val (.int p1), .val (.ref en), .val (.int p2), .val (.int (0 : Int32))] [(.int (0 : Int32))]))
          refine own_st (fun _ k => XS.ifYes X4.here hx rfl (pc0 := 32) (pc' := 39) rfl (hb hby own_dprog_60_method_4_code_32) rfl ((if0 _ _).trans (teq (by decide)).1) (by decide) (by decide) (XS.aloadN X4.here hx rfl (hb hby own_dprog_60_method_4_code_39) rfl rfl k)) ?_
          show own_Go p.tables e below RR (T4.setTop (mkF m 40 #[.val (.ref o), .val (.int p1), .val (.ref en), .val (.int p2), .val (.int (0 : Int32))] [(.ref o)]))
          obtain ⟨T8, X8, e8, st8⟩ := getF X4 hx hZ hown (host := "") (Or.inl (hw _ (List.mem_of_getElem? (i := 20) rfl))) Via.refl e4 F (g := (mkF m 40 #[.val (.ref o), .val (.int p1), .val (.ref en), .val (.int p2), .val (.int (0 : Int32))] [(.ref o)])) rfl rfl (hb hby own_dprog_60_method_4_code_40)
          refine own_st st8 ?_
          show own_Go p.tables e below RR (T8.setTop (mkF m 43 #[.val (.ref o), .val (.int p1), .val (.ref en), .val (.int p2), .val (.int (0 : Int32))] [(.int b)]))
          obtain ⟨fs, hrt_, hrun, hended, hW, hsame⟩ := X8.leave (v := some (.int b)) (fun h => by rw [Bd.returns] at h; cases h)
          refine own_fin (retI X8 hx Bd.returns (hb hby own_dprog_60_method_4_code_43) hrt_) (hRR _ ⟨_, hrun, hended, _, _, rfl, ?_, ⟨_, rfl⟩, hW, hsame.mono (by decide) (by decide)⟩)
          show own_QN Z o p1 en p2 b a_LANCE a_SPEAR r h0 n0 _ T8.heap _
          rw [e8]
          exact ⟨own_ri (by simpa [hc4_2, hc9_3, hc16_5, hc20_7] using hv), N0, rfl⟩
    · refine own_st (fun _ k => XS.icmpYes X1.here hx rfl (pc0 := 9) (pc' := 27) rfl (hb hby own_dprog_60_method_4_code_9) rfl (feq hc9_3).2 (by decide) (by decide) (XS.iconst X1.here hx rfl (hb hby own_dprog_60_method_4_code_27) (XS.istore X1.here hx rfl (hb hby own_dprog_60_method_4_code_28) rfl (l' := #[.val (.ref o), .val (.int p1), .val (.ref en), .val (.int p2), .val (.int (0 : Int32))]) rfl (XS.iload X1.here hx rfl (hb hby own_dprog_60_method_4_code_30) rfl k)))) ?_
      show own_Go p.tables e below RR (T1.setTop (mkF m 32 #[.val (.ref o), .val (.int p1), .val (.ref en), .val (.int p2), .val (.int (0 : Int32))] [(.int (0 : Int32))]))
      refine own_st (fun _ k => XS.ifYes X1.here hx rfl (pc0 := 32) (pc' := 39) rfl (hb hby own_dprog_60_method_4_code_32) rfl ((if0 _ _).trans (teq (by decide)).1) (by decide) (by decide) (XS.aloadN X1.here hx rfl (hb hby own_dprog_60_method_4_code_39) rfl rfl k)) ?_
      show own_Go p.tables e below RR (T1.setTop (mkF m 40 #[.val (.ref o), .val (.int p1), .val (.ref en), .val (.int p2), .val (.int (0 : Int32))] [(.ref o)]))
      obtain ⟨T9, X9, e9, st9⟩ := getF X1 hx hZ hown (host := "") (Or.inl (hw _ (List.mem_of_getElem? (i := 20) rfl))) Via.refl e1 F (g := (mkF m 40 #[.val (.ref o), .val (.int p1), .val (.ref en), .val (.int p2), .val (.int (0 : Int32))] [(.ref o)])) rfl rfl (hb hby own_dprog_60_method_4_code_40)
      refine own_st st9 ?_
      show own_Go p.tables e below RR (T9.setTop (mkF m 43 #[.val (.ref o), .val (.int p1), .val (.ref en), .val (.int p2), .val (.int (0 : Int32))] [(.int b)]))
      obtain ⟨fs, hrt_, hrun, hended, hW, hsame⟩ := X9.leave (v := some (.int b)) (fun h => by rw [Bd.returns] at h; cases h)
      refine own_fin (retI X9 hx Bd.returns (hb hby own_dprog_60_method_4_code_43) hrt_) (hRR _ ⟨_, hrun, hended, _, _, rfl, ?_, ⟨_, rfl⟩, hW, hsame.mono (by decide) (by decide)⟩)
      show own_QN Z o p1 en p2 b a_LANCE a_SPEAR r h0 n0 _ T9.heap _
      rw [e9]
      exact ⟨own_ri (by simpa [hc4_2, hc9_3] using hv), N0, rfl⟩
  · refine own_st (fun _ k => Jvm.RoadKit.acmp (g := (mkF m 4 #[.val (.ref o), .val (.int p1), .val (.ref en), .val (.int p2), .unset] [(.ref a_LANCE), (.ref o)])) X1 hx rfl rfl rfl (pc0 := 4) (pc' := 27) (same := false) rfl (hb hby own_dprog_60_method_4_code_4) rfl (decide_eq_false fun q => hc4_2 (Value.ref.inj q)) (by decide) (by decide) (XS.iconst X1.here hx rfl (hb hby own_dprog_60_method_4_code_27) (XS.istore X1.here hx rfl (hb hby own_dprog_60_method_4_code_28) rfl (l' := #[.val (.ref o), .val (.int p1), .val (.ref en), .val (.int p2), .val (.int (0 : Int32))]) rfl (XS.iload X1.here hx rfl (hb hby own_dprog_60_method_4_code_30) rfl k)))) ?_
    show own_Go p.tables e below RR (T1.setTop (mkF m 32 #[.val (.ref o), .val (.int p1), .val (.ref en), .val (.int p2), .val (.int (0 : Int32))] [(.int (0 : Int32))]))
    refine own_st (fun _ k => XS.ifYes X1.here hx rfl (pc0 := 32) (pc' := 39) rfl (hb hby own_dprog_60_method_4_code_32) rfl ((if0 _ _).trans (teq (by decide)).1) (by decide) (by decide) (XS.aloadN X1.here hx rfl (hb hby own_dprog_60_method_4_code_39) rfl rfl k)) ?_
    show own_Go p.tables e below RR (T1.setTop (mkF m 40 #[.val (.ref o), .val (.int p1), .val (.ref en), .val (.int p2), .val (.int (0 : Int32))] [(.ref o)]))
    obtain ⟨T10, X10, e10, st10⟩ := getF X1 hx hZ hown (host := "") (Or.inl (hw _ (List.mem_of_getElem? (i := 20) rfl))) Via.refl e1 F (g := (mkF m 40 #[.val (.ref o), .val (.int p1), .val (.ref en), .val (.int p2), .val (.int (0 : Int32))] [(.ref o)])) rfl rfl (hb hby own_dprog_60_method_4_code_40)
    refine own_st st10 ?_
    show own_Go p.tables e below RR (T10.setTop (mkF m 43 #[.val (.ref o), .val (.int p1), .val (.ref en), .val (.int p2), .val (.int (0 : Int32))] [(.int b)]))
    obtain ⟨fs, hrt_, hrun, hended, hW, hsame⟩ := X10.leave (v := some (.int b)) (fun h => by rw [Bd.returns] at h; cases h)
    refine own_fin (retI X10 hx Bd.returns (hb hby own_dprog_60_method_4_code_43) hrt_) (hRR _ ⟨_, hrun, hended, _, _, rfl, ?_, ⟨_, rfl⟩, hW, hsame.mono (by decide) (by decide)⟩)
    show own_QN Z o p1 en p2 b a_LANCE a_SPEAR r h0 n0 _ T10.heap _
    rw [e10]
    exact ⟨own_ri (by simpa [hc4_2] using hv), N0, rfl⟩
theorem own_pd__I_Lcom_example_powderhorn_powderhorn_rules_pigwars_MeleeWeapon_ : parseMethodDescriptor "(I)Lcom/example/powderhorn/powderhorn/rules/pigwars/MeleeWeapon;" = some ⟨[.int], some (.object "com/example/powderhorn/powderhorn/rules/pigwars/MeleeWeapon")⟩ := by decide +kernel
theorem own_pd__I_I : parseMethodDescriptor "(I)I" = some ⟨[.int], some .int⟩ := by decide +kernel
theorem own_pd__ILcom_example_powderhorn_powderhorn_rules_pigwars_MeleeWeapon_Z_I : parseMethodDescriptor "(ILcom/example/powderhorn/powderhorn/rules/pigwars/MeleeWeapon;Z)I" = some ⟨[.int, (.object "com/example/powderhorn/powderhorn/rules/pigwars/MeleeWeapon"), .boolean], some .int⟩ := by decide +kernel
theorem own_ef0 (m : MethodId) (p1 : Int32) (p2 : Int32) (p3 : Int32) (p4 : Int32) : entryFrame m #[(.int p1), (.int p2), (.int p3), (.int p4)] maxLocals = mkF m 0 #[.val (.int p1), .val (.int p2), .val (.int p3), .val (.int p4), .unset, .unset, .unset, .unset, .unset, .unset] [] := by first | (simp [entryFrame, mkF, argsToLocals, Value.category, maxLocals]; done) | rfl
def own_Q0 (Z : State) (p1 : Int32) (p2 : Int32) (p3 : Int32) (p4 : Int32) (a_IMPROVISED : Addr) (a_ONE_HAND_EDGED : Addr) (a_LANCE : Addr) (a_SPEAR : Addr) (a_TWO_HAND_EDGED : Addr) (a_CLUB : Addr) (h0 : Heap) (n0 : Nat) (rv__ : Option Value) (h : Heap) (rL__ : List Loc) : Prop := rv__ = some (.int 1) ∧ Fr n0 rL__
set_option maxRecDepth 65536 in
set_option maxHeartbeats 40000000 in
theorem own_rm0 (l : Launch) (Z : State) (a0 : Array Value) (hw : ∀ d ∈ tables_1, d.before a0 Z = true) (ws : List Jvm.Cond) (p1 : Int32) (p2 : Int32) (p3 : Int32) (p4 : Int32) (a_IMPROVISED : Addr) (a_ONE_HAND_EDGED : Addr) (a_LANCE : Addr) (a_SPEAR : Addr) (a_TWO_HAND_EDGED : Addr) (a_CLUB : Addr) (h0 : Heap) (n0 : Nat) (Z0 : n0 ≤ h0.size) (E_IMPROVISED : Exa Z h0 a_IMPROVISED "com/example/powderhorn/powderhorn/rules/pigwars/MeleeWeapon") (S_IMPROVISED : Sta Z h0 "com/example/powderhorn/powderhorn/rules/pigwars/MeleeWeapon" "IMPROVISED" "Lcom/example/powderhorn/powderhorn/rules/pigwars/MeleeWeapon;" (.ref a_IMPROVISED)) (E_ONE_HAND_EDGED : Exa Z h0 a_ONE_HAND_EDGED "com/example/powderhorn/powderhorn/rules/pigwars/MeleeWeapon") (S_ONE_HAND_EDGED : Sta Z h0 "com/example/powderhorn/powderhorn/rules/pigwars/MeleeWeapon" "ONE_HAND_EDGED" "Lcom/example/powderhorn/powderhorn/rules/pigwars/MeleeWeapon;" (.ref a_ONE_HAND_EDGED)) (E_LANCE : Exa Z h0 a_LANCE "com/example/powderhorn/powderhorn/rules/pigwars/MeleeWeapon") (S_LANCE : Sta Z h0 "com/example/powderhorn/powderhorn/rules/pigwars/MeleeWeapon" "LANCE" "Lcom/example/powderhorn/powderhorn/rules/pigwars/MeleeWeapon;" (.ref a_LANCE)) (F_IMPROVISED_ordinal : Fld Z h0 a_IMPROVISED "java/lang/Enum" "ordinal" "I" (.int (0 : Int32))) (F_LANCE_ordinal : Fld Z h0 a_LANCE "java/lang/Enum" "ordinal" "I" (.int (5 : Int32))) (F_IMPROVISED_bonus : Fld Z h0 a_IMPROVISED "com/example/powderhorn/powderhorn/rules/pigwars/MeleeWeapon" "bonus" "I" (.int (0 : Int32))) (E_SPEAR : Exa Z h0 a_SPEAR "com/example/powderhorn/powderhorn/rules/pigwars/MeleeWeapon") (S_SPEAR : Sta Z h0 "com/example/powderhorn/powderhorn/rules/pigwars/MeleeWeapon" "SPEAR" "Lcom/example/powderhorn/powderhorn/rules/pigwars/MeleeWeapon;" (.ref a_SPEAR)) (F_SPEAR_ordinal : Fld Z h0 a_SPEAR "java/lang/Enum" "ordinal" "I" (.int (1 : Int32))) (F_SPEAR_bonus : Fld Z h0 a_SPEAR "com/example/powderhorn/powderhorn/rules/pigwars/MeleeWeapon" "bonus" "I" (.int (1 : Int32))) (E_TWO_HAND_EDGED : Exa Z h0 a_TWO_HAND_EDGED "com/example/powderhorn/powderhorn/rules/pigwars/MeleeWeapon") (S_TWO_HAND_EDGED : Sta Z h0 "com/example/powderhorn/powderhorn/rules/pigwars/MeleeWeapon" "TWO_HAND_EDGED" "Lcom/example/powderhorn/powderhorn/rules/pigwars/MeleeWeapon;" (.ref a_TWO_HAND_EDGED)) (F_TWO_HAND_EDGED_ordinal : Fld Z h0 a_TWO_HAND_EDGED "java/lang/Enum" "ordinal" "I" (.int (4 : Int32))) (F_TWO_HAND_EDGED_bonus : Fld Z h0 a_TWO_HAND_EDGED "com/example/powderhorn/powderhorn/rules/pigwars/MeleeWeapon" "bonus" "I" (.int (3 : Int32))) (E_CLUB : Exa Z h0 a_CLUB "com/example/powderhorn/powderhorn/rules/pigwars/MeleeWeapon") (S_CLUB : Sta Z h0 "com/example/powderhorn/powderhorn/rules/pigwars/MeleeWeapon" "CLUB" "Lcom/example/powderhorn/powderhorn/rules/pigwars/MeleeWeapon;" (.ref a_CLUB)) (F_ONE_HAND_EDGED_ordinal : Fld Z h0 a_ONE_HAND_EDGED "java/lang/Enum" "ordinal" "I" (.int (3 : Int32))) (F_ONE_HAND_EDGED_bonus : Fld Z h0 a_ONE_HAND_EDGED "com/example/powderhorn/powderhorn/rules/pigwars/MeleeWeapon" "bonus" "I" (.int (2 : Int32))) (F_LANCE_bonus : Fld Z h0 a_LANCE "com/example/powderhorn/powderhorn/rules/pigwars/MeleeWeapon" "bonus" "I" (.int (1 : Int32))) (F_CLUB_ordinal : Fld Z h0 a_CLUB "java/lang/Enum" "ordinal" "I" (.int (2 : Int32))) (F_CLUB_bonus : Fld Z h0 a_CLUB "com/example/powderhorn/powderhorn/rules/pigwars/MeleeWeapon" "bonus" "I" (.int (1 : Int32))) :
    MetFree l x (head1 (Jvm.Cond.code x code maxLocals ret :: ws) room_1) (fun aa__ U => aa__ = #[(.int p1), (.int p2), (.int p3), (.int p4)] ∧ Z.Warmed39 U.vm ∧ U.heap = h0) (fun _ _ _ _ _ => True) (fun _ U oc_ U' => ∃ rv__ rL__, oc_ = .returned rv__ ∧ own_Q0 Z p1 p2 p3 p4 a_IMPROVISED a_ONE_HAND_EDGED a_LANCE a_SPEAR a_TWO_HAND_EDGED a_CLUB h0 n0 rv__ U'.heap rL__ ∧ FrameEnd U oc_ U' rL__ room_1.cells room_1.slots) := by
  refine MetFree.of_bodySF (plainFor_of_name own_pn_com_example_powderhorn_powderhorn_rules_pigwars_MeleeWeaponBonusPinLaw) hisR ?_
  intro p e s m args below meth c s₁ Bd hml0 hP hK
  obtain ⟨rfl, hZ, hh⟩ := hP
  have hx := Bd.exec
  have hby := Bd.bytes
  have hml : c.maxLocals = 10 := hml0
  have hown : s.vm.findClass "com/example/powderhorn/powderhorn/rules/pigwars/MeleeWeaponBonusPinLaw" = some m.cls := findClass_of_methodNamed Bd.named
  have hnm := (name_of_methodNamed Bd.named Bd.method).1
  have X0 : Stand p l e room_1 s m #[(.int p1), (.int p2), (.int p3), (.int p4)] below meth c s₁ [] 0 0 := Stand.of_body Bd
  have e0 : s₁.heap = h0 := by rw [← hh, Bd.state]; rfl
  have N0 := Fr.nil n0
  refine own_in (fun _ k => castTop (own_ef0 m p1 p2 p3 p4) k) ?_
  intro RR hRR
  show own_Go p.tables e below RR (s₁.setTop (mkF m 0 #[.val (.int p1), .val (.int p2), .val (.int p3), .val (.int p4), .unset, .unset, .unset, .unset, .unset, .unset] []))
  refine own_st (fun _ k => XS.iloadN X0.here hx rfl (hb hby at_0) rfl (X0.ldcInt hx hown (mvT hZ (hw _ (List.mem_of_getElem? (i := 0) rfl))) (g := (mkF m 1 #[.val (.int p1), .val (.int p2), .val (.int p3), .val (.int p4), .unset, .unset, .unset, .unset, .unset, .unset] [(.int p1)])) rfl (hb hby at_1) _ (XS.iand X0.here hx rfl (hb hby at_3) rfl (XS.bipush X0.here hx rfl (hb hby at_4) k)))) ?_
  show own_Go p.tables e below RR (s₁.setTop (mkF m 6 #[.val (.int p1), .val (.int p2), .val (.int p3), .val (.int p4), .unset, .unset, .unset, .unset, .unset, .unset] [(.int (6 : Int32)), (.int (p1 &&& (2147483647 : Int32)))]))
  refine own_st (fun _ k => XS.irem X0.here hx rfl (hb hby at_6) rfl (by decide) k) ?_
  show own_Go p.tables e below RR (s₁.setTop (mkF m 7 #[.val (.int p1), .val (.int p2), .val (.int p3), .val (.int p4), .unset, .unset, .unset, .unset, .unset, .unset] [(.int ((p1 &&& (2147483647 : Int32)) - ((p1 &&& (2147483647 : Int32)) / (6 : Int32)) * (6 : Int32)))]))
  rw [irem_eq_mod (p1 &&& (2147483647 : Int32)) (6 : Int32)]
  show own_Go p.tables e below RR (s₁.setTop (mkF m 7 #[.val (.int p1), .val (.int p2), .val (.int p3), .val (.int p4), .unset, .unset, .unset, .unset, .unset, .unset] [(.int ((p1 &&& (2147483647 : Int32)) % (6 : Int32)))]))
  generalize gv1 : ((p1 &&& (2147483647 : Int32)) % (6 : Int32)) = v1
  show own_Go p.tables e below RR (s₁.setTop (mkF m 7 #[.val (.int p1), .val (.int p2), .val (.int p3), .val (.int p4), .unset, .unset, .unset, .unset, .unset, .unset] [(.int v1)]))
  refine own_st (fun _ k => XS.istore X0.here hx rfl (hb hby at_7) rfl (l' := #[.val (.int p1), .val (.int p2), .val (.int p3), .val (.int p4), .val (.int v1), .unset, .unset, .unset, .unset, .unset]) rfl (XS.iloadN X0.here hx rfl (hb hby at_9) rfl (X0.ldcInt hx hown (mvT hZ (hw _ (List.mem_of_getElem? (i := 0) rfl))) (g := (mkF m 10 #[.val (.int p1), .val (.int p2), .val (.int p3), .val (.int p4), .val (.int v1), .unset, .unset, .unset, .unset, .unset] [(.int p2)])) rfl (hb hby at_10) _ (XS.iand X0.here hx rfl (hb hby at_12) rfl (XS.bipush X0.here hx rfl (hb hby at_13) k))))) ?_
  show own_Go p.tables e below RR (s₁.setTop (mkF m 15 #[.val (.int p1), .val (.int p2), .val (.int p3), .val (.int p4), .val (.int v1), .unset, .unset, .unset, .unset, .unset] [(.int (6 : Int32)), (.int (p2 &&& (2147483647 : Int32)))]))
  refine own_st (fun _ k => XS.irem X0.here hx rfl (hb hby at_15) rfl (by decide) k) ?_
  show own_Go p.tables e below RR (s₁.setTop (mkF m 16 #[.val (.int p1), .val (.int p2), .val (.int p3), .val (.int p4), .val (.int v1), .unset, .unset, .unset, .unset, .unset] [(.int ((p2 &&& (2147483647 : Int32)) - ((p2 &&& (2147483647 : Int32)) / (6 : Int32)) * (6 : Int32)))]))
  rw [irem_eq_mod (p2 &&& (2147483647 : Int32)) (6 : Int32)]
  show own_Go p.tables e below RR (s₁.setTop (mkF m 16 #[.val (.int p1), .val (.int p2), .val (.int p3), .val (.int p4), .val (.int v1), .unset, .unset, .unset, .unset, .unset] [(.int ((p2 &&& (2147483647 : Int32)) % (6 : Int32)))]))
  generalize gv2 : ((p2 &&& (2147483647 : Int32)) % (6 : Int32)) = v2
  show own_Go p.tables e below RR (s₁.setTop (mkF m 16 #[.val (.int p1), .val (.int p2), .val (.int p3), .val (.int p4), .val (.int v1), .unset, .unset, .unset, .unset, .unset] [(.int v2)]))
  refine own_st (fun _ k => XS.istore X0.here hx rfl (hb hby at_16) rfl (l' := #[.val (.int p1), .val (.int p2), .val (.int p3), .val (.int p4), .val (.int v1), .val (.int v2), .unset, .unset, .unset, .unset]) rfl (XS.iloadN X0.here hx rfl (hb hby at_18) rfl (XS.iconst X0.here hx rfl (hb hby at_19) (XS.iand X0.here hx rfl (hb hby at_20) rfl k)))) ?_
  show own_Go p.tables e below RR (s₁.setTop (mkF m 21 #[.val (.int p1), .val (.int p2), .val (.int p3), .val (.int p4), .val (.int v1), .val (.int v2), .unset, .unset, .unset, .unset] [(.int (p4 &&& (1 : Int32)))]))
  by_cases hc21_3 : (p4 &&& (1 : Int32)) = (0 : Int32)
  · refine own_st (fun _ k => XS.ifYes X0.here hx rfl (pc0 := 21) (pc' := 28) rfl (hb hby at_21) rfl ((if0 _ _).trans (teq hc21_3).1) (by decide) (by decide) (XS.iconst X0.here hx rfl (hb hby at_28) (XS.istore X0.here hx rfl (hb hby at_29) rfl (l' := #[.val (.int p1), .val (.int p2), .val (.int p3), .val (.int p4), .val (.int v1), .val (.int v2), .val (.int (0 : Int32)), .unset, .unset, .unset]) rfl k))) ?_
    show own_Go p.tables e below RR (s₁.setTop (mkF m 31 #[.val (.int p1), .val (.int p2), .val (.int p3), .val (.int p4), .val (.int v1), .val (.int v2), .val (.int (0 : Int32)), .unset, .unset, .unset] []))
    show own_Go p.tables e below RR (s₁.setTop (mkF m 31 #[.val (.int p1), .val (.int p2), .val (.int p3), .val (.int p4), .val (.int v1), .val (.int v2), .val (.int (0 : Int32)), .unset, .unset, .unset] []))
    show own_Go p.tables e below RR (s₁.setTop (mkF m 31 #[.val (.int p1), .val (.int p2), .val (.int p3), .val (.int p4), .val (.int v1), .val (.int v2), .val (.int (0 : Int32)), .unset, .unset, .unset] []))
    rcases own_six gv1 with rfl | rfl | rfl | rfl | rfl | rfl
    · show own_Go p.tables e below RR (s₁.setTop (mkF m 31 #[.val (.int p1), .val (.int p2), .val (.int p3), .val (.int p4), .val (.int (0 : Int32)), .val (.int v2), .val (.int (0 : Int32)), .unset, .unset, .unset] []))
      show own_Go p.tables e below RR (s₁.setTop (mkF m 31 #[.val (.int p1), .val (.int p2), .val (.int p3), .val (.int p4), .val (.int (0 : Int32)), .val (.int v2), .val (.int (0 : Int32)), .unset, .unset, .unset] []))
      refine own_st (fun _ k => XS.iload X0.here hx rfl (hb hby at_31) rfl k) ?_
      show own_Go p.tables e below RR (s₁.setTop (mkF m 33 #[.val (.int p1), .val (.int p2), .val (.int p3), .val (.int p4), .val (.int (0 : Int32)), .val (.int v2), .val (.int (0 : Int32)), .unset, .unset, .unset] [(.int (0 : Int32))]))
      obtain ⟨_, _, ⟨T4, L4, k4, n4⟩, -, X4, ⟨Lc4, hQ4, l4, y4, z4⟩, st4⟩ := Jvm.LawKit.callS X0 hx (y := (⟨"com/example/powderhorn/powderhorn/rules/pigwars/MeleeWeaponBonusPinLaw", "pick", "(I)Lcom/example/powderhorn/powderhorn/rules/pigwars/MeleeWeapon;"⟩ : MethodName)) hown (mvT hZ (hw _ (List.mem_of_getElem? (i := 1) rfl))) (mvT hZ (hw _ (List.mem_of_getElem? (i := 2) rfl))) (mvT hZ (hw _ (List.mem_of_getElem? (i := 3) rfl))) (mvT hZ (hw _ (List.mem_of_getElem? (i := 4) rfl))) (by decide) (backOf (W := 0) (own_rmP l Z a0 hw [] (0 : Int32) a_IMPROVISED a_ONE_HAND_EDGED a_LANCE a_SPEAR a_TWO_HAND_EDGED a_CLUB a_IMPROVISED h0 n0 Z0 S_IMPROVISED S_ONE_HAND_EDGED S_LANCE S_SPEAR S_TWO_HAND_EDGED S_CLUB rfl) hZ (hw _ (List.mem_of_getElem? (i := 4) rfl)) (hw _ (List.mem_of_getElem? (i := 3) rfl)) (by decide) (by decide)) (g := (mkF m 33 #[.val (.int p1), .val (.int p2), .val (.int p3), .val (.int p4), .val (.int (0 : Int32)), .val (.int v2), .val (.int (0 : Int32)), .unset, .unset, .unset] [(.int (0 : Int32))])) rfl (by rw [hml]; rfl) (argsL := [(.int (0 : Int32))]) (rest := []) (lenOf own_pd__I_Lcom_example_powderhorn_powderhorn_rules_pigwars_MeleeWeapon_ rfl) rfl (by show 2 * 0 + _ ≤ _; exact Nat.le_of_eq rfl) (hb hby at_33) (fun _ _ => ⟨rfl, e0, (by decide : 0 + 0 ≤ _), (by decide : 0 + 0 ≤ _)⟩)
      dsimp only [Pt.U, Pt.locs, Pt.cells, Pt.slots] at X4 l4 y4 z4 st4 hQ4
      subst l4 y4 z4
      obtain ⟨rfl, Nq4, eq4⟩ := hQ4
      have N4 := Fr.app N0 Nq4
      refine own_st st4 ?_
      show own_Go p.tables e below RR (T4.setTop (mkF m 36 #[.val (.int p1), .val (.int p2), .val (.int p3), .val (.int p4), .val (.int (0 : Int32)), .val (.int v2), .val (.int (0 : Int32)), .unset, .unset, .unset] [(.ref a_IMPROVISED)]))
      refine own_st (fun _ k => XS.astore X4.here hx rfl (hb hby at_36) rfl rfl (l' := #[.val (.int p1), .val (.int p2), .val (.int p3), .val (.int p4), .val (.int (0 : Int32)), .val (.int v2), .val (.int (0 : Int32)), .val (.ref a_IMPROVISED), .unset, .unset]) rfl (XS.iload X4.here hx rfl (hb hby at_38) rfl k)) ?_
      show own_Go p.tables e below RR (T4.setTop (mkF m 40 #[.val (.int p1), .val (.int p2), .val (.int p3), .val (.int p4), .val (.int (0 : Int32)), .val (.int v2), .val (.int (0 : Int32)), .val (.ref a_IMPROVISED), .unset, .unset] [(.int v2)]))
      obtain ⟨e_n, he_n⟩ : ∃ z, own_pick v2 a_IMPROVISED a_SPEAR a_CLUB a_ONE_HAND_EDGED a_TWO_HAND_EDGED a_LANCE = z := ⟨_, rfl⟩
      obtain ⟨_, _, ⟨T5, L5, k5, n5⟩, -, X5, ⟨Lc5, hQ5, l5, y5, z5⟩, st5⟩ := Jvm.LawKit.callS X4 hx (y := (⟨"com/example/powderhorn/powderhorn/rules/pigwars/MeleeWeaponBonusPinLaw", "pick", "(I)Lcom/example/powderhorn/powderhorn/rules/pigwars/MeleeWeapon;"⟩ : MethodName)) hown (mvT hZ (hw _ (List.mem_of_getElem? (i := 1) rfl))) (mvT hZ (hw _ (List.mem_of_getElem? (i := 2) rfl))) (mvT hZ (hw _ (List.mem_of_getElem? (i := 3) rfl))) (mvT hZ (hw _ (List.mem_of_getElem? (i := 4) rfl))) (by decide) (backOf (W := 0) (own_rmP l Z a0 hw [] v2 a_IMPROVISED a_ONE_HAND_EDGED a_LANCE a_SPEAR a_TWO_HAND_EDGED a_CLUB e_n h0 n0 Z0 S_IMPROVISED S_ONE_HAND_EDGED S_LANCE S_SPEAR S_TWO_HAND_EDGED S_CLUB he_n) hZ (hw _ (List.mem_of_getElem? (i := 4) rfl)) (hw _ (List.mem_of_getElem? (i := 3) rfl)) (by decide) (by decide)) (g := (mkF m 40 #[.val (.int p1), .val (.int p2), .val (.int p3), .val (.int p4), .val (.int (0 : Int32)), .val (.int v2), .val (.int (0 : Int32)), .val (.ref a_IMPROVISED), .unset, .unset] [(.int v2)])) rfl (by rw [hml]; rfl) (argsL := [(.int v2)]) (rest := []) (lenOf own_pd__I_Lcom_example_powderhorn_powderhorn_rules_pigwars_MeleeWeapon_ rfl) rfl (by show 2 * 0 + _ ≤ _; exact Nat.le_of_eq rfl) (hb hby at_40) (fun _ _ => ⟨rfl, eq4, (by decide : 0 + 0 ≤ _), (by decide : 0 + 0 ≤ _)⟩)
      dsimp only [Pt.U, Pt.locs, Pt.cells, Pt.slots] at X5 l5 y5 z5 st5 hQ5
      subst l5 y5 z5
      obtain ⟨rfl, Nq5, eq5⟩ := hQ5
      have N5 := Fr.app N4 Nq5
      refine own_st st5 ?_
      show own_Go p.tables e below RR (T5.setTop (mkF m 43 #[.val (.int p1), .val (.int p2), .val (.int p3), .val (.int p4), .val (.int (0 : Int32)), .val (.int v2), .val (.int (0 : Int32)), .val (.ref a_IMPROVISED), .unset, .unset] [(.ref e_n)]))
      refine own_st (fun _ k => XS.astore X5.here hx rfl (hb hby at_43) rfl rfl (l' := #[.val (.int p1), .val (.int p2), .val (.int p3), .val (.int p4), .val (.int (0 : Int32)), .val (.int v2), .val (.int (0 : Int32)), .val (.ref a_IMPROVISED), .val (.ref e_n), .unset]) rfl (XS.iload X5.here hx rfl (hb hby at_45) rfl k)) ?_
      show own_Go p.tables e below RR (T5.setTop (mkF m 47 #[.val (.int p1), .val (.int p2), .val (.int p3), .val (.int p4), .val (.int (0 : Int32)), .val (.int v2), .val (.int (0 : Int32)), .val (.ref a_IMPROVISED), .val (.ref e_n), .unset] [(.int (0 : Int32))]))
      obtain ⟨_, _, ⟨T6, L6, k6, n6⟩, -, X6, ⟨Lc6, hQ6, l6, y6, z6⟩, st6⟩ := Jvm.LawKit.callS X5 hx (y := (⟨"com/example/powderhorn/powderhorn/rules/pigwars/MeleeWeaponBonusPinLaw", "base", "(I)I"⟩ : MethodName)) hown (mvT hZ (hw _ (List.mem_of_getElem? (i := 10) rfl))) (mvT hZ (hw _ (List.mem_of_getElem? (i := 11) rfl))) (mvT hZ (hw _ (List.mem_of_getElem? (i := 3) rfl))) (mvT hZ (hw _ (List.mem_of_getElem? (i := 12) rfl))) (by decide) (backOf (W := 0) (own_rmB l Z a0 hw [] (0 : Int32) (0 : Int32) h0 n0 Z0 rfl) hZ (hw _ (List.mem_of_getElem? (i := 12) rfl)) (hw _ (List.mem_of_getElem? (i := 3) rfl)) (by decide) (by decide)) (g := (mkF m 47 #[.val (.int p1), .val (.int p2), .val (.int p3), .val (.int p4), .val (.int (0 : Int32)), .val (.int v2), .val (.int (0 : Int32)), .val (.ref a_IMPROVISED), .val (.ref e_n), .unset] [(.int (0 : Int32))])) rfl (by rw [hml]; rfl) (argsL := [(.int (0 : Int32))]) (rest := []) (lenOf own_pd__I_I rfl) rfl (by show 2 * 0 + _ ≤ _; exact Nat.le_of_eq rfl) (hb hby at_47) (fun _ _ => ⟨rfl, eq5, (by decide : 0 + 0 ≤ _), (by decide : 0 + 0 ≤ _)⟩)
      dsimp only [Pt.U, Pt.locs, Pt.cells, Pt.slots] at X6 l6 y6 z6 st6 hQ6
      subst l6 y6 z6
      obtain ⟨rfl, Nq6, eq6⟩ := hQ6
      have N6 := Fr.app N5 Nq6
      refine own_st st6 ?_
      show own_Go p.tables e below RR (T6.setTop (mkF m 50 #[.val (.int p1), .val (.int p2), .val (.int p3), .val (.int p4), .val (.int (0 : Int32)), .val (.int v2), .val (.int (0 : Int32)), .val (.ref a_IMPROVISED), .val (.ref e_n), .unset] [(.int (0 : Int32))]))
      refine own_st (fun _ k => XS.istore X6.here hx rfl (hb hby at_50) rfl (l' := #[.val (.int p1), .val (.int p2), .val (.int p3), .val (.int p4), .val (.int (0 : Int32)), .val (.int v2), .val (.int (0 : Int32)), .val (.ref a_IMPROVISED), .val (.ref e_n), .val (.int (0 : Int32))]) rfl (XS.iload X6.here hx rfl (hb hby at_52) rfl (XS.iconst X6.here hx rfl (hb hby at_54) k))) ?_
      show own_Go p.tables e below RR (T6.setTop (mkF m 55 #[.val (.int p1), .val (.int p2), .val (.int p3), .val (.int p4), .val (.int (0 : Int32)), .val (.int v2), .val (.int (0 : Int32)), .val (.ref a_IMPROVISED), .val (.ref e_n), .val (.int (0 : Int32))] [(.int (5 : Int32)), (.int (0 : Int32))]))
      refine own_st (fun _ k => XS.icmpYes X6.here hx rfl (pc0 := 55) (pc' := 77) rfl (hb hby at_55) rfl (feq (by decide)).2 (by decide) (by decide) (XS.aload X6.here hx rfl (hb hby at_77) rfl rfl (XS.iloadN X6.here hx rfl (hb hby at_79) rfl (XS.aload X6.here hx rfl (hb hby at_80) rfl rfl (XS.iload X6.here hx rfl (hb hby at_82) rfl k))))) ?_
      show own_Go p.tables e below RR (T6.setTop (mkF m 84 #[.val (.int p1), .val (.int p2), .val (.int p3), .val (.int p4), .val (.int (0 : Int32)), .val (.int v2), .val (.int (0 : Int32)), .val (.ref a_IMPROVISED), .val (.ref e_n), .val (.int (0 : Int32))] [(.int (0 : Int32)), (.ref e_n), (.int p3), (.ref a_IMPROVISED)]))
      obtain ⟨cq7, kq7, q7a, q7b, q7c⟩ := isOf hZ eq6 E_IMPROVISED
      obtain ⟨_, _, ⟨T7, L7, k7, n7⟩, -, X7, ⟨Lc7, hQ7, l7, y7, z7⟩, st7⟩ := X6.virtualBack hx (y := (⟨"com/example/powderhorn/powderhorn/rules/pigwars/MeleeWeapon", "bonus", "(ILcom/example/powderhorn/powderhorn/rules/pigwars/MeleeWeapon;Z)I"⟩ : MethodName)) (z := (⟨"com/example/powderhorn/powderhorn/rules/pigwars/MeleeWeapon", "bonus", "(ILcom/example/powderhorn/powderhorn/rules/pigwars/MeleeWeapon;Z)I"⟩ : MethodName)) hown (mvT hZ (hw _ (List.mem_of_getElem? (i := 13) rfl))) (mvT hZ (hw _ (List.mem_of_getElem? (i := 14) rfl))) (notFace_of_selects (args := #[]) (mvT hZ (hw _ (List.mem_of_getElem? (i := 16) rfl)))) (mvT hZ (hw _ (List.mem_of_getElem? (i := 16) rfl))) (mvT hZ (hw _ (List.mem_of_getElem? (i := 15) rfl))) (by decide) (backOf (W := 0) (own_rmN l Z a0 hw [] a_IMPROVISED p3 e_n (0 : Int32) (0 : Int32) a_LANCE a_SPEAR (0 : Int32) h0 n0 Z0 S_LANCE S_SPEAR F_IMPROVISED_bonus (if_neg fun q => (Fld.ne F_IMPROVISED_ordinal F_LANCE_ordinal (by simp)) q.1)) hZ (hw _ (List.mem_of_getElem? (i := 17) rfl)) (hw _ (List.mem_of_getElem? (i := 6) rfl)) (by decide) (by decide)) q7a q7c (g := (mkF m 84 #[.val (.int p1), .val (.int p2), .val (.int p3), .val (.int p4), .val (.int (0 : Int32)), .val (.int v2), .val (.int (0 : Int32)), .val (.ref a_IMPROVISED), .val (.ref e_n), .val (.int (0 : Int32))] [(.int (0 : Int32)), (.ref e_n), (.int p3), (.ref a_IMPROVISED)])) rfl (by rw [hml]; rfl) (Steps.refl _) (argsL := [(.int p3), (.ref e_n), (.int (0 : Int32))]) (rest := []) (lenOf own_pd__ILcom_example_powderhorn_powderhorn_rules_pigwars_MeleeWeapon_Z_I rfl) rfl (by show 2 * 0 + _ ≤ _; exact Nat.le_of_eq rfl) (hb hby at_84) (fun _ _ => ⟨rfl, eq6, (by decide : 0 + 0 ≤ _), (by decide : 0 + 0 ≤ _)⟩)
      dsimp only [Pt.U, Pt.locs, Pt.cells, Pt.slots] at X7 l7 y7 z7 st7 hQ7
      subst l7 y7 z7
      obtain ⟨rfl, Nq7, eq7⟩ := hQ7
      have N7 := Fr.app N6 Nq7
      refine own_st (fun _ k => st7.trans k) ?_
      show own_Go p.tables e below RR (T7.setTop (mkF m 87 #[.val (.int p1), .val (.int p2), .val (.int p3), .val (.int p4), .val (.int (0 : Int32)), .val (.int v2), .val (.int (0 : Int32)), .val (.ref a_IMPROVISED), .val (.ref e_n), .val (.int (0 : Int32))] [(.int (0 : Int32))]))
      refine own_st (fun _ k => XS.iload X7.here hx rfl (hb hby at_87) rfl k) ?_
      show own_Go p.tables e below RR (T7.setTop (mkF m 89 #[.val (.int p1), .val (.int p2), .val (.int p3), .val (.int p4), .val (.int (0 : Int32)), .val (.int v2), .val (.int (0 : Int32)), .val (.ref a_IMPROVISED), .val (.ref e_n), .val (.int (0 : Int32))] [(.int (0 : Int32)), (.int (0 : Int32))]))
      refine own_st (fun _ k => XS.icmpNo X7.here hx rfl (hb hby at_89) rfl (teq (by decide)).2 (XS.iconst X7.here hx rfl (hb hby at_92) (XS.goto X7.here hx rfl (pc0 := 93) (pc' := 97) rfl (hb hby at_93) (by decide) (by decide) k))) ?_
      show own_Go p.tables e below RR (T7.setTop (mkF m 97 #[.val (.int p1), .val (.int p2), .val (.int p3), .val (.int p4), .val (.int (0 : Int32)), .val (.int v2), .val (.int (0 : Int32)), .val (.ref a_IMPROVISED), .val (.ref e_n), .val (.int (0 : Int32))] [(.int (1 : Int32))]))
      obtain ⟨fs, hrt_, hrun, hended, hW, hsame⟩ := X7.leave (v := some (.int (1 : Int32))) (fun h => by rw [Bd.returns] at h; cases h)
      refine own_fin (retN X7 hx (t := .boolean) Bd.returns (by simp) (hb hby at_97) hrt_) (hRR _ ⟨_, hrun, hended, _, _, rfl, ?_, ⟨_, rfl⟩, hW, hsame.mono (by decide) (by decide)⟩)
      show own_Q0 Z p1 p2 p3 p4 a_IMPROVISED a_ONE_HAND_EDGED a_LANCE a_SPEAR a_TWO_HAND_EDGED a_CLUB h0 n0 _ T7.heap _
      rw [eq7]
      exact ⟨rfl, N7⟩
    · show own_Go p.tables e below RR (s₁.setTop (mkF m 31 #[.val (.int p1), .val (.int p2), .val (.int p3), .val (.int p4), .val (.int (1 : Int32)), .val (.int v2), .val (.int (0 : Int32)), .unset, .unset, .unset] []))
      show own_Go p.tables e below RR (s₁.setTop (mkF m 31 #[.val (.int p1), .val (.int p2), .val (.int p3), .val (.int p4), .val (.int (1 : Int32)), .val (.int v2), .val (.int (0 : Int32)), .unset, .unset, .unset] []))
      refine own_st (fun _ k => XS.iload X0.here hx rfl (hb hby at_31) rfl k) ?_
      show own_Go p.tables e below RR (s₁.setTop (mkF m 33 #[.val (.int p1), .val (.int p2), .val (.int p3), .val (.int p4), .val (.int (1 : Int32)), .val (.int v2), .val (.int (0 : Int32)), .unset, .unset, .unset] [(.int (1 : Int32))]))
      obtain ⟨_, _, ⟨T8, L8, k8, n8⟩, -, X8, ⟨Lc8, hQ8, l8, y8, z8⟩, st8⟩ := Jvm.LawKit.callS X0 hx (y := (⟨"com/example/powderhorn/powderhorn/rules/pigwars/MeleeWeaponBonusPinLaw", "pick", "(I)Lcom/example/powderhorn/powderhorn/rules/pigwars/MeleeWeapon;"⟩ : MethodName)) hown (mvT hZ (hw _ (List.mem_of_getElem? (i := 1) rfl))) (mvT hZ (hw _ (List.mem_of_getElem? (i := 2) rfl))) (mvT hZ (hw _ (List.mem_of_getElem? (i := 3) rfl))) (mvT hZ (hw _ (List.mem_of_getElem? (i := 4) rfl))) (by decide) (backOf (W := 0) (own_rmP l Z a0 hw [] (1 : Int32) a_IMPROVISED a_ONE_HAND_EDGED a_LANCE a_SPEAR a_TWO_HAND_EDGED a_CLUB a_SPEAR h0 n0 Z0 S_IMPROVISED S_ONE_HAND_EDGED S_LANCE S_SPEAR S_TWO_HAND_EDGED S_CLUB rfl) hZ (hw _ (List.mem_of_getElem? (i := 4) rfl)) (hw _ (List.mem_of_getElem? (i := 3) rfl)) (by decide) (by decide)) (g := (mkF m 33 #[.val (.int p1), .val (.int p2), .val (.int p3), .val (.int p4), .val (.int (1 : Int32)), .val (.int v2), .val (.int (0 : Int32)), .unset, .unset, .unset] [(.int (1 : Int32))])) rfl (by rw [hml]; rfl) (argsL := [(.int (1 : Int32))]) (rest := []) (lenOf own_pd__I_Lcom_example_powderhorn_powderhorn_rules_pigwars_MeleeWeapon_ rfl) rfl (by show 2 * 0 + _ ≤ _; exact Nat.le_of_eq rfl) (hb hby at_33) (fun _ _ => ⟨rfl, e0, (by decide : 0 + 0 ≤ _), (by decide : 0 + 0 ≤ _)⟩)
      dsimp only [Pt.U, Pt.locs, Pt.cells, Pt.slots] at X8 l8 y8 z8 st8 hQ8
      subst l8 y8 z8
      obtain ⟨rfl, Nq8, eq8⟩ := hQ8
      have N8 := Fr.app N0 Nq8
      refine own_st st8 ?_
      show own_Go p.tables e below RR (T8.setTop (mkF m 36 #[.val (.int p1), .val (.int p2), .val (.int p3), .val (.int p4), .val (.int (1 : Int32)), .val (.int v2), .val (.int (0 : Int32)), .unset, .unset, .unset] [(.ref a_SPEAR)]))
      refine own_st (fun _ k => XS.astore X8.here hx rfl (hb hby at_36) rfl rfl (l' := #[.val (.int p1), .val (.int p2), .val (.int p3), .val (.int p4), .val (.int (1 : Int32)), .val (.int v2), .val (.int (0 : Int32)), .val (.ref a_SPEAR), .unset, .unset]) rfl (XS.iload X8.here hx rfl (hb hby at_38) rfl k)) ?_
      show own_Go p.tables e below RR (T8.setTop (mkF m 40 #[.val (.int p1), .val (.int p2), .val (.int p3), .val (.int p4), .val (.int (1 : Int32)), .val (.int v2), .val (.int (0 : Int32)), .val (.ref a_SPEAR), .unset, .unset] [(.int v2)]))
      obtain ⟨e_n, he_n⟩ : ∃ z, own_pick v2 a_IMPROVISED a_SPEAR a_CLUB a_ONE_HAND_EDGED a_TWO_HAND_EDGED a_LANCE = z := ⟨_, rfl⟩
      obtain ⟨_, _, ⟨T9, L9, k9, n9⟩, -, X9, ⟨Lc9, hQ9, l9, y9, z9⟩, st9⟩ := Jvm.LawKit.callS X8 hx (y := (⟨"com/example/powderhorn/powderhorn/rules/pigwars/MeleeWeaponBonusPinLaw", "pick", "(I)Lcom/example/powderhorn/powderhorn/rules/pigwars/MeleeWeapon;"⟩ : MethodName)) hown (mvT hZ (hw _ (List.mem_of_getElem? (i := 1) rfl))) (mvT hZ (hw _ (List.mem_of_getElem? (i := 2) rfl))) (mvT hZ (hw _ (List.mem_of_getElem? (i := 3) rfl))) (mvT hZ (hw _ (List.mem_of_getElem? (i := 4) rfl))) (by decide) (backOf (W := 0) (own_rmP l Z a0 hw [] v2 a_IMPROVISED a_ONE_HAND_EDGED a_LANCE a_SPEAR a_TWO_HAND_EDGED a_CLUB e_n h0 n0 Z0 S_IMPROVISED S_ONE_HAND_EDGED S_LANCE S_SPEAR S_TWO_HAND_EDGED S_CLUB he_n) hZ (hw _ (List.mem_of_getElem? (i := 4) rfl)) (hw _ (List.mem_of_getElem? (i := 3) rfl)) (by decide) (by decide)) (g := (mkF m 40 #[.val (.int p1), .val (.int p2), .val (.int p3), .val (.int p4), .val (.int (1 : Int32)), .val (.int v2), .val (.int (0 : Int32)), .val (.ref a_SPEAR), .unset, .unset] [(.int v2)])) rfl (by rw [hml]; rfl) (argsL := [(.int v2)]) (rest := []) (lenOf own_pd__I_Lcom_example_powderhorn_powderhorn_rules_pigwars_MeleeWeapon_ rfl) rfl (by show 2 * 0 + _ ≤ _; exact Nat.le_of_eq rfl) (hb hby at_40) (fun _ _ => ⟨rfl, eq8, (by decide : 0 + 0 ≤ _), (by decide : 0 + 0 ≤ _)⟩)
      dsimp only [Pt.U, Pt.locs, Pt.cells, Pt.slots] at X9 l9 y9 z9 st9 hQ9
      subst l9 y9 z9
      obtain ⟨rfl, Nq9, eq9⟩ := hQ9
      have N9 := Fr.app N8 Nq9
      refine own_st st9 ?_
      show own_Go p.tables e below RR (T9.setTop (mkF m 43 #[.val (.int p1), .val (.int p2), .val (.int p3), .val (.int p4), .val (.int (1 : Int32)), .val (.int v2), .val (.int (0 : Int32)), .val (.ref a_SPEAR), .unset, .unset] [(.ref e_n)]))
      refine own_st (fun _ k => XS.astore X9.here hx rfl (hb hby at_43) rfl rfl (l' := #[.val (.int p1), .val (.int p2), .val (.int p3), .val (.int p4), .val (.int (1 : Int32)), .val (.int v2), .val (.int (0 : Int32)), .val (.ref a_SPEAR), .val (.ref e_n), .unset]) rfl (XS.iload X9.here hx rfl (hb hby at_45) rfl k)) ?_
      show own_Go p.tables e below RR (T9.setTop (mkF m 47 #[.val (.int p1), .val (.int p2), .val (.int p3), .val (.int p4), .val (.int (1 : Int32)), .val (.int v2), .val (.int (0 : Int32)), .val (.ref a_SPEAR), .val (.ref e_n), .unset] [(.int (1 : Int32))]))
      obtain ⟨_, _, ⟨T10, L10, k10, n10⟩, -, X10, ⟨Lc10, hQ10, l10, y10, z10⟩, st10⟩ := Jvm.LawKit.callS X9 hx (y := (⟨"com/example/powderhorn/powderhorn/rules/pigwars/MeleeWeaponBonusPinLaw", "base", "(I)I"⟩ : MethodName)) hown (mvT hZ (hw _ (List.mem_of_getElem? (i := 10) rfl))) (mvT hZ (hw _ (List.mem_of_getElem? (i := 11) rfl))) (mvT hZ (hw _ (List.mem_of_getElem? (i := 3) rfl))) (mvT hZ (hw _ (List.mem_of_getElem? (i := 12) rfl))) (by decide) (backOf (W := 0) (own_rmB l Z a0 hw [] (1 : Int32) (1 : Int32) h0 n0 Z0 rfl) hZ (hw _ (List.mem_of_getElem? (i := 12) rfl)) (hw _ (List.mem_of_getElem? (i := 3) rfl)) (by decide) (by decide)) (g := (mkF m 47 #[.val (.int p1), .val (.int p2), .val (.int p3), .val (.int p4), .val (.int (1 : Int32)), .val (.int v2), .val (.int (0 : Int32)), .val (.ref a_SPEAR), .val (.ref e_n), .unset] [(.int (1 : Int32))])) rfl (by rw [hml]; rfl) (argsL := [(.int (1 : Int32))]) (rest := []) (lenOf own_pd__I_I rfl) rfl (by show 2 * 0 + _ ≤ _; exact Nat.le_of_eq rfl) (hb hby at_47) (fun _ _ => ⟨rfl, eq9, (by decide : 0 + 0 ≤ _), (by decide : 0 + 0 ≤ _)⟩)
      dsimp only [Pt.U, Pt.locs, Pt.cells, Pt.slots] at X10 l10 y10 z10 st10 hQ10
      subst l10 y10 z10
      obtain ⟨rfl, Nq10, eq10⟩ := hQ10
      have N10 := Fr.app N9 Nq10
      refine own_st st10 ?_
      show own_Go p.tables e below RR (T10.setTop (mkF m 50 #[.val (.int p1), .val (.int p2), .val (.int p3), .val (.int p4), .val (.int (1 : Int32)), .val (.int v2), .val (.int (0 : Int32)), .val (.ref a_SPEAR), .val (.ref e_n), .unset] [(.int (1 : Int32))]))
      refine own_st (fun _ k => XS.istore X10.here hx rfl (hb hby at_50) rfl (l' := #[.val (.int p1), .val (.int p2), .val (.int p3), .val (.int p4), .val (.int (1 : Int32)), .val (.int v2), .val (.int (0 : Int32)), .val (.ref a_SPEAR), .val (.ref e_n), .val (.int (1 : Int32))]) rfl (XS.iload X10.here hx rfl (hb hby at_52) rfl (XS.iconst X10.here hx rfl (hb hby at_54) k))) ?_
      show own_Go p.tables e below RR (T10.setTop (mkF m 55 #[.val (.int p1), .val (.int p2), .val (.int p3), .val (.int p4), .val (.int (1 : Int32)), .val (.int v2), .val (.int (0 : Int32)), .val (.ref a_SPEAR), .val (.ref e_n), .val (.int (1 : Int32))] [(.int (5 : Int32)), (.int (1 : Int32))]))
      refine own_st (fun _ k => XS.icmpYes X10.here hx rfl (pc0 := 55) (pc' := 77) rfl (hb hby at_55) rfl (feq (by decide)).2 (by decide) (by decide) (XS.aload X10.here hx rfl (hb hby at_77) rfl rfl (XS.iloadN X10.here hx rfl (hb hby at_79) rfl (XS.aload X10.here hx rfl (hb hby at_80) rfl rfl (XS.iload X10.here hx rfl (hb hby at_82) rfl k))))) ?_
      show own_Go p.tables e below RR (T10.setTop (mkF m 84 #[.val (.int p1), .val (.int p2), .val (.int p3), .val (.int p4), .val (.int (1 : Int32)), .val (.int v2), .val (.int (0 : Int32)), .val (.ref a_SPEAR), .val (.ref e_n), .val (.int (1 : Int32))] [(.int (0 : Int32)), (.ref e_n), (.int p3), (.ref a_SPEAR)]))
      obtain ⟨cq11, kq11, q11a, q11b, q11c⟩ := isOf hZ eq10 E_SPEAR
      obtain ⟨_, _, ⟨T11, L11, k11, n11⟩, -, X11, ⟨Lc11, hQ11, l11, y11, z11⟩, st11⟩ := X10.virtualBack hx (y := (⟨"com/example/powderhorn/powderhorn/rules/pigwars/MeleeWeapon", "bonus", "(ILcom/example/powderhorn/powderhorn/rules/pigwars/MeleeWeapon;Z)I"⟩ : MethodName)) (z := (⟨"com/example/powderhorn/powderhorn/rules/pigwars/MeleeWeapon", "bonus", "(ILcom/example/powderhorn/powderhorn/rules/pigwars/MeleeWeapon;Z)I"⟩ : MethodName)) hown (mvT hZ (hw _ (List.mem_of_getElem? (i := 13) rfl))) (mvT hZ (hw _ (List.mem_of_getElem? (i := 14) rfl))) (notFace_of_selects (args := #[]) (mvT hZ (hw _ (List.mem_of_getElem? (i := 16) rfl)))) (mvT hZ (hw _ (List.mem_of_getElem? (i := 16) rfl))) (mvT hZ (hw _ (List.mem_of_getElem? (i := 15) rfl))) (by decide) (backOf (W := 0) (own_rmN l Z a0 hw [] a_SPEAR p3 e_n (0 : Int32) (1 : Int32) a_LANCE a_SPEAR (1 : Int32) h0 n0 Z0 S_LANCE S_SPEAR F_SPEAR_bonus (if_neg fun q => (Fld.ne F_SPEAR_ordinal F_LANCE_ordinal (by simp)) q.1)) hZ (hw _ (List.mem_of_getElem? (i := 17) rfl)) (hw _ (List.mem_of_getElem? (i := 6) rfl)) (by decide) (by decide)) q11a q11c (g := (mkF m 84 #[.val (.int p1), .val (.int p2), .val (.int p3), .val (.int p4), .val (.int (1 : Int32)), .val (.int v2), .val (.int (0 : Int32)), .val (.ref a_SPEAR), .val (.ref e_n), .val (.int (1 : Int32))] [(.int (0 : Int32)), (.ref e_n), (.int p3), (.ref a_SPEAR)])) rfl (by rw [hml]; rfl) (Steps.refl _) (argsL := [(.int p3), (.ref e_n), (.int (0 : Int32))]) (rest := []) (lenOf own_pd__ILcom_example_powderhorn_powderhorn_rules_pigwars_MeleeWeapon_Z_I rfl) rfl (by show 2 * 0 + _ ≤ _; exact Nat.le_of_eq rfl) (hb hby at_84) (fun _ _ => ⟨rfl, eq10, (by decide : 0 + 0 ≤ _), (by decide : 0 + 0 ≤ _)⟩)
      dsimp only [Pt.U, Pt.locs, Pt.cells, Pt.slots] at X11 l11 y11 z11 st11 hQ11
      subst l11 y11 z11
      obtain ⟨rfl, Nq11, eq11⟩ := hQ11
      have N11 := Fr.app N10 Nq11
      refine own_st (fun _ k => st11.trans k) ?_
      show own_Go p.tables e below RR (T11.setTop (mkF m 87 #[.val (.int p1), .val (.int p2), .val (.int p3), .val (.int p4), .val (.int (1 : Int32)), .val (.int v2), .val (.int (0 : Int32)), .val (.ref a_SPEAR), .val (.ref e_n), .val (.int (1 : Int32))] [(.int (1 : Int32))]))
      refine own_st (fun _ k => XS.iload X11.here hx rfl (hb hby at_87) rfl k) ?_
      show own_Go p.tables e below RR (T11.setTop (mkF m 89 #[.val (.int p1), .val (.int p2), .val (.int p3), .val (.int p4), .val (.int (1 : Int32)), .val (.int v2), .val (.int (0 : Int32)), .val (.ref a_SPEAR), .val (.ref e_n), .val (.int (1 : Int32))] [(.int (1 : Int32)), (.int (1 : Int32))]))
      refine own_st (fun _ k => XS.icmpNo X11.here hx rfl (hb hby at_89) rfl (teq (by decide)).2 (XS.iconst X11.here hx rfl (hb hby at_92) (XS.goto X11.here hx rfl (pc0 := 93) (pc' := 97) rfl (hb hby at_93) (by decide) (by decide) k))) ?_
      show own_Go p.tables e below RR (T11.setTop (mkF m 97 #[.val (.int p1), .val (.int p2), .val (.int p3), .val (.int p4), .val (.int (1 : Int32)), .val (.int v2), .val (.int (0 : Int32)), .val (.ref a_SPEAR), .val (.ref e_n), .val (.int (1 : Int32))] [(.int (1 : Int32))]))
      obtain ⟨fs, hrt_, hrun, hended, hW, hsame⟩ := X11.leave (v := some (.int (1 : Int32))) (fun h => by rw [Bd.returns] at h; cases h)
      refine own_fin (retN X11 hx (t := .boolean) Bd.returns (by simp) (hb hby at_97) hrt_) (hRR _ ⟨_, hrun, hended, _, _, rfl, ?_, ⟨_, rfl⟩, hW, hsame.mono (by decide) (by decide)⟩)
      show own_Q0 Z p1 p2 p3 p4 a_IMPROVISED a_ONE_HAND_EDGED a_LANCE a_SPEAR a_TWO_HAND_EDGED a_CLUB h0 n0 _ T11.heap _
      rw [eq11]
      exact ⟨rfl, N11⟩
    · show own_Go p.tables e below RR (s₁.setTop (mkF m 31 #[.val (.int p1), .val (.int p2), .val (.int p3), .val (.int p4), .val (.int (2 : Int32)), .val (.int v2), .val (.int (0 : Int32)), .unset, .unset, .unset] []))
      show own_Go p.tables e below RR (s₁.setTop (mkF m 31 #[.val (.int p1), .val (.int p2), .val (.int p3), .val (.int p4), .val (.int (2 : Int32)), .val (.int v2), .val (.int (0 : Int32)), .unset, .unset, .unset] []))
      refine own_st (fun _ k => XS.iload X0.here hx rfl (hb hby at_31) rfl k) ?_
      show own_Go p.tables e below RR (s₁.setTop (mkF m 33 #[.val (.int p1), .val (.int p2), .val (.int p3), .val (.int p4), .val (.int (2 : Int32)), .val (.int v2), .val (.int (0 : Int32)), .unset, .unset, .unset] [(.int (2 : Int32))]))
      obtain ⟨_, _, ⟨T12, L12, k12, n12⟩, -, X12, ⟨Lc12, hQ12, l12, y12, z12⟩, st12⟩ := Jvm.LawKit.callS X0 hx (y := (⟨"com/example/powderhorn/powderhorn/rules/pigwars/MeleeWeaponBonusPinLaw", "pick", "(I)Lcom/example/powderhorn/powderhorn/rules/pigwars/MeleeWeapon;"⟩ : MethodName)) hown (mvT hZ (hw _ (List.mem_of_getElem? (i := 1) rfl))) (mvT hZ (hw _ (List.mem_of_getElem? (i := 2) rfl))) (mvT hZ (hw _ (List.mem_of_getElem? (i := 3) rfl))) (mvT hZ (hw _ (List.mem_of_getElem? (i := 4) rfl))) (by decide) (backOf (W := 0) (own_rmP l Z a0 hw [] (2 : Int32) a_IMPROVISED a_ONE_HAND_EDGED a_LANCE a_SPEAR a_TWO_HAND_EDGED a_CLUB a_CLUB h0 n0 Z0 S_IMPROVISED S_ONE_HAND_EDGED S_LANCE S_SPEAR S_TWO_HAND_EDGED S_CLUB rfl) hZ (hw _ (List.mem_of_getElem? (i := 4) rfl)) (hw _ (List.mem_of_getElem? (i := 3) rfl)) (by decide) (by decide)) (g := (mkF m 33 #[.val (.int p1), .val (.int p2), .val (.int p3), .val (.int p4), .val (.int (2 : Int32)), .val (.int v2), .val (.int (0 : Int32)), .unset, .unset, .unset] [(.int (2 : Int32))])) rfl (by rw [hml]; rfl) (argsL := [(.int (2 : Int32))]) (rest := []) (lenOf own_pd__I_Lcom_example_powderhorn_powderhorn_rules_pigwars_MeleeWeapon_ rfl) rfl (by show 2 * 0 + _ ≤ _; exact Nat.le_of_eq rfl) (hb hby at_33) (fun _ _ => ⟨rfl, e0, (by decide : 0 + 0 ≤ _), (by decide : 0 + 0 ≤ _)⟩)
      dsimp only [Pt.U, Pt.locs, Pt.cells, Pt.slots] at X12 l12 y12 z12 st12 hQ12
      subst l12 y12 z12
      obtain ⟨rfl, Nq12, eq12⟩ := hQ12
      have N12 := Fr.app N0 Nq12
      refine own_st st12 ?_
      show own_Go p.tables e below RR (T12.setTop (mkF m 36 #[.val (.int p1), .val (.int p2), .val (.int p3), .val (.int p4), .val (.int (2 : Int32)), .val (.int v2), .val (.int (0 : Int32)), .unset, .unset, .unset] [(.ref a_CLUB)]))
      refine own_st (fun _ k => XS.astore X12.here hx rfl (hb hby at_36) rfl rfl (l' := #[.val (.int p1), .val (.int p2), .val (.int p3), .val (.int p4), .val (.int (2 : Int32)), .val (.int v2), .val (.int (0 : Int32)), .val (.ref a_CLUB), .unset, .unset]) rfl (XS.iload X12.here hx rfl (hb hby at_38) rfl k)) ?_
      show own_Go p.tables e below RR (T12.setTop (mkF m 40 #[.val (.int p1), .val (.int p2), .val (.int p3), .val (.int p4), .val (.int (2 : Int32)), .val (.int v2), .val (.int (0 : Int32)), .val (.ref a_CLUB), .unset, .unset] [(.int v2)]))
      obtain ⟨e_n, he_n⟩ : ∃ z, own_pick v2 a_IMPROVISED a_SPEAR a_CLUB a_ONE_HAND_EDGED a_TWO_HAND_EDGED a_LANCE = z := ⟨_, rfl⟩
      obtain ⟨_, _, ⟨T13, L13, k13, n13⟩, -, X13, ⟨Lc13, hQ13, l13, y13, z13⟩, st13⟩ := Jvm.LawKit.callS X12 hx (y := (⟨"com/example/powderhorn/powderhorn/rules/pigwars/MeleeWeaponBonusPinLaw", "pick", "(I)Lcom/example/powderhorn/powderhorn/rules/pigwars/MeleeWeapon;"⟩ : MethodName)) hown (mvT hZ (hw _ (List.mem_of_getElem? (i := 1) rfl))) (mvT hZ (hw _ (List.mem_of_getElem? (i := 2) rfl))) (mvT hZ (hw _ (List.mem_of_getElem? (i := 3) rfl))) (mvT hZ (hw _ (List.mem_of_getElem? (i := 4) rfl))) (by decide) (backOf (W := 0) (own_rmP l Z a0 hw [] v2 a_IMPROVISED a_ONE_HAND_EDGED a_LANCE a_SPEAR a_TWO_HAND_EDGED a_CLUB e_n h0 n0 Z0 S_IMPROVISED S_ONE_HAND_EDGED S_LANCE S_SPEAR S_TWO_HAND_EDGED S_CLUB he_n) hZ (hw _ (List.mem_of_getElem? (i := 4) rfl)) (hw _ (List.mem_of_getElem? (i := 3) rfl)) (by decide) (by decide)) (g := (mkF m 40 #[.val (.int p1), .val (.int p2), .val (.int p3), .val (.int p4), .val (.int (2 : Int32)), .val (.int v2), .val (.int (0 : Int32)), .val (.ref a_CLUB), .unset, .unset] [(.int v2)])) rfl (by rw [hml]; rfl) (argsL := [(.int v2)]) (rest := []) (lenOf own_pd__I_Lcom_example_powderhorn_powderhorn_rules_pigwars_MeleeWeapon_ rfl) rfl (by show 2 * 0 + _ ≤ _; exact Nat.le_of_eq rfl) (hb hby at_40) (fun _ _ => ⟨rfl, eq12, (by decide : 0 + 0 ≤ _), (by decide : 0 + 0 ≤ _)⟩)
      dsimp only [Pt.U, Pt.locs, Pt.cells, Pt.slots] at X13 l13 y13 z13 st13 hQ13
      subst l13 y13 z13
      obtain ⟨rfl, Nq13, eq13⟩ := hQ13
      have N13 := Fr.app N12 Nq13
      refine own_st st13 ?_
      show own_Go p.tables e below RR (T13.setTop (mkF m 43 #[.val (.int p1), .val (.int p2), .val (.int p3), .val (.int p4), .val (.int (2 : Int32)), .val (.int v2), .val (.int (0 : Int32)), .val (.ref a_CLUB), .unset, .unset] [(.ref e_n)]))
      refine own_st (fun _ k => XS.astore X13.here hx rfl (hb hby at_43) rfl rfl (l' := #[.val (.int p1), .val (.int p2), .val (.int p3), .val (.int p4), .val (.int (2 : Int32)), .val (.int v2), .val (.int (0 : Int32)), .val (.ref a_CLUB), .val (.ref e_n), .unset]) rfl (XS.iload X13.here hx rfl (hb hby at_45) rfl k)) ?_
      show own_Go p.tables e below RR (T13.setTop (mkF m 47 #[.val (.int p1), .val (.int p2), .val (.int p3), .val (.int p4), .val (.int (2 : Int32)), .val (.int v2), .val (.int (0 : Int32)), .val (.ref a_CLUB), .val (.ref e_n), .unset] [(.int (2 : Int32))]))
      obtain ⟨_, _, ⟨T14, L14, k14, n14⟩, -, X14, ⟨Lc14, hQ14, l14, y14, z14⟩, st14⟩ := Jvm.LawKit.callS X13 hx (y := (⟨"com/example/powderhorn/powderhorn/rules/pigwars/MeleeWeaponBonusPinLaw", "base", "(I)I"⟩ : MethodName)) hown (mvT hZ (hw _ (List.mem_of_getElem? (i := 10) rfl))) (mvT hZ (hw _ (List.mem_of_getElem? (i := 11) rfl))) (mvT hZ (hw _ (List.mem_of_getElem? (i := 3) rfl))) (mvT hZ (hw _ (List.mem_of_getElem? (i := 12) rfl))) (by decide) (backOf (W := 0) (own_rmB l Z a0 hw [] (2 : Int32) (1 : Int32) h0 n0 Z0 rfl) hZ (hw _ (List.mem_of_getElem? (i := 12) rfl)) (hw _ (List.mem_of_getElem? (i := 3) rfl)) (by decide) (by decide)) (g := (mkF m 47 #[.val (.int p1), .val (.int p2), .val (.int p3), .val (.int p4), .val (.int (2 : Int32)), .val (.int v2), .val (.int (0 : Int32)), .val (.ref a_CLUB), .val (.ref e_n), .unset] [(.int (2 : Int32))])) rfl (by rw [hml]; rfl) (argsL := [(.int (2 : Int32))]) (rest := []) (lenOf own_pd__I_I rfl) rfl (by show 2 * 0 + _ ≤ _; exact Nat.le_of_eq rfl) (hb hby at_47) (fun _ _ => ⟨rfl, eq13, (by decide : 0 + 0 ≤ _), (by decide : 0 + 0 ≤ _)⟩)
      dsimp only [Pt.U, Pt.locs, Pt.cells, Pt.slots] at X14 l14 y14 z14 st14 hQ14
      subst l14 y14 z14
      obtain ⟨rfl, Nq14, eq14⟩ := hQ14
      have N14 := Fr.app N13 Nq14
      refine own_st st14 ?_
      show own_Go p.tables e below RR (T14.setTop (mkF m 50 #[.val (.int p1), .val (.int p2), .val (.int p3), .val (.int p4), .val (.int (2 : Int32)), .val (.int v2), .val (.int (0 : Int32)), .val (.ref a_CLUB), .val (.ref e_n), .unset] [(.int (1 : Int32))]))
      refine own_st (fun _ k => XS.istore X14.here hx rfl (hb hby at_50) rfl (l' := #[.val (.int p1), .val (.int p2), .val (.int p3), .val (.int p4), .val (.int (2 : Int32)), .val (.int v2), .val (.int (0 : Int32)), .val (.ref a_CLUB), .val (.ref e_n), .val (.int (1 : Int32))]) rfl (XS.iload X14.here hx rfl (hb hby at_52) rfl (XS.iconst X14.here hx rfl (hb hby at_54) k))) ?_
      show own_Go p.tables e below RR (T14.setTop (mkF m 55 #[.val (.int p1), .val (.int p2), .val (.int p3), .val (.int p4), .val (.int (2 : Int32)), .val (.int v2), .val (.int (0 : Int32)), .val (.ref a_CLUB), .val (.ref e_n), .val (.int (1 : Int32))] [(.int (5 : Int32)), (.int (2 : Int32))]))
      refine own_st (fun _ k => XS.icmpYes X14.here hx rfl (pc0 := 55) (pc' := 77) rfl (hb hby at_55) rfl (feq (by decide)).2 (by decide) (by decide) (XS.aload X14.here hx rfl (hb hby at_77) rfl rfl (XS.iloadN X14.here hx rfl (hb hby at_79) rfl (XS.aload X14.here hx rfl (hb hby at_80) rfl rfl (XS.iload X14.here hx rfl (hb hby at_82) rfl k))))) ?_
      show own_Go p.tables e below RR (T14.setTop (mkF m 84 #[.val (.int p1), .val (.int p2), .val (.int p3), .val (.int p4), .val (.int (2 : Int32)), .val (.int v2), .val (.int (0 : Int32)), .val (.ref a_CLUB), .val (.ref e_n), .val (.int (1 : Int32))] [(.int (0 : Int32)), (.ref e_n), (.int p3), (.ref a_CLUB)]))
      obtain ⟨cq15, kq15, q15a, q15b, q15c⟩ := isOf hZ eq14 E_CLUB
      obtain ⟨_, _, ⟨T15, L15, k15, n15⟩, -, X15, ⟨Lc15, hQ15, l15, y15, z15⟩, st15⟩ := X14.virtualBack hx (y := (⟨"com/example/powderhorn/powderhorn/rules/pigwars/MeleeWeapon", "bonus", "(ILcom/example/powderhorn/powderhorn/rules/pigwars/MeleeWeapon;Z)I"⟩ : MethodName)) (z := (⟨"com/example/powderhorn/powderhorn/rules/pigwars/MeleeWeapon", "bonus", "(ILcom/example/powderhorn/powderhorn/rules/pigwars/MeleeWeapon;Z)I"⟩ : MethodName)) hown (mvT hZ (hw _ (List.mem_of_getElem? (i := 13) rfl))) (mvT hZ (hw _ (List.mem_of_getElem? (i := 14) rfl))) (notFace_of_selects (args := #[]) (mvT hZ (hw _ (List.mem_of_getElem? (i := 16) rfl)))) (mvT hZ (hw _ (List.mem_of_getElem? (i := 16) rfl))) (mvT hZ (hw _ (List.mem_of_getElem? (i := 15) rfl))) (by decide) (backOf (W := 0) (own_rmN l Z a0 hw [] a_CLUB p3 e_n (0 : Int32) (1 : Int32) a_LANCE a_SPEAR (1 : Int32) h0 n0 Z0 S_LANCE S_SPEAR F_CLUB_bonus (if_neg fun q => (Fld.ne F_CLUB_ordinal F_LANCE_ordinal (by simp)) q.1)) hZ (hw _ (List.mem_of_getElem? (i := 17) rfl)) (hw _ (List.mem_of_getElem? (i := 6) rfl)) (by decide) (by decide)) q15a q15c (g := (mkF m 84 #[.val (.int p1), .val (.int p2), .val (.int p3), .val (.int p4), .val (.int (2 : Int32)), .val (.int v2), .val (.int (0 : Int32)), .val (.ref a_CLUB), .val (.ref e_n), .val (.int (1 : Int32))] [(.int (0 : Int32)), (.ref e_n), (.int p3), (.ref a_CLUB)])) rfl (by rw [hml]; rfl) (Steps.refl _) (argsL := [(.int p3), (.ref e_n), (.int (0 : Int32))]) (rest := []) (lenOf own_pd__ILcom_example_powderhorn_powderhorn_rules_pigwars_MeleeWeapon_Z_I rfl) rfl (by show 2 * 0 + _ ≤ _; exact Nat.le_of_eq rfl) (hb hby at_84) (fun _ _ => ⟨rfl, eq14, (by decide : 0 + 0 ≤ _), (by decide : 0 + 0 ≤ _)⟩)
      dsimp only [Pt.U, Pt.locs, Pt.cells, Pt.slots] at X15 l15 y15 z15 st15 hQ15
      subst l15 y15 z15
      obtain ⟨rfl, Nq15, eq15⟩ := hQ15
      have N15 := Fr.app N14 Nq15
      refine own_st (fun _ k => st15.trans k) ?_
      show own_Go p.tables e below RR (T15.setTop (mkF m 87 #[.val (.int p1), .val (.int p2), .val (.int p3), .val (.int p4), .val (.int (2 : Int32)), .val (.int v2), .val (.int (0 : Int32)), .val (.ref a_CLUB), .val (.ref e_n), .val (.int (1 : Int32))] [(.int (1 : Int32))]))
      refine own_st (fun _ k => XS.iload X15.here hx rfl (hb hby at_87) rfl k) ?_
      show own_Go p.tables e below RR (T15.setTop (mkF m 89 #[.val (.int p1), .val (.int p2), .val (.int p3), .val (.int p4), .val (.int (2 : Int32)), .val (.int v2), .val (.int (0 : Int32)), .val (.ref a_CLUB), .val (.ref e_n), .val (.int (1 : Int32))] [(.int (1 : Int32)), (.int (1 : Int32))]))
      refine own_st (fun _ k => XS.icmpNo X15.here hx rfl (hb hby at_89) rfl (teq (by decide)).2 (XS.iconst X15.here hx rfl (hb hby at_92) (XS.goto X15.here hx rfl (pc0 := 93) (pc' := 97) rfl (hb hby at_93) (by decide) (by decide) k))) ?_
      show own_Go p.tables e below RR (T15.setTop (mkF m 97 #[.val (.int p1), .val (.int p2), .val (.int p3), .val (.int p4), .val (.int (2 : Int32)), .val (.int v2), .val (.int (0 : Int32)), .val (.ref a_CLUB), .val (.ref e_n), .val (.int (1 : Int32))] [(.int (1 : Int32))]))
      obtain ⟨fs, hrt_, hrun, hended, hW, hsame⟩ := X15.leave (v := some (.int (1 : Int32))) (fun h => by rw [Bd.returns] at h; cases h)
      refine own_fin (retN X15 hx (t := .boolean) Bd.returns (by simp) (hb hby at_97) hrt_) (hRR _ ⟨_, hrun, hended, _, _, rfl, ?_, ⟨_, rfl⟩, hW, hsame.mono (by decide) (by decide)⟩)
      show own_Q0 Z p1 p2 p3 p4 a_IMPROVISED a_ONE_HAND_EDGED a_LANCE a_SPEAR a_TWO_HAND_EDGED a_CLUB h0 n0 _ T15.heap _
      rw [eq15]
      exact ⟨rfl, N15⟩
    · show own_Go p.tables e below RR (s₁.setTop (mkF m 31 #[.val (.int p1), .val (.int p2), .val (.int p3), .val (.int p4), .val (.int (3 : Int32)), .val (.int v2), .val (.int (0 : Int32)), .unset, .unset, .unset] []))
      show own_Go p.tables e below RR (s₁.setTop (mkF m 31 #[.val (.int p1), .val (.int p2), .val (.int p3), .val (.int p4), .val (.int (3 : Int32)), .val (.int v2), .val (.int (0 : Int32)), .unset, .unset, .unset] []))
      refine own_st (fun _ k => XS.iload X0.here hx rfl (hb hby at_31) rfl k) ?_
      show own_Go p.tables e below RR (s₁.setTop (mkF m 33 #[.val (.int p1), .val (.int p2), .val (.int p3), .val (.int p4), .val (.int (3 : Int32)), .val (.int v2), .val (.int (0 : Int32)), .unset, .unset, .unset] [(.int (3 : Int32))]))
      obtain ⟨_, _, ⟨T16, L16, k16, n16⟩, -, X16, ⟨Lc16, hQ16, l16, y16, z16⟩, st16⟩ := Jvm.LawKit.callS X0 hx (y := (⟨"com/example/powderhorn/powderhorn/rules/pigwars/MeleeWeaponBonusPinLaw", "pick", "(I)Lcom/example/powderhorn/powderhorn/rules/pigwars/MeleeWeapon;"⟩ : MethodName)) hown (mvT hZ (hw _ (List.mem_of_getElem? (i := 1) rfl))) (mvT hZ (hw _ (List.mem_of_getElem? (i := 2) rfl))) (mvT hZ (hw _ (List.mem_of_getElem? (i := 3) rfl))) (mvT hZ (hw _ (List.mem_of_getElem? (i := 4) rfl))) (by decide) (backOf (W := 0) (own_rmP l Z a0 hw [] (3 : Int32) a_IMPROVISED a_ONE_HAND_EDGED a_LANCE a_SPEAR a_TWO_HAND_EDGED a_CLUB a_ONE_HAND_EDGED h0 n0 Z0 S_IMPROVISED S_ONE_HAND_EDGED S_LANCE S_SPEAR S_TWO_HAND_EDGED S_CLUB rfl) hZ (hw _ (List.mem_of_getElem? (i := 4) rfl)) (hw _ (List.mem_of_getElem? (i := 3) rfl)) (by decide) (by decide)) (g := (mkF m 33 #[.val (.int p1), .val (.int p2), .val (.int p3), .val (.int p4), .val (.int (3 : Int32)), .val (.int v2), .val (.int (0 : Int32)), .unset, .unset, .unset] [(.int (3 : Int32))])) rfl (by rw [hml]; rfl) (argsL := [(.int (3 : Int32))]) (rest := []) (lenOf own_pd__I_Lcom_example_powderhorn_powderhorn_rules_pigwars_MeleeWeapon_ rfl) rfl (by show 2 * 0 + _ ≤ _; exact Nat.le_of_eq rfl) (hb hby at_33) (fun _ _ => ⟨rfl, e0, (by decide : 0 + 0 ≤ _), (by decide : 0 + 0 ≤ _)⟩)
      dsimp only [Pt.U, Pt.locs, Pt.cells, Pt.slots] at X16 l16 y16 z16 st16 hQ16
      subst l16 y16 z16
      obtain ⟨rfl, Nq16, eq16⟩ := hQ16
      have N16 := Fr.app N0 Nq16
      refine own_st st16 ?_
      show own_Go p.tables e below RR (T16.setTop (mkF m 36 #[.val (.int p1), .val (.int p2), .val (.int p3), .val (.int p4), .val (.int (3 : Int32)), .val (.int v2), .val (.int (0 : Int32)), .unset, .unset, .unset] [(.ref a_ONE_HAND_EDGED)]))
      refine own_st (fun _ k => XS.astore X16.here hx rfl (hb hby at_36) rfl rfl (l' := #[.val (.int p1), .val (.int p2), .val (.int p3), .val (.int p4), .val (.int (3 : Int32)), .val (.int v2), .val (.int (0 : Int32)), .val (.ref a_ONE_HAND_EDGED), .unset, .unset]) rfl (XS.iload X16.here hx rfl (hb hby at_38) rfl k)) ?_
      show own_Go p.tables e below RR (T16.setTop (mkF m 40 #[.val (.int p1), .val (.int p2), .val (.int p3), .val (.int p4), .val (.int (3 : Int32)), .val (.int v2), .val (.int (0 : Int32)), .val (.ref a_ONE_HAND_EDGED), .unset, .unset] [(.int v2)]))
      obtain ⟨e_n, he_n⟩ : ∃ z, own_pick v2 a_IMPROVISED a_SPEAR a_CLUB a_ONE_HAND_EDGED a_TWO_HAND_EDGED a_LANCE = z := ⟨_, rfl⟩
      obtain ⟨_, _, ⟨T17, L17, k17, n17⟩, -, X17, ⟨Lc17, hQ17, l17, y17, z17⟩, st17⟩ := Jvm.LawKit.callS X16 hx (y := (⟨"com/example/powderhorn/powderhorn/rules/pigwars/MeleeWeaponBonusPinLaw", "pick", "(I)Lcom/example/powderhorn/powderhorn/rules/pigwars/MeleeWeapon;"⟩ : MethodName)) hown (mvT hZ (hw _ (List.mem_of_getElem? (i := 1) rfl))) (mvT hZ (hw _ (List.mem_of_getElem? (i := 2) rfl))) (mvT hZ (hw _ (List.mem_of_getElem? (i := 3) rfl))) (mvT hZ (hw _ (List.mem_of_getElem? (i := 4) rfl))) (by decide) (backOf (W := 0) (own_rmP l Z a0 hw [] v2 a_IMPROVISED a_ONE_HAND_EDGED a_LANCE a_SPEAR a_TWO_HAND_EDGED a_CLUB e_n h0 n0 Z0 S_IMPROVISED S_ONE_HAND_EDGED S_LANCE S_SPEAR S_TWO_HAND_EDGED S_CLUB he_n) hZ (hw _ (List.mem_of_getElem? (i := 4) rfl)) (hw _ (List.mem_of_getElem? (i := 3) rfl)) (by decide) (by decide)) (g := (mkF m 40 #[.val (.int p1), .val (.int p2), .val (.int p3), .val (.int p4), .val (.int (3 : Int32)), .val (.int v2), .val (.int (0 : Int32)), .val (.ref a_ONE_HAND_EDGED), .unset, .unset] [(.int v2)])) rfl (by rw [hml]; rfl) (argsL := [(.int v2)]) (rest := []) (lenOf own_pd__I_Lcom_example_powderhorn_powderhorn_rules_pigwars_MeleeWeapon_ rfl) rfl (by show 2 * 0 + _ ≤ _; exact Nat.le_of_eq rfl) (hb hby at_40) (fun _ _ => ⟨rfl, eq16, (by decide : 0 + 0 ≤ _), (by decide : 0 + 0 ≤ _)⟩)
      dsimp only [Pt.U, Pt.locs, Pt.cells, Pt.slots] at X17 l17 y17 z17 st17 hQ17
      subst l17 y17 z17
      obtain ⟨rfl, Nq17, eq17⟩ := hQ17
      have N17 := Fr.app N16 Nq17
      refine own_st st17 ?_
      show own_Go p.tables e below RR (T17.setTop (mkF m 43 #[.val (.int p1), .val (.int p2), .val (.int p3), .val (.int p4), .val (.int (3 : Int32)), .val (.int v2), .val (.int (0 : Int32)), .val (.ref a_ONE_HAND_EDGED), .unset, .unset] [(.ref e_n)]))
      refine own_st (fun _ k => XS.astore X17.here hx rfl (hb hby at_43) rfl rfl (l' := #[.val (.int p1), .val (.int p2), .val (.int p3), .val (.int p4), .val (.int (3 : Int32)), .val (.int v2), .val (.int (0 : Int32)), .val (.ref a_ONE_HAND_EDGED), .val (.ref e_n), .unset]) rfl (XS.iload X17.here hx rfl (hb hby at_45) rfl k)) ?_
      show own_Go p.tables e below RR (T17.setTop (mkF m 47 #[.val (.int p1), .val (.int p2), .val (.int p3), .val (.int p4), .val (.int (3 : Int32)), .val (.int v2), .val (.int (0 : Int32)), .val (.ref a_ONE_HAND_EDGED), .val (.ref e_n), .unset] [(.int (3 : Int32))]))
      obtain ⟨_, _, ⟨T18, L18, k18, n18⟩, -, X18, ⟨Lc18, hQ18, l18, y18, z18⟩, st18⟩ := Jvm.LawKit.callS X17 hx (y := (⟨"com/example/powderhorn/powderhorn/rules/pigwars/MeleeWeaponBonusPinLaw", "base", "(I)I"⟩ : MethodName)) hown (mvT hZ (hw _ (List.mem_of_getElem? (i := 10) rfl))) (mvT hZ (hw _ (List.mem_of_getElem? (i := 11) rfl))) (mvT hZ (hw _ (List.mem_of_getElem? (i := 3) rfl))) (mvT hZ (hw _ (List.mem_of_getElem? (i := 12) rfl))) (by decide) (backOf (W := 0) (own_rmB l Z a0 hw [] (3 : Int32) (2 : Int32) h0 n0 Z0 rfl) hZ (hw _ (List.mem_of_getElem? (i := 12) rfl)) (hw _ (List.mem_of_getElem? (i := 3) rfl)) (by decide) (by decide)) (g := (mkF m 47 #[.val (.int p1), .val (.int p2), .val (.int p3), .val (.int p4), .val (.int (3 : Int32)), .val (.int v2), .val (.int (0 : Int32)), .val (.ref a_ONE_HAND_EDGED), .val (.ref e_n), .unset] [(.int (3 : Int32))])) rfl (by rw [hml]; rfl) (argsL := [(.int (3 : Int32))]) (rest := []) (lenOf own_pd__I_I rfl) rfl (by show 2 * 0 + _ ≤ _; exact Nat.le_of_eq rfl) (hb hby at_47) (fun _ _ => ⟨rfl, eq17, (by decide : 0 + 0 ≤ _), (by decide : 0 + 0 ≤ _)⟩)
      dsimp only [Pt.U, Pt.locs, Pt.cells, Pt.slots] at X18 l18 y18 z18 st18 hQ18
      subst l18 y18 z18
      obtain ⟨rfl, Nq18, eq18⟩ := hQ18
      have N18 := Fr.app N17 Nq18
      refine own_st st18 ?_
      show own_Go p.tables e below RR (T18.setTop (mkF m 50 #[.val (.int p1), .val (.int p2), .val (.int p3), .val (.int p4), .val (.int (3 : Int32)), .val (.int v2), .val (.int (0 : Int32)), .val (.ref a_ONE_HAND_EDGED), .val (.ref e_n), .unset] [(.int (2 : Int32))]))
      refine own_st (fun _ k => XS.istore X18.here hx rfl (hb hby at_50) rfl (l' := #[.val (.int p1), .val (.int p2), .val (.int p3), .val (.int p4), .val (.int (3 : Int32)), .val (.int v2), .val (.int (0 : Int32)), .val (.ref a_ONE_HAND_EDGED), .val (.ref e_n), .val (.int (2 : Int32))]) rfl (XS.iload X18.here hx rfl (hb hby at_52) rfl (XS.iconst X18.here hx rfl (hb hby at_54) k))) ?_
      show own_Go p.tables e below RR (T18.setTop (mkF m 55 #[.val (.int p1), .val (.int p2), .val (.int p3), .val (.int p4), .val (.int (3 : Int32)), .val (.int v2), .val (.int (0 : Int32)), .val (.ref a_ONE_HAND_EDGED), .val (.ref e_n), .val (.int (2 : Int32))] [(.int (5 : Int32)), (.int (3 : Int32))]))
      refine own_st (fun _ k => XS.icmpYes X18.here hx rfl (pc0 := 55) (pc' := 77) rfl (hb hby at_55) rfl (feq (by decide)).2 (by decide) (by decide) (XS.aload X18.here hx rfl (hb hby at_77) rfl rfl (XS.iloadN X18.here hx rfl (hb hby at_79) rfl (XS.aload X18.here hx rfl (hb hby at_80) rfl rfl (XS.iload X18.here hx rfl (hb hby at_82) rfl k))))) ?_
      show own_Go p.tables e below RR (T18.setTop (mkF m 84 #[.val (.int p1), .val (.int p2), .val (.int p3), .val (.int p4), .val (.int (3 : Int32)), .val (.int v2), .val (.int (0 : Int32)), .val (.ref a_ONE_HAND_EDGED), .val (.ref e_n), .val (.int (2 : Int32))] [(.int (0 : Int32)), (.ref e_n), (.int p3), (.ref a_ONE_HAND_EDGED)]))
      obtain ⟨cq19, kq19, q19a, q19b, q19c⟩ := isOf hZ eq18 E_ONE_HAND_EDGED
      obtain ⟨_, _, ⟨T19, L19, k19, n19⟩, -, X19, ⟨Lc19, hQ19, l19, y19, z19⟩, st19⟩ := X18.virtualBack hx (y := (⟨"com/example/powderhorn/powderhorn/rules/pigwars/MeleeWeapon", "bonus", "(ILcom/example/powderhorn/powderhorn/rules/pigwars/MeleeWeapon;Z)I"⟩ : MethodName)) (z := (⟨"com/example/powderhorn/powderhorn/rules/pigwars/MeleeWeapon", "bonus", "(ILcom/example/powderhorn/powderhorn/rules/pigwars/MeleeWeapon;Z)I"⟩ : MethodName)) hown (mvT hZ (hw _ (List.mem_of_getElem? (i := 13) rfl))) (mvT hZ (hw _ (List.mem_of_getElem? (i := 14) rfl))) (notFace_of_selects (args := #[]) (mvT hZ (hw _ (List.mem_of_getElem? (i := 16) rfl)))) (mvT hZ (hw _ (List.mem_of_getElem? (i := 16) rfl))) (mvT hZ (hw _ (List.mem_of_getElem? (i := 15) rfl))) (by decide) (backOf (W := 0) (own_rmN l Z a0 hw [] a_ONE_HAND_EDGED p3 e_n (0 : Int32) (2 : Int32) a_LANCE a_SPEAR (2 : Int32) h0 n0 Z0 S_LANCE S_SPEAR F_ONE_HAND_EDGED_bonus (if_neg fun q => (Fld.ne F_ONE_HAND_EDGED_ordinal F_LANCE_ordinal (by simp)) q.1)) hZ (hw _ (List.mem_of_getElem? (i := 17) rfl)) (hw _ (List.mem_of_getElem? (i := 6) rfl)) (by decide) (by decide)) q19a q19c (g := (mkF m 84 #[.val (.int p1), .val (.int p2), .val (.int p3), .val (.int p4), .val (.int (3 : Int32)), .val (.int v2), .val (.int (0 : Int32)), .val (.ref a_ONE_HAND_EDGED), .val (.ref e_n), .val (.int (2 : Int32))] [(.int (0 : Int32)), (.ref e_n), (.int p3), (.ref a_ONE_HAND_EDGED)])) rfl (by rw [hml]; rfl) (Steps.refl _) (argsL := [(.int p3), (.ref e_n), (.int (0 : Int32))]) (rest := []) (lenOf own_pd__ILcom_example_powderhorn_powderhorn_rules_pigwars_MeleeWeapon_Z_I rfl) rfl (by show 2 * 0 + _ ≤ _; exact Nat.le_of_eq rfl) (hb hby at_84) (fun _ _ => ⟨rfl, eq18, (by decide : 0 + 0 ≤ _), (by decide : 0 + 0 ≤ _)⟩)
      dsimp only [Pt.U, Pt.locs, Pt.cells, Pt.slots] at X19 l19 y19 z19 st19 hQ19
      subst l19 y19 z19
      obtain ⟨rfl, Nq19, eq19⟩ := hQ19
      have N19 := Fr.app N18 Nq19
      refine own_st (fun _ k => st19.trans k) ?_
      show own_Go p.tables e below RR (T19.setTop (mkF m 87 #[.val (.int p1), .val (.int p2), .val (.int p3), .val (.int p4), .val (.int (3 : Int32)), .val (.int v2), .val (.int (0 : Int32)), .val (.ref a_ONE_HAND_EDGED), .val (.ref e_n), .val (.int (2 : Int32))] [(.int (2 : Int32))]))
      refine own_st (fun _ k => XS.iload X19.here hx rfl (hb hby at_87) rfl k) ?_
      show own_Go p.tables e below RR (T19.setTop (mkF m 89 #[.val (.int p1), .val (.int p2), .val (.int p3), .val (.int p4), .val (.int (3 : Int32)), .val (.int v2), .val (.int (0 : Int32)), .val (.ref a_ONE_HAND_EDGED), .val (.ref e_n), .val (.int (2 : Int32))] [(.int (2 : Int32)), (.int (2 : Int32))]))
      refine own_st (fun _ k => XS.icmpNo X19.here hx rfl (hb hby at_89) rfl (teq (by decide)).2 (XS.iconst X19.here hx rfl (hb hby at_92) (XS.goto X19.here hx rfl (pc0 := 93) (pc' := 97) rfl (hb hby at_93) (by decide) (by decide) k))) ?_
      show own_Go p.tables e below RR (T19.setTop (mkF m 97 #[.val (.int p1), .val (.int p2), .val (.int p3), .val (.int p4), .val (.int (3 : Int32)), .val (.int v2), .val (.int (0 : Int32)), .val (.ref a_ONE_HAND_EDGED), .val (.ref e_n), .val (.int (2 : Int32))] [(.int (1 : Int32))]))
      obtain ⟨fs, hrt_, hrun, hended, hW, hsame⟩ := X19.leave (v := some (.int (1 : Int32))) (fun h => by rw [Bd.returns] at h; cases h)
      refine own_fin (retN X19 hx (t := .boolean) Bd.returns (by simp) (hb hby at_97) hrt_) (hRR _ ⟨_, hrun, hended, _, _, rfl, ?_, ⟨_, rfl⟩, hW, hsame.mono (by decide) (by decide)⟩)
      show own_Q0 Z p1 p2 p3 p4 a_IMPROVISED a_ONE_HAND_EDGED a_LANCE a_SPEAR a_TWO_HAND_EDGED a_CLUB h0 n0 _ T19.heap _
      rw [eq19]
      exact ⟨rfl, N19⟩
    · show own_Go p.tables e below RR (s₁.setTop (mkF m 31 #[.val (.int p1), .val (.int p2), .val (.int p3), .val (.int p4), .val (.int (4 : Int32)), .val (.int v2), .val (.int (0 : Int32)), .unset, .unset, .unset] []))
      show own_Go p.tables e below RR (s₁.setTop (mkF m 31 #[.val (.int p1), .val (.int p2), .val (.int p3), .val (.int p4), .val (.int (4 : Int32)), .val (.int v2), .val (.int (0 : Int32)), .unset, .unset, .unset] []))
      refine own_st (fun _ k => XS.iload X0.here hx rfl (hb hby at_31) rfl k) ?_
      show own_Go p.tables e below RR (s₁.setTop (mkF m 33 #[.val (.int p1), .val (.int p2), .val (.int p3), .val (.int p4), .val (.int (4 : Int32)), .val (.int v2), .val (.int (0 : Int32)), .unset, .unset, .unset] [(.int (4 : Int32))]))
      obtain ⟨_, _, ⟨T20, L20, k20, n20⟩, -, X20, ⟨Lc20, hQ20, l20, y20, z20⟩, st20⟩ := Jvm.LawKit.callS X0 hx (y := (⟨"com/example/powderhorn/powderhorn/rules/pigwars/MeleeWeaponBonusPinLaw", "pick", "(I)Lcom/example/powderhorn/powderhorn/rules/pigwars/MeleeWeapon;"⟩ : MethodName)) hown (mvT hZ (hw _ (List.mem_of_getElem? (i := 1) rfl))) (mvT hZ (hw _ (List.mem_of_getElem? (i := 2) rfl))) (mvT hZ (hw _ (List.mem_of_getElem? (i := 3) rfl))) (mvT hZ (hw _ (List.mem_of_getElem? (i := 4) rfl))) (by decide) (backOf (W := 0) (own_rmP l Z a0 hw [] (4 : Int32) a_IMPROVISED a_ONE_HAND_EDGED a_LANCE a_SPEAR a_TWO_HAND_EDGED a_CLUB a_TWO_HAND_EDGED h0 n0 Z0 S_IMPROVISED S_ONE_HAND_EDGED S_LANCE S_SPEAR S_TWO_HAND_EDGED S_CLUB rfl) hZ (hw _ (List.mem_of_getElem? (i := 4) rfl)) (hw _ (List.mem_of_getElem? (i := 3) rfl)) (by decide) (by decide)) (g := (mkF m 33 #[.val (.int p1), .val (.int p2), .val (.int p3), .val (.int p4), .val (.int (4 : Int32)), .val (.int v2), .val (.int (0 : Int32)), .unset, .unset, .unset] [(.int (4 : Int32))])) rfl (by rw [hml]; rfl) (argsL := [(.int (4 : Int32))]) (rest := []) (lenOf own_pd__I_Lcom_example_powderhorn_powderhorn_rules_pigwars_MeleeWeapon_ rfl) rfl (by show 2 * 0 + _ ≤ _; exact Nat.le_of_eq rfl) (hb hby at_33) (fun _ _ => ⟨rfl, e0, (by decide : 0 + 0 ≤ _), (by decide : 0 + 0 ≤ _)⟩)
      dsimp only [Pt.U, Pt.locs, Pt.cells, Pt.slots] at X20 l20 y20 z20 st20 hQ20
      subst l20 y20 z20
      obtain ⟨rfl, Nq20, eq20⟩ := hQ20
      have N20 := Fr.app N0 Nq20
      refine own_st st20 ?_
      show own_Go p.tables e below RR (T20.setTop (mkF m 36 #[.val (.int p1), .val (.int p2), .val (.int p3), .val (.int p4), .val (.int (4 : Int32)), .val (.int v2), .val (.int (0 : Int32)), .unset, .unset, .unset] [(.ref a_TWO_HAND_EDGED)]))
      refine own_st (fun _ k => XS.astore X20.here hx rfl (hb hby at_36) rfl rfl (l' := #[.val (.int p1), .val (.int p2), .val (.int p3), .val (.int p4), .val (.int (4 : Int32)), .val (.int v2), .val (.int (0 : Int32)), .val (.ref a_TWO_HAND_EDGED), .unset, .unset]) rfl (XS.iload X20.here hx rfl (hb hby at_38) rfl k)) ?_
      show own_Go p.tables e below RR (T20.setTop (mkF m 40 #[.val (.int p1), .val (.int p2), .val (.int p3), .val (.int p4), .val (.int (4 : Int32)), .val (.int v2), .val (.int (0 : Int32)), .val (.ref a_TWO_HAND_EDGED), .unset, .unset] [(.int v2)]))
      obtain ⟨e_n, he_n⟩ : ∃ z, own_pick v2 a_IMPROVISED a_SPEAR a_CLUB a_ONE_HAND_EDGED a_TWO_HAND_EDGED a_LANCE = z := ⟨_, rfl⟩
      obtain ⟨_, _, ⟨T21, L21, k21, n21⟩, -, X21, ⟨Lc21, hQ21, l21, y21, z21⟩, st21⟩ := Jvm.LawKit.callS X20 hx (y := (⟨"com/example/powderhorn/powderhorn/rules/pigwars/MeleeWeaponBonusPinLaw", "pick", "(I)Lcom/example/powderhorn/powderhorn/rules/pigwars/MeleeWeapon;"⟩ : MethodName)) hown (mvT hZ (hw _ (List.mem_of_getElem? (i := 1) rfl))) (mvT hZ (hw _ (List.mem_of_getElem? (i := 2) rfl))) (mvT hZ (hw _ (List.mem_of_getElem? (i := 3) rfl))) (mvT hZ (hw _ (List.mem_of_getElem? (i := 4) rfl))) (by decide) (backOf (W := 0) (own_rmP l Z a0 hw [] v2 a_IMPROVISED a_ONE_HAND_EDGED a_LANCE a_SPEAR a_TWO_HAND_EDGED a_CLUB e_n h0 n0 Z0 S_IMPROVISED S_ONE_HAND_EDGED S_LANCE S_SPEAR S_TWO_HAND_EDGED S_CLUB he_n) hZ (hw _ (List.mem_of_getElem? (i := 4) rfl)) (hw _ (List.mem_of_getElem? (i := 3) rfl)) (by decide) (by decide)) (g := (mkF m 40 #[.val (.int p1), .val (.int p2), .val (.int p3), .val (.int p4), .val (.int (4 : Int32)), .val (.int v2), .val (.int (0 : Int32)), .val (.ref a_TWO_HAND_EDGED), .unset, .unset] [(.int v2)])) rfl (by rw [hml]; rfl) (argsL := [(.int v2)]) (rest := []) (lenOf own_pd__I_Lcom_example_powderhorn_powderhorn_rules_pigwars_MeleeWeapon_ rfl) rfl (by show 2 * 0 + _ ≤ _; exact Nat.le_of_eq rfl) (hb hby at_40) (fun _ _ => ⟨rfl, eq20, (by decide : 0 + 0 ≤ _), (by decide : 0 + 0 ≤ _)⟩)
      dsimp only [Pt.U, Pt.locs, Pt.cells, Pt.slots] at X21 l21 y21 z21 st21 hQ21
      subst l21 y21 z21
      obtain ⟨rfl, Nq21, eq21⟩ := hQ21
      have N21 := Fr.app N20 Nq21
      refine own_st st21 ?_
      show own_Go p.tables e below RR (T21.setTop (mkF m 43 #[.val (.int p1), .val (.int p2), .val (.int p3), .val (.int p4), .val (.int (4 : Int32)), .val (.int v2), .val (.int (0 : Int32)), .val (.ref a_TWO_HAND_EDGED), .unset, .unset] [(.ref e_n)]))
      refine own_st (fun _ k => XS.astore X21.here hx rfl (hb hby at_43) rfl rfl (l' := #[.val (.int p1), .val (.int p2), .val (.int p3), .val (.int p4), .val (.int (4 : Int32)), .val (.int v2), .val (.int (0 : Int32)), .val (.ref a_TWO_HAND_EDGED), .val (.ref e_n), .unset]) rfl (XS.iload X21.here hx rfl (hb hby at_45) rfl k)) ?_
      show own_Go p.tables e below RR (T21.setTop (mkF m 47 #[.val (.int p1), .val (.int p2), .val (.int p3), .val (.int p4), .val (.int (4 : Int32)), .val (.int v2), .val (.int (0 : Int32)), .val (.ref a_TWO_HAND_EDGED), .val (.ref e_n), .unset] [(.int (4 : Int32))]))
      obtain ⟨_, _, ⟨T22, L22, k22, n22⟩, -, X22, ⟨Lc22, hQ22, l22, y22, z22⟩, st22⟩ := Jvm.LawKit.callS X21 hx (y := (⟨"com/example/powderhorn/powderhorn/rules/pigwars/MeleeWeaponBonusPinLaw", "base", "(I)I"⟩ : MethodName)) hown (mvT hZ (hw _ (List.mem_of_getElem? (i := 10) rfl))) (mvT hZ (hw _ (List.mem_of_getElem? (i := 11) rfl))) (mvT hZ (hw _ (List.mem_of_getElem? (i := 3) rfl))) (mvT hZ (hw _ (List.mem_of_getElem? (i := 12) rfl))) (by decide) (backOf (W := 0) (own_rmB l Z a0 hw [] (4 : Int32) (3 : Int32) h0 n0 Z0 rfl) hZ (hw _ (List.mem_of_getElem? (i := 12) rfl)) (hw _ (List.mem_of_getElem? (i := 3) rfl)) (by decide) (by decide)) (g := (mkF m 47 #[.val (.int p1), .val (.int p2), .val (.int p3), .val (.int p4), .val (.int (4 : Int32)), .val (.int v2), .val (.int (0 : Int32)), .val (.ref a_TWO_HAND_EDGED), .val (.ref e_n), .unset] [(.int (4 : Int32))])) rfl (by rw [hml]; rfl) (argsL := [(.int (4 : Int32))]) (rest := []) (lenOf own_pd__I_I rfl) rfl (by show 2 * 0 + _ ≤ _; exact Nat.le_of_eq rfl) (hb hby at_47) (fun _ _ => ⟨rfl, eq21, (by decide : 0 + 0 ≤ _), (by decide : 0 + 0 ≤ _)⟩)
      dsimp only [Pt.U, Pt.locs, Pt.cells, Pt.slots] at X22 l22 y22 z22 st22 hQ22
      subst l22 y22 z22
      obtain ⟨rfl, Nq22, eq22⟩ := hQ22
      have N22 := Fr.app N21 Nq22
      refine own_st st22 ?_
      show own_Go p.tables e below RR (T22.setTop (mkF m 50 #[.val (.int p1), .val (.int p2), .val (.int p3), .val (.int p4), .val (.int (4 : Int32)), .val (.int v2), .val (.int (0 : Int32)), .val (.ref a_TWO_HAND_EDGED), .val (.ref e_n), .unset] [(.int (3 : Int32))]))
      refine own_st (fun _ k => XS.istore X22.here hx rfl (hb hby at_50) rfl (l' := #[.val (.int p1), .val (.int p2), .val (.int p3), .val (.int p4), .val (.int (4 : Int32)), .val (.int v2), .val (.int (0 : Int32)), .val (.ref a_TWO_HAND_EDGED), .val (.ref e_n), .val (.int (3 : Int32))]) rfl (XS.iload X22.here hx rfl (hb hby at_52) rfl (XS.iconst X22.here hx rfl (hb hby at_54) k))) ?_
      show own_Go p.tables e below RR (T22.setTop (mkF m 55 #[.val (.int p1), .val (.int p2), .val (.int p3), .val (.int p4), .val (.int (4 : Int32)), .val (.int v2), .val (.int (0 : Int32)), .val (.ref a_TWO_HAND_EDGED), .val (.ref e_n), .val (.int (3 : Int32))] [(.int (5 : Int32)), (.int (4 : Int32))]))
      refine own_st (fun _ k => XS.icmpYes X22.here hx rfl (pc0 := 55) (pc' := 77) rfl (hb hby at_55) rfl (feq (by decide)).2 (by decide) (by decide) (XS.aload X22.here hx rfl (hb hby at_77) rfl rfl (XS.iloadN X22.here hx rfl (hb hby at_79) rfl (XS.aload X22.here hx rfl (hb hby at_80) rfl rfl (XS.iload X22.here hx rfl (hb hby at_82) rfl k))))) ?_
      show own_Go p.tables e below RR (T22.setTop (mkF m 84 #[.val (.int p1), .val (.int p2), .val (.int p3), .val (.int p4), .val (.int (4 : Int32)), .val (.int v2), .val (.int (0 : Int32)), .val (.ref a_TWO_HAND_EDGED), .val (.ref e_n), .val (.int (3 : Int32))] [(.int (0 : Int32)), (.ref e_n), (.int p3), (.ref a_TWO_HAND_EDGED)]))
      obtain ⟨cq23, kq23, q23a, q23b, q23c⟩ := isOf hZ eq22 E_TWO_HAND_EDGED
      obtain ⟨_, _, ⟨T23, L23, k23, n23⟩, -, X23, ⟨Lc23, hQ23, l23, y23, z23⟩, st23⟩ := X22.virtualBack hx (y := (⟨"com/example/powderhorn/powderhorn/rules/pigwars/MeleeWeapon", "bonus", "(ILcom/example/powderhorn/powderhorn/rules/pigwars/MeleeWeapon;Z)I"⟩ : MethodName)) (z := (⟨"com/example/powderhorn/powderhorn/rules/pigwars/MeleeWeapon", "bonus", "(ILcom/example/powderhorn/powderhorn/rules/pigwars/MeleeWeapon;Z)I"⟩ : MethodName)) hown (mvT hZ (hw _ (List.mem_of_getElem? (i := 13) rfl))) (mvT hZ (hw _ (List.mem_of_getElem? (i := 14) rfl))) (notFace_of_selects (args := #[]) (mvT hZ (hw _ (List.mem_of_getElem? (i := 16) rfl)))) (mvT hZ (hw _ (List.mem_of_getElem? (i := 16) rfl))) (mvT hZ (hw _ (List.mem_of_getElem? (i := 15) rfl))) (by decide) (backOf (W := 0) (own_rmN l Z a0 hw [] a_TWO_HAND_EDGED p3 e_n (0 : Int32) (3 : Int32) a_LANCE a_SPEAR (3 : Int32) h0 n0 Z0 S_LANCE S_SPEAR F_TWO_HAND_EDGED_bonus (if_neg fun q => (Fld.ne F_TWO_HAND_EDGED_ordinal F_LANCE_ordinal (by simp)) q.1)) hZ (hw _ (List.mem_of_getElem? (i := 17) rfl)) (hw _ (List.mem_of_getElem? (i := 6) rfl)) (by decide) (by decide)) q23a q23c (g := (mkF m 84 #[.val (.int p1), .val (.int p2), .val (.int p3), .val (.int p4), .val (.int (4 : Int32)), .val (.int v2), .val (.int (0 : Int32)), .val (.ref a_TWO_HAND_EDGED), .val (.ref e_n), .val (.int (3 : Int32))] [(.int (0 : Int32)), (.ref e_n), (.int p3), (.ref a_TWO_HAND_EDGED)])) rfl (by rw [hml]; rfl) (Steps.refl _) (argsL := [(.int p3), (.ref e_n), (.int (0 : Int32))]) (rest := []) (lenOf own_pd__ILcom_example_powderhorn_powderhorn_rules_pigwars_MeleeWeapon_Z_I rfl) rfl (by show 2 * 0 + _ ≤ _; exact Nat.le_of_eq rfl) (hb hby at_84) (fun _ _ => ⟨rfl, eq22, (by decide : 0 + 0 ≤ _), (by decide : 0 + 0 ≤ _)⟩)
      dsimp only [Pt.U, Pt.locs, Pt.cells, Pt.slots] at X23 l23 y23 z23 st23 hQ23
      subst l23 y23 z23
      obtain ⟨rfl, Nq23, eq23⟩ := hQ23
      have N23 := Fr.app N22 Nq23
      refine own_st (fun _ k => st23.trans k) ?_
      show own_Go p.tables e below RR (T23.setTop (mkF m 87 #[.val (.int p1), .val (.int p2), .val (.int p3), .val (.int p4), .val (.int (4 : Int32)), .val (.int v2), .val (.int (0 : Int32)), .val (.ref a_TWO_HAND_EDGED), .val (.ref e_n), .val (.int (3 : Int32))] [(.int (3 : Int32))]))
      refine own_st (fun _ k => XS.iload X23.here hx rfl (hb hby at_87) rfl k) ?_
      show own_Go p.tables e below RR (T23.setTop (mkF m 89 #[.val (.int p1), .val (.int p2), .val (.int p3), .val (.int p4), .val (.int (4 : Int32)), .val (.int v2), .val (.int (0 : Int32)), .val (.ref a_TWO_HAND_EDGED), .val (.ref e_n), .val (.int (3 : Int32))] [(.int (3 : Int32)), (.int (3 : Int32))]))
      refine own_st (fun _ k => XS.icmpNo X23.here hx rfl (hb hby at_89) rfl (teq (by decide)).2 (XS.iconst X23.here hx rfl (hb hby at_92) (XS.goto X23.here hx rfl (pc0 := 93) (pc' := 97) rfl (hb hby at_93) (by decide) (by decide) k))) ?_
      show own_Go p.tables e below RR (T23.setTop (mkF m 97 #[.val (.int p1), .val (.int p2), .val (.int p3), .val (.int p4), .val (.int (4 : Int32)), .val (.int v2), .val (.int (0 : Int32)), .val (.ref a_TWO_HAND_EDGED), .val (.ref e_n), .val (.int (3 : Int32))] [(.int (1 : Int32))]))
      obtain ⟨fs, hrt_, hrun, hended, hW, hsame⟩ := X23.leave (v := some (.int (1 : Int32))) (fun h => by rw [Bd.returns] at h; cases h)
      refine own_fin (retN X23 hx (t := .boolean) Bd.returns (by simp) (hb hby at_97) hrt_) (hRR _ ⟨_, hrun, hended, _, _, rfl, ?_, ⟨_, rfl⟩, hW, hsame.mono (by decide) (by decide)⟩)
      show own_Q0 Z p1 p2 p3 p4 a_IMPROVISED a_ONE_HAND_EDGED a_LANCE a_SPEAR a_TWO_HAND_EDGED a_CLUB h0 n0 _ T23.heap _
      rw [eq23]
      exact ⟨rfl, N23⟩
    · show own_Go p.tables e below RR (s₁.setTop (mkF m 31 #[.val (.int p1), .val (.int p2), .val (.int p3), .val (.int p4), .val (.int (5 : Int32)), .val (.int v2), .val (.int (0 : Int32)), .unset, .unset, .unset] []))
      show own_Go p.tables e below RR (s₁.setTop (mkF m 31 #[.val (.int p1), .val (.int p2), .val (.int p3), .val (.int p4), .val (.int (5 : Int32)), .val (.int v2), .val (.int (0 : Int32)), .unset, .unset, .unset] []))
      refine own_st (fun _ k => XS.iload X0.here hx rfl (hb hby at_31) rfl k) ?_
      show own_Go p.tables e below RR (s₁.setTop (mkF m 33 #[.val (.int p1), .val (.int p2), .val (.int p3), .val (.int p4), .val (.int (5 : Int32)), .val (.int v2), .val (.int (0 : Int32)), .unset, .unset, .unset] [(.int (5 : Int32))]))
      obtain ⟨_, _, ⟨T24, L24, k24, n24⟩, -, X24, ⟨Lc24, hQ24, l24, y24, z24⟩, st24⟩ := Jvm.LawKit.callS X0 hx (y := (⟨"com/example/powderhorn/powderhorn/rules/pigwars/MeleeWeaponBonusPinLaw", "pick", "(I)Lcom/example/powderhorn/powderhorn/rules/pigwars/MeleeWeapon;"⟩ : MethodName)) hown (mvT hZ (hw _ (List.mem_of_getElem? (i := 1) rfl))) (mvT hZ (hw _ (List.mem_of_getElem? (i := 2) rfl))) (mvT hZ (hw _ (List.mem_of_getElem? (i := 3) rfl))) (mvT hZ (hw _ (List.mem_of_getElem? (i := 4) rfl))) (by decide) (backOf (W := 0) (own_rmP l Z a0 hw [] (5 : Int32) a_IMPROVISED a_ONE_HAND_EDGED a_LANCE a_SPEAR a_TWO_HAND_EDGED a_CLUB a_LANCE h0 n0 Z0 S_IMPROVISED S_ONE_HAND_EDGED S_LANCE S_SPEAR S_TWO_HAND_EDGED S_CLUB rfl) hZ (hw _ (List.mem_of_getElem? (i := 4) rfl)) (hw _ (List.mem_of_getElem? (i := 3) rfl)) (by decide) (by decide)) (g := (mkF m 33 #[.val (.int p1), .val (.int p2), .val (.int p3), .val (.int p4), .val (.int (5 : Int32)), .val (.int v2), .val (.int (0 : Int32)), .unset, .unset, .unset] [(.int (5 : Int32))])) rfl (by rw [hml]; rfl) (argsL := [(.int (5 : Int32))]) (rest := []) (lenOf own_pd__I_Lcom_example_powderhorn_powderhorn_rules_pigwars_MeleeWeapon_ rfl) rfl (by show 2 * 0 + _ ≤ _; exact Nat.le_of_eq rfl) (hb hby at_33) (fun _ _ => ⟨rfl, e0, (by decide : 0 + 0 ≤ _), (by decide : 0 + 0 ≤ _)⟩)
      dsimp only [Pt.U, Pt.locs, Pt.cells, Pt.slots] at X24 l24 y24 z24 st24 hQ24
      subst l24 y24 z24
      obtain ⟨rfl, Nq24, eq24⟩ := hQ24
      have N24 := Fr.app N0 Nq24
      refine own_st st24 ?_
      show own_Go p.tables e below RR (T24.setTop (mkF m 36 #[.val (.int p1), .val (.int p2), .val (.int p3), .val (.int p4), .val (.int (5 : Int32)), .val (.int v2), .val (.int (0 : Int32)), .unset, .unset, .unset] [(.ref a_LANCE)]))
      refine own_st (fun _ k => XS.astore X24.here hx rfl (hb hby at_36) rfl rfl (l' := #[.val (.int p1), .val (.int p2), .val (.int p3), .val (.int p4), .val (.int (5 : Int32)), .val (.int v2), .val (.int (0 : Int32)), .val (.ref a_LANCE), .unset, .unset]) rfl (XS.iload X24.here hx rfl (hb hby at_38) rfl k)) ?_
      show own_Go p.tables e below RR (T24.setTop (mkF m 40 #[.val (.int p1), .val (.int p2), .val (.int p3), .val (.int p4), .val (.int (5 : Int32)), .val (.int v2), .val (.int (0 : Int32)), .val (.ref a_LANCE), .unset, .unset] [(.int v2)]))
      obtain ⟨e_n, he_n⟩ : ∃ z, own_pick v2 a_IMPROVISED a_SPEAR a_CLUB a_ONE_HAND_EDGED a_TWO_HAND_EDGED a_LANCE = z := ⟨_, rfl⟩
      obtain ⟨_, _, ⟨T25, L25, k25, n25⟩, -, X25, ⟨Lc25, hQ25, l25, y25, z25⟩, st25⟩ := Jvm.LawKit.callS X24 hx (y := (⟨"com/example/powderhorn/powderhorn/rules/pigwars/MeleeWeaponBonusPinLaw", "pick", "(I)Lcom/example/powderhorn/powderhorn/rules/pigwars/MeleeWeapon;"⟩ : MethodName)) hown (mvT hZ (hw _ (List.mem_of_getElem? (i := 1) rfl))) (mvT hZ (hw _ (List.mem_of_getElem? (i := 2) rfl))) (mvT hZ (hw _ (List.mem_of_getElem? (i := 3) rfl))) (mvT hZ (hw _ (List.mem_of_getElem? (i := 4) rfl))) (by decide) (backOf (W := 0) (own_rmP l Z a0 hw [] v2 a_IMPROVISED a_ONE_HAND_EDGED a_LANCE a_SPEAR a_TWO_HAND_EDGED a_CLUB e_n h0 n0 Z0 S_IMPROVISED S_ONE_HAND_EDGED S_LANCE S_SPEAR S_TWO_HAND_EDGED S_CLUB he_n) hZ (hw _ (List.mem_of_getElem? (i := 4) rfl)) (hw _ (List.mem_of_getElem? (i := 3) rfl)) (by decide) (by decide)) (g := (mkF m 40 #[.val (.int p1), .val (.int p2), .val (.int p3), .val (.int p4), .val (.int (5 : Int32)), .val (.int v2), .val (.int (0 : Int32)), .val (.ref a_LANCE), .unset, .unset] [(.int v2)])) rfl (by rw [hml]; rfl) (argsL := [(.int v2)]) (rest := []) (lenOf own_pd__I_Lcom_example_powderhorn_powderhorn_rules_pigwars_MeleeWeapon_ rfl) rfl (by show 2 * 0 + _ ≤ _; exact Nat.le_of_eq rfl) (hb hby at_40) (fun _ _ => ⟨rfl, eq24, (by decide : 0 + 0 ≤ _), (by decide : 0 + 0 ≤ _)⟩)
      dsimp only [Pt.U, Pt.locs, Pt.cells, Pt.slots] at X25 l25 y25 z25 st25 hQ25
      subst l25 y25 z25
      obtain ⟨rfl, Nq25, eq25⟩ := hQ25
      have N25 := Fr.app N24 Nq25
      refine own_st st25 ?_
      show own_Go p.tables e below RR (T25.setTop (mkF m 43 #[.val (.int p1), .val (.int p2), .val (.int p3), .val (.int p4), .val (.int (5 : Int32)), .val (.int v2), .val (.int (0 : Int32)), .val (.ref a_LANCE), .unset, .unset] [(.ref e_n)]))
      refine own_st (fun _ k => XS.astore X25.here hx rfl (hb hby at_43) rfl rfl (l' := #[.val (.int p1), .val (.int p2), .val (.int p3), .val (.int p4), .val (.int (5 : Int32)), .val (.int v2), .val (.int (0 : Int32)), .val (.ref a_LANCE), .val (.ref e_n), .unset]) rfl (XS.iload X25.here hx rfl (hb hby at_45) rfl k)) ?_
      show own_Go p.tables e below RR (T25.setTop (mkF m 47 #[.val (.int p1), .val (.int p2), .val (.int p3), .val (.int p4), .val (.int (5 : Int32)), .val (.int v2), .val (.int (0 : Int32)), .val (.ref a_LANCE), .val (.ref e_n), .unset] [(.int (5 : Int32))]))
      obtain ⟨_, _, ⟨T26, L26, k26, n26⟩, -, X26, ⟨Lc26, hQ26, l26, y26, z26⟩, st26⟩ := Jvm.LawKit.callS X25 hx (y := (⟨"com/example/powderhorn/powderhorn/rules/pigwars/MeleeWeaponBonusPinLaw", "base", "(I)I"⟩ : MethodName)) hown (mvT hZ (hw _ (List.mem_of_getElem? (i := 10) rfl))) (mvT hZ (hw _ (List.mem_of_getElem? (i := 11) rfl))) (mvT hZ (hw _ (List.mem_of_getElem? (i := 3) rfl))) (mvT hZ (hw _ (List.mem_of_getElem? (i := 12) rfl))) (by decide) (backOf (W := 0) (own_rmB l Z a0 hw [] (5 : Int32) (1 : Int32) h0 n0 Z0 rfl) hZ (hw _ (List.mem_of_getElem? (i := 12) rfl)) (hw _ (List.mem_of_getElem? (i := 3) rfl)) (by decide) (by decide)) (g := (mkF m 47 #[.val (.int p1), .val (.int p2), .val (.int p3), .val (.int p4), .val (.int (5 : Int32)), .val (.int v2), .val (.int (0 : Int32)), .val (.ref a_LANCE), .val (.ref e_n), .unset] [(.int (5 : Int32))])) rfl (by rw [hml]; rfl) (argsL := [(.int (5 : Int32))]) (rest := []) (lenOf own_pd__I_I rfl) rfl (by show 2 * 0 + _ ≤ _; exact Nat.le_of_eq rfl) (hb hby at_47) (fun _ _ => ⟨rfl, eq25, (by decide : 0 + 0 ≤ _), (by decide : 0 + 0 ≤ _)⟩)
      dsimp only [Pt.U, Pt.locs, Pt.cells, Pt.slots] at X26 l26 y26 z26 st26 hQ26
      subst l26 y26 z26
      obtain ⟨rfl, Nq26, eq26⟩ := hQ26
      have N26 := Fr.app N25 Nq26
      refine own_st st26 ?_
      show own_Go p.tables e below RR (T26.setTop (mkF m 50 #[.val (.int p1), .val (.int p2), .val (.int p3), .val (.int p4), .val (.int (5 : Int32)), .val (.int v2), .val (.int (0 : Int32)), .val (.ref a_LANCE), .val (.ref e_n), .unset] [(.int (1 : Int32))]))
      refine own_st (fun _ k => XS.istore X26.here hx rfl (hb hby at_50) rfl (l' := #[.val (.int p1), .val (.int p2), .val (.int p3), .val (.int p4), .val (.int (5 : Int32)), .val (.int v2), .val (.int (0 : Int32)), .val (.ref a_LANCE), .val (.ref e_n), .val (.int (1 : Int32))]) rfl (XS.iload X26.here hx rfl (hb hby at_52) rfl (XS.iconst X26.here hx rfl (hb hby at_54) k))) ?_
      show own_Go p.tables e below RR (T26.setTop (mkF m 55 #[.val (.int p1), .val (.int p2), .val (.int p3), .val (.int p4), .val (.int (5 : Int32)), .val (.int v2), .val (.int (0 : Int32)), .val (.ref a_LANCE), .val (.ref e_n), .val (.int (1 : Int32))] [(.int (5 : Int32)), (.int (5 : Int32))]))
      refine own_st (fun _ k => XS.icmpNo X26.here hx rfl (hb hby at_55) rfl (teq (by decide)).2 (XS.iloadN X26.here hx rfl (hb hby at_58) rfl (XS.iconst X26.here hx rfl (hb hby at_59) k))) ?_
      show own_Go p.tables e below RR (T26.setTop (mkF m 60 #[.val (.int p1), .val (.int p2), .val (.int p3), .val (.int p4), .val (.int (5 : Int32)), .val (.int v2), .val (.int (0 : Int32)), .val (.ref a_LANCE), .val (.ref e_n), .val (.int (1 : Int32))] [(.int (1 : Int32)), (.int p3)]))
      by_cases hc60_27 : p3 = (1 : Int32)
      · refine own_st (fun _ k => XS.icmpNo X26.here hx rfl (hb hby at_60) rfl (teq hc60_27).2 (XS.iload X26.here hx rfl (hb hby at_63) rfl (XS.iconst X26.here hx rfl (hb hby at_65) k))) ?_
        show own_Go p.tables e below RR (T26.setTop (mkF m 66 #[.val (.int p1), .val (.int p2), .val (.int p3), .val (.int p4), .val (.int (5 : Int32)), .val (.int v2), .val (.int (0 : Int32)), .val (.ref a_LANCE), .val (.ref e_n), .val (.int (1 : Int32))] [(.int (1 : Int32)), (.int v2)]))
        by_cases hc66_28 : v2 = (1 : Int32)
        · refine own_st (fun _ k => XS.icmpYes X26.here hx rfl (pc0 := 66) (pc' := 77) rfl (hb hby at_66) rfl (teq hc66_28).1 (by decide) (by decide) (XS.aload X26.here hx rfl (hb hby at_77) rfl rfl (XS.iloadN X26.here hx rfl (hb hby at_79) rfl (XS.aload X26.here hx rfl (hb hby at_80) rfl rfl (XS.iload X26.here hx rfl (hb hby at_82) rfl k))))) ?_
          show own_Go p.tables e below RR (T26.setTop (mkF m 84 #[.val (.int p1), .val (.int p2), .val (.int p3), .val (.int p4), .val (.int (5 : Int32)), .val (.int v2), .val (.int (0 : Int32)), .val (.ref a_LANCE), .val (.ref e_n), .val (.int (1 : Int32))] [(.int (0 : Int32)), (.ref e_n), (.int p3), (.ref a_LANCE)]))
          obtain ⟨cq29, kq29, q29a, q29b, q29c⟩ := isOf hZ eq26 E_LANCE
          obtain ⟨_, _, ⟨T29, L29, k29, n29⟩, -, X29, ⟨Lc29, hQ29, l29, y29, z29⟩, st29⟩ := X26.virtualBack hx (y := (⟨"com/example/powderhorn/powderhorn/rules/pigwars/MeleeWeapon", "bonus", "(ILcom/example/powderhorn/powderhorn/rules/pigwars/MeleeWeapon;Z)I"⟩ : MethodName)) (z := (⟨"com/example/powderhorn/powderhorn/rules/pigwars/MeleeWeapon", "bonus", "(ILcom/example/powderhorn/powderhorn/rules/pigwars/MeleeWeapon;Z)I"⟩ : MethodName)) hown (mvT hZ (hw _ (List.mem_of_getElem? (i := 13) rfl))) (mvT hZ (hw _ (List.mem_of_getElem? (i := 14) rfl))) (notFace_of_selects (args := #[]) (mvT hZ (hw _ (List.mem_of_getElem? (i := 16) rfl)))) (mvT hZ (hw _ (List.mem_of_getElem? (i := 16) rfl))) (mvT hZ (hw _ (List.mem_of_getElem? (i := 15) rfl))) (by decide) (backOf (W := 0) (own_rmN l Z a0 hw [] a_LANCE p3 e_n (0 : Int32) (1 : Int32) a_LANCE a_SPEAR (1 : Int32) h0 n0 Z0 S_LANCE S_SPEAR F_LANCE_bonus (if_neg fun q => q.2.2.1 (he_n.symm.trans (own_spear1 hc66_28)))) hZ (hw _ (List.mem_of_getElem? (i := 17) rfl)) (hw _ (List.mem_of_getElem? (i := 6) rfl)) (by decide) (by decide)) q29a q29c (g := (mkF m 84 #[.val (.int p1), .val (.int p2), .val (.int p3), .val (.int p4), .val (.int (5 : Int32)), .val (.int v2), .val (.int (0 : Int32)), .val (.ref a_LANCE), .val (.ref e_n), .val (.int (1 : Int32))] [(.int (0 : Int32)), (.ref e_n), (.int p3), (.ref a_LANCE)])) rfl (by rw [hml]; rfl) (Steps.refl _) (argsL := [(.int p3), (.ref e_n), (.int (0 : Int32))]) (rest := []) (lenOf own_pd__ILcom_example_powderhorn_powderhorn_rules_pigwars_MeleeWeapon_Z_I rfl) rfl (by show 2 * 0 + _ ≤ _; exact Nat.le_of_eq rfl) (hb hby at_84) (fun _ _ => ⟨rfl, eq26, (by decide : 0 + 0 ≤ _), (by decide : 0 + 0 ≤ _)⟩)
          dsimp only [Pt.U, Pt.locs, Pt.cells, Pt.slots] at X29 l29 y29 z29 st29 hQ29
          subst l29 y29 z29
          obtain ⟨rfl, Nq29, eq29⟩ := hQ29
          have N29 := Fr.app N26 Nq29
          refine own_st (fun _ k => st29.trans k) ?_
          show own_Go p.tables e below RR (T29.setTop (mkF m 87 #[.val (.int p1), .val (.int p2), .val (.int p3), .val (.int p4), .val (.int (5 : Int32)), .val (.int v2), .val (.int (0 : Int32)), .val (.ref a_LANCE), .val (.ref e_n), .val (.int (1 : Int32))] [(.int (1 : Int32))]))
          refine own_st (fun _ k => XS.iload X29.here hx rfl (hb hby at_87) rfl k) ?_
          show own_Go p.tables e below RR (T29.setTop (mkF m 89 #[.val (.int p1), .val (.int p2), .val (.int p3), .val (.int p4), .val (.int (5 : Int32)), .val (.int v2), .val (.int (0 : Int32)), .val (.ref a_LANCE), .val (.ref e_n), .val (.int (1 : Int32))] [(.int (1 : Int32)), (.int (1 : Int32))]))
          refine own_st (fun _ k => XS.icmpNo X29.here hx rfl (hb hby at_89) rfl (teq (by decide)).2 (XS.iconst X29.here hx rfl (hb hby at_92) (XS.goto X29.here hx rfl (pc0 := 93) (pc' := 97) rfl (hb hby at_93) (by decide) (by decide) k))) ?_
          show own_Go p.tables e below RR (T29.setTop (mkF m 97 #[.val (.int p1), .val (.int p2), .val (.int p3), .val (.int p4), .val (.int (5 : Int32)), .val (.int v2), .val (.int (0 : Int32)), .val (.ref a_LANCE), .val (.ref e_n), .val (.int (1 : Int32))] [(.int (1 : Int32))]))
          obtain ⟨fs, hrt_, hrun, hended, hW, hsame⟩ := X29.leave (v := some (.int (1 : Int32))) (fun h => by rw [Bd.returns] at h; cases h)
          refine own_fin (retN X29 hx (t := .boolean) Bd.returns (by simp) (hb hby at_97) hrt_) (hRR _ ⟨_, hrun, hended, _, _, rfl, ?_, ⟨_, rfl⟩, hW, hsame.mono (by decide) (by decide)⟩)
          show own_Q0 Z p1 p2 p3 p4 a_IMPROVISED a_ONE_HAND_EDGED a_LANCE a_SPEAR a_TWO_HAND_EDGED a_CLUB h0 n0 _ T29.heap _
          rw [eq29]
          exact ⟨rfl, N29⟩
        · refine own_st (fun _ k => XS.icmpNo X26.here hx rfl (hb hby at_66) rfl (feq hc66_28).1 (XS.iload X26.here hx rfl (hb hby at_69) rfl k)) ?_
          show own_Go p.tables e below RR (T26.setTop (mkF m 71 #[.val (.int p1), .val (.int p2), .val (.int p3), .val (.int p4), .val (.int (5 : Int32)), .val (.int v2), .val (.int (0 : Int32)), .val (.ref a_LANCE), .val (.ref e_n), .val (.int (1 : Int32))] [(.int (0 : Int32))]))
          refine own_st (fun _ k => XS.ifNo X26.here hx rfl (hb hby at_71) rfl ((if0 _ _).trans (teq (by decide)).2) (XS.iconst X26.here hx rfl (hb hby at_74) (XS.istore X26.here hx rfl (hb hby at_75) rfl (l' := #[.val (.int p1), .val (.int p2), .val (.int p3), .val (.int p4), .val (.int (5 : Int32)), .val (.int v2), .val (.int (0 : Int32)), .val (.ref a_LANCE), .val (.ref e_n), .val (.int (5 : Int32))]) rfl (XS.aload X26.here hx rfl (hb hby at_77) rfl rfl (XS.iloadN X26.here hx rfl (hb hby at_79) rfl (XS.aload X26.here hx rfl (hb hby at_80) rfl rfl (XS.iload X26.here hx rfl (hb hby at_82) rfl k))))))) ?_
          show own_Go p.tables e below RR (T26.setTop (mkF m 84 #[.val (.int p1), .val (.int p2), .val (.int p3), .val (.int p4), .val (.int (5 : Int32)), .val (.int v2), .val (.int (0 : Int32)), .val (.ref a_LANCE), .val (.ref e_n), .val (.int (5 : Int32))] [(.int (0 : Int32)), (.ref e_n), (.int p3), (.ref a_LANCE)]))
          obtain ⟨cq30, kq30, q30a, q30b, q30c⟩ := isOf hZ eq26 E_LANCE
          obtain ⟨_, _, ⟨T30, L30, k30, n30⟩, -, X30, ⟨Lc30, hQ30, l30, y30, z30⟩, st30⟩ := X26.virtualBack hx (y := (⟨"com/example/powderhorn/powderhorn/rules/pigwars/MeleeWeapon", "bonus", "(ILcom/example/powderhorn/powderhorn/rules/pigwars/MeleeWeapon;Z)I"⟩ : MethodName)) (z := (⟨"com/example/powderhorn/powderhorn/rules/pigwars/MeleeWeapon", "bonus", "(ILcom/example/powderhorn/powderhorn/rules/pigwars/MeleeWeapon;Z)I"⟩ : MethodName)) hown (mvT hZ (hw _ (List.mem_of_getElem? (i := 13) rfl))) (mvT hZ (hw _ (List.mem_of_getElem? (i := 14) rfl))) (notFace_of_selects (args := #[]) (mvT hZ (hw _ (List.mem_of_getElem? (i := 16) rfl)))) (mvT hZ (hw _ (List.mem_of_getElem? (i := 16) rfl))) (mvT hZ (hw _ (List.mem_of_getElem? (i := 15) rfl))) (by decide) (backOf (W := 0) (own_rmN l Z a0 hw [] a_LANCE p3 e_n (0 : Int32) (1 : Int32) a_LANCE a_SPEAR (5 : Int32) h0 n0 Z0 S_LANCE S_SPEAR F_LANCE_bonus (if_pos ⟨rfl, hc60_27, he_n ▸ own_spear (Fld.ne F_IMPROVISED_ordinal F_SPEAR_ordinal (by simp)) (Fld.ne F_CLUB_ordinal F_SPEAR_ordinal (by simp)) (Fld.ne F_ONE_HAND_EDGED_ordinal F_SPEAR_ordinal (by simp)) (Fld.ne F_TWO_HAND_EDGED_ordinal F_SPEAR_ordinal (by simp)) (Fld.ne F_LANCE_ordinal F_SPEAR_ordinal (by simp)) hc66_28, rfl⟩)) hZ (hw _ (List.mem_of_getElem? (i := 17) rfl)) (hw _ (List.mem_of_getElem? (i := 6) rfl)) (by decide) (by decide)) q30a q30c (g := (mkF m 84 #[.val (.int p1), .val (.int p2), .val (.int p3), .val (.int p4), .val (.int (5 : Int32)), .val (.int v2), .val (.int (0 : Int32)), .val (.ref a_LANCE), .val (.ref e_n), .val (.int (5 : Int32))] [(.int (0 : Int32)), (.ref e_n), (.int p3), (.ref a_LANCE)])) rfl (by rw [hml]; rfl) (Steps.refl _) (argsL := [(.int p3), (.ref e_n), (.int (0 : Int32))]) (rest := []) (lenOf own_pd__ILcom_example_powderhorn_powderhorn_rules_pigwars_MeleeWeapon_Z_I rfl) rfl (by show 2 * 0 + _ ≤ _; exact Nat.le_of_eq rfl) (hb hby at_84) (fun _ _ => ⟨rfl, eq26, (by decide : 0 + 0 ≤ _), (by decide : 0 + 0 ≤ _)⟩)
          dsimp only [Pt.U, Pt.locs, Pt.cells, Pt.slots] at X30 l30 y30 z30 st30 hQ30
          subst l30 y30 z30
          obtain ⟨rfl, Nq30, eq30⟩ := hQ30
          have N30 := Fr.app N26 Nq30
          refine own_st (fun _ k => st30.trans k) ?_
          show own_Go p.tables e below RR (T30.setTop (mkF m 87 #[.val (.int p1), .val (.int p2), .val (.int p3), .val (.int p4), .val (.int (5 : Int32)), .val (.int v2), .val (.int (0 : Int32)), .val (.ref a_LANCE), .val (.ref e_n), .val (.int (5 : Int32))] [(.int (5 : Int32))]))
          refine own_st (fun _ k => XS.iload X30.here hx rfl (hb hby at_87) rfl k) ?_
          show own_Go p.tables e below RR (T30.setTop (mkF m 89 #[.val (.int p1), .val (.int p2), .val (.int p3), .val (.int p4), .val (.int (5 : Int32)), .val (.int v2), .val (.int (0 : Int32)), .val (.ref a_LANCE), .val (.ref e_n), .val (.int (5 : Int32))] [(.int (5 : Int32)), (.int (5 : Int32))]))
          refine own_st (fun _ k => XS.icmpNo X30.here hx rfl (hb hby at_89) rfl (teq (by decide)).2 (XS.iconst X30.here hx rfl (hb hby at_92) (XS.goto X30.here hx rfl (pc0 := 93) (pc' := 97) rfl (hb hby at_93) (by decide) (by decide) k))) ?_
          show own_Go p.tables e below RR (T30.setTop (mkF m 97 #[.val (.int p1), .val (.int p2), .val (.int p3), .val (.int p4), .val (.int (5 : Int32)), .val (.int v2), .val (.int (0 : Int32)), .val (.ref a_LANCE), .val (.ref e_n), .val (.int (5 : Int32))] [(.int (1 : Int32))]))
          obtain ⟨fs, hrt_, hrun, hended, hW, hsame⟩ := X30.leave (v := some (.int (1 : Int32))) (fun h => by rw [Bd.returns] at h; cases h)
          refine own_fin (retN X30 hx (t := .boolean) Bd.returns (by simp) (hb hby at_97) hrt_) (hRR _ ⟨_, hrun, hended, _, _, rfl, ?_, ⟨_, rfl⟩, hW, hsame.mono (by decide) (by decide)⟩)
          show own_Q0 Z p1 p2 p3 p4 a_IMPROVISED a_ONE_HAND_EDGED a_LANCE a_SPEAR a_TWO_HAND_EDGED a_CLUB h0 n0 _ T30.heap _
          rw [eq30]
          exact ⟨rfl, N30⟩
      · refine own_st (fun _ k => XS.icmpYes X26.here hx rfl (pc0 := 60) (pc' := 77) rfl (hb hby at_60) rfl (feq hc60_27).2 (by decide) (by decide) (XS.aload X26.here hx rfl (hb hby at_77) rfl rfl (XS.iloadN X26.here hx rfl (hb hby at_79) rfl (XS.aload X26.here hx rfl (hb hby at_80) rfl rfl (XS.iload X26.here hx rfl (hb hby at_82) rfl k))))) ?_
        show own_Go p.tables e below RR (T26.setTop (mkF m 84 #[.val (.int p1), .val (.int p2), .val (.int p3), .val (.int p4), .val (.int (5 : Int32)), .val (.int v2), .val (.int (0 : Int32)), .val (.ref a_LANCE), .val (.ref e_n), .val (.int (1 : Int32))] [(.int (0 : Int32)), (.ref e_n), (.int p3), (.ref a_LANCE)]))
        obtain ⟨cq31, kq31, q31a, q31b, q31c⟩ := isOf hZ eq26 E_LANCE
        obtain ⟨_, _, ⟨T31, L31, k31, n31⟩, -, X31, ⟨Lc31, hQ31, l31, y31, z31⟩, st31⟩ := X26.virtualBack hx (y := (⟨"com/example/powderhorn/powderhorn/rules/pigwars/MeleeWeapon", "bonus", "(ILcom/example/powderhorn/powderhorn/rules/pigwars/MeleeWeapon;Z)I"⟩ : MethodName)) (z := (⟨"com/example/powderhorn/powderhorn/rules/pigwars/MeleeWeapon", "bonus", "(ILcom/example/powderhorn/powderhorn/rules/pigwars/MeleeWeapon;Z)I"⟩ : MethodName)) hown (mvT hZ (hw _ (List.mem_of_getElem? (i := 13) rfl))) (mvT hZ (hw _ (List.mem_of_getElem? (i := 14) rfl))) (notFace_of_selects (args := #[]) (mvT hZ (hw _ (List.mem_of_getElem? (i := 16) rfl)))) (mvT hZ (hw _ (List.mem_of_getElem? (i := 16) rfl))) (mvT hZ (hw _ (List.mem_of_getElem? (i := 15) rfl))) (by decide) (backOf (W := 0) (own_rmN l Z a0 hw [] a_LANCE p3 e_n (0 : Int32) (1 : Int32) a_LANCE a_SPEAR (1 : Int32) h0 n0 Z0 S_LANCE S_SPEAR F_LANCE_bonus (if_neg fun q => hc60_27 q.2.1)) hZ (hw _ (List.mem_of_getElem? (i := 17) rfl)) (hw _ (List.mem_of_getElem? (i := 6) rfl)) (by decide) (by decide)) q31a q31c (g := (mkF m 84 #[.val (.int p1), .val (.int p2), .val (.int p3), .val (.int p4), .val (.int (5 : Int32)), .val (.int v2), .val (.int (0 : Int32)), .val (.ref a_LANCE), .val (.ref e_n), .val (.int (1 : Int32))] [(.int (0 : Int32)), (.ref e_n), (.int p3), (.ref a_LANCE)])) rfl (by rw [hml]; rfl) (Steps.refl _) (argsL := [(.int p3), (.ref e_n), (.int (0 : Int32))]) (rest := []) (lenOf own_pd__ILcom_example_powderhorn_powderhorn_rules_pigwars_MeleeWeapon_Z_I rfl) rfl (by show 2 * 0 + _ ≤ _; exact Nat.le_of_eq rfl) (hb hby at_84) (fun _ _ => ⟨rfl, eq26, (by decide : 0 + 0 ≤ _), (by decide : 0 + 0 ≤ _)⟩)
        dsimp only [Pt.U, Pt.locs, Pt.cells, Pt.slots] at X31 l31 y31 z31 st31 hQ31
        subst l31 y31 z31
        obtain ⟨rfl, Nq31, eq31⟩ := hQ31
        have N31 := Fr.app N26 Nq31
        refine own_st (fun _ k => st31.trans k) ?_
        show own_Go p.tables e below RR (T31.setTop (mkF m 87 #[.val (.int p1), .val (.int p2), .val (.int p3), .val (.int p4), .val (.int (5 : Int32)), .val (.int v2), .val (.int (0 : Int32)), .val (.ref a_LANCE), .val (.ref e_n), .val (.int (1 : Int32))] [(.int (1 : Int32))]))
        refine own_st (fun _ k => XS.iload X31.here hx rfl (hb hby at_87) rfl k) ?_
        show own_Go p.tables e below RR (T31.setTop (mkF m 89 #[.val (.int p1), .val (.int p2), .val (.int p3), .val (.int p4), .val (.int (5 : Int32)), .val (.int v2), .val (.int (0 : Int32)), .val (.ref a_LANCE), .val (.ref e_n), .val (.int (1 : Int32))] [(.int (1 : Int32)), (.int (1 : Int32))]))
        refine own_st (fun _ k => XS.icmpNo X31.here hx rfl (hb hby at_89) rfl (teq (by decide)).2 (XS.iconst X31.here hx rfl (hb hby at_92) (XS.goto X31.here hx rfl (pc0 := 93) (pc' := 97) rfl (hb hby at_93) (by decide) (by decide) k))) ?_
        show own_Go p.tables e below RR (T31.setTop (mkF m 97 #[.val (.int p1), .val (.int p2), .val (.int p3), .val (.int p4), .val (.int (5 : Int32)), .val (.int v2), .val (.int (0 : Int32)), .val (.ref a_LANCE), .val (.ref e_n), .val (.int (1 : Int32))] [(.int (1 : Int32))]))
        obtain ⟨fs, hrt_, hrun, hended, hW, hsame⟩ := X31.leave (v := some (.int (1 : Int32))) (fun h => by rw [Bd.returns] at h; cases h)
        refine own_fin (retN X31 hx (t := .boolean) Bd.returns (by simp) (hb hby at_97) hrt_) (hRR _ ⟨_, hrun, hended, _, _, rfl, ?_, ⟨_, rfl⟩, hW, hsame.mono (by decide) (by decide)⟩)
        show own_Q0 Z p1 p2 p3 p4 a_IMPROVISED a_ONE_HAND_EDGED a_LANCE a_SPEAR a_TWO_HAND_EDGED a_CLUB h0 n0 _ T31.heap _
        rw [eq31]
        exact ⟨rfl, N31⟩
  · refine own_st (fun _ k => XS.ifNo X0.here hx rfl (hb hby at_21) rfl ((if0 _ _).trans (feq hc21_3).1) (XS.iconst X0.here hx rfl (hb hby at_24) (XS.goto X0.here hx rfl (pc0 := 25) (pc' := 29) rfl (hb hby at_25) (by decide) (by decide) (XS.istore X0.here hx rfl (hb hby at_29) rfl (l' := #[.val (.int p1), .val (.int p2), .val (.int p3), .val (.int p4), .val (.int v1), .val (.int v2), .val (.int (1 : Int32)), .unset, .unset, .unset]) rfl k)))) ?_
    show own_Go p.tables e below RR (s₁.setTop (mkF m 31 #[.val (.int p1), .val (.int p2), .val (.int p3), .val (.int p4), .val (.int v1), .val (.int v2), .val (.int (1 : Int32)), .unset, .unset, .unset] []))
    show own_Go p.tables e below RR (s₁.setTop (mkF m 31 #[.val (.int p1), .val (.int p2), .val (.int p3), .val (.int p4), .val (.int v1), .val (.int v2), .val (.int (1 : Int32)), .unset, .unset, .unset] []))
    show own_Go p.tables e below RR (s₁.setTop (mkF m 31 #[.val (.int p1), .val (.int p2), .val (.int p3), .val (.int p4), .val (.int v1), .val (.int v2), .val (.int (1 : Int32)), .unset, .unset, .unset] []))
    rcases own_six gv1 with rfl | rfl | rfl | rfl | rfl | rfl
    · show own_Go p.tables e below RR (s₁.setTop (mkF m 31 #[.val (.int p1), .val (.int p2), .val (.int p3), .val (.int p4), .val (.int (0 : Int32)), .val (.int v2), .val (.int (1 : Int32)), .unset, .unset, .unset] []))
      show own_Go p.tables e below RR (s₁.setTop (mkF m 31 #[.val (.int p1), .val (.int p2), .val (.int p3), .val (.int p4), .val (.int (0 : Int32)), .val (.int v2), .val (.int (1 : Int32)), .unset, .unset, .unset] []))
      refine own_st (fun _ k => XS.iload X0.here hx rfl (hb hby at_31) rfl k) ?_
      show own_Go p.tables e below RR (s₁.setTop (mkF m 33 #[.val (.int p1), .val (.int p2), .val (.int p3), .val (.int p4), .val (.int (0 : Int32)), .val (.int v2), .val (.int (1 : Int32)), .unset, .unset, .unset] [(.int (0 : Int32))]))
      obtain ⟨_, _, ⟨T32, L32, k32, n32⟩, -, X32, ⟨Lc32, hQ32, l32, y32, z32⟩, st32⟩ := Jvm.LawKit.callS X0 hx (y := (⟨"com/example/powderhorn/powderhorn/rules/pigwars/MeleeWeaponBonusPinLaw", "pick", "(I)Lcom/example/powderhorn/powderhorn/rules/pigwars/MeleeWeapon;"⟩ : MethodName)) hown (mvT hZ (hw _ (List.mem_of_getElem? (i := 1) rfl))) (mvT hZ (hw _ (List.mem_of_getElem? (i := 2) rfl))) (mvT hZ (hw _ (List.mem_of_getElem? (i := 3) rfl))) (mvT hZ (hw _ (List.mem_of_getElem? (i := 4) rfl))) (by decide) (backOf (W := 0) (own_rmP l Z a0 hw [] (0 : Int32) a_IMPROVISED a_ONE_HAND_EDGED a_LANCE a_SPEAR a_TWO_HAND_EDGED a_CLUB a_IMPROVISED h0 n0 Z0 S_IMPROVISED S_ONE_HAND_EDGED S_LANCE S_SPEAR S_TWO_HAND_EDGED S_CLUB rfl) hZ (hw _ (List.mem_of_getElem? (i := 4) rfl)) (hw _ (List.mem_of_getElem? (i := 3) rfl)) (by decide) (by decide)) (g := (mkF m 33 #[.val (.int p1), .val (.int p2), .val (.int p3), .val (.int p4), .val (.int (0 : Int32)), .val (.int v2), .val (.int (1 : Int32)), .unset, .unset, .unset] [(.int (0 : Int32))])) rfl (by rw [hml]; rfl) (argsL := [(.int (0 : Int32))]) (rest := []) (lenOf own_pd__I_Lcom_example_powderhorn_powderhorn_rules_pigwars_MeleeWeapon_ rfl) rfl (by show 2 * 0 + _ ≤ _; exact Nat.le_of_eq rfl) (hb hby at_33) (fun _ _ => ⟨rfl, e0, (by decide : 0 + 0 ≤ _), (by decide : 0 + 0 ≤ _)⟩)
      dsimp only [Pt.U, Pt.locs, Pt.cells, Pt.slots] at X32 l32 y32 z32 st32 hQ32
      subst l32 y32 z32
      obtain ⟨rfl, Nq32, eq32⟩ := hQ32
      have N32 := Fr.app N0 Nq32
      refine own_st st32 ?_
      show own_Go p.tables e below RR (T32.setTop (mkF m 36 #[.val (.int p1), .val (.int p2), .val (.int p3), .val (.int p4), .val (.int (0 : Int32)), .val (.int v2), .val (.int (1 : Int32)), .unset, .unset, .unset] [(.ref a_IMPROVISED)]))
      refine own_st (fun _ k => XS.astore X32.here hx rfl (hb hby at_36) rfl rfl (l' := #[.val (.int p1), .val (.int p2), .val (.int p3), .val (.int p4), .val (.int (0 : Int32)), .val (.int v2), .val (.int (1 : Int32)), .val (.ref a_IMPROVISED), .unset, .unset]) rfl (XS.iload X32.here hx rfl (hb hby at_38) rfl k)) ?_
      show own_Go p.tables e below RR (T32.setTop (mkF m 40 #[.val (.int p1), .val (.int p2), .val (.int p3), .val (.int p4), .val (.int (0 : Int32)), .val (.int v2), .val (.int (1 : Int32)), .val (.ref a_IMPROVISED), .unset, .unset] [(.int v2)]))
      obtain ⟨e_n, he_n⟩ : ∃ z, own_pick v2 a_IMPROVISED a_SPEAR a_CLUB a_ONE_HAND_EDGED a_TWO_HAND_EDGED a_LANCE = z := ⟨_, rfl⟩
      obtain ⟨_, _, ⟨T33, L33, k33, n33⟩, -, X33, ⟨Lc33, hQ33, l33, y33, z33⟩, st33⟩ := Jvm.LawKit.callS X32 hx (y := (⟨"com/example/powderhorn/powderhorn/rules/pigwars/MeleeWeaponBonusPinLaw", "pick", "(I)Lcom/example/powderhorn/powderhorn/rules/pigwars/MeleeWeapon;"⟩ : MethodName)) hown (mvT hZ (hw _ (List.mem_of_getElem? (i := 1) rfl))) (mvT hZ (hw _ (List.mem_of_getElem? (i := 2) rfl))) (mvT hZ (hw _ (List.mem_of_getElem? (i := 3) rfl))) (mvT hZ (hw _ (List.mem_of_getElem? (i := 4) rfl))) (by decide) (backOf (W := 0) (own_rmP l Z a0 hw [] v2 a_IMPROVISED a_ONE_HAND_EDGED a_LANCE a_SPEAR a_TWO_HAND_EDGED a_CLUB e_n h0 n0 Z0 S_IMPROVISED S_ONE_HAND_EDGED S_LANCE S_SPEAR S_TWO_HAND_EDGED S_CLUB he_n) hZ (hw _ (List.mem_of_getElem? (i := 4) rfl)) (hw _ (List.mem_of_getElem? (i := 3) rfl)) (by decide) (by decide)) (g := (mkF m 40 #[.val (.int p1), .val (.int p2), .val (.int p3), .val (.int p4), .val (.int (0 : Int32)), .val (.int v2), .val (.int (1 : Int32)), .val (.ref a_IMPROVISED), .unset, .unset] [(.int v2)])) rfl (by rw [hml]; rfl) (argsL := [(.int v2)]) (rest := []) (lenOf own_pd__I_Lcom_example_powderhorn_powderhorn_rules_pigwars_MeleeWeapon_ rfl) rfl (by show 2 * 0 + _ ≤ _; exact Nat.le_of_eq rfl) (hb hby at_40) (fun _ _ => ⟨rfl, eq32, (by decide : 0 + 0 ≤ _), (by decide : 0 + 0 ≤ _)⟩)
      dsimp only [Pt.U, Pt.locs, Pt.cells, Pt.slots] at X33 l33 y33 z33 st33 hQ33
      subst l33 y33 z33
      obtain ⟨rfl, Nq33, eq33⟩ := hQ33
      have N33 := Fr.app N32 Nq33
      refine own_st st33 ?_
      show own_Go p.tables e below RR (T33.setTop (mkF m 43 #[.val (.int p1), .val (.int p2), .val (.int p3), .val (.int p4), .val (.int (0 : Int32)), .val (.int v2), .val (.int (1 : Int32)), .val (.ref a_IMPROVISED), .unset, .unset] [(.ref e_n)]))
      refine own_st (fun _ k => XS.astore X33.here hx rfl (hb hby at_43) rfl rfl (l' := #[.val (.int p1), .val (.int p2), .val (.int p3), .val (.int p4), .val (.int (0 : Int32)), .val (.int v2), .val (.int (1 : Int32)), .val (.ref a_IMPROVISED), .val (.ref e_n), .unset]) rfl (XS.iload X33.here hx rfl (hb hby at_45) rfl k)) ?_
      show own_Go p.tables e below RR (T33.setTop (mkF m 47 #[.val (.int p1), .val (.int p2), .val (.int p3), .val (.int p4), .val (.int (0 : Int32)), .val (.int v2), .val (.int (1 : Int32)), .val (.ref a_IMPROVISED), .val (.ref e_n), .unset] [(.int (0 : Int32))]))
      obtain ⟨_, _, ⟨T34, L34, k34, n34⟩, -, X34, ⟨Lc34, hQ34, l34, y34, z34⟩, st34⟩ := Jvm.LawKit.callS X33 hx (y := (⟨"com/example/powderhorn/powderhorn/rules/pigwars/MeleeWeaponBonusPinLaw", "base", "(I)I"⟩ : MethodName)) hown (mvT hZ (hw _ (List.mem_of_getElem? (i := 10) rfl))) (mvT hZ (hw _ (List.mem_of_getElem? (i := 11) rfl))) (mvT hZ (hw _ (List.mem_of_getElem? (i := 3) rfl))) (mvT hZ (hw _ (List.mem_of_getElem? (i := 12) rfl))) (by decide) (backOf (W := 0) (own_rmB l Z a0 hw [] (0 : Int32) (0 : Int32) h0 n0 Z0 rfl) hZ (hw _ (List.mem_of_getElem? (i := 12) rfl)) (hw _ (List.mem_of_getElem? (i := 3) rfl)) (by decide) (by decide)) (g := (mkF m 47 #[.val (.int p1), .val (.int p2), .val (.int p3), .val (.int p4), .val (.int (0 : Int32)), .val (.int v2), .val (.int (1 : Int32)), .val (.ref a_IMPROVISED), .val (.ref e_n), .unset] [(.int (0 : Int32))])) rfl (by rw [hml]; rfl) (argsL := [(.int (0 : Int32))]) (rest := []) (lenOf own_pd__I_I rfl) rfl (by show 2 * 0 + _ ≤ _; exact Nat.le_of_eq rfl) (hb hby at_47) (fun _ _ => ⟨rfl, eq33, (by decide : 0 + 0 ≤ _), (by decide : 0 + 0 ≤ _)⟩)
      dsimp only [Pt.U, Pt.locs, Pt.cells, Pt.slots] at X34 l34 y34 z34 st34 hQ34
      subst l34 y34 z34
      obtain ⟨rfl, Nq34, eq34⟩ := hQ34
      have N34 := Fr.app N33 Nq34
      refine own_st st34 ?_
      show own_Go p.tables e below RR (T34.setTop (mkF m 50 #[.val (.int p1), .val (.int p2), .val (.int p3), .val (.int p4), .val (.int (0 : Int32)), .val (.int v2), .val (.int (1 : Int32)), .val (.ref a_IMPROVISED), .val (.ref e_n), .unset] [(.int (0 : Int32))]))
      refine own_st (fun _ k => XS.istore X34.here hx rfl (hb hby at_50) rfl (l' := #[.val (.int p1), .val (.int p2), .val (.int p3), .val (.int p4), .val (.int (0 : Int32)), .val (.int v2), .val (.int (1 : Int32)), .val (.ref a_IMPROVISED), .val (.ref e_n), .val (.int (0 : Int32))]) rfl (XS.iload X34.here hx rfl (hb hby at_52) rfl (XS.iconst X34.here hx rfl (hb hby at_54) k))) ?_
      show own_Go p.tables e below RR (T34.setTop (mkF m 55 #[.val (.int p1), .val (.int p2), .val (.int p3), .val (.int p4), .val (.int (0 : Int32)), .val (.int v2), .val (.int (1 : Int32)), .val (.ref a_IMPROVISED), .val (.ref e_n), .val (.int (0 : Int32))] [(.int (5 : Int32)), (.int (0 : Int32))]))
      refine own_st (fun _ k => XS.icmpYes X34.here hx rfl (pc0 := 55) (pc' := 77) rfl (hb hby at_55) rfl (feq (by decide)).2 (by decide) (by decide) (XS.aload X34.here hx rfl (hb hby at_77) rfl rfl (XS.iloadN X34.here hx rfl (hb hby at_79) rfl (XS.aload X34.here hx rfl (hb hby at_80) rfl rfl (XS.iload X34.here hx rfl (hb hby at_82) rfl k))))) ?_
      show own_Go p.tables e below RR (T34.setTop (mkF m 84 #[.val (.int p1), .val (.int p2), .val (.int p3), .val (.int p4), .val (.int (0 : Int32)), .val (.int v2), .val (.int (1 : Int32)), .val (.ref a_IMPROVISED), .val (.ref e_n), .val (.int (0 : Int32))] [(.int (1 : Int32)), (.ref e_n), (.int p3), (.ref a_IMPROVISED)]))
      obtain ⟨cq35, kq35, q35a, q35b, q35c⟩ := isOf hZ eq34 E_IMPROVISED
      obtain ⟨_, _, ⟨T35, L35, k35, n35⟩, -, X35, ⟨Lc35, hQ35, l35, y35, z35⟩, st35⟩ := X34.virtualBack hx (y := (⟨"com/example/powderhorn/powderhorn/rules/pigwars/MeleeWeapon", "bonus", "(ILcom/example/powderhorn/powderhorn/rules/pigwars/MeleeWeapon;Z)I"⟩ : MethodName)) (z := (⟨"com/example/powderhorn/powderhorn/rules/pigwars/MeleeWeapon", "bonus", "(ILcom/example/powderhorn/powderhorn/rules/pigwars/MeleeWeapon;Z)I"⟩ : MethodName)) hown (mvT hZ (hw _ (List.mem_of_getElem? (i := 13) rfl))) (mvT hZ (hw _ (List.mem_of_getElem? (i := 14) rfl))) (notFace_of_selects (args := #[]) (mvT hZ (hw _ (List.mem_of_getElem? (i := 16) rfl)))) (mvT hZ (hw _ (List.mem_of_getElem? (i := 16) rfl))) (mvT hZ (hw _ (List.mem_of_getElem? (i := 15) rfl))) (by decide) (backOf (W := 0) (own_rmN l Z a0 hw [] a_IMPROVISED p3 e_n (1 : Int32) (0 : Int32) a_LANCE a_SPEAR (0 : Int32) h0 n0 Z0 S_LANCE S_SPEAR F_IMPROVISED_bonus (if_neg fun q => (Fld.ne F_IMPROVISED_ordinal F_LANCE_ordinal (by simp)) q.1)) hZ (hw _ (List.mem_of_getElem? (i := 17) rfl)) (hw _ (List.mem_of_getElem? (i := 6) rfl)) (by decide) (by decide)) q35a q35c (g := (mkF m 84 #[.val (.int p1), .val (.int p2), .val (.int p3), .val (.int p4), .val (.int (0 : Int32)), .val (.int v2), .val (.int (1 : Int32)), .val (.ref a_IMPROVISED), .val (.ref e_n), .val (.int (0 : Int32))] [(.int (1 : Int32)), (.ref e_n), (.int p3), (.ref a_IMPROVISED)])) rfl (by rw [hml]; rfl) (Steps.refl _) (argsL := [(.int p3), (.ref e_n), (.int (1 : Int32))]) (rest := []) (lenOf own_pd__ILcom_example_powderhorn_powderhorn_rules_pigwars_MeleeWeapon_Z_I rfl) rfl (by show 2 * 0 + _ ≤ _; exact Nat.le_of_eq rfl) (hb hby at_84) (fun _ _ => ⟨rfl, eq34, (by decide : 0 + 0 ≤ _), (by decide : 0 + 0 ≤ _)⟩)
      dsimp only [Pt.U, Pt.locs, Pt.cells, Pt.slots] at X35 l35 y35 z35 st35 hQ35
      subst l35 y35 z35
      obtain ⟨rfl, Nq35, eq35⟩ := hQ35
      have N35 := Fr.app N34 Nq35
      refine own_st (fun _ k => st35.trans k) ?_
      show own_Go p.tables e below RR (T35.setTop (mkF m 87 #[.val (.int p1), .val (.int p2), .val (.int p3), .val (.int p4), .val (.int (0 : Int32)), .val (.int v2), .val (.int (1 : Int32)), .val (.ref a_IMPROVISED), .val (.ref e_n), .val (.int (0 : Int32))] [(.int (0 : Int32))]))
      refine own_st (fun _ k => XS.iload X35.here hx rfl (hb hby at_87) rfl k) ?_
      show own_Go p.tables e below RR (T35.setTop (mkF m 89 #[.val (.int p1), .val (.int p2), .val (.int p3), .val (.int p4), .val (.int (0 : Int32)), .val (.int v2), .val (.int (1 : Int32)), .val (.ref a_IMPROVISED), .val (.ref e_n), .val (.int (0 : Int32))] [(.int (0 : Int32)), (.int (0 : Int32))]))
      refine own_st (fun _ k => XS.icmpNo X35.here hx rfl (hb hby at_89) rfl (teq (by decide)).2 (XS.iconst X35.here hx rfl (hb hby at_92) (XS.goto X35.here hx rfl (pc0 := 93) (pc' := 97) rfl (hb hby at_93) (by decide) (by decide) k))) ?_
      show own_Go p.tables e below RR (T35.setTop (mkF m 97 #[.val (.int p1), .val (.int p2), .val (.int p3), .val (.int p4), .val (.int (0 : Int32)), .val (.int v2), .val (.int (1 : Int32)), .val (.ref a_IMPROVISED), .val (.ref e_n), .val (.int (0 : Int32))] [(.int (1 : Int32))]))
      obtain ⟨fs, hrt_, hrun, hended, hW, hsame⟩ := X35.leave (v := some (.int (1 : Int32))) (fun h => by rw [Bd.returns] at h; cases h)
      refine own_fin (retN X35 hx (t := .boolean) Bd.returns (by simp) (hb hby at_97) hrt_) (hRR _ ⟨_, hrun, hended, _, _, rfl, ?_, ⟨_, rfl⟩, hW, hsame.mono (by decide) (by decide)⟩)
      show own_Q0 Z p1 p2 p3 p4 a_IMPROVISED a_ONE_HAND_EDGED a_LANCE a_SPEAR a_TWO_HAND_EDGED a_CLUB h0 n0 _ T35.heap _
      rw [eq35]
      exact ⟨rfl, N35⟩
    · show own_Go p.tables e below RR (s₁.setTop (mkF m 31 #[.val (.int p1), .val (.int p2), .val (.int p3), .val (.int p4), .val (.int (1 : Int32)), .val (.int v2), .val (.int (1 : Int32)), .unset, .unset, .unset] []))
      show own_Go p.tables e below RR (s₁.setTop (mkF m 31 #[.val (.int p1), .val (.int p2), .val (.int p3), .val (.int p4), .val (.int (1 : Int32)), .val (.int v2), .val (.int (1 : Int32)), .unset, .unset, .unset] []))
      refine own_st (fun _ k => XS.iload X0.here hx rfl (hb hby at_31) rfl k) ?_
      show own_Go p.tables e below RR (s₁.setTop (mkF m 33 #[.val (.int p1), .val (.int p2), .val (.int p3), .val (.int p4), .val (.int (1 : Int32)), .val (.int v2), .val (.int (1 : Int32)), .unset, .unset, .unset] [(.int (1 : Int32))]))
      obtain ⟨_, _, ⟨T36, L36, k36, n36⟩, -, X36, ⟨Lc36, hQ36, l36, y36, z36⟩, st36⟩ := Jvm.LawKit.callS X0 hx (y := (⟨"com/example/powderhorn/powderhorn/rules/pigwars/MeleeWeaponBonusPinLaw", "pick", "(I)Lcom/example/powderhorn/powderhorn/rules/pigwars/MeleeWeapon;"⟩ : MethodName)) hown (mvT hZ (hw _ (List.mem_of_getElem? (i := 1) rfl))) (mvT hZ (hw _ (List.mem_of_getElem? (i := 2) rfl))) (mvT hZ (hw _ (List.mem_of_getElem? (i := 3) rfl))) (mvT hZ (hw _ (List.mem_of_getElem? (i := 4) rfl))) (by decide) (backOf (W := 0) (own_rmP l Z a0 hw [] (1 : Int32) a_IMPROVISED a_ONE_HAND_EDGED a_LANCE a_SPEAR a_TWO_HAND_EDGED a_CLUB a_SPEAR h0 n0 Z0 S_IMPROVISED S_ONE_HAND_EDGED S_LANCE S_SPEAR S_TWO_HAND_EDGED S_CLUB rfl) hZ (hw _ (List.mem_of_getElem? (i := 4) rfl)) (hw _ (List.mem_of_getElem? (i := 3) rfl)) (by decide) (by decide)) (g := (mkF m 33 #[.val (.int p1), .val (.int p2), .val (.int p3), .val (.int p4), .val (.int (1 : Int32)), .val (.int v2), .val (.int (1 : Int32)), .unset, .unset, .unset] [(.int (1 : Int32))])) rfl (by rw [hml]; rfl) (argsL := [(.int (1 : Int32))]) (rest := []) (lenOf own_pd__I_Lcom_example_powderhorn_powderhorn_rules_pigwars_MeleeWeapon_ rfl) rfl (by show 2 * 0 + _ ≤ _; exact Nat.le_of_eq rfl) (hb hby at_33) (fun _ _ => ⟨rfl, e0, (by decide : 0 + 0 ≤ _), (by decide : 0 + 0 ≤ _)⟩)
      dsimp only [Pt.U, Pt.locs, Pt.cells, Pt.slots] at X36 l36 y36 z36 st36 hQ36
      subst l36 y36 z36
      obtain ⟨rfl, Nq36, eq36⟩ := hQ36
      have N36 := Fr.app N0 Nq36
      refine own_st st36 ?_
      show own_Go p.tables e below RR (T36.setTop (mkF m 36 #[.val (.int p1), .val (.int p2), .val (.int p3), .val (.int p4), .val (.int (1 : Int32)), .val (.int v2), .val (.int (1 : Int32)), .unset, .unset, .unset] [(.ref a_SPEAR)]))
      refine own_st (fun _ k => XS.astore X36.here hx rfl (hb hby at_36) rfl rfl (l' := #[.val (.int p1), .val (.int p2), .val (.int p3), .val (.int p4), .val (.int (1 : Int32)), .val (.int v2), .val (.int (1 : Int32)), .val (.ref a_SPEAR), .unset, .unset]) rfl (XS.iload X36.here hx rfl (hb hby at_38) rfl k)) ?_
      show own_Go p.tables e below RR (T36.setTop (mkF m 40 #[.val (.int p1), .val (.int p2), .val (.int p3), .val (.int p4), .val (.int (1 : Int32)), .val (.int v2), .val (.int (1 : Int32)), .val (.ref a_SPEAR), .unset, .unset] [(.int v2)]))
      obtain ⟨e_n, he_n⟩ : ∃ z, own_pick v2 a_IMPROVISED a_SPEAR a_CLUB a_ONE_HAND_EDGED a_TWO_HAND_EDGED a_LANCE = z := ⟨_, rfl⟩
      obtain ⟨_, _, ⟨T37, L37, k37, n37⟩, -, X37, ⟨Lc37, hQ37, l37, y37, z37⟩, st37⟩ := Jvm.LawKit.callS X36 hx (y := (⟨"com/example/powderhorn/powderhorn/rules/pigwars/MeleeWeaponBonusPinLaw", "pick", "(I)Lcom/example/powderhorn/powderhorn/rules/pigwars/MeleeWeapon;"⟩ : MethodName)) hown (mvT hZ (hw _ (List.mem_of_getElem? (i := 1) rfl))) (mvT hZ (hw _ (List.mem_of_getElem? (i := 2) rfl))) (mvT hZ (hw _ (List.mem_of_getElem? (i := 3) rfl))) (mvT hZ (hw _ (List.mem_of_getElem? (i := 4) rfl))) (by decide) (backOf (W := 0) (own_rmP l Z a0 hw [] v2 a_IMPROVISED a_ONE_HAND_EDGED a_LANCE a_SPEAR a_TWO_HAND_EDGED a_CLUB e_n h0 n0 Z0 S_IMPROVISED S_ONE_HAND_EDGED S_LANCE S_SPEAR S_TWO_HAND_EDGED S_CLUB he_n) hZ (hw _ (List.mem_of_getElem? (i := 4) rfl)) (hw _ (List.mem_of_getElem? (i := 3) rfl)) (by decide) (by decide)) (g := (mkF m 40 #[.val (.int p1), .val (.int p2), .val (.int p3), .val (.int p4), .val (.int (1 : Int32)), .val (.int v2), .val (.int (1 : Int32)), .val (.ref a_SPEAR), .unset, .unset] [(.int v2)])) rfl (by rw [hml]; rfl) (argsL := [(.int v2)]) (rest := []) (lenOf own_pd__I_Lcom_example_powderhorn_powderhorn_rules_pigwars_MeleeWeapon_ rfl) rfl (by show 2 * 0 + _ ≤ _; exact Nat.le_of_eq rfl) (hb hby at_40) (fun _ _ => ⟨rfl, eq36, (by decide : 0 + 0 ≤ _), (by decide : 0 + 0 ≤ _)⟩)
      dsimp only [Pt.U, Pt.locs, Pt.cells, Pt.slots] at X37 l37 y37 z37 st37 hQ37
      subst l37 y37 z37
      obtain ⟨rfl, Nq37, eq37⟩ := hQ37
      have N37 := Fr.app N36 Nq37
      refine own_st st37 ?_
      show own_Go p.tables e below RR (T37.setTop (mkF m 43 #[.val (.int p1), .val (.int p2), .val (.int p3), .val (.int p4), .val (.int (1 : Int32)), .val (.int v2), .val (.int (1 : Int32)), .val (.ref a_SPEAR), .unset, .unset] [(.ref e_n)]))
      refine own_st (fun _ k => XS.astore X37.here hx rfl (hb hby at_43) rfl rfl (l' := #[.val (.int p1), .val (.int p2), .val (.int p3), .val (.int p4), .val (.int (1 : Int32)), .val (.int v2), .val (.int (1 : Int32)), .val (.ref a_SPEAR), .val (.ref e_n), .unset]) rfl (XS.iload X37.here hx rfl (hb hby at_45) rfl k)) ?_
      show own_Go p.tables e below RR (T37.setTop (mkF m 47 #[.val (.int p1), .val (.int p2), .val (.int p3), .val (.int p4), .val (.int (1 : Int32)), .val (.int v2), .val (.int (1 : Int32)), .val (.ref a_SPEAR), .val (.ref e_n), .unset] [(.int (1 : Int32))]))
      obtain ⟨_, _, ⟨T38, L38, k38, n38⟩, -, X38, ⟨Lc38, hQ38, l38, y38, z38⟩, st38⟩ := Jvm.LawKit.callS X37 hx (y := (⟨"com/example/powderhorn/powderhorn/rules/pigwars/MeleeWeaponBonusPinLaw", "base", "(I)I"⟩ : MethodName)) hown (mvT hZ (hw _ (List.mem_of_getElem? (i := 10) rfl))) (mvT hZ (hw _ (List.mem_of_getElem? (i := 11) rfl))) (mvT hZ (hw _ (List.mem_of_getElem? (i := 3) rfl))) (mvT hZ (hw _ (List.mem_of_getElem? (i := 12) rfl))) (by decide) (backOf (W := 0) (own_rmB l Z a0 hw [] (1 : Int32) (1 : Int32) h0 n0 Z0 rfl) hZ (hw _ (List.mem_of_getElem? (i := 12) rfl)) (hw _ (List.mem_of_getElem? (i := 3) rfl)) (by decide) (by decide)) (g := (mkF m 47 #[.val (.int p1), .val (.int p2), .val (.int p3), .val (.int p4), .val (.int (1 : Int32)), .val (.int v2), .val (.int (1 : Int32)), .val (.ref a_SPEAR), .val (.ref e_n), .unset] [(.int (1 : Int32))])) rfl (by rw [hml]; rfl) (argsL := [(.int (1 : Int32))]) (rest := []) (lenOf own_pd__I_I rfl) rfl (by show 2 * 0 + _ ≤ _; exact Nat.le_of_eq rfl) (hb hby at_47) (fun _ _ => ⟨rfl, eq37, (by decide : 0 + 0 ≤ _), (by decide : 0 + 0 ≤ _)⟩)
      dsimp only [Pt.U, Pt.locs, Pt.cells, Pt.slots] at X38 l38 y38 z38 st38 hQ38
      subst l38 y38 z38
      obtain ⟨rfl, Nq38, eq38⟩ := hQ38
      have N38 := Fr.app N37 Nq38
      refine own_st st38 ?_
      show own_Go p.tables e below RR (T38.setTop (mkF m 50 #[.val (.int p1), .val (.int p2), .val (.int p3), .val (.int p4), .val (.int (1 : Int32)), .val (.int v2), .val (.int (1 : Int32)), .val (.ref a_SPEAR), .val (.ref e_n), .unset] [(.int (1 : Int32))]))
      refine own_st (fun _ k => XS.istore X38.here hx rfl (hb hby at_50) rfl (l' := #[.val (.int p1), .val (.int p2), .val (.int p3), .val (.int p4), .val (.int (1 : Int32)), .val (.int v2), .val (.int (1 : Int32)), .val (.ref a_SPEAR), .val (.ref e_n), .val (.int (1 : Int32))]) rfl (XS.iload X38.here hx rfl (hb hby at_52) rfl (XS.iconst X38.here hx rfl (hb hby at_54) k))) ?_
      show own_Go p.tables e below RR (T38.setTop (mkF m 55 #[.val (.int p1), .val (.int p2), .val (.int p3), .val (.int p4), .val (.int (1 : Int32)), .val (.int v2), .val (.int (1 : Int32)), .val (.ref a_SPEAR), .val (.ref e_n), .val (.int (1 : Int32))] [(.int (5 : Int32)), (.int (1 : Int32))]))
      refine own_st (fun _ k => XS.icmpYes X38.here hx rfl (pc0 := 55) (pc' := 77) rfl (hb hby at_55) rfl (feq (by decide)).2 (by decide) (by decide) (XS.aload X38.here hx rfl (hb hby at_77) rfl rfl (XS.iloadN X38.here hx rfl (hb hby at_79) rfl (XS.aload X38.here hx rfl (hb hby at_80) rfl rfl (XS.iload X38.here hx rfl (hb hby at_82) rfl k))))) ?_
      show own_Go p.tables e below RR (T38.setTop (mkF m 84 #[.val (.int p1), .val (.int p2), .val (.int p3), .val (.int p4), .val (.int (1 : Int32)), .val (.int v2), .val (.int (1 : Int32)), .val (.ref a_SPEAR), .val (.ref e_n), .val (.int (1 : Int32))] [(.int (1 : Int32)), (.ref e_n), (.int p3), (.ref a_SPEAR)]))
      obtain ⟨cq39, kq39, q39a, q39b, q39c⟩ := isOf hZ eq38 E_SPEAR
      obtain ⟨_, _, ⟨T39, L39, k39, n39⟩, -, X39, ⟨Lc39, hQ39, l39, y39, z39⟩, st39⟩ := X38.virtualBack hx (y := (⟨"com/example/powderhorn/powderhorn/rules/pigwars/MeleeWeapon", "bonus", "(ILcom/example/powderhorn/powderhorn/rules/pigwars/MeleeWeapon;Z)I"⟩ : MethodName)) (z := (⟨"com/example/powderhorn/powderhorn/rules/pigwars/MeleeWeapon", "bonus", "(ILcom/example/powderhorn/powderhorn/rules/pigwars/MeleeWeapon;Z)I"⟩ : MethodName)) hown (mvT hZ (hw _ (List.mem_of_getElem? (i := 13) rfl))) (mvT hZ (hw _ (List.mem_of_getElem? (i := 14) rfl))) (notFace_of_selects (args := #[]) (mvT hZ (hw _ (List.mem_of_getElem? (i := 16) rfl)))) (mvT hZ (hw _ (List.mem_of_getElem? (i := 16) rfl))) (mvT hZ (hw _ (List.mem_of_getElem? (i := 15) rfl))) (by decide) (backOf (W := 0) (own_rmN l Z a0 hw [] a_SPEAR p3 e_n (1 : Int32) (1 : Int32) a_LANCE a_SPEAR (1 : Int32) h0 n0 Z0 S_LANCE S_SPEAR F_SPEAR_bonus (if_neg fun q => (Fld.ne F_SPEAR_ordinal F_LANCE_ordinal (by simp)) q.1)) hZ (hw _ (List.mem_of_getElem? (i := 17) rfl)) (hw _ (List.mem_of_getElem? (i := 6) rfl)) (by decide) (by decide)) q39a q39c (g := (mkF m 84 #[.val (.int p1), .val (.int p2), .val (.int p3), .val (.int p4), .val (.int (1 : Int32)), .val (.int v2), .val (.int (1 : Int32)), .val (.ref a_SPEAR), .val (.ref e_n), .val (.int (1 : Int32))] [(.int (1 : Int32)), (.ref e_n), (.int p3), (.ref a_SPEAR)])) rfl (by rw [hml]; rfl) (Steps.refl _) (argsL := [(.int p3), (.ref e_n), (.int (1 : Int32))]) (rest := []) (lenOf own_pd__ILcom_example_powderhorn_powderhorn_rules_pigwars_MeleeWeapon_Z_I rfl) rfl (by show 2 * 0 + _ ≤ _; exact Nat.le_of_eq rfl) (hb hby at_84) (fun _ _ => ⟨rfl, eq38, (by decide : 0 + 0 ≤ _), (by decide : 0 + 0 ≤ _)⟩)
      dsimp only [Pt.U, Pt.locs, Pt.cells, Pt.slots] at X39 l39 y39 z39 st39 hQ39
      subst l39 y39 z39
      obtain ⟨rfl, Nq39, eq39⟩ := hQ39
      have N39 := Fr.app N38 Nq39
      refine own_st (fun _ k => st39.trans k) ?_
      show own_Go p.tables e below RR (T39.setTop (mkF m 87 #[.val (.int p1), .val (.int p2), .val (.int p3), .val (.int p4), .val (.int (1 : Int32)), .val (.int v2), .val (.int (1 : Int32)), .val (.ref a_SPEAR), .val (.ref e_n), .val (.int (1 : Int32))] [(.int (1 : Int32))]))
      refine own_st (fun _ k => XS.iload X39.here hx rfl (hb hby at_87) rfl k) ?_
      show own_Go p.tables e below RR (T39.setTop (mkF m 89 #[.val (.int p1), .val (.int p2), .val (.int p3), .val (.int p4), .val (.int (1 : Int32)), .val (.int v2), .val (.int (1 : Int32)), .val (.ref a_SPEAR), .val (.ref e_n), .val (.int (1 : Int32))] [(.int (1 : Int32)), (.int (1 : Int32))]))
      refine own_st (fun _ k => XS.icmpNo X39.here hx rfl (hb hby at_89) rfl (teq (by decide)).2 (XS.iconst X39.here hx rfl (hb hby at_92) (XS.goto X39.here hx rfl (pc0 := 93) (pc' := 97) rfl (hb hby at_93) (by decide) (by decide) k))) ?_
      show own_Go p.tables e below RR (T39.setTop (mkF m 97 #[.val (.int p1), .val (.int p2), .val (.int p3), .val (.int p4), .val (.int (1 : Int32)), .val (.int v2), .val (.int (1 : Int32)), .val (.ref a_SPEAR), .val (.ref e_n), .val (.int (1 : Int32))] [(.int (1 : Int32))]))
      obtain ⟨fs, hrt_, hrun, hended, hW, hsame⟩ := X39.leave (v := some (.int (1 : Int32))) (fun h => by rw [Bd.returns] at h; cases h)
      refine own_fin (retN X39 hx (t := .boolean) Bd.returns (by simp) (hb hby at_97) hrt_) (hRR _ ⟨_, hrun, hended, _, _, rfl, ?_, ⟨_, rfl⟩, hW, hsame.mono (by decide) (by decide)⟩)
      show own_Q0 Z p1 p2 p3 p4 a_IMPROVISED a_ONE_HAND_EDGED a_LANCE a_SPEAR a_TWO_HAND_EDGED a_CLUB h0 n0 _ T39.heap _
      rw [eq39]
      exact ⟨rfl, N39⟩
    · show own_Go p.tables e below RR (s₁.setTop (mkF m 31 #[.val (.int p1), .val (.int p2), .val (.int p3), .val (.int p4), .val (.int (2 : Int32)), .val (.int v2), .val (.int (1 : Int32)), .unset, .unset, .unset] []))
      show own_Go p.tables e below RR (s₁.setTop (mkF m 31 #[.val (.int p1), .val (.int p2), .val (.int p3), .val (.int p4), .val (.int (2 : Int32)), .val (.int v2), .val (.int (1 : Int32)), .unset, .unset, .unset] []))
      refine own_st (fun _ k => XS.iload X0.here hx rfl (hb hby at_31) rfl k) ?_
      show own_Go p.tables e below RR (s₁.setTop (mkF m 33 #[.val (.int p1), .val (.int p2), .val (.int p3), .val (.int p4), .val (.int (2 : Int32)), .val (.int v2), .val (.int (1 : Int32)), .unset, .unset, .unset] [(.int (2 : Int32))]))
      obtain ⟨_, _, ⟨T40, L40, k40, n40⟩, -, X40, ⟨Lc40, hQ40, l40, y40, z40⟩, st40⟩ := Jvm.LawKit.callS X0 hx (y := (⟨"com/example/powderhorn/powderhorn/rules/pigwars/MeleeWeaponBonusPinLaw", "pick", "(I)Lcom/example/powderhorn/powderhorn/rules/pigwars/MeleeWeapon;"⟩ : MethodName)) hown (mvT hZ (hw _ (List.mem_of_getElem? (i := 1) rfl))) (mvT hZ (hw _ (List.mem_of_getElem? (i := 2) rfl))) (mvT hZ (hw _ (List.mem_of_getElem? (i := 3) rfl))) (mvT hZ (hw _ (List.mem_of_getElem? (i := 4) rfl))) (by decide) (backOf (W := 0) (own_rmP l Z a0 hw [] (2 : Int32) a_IMPROVISED a_ONE_HAND_EDGED a_LANCE a_SPEAR a_TWO_HAND_EDGED a_CLUB a_CLUB h0 n0 Z0 S_IMPROVISED S_ONE_HAND_EDGED S_LANCE S_SPEAR S_TWO_HAND_EDGED S_CLUB rfl) hZ (hw _ (List.mem_of_getElem? (i := 4) rfl)) (hw _ (List.mem_of_getElem? (i := 3) rfl)) (by decide) (by decide)) (g := (mkF m 33 #[.val (.int p1), .val (.int p2), .val (.int p3), .val (.int p4), .val (.int (2 : Int32)), .val (.int v2), .val (.int (1 : Int32)), .unset, .unset, .unset] [(.int (2 : Int32))])) rfl (by rw [hml]; rfl) (argsL := [(.int (2 : Int32))]) (rest := []) (lenOf own_pd__I_Lcom_example_powderhorn_powderhorn_rules_pigwars_MeleeWeapon_ rfl) rfl (by show 2 * 0 + _ ≤ _; exact Nat.le_of_eq rfl) (hb hby at_33) (fun _ _ => ⟨rfl, e0, (by decide : 0 + 0 ≤ _), (by decide : 0 + 0 ≤ _)⟩)
      dsimp only [Pt.U, Pt.locs, Pt.cells, Pt.slots] at X40 l40 y40 z40 st40 hQ40
      subst l40 y40 z40
      obtain ⟨rfl, Nq40, eq40⟩ := hQ40
      have N40 := Fr.app N0 Nq40
      refine own_st st40 ?_
      show own_Go p.tables e below RR (T40.setTop (mkF m 36 #[.val (.int p1), .val (.int p2), .val (.int p3), .val (.int p4), .val (.int (2 : Int32)), .val (.int v2), .val (.int (1 : Int32)), .unset, .unset, .unset] [(.ref a_CLUB)]))
      refine own_st (fun _ k => XS.astore X40.here hx rfl (hb hby at_36) rfl rfl (l' := #[.val (.int p1), .val (.int p2), .val (.int p3), .val (.int p4), .val (.int (2 : Int32)), .val (.int v2), .val (.int (1 : Int32)), .val (.ref a_CLUB), .unset, .unset]) rfl (XS.iload X40.here hx rfl (hb hby at_38) rfl k)) ?_
      show own_Go p.tables e below RR (T40.setTop (mkF m 40 #[.val (.int p1), .val (.int p2), .val (.int p3), .val (.int p4), .val (.int (2 : Int32)), .val (.int v2), .val (.int (1 : Int32)), .val (.ref a_CLUB), .unset, .unset] [(.int v2)]))
      obtain ⟨e_n, he_n⟩ : ∃ z, own_pick v2 a_IMPROVISED a_SPEAR a_CLUB a_ONE_HAND_EDGED a_TWO_HAND_EDGED a_LANCE = z := ⟨_, rfl⟩
      obtain ⟨_, _, ⟨T41, L41, k41, n41⟩, -, X41, ⟨Lc41, hQ41, l41, y41, z41⟩, st41⟩ := Jvm.LawKit.callS X40 hx (y := (⟨"com/example/powderhorn/powderhorn/rules/pigwars/MeleeWeaponBonusPinLaw", "pick", "(I)Lcom/example/powderhorn/powderhorn/rules/pigwars/MeleeWeapon;"⟩ : MethodName)) hown (mvT hZ (hw _ (List.mem_of_getElem? (i := 1) rfl))) (mvT hZ (hw _ (List.mem_of_getElem? (i := 2) rfl))) (mvT hZ (hw _ (List.mem_of_getElem? (i := 3) rfl))) (mvT hZ (hw _ (List.mem_of_getElem? (i := 4) rfl))) (by decide) (backOf (W := 0) (own_rmP l Z a0 hw [] v2 a_IMPROVISED a_ONE_HAND_EDGED a_LANCE a_SPEAR a_TWO_HAND_EDGED a_CLUB e_n h0 n0 Z0 S_IMPROVISED S_ONE_HAND_EDGED S_LANCE S_SPEAR S_TWO_HAND_EDGED S_CLUB he_n) hZ (hw _ (List.mem_of_getElem? (i := 4) rfl)) (hw _ (List.mem_of_getElem? (i := 3) rfl)) (by decide) (by decide)) (g := (mkF m 40 #[.val (.int p1), .val (.int p2), .val (.int p3), .val (.int p4), .val (.int (2 : Int32)), .val (.int v2), .val (.int (1 : Int32)), .val (.ref a_CLUB), .unset, .unset] [(.int v2)])) rfl (by rw [hml]; rfl) (argsL := [(.int v2)]) (rest := []) (lenOf own_pd__I_Lcom_example_powderhorn_powderhorn_rules_pigwars_MeleeWeapon_ rfl) rfl (by show 2 * 0 + _ ≤ _; exact Nat.le_of_eq rfl) (hb hby at_40) (fun _ _ => ⟨rfl, eq40, (by decide : 0 + 0 ≤ _), (by decide : 0 + 0 ≤ _)⟩)
      dsimp only [Pt.U, Pt.locs, Pt.cells, Pt.slots] at X41 l41 y41 z41 st41 hQ41
      subst l41 y41 z41
      obtain ⟨rfl, Nq41, eq41⟩ := hQ41
      have N41 := Fr.app N40 Nq41
      refine own_st st41 ?_
      show own_Go p.tables e below RR (T41.setTop (mkF m 43 #[.val (.int p1), .val (.int p2), .val (.int p3), .val (.int p4), .val (.int (2 : Int32)), .val (.int v2), .val (.int (1 : Int32)), .val (.ref a_CLUB), .unset, .unset] [(.ref e_n)]))
      refine own_st (fun _ k => XS.astore X41.here hx rfl (hb hby at_43) rfl rfl (l' := #[.val (.int p1), .val (.int p2), .val (.int p3), .val (.int p4), .val (.int (2 : Int32)), .val (.int v2), .val (.int (1 : Int32)), .val (.ref a_CLUB), .val (.ref e_n), .unset]) rfl (XS.iload X41.here hx rfl (hb hby at_45) rfl k)) ?_
      show own_Go p.tables e below RR (T41.setTop (mkF m 47 #[.val (.int p1), .val (.int p2), .val (.int p3), .val (.int p4), .val (.int (2 : Int32)), .val (.int v2), .val (.int (1 : Int32)), .val (.ref a_CLUB), .val (.ref e_n), .unset] [(.int (2 : Int32))]))
      obtain ⟨_, _, ⟨T42, L42, k42, n42⟩, -, X42, ⟨Lc42, hQ42, l42, y42, z42⟩, st42⟩ := Jvm.LawKit.callS X41 hx (y := (⟨"com/example/powderhorn/powderhorn/rules/pigwars/MeleeWeaponBonusPinLaw", "base", "(I)I"⟩ : MethodName)) hown (mvT hZ (hw _ (List.mem_of_getElem? (i := 10) rfl))) (mvT hZ (hw _ (List.mem_of_getElem? (i := 11) rfl))) (mvT hZ (hw _ (List.mem_of_getElem? (i := 3) rfl))) (mvT hZ (hw _ (List.mem_of_getElem? (i := 12) rfl))) (by decide) (backOf (W := 0) (own_rmB l Z a0 hw [] (2 : Int32) (1 : Int32) h0 n0 Z0 rfl) hZ (hw _ (List.mem_of_getElem? (i := 12) rfl)) (hw _ (List.mem_of_getElem? (i := 3) rfl)) (by decide) (by decide)) (g := (mkF m 47 #[.val (.int p1), .val (.int p2), .val (.int p3), .val (.int p4), .val (.int (2 : Int32)), .val (.int v2), .val (.int (1 : Int32)), .val (.ref a_CLUB), .val (.ref e_n), .unset] [(.int (2 : Int32))])) rfl (by rw [hml]; rfl) (argsL := [(.int (2 : Int32))]) (rest := []) (lenOf own_pd__I_I rfl) rfl (by show 2 * 0 + _ ≤ _; exact Nat.le_of_eq rfl) (hb hby at_47) (fun _ _ => ⟨rfl, eq41, (by decide : 0 + 0 ≤ _), (by decide : 0 + 0 ≤ _)⟩)
      dsimp only [Pt.U, Pt.locs, Pt.cells, Pt.slots] at X42 l42 y42 z42 st42 hQ42
      subst l42 y42 z42
      obtain ⟨rfl, Nq42, eq42⟩ := hQ42
      have N42 := Fr.app N41 Nq42
      refine own_st st42 ?_
      show own_Go p.tables e below RR (T42.setTop (mkF m 50 #[.val (.int p1), .val (.int p2), .val (.int p3), .val (.int p4), .val (.int (2 : Int32)), .val (.int v2), .val (.int (1 : Int32)), .val (.ref a_CLUB), .val (.ref e_n), .unset] [(.int (1 : Int32))]))
      refine own_st (fun _ k => XS.istore X42.here hx rfl (hb hby at_50) rfl (l' := #[.val (.int p1), .val (.int p2), .val (.int p3), .val (.int p4), .val (.int (2 : Int32)), .val (.int v2), .val (.int (1 : Int32)), .val (.ref a_CLUB), .val (.ref e_n), .val (.int (1 : Int32))]) rfl (XS.iload X42.here hx rfl (hb hby at_52) rfl (XS.iconst X42.here hx rfl (hb hby at_54) k))) ?_
      show own_Go p.tables e below RR (T42.setTop (mkF m 55 #[.val (.int p1), .val (.int p2), .val (.int p3), .val (.int p4), .val (.int (2 : Int32)), .val (.int v2), .val (.int (1 : Int32)), .val (.ref a_CLUB), .val (.ref e_n), .val (.int (1 : Int32))] [(.int (5 : Int32)), (.int (2 : Int32))]))
      refine own_st (fun _ k => XS.icmpYes X42.here hx rfl (pc0 := 55) (pc' := 77) rfl (hb hby at_55) rfl (feq (by decide)).2 (by decide) (by decide) (XS.aload X42.here hx rfl (hb hby at_77) rfl rfl (XS.iloadN X42.here hx rfl (hb hby at_79) rfl (XS.aload X42.here hx rfl (hb hby at_80) rfl rfl (XS.iload X42.here hx rfl (hb hby at_82) rfl k))))) ?_
      show own_Go p.tables e below RR (T42.setTop (mkF m 84 #[.val (.int p1), .val (.int p2), .val (.int p3), .val (.int p4), .val (.int (2 : Int32)), .val (.int v2), .val (.int (1 : Int32)), .val (.ref a_CLUB), .val (.ref e_n), .val (.int (1 : Int32))] [(.int (1 : Int32)), (.ref e_n), (.int p3), (.ref a_CLUB)]))
      obtain ⟨cq43, kq43, q43a, q43b, q43c⟩ := isOf hZ eq42 E_CLUB
      obtain ⟨_, _, ⟨T43, L43, k43, n43⟩, -, X43, ⟨Lc43, hQ43, l43, y43, z43⟩, st43⟩ := X42.virtualBack hx (y := (⟨"com/example/powderhorn/powderhorn/rules/pigwars/MeleeWeapon", "bonus", "(ILcom/example/powderhorn/powderhorn/rules/pigwars/MeleeWeapon;Z)I"⟩ : MethodName)) (z := (⟨"com/example/powderhorn/powderhorn/rules/pigwars/MeleeWeapon", "bonus", "(ILcom/example/powderhorn/powderhorn/rules/pigwars/MeleeWeapon;Z)I"⟩ : MethodName)) hown (mvT hZ (hw _ (List.mem_of_getElem? (i := 13) rfl))) (mvT hZ (hw _ (List.mem_of_getElem? (i := 14) rfl))) (notFace_of_selects (args := #[]) (mvT hZ (hw _ (List.mem_of_getElem? (i := 16) rfl)))) (mvT hZ (hw _ (List.mem_of_getElem? (i := 16) rfl))) (mvT hZ (hw _ (List.mem_of_getElem? (i := 15) rfl))) (by decide) (backOf (W := 0) (own_rmN l Z a0 hw [] a_CLUB p3 e_n (1 : Int32) (1 : Int32) a_LANCE a_SPEAR (1 : Int32) h0 n0 Z0 S_LANCE S_SPEAR F_CLUB_bonus (if_neg fun q => (Fld.ne F_CLUB_ordinal F_LANCE_ordinal (by simp)) q.1)) hZ (hw _ (List.mem_of_getElem? (i := 17) rfl)) (hw _ (List.mem_of_getElem? (i := 6) rfl)) (by decide) (by decide)) q43a q43c (g := (mkF m 84 #[.val (.int p1), .val (.int p2), .val (.int p3), .val (.int p4), .val (.int (2 : Int32)), .val (.int v2), .val (.int (1 : Int32)), .val (.ref a_CLUB), .val (.ref e_n), .val (.int (1 : Int32))] [(.int (1 : Int32)), (.ref e_n), (.int p3), (.ref a_CLUB)])) rfl (by rw [hml]; rfl) (Steps.refl _) (argsL := [(.int p3), (.ref e_n), (.int (1 : Int32))]) (rest := []) (lenOf own_pd__ILcom_example_powderhorn_powderhorn_rules_pigwars_MeleeWeapon_Z_I rfl) rfl (by show 2 * 0 + _ ≤ _; exact Nat.le_of_eq rfl) (hb hby at_84) (fun _ _ => ⟨rfl, eq42, (by decide : 0 + 0 ≤ _), (by decide : 0 + 0 ≤ _)⟩)
      dsimp only [Pt.U, Pt.locs, Pt.cells, Pt.slots] at X43 l43 y43 z43 st43 hQ43
      subst l43 y43 z43
      obtain ⟨rfl, Nq43, eq43⟩ := hQ43
      have N43 := Fr.app N42 Nq43
      refine own_st (fun _ k => st43.trans k) ?_
      show own_Go p.tables e below RR (T43.setTop (mkF m 87 #[.val (.int p1), .val (.int p2), .val (.int p3), .val (.int p4), .val (.int (2 : Int32)), .val (.int v2), .val (.int (1 : Int32)), .val (.ref a_CLUB), .val (.ref e_n), .val (.int (1 : Int32))] [(.int (1 : Int32))]))
      refine own_st (fun _ k => XS.iload X43.here hx rfl (hb hby at_87) rfl k) ?_
      show own_Go p.tables e below RR (T43.setTop (mkF m 89 #[.val (.int p1), .val (.int p2), .val (.int p3), .val (.int p4), .val (.int (2 : Int32)), .val (.int v2), .val (.int (1 : Int32)), .val (.ref a_CLUB), .val (.ref e_n), .val (.int (1 : Int32))] [(.int (1 : Int32)), (.int (1 : Int32))]))
      refine own_st (fun _ k => XS.icmpNo X43.here hx rfl (hb hby at_89) rfl (teq (by decide)).2 (XS.iconst X43.here hx rfl (hb hby at_92) (XS.goto X43.here hx rfl (pc0 := 93) (pc' := 97) rfl (hb hby at_93) (by decide) (by decide) k))) ?_
      show own_Go p.tables e below RR (T43.setTop (mkF m 97 #[.val (.int p1), .val (.int p2), .val (.int p3), .val (.int p4), .val (.int (2 : Int32)), .val (.int v2), .val (.int (1 : Int32)), .val (.ref a_CLUB), .val (.ref e_n), .val (.int (1 : Int32))] [(.int (1 : Int32))]))
      obtain ⟨fs, hrt_, hrun, hended, hW, hsame⟩ := X43.leave (v := some (.int (1 : Int32))) (fun h => by rw [Bd.returns] at h; cases h)
      refine own_fin (retN X43 hx (t := .boolean) Bd.returns (by simp) (hb hby at_97) hrt_) (hRR _ ⟨_, hrun, hended, _, _, rfl, ?_, ⟨_, rfl⟩, hW, hsame.mono (by decide) (by decide)⟩)
      show own_Q0 Z p1 p2 p3 p4 a_IMPROVISED a_ONE_HAND_EDGED a_LANCE a_SPEAR a_TWO_HAND_EDGED a_CLUB h0 n0 _ T43.heap _
      rw [eq43]
      exact ⟨rfl, N43⟩
    · show own_Go p.tables e below RR (s₁.setTop (mkF m 31 #[.val (.int p1), .val (.int p2), .val (.int p3), .val (.int p4), .val (.int (3 : Int32)), .val (.int v2), .val (.int (1 : Int32)), .unset, .unset, .unset] []))
      show own_Go p.tables e below RR (s₁.setTop (mkF m 31 #[.val (.int p1), .val (.int p2), .val (.int p3), .val (.int p4), .val (.int (3 : Int32)), .val (.int v2), .val (.int (1 : Int32)), .unset, .unset, .unset] []))
      refine own_st (fun _ k => XS.iload X0.here hx rfl (hb hby at_31) rfl k) ?_
      show own_Go p.tables e below RR (s₁.setTop (mkF m 33 #[.val (.int p1), .val (.int p2), .val (.int p3), .val (.int p4), .val (.int (3 : Int32)), .val (.int v2), .val (.int (1 : Int32)), .unset, .unset, .unset] [(.int (3 : Int32))]))
      obtain ⟨_, _, ⟨T44, L44, k44, n44⟩, -, X44, ⟨Lc44, hQ44, l44, y44, z44⟩, st44⟩ := Jvm.LawKit.callS X0 hx (y := (⟨"com/example/powderhorn/powderhorn/rules/pigwars/MeleeWeaponBonusPinLaw", "pick", "(I)Lcom/example/powderhorn/powderhorn/rules/pigwars/MeleeWeapon;"⟩ : MethodName)) hown (mvT hZ (hw _ (List.mem_of_getElem? (i := 1) rfl))) (mvT hZ (hw _ (List.mem_of_getElem? (i := 2) rfl))) (mvT hZ (hw _ (List.mem_of_getElem? (i := 3) rfl))) (mvT hZ (hw _ (List.mem_of_getElem? (i := 4) rfl))) (by decide) (backOf (W := 0) (own_rmP l Z a0 hw [] (3 : Int32) a_IMPROVISED a_ONE_HAND_EDGED a_LANCE a_SPEAR a_TWO_HAND_EDGED a_CLUB a_ONE_HAND_EDGED h0 n0 Z0 S_IMPROVISED S_ONE_HAND_EDGED S_LANCE S_SPEAR S_TWO_HAND_EDGED S_CLUB rfl) hZ (hw _ (List.mem_of_getElem? (i := 4) rfl)) (hw _ (List.mem_of_getElem? (i := 3) rfl)) (by decide) (by decide)) (g := (mkF m 33 #[.val (.int p1), .val (.int p2), .val (.int p3), .val (.int p4), .val (.int (3 : Int32)), .val (.int v2), .val (.int (1 : Int32)), .unset, .unset, .unset] [(.int (3 : Int32))])) rfl (by rw [hml]; rfl) (argsL := [(.int (3 : Int32))]) (rest := []) (lenOf own_pd__I_Lcom_example_powderhorn_powderhorn_rules_pigwars_MeleeWeapon_ rfl) rfl (by show 2 * 0 + _ ≤ _; exact Nat.le_of_eq rfl) (hb hby at_33) (fun _ _ => ⟨rfl, e0, (by decide : 0 + 0 ≤ _), (by decide : 0 + 0 ≤ _)⟩)
      dsimp only [Pt.U, Pt.locs, Pt.cells, Pt.slots] at X44 l44 y44 z44 st44 hQ44
      subst l44 y44 z44
      obtain ⟨rfl, Nq44, eq44⟩ := hQ44
      have N44 := Fr.app N0 Nq44
      refine own_st st44 ?_
      show own_Go p.tables e below RR (T44.setTop (mkF m 36 #[.val (.int p1), .val (.int p2), .val (.int p3), .val (.int p4), .val (.int (3 : Int32)), .val (.int v2), .val (.int (1 : Int32)), .unset, .unset, .unset] [(.ref a_ONE_HAND_EDGED)]))
      refine own_st (fun _ k => XS.astore X44.here hx rfl (hb hby at_36) rfl rfl (l' := #[.val (.int p1), .val (.int p2), .val (.int p3), .val (.int p4), .val (.int (3 : Int32)), .val (.int v2), .val (.int (1 : Int32)), .val (.ref a_ONE_HAND_EDGED), .unset, .unset]) rfl (XS.iload X44.here hx rfl (hb hby at_38) rfl k)) ?_
      show own_Go p.tables e below RR (T44.setTop (mkF m 40 #[.val (.int p1), .val (.int p2), .val (.int p3), .val (.int p4), .val (.int (3 : Int32)), .val (.int v2), .val (.int (1 : Int32)), .val (.ref a_ONE_HAND_EDGED), .unset, .unset] [(.int v2)]))
      obtain ⟨e_n, he_n⟩ : ∃ z, own_pick v2 a_IMPROVISED a_SPEAR a_CLUB a_ONE_HAND_EDGED a_TWO_HAND_EDGED a_LANCE = z := ⟨_, rfl⟩
      obtain ⟨_, _, ⟨T45, L45, k45, n45⟩, -, X45, ⟨Lc45, hQ45, l45, y45, z45⟩, st45⟩ := Jvm.LawKit.callS X44 hx (y := (⟨"com/example/powderhorn/powderhorn/rules/pigwars/MeleeWeaponBonusPinLaw", "pick", "(I)Lcom/example/powderhorn/powderhorn/rules/pigwars/MeleeWeapon;"⟩ : MethodName)) hown (mvT hZ (hw _ (List.mem_of_getElem? (i := 1) rfl))) (mvT hZ (hw _ (List.mem_of_getElem? (i := 2) rfl))) (mvT hZ (hw _ (List.mem_of_getElem? (i := 3) rfl))) (mvT hZ (hw _ (List.mem_of_getElem? (i := 4) rfl))) (by decide) (backOf (W := 0) (own_rmP l Z a0 hw [] v2 a_IMPROVISED a_ONE_HAND_EDGED a_LANCE a_SPEAR a_TWO_HAND_EDGED a_CLUB e_n h0 n0 Z0 S_IMPROVISED S_ONE_HAND_EDGED S_LANCE S_SPEAR S_TWO_HAND_EDGED S_CLUB he_n) hZ (hw _ (List.mem_of_getElem? (i := 4) rfl)) (hw _ (List.mem_of_getElem? (i := 3) rfl)) (by decide) (by decide)) (g := (mkF m 40 #[.val (.int p1), .val (.int p2), .val (.int p3), .val (.int p4), .val (.int (3 : Int32)), .val (.int v2), .val (.int (1 : Int32)), .val (.ref a_ONE_HAND_EDGED), .unset, .unset] [(.int v2)])) rfl (by rw [hml]; rfl) (argsL := [(.int v2)]) (rest := []) (lenOf own_pd__I_Lcom_example_powderhorn_powderhorn_rules_pigwars_MeleeWeapon_ rfl) rfl (by show 2 * 0 + _ ≤ _; exact Nat.le_of_eq rfl) (hb hby at_40) (fun _ _ => ⟨rfl, eq44, (by decide : 0 + 0 ≤ _), (by decide : 0 + 0 ≤ _)⟩)
      dsimp only [Pt.U, Pt.locs, Pt.cells, Pt.slots] at X45 l45 y45 z45 st45 hQ45
      subst l45 y45 z45
      obtain ⟨rfl, Nq45, eq45⟩ := hQ45
      have N45 := Fr.app N44 Nq45
      refine own_st st45 ?_
      show own_Go p.tables e below RR (T45.setTop (mkF m 43 #[.val (.int p1), .val (.int p2), .val (.int p3), .val (.int p4), .val (.int (3 : Int32)), .val (.int v2), .val (.int (1 : Int32)), .val (.ref a_ONE_HAND_EDGED), .unset, .unset] [(.ref e_n)]))
      refine own_st (fun _ k => XS.astore X45.here hx rfl (hb hby at_43) rfl rfl (l' := #[.val (.int p1), .val (.int p2), .val (.int p3), .val (.int p4), .val (.int (3 : Int32)), .val (.int v2), .val (.int (1 : Int32)), .val (.ref a_ONE_HAND_EDGED), .val (.ref e_n), .unset]) rfl (XS.iload X45.here hx rfl (hb hby at_45) rfl k)) ?_
      show own_Go p.tables e below RR (T45.setTop (mkF m 47 #[.val (.int p1), .val (.int p2), .val (.int p3), .val (.int p4), .val (.int (3 : Int32)), .val (.int v2), .val (.int (1 : Int32)), .val (.ref a_ONE_HAND_EDGED), .val (.ref e_n), .unset] [(.int (3 : Int32))]))
      obtain ⟨_, _, ⟨T46, L46, k46, n46⟩, -, X46, ⟨Lc46, hQ46, l46, y46, z46⟩, st46⟩ := Jvm.LawKit.callS X45 hx (y := (⟨"com/example/powderhorn/powderhorn/rules/pigwars/MeleeWeaponBonusPinLaw", "base", "(I)I"⟩ : MethodName)) hown (mvT hZ (hw _ (List.mem_of_getElem? (i := 10) rfl))) (mvT hZ (hw _ (List.mem_of_getElem? (i := 11) rfl))) (mvT hZ (hw _ (List.mem_of_getElem? (i := 3) rfl))) (mvT hZ (hw _ (List.mem_of_getElem? (i := 12) rfl))) (by decide) (backOf (W := 0) (own_rmB l Z a0 hw [] (3 : Int32) (2 : Int32) h0 n0 Z0 rfl) hZ (hw _ (List.mem_of_getElem? (i := 12) rfl)) (hw _ (List.mem_of_getElem? (i := 3) rfl)) (by decide) (by decide)) (g := (mkF m 47 #[.val (.int p1), .val (.int p2), .val (.int p3), .val (.int p4), .val (.int (3 : Int32)), .val (.int v2), .val (.int (1 : Int32)), .val (.ref a_ONE_HAND_EDGED), .val (.ref e_n), .unset] [(.int (3 : Int32))])) rfl (by rw [hml]; rfl) (argsL := [(.int (3 : Int32))]) (rest := []) (lenOf own_pd__I_I rfl) rfl (by show 2 * 0 + _ ≤ _; exact Nat.le_of_eq rfl) (hb hby at_47) (fun _ _ => ⟨rfl, eq45, (by decide : 0 + 0 ≤ _), (by decide : 0 + 0 ≤ _)⟩)
      dsimp only [Pt.U, Pt.locs, Pt.cells, Pt.slots] at X46 l46 y46 z46 st46 hQ46
      subst l46 y46 z46
      obtain ⟨rfl, Nq46, eq46⟩ := hQ46
      have N46 := Fr.app N45 Nq46
      refine own_st st46 ?_
      show own_Go p.tables e below RR (T46.setTop (mkF m 50 #[.val (.int p1), .val (.int p2), .val (.int p3), .val (.int p4), .val (.int (3 : Int32)), .val (.int v2), .val (.int (1 : Int32)), .val (.ref a_ONE_HAND_EDGED), .val (.ref e_n), .unset] [(.int (2 : Int32))]))
      refine own_st (fun _ k => XS.istore X46.here hx rfl (hb hby at_50) rfl (l' := #[.val (.int p1), .val (.int p2), .val (.int p3), .val (.int p4), .val (.int (3 : Int32)), .val (.int v2), .val (.int (1 : Int32)), .val (.ref a_ONE_HAND_EDGED), .val (.ref e_n), .val (.int (2 : Int32))]) rfl (XS.iload X46.here hx rfl (hb hby at_52) rfl (XS.iconst X46.here hx rfl (hb hby at_54) k))) ?_
      show own_Go p.tables e below RR (T46.setTop (mkF m 55 #[.val (.int p1), .val (.int p2), .val (.int p3), .val (.int p4), .val (.int (3 : Int32)), .val (.int v2), .val (.int (1 : Int32)), .val (.ref a_ONE_HAND_EDGED), .val (.ref e_n), .val (.int (2 : Int32))] [(.int (5 : Int32)), (.int (3 : Int32))]))
      refine own_st (fun _ k => XS.icmpYes X46.here hx rfl (pc0 := 55) (pc' := 77) rfl (hb hby at_55) rfl (feq (by decide)).2 (by decide) (by decide) (XS.aload X46.here hx rfl (hb hby at_77) rfl rfl (XS.iloadN X46.here hx rfl (hb hby at_79) rfl (XS.aload X46.here hx rfl (hb hby at_80) rfl rfl (XS.iload X46.here hx rfl (hb hby at_82) rfl k))))) ?_
      show own_Go p.tables e below RR (T46.setTop (mkF m 84 #[.val (.int p1), .val (.int p2), .val (.int p3), .val (.int p4), .val (.int (3 : Int32)), .val (.int v2), .val (.int (1 : Int32)), .val (.ref a_ONE_HAND_EDGED), .val (.ref e_n), .val (.int (2 : Int32))] [(.int (1 : Int32)), (.ref e_n), (.int p3), (.ref a_ONE_HAND_EDGED)]))
      obtain ⟨cq47, kq47, q47a, q47b, q47c⟩ := isOf hZ eq46 E_ONE_HAND_EDGED
      obtain ⟨_, _, ⟨T47, L47, k47, n47⟩, -, X47, ⟨Lc47, hQ47, l47, y47, z47⟩, st47⟩ := X46.virtualBack hx (y := (⟨"com/example/powderhorn/powderhorn/rules/pigwars/MeleeWeapon", "bonus", "(ILcom/example/powderhorn/powderhorn/rules/pigwars/MeleeWeapon;Z)I"⟩ : MethodName)) (z := (⟨"com/example/powderhorn/powderhorn/rules/pigwars/MeleeWeapon", "bonus", "(ILcom/example/powderhorn/powderhorn/rules/pigwars/MeleeWeapon;Z)I"⟩ : MethodName)) hown (mvT hZ (hw _ (List.mem_of_getElem? (i := 13) rfl))) (mvT hZ (hw _ (List.mem_of_getElem? (i := 14) rfl))) (notFace_of_selects (args := #[]) (mvT hZ (hw _ (List.mem_of_getElem? (i := 16) rfl)))) (mvT hZ (hw _ (List.mem_of_getElem? (i := 16) rfl))) (mvT hZ (hw _ (List.mem_of_getElem? (i := 15) rfl))) (by decide) (backOf (W := 0) (own_rmN l Z a0 hw [] a_ONE_HAND_EDGED p3 e_n (1 : Int32) (2 : Int32) a_LANCE a_SPEAR (2 : Int32) h0 n0 Z0 S_LANCE S_SPEAR F_ONE_HAND_EDGED_bonus (if_neg fun q => (Fld.ne F_ONE_HAND_EDGED_ordinal F_LANCE_ordinal (by simp)) q.1)) hZ (hw _ (List.mem_of_getElem? (i := 17) rfl)) (hw _ (List.mem_of_getElem? (i := 6) rfl)) (by decide) (by decide)) q47a q47c (g := (mkF m 84 #[.val (.int p1), .val (.int p2), .val (.int p3), .val (.int p4), .val (.int (3 : Int32)), .val (.int v2), .val (.int (1 : Int32)), .val (.ref a_ONE_HAND_EDGED), .val (.ref e_n), .val (.int (2 : Int32))] [(.int (1 : Int32)), (.ref e_n), (.int p3), (.ref a_ONE_HAND_EDGED)])) rfl (by rw [hml]; rfl) (Steps.refl _) (argsL := [(.int p3), (.ref e_n), (.int (1 : Int32))]) (rest := []) (lenOf own_pd__ILcom_example_powderhorn_powderhorn_rules_pigwars_MeleeWeapon_Z_I rfl) rfl (by show 2 * 0 + _ ≤ _; exact Nat.le_of_eq rfl) (hb hby at_84) (fun _ _ => ⟨rfl, eq46, (by decide : 0 + 0 ≤ _), (by decide : 0 + 0 ≤ _)⟩)
      dsimp only [Pt.U, Pt.locs, Pt.cells, Pt.slots] at X47 l47 y47 z47 st47 hQ47
      subst l47 y47 z47
      obtain ⟨rfl, Nq47, eq47⟩ := hQ47
      have N47 := Fr.app N46 Nq47
      refine own_st (fun _ k => st47.trans k) ?_
      show own_Go p.tables e below RR (T47.setTop (mkF m 87 #[.val (.int p1), .val (.int p2), .val (.int p3), .val (.int p4), .val (.int (3 : Int32)), .val (.int v2), .val (.int (1 : Int32)), .val (.ref a_ONE_HAND_EDGED), .val (.ref e_n), .val (.int (2 : Int32))] [(.int (2 : Int32))]))
      refine own_st (fun _ k => XS.iload X47.here hx rfl (hb hby at_87) rfl k) ?_
      show own_Go p.tables e below RR (T47.setTop (mkF m 89 #[.val (.int p1), .val (.int p2), .val (.int p3), .val (.int p4), .val (.int (3 : Int32)), .val (.int v2), .val (.int (1 : Int32)), .val (.ref a_ONE_HAND_EDGED), .val (.ref e_n), .val (.int (2 : Int32))] [(.int (2 : Int32)), (.int (2 : Int32))]))
      refine own_st (fun _ k => XS.icmpNo X47.here hx rfl (hb hby at_89) rfl (teq (by decide)).2 (XS.iconst X47.here hx rfl (hb hby at_92) (XS.goto X47.here hx rfl (pc0 := 93) (pc' := 97) rfl (hb hby at_93) (by decide) (by decide) k))) ?_
      show own_Go p.tables e below RR (T47.setTop (mkF m 97 #[.val (.int p1), .val (.int p2), .val (.int p3), .val (.int p4), .val (.int (3 : Int32)), .val (.int v2), .val (.int (1 : Int32)), .val (.ref a_ONE_HAND_EDGED), .val (.ref e_n), .val (.int (2 : Int32))] [(.int (1 : Int32))]))
      obtain ⟨fs, hrt_, hrun, hended, hW, hsame⟩ := X47.leave (v := some (.int (1 : Int32))) (fun h => by rw [Bd.returns] at h; cases h)
      refine own_fin (retN X47 hx (t := .boolean) Bd.returns (by simp) (hb hby at_97) hrt_) (hRR _ ⟨_, hrun, hended, _, _, rfl, ?_, ⟨_, rfl⟩, hW, hsame.mono (by decide) (by decide)⟩)
      show own_Q0 Z p1 p2 p3 p4 a_IMPROVISED a_ONE_HAND_EDGED a_LANCE a_SPEAR a_TWO_HAND_EDGED a_CLUB h0 n0 _ T47.heap _
      rw [eq47]
      exact ⟨rfl, N47⟩
    · show own_Go p.tables e below RR (s₁.setTop (mkF m 31 #[.val (.int p1), .val (.int p2), .val (.int p3), .val (.int p4), .val (.int (4 : Int32)), .val (.int v2), .val (.int (1 : Int32)), .unset, .unset, .unset] []))
      show own_Go p.tables e below RR (s₁.setTop (mkF m 31 #[.val (.int p1), .val (.int p2), .val (.int p3), .val (.int p4), .val (.int (4 : Int32)), .val (.int v2), .val (.int (1 : Int32)), .unset, .unset, .unset] []))
      refine own_st (fun _ k => XS.iload X0.here hx rfl (hb hby at_31) rfl k) ?_
      show own_Go p.tables e below RR (s₁.setTop (mkF m 33 #[.val (.int p1), .val (.int p2), .val (.int p3), .val (.int p4), .val (.int (4 : Int32)), .val (.int v2), .val (.int (1 : Int32)), .unset, .unset, .unset] [(.int (4 : Int32))]))
      obtain ⟨_, _, ⟨T48, L48, k48, n48⟩, -, X48, ⟨Lc48, hQ48, l48, y48, z48⟩, st48⟩ := Jvm.LawKit.callS X0 hx (y := (⟨"com/example/powderhorn/powderhorn/rules/pigwars/MeleeWeaponBonusPinLaw", "pick", "(I)Lcom/example/powderhorn/powderhorn/rules/pigwars/MeleeWeapon;"⟩ : MethodName)) hown (mvT hZ (hw _ (List.mem_of_getElem? (i := 1) rfl))) (mvT hZ (hw _ (List.mem_of_getElem? (i := 2) rfl))) (mvT hZ (hw _ (List.mem_of_getElem? (i := 3) rfl))) (mvT hZ (hw _ (List.mem_of_getElem? (i := 4) rfl))) (by decide) (backOf (W := 0) (own_rmP l Z a0 hw [] (4 : Int32) a_IMPROVISED a_ONE_HAND_EDGED a_LANCE a_SPEAR a_TWO_HAND_EDGED a_CLUB a_TWO_HAND_EDGED h0 n0 Z0 S_IMPROVISED S_ONE_HAND_EDGED S_LANCE S_SPEAR S_TWO_HAND_EDGED S_CLUB rfl) hZ (hw _ (List.mem_of_getElem? (i := 4) rfl)) (hw _ (List.mem_of_getElem? (i := 3) rfl)) (by decide) (by decide)) (g := (mkF m 33 #[.val (.int p1), .val (.int p2), .val (.int p3), .val (.int p4), .val (.int (4 : Int32)), .val (.int v2), .val (.int (1 : Int32)), .unset, .unset, .unset] [(.int (4 : Int32))])) rfl (by rw [hml]; rfl) (argsL := [(.int (4 : Int32))]) (rest := []) (lenOf own_pd__I_Lcom_example_powderhorn_powderhorn_rules_pigwars_MeleeWeapon_ rfl) rfl (by show 2 * 0 + _ ≤ _; exact Nat.le_of_eq rfl) (hb hby at_33) (fun _ _ => ⟨rfl, e0, (by decide : 0 + 0 ≤ _), (by decide : 0 + 0 ≤ _)⟩)
      dsimp only [Pt.U, Pt.locs, Pt.cells, Pt.slots] at X48 l48 y48 z48 st48 hQ48
      subst l48 y48 z48
      obtain ⟨rfl, Nq48, eq48⟩ := hQ48
      have N48 := Fr.app N0 Nq48
      refine own_st st48 ?_
      show own_Go p.tables e below RR (T48.setTop (mkF m 36 #[.val (.int p1), .val (.int p2), .val (.int p3), .val (.int p4), .val (.int (4 : Int32)), .val (.int v2), .val (.int (1 : Int32)), .unset, .unset, .unset] [(.ref a_TWO_HAND_EDGED)]))
      refine own_st (fun _ k => XS.astore X48.here hx rfl (hb hby at_36) rfl rfl (l' := #[.val (.int p1), .val (.int p2), .val (.int p3), .val (.int p4), .val (.int (4 : Int32)), .val (.int v2), .val (.int (1 : Int32)), .val (.ref a_TWO_HAND_EDGED), .unset, .unset]) rfl (XS.iload X48.here hx rfl (hb hby at_38) rfl k)) ?_
      show own_Go p.tables e below RR (T48.setTop (mkF m 40 #[.val (.int p1), .val (.int p2), .val (.int p3), .val (.int p4), .val (.int (4 : Int32)), .val (.int v2), .val (.int (1 : Int32)), .val (.ref a_TWO_HAND_EDGED), .unset, .unset] [(.int v2)]))
      obtain ⟨e_n, he_n⟩ : ∃ z, own_pick v2 a_IMPROVISED a_SPEAR a_CLUB a_ONE_HAND_EDGED a_TWO_HAND_EDGED a_LANCE = z := ⟨_, rfl⟩
      obtain ⟨_, _, ⟨T49, L49, k49, n49⟩, -, X49, ⟨Lc49, hQ49, l49, y49, z49⟩, st49⟩ := Jvm.LawKit.callS X48 hx (y := (⟨"com/example/powderhorn/powderhorn/rules/pigwars/MeleeWeaponBonusPinLaw", "pick", "(I)Lcom/example/powderhorn/powderhorn/rules/pigwars/MeleeWeapon;"⟩ : MethodName)) hown (mvT hZ (hw _ (List.mem_of_getElem? (i := 1) rfl))) (mvT hZ (hw _ (List.mem_of_getElem? (i := 2) rfl))) (mvT hZ (hw _ (List.mem_of_getElem? (i := 3) rfl))) (mvT hZ (hw _ (List.mem_of_getElem? (i := 4) rfl))) (by decide) (backOf (W := 0) (own_rmP l Z a0 hw [] v2 a_IMPROVISED a_ONE_HAND_EDGED a_LANCE a_SPEAR a_TWO_HAND_EDGED a_CLUB e_n h0 n0 Z0 S_IMPROVISED S_ONE_HAND_EDGED S_LANCE S_SPEAR S_TWO_HAND_EDGED S_CLUB he_n) hZ (hw _ (List.mem_of_getElem? (i := 4) rfl)) (hw _ (List.mem_of_getElem? (i := 3) rfl)) (by decide) (by decide)) (g := (mkF m 40 #[.val (.int p1), .val (.int p2), .val (.int p3), .val (.int p4), .val (.int (4 : Int32)), .val (.int v2), .val (.int (1 : Int32)), .val (.ref a_TWO_HAND_EDGED), .unset, .unset] [(.int v2)])) rfl (by rw [hml]; rfl) (argsL := [(.int v2)]) (rest := []) (lenOf own_pd__I_Lcom_example_powderhorn_powderhorn_rules_pigwars_MeleeWeapon_ rfl) rfl (by show 2 * 0 + _ ≤ _; exact Nat.le_of_eq rfl) (hb hby at_40) (fun _ _ => ⟨rfl, eq48, (by decide : 0 + 0 ≤ _), (by decide : 0 + 0 ≤ _)⟩)
      dsimp only [Pt.U, Pt.locs, Pt.cells, Pt.slots] at X49 l49 y49 z49 st49 hQ49
      subst l49 y49 z49
      obtain ⟨rfl, Nq49, eq49⟩ := hQ49
      have N49 := Fr.app N48 Nq49
      refine own_st st49 ?_
      show own_Go p.tables e below RR (T49.setTop (mkF m 43 #[.val (.int p1), .val (.int p2), .val (.int p3), .val (.int p4), .val (.int (4 : Int32)), .val (.int v2), .val (.int (1 : Int32)), .val (.ref a_TWO_HAND_EDGED), .unset, .unset] [(.ref e_n)]))
      refine own_st (fun _ k => XS.astore X49.here hx rfl (hb hby at_43) rfl rfl (l' := #[.val (.int p1), .val (.int p2), .val (.int p3), .val (.int p4), .val (.int (4 : Int32)), .val (.int v2), .val (.int (1 : Int32)), .val (.ref a_TWO_HAND_EDGED), .val (.ref e_n), .unset]) rfl (XS.iload X49.here hx rfl (hb hby at_45) rfl k)) ?_
      show own_Go p.tables e below RR (T49.setTop (mkF m 47 #[.val (.int p1), .val (.int p2), .val (.int p3), .val (.int p4), .val (.int (4 : Int32)), .val (.int v2), .val (.int (1 : Int32)), .val (.ref a_TWO_HAND_EDGED), .val (.ref e_n), .unset] [(.int (4 : Int32))]))
      obtain ⟨_, _, ⟨T50, L50, k50, n50⟩, -, X50, ⟨Lc50, hQ50, l50, y50, z50⟩, st50⟩ := Jvm.LawKit.callS X49 hx (y := (⟨"com/example/powderhorn/powderhorn/rules/pigwars/MeleeWeaponBonusPinLaw", "base", "(I)I"⟩ : MethodName)) hown (mvT hZ (hw _ (List.mem_of_getElem? (i := 10) rfl))) (mvT hZ (hw _ (List.mem_of_getElem? (i := 11) rfl))) (mvT hZ (hw _ (List.mem_of_getElem? (i := 3) rfl))) (mvT hZ (hw _ (List.mem_of_getElem? (i := 12) rfl))) (by decide) (backOf (W := 0) (own_rmB l Z a0 hw [] (4 : Int32) (3 : Int32) h0 n0 Z0 rfl) hZ (hw _ (List.mem_of_getElem? (i := 12) rfl)) (hw _ (List.mem_of_getElem? (i := 3) rfl)) (by decide) (by decide)) (g := (mkF m 47 #[.val (.int p1), .val (.int p2), .val (.int p3), .val (.int p4), .val (.int (4 : Int32)), .val (.int v2), .val (.int (1 : Int32)), .val (.ref a_TWO_HAND_EDGED), .val (.ref e_n), .unset] [(.int (4 : Int32))])) rfl (by rw [hml]; rfl) (argsL := [(.int (4 : Int32))]) (rest := []) (lenOf own_pd__I_I rfl) rfl (by show 2 * 0 + _ ≤ _; exact Nat.le_of_eq rfl) (hb hby at_47) (fun _ _ => ⟨rfl, eq49, (by decide : 0 + 0 ≤ _), (by decide : 0 + 0 ≤ _)⟩)
      dsimp only [Pt.U, Pt.locs, Pt.cells, Pt.slots] at X50 l50 y50 z50 st50 hQ50
      subst l50 y50 z50
      obtain ⟨rfl, Nq50, eq50⟩ := hQ50
      have N50 := Fr.app N49 Nq50
      refine own_st st50 ?_
      show own_Go p.tables e below RR (T50.setTop (mkF m 50 #[.val (.int p1), .val (.int p2), .val (.int p3), .val (.int p4), .val (.int (4 : Int32)), .val (.int v2), .val (.int (1 : Int32)), .val (.ref a_TWO_HAND_EDGED), .val (.ref e_n), .unset] [(.int (3 : Int32))]))
      refine own_st (fun _ k => XS.istore X50.here hx rfl (hb hby at_50) rfl (l' := #[.val (.int p1), .val (.int p2), .val (.int p3), .val (.int p4), .val (.int (4 : Int32)), .val (.int v2), .val (.int (1 : Int32)), .val (.ref a_TWO_HAND_EDGED), .val (.ref e_n), .val (.int (3 : Int32))]) rfl (XS.iload X50.here hx rfl (hb hby at_52) rfl (XS.iconst X50.here hx rfl (hb hby at_54) k))) ?_
      show own_Go p.tables e below RR (T50.setTop (mkF m 55 #[.val (.int p1), .val (.int p2), .val (.int p3), .val (.int p4), .val (.int (4 : Int32)), .val (.int v2), .val (.int (1 : Int32)), .val (.ref a_TWO_HAND_EDGED), .val (.ref e_n), .val (.int (3 : Int32))] [(.int (5 : Int32)), (.int (4 : Int32))]))
      refine own_st (fun _ k => XS.icmpYes X50.here hx rfl (pc0 := 55) (pc' := 77) rfl (hb hby at_55) rfl (feq (by decide)).2 (by decide) (by decide) (XS.aload X50.here hx rfl (hb hby at_77) rfl rfl (XS.iloadN X50.here hx rfl (hb hby at_79) rfl (XS.aload X50.here hx rfl (hb hby at_80) rfl rfl (XS.iload X50.here hx rfl (hb hby at_82) rfl k))))) ?_
      show own_Go p.tables e below RR (T50.setTop (mkF m 84 #[.val (.int p1), .val (.int p2), .val (.int p3), .val (.int p4), .val (.int (4 : Int32)), .val (.int v2), .val (.int (1 : Int32)), .val (.ref a_TWO_HAND_EDGED), .val (.ref e_n), .val (.int (3 : Int32))] [(.int (1 : Int32)), (.ref e_n), (.int p3), (.ref a_TWO_HAND_EDGED)]))
      obtain ⟨cq51, kq51, q51a, q51b, q51c⟩ := isOf hZ eq50 E_TWO_HAND_EDGED
      obtain ⟨_, _, ⟨T51, L51, k51, n51⟩, -, X51, ⟨Lc51, hQ51, l51, y51, z51⟩, st51⟩ := X50.virtualBack hx (y := (⟨"com/example/powderhorn/powderhorn/rules/pigwars/MeleeWeapon", "bonus", "(ILcom/example/powderhorn/powderhorn/rules/pigwars/MeleeWeapon;Z)I"⟩ : MethodName)) (z := (⟨"com/example/powderhorn/powderhorn/rules/pigwars/MeleeWeapon", "bonus", "(ILcom/example/powderhorn/powderhorn/rules/pigwars/MeleeWeapon;Z)I"⟩ : MethodName)) hown (mvT hZ (hw _ (List.mem_of_getElem? (i := 13) rfl))) (mvT hZ (hw _ (List.mem_of_getElem? (i := 14) rfl))) (notFace_of_selects (args := #[]) (mvT hZ (hw _ (List.mem_of_getElem? (i := 16) rfl)))) (mvT hZ (hw _ (List.mem_of_getElem? (i := 16) rfl))) (mvT hZ (hw _ (List.mem_of_getElem? (i := 15) rfl))) (by decide) (backOf (W := 0) (own_rmN l Z a0 hw [] a_TWO_HAND_EDGED p3 e_n (1 : Int32) (3 : Int32) a_LANCE a_SPEAR (3 : Int32) h0 n0 Z0 S_LANCE S_SPEAR F_TWO_HAND_EDGED_bonus (if_neg fun q => (Fld.ne F_TWO_HAND_EDGED_ordinal F_LANCE_ordinal (by simp)) q.1)) hZ (hw _ (List.mem_of_getElem? (i := 17) rfl)) (hw _ (List.mem_of_getElem? (i := 6) rfl)) (by decide) (by decide)) q51a q51c (g := (mkF m 84 #[.val (.int p1), .val (.int p2), .val (.int p3), .val (.int p4), .val (.int (4 : Int32)), .val (.int v2), .val (.int (1 : Int32)), .val (.ref a_TWO_HAND_EDGED), .val (.ref e_n), .val (.int (3 : Int32))] [(.int (1 : Int32)), (.ref e_n), (.int p3), (.ref a_TWO_HAND_EDGED)])) rfl (by rw [hml]; rfl) (Steps.refl _) (argsL := [(.int p3), (.ref e_n), (.int (1 : Int32))]) (rest := []) (lenOf own_pd__ILcom_example_powderhorn_powderhorn_rules_pigwars_MeleeWeapon_Z_I rfl) rfl (by show 2 * 0 + _ ≤ _; exact Nat.le_of_eq rfl) (hb hby at_84) (fun _ _ => ⟨rfl, eq50, (by decide : 0 + 0 ≤ _), (by decide : 0 + 0 ≤ _)⟩)
      dsimp only [Pt.U, Pt.locs, Pt.cells, Pt.slots] at X51 l51 y51 z51 st51 hQ51
      subst l51 y51 z51
      obtain ⟨rfl, Nq51, eq51⟩ := hQ51
      have N51 := Fr.app N50 Nq51
      refine own_st (fun _ k => st51.trans k) ?_
      show own_Go p.tables e below RR (T51.setTop (mkF m 87 #[.val (.int p1), .val (.int p2), .val (.int p3), .val (.int p4), .val (.int (4 : Int32)), .val (.int v2), .val (.int (1 : Int32)), .val (.ref a_TWO_HAND_EDGED), .val (.ref e_n), .val (.int (3 : Int32))] [(.int (3 : Int32))]))
      refine own_st (fun _ k => XS.iload X51.here hx rfl (hb hby at_87) rfl k) ?_
      show own_Go p.tables e below RR (T51.setTop (mkF m 89 #[.val (.int p1), .val (.int p2), .val (.int p3), .val (.int p4), .val (.int (4 : Int32)), .val (.int v2), .val (.int (1 : Int32)), .val (.ref a_TWO_HAND_EDGED), .val (.ref e_n), .val (.int (3 : Int32))] [(.int (3 : Int32)), (.int (3 : Int32))]))
      refine own_st (fun _ k => XS.icmpNo X51.here hx rfl (hb hby at_89) rfl (teq (by decide)).2 (XS.iconst X51.here hx rfl (hb hby at_92) (XS.goto X51.here hx rfl (pc0 := 93) (pc' := 97) rfl (hb hby at_93) (by decide) (by decide) k))) ?_
      show own_Go p.tables e below RR (T51.setTop (mkF m 97 #[.val (.int p1), .val (.int p2), .val (.int p3), .val (.int p4), .val (.int (4 : Int32)), .val (.int v2), .val (.int (1 : Int32)), .val (.ref a_TWO_HAND_EDGED), .val (.ref e_n), .val (.int (3 : Int32))] [(.int (1 : Int32))]))
      obtain ⟨fs, hrt_, hrun, hended, hW, hsame⟩ := X51.leave (v := some (.int (1 : Int32))) (fun h => by rw [Bd.returns] at h; cases h)
      refine own_fin (retN X51 hx (t := .boolean) Bd.returns (by simp) (hb hby at_97) hrt_) (hRR _ ⟨_, hrun, hended, _, _, rfl, ?_, ⟨_, rfl⟩, hW, hsame.mono (by decide) (by decide)⟩)
      show own_Q0 Z p1 p2 p3 p4 a_IMPROVISED a_ONE_HAND_EDGED a_LANCE a_SPEAR a_TWO_HAND_EDGED a_CLUB h0 n0 _ T51.heap _
      rw [eq51]
      exact ⟨rfl, N51⟩
    · show own_Go p.tables e below RR (s₁.setTop (mkF m 31 #[.val (.int p1), .val (.int p2), .val (.int p3), .val (.int p4), .val (.int (5 : Int32)), .val (.int v2), .val (.int (1 : Int32)), .unset, .unset, .unset] []))
      show own_Go p.tables e below RR (s₁.setTop (mkF m 31 #[.val (.int p1), .val (.int p2), .val (.int p3), .val (.int p4), .val (.int (5 : Int32)), .val (.int v2), .val (.int (1 : Int32)), .unset, .unset, .unset] []))
      refine own_st (fun _ k => XS.iload X0.here hx rfl (hb hby at_31) rfl k) ?_
      show own_Go p.tables e below RR (s₁.setTop (mkF m 33 #[.val (.int p1), .val (.int p2), .val (.int p3), .val (.int p4), .val (.int (5 : Int32)), .val (.int v2), .val (.int (1 : Int32)), .unset, .unset, .unset] [(.int (5 : Int32))]))
      obtain ⟨_, _, ⟨T52, L52, k52, n52⟩, -, X52, ⟨Lc52, hQ52, l52, y52, z52⟩, st52⟩ := Jvm.LawKit.callS X0 hx (y := (⟨"com/example/powderhorn/powderhorn/rules/pigwars/MeleeWeaponBonusPinLaw", "pick", "(I)Lcom/example/powderhorn/powderhorn/rules/pigwars/MeleeWeapon;"⟩ : MethodName)) hown (mvT hZ (hw _ (List.mem_of_getElem? (i := 1) rfl))) (mvT hZ (hw _ (List.mem_of_getElem? (i := 2) rfl))) (mvT hZ (hw _ (List.mem_of_getElem? (i := 3) rfl))) (mvT hZ (hw _ (List.mem_of_getElem? (i := 4) rfl))) (by decide) (backOf (W := 0) (own_rmP l Z a0 hw [] (5 : Int32) a_IMPROVISED a_ONE_HAND_EDGED a_LANCE a_SPEAR a_TWO_HAND_EDGED a_CLUB a_LANCE h0 n0 Z0 S_IMPROVISED S_ONE_HAND_EDGED S_LANCE S_SPEAR S_TWO_HAND_EDGED S_CLUB rfl) hZ (hw _ (List.mem_of_getElem? (i := 4) rfl)) (hw _ (List.mem_of_getElem? (i := 3) rfl)) (by decide) (by decide)) (g := (mkF m 33 #[.val (.int p1), .val (.int p2), .val (.int p3), .val (.int p4), .val (.int (5 : Int32)), .val (.int v2), .val (.int (1 : Int32)), .unset, .unset, .unset] [(.int (5 : Int32))])) rfl (by rw [hml]; rfl) (argsL := [(.int (5 : Int32))]) (rest := []) (lenOf own_pd__I_Lcom_example_powderhorn_powderhorn_rules_pigwars_MeleeWeapon_ rfl) rfl (by show 2 * 0 + _ ≤ _; exact Nat.le_of_eq rfl) (hb hby at_33) (fun _ _ => ⟨rfl, e0, (by decide : 0 + 0 ≤ _), (by decide : 0 + 0 ≤ _)⟩)
      dsimp only [Pt.U, Pt.locs, Pt.cells, Pt.slots] at X52 l52 y52 z52 st52 hQ52
      subst l52 y52 z52
      obtain ⟨rfl, Nq52, eq52⟩ := hQ52
      have N52 := Fr.app N0 Nq52
      refine own_st st52 ?_
      show own_Go p.tables e below RR (T52.setTop (mkF m 36 #[.val (.int p1), .val (.int p2), .val (.int p3), .val (.int p4), .val (.int (5 : Int32)), .val (.int v2), .val (.int (1 : Int32)), .unset, .unset, .unset] [(.ref a_LANCE)]))
      refine own_st (fun _ k => XS.astore X52.here hx rfl (hb hby at_36) rfl rfl (l' := #[.val (.int p1), .val (.int p2), .val (.int p3), .val (.int p4), .val (.int (5 : Int32)), .val (.int v2), .val (.int (1 : Int32)), .val (.ref a_LANCE), .unset, .unset]) rfl (XS.iload X52.here hx rfl (hb hby at_38) rfl k)) ?_
      show own_Go p.tables e below RR (T52.setTop (mkF m 40 #[.val (.int p1), .val (.int p2), .val (.int p3), .val (.int p4), .val (.int (5 : Int32)), .val (.int v2), .val (.int (1 : Int32)), .val (.ref a_LANCE), .unset, .unset] [(.int v2)]))
      obtain ⟨e_n, he_n⟩ : ∃ z, own_pick v2 a_IMPROVISED a_SPEAR a_CLUB a_ONE_HAND_EDGED a_TWO_HAND_EDGED a_LANCE = z := ⟨_, rfl⟩
      obtain ⟨_, _, ⟨T53, L53, k53, n53⟩, -, X53, ⟨Lc53, hQ53, l53, y53, z53⟩, st53⟩ := Jvm.LawKit.callS X52 hx (y := (⟨"com/example/powderhorn/powderhorn/rules/pigwars/MeleeWeaponBonusPinLaw", "pick", "(I)Lcom/example/powderhorn/powderhorn/rules/pigwars/MeleeWeapon;"⟩ : MethodName)) hown (mvT hZ (hw _ (List.mem_of_getElem? (i := 1) rfl))) (mvT hZ (hw _ (List.mem_of_getElem? (i := 2) rfl))) (mvT hZ (hw _ (List.mem_of_getElem? (i := 3) rfl))) (mvT hZ (hw _ (List.mem_of_getElem? (i := 4) rfl))) (by decide) (backOf (W := 0) (own_rmP l Z a0 hw [] v2 a_IMPROVISED a_ONE_HAND_EDGED a_LANCE a_SPEAR a_TWO_HAND_EDGED a_CLUB e_n h0 n0 Z0 S_IMPROVISED S_ONE_HAND_EDGED S_LANCE S_SPEAR S_TWO_HAND_EDGED S_CLUB he_n) hZ (hw _ (List.mem_of_getElem? (i := 4) rfl)) (hw _ (List.mem_of_getElem? (i := 3) rfl)) (by decide) (by decide)) (g := (mkF m 40 #[.val (.int p1), .val (.int p2), .val (.int p3), .val (.int p4), .val (.int (5 : Int32)), .val (.int v2), .val (.int (1 : Int32)), .val (.ref a_LANCE), .unset, .unset] [(.int v2)])) rfl (by rw [hml]; rfl) (argsL := [(.int v2)]) (rest := []) (lenOf own_pd__I_Lcom_example_powderhorn_powderhorn_rules_pigwars_MeleeWeapon_ rfl) rfl (by show 2 * 0 + _ ≤ _; exact Nat.le_of_eq rfl) (hb hby at_40) (fun _ _ => ⟨rfl, eq52, (by decide : 0 + 0 ≤ _), (by decide : 0 + 0 ≤ _)⟩)
      dsimp only [Pt.U, Pt.locs, Pt.cells, Pt.slots] at X53 l53 y53 z53 st53 hQ53
      subst l53 y53 z53
      obtain ⟨rfl, Nq53, eq53⟩ := hQ53
      have N53 := Fr.app N52 Nq53
      refine own_st st53 ?_
      show own_Go p.tables e below RR (T53.setTop (mkF m 43 #[.val (.int p1), .val (.int p2), .val (.int p3), .val (.int p4), .val (.int (5 : Int32)), .val (.int v2), .val (.int (1 : Int32)), .val (.ref a_LANCE), .unset, .unset] [(.ref e_n)]))
      refine own_st (fun _ k => XS.astore X53.here hx rfl (hb hby at_43) rfl rfl (l' := #[.val (.int p1), .val (.int p2), .val (.int p3), .val (.int p4), .val (.int (5 : Int32)), .val (.int v2), .val (.int (1 : Int32)), .val (.ref a_LANCE), .val (.ref e_n), .unset]) rfl (XS.iload X53.here hx rfl (hb hby at_45) rfl k)) ?_
      show own_Go p.tables e below RR (T53.setTop (mkF m 47 #[.val (.int p1), .val (.int p2), .val (.int p3), .val (.int p4), .val (.int (5 : Int32)), .val (.int v2), .val (.int (1 : Int32)), .val (.ref a_LANCE), .val (.ref e_n), .unset] [(.int (5 : Int32))]))
      obtain ⟨_, _, ⟨T54, L54, k54, n54⟩, -, X54, ⟨Lc54, hQ54, l54, y54, z54⟩, st54⟩ := Jvm.LawKit.callS X53 hx (y := (⟨"com/example/powderhorn/powderhorn/rules/pigwars/MeleeWeaponBonusPinLaw", "base", "(I)I"⟩ : MethodName)) hown (mvT hZ (hw _ (List.mem_of_getElem? (i := 10) rfl))) (mvT hZ (hw _ (List.mem_of_getElem? (i := 11) rfl))) (mvT hZ (hw _ (List.mem_of_getElem? (i := 3) rfl))) (mvT hZ (hw _ (List.mem_of_getElem? (i := 12) rfl))) (by decide) (backOf (W := 0) (own_rmB l Z a0 hw [] (5 : Int32) (1 : Int32) h0 n0 Z0 rfl) hZ (hw _ (List.mem_of_getElem? (i := 12) rfl)) (hw _ (List.mem_of_getElem? (i := 3) rfl)) (by decide) (by decide)) (g := (mkF m 47 #[.val (.int p1), .val (.int p2), .val (.int p3), .val (.int p4), .val (.int (5 : Int32)), .val (.int v2), .val (.int (1 : Int32)), .val (.ref a_LANCE), .val (.ref e_n), .unset] [(.int (5 : Int32))])) rfl (by rw [hml]; rfl) (argsL := [(.int (5 : Int32))]) (rest := []) (lenOf own_pd__I_I rfl) rfl (by show 2 * 0 + _ ≤ _; exact Nat.le_of_eq rfl) (hb hby at_47) (fun _ _ => ⟨rfl, eq53, (by decide : 0 + 0 ≤ _), (by decide : 0 + 0 ≤ _)⟩)
      dsimp only [Pt.U, Pt.locs, Pt.cells, Pt.slots] at X54 l54 y54 z54 st54 hQ54
      subst l54 y54 z54
      obtain ⟨rfl, Nq54, eq54⟩ := hQ54
      have N54 := Fr.app N53 Nq54
      refine own_st st54 ?_
      show own_Go p.tables e below RR (T54.setTop (mkF m 50 #[.val (.int p1), .val (.int p2), .val (.int p3), .val (.int p4), .val (.int (5 : Int32)), .val (.int v2), .val (.int (1 : Int32)), .val (.ref a_LANCE), .val (.ref e_n), .unset] [(.int (1 : Int32))]))
      refine own_st (fun _ k => XS.istore X54.here hx rfl (hb hby at_50) rfl (l' := #[.val (.int p1), .val (.int p2), .val (.int p3), .val (.int p4), .val (.int (5 : Int32)), .val (.int v2), .val (.int (1 : Int32)), .val (.ref a_LANCE), .val (.ref e_n), .val (.int (1 : Int32))]) rfl (XS.iload X54.here hx rfl (hb hby at_52) rfl (XS.iconst X54.here hx rfl (hb hby at_54) k))) ?_
      show own_Go p.tables e below RR (T54.setTop (mkF m 55 #[.val (.int p1), .val (.int p2), .val (.int p3), .val (.int p4), .val (.int (5 : Int32)), .val (.int v2), .val (.int (1 : Int32)), .val (.ref a_LANCE), .val (.ref e_n), .val (.int (1 : Int32))] [(.int (5 : Int32)), (.int (5 : Int32))]))
      refine own_st (fun _ k => XS.icmpNo X54.here hx rfl (hb hby at_55) rfl (teq (by decide)).2 (XS.iloadN X54.here hx rfl (hb hby at_58) rfl (XS.iconst X54.here hx rfl (hb hby at_59) k))) ?_
      show own_Go p.tables e below RR (T54.setTop (mkF m 60 #[.val (.int p1), .val (.int p2), .val (.int p3), .val (.int p4), .val (.int (5 : Int32)), .val (.int v2), .val (.int (1 : Int32)), .val (.ref a_LANCE), .val (.ref e_n), .val (.int (1 : Int32))] [(.int (1 : Int32)), (.int p3)]))
      by_cases hc60_55 : p3 = (1 : Int32)
      · refine own_st (fun _ k => XS.icmpNo X54.here hx rfl (hb hby at_60) rfl (teq hc60_55).2 (XS.iload X54.here hx rfl (hb hby at_63) rfl (XS.iconst X54.here hx rfl (hb hby at_65) k))) ?_
        show own_Go p.tables e below RR (T54.setTop (mkF m 66 #[.val (.int p1), .val (.int p2), .val (.int p3), .val (.int p4), .val (.int (5 : Int32)), .val (.int v2), .val (.int (1 : Int32)), .val (.ref a_LANCE), .val (.ref e_n), .val (.int (1 : Int32))] [(.int (1 : Int32)), (.int v2)]))
        by_cases hc66_56 : v2 = (1 : Int32)
        · refine own_st (fun _ k => XS.icmpYes X54.here hx rfl (pc0 := 66) (pc' := 77) rfl (hb hby at_66) rfl (teq hc66_56).1 (by decide) (by decide) (XS.aload X54.here hx rfl (hb hby at_77) rfl rfl (XS.iloadN X54.here hx rfl (hb hby at_79) rfl (XS.aload X54.here hx rfl (hb hby at_80) rfl rfl (XS.iload X54.here hx rfl (hb hby at_82) rfl k))))) ?_
          show own_Go p.tables e below RR (T54.setTop (mkF m 84 #[.val (.int p1), .val (.int p2), .val (.int p3), .val (.int p4), .val (.int (5 : Int32)), .val (.int v2), .val (.int (1 : Int32)), .val (.ref a_LANCE), .val (.ref e_n), .val (.int (1 : Int32))] [(.int (1 : Int32)), (.ref e_n), (.int p3), (.ref a_LANCE)]))
          obtain ⟨cq57, kq57, q57a, q57b, q57c⟩ := isOf hZ eq54 E_LANCE
          obtain ⟨_, _, ⟨T57, L57, k57, n57⟩, -, X57, ⟨Lc57, hQ57, l57, y57, z57⟩, st57⟩ := X54.virtualBack hx (y := (⟨"com/example/powderhorn/powderhorn/rules/pigwars/MeleeWeapon", "bonus", "(ILcom/example/powderhorn/powderhorn/rules/pigwars/MeleeWeapon;Z)I"⟩ : MethodName)) (z := (⟨"com/example/powderhorn/powderhorn/rules/pigwars/MeleeWeapon", "bonus", "(ILcom/example/powderhorn/powderhorn/rules/pigwars/MeleeWeapon;Z)I"⟩ : MethodName)) hown (mvT hZ (hw _ (List.mem_of_getElem? (i := 13) rfl))) (mvT hZ (hw _ (List.mem_of_getElem? (i := 14) rfl))) (notFace_of_selects (args := #[]) (mvT hZ (hw _ (List.mem_of_getElem? (i := 16) rfl)))) (mvT hZ (hw _ (List.mem_of_getElem? (i := 16) rfl))) (mvT hZ (hw _ (List.mem_of_getElem? (i := 15) rfl))) (by decide) (backOf (W := 0) (own_rmN l Z a0 hw [] a_LANCE p3 e_n (1 : Int32) (1 : Int32) a_LANCE a_SPEAR (1 : Int32) h0 n0 Z0 S_LANCE S_SPEAR F_LANCE_bonus (if_neg fun q => q.2.2.1 (he_n.symm.trans (own_spear1 hc66_56)))) hZ (hw _ (List.mem_of_getElem? (i := 17) rfl)) (hw _ (List.mem_of_getElem? (i := 6) rfl)) (by decide) (by decide)) q57a q57c (g := (mkF m 84 #[.val (.int p1), .val (.int p2), .val (.int p3), .val (.int p4), .val (.int (5 : Int32)), .val (.int v2), .val (.int (1 : Int32)), .val (.ref a_LANCE), .val (.ref e_n), .val (.int (1 : Int32))] [(.int (1 : Int32)), (.ref e_n), (.int p3), (.ref a_LANCE)])) rfl (by rw [hml]; rfl) (Steps.refl _) (argsL := [(.int p3), (.ref e_n), (.int (1 : Int32))]) (rest := []) (lenOf own_pd__ILcom_example_powderhorn_powderhorn_rules_pigwars_MeleeWeapon_Z_I rfl) rfl (by show 2 * 0 + _ ≤ _; exact Nat.le_of_eq rfl) (hb hby at_84) (fun _ _ => ⟨rfl, eq54, (by decide : 0 + 0 ≤ _), (by decide : 0 + 0 ≤ _)⟩)
          dsimp only [Pt.U, Pt.locs, Pt.cells, Pt.slots] at X57 l57 y57 z57 st57 hQ57
          subst l57 y57 z57
          obtain ⟨rfl, Nq57, eq57⟩ := hQ57
          have N57 := Fr.app N54 Nq57
          refine own_st (fun _ k => st57.trans k) ?_
          show own_Go p.tables e below RR (T57.setTop (mkF m 87 #[.val (.int p1), .val (.int p2), .val (.int p3), .val (.int p4), .val (.int (5 : Int32)), .val (.int v2), .val (.int (1 : Int32)), .val (.ref a_LANCE), .val (.ref e_n), .val (.int (1 : Int32))] [(.int (1 : Int32))]))
          refine own_st (fun _ k => XS.iload X57.here hx rfl (hb hby at_87) rfl k) ?_
          show own_Go p.tables e below RR (T57.setTop (mkF m 89 #[.val (.int p1), .val (.int p2), .val (.int p3), .val (.int p4), .val (.int (5 : Int32)), .val (.int v2), .val (.int (1 : Int32)), .val (.ref a_LANCE), .val (.ref e_n), .val (.int (1 : Int32))] [(.int (1 : Int32)), (.int (1 : Int32))]))
          refine own_st (fun _ k => XS.icmpNo X57.here hx rfl (hb hby at_89) rfl (teq (by decide)).2 (XS.iconst X57.here hx rfl (hb hby at_92) (XS.goto X57.here hx rfl (pc0 := 93) (pc' := 97) rfl (hb hby at_93) (by decide) (by decide) k))) ?_
          show own_Go p.tables e below RR (T57.setTop (mkF m 97 #[.val (.int p1), .val (.int p2), .val (.int p3), .val (.int p4), .val (.int (5 : Int32)), .val (.int v2), .val (.int (1 : Int32)), .val (.ref a_LANCE), .val (.ref e_n), .val (.int (1 : Int32))] [(.int (1 : Int32))]))
          obtain ⟨fs, hrt_, hrun, hended, hW, hsame⟩ := X57.leave (v := some (.int (1 : Int32))) (fun h => by rw [Bd.returns] at h; cases h)
          refine own_fin (retN X57 hx (t := .boolean) Bd.returns (by simp) (hb hby at_97) hrt_) (hRR _ ⟨_, hrun, hended, _, _, rfl, ?_, ⟨_, rfl⟩, hW, hsame.mono (by decide) (by decide)⟩)
          show own_Q0 Z p1 p2 p3 p4 a_IMPROVISED a_ONE_HAND_EDGED a_LANCE a_SPEAR a_TWO_HAND_EDGED a_CLUB h0 n0 _ T57.heap _
          rw [eq57]
          exact ⟨rfl, N57⟩
        · refine own_st (fun _ k => XS.icmpNo X54.here hx rfl (hb hby at_66) rfl (feq hc66_56).1 (XS.iload X54.here hx rfl (hb hby at_69) rfl k)) ?_
          show own_Go p.tables e below RR (T54.setTop (mkF m 71 #[.val (.int p1), .val (.int p2), .val (.int p3), .val (.int p4), .val (.int (5 : Int32)), .val (.int v2), .val (.int (1 : Int32)), .val (.ref a_LANCE), .val (.ref e_n), .val (.int (1 : Int32))] [(.int (1 : Int32))]))
          refine own_st (fun _ k => XS.ifYes X54.here hx rfl (pc0 := 71) (pc' := 77) rfl (hb hby at_71) rfl ((if0 _ _).trans (feq (by decide)).2) (by decide) (by decide) (XS.aload X54.here hx rfl (hb hby at_77) rfl rfl (XS.iloadN X54.here hx rfl (hb hby at_79) rfl (XS.aload X54.here hx rfl (hb hby at_80) rfl rfl (XS.iload X54.here hx rfl (hb hby at_82) rfl k))))) ?_
          show own_Go p.tables e below RR (T54.setTop (mkF m 84 #[.val (.int p1), .val (.int p2), .val (.int p3), .val (.int p4), .val (.int (5 : Int32)), .val (.int v2), .val (.int (1 : Int32)), .val (.ref a_LANCE), .val (.ref e_n), .val (.int (1 : Int32))] [(.int (1 : Int32)), (.ref e_n), (.int p3), (.ref a_LANCE)]))
          obtain ⟨cq58, kq58, q58a, q58b, q58c⟩ := isOf hZ eq54 E_LANCE
          obtain ⟨_, _, ⟨T58, L58, k58, n58⟩, -, X58, ⟨Lc58, hQ58, l58, y58, z58⟩, st58⟩ := X54.virtualBack hx (y := (⟨"com/example/powderhorn/powderhorn/rules/pigwars/MeleeWeapon", "bonus", "(ILcom/example/powderhorn/powderhorn/rules/pigwars/MeleeWeapon;Z)I"⟩ : MethodName)) (z := (⟨"com/example/powderhorn/powderhorn/rules/pigwars/MeleeWeapon", "bonus", "(ILcom/example/powderhorn/powderhorn/rules/pigwars/MeleeWeapon;Z)I"⟩ : MethodName)) hown (mvT hZ (hw _ (List.mem_of_getElem? (i := 13) rfl))) (mvT hZ (hw _ (List.mem_of_getElem? (i := 14) rfl))) (notFace_of_selects (args := #[]) (mvT hZ (hw _ (List.mem_of_getElem? (i := 16) rfl)))) (mvT hZ (hw _ (List.mem_of_getElem? (i := 16) rfl))) (mvT hZ (hw _ (List.mem_of_getElem? (i := 15) rfl))) (by decide) (backOf (W := 0) (own_rmN l Z a0 hw [] a_LANCE p3 e_n (1 : Int32) (1 : Int32) a_LANCE a_SPEAR (1 : Int32) h0 n0 Z0 S_LANCE S_SPEAR F_LANCE_bonus (if_neg fun q => absurd q.2.2.2 (by decide))) hZ (hw _ (List.mem_of_getElem? (i := 17) rfl)) (hw _ (List.mem_of_getElem? (i := 6) rfl)) (by decide) (by decide)) q58a q58c (g := (mkF m 84 #[.val (.int p1), .val (.int p2), .val (.int p3), .val (.int p4), .val (.int (5 : Int32)), .val (.int v2), .val (.int (1 : Int32)), .val (.ref a_LANCE), .val (.ref e_n), .val (.int (1 : Int32))] [(.int (1 : Int32)), (.ref e_n), (.int p3), (.ref a_LANCE)])) rfl (by rw [hml]; rfl) (Steps.refl _) (argsL := [(.int p3), (.ref e_n), (.int (1 : Int32))]) (rest := []) (lenOf own_pd__ILcom_example_powderhorn_powderhorn_rules_pigwars_MeleeWeapon_Z_I rfl) rfl (by show 2 * 0 + _ ≤ _; exact Nat.le_of_eq rfl) (hb hby at_84) (fun _ _ => ⟨rfl, eq54, (by decide : 0 + 0 ≤ _), (by decide : 0 + 0 ≤ _)⟩)
          dsimp only [Pt.U, Pt.locs, Pt.cells, Pt.slots] at X58 l58 y58 z58 st58 hQ58
          subst l58 y58 z58
          obtain ⟨rfl, Nq58, eq58⟩ := hQ58
          have N58 := Fr.app N54 Nq58
          refine own_st (fun _ k => st58.trans k) ?_
          show own_Go p.tables e below RR (T58.setTop (mkF m 87 #[.val (.int p1), .val (.int p2), .val (.int p3), .val (.int p4), .val (.int (5 : Int32)), .val (.int v2), .val (.int (1 : Int32)), .val (.ref a_LANCE), .val (.ref e_n), .val (.int (1 : Int32))] [(.int (1 : Int32))]))
          refine own_st (fun _ k => XS.iload X58.here hx rfl (hb hby at_87) rfl k) ?_
          show own_Go p.tables e below RR (T58.setTop (mkF m 89 #[.val (.int p1), .val (.int p2), .val (.int p3), .val (.int p4), .val (.int (5 : Int32)), .val (.int v2), .val (.int (1 : Int32)), .val (.ref a_LANCE), .val (.ref e_n), .val (.int (1 : Int32))] [(.int (1 : Int32)), (.int (1 : Int32))]))
          refine own_st (fun _ k => XS.icmpNo X58.here hx rfl (hb hby at_89) rfl (teq (by decide)).2 (XS.iconst X58.here hx rfl (hb hby at_92) (XS.goto X58.here hx rfl (pc0 := 93) (pc' := 97) rfl (hb hby at_93) (by decide) (by decide) k))) ?_
          show own_Go p.tables e below RR (T58.setTop (mkF m 97 #[.val (.int p1), .val (.int p2), .val (.int p3), .val (.int p4), .val (.int (5 : Int32)), .val (.int v2), .val (.int (1 : Int32)), .val (.ref a_LANCE), .val (.ref e_n), .val (.int (1 : Int32))] [(.int (1 : Int32))]))
          obtain ⟨fs, hrt_, hrun, hended, hW, hsame⟩ := X58.leave (v := some (.int (1 : Int32))) (fun h => by rw [Bd.returns] at h; cases h)
          refine own_fin (retN X58 hx (t := .boolean) Bd.returns (by simp) (hb hby at_97) hrt_) (hRR _ ⟨_, hrun, hended, _, _, rfl, ?_, ⟨_, rfl⟩, hW, hsame.mono (by decide) (by decide)⟩)
          show own_Q0 Z p1 p2 p3 p4 a_IMPROVISED a_ONE_HAND_EDGED a_LANCE a_SPEAR a_TWO_HAND_EDGED a_CLUB h0 n0 _ T58.heap _
          rw [eq58]
          exact ⟨rfl, N58⟩
      · refine own_st (fun _ k => XS.icmpYes X54.here hx rfl (pc0 := 60) (pc' := 77) rfl (hb hby at_60) rfl (feq hc60_55).2 (by decide) (by decide) (XS.aload X54.here hx rfl (hb hby at_77) rfl rfl (XS.iloadN X54.here hx rfl (hb hby at_79) rfl (XS.aload X54.here hx rfl (hb hby at_80) rfl rfl (XS.iload X54.here hx rfl (hb hby at_82) rfl k))))) ?_
        show own_Go p.tables e below RR (T54.setTop (mkF m 84 #[.val (.int p1), .val (.int p2), .val (.int p3), .val (.int p4), .val (.int (5 : Int32)), .val (.int v2), .val (.int (1 : Int32)), .val (.ref a_LANCE), .val (.ref e_n), .val (.int (1 : Int32))] [(.int (1 : Int32)), (.ref e_n), (.int p3), (.ref a_LANCE)]))
        obtain ⟨cq59, kq59, q59a, q59b, q59c⟩ := isOf hZ eq54 E_LANCE
        obtain ⟨_, _, ⟨T59, L59, k59, n59⟩, -, X59, ⟨Lc59, hQ59, l59, y59, z59⟩, st59⟩ := X54.virtualBack hx (y := (⟨"com/example/powderhorn/powderhorn/rules/pigwars/MeleeWeapon", "bonus", "(ILcom/example/powderhorn/powderhorn/rules/pigwars/MeleeWeapon;Z)I"⟩ : MethodName)) (z := (⟨"com/example/powderhorn/powderhorn/rules/pigwars/MeleeWeapon", "bonus", "(ILcom/example/powderhorn/powderhorn/rules/pigwars/MeleeWeapon;Z)I"⟩ : MethodName)) hown (mvT hZ (hw _ (List.mem_of_getElem? (i := 13) rfl))) (mvT hZ (hw _ (List.mem_of_getElem? (i := 14) rfl))) (notFace_of_selects (args := #[]) (mvT hZ (hw _ (List.mem_of_getElem? (i := 16) rfl)))) (mvT hZ (hw _ (List.mem_of_getElem? (i := 16) rfl))) (mvT hZ (hw _ (List.mem_of_getElem? (i := 15) rfl))) (by decide) (backOf (W := 0) (own_rmN l Z a0 hw [] a_LANCE p3 e_n (1 : Int32) (1 : Int32) a_LANCE a_SPEAR (1 : Int32) h0 n0 Z0 S_LANCE S_SPEAR F_LANCE_bonus (if_neg fun q => hc60_55 q.2.1)) hZ (hw _ (List.mem_of_getElem? (i := 17) rfl)) (hw _ (List.mem_of_getElem? (i := 6) rfl)) (by decide) (by decide)) q59a q59c (g := (mkF m 84 #[.val (.int p1), .val (.int p2), .val (.int p3), .val (.int p4), .val (.int (5 : Int32)), .val (.int v2), .val (.int (1 : Int32)), .val (.ref a_LANCE), .val (.ref e_n), .val (.int (1 : Int32))] [(.int (1 : Int32)), (.ref e_n), (.int p3), (.ref a_LANCE)])) rfl (by rw [hml]; rfl) (Steps.refl _) (argsL := [(.int p3), (.ref e_n), (.int (1 : Int32))]) (rest := []) (lenOf own_pd__ILcom_example_powderhorn_powderhorn_rules_pigwars_MeleeWeapon_Z_I rfl) rfl (by show 2 * 0 + _ ≤ _; exact Nat.le_of_eq rfl) (hb hby at_84) (fun _ _ => ⟨rfl, eq54, (by decide : 0 + 0 ≤ _), (by decide : 0 + 0 ≤ _)⟩)
        dsimp only [Pt.U, Pt.locs, Pt.cells, Pt.slots] at X59 l59 y59 z59 st59 hQ59
        subst l59 y59 z59
        obtain ⟨rfl, Nq59, eq59⟩ := hQ59
        have N59 := Fr.app N54 Nq59
        refine own_st (fun _ k => st59.trans k) ?_
        show own_Go p.tables e below RR (T59.setTop (mkF m 87 #[.val (.int p1), .val (.int p2), .val (.int p3), .val (.int p4), .val (.int (5 : Int32)), .val (.int v2), .val (.int (1 : Int32)), .val (.ref a_LANCE), .val (.ref e_n), .val (.int (1 : Int32))] [(.int (1 : Int32))]))
        refine own_st (fun _ k => XS.iload X59.here hx rfl (hb hby at_87) rfl k) ?_
        show own_Go p.tables e below RR (T59.setTop (mkF m 89 #[.val (.int p1), .val (.int p2), .val (.int p3), .val (.int p4), .val (.int (5 : Int32)), .val (.int v2), .val (.int (1 : Int32)), .val (.ref a_LANCE), .val (.ref e_n), .val (.int (1 : Int32))] [(.int (1 : Int32)), (.int (1 : Int32))]))
        refine own_st (fun _ k => XS.icmpNo X59.here hx rfl (hb hby at_89) rfl (teq (by decide)).2 (XS.iconst X59.here hx rfl (hb hby at_92) (XS.goto X59.here hx rfl (pc0 := 93) (pc' := 97) rfl (hb hby at_93) (by decide) (by decide) k))) ?_
        show own_Go p.tables e below RR (T59.setTop (mkF m 97 #[.val (.int p1), .val (.int p2), .val (.int p3), .val (.int p4), .val (.int (5 : Int32)), .val (.int v2), .val (.int (1 : Int32)), .val (.ref a_LANCE), .val (.ref e_n), .val (.int (1 : Int32))] [(.int (1 : Int32))]))
        obtain ⟨fs, hrt_, hrun, hended, hW, hsame⟩ := X59.leave (v := some (.int (1 : Int32))) (fun h => by rw [Bd.returns] at h; cases h)
        refine own_fin (retN X59 hx (t := .boolean) Bd.returns (by simp) (hb hby at_97) hrt_) (hRR _ ⟨_, hrun, hended, _, _, rfl, ?_, ⟨_, rfl⟩, hW, hsame.mono (by decide) (by decide)⟩)
        show own_Q0 Z p1 p2 p3 p4 a_IMPROVISED a_ONE_HAND_EDGED a_LANCE a_SPEAR a_TWO_HAND_EDGED a_CLUB h0 n0 _ T59.heap _
        rw [eq59]
        exact ⟨rfl, N59⟩
set_option maxRecDepth 65536 in
set_option maxHeartbeats 40000000 in
theorem own_comes {Post : Tables → Env → Array Value → State → Outcome → State → Prop} (hpost : ∀ tb e args s v u, (limb_1_1.after args s (.returned v) u = true ∧ limb_1_2.after args s (.returned v) u = true ∧ True) → FrameEnd s (.returned v) u (Jvm.fieldLocs frame_1_writes args s ++ Jvm.arrayLocs frame_1_arrays args s ++ Jvm.staticLocs frame_1_statics s) 0 0 → Post tb e args s (.returned v) u) :
    ArmFor flags0 classFile x code maxLocals ret World_1 tables_1 room_1 Calls_1 rest_1 Pre_1 Post := by
  intro l hfl _ _ p e ha hc hk s m args below hf hA hF happ hP
  obtain ⟨hcalls, hrest, hpre⟩ := hP
  obtain ⟨-, -, -, hnamed, -, -, -, hat⟩ := (Spec.applies_iff hf).mp happ
  obtain ⟨hg, hn⟩ := and_e (Cond.before_iff.mp (show (Jvm.Cond.and given_1 narrow_1).before args s = true from hpre))
  obtain ⟨u1a, u1b⟩ := and_e hg
  obtain ⟨u2a, u2b⟩ := and_e u1b
  obtain ⟨u3a, u3b⟩ := and_e u2b
  obtain ⟨u4a, u4b⟩ := and_e u3b
  obtain ⟨w0, w1, w2, w3, rfl⟩ : ∃ w0 w1 w2 w3 : Value, args = #[w0, w1, w2, w3] := by
    have hs : args.size = 4 := by simpa [Cond.value, given_1] using u1a
    obtain ⟨L⟩ := args
    match L, hs with
    | [w0, w1, w2, w3], _ => exact ⟨w0, w1, w2, w3, rfl⟩
  have hw := fun d (hd : d ∈ tables_1) => atoms_spec (ws := Jvm.Cond.code x code maxLocals ret :: tables_1) hat d (List.mem_cons_of_mem _ hd)
  have hfit : Fit s := fun {y c} hc i hi => by
    obtain ⟨ha, rfl⟩ := Array.getElem?_eq_some_iff.mp hc
    have q := List.all_eq_true.mp ((Array.all_eq_true_iff_forall_mem.mp hF) _ (Array.getElem_mem ha)) i (List.mem_range.mpr hi)
    simpa [Array.getElem?_eq_getElem hi] using q
  obtain ⟨i0, ei0⟩ := is_v u2a
  obtain rfl : w0 = (.int i0) := Option.some.inj ei0
  obtain ⟨i1, ei1⟩ := is_v u3a
  obtain rfl : w1 = (.int i1) := Option.some.inj ei1
  obtain ⟨i2, ei2⟩ := is_v u4a
  obtain rfl : w2 = (.int i2) := Option.some.inj ei2
  obtain ⟨i3, ei3⟩ := is_v u4b
  obtain rfl : w3 = (.int i3) := Option.some.inj ei3
  obtain ⟨u101a, u101b⟩ := and_e hn
  obtain ⟨u102a, u102b⟩ := and_e u101b
  obtain ⟨u103a, u103b⟩ := and_e u102b
  obtain ⟨u104a, u104b⟩ := and_e u103b
  obtain ⟨u105a, u105b⟩ := and_e u104b
  obtain ⟨u106a, u106b⟩ := and_e u105b
  obtain ⟨u107a, u107b⟩ := and_e u106b
  obtain ⟨u108a, u108b⟩ := and_e u107b
  obtain ⟨u109a, u109b⟩ := and_e u108b
  obtain ⟨u110a, u110b⟩ := and_e u109b
  obtain ⟨u111a, u111b⟩ := and_e u110b
  obtain ⟨u112a, u112b⟩ := and_e u111b
  obtain ⟨u113a, u113b⟩ := and_e u112b
  obtain ⟨u114a, u114b⟩ := and_e u113b
  obtain ⟨u115a, u115b⟩ := and_e u114b
  obtain ⟨u116a, u116b⟩ := and_e u115b
  obtain ⟨u117a, u117b⟩ := and_e u116b
  obtain ⟨a_IMPROVISED, v_IMPROVISED⟩ := exa_v u101a
  have E_IMPROVISED := Exa.start v_IMPROVISED u101a
  have S_IMPROVISED := Sta.start v_IMPROVISED (Or.inr ⟨(hw _ (List.mem_of_getElem? (i := 6) rfl)), (hw _ (List.mem_of_getElem? (i := 7) rfl))⟩)
  obtain ⟨a_ONE_HAND_EDGED, v_ONE_HAND_EDGED⟩ := exa_v u102a
  have E_ONE_HAND_EDGED := Exa.start v_ONE_HAND_EDGED u102a
  have S_ONE_HAND_EDGED := Sta.start v_ONE_HAND_EDGED (Or.inr ⟨(hw _ (List.mem_of_getElem? (i := 6) rfl)), (hw _ (List.mem_of_getElem? (i := 9) rfl))⟩)
  obtain ⟨a_LANCE, v_LANCE⟩ := exa_v u103a
  have E_LANCE := Exa.start v_LANCE u103a
  have S_LANCE := Sta.start v_LANCE (Or.inr ⟨(hw _ (List.mem_of_getElem? (i := 6) rfl)), (hw _ (List.mem_of_getElem? (i := 19) rfl))⟩)
  have F_IMPROVISED_ordinal := Fld.start ((fld_at v_IMPROVISED).symm.trans (own_eq_int u104a))
  have F_LANCE_ordinal := Fld.start ((fld_at v_LANCE).symm.trans (own_eq_int u105a))
  have F_IMPROVISED_bonus := Fld.start ((fld_at v_IMPROVISED).symm.trans (own_eq_int u106a))
  obtain ⟨a_SPEAR, v_SPEAR⟩ := exa_v u107a
  have E_SPEAR := Exa.start v_SPEAR u107a
  have S_SPEAR := Sta.start v_SPEAR (Or.inr ⟨(hw _ (List.mem_of_getElem? (i := 6) rfl)), (hw _ (List.mem_of_getElem? (i := 23) rfl))⟩)
  have F_SPEAR_ordinal := Fld.start ((fld_at v_SPEAR).symm.trans (own_eq_int u108a))
  have F_SPEAR_bonus := Fld.start ((fld_at v_SPEAR).symm.trans (own_eq_int u109a))
  obtain ⟨a_TWO_HAND_EDGED, v_TWO_HAND_EDGED⟩ := exa_v u110a
  have E_TWO_HAND_EDGED := Exa.start v_TWO_HAND_EDGED u110a
  have S_TWO_HAND_EDGED := Sta.start v_TWO_HAND_EDGED (Or.inr ⟨(hw _ (List.mem_of_getElem? (i := 6) rfl)), (hw _ (List.mem_of_getElem? (i := 25) rfl))⟩)
  have F_TWO_HAND_EDGED_ordinal := Fld.start ((fld_at v_TWO_HAND_EDGED).symm.trans (own_eq_int u111a))
  have F_TWO_HAND_EDGED_bonus := Fld.start ((fld_at v_TWO_HAND_EDGED).symm.trans (own_eq_int u112a))
  obtain ⟨a_CLUB, v_CLUB⟩ := exa_v u113a
  have E_CLUB := Exa.start v_CLUB u113a
  have S_CLUB := Sta.start v_CLUB (Or.inr ⟨(hw _ (List.mem_of_getElem? (i := 6) rfl)), (hw _ (List.mem_of_getElem? (i := 27) rfl))⟩)
  have F_ONE_HAND_EDGED_ordinal := Fld.start ((fld_at v_ONE_HAND_EDGED).symm.trans (own_eq_int u114a))
  have F_ONE_HAND_EDGED_bonus := Fld.start ((fld_at v_ONE_HAND_EDGED).symm.trans (own_eq_int u115a))
  have F_LANCE_bonus := Fld.start ((fld_at v_LANCE).symm.trans (own_eq_int u116a))
  have F_CLUB_ordinal := Fld.start ((fld_at v_CLUB).symm.trans (own_eq_int u117a))
  have F_CLUB_bonus := Fld.start ((fld_at v_CLUB).symm.trans (own_eq_int u117b))
  obtain ⟨n, o, h1, h2, h3, _, L, rfl, ⟨rfl, N⟩, hq⟩ := own_rm0 l s _ hw tables_1 i0 i1 i2 i3 a_IMPROVISED a_ONE_HAND_EDGED a_LANCE a_SPEAR a_TWO_HAND_EDGED a_CLUB s.heap s.heap.size (Nat.le_refl _) E_IMPROVISED S_IMPROVISED E_ONE_HAND_EDGED S_ONE_HAND_EDGED E_LANCE S_LANCE F_IMPROVISED_ordinal F_LANCE_ordinal F_IMPROVISED_bonus E_SPEAR S_SPEAR F_SPEAR_ordinal F_SPEAR_bonus E_TWO_HAND_EDGED S_TWO_HAND_EDGED F_TWO_HAND_EDGED_ordinal F_TWO_HAND_EDGED_bonus E_CLUB S_CLUB F_ONE_HAND_EDGED_ordinal F_ONE_HAND_EDGED_bonus F_LANCE_bonus F_CLUB_ordinal F_CLUB_bonus p e ha hc hk s m _ below hf ((Spec.applies_iff_loose hf).mp happ).1 ⟨rfl, State.Warmed39.refl s, rfl⟩ trivial
  refine ⟨n, _, h1, h2, h3, hpost _ _ _ _ _ _ ⟨Cond.after_iff.mpr rfl, Cond.after_iff.mpr (eq_i res_at (Term.int_eval (1)) rfl), trivial⟩ ⟨hq.1, hq.2.1, (hq.2.2.sift fun y hy => Or.inr (N y hy)).mono (by decide) (by decide)⟩⟩
theorem main_1_1 : Claimed_1_1 := own_comes fun _ _ _ _ _ _ h hF => ⟨h.1, hF⟩
theorem main_1_2 : Claimed_1_2 := own_comes fun _ _ _ _ _ _ h hF => ⟨h.2.1, hF⟩
end Jvm.Pilot.@@N@@
namespace Jvm.Pilot.@@N@@
open Jvm Jvm.ClassFile Sem Op Lib Jvm.Free Jvm.Stand Jvm.Pilot.@@N@@.Jvm.D
/-! MADE BY PROGRAM (witnessworld.py) out of the Statement's table words and the real class files: 10 classes; the members and pool entries that the words name. The judged class is class 1, her method 3. -/
namespace start1
open Jvm.ClassFile
def u (s : String) : CpInfo := .utf8 (stringToUtf16 s)
/-- a pool by its gaps: so many unusable entries, then the entry; so many at the end -/
def gap : Nat → List CpInfo → List CpInfo
  | 0, r => r
  | n + 1, r => .unusable :: gap n r
def poolList (es : List (Nat × CpInfo)) (last : Nat) : List CpInfo := es.foldr (fun e r => gap e.1 (e.2 :: r)) (gap last [])
def pool (es : List (Nat × CpInfo)) (last : Nat) : Array CpInfo := ⟨poolList es last⟩
def fileOf (pool : Array CpInfo) (this : Nat) (attrs : Array Attribute := #[]) (ms : Array MethodInfo := #[]) (fl : Nat := 33) (sup : Nat := 0) (ifs : Array Nat := #[]) (fds : Array FieldInfo := #[]) : ClassFile where
  minorVersion := 0
  majorVersion := 65
  constantPool := pool
  accessFlags := fl
  thisClass := this
  superClass := sup
  interfaces := ifs
  fields := fds
  methods := ms
  attributes := attrs
def plain (name : String) (sup : Option ClassId) : Class where
  name := name
  kind := .ordinary
  loader := none
  accessFlags := 33
  super := sup
  interfaces := #[]
  cf := none
  fields := #[]
  methods := #[]
  instanceTypes := #[]
  staticTypes := #[]
  resolved := #[]
  callSites := []
  init := .initialized
  statics := none
  mirror := none

def pool0 : Array CpInfo := pool [(5, u "<init>"), (0, u "()V"), (1, .class_ 10), (1, u "java/lang/Object")] 113

def k0m0 : Method := { name := "<init>", desc := "()V", sig := { parameters := [], returnType := none }, accessFlags := 1, code := none }
/-- java/lang/Object -/
def k0 : Class := { plain "java/lang/Object" none with
  accessFlags := 33
  interfaces := #[]
  cf := some (fileOf pool0 8 #[] #[{ accessFlags := 1, nameIndex := 5, descriptorIndex := 6, attributes := #[] }] 33 0 #[] #[])
  fields := #[]
  methods := #[k0m0]
  instanceTypes := #[]
  staticTypes := #[]
  resolved := Array.replicate 124 none
  statics := none }

def pool1 : Array CpInfo := pool [(2, .class_ 4), (1, u "java/lang/Object"), (0, u "<init>"), (0, u "()V"), (0, .fieldref 8 9), (0, .class_ 10), (0, .nameAndType 11 12), (0, u "com/example/powderhorn/powderhorn/rules/pigwars/MeleeWeapon"), (0, u "IMPROVISED"), (0, u "Lcom/example/powderhorn/powderhorn/rules/pigwars/MeleeWeapon;"), (0, .fieldref 8 14), (0, .nameAndType 15 12), (0, u "SPEAR"), (0, .fieldref 8 17), (0, .nameAndType 18 12), (0, u "CLUB"), (0, .fieldref 8 20), (0, .nameAndType 21 12), (0, u "ONE_HAND_EDGED"), (0, .fieldref 8 23), (0, .nameAndType 24 12), (0, u "TWO_HAND_EDGED"), (0, .fieldref 8 26), (0, .nameAndType 27 12), (0, u "LANCE"), (0, .integer 2147483647), (0, .methodref 30 31), (0, .class_ 32), (0, .nameAndType 33 34), (0, u "com/example/powderhorn/powderhorn/rules/pigwars/MeleeWeaponBonusPinLaw"), (0, u "pick"), (0, u "(I)Lcom/example/powderhorn/powderhorn/rules/pigwars/MeleeWeapon;"), (0, .methodref 30 36), (0, .nameAndType 37 38), (0, u "base"), (0, u "(I)I"), (0, .methodref 8 40), (0, .nameAndType 41 42), (0, u "bonus"), (0, u "(ILcom/example/powderhorn/powderhorn/rules/pigwars/MeleeWeapon;Z)I"), (3, u "law"), (0, u "(IIII)Z")] 2

def k1m0 : Method := { name := "<init>", desc := "()V", sig := { parameters := [], returnType := none }, accessFlags := 1, code := none }
def k1c1 : Code := { maxStack := 2, maxLocals := 1, code := method_2_code, exceptionTable := #[], attributes := #[] }
def k1m1 : Method := { name := "pick", desc := "(I)Lcom/example/powderhorn/powderhorn/rules/pigwars/MeleeWeapon;", sig := { parameters := [.int], returnType := some (.object "com/example/powderhorn/powderhorn/rules/pigwars/MeleeWeapon") }, accessFlags := 10, code := some k1c1 }
def k1c2 : Code := { maxStack := 2, maxLocals := 1, code := method_3_code, exceptionTable := #[], attributes := #[] }
def k1m2 : Method := { name := "base", desc := "(I)I", sig := { parameters := [.int], returnType := some .int }, accessFlags := 10, code := some k1c2 }
def k1c3 : Code := { maxStack := 4, maxLocals := 10, code := code, exceptionTable := #[], attributes := #[] }
def k1m3 : Method := { name := "law", desc := "(IIII)Z", sig := { parameters := [.int, .int, .int, .int], returnType := some .boolean }, accessFlags := 9, code := some k1c3 }
/-- com/example/powderhorn/powderhorn/rules/pigwars/MeleeWeaponBonusPinLaw -/
def k1 : Class := { plain "com/example/powderhorn/powderhorn/rules/pigwars/MeleeWeaponBonusPinLaw" (some 0) with
  accessFlags := 49
  interfaces := #[]
  cf := some (fileOf pool1 30 #[] #[{ accessFlags := 1, nameIndex := 5, descriptorIndex := 6, attributes := #[] }, { accessFlags := 10, nameIndex := 33, descriptorIndex := 34, attributes := #[] }, { accessFlags := 10, nameIndex := 37, descriptorIndex := 38, attributes := #[] }, { accessFlags := 9, nameIndex := 46, descriptorIndex := 47, attributes := #[] }] 49 2 #[] #[])
  fields := #[]
  methods := #[k1m0, k1m1, k1m2, k1m3]
  instanceTypes := #[]
  staticTypes := #[]
  resolved := Array.replicate 50 none
  statics := none }

def pool2 : Array CpInfo := pool [(1, .class_ 2), (0, u "java/lang/constant/Constable"), (0, .class_ 4), (0, u "java/lang/Object")] 6

/-- java/lang/constant/Constable -/
def k2 : Class := { plain "java/lang/constant/Constable" (some 0) with
  accessFlags := 1537
  interfaces := #[]
  cf := some (fileOf pool2 1 #[] #[] 1537 3 #[] #[])
  fields := #[]
  methods := #[]
  instanceTypes := #[]
  staticTypes := #[]
  resolved := Array.replicate 11 none
  statics := none }

def pool3 : Array CpInfo := pool [(1, .class_ 2), (0, u "java/lang/Comparable"), (0, .class_ 4), (0, u "java/lang/Object")] 7

/-- java/lang/Comparable -/
def k3 : Class := { plain "java/lang/Comparable" (some 0) with
  accessFlags := 1537
  interfaces := #[]
  cf := some (fileOf pool3 1 #[] #[] 1537 3 #[] #[])
  fields := #[]
  methods := #[]
  instanceTypes := #[]
  staticTypes := #[]
  resolved := Array.replicate 12 none
  statics := none }

def pool4 : Array CpInfo := pool [(1, .class_ 2), (0, u "java/io/Serializable"), (0, .class_ 4), (0, u "java/lang/Object")] 2

/-- java/io/Serializable -/
def k4 : Class := { plain "java/io/Serializable" (some 0) with
  accessFlags := 1537
  interfaces := #[]
  cf := some (fileOf pool4 1 #[] #[] 1537 3 #[] #[])
  fields := #[]
  methods := #[]
  instanceTypes := #[]
  staticTypes := #[]
  resolved := Array.replicate 7 none
  statics := none }

def pool5 : Array CpInfo := pool [(2, .class_ 4), (1, u "java/lang/Enum"), (0, u "name"), (0, u "Ljava/lang/String;"), (2, u "ordinal"), (0, u "I"), (1, .class_ 14), (1, u "java/lang/Object"), (4, u "hash"), (86, .class_ 108), (1, u "java/lang/Enum$EnumDesc"), (2, .class_ 112), (0, u "java/lang/constant/Constable"), (0, .class_ 114), (0, u "java/lang/Comparable"), (0, .class_ 116), (0, u "java/io/Serializable")] 87

/-- java/lang/Enum -/
def k5 : Class := { plain "java/lang/Enum" (some 0) with
  accessFlags := 1057
  interfaces := #[2, 3, 4]
  cf := some (fileOf pool5 2 #[.nestMembers #[106]] #[] 1057 12 #[111, 113, 115] #[{ accessFlags := 18, nameIndex := 5, descriptorIndex := 6, attributes := #[] }, { accessFlags := 18, nameIndex := 9, descriptorIndex := 10, attributes := #[] }, { accessFlags := 2, nameIndex := 19, descriptorIndex := 10, attributes := #[] }])
  fields := #[{ name := "name", type := (.object "java/lang/String"), accessFlags := 18, slot := 0, constantValue := 0 }, { name := "ordinal", type := .int, accessFlags := 18, slot := 1, constantValue := 0 }, { name := "hash", type := .int, accessFlags := 2, slot := 2, constantValue := 0 }]
  methods := #[]
  instanceTypes := #[(.object "java/lang/String"), .int, .int]
  staticTypes := #[]
  resolved := Array.replicate 204 none
  statics := none }

def pool6 : Array CpInfo := pool [(1, .class_ 2), (0, u "com/example/powderhorn/powderhorn/rules/pigwars/MeleeWeapon"), (2, u "IMPROVISED"), (0, u "Lcom/example/powderhorn/powderhorn/rules/pigwars/MeleeWeapon;"), (0, .fieldref 1 8), (0, .nameAndType 9 6), (0, u "SPEAR"), (2, u "CLUB"), (2, u "ONE_HAND_EDGED"), (2, u "TWO_HAND_EDGED"), (0, .fieldref 1 20), (0, .nameAndType 21 6), (0, u "LANCE"), (2, u "$VALUES"), (0, u "[Lcom/example/powderhorn/powderhorn/rules/pigwars/MeleeWeapon;"), (6, .class_ 34), (1, u "java/lang/Enum"), (8, u "name"), (0, u "Ljava/lang/String;"), (0, .fieldref 1 46), (0, .nameAndType 47 48), (0, u "bonus"), (0, u "I"), (25, u "LANCE_CHARGE"), (8, u "(ILcom/example/powderhorn/powderhorn/rules/pigwars/MeleeWeapon;Z)I")] 8

def k6c0 : Code := { maxStack := 2, maxLocals := 5, code := prog_60_method_4_code, exceptionTable := #[], attributes := #[] }
def k6m0 : Method := { name := "bonus", desc := "(ILcom/example/powderhorn/powderhorn/rules/pigwars/MeleeWeapon;Z)I", sig := { parameters := [.int, (.object "com/example/powderhorn/powderhorn/rules/pigwars/MeleeWeapon"), .boolean], returnType := some .int }, accessFlags := 1, code := some k6c0 }
/-- com/example/powderhorn/powderhorn/rules/pigwars/MeleeWeapon -/
def k6 : Class := { plain "com/example/powderhorn/powderhorn/rules/pigwars/MeleeWeapon" (some 5) with
  accessFlags := 16433
  interfaces := #[]
  cf := some (fileOf pool6 1 #[] #[{ accessFlags := 1, nameIndex := 47, descriptorIndex := 83, attributes := #[] }] 16433 32 #[] #[{ accessFlags := 16409, nameIndex := 5, descriptorIndex := 6, attributes := #[] }, { accessFlags := 16409, nameIndex := 9, descriptorIndex := 6, attributes := #[] }, { accessFlags := 16409, nameIndex := 12, descriptorIndex := 6, attributes := #[] }, { accessFlags := 16409, nameIndex := 15, descriptorIndex := 6, attributes := #[] }, { accessFlags := 16409, nameIndex := 18, descriptorIndex := 6, attributes := #[] }, { accessFlags := 16409, nameIndex := 21, descriptorIndex := 6, attributes := #[] }, { accessFlags := 25, nameIndex := 74, descriptorIndex := 48, attributes := #[] }, { accessFlags := 18, nameIndex := 43, descriptorIndex := 44, attributes := #[] }, { accessFlags := 18, nameIndex := 47, descriptorIndex := 48, attributes := #[] }, { accessFlags := 4122, nameIndex := 24, descriptorIndex := 25, attributes := #[] }])
  fields := #[{ name := "IMPROVISED", type := (.object "com/example/powderhorn/powderhorn/rules/pigwars/MeleeWeapon"), accessFlags := 16409, slot := 0, constantValue := 0 }, { name := "SPEAR", type := (.object "com/example/powderhorn/powderhorn/rules/pigwars/MeleeWeapon"), accessFlags := 16409, slot := 1, constantValue := 0 }, { name := "CLUB", type := (.object "com/example/powderhorn/powderhorn/rules/pigwars/MeleeWeapon"), accessFlags := 16409, slot := 2, constantValue := 0 }, { name := "ONE_HAND_EDGED", type := (.object "com/example/powderhorn/powderhorn/rules/pigwars/MeleeWeapon"), accessFlags := 16409, slot := 3, constantValue := 0 }, { name := "TWO_HAND_EDGED", type := (.object "com/example/powderhorn/powderhorn/rules/pigwars/MeleeWeapon"), accessFlags := 16409, slot := 4, constantValue := 0 }, { name := "LANCE", type := (.object "com/example/powderhorn/powderhorn/rules/pigwars/MeleeWeapon"), accessFlags := 16409, slot := 5, constantValue := 0 }, { name := "LANCE_CHARGE", type := .int, accessFlags := 25, slot := 6, constantValue := 0 }, { name := "name", type := (.object "java/lang/String"), accessFlags := 18, slot := 3, constantValue := 0 }, { name := "bonus", type := .int, accessFlags := 18, slot := 4, constantValue := 0 }, { name := "$VALUES", type := (.array (.object "com/example/powderhorn/powderhorn/rules/pigwars/MeleeWeapon")), accessFlags := 4122, slot := 7, constantValue := 0 }]
  methods := #[k6m0]
  instanceTypes := #[(.object "java/lang/String"), .int, .int, (.object "java/lang/String"), .int]
  staticTypes := #[(.object "com/example/powderhorn/powderhorn/rules/pigwars/MeleeWeapon"), (.object "com/example/powderhorn/powderhorn/rules/pigwars/MeleeWeapon"), (.object "com/example/powderhorn/powderhorn/rules/pigwars/MeleeWeapon"), (.object "com/example/powderhorn/powderhorn/rules/pigwars/MeleeWeapon"), (.object "com/example/powderhorn/powderhorn/rules/pigwars/MeleeWeapon"), (.object "com/example/powderhorn/powderhorn/rules/pigwars/MeleeWeapon"), .int, (.array (.object "com/example/powderhorn/powderhorn/rules/pigwars/MeleeWeapon"))]
  resolved := Array.replicate 92 none
  statics := some 0 }

def pool7 : Array CpInfo := pool [(1, u "java/lang/Cloneable"), (0, .class_ 1), (0, u "java/lang/Object"), (0, .class_ 3)] 3

/-- java/lang/Cloneable -/
def k7 : Class := { plain "java/lang/Cloneable" (some 0) with
  accessFlags := 1537
  interfaces := #[]
  cf := some (fileOf pool7 2 #[] #[] 1537 4 #[] #[])
  fields := #[]
  methods := #[]
  instanceTypes := #[]
  staticTypes := #[]
  resolved := Array.replicate 8 none
  statics := none }

/-- the primitive byte -/
def k8 : Class := { plain "byte" none with kind := .primitive 'B', accessFlags := 0x411 }
/-- [B -/
def k9 : Class := { plain "[B" (some 0) with kind := .array 8 .byte, interfaces := #[7, 4], accessFlags := 1041 }

def heap : Heap := #[{ cls := 6, slots := #[.ref 1, .ref 4, .ref 6, .ref 2, .ref 5, .ref 3, .int 0, .null], vm := .statics 6 },
  { cls := 6, slots := #[.null, .int 0, .int 0, .null, .int 0], vm := .none },
  { cls := 6, slots := #[.null, .int 3, .int 0, .null, .int 2], vm := .none },
  { cls := 6, slots := #[.null, .int 5, .int 0, .null, .int 1], vm := .none },
  { cls := 6, slots := #[.null, .int 1, .int 0, .null, .int 1], vm := .none },
  { cls := 6, slots := #[.null, .int 4, .int 0, .null, .int 3], vm := .none },
  { cls := 6, slots := #[.null, .int 2, .int 0, .null, .int 1], vm := .none }]
def classes : Array Class := #[k0, k1, k2, k3, k4, k5, k6, k7, k8, k9]
def interned : List (Array UInt16 × Addr) := []
def slotsUsed : Nat := 38
def theMethod : MethodId := ⟨1, 3⟩
def args0 : Array Value := #[.int 5, .int 3, .int 1, .int 1]
def aboutOver (below : List Frame) : State where
  vm := { classes := classes, interned := interned.toArray }
  heap := heap
  slotsUsed := slotsUsed
  threads := #[{ frames := .invoking theMethod args0 :: below }]
def below0 : List Frame := [.native { method := ⟨0, 0⟩, args := #[] }]
def about1 : State := aboutOver below0
def p0 : Program := .bare "" "" ""
def e0 : Env := launch0.env 0 0 0
theorem w_frames : about1.frames = Frame.invoking theMethod args0 :: below0 := rfl
set_option maxRecDepth 65536 in
theorem w_args : argsFit about1.vm theMethod args0 = true := by decide +kernel
set_option maxRecDepth 65536 in
theorem w_heap : heapFits about1 = true := by decide +kernel
set_option maxRecDepth 65536 in
theorem w_runnable : about1.curStatus? = some .runnable := by decide +kernel
set_option maxRecDepth 65536 in
theorem w_alone : about1.alone = true := by decide +kernel
set_option maxRecDepth 65536 in
theorem w_named : about1.methodNamed? x = some theMethod := by decide +kernel
set_option maxRecDepth 65536 in
theorem w_hears : about1.hears theMethod below0 = true := by decide +kernel
set_option maxRecDepth 65536 in
theorem w_ripe : about1.ripe theMethod args0 below0 = true := by decide +kernel
theorem w_running : about1.status = .running := rfl
set_option maxRecDepth 65536 in
theorem w_room : about1.hasRoom e0.platform room_1 = true :=
  launch0.hasRoom_least _ room_1 (by decide +kernel) (by decide +kernel) (by decide +kernel) (by decide +kernel) (by decide +kernel) (by decide +kernel)
theorem allAtoms_all (ts : List Jvm.Cond) (a : Array Jvm.Value) (st : Jvm.State) : (allAtoms ts).before a st = ts.all (fun c => c.before a st) := by
  induction ts with
  | nil => rfl
  | cons c t ih =>
    show (Jvm.Cond.and c (allAtoms t)).before a st = _
    rw [Jvm.Cond.before_and, ih, List.all_cons]
def words1 : List Jvm.Cond := Jvm.Cond.code x code maxLocals ret :: tables_1
/-- a 'code' word, met by the world's own term for the bytes: nothing is compared byte by byte -/
theorem code_word {y : MethodName} {bytes : ByteArray} {mx : Nat} {rt : Option FieldType} {a : Array Value} {s : State} {m : MethodId} {meth : Method} {c : Code} (h1 : s.methodNamed? y = some m) (h2 : s.vm.method? m = some meth) (h3 : meth.code = some c) (h4 : c.code = bytes)
    (h5 : (c.maxLocals == mx && c.exceptionTable.isEmpty && decide (c.maxStack ≤ mostOperands) && decide (meth.sig.returnType = rt) && !meth.locks && decide (parseMethodDescriptor y.desc = some meth.sig)) = true) : (Jvm.Cond.code y bytes mx rt).before a s = true := by
  simp only [Bool.and_eq_true, beq_iff_eq, Bool.not_eq_true', decide_eq_true_eq] at h5
  obtain ⟨⟨⟨⟨⟨g1, g2⟩, g3⟩, g4⟩, g5⟩, g6⟩ := h5
  simp [Cond.before, Cond.holds, Cond.value, h1, h2, h3, h4, g1, g2, g3, g4, g5, g6]
def isCode : Jvm.Cond → Bool
  | .code _ _ _ _ => true
  | _ => false
theorem all_split {L : List Jvm.Cond} {P : Jvm.Cond → Bool} (h1 : L.all (fun c => isCode c || P c) = true) (h2 : ∀ c ∈ L.filter isCode, P c = true) : L.all P = true := by
  refine List.all_eq_true.mpr fun c hc => ?_
  have h := List.all_eq_true.mp h1 c hc
  rcases Bool.eq_false_or_eq_true (isCode c) with hi | hi
  · exact h2 c (List.mem_filter.mpr ⟨hc, hi⟩)
  · simpa [hi] using h
set_option maxRecDepth 65536 in
theorem w_c0 : (Jvm.Cond.code x code maxLocals ret).before args0 about1 = true := code_word (m := ⟨1, 3⟩) (meth := k1m3) (c := k1c3) (by decide +kernel) rfl rfl rfl (by decide +kernel)
set_option maxRecDepth 65536 in
theorem w_c1 : (Jvm.Cond.code ({ cls := "com/example/powderhorn/powderhorn/rules/pigwars/MeleeWeaponBonusPinLaw", name := "pick", desc := "(I)Lcom/example/powderhorn/powderhorn/rules/pigwars/MeleeWeapon;" } : Jvm.MethodName) method_2_code (1 : Nat) (Option.some (Jvm.ClassFile.FieldType.object "com/example/powderhorn/powderhorn/rules/pigwars/MeleeWeapon"))).before args0 about1 = true := code_word (m := ⟨1, 1⟩) (meth := k1m1) (c := k1c1) (by decide +kernel) rfl rfl rfl (by decide +kernel)
set_option maxRecDepth 65536 in
theorem w_c2 : (Jvm.Cond.code ({ cls := "com/example/powderhorn/powderhorn/rules/pigwars/MeleeWeaponBonusPinLaw", name := "base", desc := "(I)I" } : Jvm.MethodName) method_3_code (1 : Nat) (Option.some Jvm.ClassFile.FieldType.int)).before args0 about1 = true := code_word (m := ⟨1, 2⟩) (meth := k1m2) (c := k1c2) (by decide +kernel) rfl rfl rfl (by decide +kernel)
set_option maxRecDepth 65536 in
theorem w_c3 : (Jvm.Cond.code ({ cls := "com/example/powderhorn/powderhorn/rules/pigwars/MeleeWeapon", name := "bonus", desc := "(ILcom/example/powderhorn/powderhorn/rules/pigwars/MeleeWeapon;Z)I" } : Jvm.MethodName) prog_60_method_4_code (5 : Nat) (Option.some Jvm.ClassFile.FieldType.int)).before args0 about1 = true := code_word (m := ⟨6, 0⟩) (meth := k6m0) (c := k6c0) (by decide +kernel) rfl rfl rfl (by decide +kernel)
def codes1 : List Jvm.Cond := [Jvm.Cond.code x code maxLocals ret, Jvm.Cond.code ({ cls := "com/example/powderhorn/powderhorn/rules/pigwars/MeleeWeaponBonusPinLaw", name := "pick", desc := "(I)Lcom/example/powderhorn/powderhorn/rules/pigwars/MeleeWeapon;" } : Jvm.MethodName) method_2_code (1 : Nat) (Option.some (Jvm.ClassFile.FieldType.object "com/example/powderhorn/powderhorn/rules/pigwars/MeleeWeapon")), Jvm.Cond.code ({ cls := "com/example/powderhorn/powderhorn/rules/pigwars/MeleeWeaponBonusPinLaw", name := "base", desc := "(I)I" } : Jvm.MethodName) method_3_code (1 : Nat) (Option.some Jvm.ClassFile.FieldType.int), Jvm.Cond.code ({ cls := "com/example/powderhorn/powderhorn/rules/pigwars/MeleeWeapon", name := "bonus", desc := "(ILcom/example/powderhorn/powderhorn/rules/pigwars/MeleeWeapon;Z)I" } : Jvm.MethodName) prog_60_method_4_code (5 : Nat) (Option.some Jvm.ClassFile.FieldType.int)]
set_option maxRecDepth 65536 in
theorem codes_eq : words1.filter isCode = codes1 := rfl
theorem w_codes : ∀ c ∈ words1.filter isCode, c.before args0 about1 = true := by
  rw [codes_eq]
  intro c hc
  simp only [codes1, List.mem_cons, List.not_mem_nil, or_false] at hc
  rcases hc with rfl | rfl | rfl | rfl
  · exact w_c0
  · exact w_c1
  · exact w_c2
  · exact w_c3
set_option maxRecDepth 65536 in
theorem w_t1 : (words1.take 24).all (fun c => isCode c || c.before args0 about1) = true := by decide +kernel
set_option maxRecDepth 65536 in
theorem w_t2 : (words1.drop 24).all (fun c => isCode c || c.before args0 about1) = true := by decide +kernel
theorem w_tables : (allAtoms (Jvm.Cond.code x code maxLocals ret :: tables_1)).before args0 about1 = true := by
  rw [allAtoms_all]
  show words1.all (fun c => c.before args0 about1) = true
  refine all_split ?_ w_codes
  rw [← List.take_append_drop 24 words1, List.all_append, w_t1, w_t2]
  rfl
set_option maxRecDepth 65536 in
theorem w_case : (Jvm.Cond.and given_1 narrow_1).before args0 about1 = true := by decide +kernel
theorem w_applies : (headSpec (Jvm.Cond.code x code maxLocals ret :: tables_1) room_1).applies x e0.platform about1 = true :=
  (Spec.applies_iff w_frames).mpr ⟨w_running, w_runnable, w_alone, w_named, w_hears, w_ripe, w_room, w_tables⟩
theorem atStart : AtStart classFile x code maxLocals ret World_1 tables_1 room_1 Calls_1 rest_1 Pre_1 launch0 p0 e0 about1 theMethod args0 below0 :=
  ⟨lists_1, trivial, launch0.admits_env _ _ _, launch0.least_env, fairChoices_fair.cas, fairChoices_fair.clock, w_frames, w_args, w_heap, w_applies, trivial, trivial, w_case⟩
end start1
theorem witness_1 : WitnessClaimed_1 := ⟨start1.p0, start1.e0, start1.about1, start1.theMethod, start1.args0, start1.below0, start1.atStart⟩
end Jvm.Pilot.@@N@@
