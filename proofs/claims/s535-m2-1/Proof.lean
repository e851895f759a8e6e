import JvmDerived
import JvmDerived.Pilot.@@N@@Statement
import JvmDerived.Pilot.@@N@@Code
set_option linter.unusedVariables false
set_option linter.unusedSimpArgs false
namespace Jvm.RoadKit
open Sem ClassFile Op Lib Jvm.Stand Jvm.Free Jvm.LawKit
section Own
/-- from u a state is reached where R holds -/
def own_Go (tb : Tables) (e : Env) (below : List Frame) (R : State → Prop) (u : State) : Prop := ∃ t, Steps tb e below u t ∧ R t
theorem own_st {tb : Tables} {e : Env} {below : List Frame} {R : State → Prop} {u v : State} (h : ∀ t, Steps tb e below v t → Steps tb e below u t) (g : own_Go tb e below R v) : own_Go tb e below R u := by
  obtain ⟨t, h1, h2⟩ := g
  exact ⟨t, h t h1, h2⟩
theorem own_fin {tb : Tables} {e : Env} {below : List Frame} {R : State → Prop} {u t : State} (h : Steps tb e below u t) (r : R t) : own_Go tb e below R u := ⟨t, h, r⟩
theorem own_in {tb : Tables} {e : Env} {below : List Frame} {u v : State} {P : State → Outcome → Prop} (h : ∀ t, Steps tb e below v t → Steps tb e below u t)
    (g : ∀ RR : State → Prop, (∀ t, (∃ o, t.status = .running ∧ P t o) → RR t) → own_Go tb e below RR v) : ∃ t o, Steps tb e below u t ∧ t.status = .running ∧ P t o := by
  obtain ⟨t, h1, o, h2, h3⟩ := g (fun t => ∃ o, t.status = .running ∧ P t o) fun _ q => q
  exact ⟨t, o, h t h1, h2, h3⟩
theorem own_ri {x y : Int32} (h : x = y) : some (Value.int x) = some (Value.int y) := h ▸ rfl
theorem own_rj {x y : Int64} (h : x = y) : some (Value.long x) = some (Value.long y) := h ▸ rfl
theorem own_rr {x y : Addr} (h : x = y) : some (Value.ref x) = some (Value.ref y) := h ▸ rfl
theorem own_eq_int {args : Array Value} {first s : State} {o : Option Outcome} {idx : List Nat} {a : Term} {k : Int32} (h : (Cond.eq a (.int k)).value args first o s idx = some true) : a.eval args first o idx s = some (.int k) := by
  simp only [Cond.value, Term.eval] at h
  cases ht : a.eval args first o idx s with
  | none => simp [ht] at h
  | some x => cases x <;> simp [ht] at h ⊢; exact h
theorem own_eq_long {args : Array Value} {first s : State} {o : Option Outcome} {idx : List Nat} {a : Term} {k : Int64} (h : (Cond.eq a (.long k)).value args first o s idx = some true) : a.eval args first o idx s = some (.long k) := by
  simp only [Cond.value, Term.eval] at h
  cases ht : a.eval args first o idx s with
  | none => simp [ht] at h
  | some x => cases x <;> simp [ht] at h ⊢; exact h
theorem own_selP {s : State} {args : Array Value} {y : MethodName} {n : Nat} (wi : (Cond.instantiable y.cls n).before args s = true) (hp : s.PrivateAt y) (hi : (Cond.instanceMethod y).before args s = true) (hy : y.cls ≠ "java/lang/invoke/MethodHandle" ∧ y.cls ≠ "java/lang/invoke/VarHandle") : (Cond.selects y.cls y y).before args s = true := by
  obtain ⟨c, k, h1, h2, -, h4, -⟩ := Cond.instantiable_spec wi
  exact selects_self_of_private h1 h2 (Bool.or_eq_false_iff.mp h4).1 hp hi hy
variable {p : Program} {l : Launch} {e : Env} {R : Room} {s : State} {m : MethodId} {args : Array Value} {below : List Frame} {meth : Method} {c : Code} {T : State} {locs : List Loc} {cells slots : Nat} {Z : State} {h : Heap}
theorem retI (X : Stand p l e R s m args below meth c T locs cells slots) (hx : p.tables.exec = Jvm.exec) {pc : Nat} {Ls : Array Slot} {z : Int32} {rest : List Value} (hret : meth.sig.returnType = some .int) (hd : decode c.code pc = .ok (.ireturn, 1)) {fs : List Frame}
    (hl : ∀ (f : JFrame) (acts : List Action), f.method = m → f.locked = none → f.entered = [] → (doReturn e (T.setTop f) acts (some (.int z))).1 = T.setFrames fs) : Steps p.tables e below (T.setTop (mkF m pc Ls (.int z :: rest))) (T.setFrames fs) :=
  retOut X hx hret rfl (Or.inl ⟨rfl, Or.inl rfl, z, rfl⟩) hd hl
theorem own_len (X : Stand p l e R s m args below meth c T locs cells slots) (hx : p.tables.exec = Jvm.exec) (hZ : Z.Warmed39 s.vm) (eT : T.heap = h) {a : Addr} {cl : Cell} {ty : FieldType} (A : Arr Z h a cl ty) {z : Int32} (S : cl.slots.size = z.toNatClampNeg) (N : ¬ z < 0)
    {g : JFrame} (hg : g.method = m) {rest : List Value} (hs : g.stack = .ref a :: rest) (hd : decode c.code g.pc = .ok (.arraylength, 1)) {target : State}
    (k : Steps p.tables e below (T.setTop { g with pc := g.pc + 1, stack := .int z :: rest }) target) : Steps p.tables e below (T.setTop g) target :=
  X.arraylength hx (by rw [eT]; exact A.1) (State.isArrayOf_alike hZ.alike A.2.1) hg hs hd target (by rw [len_of S N]; exact k)
end Own
end Jvm.RoadKit
namespace Jvm.Pilot.@@N@@
open Jvm Jvm.ClassFile Sem Op Lib Jvm.Free Jvm.Stand Jvm.LawKit Jvm.RoadKit Bundle Jvm.Pilot.@@N@@.Jvm.D
theorem own_six {x v : Int32} (h : (x &&& (2147483647 : Int32)) % (6 : Int32) = v) : v = 0 ∨ v = 1 ∨ v = 2 ∨ v = 3 ∨ v = 4 ∨ v = 5 := by
  have h1 := c_mask x 2147483647 31 (by decide) (by decide)
  have h2 := c_irem (x &&& 2147483647) 6 6 (by decide)
  rw [h] at h2
  have e : v.toInt = 0 ∨ v.toInt = 1 ∨ v.toInt = 2 ∨ v.toInt = 3 ∨ v.toInt = 4 ∨ v.toInt = 5 := by omega
  simpa [← Int32.toInt_inj] using e
theorem own_pos {p : Int32} (h1 : ¬ p < (0 : Int32)) (h2 : ¬ p = (0 : Int32)) : (0 : Int32) < p := by
  rw [Int32.lt_iff_toInt_lt] at *
  have : ¬ p.toInt = (0 : Int32).toInt := fun q => h2 (Int32.toInt_inj.mp q)
  omega
theorem own_np {p : Int32} (h1 : p < (0 : Int32)) : ¬ (0 : Int32) < p := by
  rw [Int32.lt_iff_toInt_lt] at *
  omega
theorem own_nz {p : Int32} (h1 : p < (0 : Int32)) : ¬ p = (0 : Int32) := by
  rintro rfl
  exact absurd h1 (by decide)
theorem own_z {p : Int32} (h1 : p = (0 : Int32)) : ¬ (0 : Int32) < p ∧ ¬ p < (0 : Int32) := by
  subst h1
  decide
theorem own_pn_java_lang_Enum : plainName "java/lang/Enum" = true := by first | (simp [plainName, overriddenIn]; done) | decide +kernel
theorem own_djdk_37_method_2_code_0 : decode jdk_37_method_2_code 0 = .ok (.aload_n 0, 1) := by decide +kernel
theorem own_djdk_37_method_2_code_1 : decode jdk_37_method_2_code 1 = .ok (.getfield 7, 3) := by decide +kernel
theorem own_djdk_37_method_2_code_4 : decode jdk_37_method_2_code 4 = .ok (.ireturn, 1) := by decide +kernel
theorem own_efN (m : MethodId) (o : Addr) : entryFrame m #[(.ref o)] 1 = mkF m 0 #[.val (.ref o)] [] := by first | (simp [entryFrame, mkF, argsToLocals, Value.category]; done) | rfl
def own_QN (Z : State) (o : Addr) (k : Int32) (h0 : Heap) (n0 : Nat) (rv__ : Option Value) (h : Heap) (rL__ : List Loc) : Prop := rv__ = some (.int k) ∧ Fr n0 rL__ ∧ h = h0
abbrev own_RN : Room := { frames := 0, cells := 0, slots := 0, locals := 0 }
set_option maxRecDepth 65536 in
set_option maxHeartbeats 40000000 in
theorem own_rmN (l : Launch) (Z : State) (a0 : Array Value) (hw : ∀ d ∈ tables_1, d.before a0 Z = true) (ws : List Jvm.Cond) (o : Addr) (k : Int32) (h0 : Heap) (n0 : Nat) (Z0 : n0 ≤ h0.size) (F : Fld Z h0 o "java/lang/Enum" "ordinal" "I" (.int k)) :
    MetFree l (⟨"java/lang/Enum", "ordinal", "()I"⟩ : MethodName) (head1 (Jvm.Cond.code (⟨"java/lang/Enum", "ordinal", "()I"⟩ : MethodName) jdk_37_method_2_code 1 (some .int) :: ws) own_RN) (fun aa__ U => aa__ = #[(.ref o)] ∧ Z.Warmed39 U.vm ∧ U.heap = h0) (fun _ _ _ _ _ => True) (fun _ U oc_ U' => ∃ rv__ rL__, oc_ = .returned rv__ ∧ own_QN Z o k h0 n0 rv__ U'.heap rL__ ∧ FrameEnd U oc_ U' rL__ own_RN.cells own_RN.slots) := by
  refine MetFree.of_bodySF (plainFor_of_name own_pn_java_lang_Enum) hisR ?_
  intro p e s m args below meth c s₁ Bd hml0 hP hK
  obtain ⟨rfl, hZ, hh⟩ := hP
  have hx := Bd.exec
  have hby := Bd.bytes
  have hml : c.maxLocals = 1 := hml0
  have hown : s.vm.findClass "java/lang/Enum" = some m.cls := findClass_of_methodNamed Bd.named
  have hnm := (name_of_methodNamed Bd.named Bd.method).1
  have X0 : Stand p l e own_RN s m #[(.ref o)] below meth c s₁ [] 0 0 := Stand.of_body Bd
  have e0 : s₁.heap = h0 := by rw [← hh, Bd.state]; rfl
  have N0 := Fr.nil n0
  refine own_in (fun _ k => castTop (own_efN m o) k) ?_
  intro RR hRR
  show own_Go p.tables e below RR (s₁.setTop (mkF m 0 #[.val (.ref o)] []))
  refine own_st (fun _ k => XS.aloadN X0.here hx rfl (hb hby own_djdk_37_method_2_code_0) rfl rfl k) ?_
  show own_Go p.tables e below RR (s₁.setTop (mkF m 1 #[.val (.ref o)] [(.ref o)]))
  obtain ⟨T1, X1, e1, st1⟩ := getF X0 hx hZ hown (host := "") (Or.inl (hw _ (List.mem_of_getElem? (i := 16) rfl))) Via.refl e0 F (g := (mkF m 1 #[.val (.ref o)] [(.ref o)])) rfl rfl (hb hby own_djdk_37_method_2_code_1)
  refine own_st st1 ?_
  show own_Go p.tables e below RR (T1.setTop (mkF m 4 #[.val (.ref o)] [(.int k)]))
  obtain ⟨fs, hrt_, hrun, hended, hW, hsame⟩ := X1.leave (v := some (.int k)) (fun h => by rw [Bd.returns] at h; cases h)
  refine own_fin (retI X1 hx Bd.returns (hb hby own_djdk_37_method_2_code_4) hrt_) (hRR _ ⟨_, hrun, hended, _, _, rfl, ?_, ⟨_, rfl⟩, hW, hsame.mono (by decide) (by decide)⟩)
  show own_QN Z o k h0 n0 _ T1.heap _
  rw [e1]
  exact ⟨rfl, N0, rfl⟩
theorem own_pn_com_example_seshat_seshat_query_Operator : plainName "com/example/seshat/seshat/query/Operator" = true := by first | (simp [plainName, overriddenIn]; done) | decide +kernel
theorem own_dprog_16_method_7_code_0 : decode prog_16_method_7_code 0 = .ok (.aload_n 0, 1) := by decide +kernel
theorem own_pd___I : parseMethodDescriptor "()I" = some ⟨[], some .int⟩ := by decide +kernel
theorem own_dprog_16_method_7_code_1 : decode prog_16_method_7_code 1 = .ok (.invokevirtual 101, 3) := by decide +kernel
theorem own_dprog_16_method_7_code_4 : decode prog_16_method_7_code 4 = .ok (.tableswitch 40 0 5 #[50, 62, 74, 86, 98, 50], 40) := by decide +kernel
theorem own_dprog_16_method_7_code_54 : decode prog_16_method_7_code 54 = .ok (.iload_n 1, 1) := by decide +kernel
theorem own_dprog_16_method_7_code_55 : decode prog_16_method_7_code 55 = .ok (.ifCond .ne 7, 3) := by decide +kernel
theorem own_dprog_16_method_7_code_58 : decode prog_16_method_7_code 58 = .ok (.iconst 1, 1) := by decide +kernel
theorem own_dprog_16_method_7_code_59 : decode prog_16_method_7_code 59 = .ok (.goto 52, 3) := by decide +kernel
theorem own_dprog_16_method_7_code_111 : decode prog_16_method_7_code 111 = .ok (.ireturn, 1) := by decide +kernel
theorem own_dprog_16_method_7_code_62 : decode prog_16_method_7_code 62 = .ok (.iconst 0, 1) := by decide +kernel
theorem own_dprog_16_method_7_code_63 : decode prog_16_method_7_code 63 = .ok (.goto 48, 3) := by decide +kernel
theorem own_efH0 (m : MethodId) (o : Addr) (pp : Int32) : entryFrame m #[(.ref o), (.int pp)] 2 = mkF m 0 #[.val (.ref o), .val (.int pp)] [] := by first | (simp [entryFrame, mkF, argsToLocals, Value.category]; done) | rfl
def own_QH0 (Z : State) (o : Addr) (pp : Int32) (r : Int32) (h0 : Heap) (n0 : Nat) (rv__ : Option Value) (h : Heap) (rL__ : List Loc) : Prop := rv__ = some (.int r) ∧ Fr n0 rL__ ∧ h = h0
abbrev own_RH0 : Room := { frames := 1, cells := 0, slots := 0, locals := 12 }
set_option maxRecDepth 65536 in
set_option maxHeartbeats 40000000 in
theorem own_rmH0 (l : Launch) (Z : State) (a0 : Array Value) (hw : ∀ d ∈ tables_1, d.before a0 Z = true) (ws : List Jvm.Cond) (o : Addr) (pp : Int32) (r : Int32) (h0 : Heap) (n0 : Nat) (Z0 : n0 ≤ h0.size) (E : Exa Z h0 o "com/example/seshat/seshat/query/Operator") (F : Fld Z h0 o "java/lang/Enum" "ordinal" "I" (.int (0 : Int32))) (hv : (if pp = (0 : Int32) then (1 : Int32) else 0) = r) :
    MetFree l (⟨"com/example/seshat/seshat/query/Operator", "holds", "(I)Z"⟩ : MethodName) (head1 (Jvm.Cond.code (⟨"com/example/seshat/seshat/query/Operator", "holds", "(I)Z"⟩ : MethodName) prog_16_method_7_code 2 (some .boolean) :: ws) own_RH0) (fun aa__ U => aa__ = #[(.ref o), (.int pp)] ∧ Z.Warmed39 U.vm ∧ U.heap = h0) (fun _ _ _ _ _ => True) (fun _ U oc_ U' => ∃ rv__ rL__, oc_ = .returned rv__ ∧ own_QH0 Z o pp r h0 n0 rv__ U'.heap rL__ ∧ FrameEnd U oc_ U' rL__ own_RH0.cells own_RH0.slots) := by
  refine MetFree.of_bodySF (plainFor_of_name own_pn_com_example_seshat_seshat_query_Operator) hisR ?_
  intro p e s m args below meth c s₁ Bd hml0 hP hK
  obtain ⟨rfl, hZ, hh⟩ := hP
  have hx := Bd.exec
  have hby := Bd.bytes
  have hml : c.maxLocals = 2 := hml0
  have hown : s.vm.findClass "com/example/seshat/seshat/query/Operator" = some m.cls := findClass_of_methodNamed Bd.named
  have hnm := (name_of_methodNamed Bd.named Bd.method).1
  have X0 : Stand p l e own_RH0 s m #[(.ref o), (.int pp)] below meth c s₁ [] 0 0 := Stand.of_body Bd
  have e0 : s₁.heap = h0 := by rw [← hh, Bd.state]; rfl
  have N0 := Fr.nil n0
  refine own_in (fun _ k => castTop (own_efH0 m o pp) k) ?_
  intro RR hRR
  show own_Go p.tables e below RR (s₁.setTop (mkF m 0 #[.val (.ref o), .val (.int pp)] []))
  refine own_st (fun _ k => XS.aloadN X0.here hx rfl (hb hby own_dprog_16_method_7_code_0) rfl rfl k) ?_
  show own_Go p.tables e below RR (s₁.setTop (mkF m 1 #[.val (.ref o), .val (.int pp)] [(.ref o)]))
  obtain ⟨cq1, kq1, q1a, q1b, q1c⟩ := isOf hZ e0 E
  obtain ⟨_, _, ⟨T1, L1, k1, n1⟩, -, X1, ⟨Lc1, hQ1, l1, y1, z1⟩, st1⟩ := X0.virtualBackUp hx (owner := "java/lang/Enum") (x := (⟨"com/example/seshat/seshat/query/Operator", "ordinal", "()I"⟩ : MethodName)) (y := (⟨"java/lang/Enum", "ordinal", "()I"⟩ : MethodName)) hown (mvT hZ (hw _ (List.mem_of_getElem? (i := 9) rfl))) (mvT hZ (hw _ (List.mem_of_getElem? (i := 10) rfl))) (mvT hZ (hw _ (List.mem_of_getElem? (i := 11) rfl))) (by decide) (mvT hZ (hw _ (List.mem_of_getElem? (i := 13) rfl))) (mvT hZ (hw _ (List.mem_of_getElem? (i := 12) rfl))) (backOf (W := 0) (own_rmN l Z a0 hw [] o (0 : Int32) h0 n0 Z0 F) hZ (hw _ (List.mem_of_getElem? (i := 15) rfl)) (hw _ (List.mem_of_getElem? (i := 14) rfl)) (by decide) (by decide)) q1a q1c (g := (mkF m 1 #[.val (.ref o), .val (.int pp)] [(.ref o)])) rfl (by rw [hml]; rfl) (Steps.refl _) (argsL := []) (rest := []) (lenOf own_pd___I rfl) rfl (by show 2 * 0 + _ ≤ _; exact Nat.le_of_eq rfl) (hb hby own_dprog_16_method_7_code_1) (fun _ _ => ⟨rfl, e0, (by decide : 0 + 0 ≤ _), (by decide : 0 + 0 ≤ _)⟩)
  dsimp only [Pt.U, Pt.locs, Pt.cells, Pt.slots] at X1 l1 y1 z1 st1 hQ1
  subst l1 y1 z1
  obtain ⟨rfl, Nq1, eq1⟩ := hQ1
  have N1 := Fr.app N0 Nq1
  refine own_st (fun _ k => st1.trans k) ?_
  show own_Go p.tables e below RR (T1.setTop (mkF m 4 #[.val (.ref o), .val (.int pp)] [(.int (0 : Int32))]))
  refine own_st (fun _ k => XS.tswIn X1.here hx rfl (pc0 := 4) (pc' := 54) rfl (hb hby own_dprog_16_method_7_code_4) rfl (o := 50) (by decide) (by decide) (by decide) (by decide) (XS.iloadN X1.here hx rfl (hb hby own_dprog_16_method_7_code_54) rfl k)) ?_
  show own_Go p.tables e below RR (T1.setTop (mkF m 55 #[.val (.ref o), .val (.int pp)] [(.int pp)]))
  by_cases hc55_2 : pp = (0 : Int32)
  · refine own_st (fun _ k => XS.ifNo X1.here hx rfl (hb hby own_dprog_16_method_7_code_55) rfl ((if0 _ _).trans (teq hc55_2).2) (XS.iconst X1.here hx rfl (hb hby own_dprog_16_method_7_code_58) (XS.goto X1.here hx rfl (pc0 := 59) (pc' := 111) rfl (hb hby own_dprog_16_method_7_code_59) (by decide) (by decide) k))) ?_
    show own_Go p.tables e below RR (T1.setTop (mkF m 111 #[.val (.ref o), .val (.int pp)] [(.int (1 : Int32))]))
    obtain ⟨fs, hrt_, hrun, hended, hW, hsame⟩ := X1.leave (v := some (.int (1 : Int32))) (fun h => by rw [Bd.returns] at h; cases h)
    refine own_fin (retN X1 hx (t := .boolean) Bd.returns (by simp) (hb hby own_dprog_16_method_7_code_111) hrt_) (hRR _ ⟨_, hrun, hended, _, _, rfl, ?_, ⟨_, rfl⟩, hW, hsame.mono (by decide) (by decide)⟩)
    show own_QH0 Z o pp r h0 n0 _ T1.heap _
    rw [eq1]
    exact ⟨own_ri (by first | simpa only [hc55_2, if_true, if_false] using hv | simpa [hc55_2] using hv), N1, rfl⟩
  · refine own_st (fun _ k => XS.ifYes X1.here hx rfl (pc0 := 55) (pc' := 62) rfl (hb hby own_dprog_16_method_7_code_55) rfl ((if0 _ _).trans (feq hc55_2).2) (by decide) (by decide) (XS.iconst X1.here hx rfl (hb hby own_dprog_16_method_7_code_62) (XS.goto X1.here hx rfl (pc0 := 63) (pc' := 111) rfl (hb hby own_dprog_16_method_7_code_63) (by decide) (by decide) k))) ?_
    show own_Go p.tables e below RR (T1.setTop (mkF m 111 #[.val (.ref o), .val (.int pp)] [(.int (0 : Int32))]))
    obtain ⟨fs, hrt_, hrun, hended, hW, hsame⟩ := X1.leave (v := some (.int (0 : Int32))) (fun h => by rw [Bd.returns] at h; cases h)
    refine own_fin (retN X1 hx (t := .boolean) Bd.returns (by simp) (hb hby own_dprog_16_method_7_code_111) hrt_) (hRR _ ⟨_, hrun, hended, _, _, rfl, ?_, ⟨_, rfl⟩, hW, hsame.mono (by decide) (by decide)⟩)
    show own_QH0 Z o pp r h0 n0 _ T1.heap _
    rw [eq1]
    exact ⟨own_ri (by first | simpa only [hc55_2, if_true, if_false] using hv | simpa [hc55_2] using hv), N1, rfl⟩
theorem own_dprog_16_method_7_code_66 : decode prog_16_method_7_code 66 = .ok (.iload_n 1, 1) := by decide +kernel
theorem own_dprog_16_method_7_code_67 : decode prog_16_method_7_code 67 = .ok (.ifCond .ge 7, 3) := by decide +kernel
theorem own_dprog_16_method_7_code_70 : decode prog_16_method_7_code 70 = .ok (.iconst 1, 1) := by decide +kernel
theorem own_dprog_16_method_7_code_71 : decode prog_16_method_7_code 71 = .ok (.goto 40, 3) := by decide +kernel
theorem own_dprog_16_method_7_code_74 : decode prog_16_method_7_code 74 = .ok (.iconst 0, 1) := by decide +kernel
theorem own_dprog_16_method_7_code_75 : decode prog_16_method_7_code 75 = .ok (.goto 36, 3) := by decide +kernel
theorem own_efH1 (m : MethodId) (o : Addr) (pp : Int32) : entryFrame m #[(.ref o), (.int pp)] 2 = mkF m 0 #[.val (.ref o), .val (.int pp)] [] := by first | (simp [entryFrame, mkF, argsToLocals, Value.category]; done) | rfl
def own_QH1 (Z : State) (o : Addr) (pp : Int32) (r : Int32) (h0 : Heap) (n0 : Nat) (rv__ : Option Value) (h : Heap) (rL__ : List Loc) : Prop := rv__ = some (.int r) ∧ Fr n0 rL__ ∧ h = h0
abbrev own_RH1 : Room := { frames := 1, cells := 0, slots := 0, locals := 12 }
set_option maxRecDepth 65536 in
set_option maxHeartbeats 40000000 in
theorem own_rmH1 (l : Launch) (Z : State) (a0 : Array Value) (hw : ∀ d ∈ tables_1, d.before a0 Z = true) (ws : List Jvm.Cond) (o : Addr) (pp : Int32) (r : Int32) (h0 : Heap) (n0 : Nat) (Z0 : n0 ≤ h0.size) (E : Exa Z h0 o "com/example/seshat/seshat/query/Operator") (F : Fld Z h0 o "java/lang/Enum" "ordinal" "I" (.int (1 : Int32))) (hv : (if pp < (0 : Int32) then (1 : Int32) else 0) = r) :
    MetFree l (⟨"com/example/seshat/seshat/query/Operator", "holds", "(I)Z"⟩ : MethodName) (head1 (Jvm.Cond.code (⟨"com/example/seshat/seshat/query/Operator", "holds", "(I)Z"⟩ : MethodName) prog_16_method_7_code 2 (some .boolean) :: ws) own_RH1) (fun aa__ U => aa__ = #[(.ref o), (.int pp)] ∧ Z.Warmed39 U.vm ∧ U.heap = h0) (fun _ _ _ _ _ => True) (fun _ U oc_ U' => ∃ rv__ rL__, oc_ = .returned rv__ ∧ own_QH1 Z o pp r h0 n0 rv__ U'.heap rL__ ∧ FrameEnd U oc_ U' rL__ own_RH1.cells own_RH1.slots) := by
  refine MetFree.of_bodySF (plainFor_of_name own_pn_com_example_seshat_seshat_query_Operator) hisR ?_
  intro p e s m args below meth c s₁ Bd hml0 hP hK
  obtain ⟨rfl, hZ, hh⟩ := hP
  have hx := Bd.exec
  have hby := Bd.bytes
  have hml : c.maxLocals = 2 := hml0
  have hown : s.vm.findClass "com/example/seshat/seshat/query/Operator" = some m.cls := findClass_of_methodNamed Bd.named
  have hnm := (name_of_methodNamed Bd.named Bd.method).1
  have X0 : Stand p l e own_RH1 s m #[(.ref o), (.int pp)] below meth c s₁ [] 0 0 := Stand.of_body Bd
  have e0 : s₁.heap = h0 := by rw [← hh, Bd.state]; rfl
  have N0 := Fr.nil n0
  refine own_in (fun _ k => castTop (own_efH1 m o pp) k) ?_
  intro RR hRR
  show own_Go p.tables e below RR (s₁.setTop (mkF m 0 #[.val (.ref o), .val (.int pp)] []))
  refine own_st (fun _ k => XS.aloadN X0.here hx rfl (hb hby own_dprog_16_method_7_code_0) rfl rfl k) ?_
  show own_Go p.tables e below RR (s₁.setTop (mkF m 1 #[.val (.ref o), .val (.int pp)] [(.ref o)]))
  obtain ⟨cq1, kq1, q1a, q1b, q1c⟩ := isOf hZ e0 E
  obtain ⟨_, _, ⟨T1, L1, k1, n1⟩, -, X1, ⟨Lc1, hQ1, l1, y1, z1⟩, st1⟩ := X0.virtualBackUp hx (owner := "java/lang/Enum") (x := (⟨"com/example/seshat/seshat/query/Operator", "ordinal", "()I"⟩ : MethodName)) (y := (⟨"java/lang/Enum", "ordinal", "()I"⟩ : MethodName)) hown (mvT hZ (hw _ (List.mem_of_getElem? (i := 9) rfl))) (mvT hZ (hw _ (List.mem_of_getElem? (i := 10) rfl))) (mvT hZ (hw _ (List.mem_of_getElem? (i := 11) rfl))) (by decide) (mvT hZ (hw _ (List.mem_of_getElem? (i := 13) rfl))) (mvT hZ (hw _ (List.mem_of_getElem? (i := 12) rfl))) (backOf (W := 0) (own_rmN l Z a0 hw [] o (1 : Int32) h0 n0 Z0 F) hZ (hw _ (List.mem_of_getElem? (i := 15) rfl)) (hw _ (List.mem_of_getElem? (i := 14) rfl)) (by decide) (by decide)) q1a q1c (g := (mkF m 1 #[.val (.ref o), .val (.int pp)] [(.ref o)])) rfl (by rw [hml]; rfl) (Steps.refl _) (argsL := []) (rest := []) (lenOf own_pd___I rfl) rfl (by show 2 * 0 + _ ≤ _; exact Nat.le_of_eq rfl) (hb hby own_dprog_16_method_7_code_1) (fun _ _ => ⟨rfl, e0, (by decide : 0 + 0 ≤ _), (by decide : 0 + 0 ≤ _)⟩)
  dsimp only [Pt.U, Pt.locs, Pt.cells, Pt.slots] at X1 l1 y1 z1 st1 hQ1
  subst l1 y1 z1
  obtain ⟨rfl, Nq1, eq1⟩ := hQ1
  have N1 := Fr.app N0 Nq1
  refine own_st (fun _ k => st1.trans k) ?_
  show own_Go p.tables e below RR (T1.setTop (mkF m 4 #[.val (.ref o), .val (.int pp)] [(.int (1 : Int32))]))
  refine own_st (fun _ k => XS.tswIn X1.here hx rfl (pc0 := 4) (pc' := 66) rfl (hb hby own_dprog_16_method_7_code_4) rfl (o := 62) (by decide) (by decide) (by decide) (by decide) (XS.iloadN X1.here hx rfl (hb hby own_dprog_16_method_7_code_66) rfl k)) ?_
  show own_Go p.tables e below RR (T1.setTop (mkF m 67 #[.val (.ref o), .val (.int pp)] [(.int pp)]))
  by_cases hc67_2 : pp < (0 : Int32)
  · refine own_st (fun _ k => XS.ifNo X1.here hx rfl (hb hby own_dprog_16_method_7_code_67) rfl ((if0 _ _).trans (tlt hc67_2).2.1) (XS.iconst X1.here hx rfl (hb hby own_dprog_16_method_7_code_70) (XS.goto X1.here hx rfl (pc0 := 71) (pc' := 111) rfl (hb hby own_dprog_16_method_7_code_71) (by decide) (by decide) k))) ?_
    show own_Go p.tables e below RR (T1.setTop (mkF m 111 #[.val (.ref o), .val (.int pp)] [(.int (1 : Int32))]))
    obtain ⟨fs, hrt_, hrun, hended, hW, hsame⟩ := X1.leave (v := some (.int (1 : Int32))) (fun h => by rw [Bd.returns] at h; cases h)
    refine own_fin (retN X1 hx (t := .boolean) Bd.returns (by simp) (hb hby own_dprog_16_method_7_code_111) hrt_) (hRR _ ⟨_, hrun, hended, _, _, rfl, ?_, ⟨_, rfl⟩, hW, hsame.mono (by decide) (by decide)⟩)
    show own_QH1 Z o pp r h0 n0 _ T1.heap _
    rw [eq1]
    exact ⟨own_ri (by first | simpa only [hc67_2, if_true, if_false] using hv | simpa [hc67_2] using hv), N1, rfl⟩
  · refine own_st (fun _ k => XS.ifYes X1.here hx rfl (pc0 := 67) (pc' := 74) rfl (hb hby own_dprog_16_method_7_code_67) rfl ((if0 _ _).trans (flt hc67_2).2.1) (by decide) (by decide) (XS.iconst X1.here hx rfl (hb hby own_dprog_16_method_7_code_74) (XS.goto X1.here hx rfl (pc0 := 75) (pc' := 111) rfl (hb hby own_dprog_16_method_7_code_75) (by decide) (by decide) k))) ?_
    show own_Go p.tables e below RR (T1.setTop (mkF m 111 #[.val (.ref o), .val (.int pp)] [(.int (0 : Int32))]))
    obtain ⟨fs, hrt_, hrun, hended, hW, hsame⟩ := X1.leave (v := some (.int (0 : Int32))) (fun h => by rw [Bd.returns] at h; cases h)
    refine own_fin (retN X1 hx (t := .boolean) Bd.returns (by simp) (hb hby own_dprog_16_method_7_code_111) hrt_) (hRR _ ⟨_, hrun, hended, _, _, rfl, ?_, ⟨_, rfl⟩, hW, hsame.mono (by decide) (by decide)⟩)
    show own_QH1 Z o pp r h0 n0 _ T1.heap _
    rw [eq1]
    exact ⟨own_ri (by first | simpa only [hc67_2, if_true, if_false] using hv | simpa [hc67_2] using hv), N1, rfl⟩
theorem own_dprog_16_method_7_code_78 : decode prog_16_method_7_code 78 = .ok (.iload_n 1, 1) := by decide +kernel
theorem own_dprog_16_method_7_code_79 : decode prog_16_method_7_code 79 = .ok (.ifCond .le 7, 3) := by decide +kernel
theorem own_dprog_16_method_7_code_82 : decode prog_16_method_7_code 82 = .ok (.iconst 1, 1) := by decide +kernel
theorem own_dprog_16_method_7_code_83 : decode prog_16_method_7_code 83 = .ok (.goto 28, 3) := by decide +kernel
theorem own_dprog_16_method_7_code_86 : decode prog_16_method_7_code 86 = .ok (.iconst 0, 1) := by decide +kernel
theorem own_dprog_16_method_7_code_87 : decode prog_16_method_7_code 87 = .ok (.goto 24, 3) := by decide +kernel
theorem own_efH2 (m : MethodId) (o : Addr) (pp : Int32) : entryFrame m #[(.ref o), (.int pp)] 2 = mkF m 0 #[.val (.ref o), .val (.int pp)] [] := by first | (simp [entryFrame, mkF, argsToLocals, Value.category]; done) | rfl
def own_QH2 (Z : State) (o : Addr) (pp : Int32) (r : Int32) (h0 : Heap) (n0 : Nat) (rv__ : Option Value) (h : Heap) (rL__ : List Loc) : Prop := rv__ = some (.int r) ∧ Fr n0 rL__ ∧ h = h0
abbrev own_RH2 : Room := { frames := 1, cells := 0, slots := 0, locals := 12 }
set_option maxRecDepth 65536 in
set_option maxHeartbeats 40000000 in
theorem own_rmH2 (l : Launch) (Z : State) (a0 : Array Value) (hw : ∀ d ∈ tables_1, d.before a0 Z = true) (ws : List Jvm.Cond) (o : Addr) (pp : Int32) (r : Int32) (h0 : Heap) (n0 : Nat) (Z0 : n0 ≤ h0.size) (E : Exa Z h0 o "com/example/seshat/seshat/query/Operator") (F : Fld Z h0 o "java/lang/Enum" "ordinal" "I" (.int (2 : Int32))) (hv : (if (0 : Int32) < pp then (1 : Int32) else 0) = r) :
    MetFree l (⟨"com/example/seshat/seshat/query/Operator", "holds", "(I)Z"⟩ : MethodName) (head1 (Jvm.Cond.code (⟨"com/example/seshat/seshat/query/Operator", "holds", "(I)Z"⟩ : MethodName) prog_16_method_7_code 2 (some .boolean) :: ws) own_RH2) (fun aa__ U => aa__ = #[(.ref o), (.int pp)] ∧ Z.Warmed39 U.vm ∧ U.heap = h0) (fun _ _ _ _ _ => True) (fun _ U oc_ U' => ∃ rv__ rL__, oc_ = .returned rv__ ∧ own_QH2 Z o pp r h0 n0 rv__ U'.heap rL__ ∧ FrameEnd U oc_ U' rL__ own_RH2.cells own_RH2.slots) := by
  refine MetFree.of_bodySF (plainFor_of_name own_pn_com_example_seshat_seshat_query_Operator) hisR ?_
  intro p e s m args below meth c s₁ Bd hml0 hP hK
  obtain ⟨rfl, hZ, hh⟩ := hP
  have hx := Bd.exec
  have hby := Bd.bytes
  have hml : c.maxLocals = 2 := hml0
  have hown : s.vm.findClass "com/example/seshat/seshat/query/Operator" = some m.cls := findClass_of_methodNamed Bd.named
  have hnm := (name_of_methodNamed Bd.named Bd.method).1
  have X0 : Stand p l e own_RH2 s m #[(.ref o), (.int pp)] below meth c s₁ [] 0 0 := Stand.of_body Bd
  have e0 : s₁.heap = h0 := by rw [← hh, Bd.state]; rfl
  have N0 := Fr.nil n0
  refine own_in (fun _ k => castTop (own_efH2 m o pp) k) ?_
  intro RR hRR
  show own_Go p.tables e below RR (s₁.setTop (mkF m 0 #[.val (.ref o), .val (.int pp)] []))
  refine own_st (fun _ k => XS.aloadN X0.here hx rfl (hb hby own_dprog_16_method_7_code_0) rfl rfl k) ?_
  show own_Go p.tables e below RR (s₁.setTop (mkF m 1 #[.val (.ref o), .val (.int pp)] [(.ref o)]))
  obtain ⟨cq1, kq1, q1a, q1b, q1c⟩ := isOf hZ e0 E
  obtain ⟨_, _, ⟨T1, L1, k1, n1⟩, -, X1, ⟨Lc1, hQ1, l1, y1, z1⟩, st1⟩ := X0.virtualBackUp hx (owner := "java/lang/Enum") (x := (⟨"com/example/seshat/seshat/query/Operator", "ordinal", "()I"⟩ : MethodName)) (y := (⟨"java/lang/Enum", "ordinal", "()I"⟩ : MethodName)) hown (mvT hZ (hw _ (List.mem_of_getElem? (i := 9) rfl))) (mvT hZ (hw _ (List.mem_of_getElem? (i := 10) rfl))) (mvT hZ (hw _ (List.mem_of_getElem? (i := 11) rfl))) (by decide) (mvT hZ (hw _ (List.mem_of_getElem? (i := 13) rfl))) (mvT hZ (hw _ (List.mem_of_getElem? (i := 12) rfl))) (backOf (W := 0) (own_rmN l Z a0 hw [] o (2 : Int32) h0 n0 Z0 F) hZ (hw _ (List.mem_of_getElem? (i := 15) rfl)) (hw _ (List.mem_of_getElem? (i := 14) rfl)) (by decide) (by decide)) q1a q1c (g := (mkF m 1 #[.val (.ref o), .val (.int pp)] [(.ref o)])) rfl (by rw [hml]; rfl) (Steps.refl _) (argsL := []) (rest := []) (lenOf own_pd___I rfl) rfl (by show 2 * 0 + _ ≤ _; exact Nat.le_of_eq rfl) (hb hby own_dprog_16_method_7_code_1) (fun _ _ => ⟨rfl, e0, (by decide : 0 + 0 ≤ _), (by decide : 0 + 0 ≤ _)⟩)
  dsimp only [Pt.U, Pt.locs, Pt.cells, Pt.slots] at X1 l1 y1 z1 st1 hQ1
  subst l1 y1 z1
  obtain ⟨rfl, Nq1, eq1⟩ := hQ1
  have N1 := Fr.app N0 Nq1
  refine own_st (fun _ k => st1.trans k) ?_
  show own_Go p.tables e below RR (T1.setTop (mkF m 4 #[.val (.ref o), .val (.int pp)] [(.int (2 : Int32))]))
  refine own_st (fun _ k => XS.tswIn X1.here hx rfl (pc0 := 4) (pc' := 78) rfl (hb hby own_dprog_16_method_7_code_4) rfl (o := 74) (by decide) (by decide) (by decide) (by decide) (XS.iloadN X1.here hx rfl (hb hby own_dprog_16_method_7_code_78) rfl k)) ?_
  show own_Go p.tables e below RR (T1.setTop (mkF m 79 #[.val (.ref o), .val (.int pp)] [(.int pp)]))
  by_cases hc79_2 : (0 : Int32) < pp
  · refine own_st (fun _ k => XS.ifNo X1.here hx rfl (hb hby own_dprog_16_method_7_code_79) rfl ((if0 _ _).trans (tlt hc79_2).2.2.2) (XS.iconst X1.here hx rfl (hb hby own_dprog_16_method_7_code_82) (XS.goto X1.here hx rfl (pc0 := 83) (pc' := 111) rfl (hb hby own_dprog_16_method_7_code_83) (by decide) (by decide) k))) ?_
    show own_Go p.tables e below RR (T1.setTop (mkF m 111 #[.val (.ref o), .val (.int pp)] [(.int (1 : Int32))]))
    obtain ⟨fs, hrt_, hrun, hended, hW, hsame⟩ := X1.leave (v := some (.int (1 : Int32))) (fun h => by rw [Bd.returns] at h; cases h)
    refine own_fin (retN X1 hx (t := .boolean) Bd.returns (by simp) (hb hby own_dprog_16_method_7_code_111) hrt_) (hRR _ ⟨_, hrun, hended, _, _, rfl, ?_, ⟨_, rfl⟩, hW, hsame.mono (by decide) (by decide)⟩)
    show own_QH2 Z o pp r h0 n0 _ T1.heap _
    rw [eq1]
    exact ⟨own_ri (by first | simpa only [hc79_2, if_true, if_false] using hv | simpa [hc79_2] using hv), N1, rfl⟩
  · refine own_st (fun _ k => XS.ifYes X1.here hx rfl (pc0 := 79) (pc' := 86) rfl (hb hby own_dprog_16_method_7_code_79) rfl ((if0 _ _).trans (flt hc79_2).2.2.2) (by decide) (by decide) (XS.iconst X1.here hx rfl (hb hby own_dprog_16_method_7_code_86) (XS.goto X1.here hx rfl (pc0 := 87) (pc' := 111) rfl (hb hby own_dprog_16_method_7_code_87) (by decide) (by decide) k))) ?_
    show own_Go p.tables e below RR (T1.setTop (mkF m 111 #[.val (.ref o), .val (.int pp)] [(.int (0 : Int32))]))
    obtain ⟨fs, hrt_, hrun, hended, hW, hsame⟩ := X1.leave (v := some (.int (0 : Int32))) (fun h => by rw [Bd.returns] at h; cases h)
    refine own_fin (retN X1 hx (t := .boolean) Bd.returns (by simp) (hb hby own_dprog_16_method_7_code_111) hrt_) (hRR _ ⟨_, hrun, hended, _, _, rfl, ?_, ⟨_, rfl⟩, hW, hsame.mono (by decide) (by decide)⟩)
    show own_QH2 Z o pp r h0 n0 _ T1.heap _
    rw [eq1]
    exact ⟨own_ri (by first | simpa only [hc79_2, if_true, if_false] using hv | simpa [hc79_2] using hv), N1, rfl⟩
theorem own_dprog_16_method_7_code_90 : decode prog_16_method_7_code 90 = .ok (.iload_n 1, 1) := by decide +kernel
theorem own_dprog_16_method_7_code_91 : decode prog_16_method_7_code 91 = .ok (.ifCond .gt 7, 3) := by decide +kernel
theorem own_dprog_16_method_7_code_98 : decode prog_16_method_7_code 98 = .ok (.iconst 0, 1) := by decide +kernel
theorem own_dprog_16_method_7_code_99 : decode prog_16_method_7_code 99 = .ok (.goto 12, 3) := by decide +kernel
theorem own_dprog_16_method_7_code_94 : decode prog_16_method_7_code 94 = .ok (.iconst 1, 1) := by decide +kernel
theorem own_dprog_16_method_7_code_95 : decode prog_16_method_7_code 95 = .ok (.goto 16, 3) := by decide +kernel
theorem own_efH3 (m : MethodId) (o : Addr) (pp : Int32) : entryFrame m #[(.ref o), (.int pp)] 2 = mkF m 0 #[.val (.ref o), .val (.int pp)] [] := by first | (simp [entryFrame, mkF, argsToLocals, Value.category]; done) | rfl
def own_QH3 (Z : State) (o : Addr) (pp : Int32) (r : Int32) (h0 : Heap) (n0 : Nat) (rv__ : Option Value) (h : Heap) (rL__ : List Loc) : Prop := rv__ = some (.int r) ∧ Fr n0 rL__ ∧ h = h0
abbrev own_RH3 : Room := { frames := 1, cells := 0, slots := 0, locals := 12 }
set_option maxRecDepth 65536 in
set_option maxHeartbeats 40000000 in
theorem own_rmH3 (l : Launch) (Z : State) (a0 : Array Value) (hw : ∀ d ∈ tables_1, d.before a0 Z = true) (ws : List Jvm.Cond) (o : Addr) (pp : Int32) (r : Int32) (h0 : Heap) (n0 : Nat) (Z0 : n0 ≤ h0.size) (E : Exa Z h0 o "com/example/seshat/seshat/query/Operator") (F : Fld Z h0 o "java/lang/Enum" "ordinal" "I" (.int (3 : Int32))) (hv : (if (0 : Int32) < pp then (0 : Int32) else 1) = r) :
    MetFree l (⟨"com/example/seshat/seshat/query/Operator", "holds", "(I)Z"⟩ : MethodName) (head1 (Jvm.Cond.code (⟨"com/example/seshat/seshat/query/Operator", "holds", "(I)Z"⟩ : MethodName) prog_16_method_7_code 2 (some .boolean) :: ws) own_RH3) (fun aa__ U => aa__ = #[(.ref o), (.int pp)] ∧ Z.Warmed39 U.vm ∧ U.heap = h0) (fun _ _ _ _ _ => True) (fun _ U oc_ U' => ∃ rv__ rL__, oc_ = .returned rv__ ∧ own_QH3 Z o pp r h0 n0 rv__ U'.heap rL__ ∧ FrameEnd U oc_ U' rL__ own_RH3.cells own_RH3.slots) := by
  refine MetFree.of_bodySF (plainFor_of_name own_pn_com_example_seshat_seshat_query_Operator) hisR ?_
  intro p e s m args below meth c s₁ Bd hml0 hP hK
  obtain ⟨rfl, hZ, hh⟩ := hP
  have hx := Bd.exec
  have hby := Bd.bytes
  have hml : c.maxLocals = 2 := hml0
  have hown : s.vm.findClass "com/example/seshat/seshat/query/Operator" = some m.cls := findClass_of_methodNamed Bd.named
  have hnm := (name_of_methodNamed Bd.named Bd.method).1
  have X0 : Stand p l e own_RH3 s m #[(.ref o), (.int pp)] below meth c s₁ [] 0 0 := Stand.of_body Bd
  have e0 : s₁.heap = h0 := by rw [← hh, Bd.state]; rfl
  have N0 := Fr.nil n0
  refine own_in (fun _ k => castTop (own_efH3 m o pp) k) ?_
  intro RR hRR
  show own_Go p.tables e below RR (s₁.setTop (mkF m 0 #[.val (.ref o), .val (.int pp)] []))
  refine own_st (fun _ k => XS.aloadN X0.here hx rfl (hb hby own_dprog_16_method_7_code_0) rfl rfl k) ?_
  show own_Go p.tables e below RR (s₁.setTop (mkF m 1 #[.val (.ref o), .val (.int pp)] [(.ref o)]))
  obtain ⟨cq1, kq1, q1a, q1b, q1c⟩ := isOf hZ e0 E
  obtain ⟨_, _, ⟨T1, L1, k1, n1⟩, -, X1, ⟨Lc1, hQ1, l1, y1, z1⟩, st1⟩ := X0.virtualBackUp hx (owner := "java/lang/Enum") (x := (⟨"com/example/seshat/seshat/query/Operator", "ordinal", "()I"⟩ : MethodName)) (y := (⟨"java/lang/Enum", "ordinal", "()I"⟩ : MethodName)) hown (mvT hZ (hw _ (List.mem_of_getElem? (i := 9) rfl))) (mvT hZ (hw _ (List.mem_of_getElem? (i := 10) rfl))) (mvT hZ (hw _ (List.mem_of_getElem? (i := 11) rfl))) (by decide) (mvT hZ (hw _ (List.mem_of_getElem? (i := 13) rfl))) (mvT hZ (hw _ (List.mem_of_getElem? (i := 12) rfl))) (backOf (W := 0) (own_rmN l Z a0 hw [] o (3 : Int32) h0 n0 Z0 F) hZ (hw _ (List.mem_of_getElem? (i := 15) rfl)) (hw _ (List.mem_of_getElem? (i := 14) rfl)) (by decide) (by decide)) q1a q1c (g := (mkF m 1 #[.val (.ref o), .val (.int pp)] [(.ref o)])) rfl (by rw [hml]; rfl) (Steps.refl _) (argsL := []) (rest := []) (lenOf own_pd___I rfl) rfl (by show 2 * 0 + _ ≤ _; exact Nat.le_of_eq rfl) (hb hby own_dprog_16_method_7_code_1) (fun _ _ => ⟨rfl, e0, (by decide : 0 + 0 ≤ _), (by decide : 0 + 0 ≤ _)⟩)
  dsimp only [Pt.U, Pt.locs, Pt.cells, Pt.slots] at X1 l1 y1 z1 st1 hQ1
  subst l1 y1 z1
  obtain ⟨rfl, Nq1, eq1⟩ := hQ1
  have N1 := Fr.app N0 Nq1
  refine own_st (fun _ k => st1.trans k) ?_
  show own_Go p.tables e below RR (T1.setTop (mkF m 4 #[.val (.ref o), .val (.int pp)] [(.int (3 : Int32))]))
  refine own_st (fun _ k => XS.tswIn X1.here hx rfl (pc0 := 4) (pc' := 90) rfl (hb hby own_dprog_16_method_7_code_4) rfl (o := 86) (by decide) (by decide) (by decide) (by decide) (XS.iloadN X1.here hx rfl (hb hby own_dprog_16_method_7_code_90) rfl k)) ?_
  show own_Go p.tables e below RR (T1.setTop (mkF m 91 #[.val (.ref o), .val (.int pp)] [(.int pp)]))
  by_cases hc91_2 : (0 : Int32) < pp
  · refine own_st (fun _ k => XS.ifYes X1.here hx rfl (pc0 := 91) (pc' := 98) rfl (hb hby own_dprog_16_method_7_code_91) rfl ((if0 _ _).trans (tlt hc91_2).2.2.1) (by decide) (by decide) (XS.iconst X1.here hx rfl (hb hby own_dprog_16_method_7_code_98) (XS.goto X1.here hx rfl (pc0 := 99) (pc' := 111) rfl (hb hby own_dprog_16_method_7_code_99) (by decide) (by decide) k))) ?_
    show own_Go p.tables e below RR (T1.setTop (mkF m 111 #[.val (.ref o), .val (.int pp)] [(.int (0 : Int32))]))
    obtain ⟨fs, hrt_, hrun, hended, hW, hsame⟩ := X1.leave (v := some (.int (0 : Int32))) (fun h => by rw [Bd.returns] at h; cases h)
    refine own_fin (retN X1 hx (t := .boolean) Bd.returns (by simp) (hb hby own_dprog_16_method_7_code_111) hrt_) (hRR _ ⟨_, hrun, hended, _, _, rfl, ?_, ⟨_, rfl⟩, hW, hsame.mono (by decide) (by decide)⟩)
    show own_QH3 Z o pp r h0 n0 _ T1.heap _
    rw [eq1]
    exact ⟨own_ri (by first | simpa only [hc91_2, if_true, if_false] using hv | simpa [hc91_2] using hv), N1, rfl⟩
  · refine own_st (fun _ k => XS.ifNo X1.here hx rfl (hb hby own_dprog_16_method_7_code_91) rfl ((if0 _ _).trans (flt hc91_2).2.2.1) (XS.iconst X1.here hx rfl (hb hby own_dprog_16_method_7_code_94) (XS.goto X1.here hx rfl (pc0 := 95) (pc' := 111) rfl (hb hby own_dprog_16_method_7_code_95) (by decide) (by decide) k))) ?_
    show own_Go p.tables e below RR (T1.setTop (mkF m 111 #[.val (.ref o), .val (.int pp)] [(.int (1 : Int32))]))
    obtain ⟨fs, hrt_, hrun, hended, hW, hsame⟩ := X1.leave (v := some (.int (1 : Int32))) (fun h => by rw [Bd.returns] at h; cases h)
    refine own_fin (retN X1 hx (t := .boolean) Bd.returns (by simp) (hb hby own_dprog_16_method_7_code_111) hrt_) (hRR _ ⟨_, hrun, hended, _, _, rfl, ?_, ⟨_, rfl⟩, hW, hsame.mono (by decide) (by decide)⟩)
    show own_QH3 Z o pp r h0 n0 _ T1.heap _
    rw [eq1]
    exact ⟨own_ri (by first | simpa only [hc91_2, if_true, if_false] using hv | simpa [hc91_2] using hv), N1, rfl⟩
theorem own_dprog_16_method_7_code_102 : decode prog_16_method_7_code 102 = .ok (.iload_n 1, 1) := by decide +kernel
theorem own_dprog_16_method_7_code_103 : decode prog_16_method_7_code 103 = .ok (.ifCond .lt 7, 3) := by decide +kernel
theorem own_dprog_16_method_7_code_110 : decode prog_16_method_7_code 110 = .ok (.iconst 0, 1) := by decide +kernel
theorem own_dprog_16_method_7_code_106 : decode prog_16_method_7_code 106 = .ok (.iconst 1, 1) := by decide +kernel
theorem own_dprog_16_method_7_code_107 : decode prog_16_method_7_code 107 = .ok (.goto 4, 3) := by decide +kernel
theorem own_efH4 (m : MethodId) (o : Addr) (pp : Int32) : entryFrame m #[(.ref o), (.int pp)] 2 = mkF m 0 #[.val (.ref o), .val (.int pp)] [] := by first | (simp [entryFrame, mkF, argsToLocals, Value.category]; done) | rfl
def own_QH4 (Z : State) (o : Addr) (pp : Int32) (r : Int32) (h0 : Heap) (n0 : Nat) (rv__ : Option Value) (h : Heap) (rL__ : List Loc) : Prop := rv__ = some (.int r) ∧ Fr n0 rL__ ∧ h = h0
abbrev own_RH4 : Room := { frames := 1, cells := 0, slots := 0, locals := 12 }
set_option maxRecDepth 65536 in
set_option maxHeartbeats 40000000 in
theorem own_rmH4 (l : Launch) (Z : State) (a0 : Array Value) (hw : ∀ d ∈ tables_1, d.before a0 Z = true) (ws : List Jvm.Cond) (o : Addr) (pp : Int32) (r : Int32) (h0 : Heap) (n0 : Nat) (Z0 : n0 ≤ h0.size) (E : Exa Z h0 o "com/example/seshat/seshat/query/Operator") (F : Fld Z h0 o "java/lang/Enum" "ordinal" "I" (.int (4 : Int32))) (hv : (if pp < (0 : Int32) then (0 : Int32) else 1) = r) :
    MetFree l (⟨"com/example/seshat/seshat/query/Operator", "holds", "(I)Z"⟩ : MethodName) (head1 (Jvm.Cond.code (⟨"com/example/seshat/seshat/query/Operator", "holds", "(I)Z"⟩ : MethodName) prog_16_method_7_code 2 (some .boolean) :: ws) own_RH4) (fun aa__ U => aa__ = #[(.ref o), (.int pp)] ∧ Z.Warmed39 U.vm ∧ U.heap = h0) (fun _ _ _ _ _ => True) (fun _ U oc_ U' => ∃ rv__ rL__, oc_ = .returned rv__ ∧ own_QH4 Z o pp r h0 n0 rv__ U'.heap rL__ ∧ FrameEnd U oc_ U' rL__ own_RH4.cells own_RH4.slots) := by
  refine MetFree.of_bodySF (plainFor_of_name own_pn_com_example_seshat_seshat_query_Operator) hisR ?_
  intro p e s m args below meth c s₁ Bd hml0 hP hK
  obtain ⟨rfl, hZ, hh⟩ := hP
  have hx := Bd.exec
  have hby := Bd.bytes
  have hml : c.maxLocals = 2 := hml0
  have hown : s.vm.findClass "com/example/seshat/seshat/query/Operator" = some m.cls := findClass_of_methodNamed Bd.named
  have hnm := (name_of_methodNamed Bd.named Bd.method).1
  have X0 : Stand p l e own_RH4 s m #[(.ref o), (.int pp)] below meth c s₁ [] 0 0 := Stand.of_body Bd
  have e0 : s₁.heap = h0 := by rw [← hh, Bd.state]; rfl
  have N0 := Fr.nil n0
  refine own_in (fun _ k => castTop (own_efH4 m o pp) k) ?_
  intro RR hRR
  show own_Go p.tables e below RR (s₁.setTop (mkF m 0 #[.val (.ref o), .val (.int pp)] []))
  refine own_st (fun _ k => XS.aloadN X0.here hx rfl (hb hby own_dprog_16_method_7_code_0) rfl rfl k) ?_
  show own_Go p.tables e below RR (s₁.setTop (mkF m 1 #[.val (.ref o), .val (.int pp)] [(.ref o)]))
  obtain ⟨cq1, kq1, q1a, q1b, q1c⟩ := isOf hZ e0 E
  obtain ⟨_, _, ⟨T1, L1, k1, n1⟩, -, X1, ⟨Lc1, hQ1, l1, y1, z1⟩, st1⟩ := X0.virtualBackUp hx (owner := "java/lang/Enum") (x := (⟨"com/example/seshat/seshat/query/Operator", "ordinal", "()I"⟩ : MethodName)) (y := (⟨"java/lang/Enum", "ordinal", "()I"⟩ : MethodName)) hown (mvT hZ (hw _ (List.mem_of_getElem? (i := 9) rfl))) (mvT hZ (hw _ (List.mem_of_getElem? (i := 10) rfl))) (mvT hZ (hw _ (List.mem_of_getElem? (i := 11) rfl))) (by decide) (mvT hZ (hw _ (List.mem_of_getElem? (i := 13) rfl))) (mvT hZ (hw _ (List.mem_of_getElem? (i := 12) rfl))) (backOf (W := 0) (own_rmN l Z a0 hw [] o (4 : Int32) h0 n0 Z0 F) hZ (hw _ (List.mem_of_getElem? (i := 15) rfl)) (hw _ (List.mem_of_getElem? (i := 14) rfl)) (by decide) (by decide)) q1a q1c (g := (mkF m 1 #[.val (.ref o), .val (.int pp)] [(.ref o)])) rfl (by rw [hml]; rfl) (Steps.refl _) (argsL := []) (rest := []) (lenOf own_pd___I rfl) rfl (by show 2 * 0 + _ ≤ _; exact Nat.le_of_eq rfl) (hb hby own_dprog_16_method_7_code_1) (fun _ _ => ⟨rfl, e0, (by decide : 0 + 0 ≤ _), (by decide : 0 + 0 ≤ _)⟩)
  dsimp only [Pt.U, Pt.locs, Pt.cells, Pt.slots] at X1 l1 y1 z1 st1 hQ1
  subst l1 y1 z1
  obtain ⟨rfl, Nq1, eq1⟩ := hQ1
  have N1 := Fr.app N0 Nq1
  refine own_st (fun _ k => st1.trans k) ?_
  show own_Go p.tables e below RR (T1.setTop (mkF m 4 #[.val (.ref o), .val (.int pp)] [(.int (4 : Int32))]))
  refine own_st (fun _ k => XS.tswIn X1.here hx rfl (pc0 := 4) (pc' := 102) rfl (hb hby own_dprog_16_method_7_code_4) rfl (o := 98) (by decide) (by decide) (by decide) (by decide) (XS.iloadN X1.here hx rfl (hb hby own_dprog_16_method_7_code_102) rfl k)) ?_
  show own_Go p.tables e below RR (T1.setTop (mkF m 103 #[.val (.ref o), .val (.int pp)] [(.int pp)]))
  by_cases hc103_2 : pp < (0 : Int32)
  · refine own_st (fun _ k => XS.ifYes X1.here hx rfl (pc0 := 103) (pc' := 110) rfl (hb hby own_dprog_16_method_7_code_103) rfl ((if0 _ _).trans (tlt hc103_2).1) (by decide) (by decide) (XS.iconst X1.here hx rfl (hb hby own_dprog_16_method_7_code_110) k)) ?_
    show own_Go p.tables e below RR (T1.setTop (mkF m 111 #[.val (.ref o), .val (.int pp)] [(.int (0 : Int32))]))
    obtain ⟨fs, hrt_, hrun, hended, hW, hsame⟩ := X1.leave (v := some (.int (0 : Int32))) (fun h => by rw [Bd.returns] at h; cases h)
    refine own_fin (retN X1 hx (t := .boolean) Bd.returns (by simp) (hb hby own_dprog_16_method_7_code_111) hrt_) (hRR _ ⟨_, hrun, hended, _, _, rfl, ?_, ⟨_, rfl⟩, hW, hsame.mono (by decide) (by decide)⟩)
    show own_QH4 Z o pp r h0 n0 _ T1.heap _
    rw [eq1]
    exact ⟨own_ri (by first | simpa only [hc103_2, if_true, if_false] using hv | simpa [hc103_2] using hv), N1, rfl⟩
  · refine own_st (fun _ k => XS.ifNo X1.here hx rfl (hb hby own_dprog_16_method_7_code_103) rfl ((if0 _ _).trans (flt hc103_2).1) (XS.iconst X1.here hx rfl (hb hby own_dprog_16_method_7_code_106) (XS.goto X1.here hx rfl (pc0 := 107) (pc' := 111) rfl (hb hby own_dprog_16_method_7_code_107) (by decide) (by decide) k))) ?_
    show own_Go p.tables e below RR (T1.setTop (mkF m 111 #[.val (.ref o), .val (.int pp)] [(.int (1 : Int32))]))
    obtain ⟨fs, hrt_, hrun, hended, hW, hsame⟩ := X1.leave (v := some (.int (1 : Int32))) (fun h => by rw [Bd.returns] at h; cases h)
    refine own_fin (retN X1 hx (t := .boolean) Bd.returns (by simp) (hb hby own_dprog_16_method_7_code_111) hrt_) (hRR _ ⟨_, hrun, hended, _, _, rfl, ?_, ⟨_, rfl⟩, hW, hsame.mono (by decide) (by decide)⟩)
    show own_QH4 Z o pp r h0 n0 _ T1.heap _
    rw [eq1]
    exact ⟨own_ri (by first | simpa only [hc103_2, if_true, if_false] using hv | simpa [hc103_2] using hv), N1, rfl⟩
theorem own_efH5 (m : MethodId) (o : Addr) (pp : Int32) : entryFrame m #[(.ref o), (.int pp)] 2 = mkF m 0 #[.val (.ref o), .val (.int pp)] [] := by first | (simp [entryFrame, mkF, argsToLocals, Value.category]; done) | rfl
def own_QH5 (Z : State) (o : Addr) (pp : Int32) (r : Int32) (h0 : Heap) (n0 : Nat) (rv__ : Option Value) (h : Heap) (rL__ : List Loc) : Prop := rv__ = some (.int r) ∧ Fr n0 rL__ ∧ h = h0
abbrev own_RH5 : Room := { frames := 1, cells := 0, slots := 0, locals := 12 }
set_option maxRecDepth 65536 in
set_option maxHeartbeats 40000000 in
theorem own_rmH5 (l : Launch) (Z : State) (a0 : Array Value) (hw : ∀ d ∈ tables_1, d.before a0 Z = true) (ws : List Jvm.Cond) (o : Addr) (pp : Int32) (r : Int32) (h0 : Heap) (n0 : Nat) (Z0 : n0 ≤ h0.size) (E : Exa Z h0 o "com/example/seshat/seshat/query/Operator") (F : Fld Z h0 o "java/lang/Enum" "ordinal" "I" (.int (5 : Int32))) (hv : (if pp = (0 : Int32) then (1 : Int32) else 0) = r) :
    MetFree l (⟨"com/example/seshat/seshat/query/Operator", "holds", "(I)Z"⟩ : MethodName) (head1 (Jvm.Cond.code (⟨"com/example/seshat/seshat/query/Operator", "holds", "(I)Z"⟩ : MethodName) prog_16_method_7_code 2 (some .boolean) :: ws) own_RH5) (fun aa__ U => aa__ = #[(.ref o), (.int pp)] ∧ Z.Warmed39 U.vm ∧ U.heap = h0) (fun _ _ _ _ _ => True) (fun _ U oc_ U' => ∃ rv__ rL__, oc_ = .returned rv__ ∧ own_QH5 Z o pp r h0 n0 rv__ U'.heap rL__ ∧ FrameEnd U oc_ U' rL__ own_RH5.cells own_RH5.slots) := by
  refine MetFree.of_bodySF (plainFor_of_name own_pn_com_example_seshat_seshat_query_Operator) hisR ?_
  intro p e s m args below meth c s₁ Bd hml0 hP hK
  obtain ⟨rfl, hZ, hh⟩ := hP
  have hx := Bd.exec
  have hby := Bd.bytes
  have hml : c.maxLocals = 2 := hml0
  have hown : s.vm.findClass "com/example/seshat/seshat/query/Operator" = some m.cls := findClass_of_methodNamed Bd.named
  have hnm := (name_of_methodNamed Bd.named Bd.method).1
  have X0 : Stand p l e own_RH5 s m #[(.ref o), (.int pp)] below meth c s₁ [] 0 0 := Stand.of_body Bd
  have e0 : s₁.heap = h0 := by rw [← hh, Bd.state]; rfl
  have N0 := Fr.nil n0
  refine own_in (fun _ k => castTop (own_efH5 m o pp) k) ?_
  intro RR hRR
  show own_Go p.tables e below RR (s₁.setTop (mkF m 0 #[.val (.ref o), .val (.int pp)] []))
  refine own_st (fun _ k => XS.aloadN X0.here hx rfl (hb hby own_dprog_16_method_7_code_0) rfl rfl k) ?_
  show own_Go p.tables e below RR (s₁.setTop (mkF m 1 #[.val (.ref o), .val (.int pp)] [(.ref o)]))
  obtain ⟨cq1, kq1, q1a, q1b, q1c⟩ := isOf hZ e0 E
  obtain ⟨_, _, ⟨T1, L1, k1, n1⟩, -, X1, ⟨Lc1, hQ1, l1, y1, z1⟩, st1⟩ := X0.virtualBackUp hx (owner := "java/lang/Enum") (x := (⟨"com/example/seshat/seshat/query/Operator", "ordinal", "()I"⟩ : MethodName)) (y := (⟨"java/lang/Enum", "ordinal", "()I"⟩ : MethodName)) hown (mvT hZ (hw _ (List.mem_of_getElem? (i := 9) rfl))) (mvT hZ (hw _ (List.mem_of_getElem? (i := 10) rfl))) (mvT hZ (hw _ (List.mem_of_getElem? (i := 11) rfl))) (by decide) (mvT hZ (hw _ (List.mem_of_getElem? (i := 13) rfl))) (mvT hZ (hw _ (List.mem_of_getElem? (i := 12) rfl))) (backOf (W := 0) (own_rmN l Z a0 hw [] o (5 : Int32) h0 n0 Z0 F) hZ (hw _ (List.mem_of_getElem? (i := 15) rfl)) (hw _ (List.mem_of_getElem? (i := 14) rfl)) (by decide) (by decide)) q1a q1c (g := (mkF m 1 #[.val (.ref o), .val (.int pp)] [(.ref o)])) rfl (by rw [hml]; rfl) (Steps.refl _) (argsL := []) (rest := []) (lenOf own_pd___I rfl) rfl (by show 2 * 0 + _ ≤ _; exact Nat.le_of_eq rfl) (hb hby own_dprog_16_method_7_code_1) (fun _ _ => ⟨rfl, e0, (by decide : 0 + 0 ≤ _), (by decide : 0 + 0 ≤ _)⟩)
  dsimp only [Pt.U, Pt.locs, Pt.cells, Pt.slots] at X1 l1 y1 z1 st1 hQ1
  subst l1 y1 z1
  obtain ⟨rfl, Nq1, eq1⟩ := hQ1
  have N1 := Fr.app N0 Nq1
  refine own_st (fun _ k => st1.trans k) ?_
  show own_Go p.tables e below RR (T1.setTop (mkF m 4 #[.val (.ref o), .val (.int pp)] [(.int (5 : Int32))]))
  refine own_st (fun _ k => XS.tswIn X1.here hx rfl (pc0 := 4) (pc' := 54) rfl (hb hby own_dprog_16_method_7_code_4) rfl (o := 50) (by decide) (by decide) (by decide) (by decide) (XS.iloadN X1.here hx rfl (hb hby own_dprog_16_method_7_code_54) rfl k)) ?_
  show own_Go p.tables e below RR (T1.setTop (mkF m 55 #[.val (.ref o), .val (.int pp)] [(.int pp)]))
  by_cases hc55_2 : pp = (0 : Int32)
  · refine own_st (fun _ k => XS.ifNo X1.here hx rfl (hb hby own_dprog_16_method_7_code_55) rfl ((if0 _ _).trans (teq hc55_2).2) (XS.iconst X1.here hx rfl (hb hby own_dprog_16_method_7_code_58) (XS.goto X1.here hx rfl (pc0 := 59) (pc' := 111) rfl (hb hby own_dprog_16_method_7_code_59) (by decide) (by decide) k))) ?_
    show own_Go p.tables e below RR (T1.setTop (mkF m 111 #[.val (.ref o), .val (.int pp)] [(.int (1 : Int32))]))
    obtain ⟨fs, hrt_, hrun, hended, hW, hsame⟩ := X1.leave (v := some (.int (1 : Int32))) (fun h => by rw [Bd.returns] at h; cases h)
    refine own_fin (retN X1 hx (t := .boolean) Bd.returns (by simp) (hb hby own_dprog_16_method_7_code_111) hrt_) (hRR _ ⟨_, hrun, hended, _, _, rfl, ?_, ⟨_, rfl⟩, hW, hsame.mono (by decide) (by decide)⟩)
    show own_QH5 Z o pp r h0 n0 _ T1.heap _
    rw [eq1]
    exact ⟨own_ri (by first | simpa only [hc55_2, if_true, if_false] using hv | simpa [hc55_2] using hv), N1, rfl⟩
  · refine own_st (fun _ k => XS.ifYes X1.here hx rfl (pc0 := 55) (pc' := 62) rfl (hb hby own_dprog_16_method_7_code_55) rfl ((if0 _ _).trans (feq hc55_2).2) (by decide) (by decide) (XS.iconst X1.here hx rfl (hb hby own_dprog_16_method_7_code_62) (XS.goto X1.here hx rfl (pc0 := 63) (pc' := 111) rfl (hb hby own_dprog_16_method_7_code_63) (by decide) (by decide) k))) ?_
    show own_Go p.tables e below RR (T1.setTop (mkF m 111 #[.val (.ref o), .val (.int pp)] [(.int (0 : Int32))]))
    obtain ⟨fs, hrt_, hrun, hended, hW, hsame⟩ := X1.leave (v := some (.int (0 : Int32))) (fun h => by rw [Bd.returns] at h; cases h)
    refine own_fin (retN X1 hx (t := .boolean) Bd.returns (by simp) (hb hby own_dprog_16_method_7_code_111) hrt_) (hRR _ ⟨_, hrun, hended, _, _, rfl, ?_, ⟨_, rfl⟩, hW, hsame.mono (by decide) (by decide)⟩)
    show own_QH5 Z o pp r h0 n0 _ T1.heap _
    rw [eq1]
    exact ⟨own_ri (by first | simpa only [hc55_2, if_true, if_false] using hv | simpa [hc55_2] using hv), N1, rfl⟩
theorem own_pn_com_example_seshat_seshat_query_OperatorHoldsPinLaw : plainName "com/example/seshat/seshat/query/OperatorHoldsPinLaw" = true := by first | (simp [plainName, overriddenIn]; done) | decide +kernel
theorem own_pd__I_Z : parseMethodDescriptor "(I)Z" = some ⟨[.int], some .boolean⟩ := by decide +kernel
theorem own_ef0 (m : MethodId) (p1 : Int32) (p2 : Int32) : entryFrame m #[(.int p1), (.int p2)] maxLocals = mkF m 0 #[.val (.int p1), .val (.int p2), .unset, .unset, .unset, .unset, .unset] [] := by first | (simp [entryFrame, mkF, argsToLocals, Value.category, maxLocals]; done) | rfl
def own_Q0 (Z : State) (p1 : Int32) (p2 : Int32) (a_EQ : Addr) (a_GT : Addr) (a_GTE : Addr) (a_LT : Addr) (a_IN : Addr) (a_LTE : Addr) (h0 : Heap) (n0 : Nat) (rv__ : Option Value) (h : Heap) (rL__ : List Loc) : Prop := rv__ = some (.int 1) ∧ Fr n0 rL__
set_option maxRecDepth 65536 in
set_option maxHeartbeats 40000000 in
theorem own_rm0 (l : Launch) (Z : State) (a0 : Array Value) (hw : ∀ d ∈ tables_1, d.before a0 Z = true) (ws : List Jvm.Cond) (p1 : Int32) (p2 : Int32) (a_EQ : Addr) (a_GT : Addr) (a_GTE : Addr) (a_LT : Addr) (a_IN : Addr) (a_LTE : Addr) (h0 : Heap) (n0 : Nat) (Z0 : n0 ≤ h0.size) (E_EQ : Exa Z h0 a_EQ "com/example/seshat/seshat/query/Operator") (S_EQ : Sta Z h0 "com/example/seshat/seshat/query/Operator" "EQ" "Lcom/example/seshat/seshat/query/Operator;" (.ref a_EQ)) (F_EQ_ordinal : Fld Z h0 a_EQ "java/lang/Enum" "ordinal" "I" (.int (0 : Int32))) (E_GT : Exa Z h0 a_GT "com/example/seshat/seshat/query/Operator") (S_GT : Sta Z h0 "com/example/seshat/seshat/query/Operator" "GT" "Lcom/example/seshat/seshat/query/Operator;" (.ref a_GT)) (F_GT_ordinal : Fld Z h0 a_GT "java/lang/Enum" "ordinal" "I" (.int (2 : Int32))) (E_GTE : Exa Z h0 a_GTE "com/example/seshat/seshat/query/Operator") (S_GTE : Sta Z h0 "com/example/seshat/seshat/query/Operator" "GTE" "Lcom/example/seshat/seshat/query/Operator;" (.ref a_GTE)) (F_GTE_ordinal : Fld Z h0 a_GTE "java/lang/Enum" "ordinal" "I" (.int (4 : Int32))) (E_LT : Exa Z h0 a_LT "com/example/seshat/seshat/query/Operator") (S_LT : Sta Z h0 "com/example/seshat/seshat/query/Operator" "LT" "Lcom/example/seshat/seshat/query/Operator;" (.ref a_LT)) (F_LT_ordinal : Fld Z h0 a_LT "java/lang/Enum" "ordinal" "I" (.int (1 : Int32))) (E_IN : Exa Z h0 a_IN "com/example/seshat/seshat/query/Operator") (S_IN : Sta Z h0 "com/example/seshat/seshat/query/Operator" "IN" "Lcom/example/seshat/seshat/query/Operator;" (.ref a_IN)) (F_IN_ordinal : Fld Z h0 a_IN "java/lang/Enum" "ordinal" "I" (.int (5 : Int32))) (E_LTE : Exa Z h0 a_LTE "com/example/seshat/seshat/query/Operator") (S_LTE : Sta Z h0 "com/example/seshat/seshat/query/Operator" "LTE" "Lcom/example/seshat/seshat/query/Operator;" (.ref a_LTE)) (F_LTE_ordinal : Fld Z h0 a_LTE "java/lang/Enum" "ordinal" "I" (.int (3 : Int32))) :
    MetFree l x (head1 (Jvm.Cond.code x code maxLocals ret :: ws) room_1) (fun aa__ U => aa__ = #[(.int p1), (.int p2)] ∧ Z.Warmed39 U.vm ∧ U.heap = h0) (fun _ _ _ _ _ => True) (fun _ U oc_ U' => ∃ rv__ rL__, oc_ = .returned rv__ ∧ own_Q0 Z p1 p2 a_EQ a_GT a_GTE a_LT a_IN a_LTE h0 n0 rv__ U'.heap rL__ ∧ FrameEnd U oc_ U' rL__ room_1.cells room_1.slots) := by
  refine MetFree.of_bodySF (plainFor_of_name own_pn_com_example_seshat_seshat_query_OperatorHoldsPinLaw) hisR ?_
  intro p e s m args below meth c s₁ Bd hml0 hP hK
  obtain ⟨rfl, hZ, hh⟩ := hP
  have hx := Bd.exec
  have hby := Bd.bytes
  have hml : c.maxLocals = 7 := hml0
  have hown : s.vm.findClass "com/example/seshat/seshat/query/OperatorHoldsPinLaw" = some m.cls := findClass_of_methodNamed Bd.named
  have hnm := (name_of_methodNamed Bd.named Bd.method).1
  have X0 : Stand p l e room_1 s m #[(.int p1), (.int p2)] below meth c s₁ [] 0 0 := Stand.of_body Bd
  have e0 : s₁.heap = h0 := by rw [← hh, Bd.state]; rfl
  have N0 := Fr.nil n0
  refine own_in (fun _ k => castTop (own_ef0 m p1 p2) k) ?_
  intro RR hRR
  show own_Go p.tables e below RR (s₁.setTop (mkF m 0 #[.val (.int p1), .val (.int p2), .unset, .unset, .unset, .unset, .unset] []))
  refine own_st (fun _ k => XS.iloadN X0.here hx rfl (hb hby at_0) rfl (X0.ldcInt hx hown (mvT hZ (hw _ (List.mem_of_getElem? (i := 0) rfl))) (g := (mkF m 1 #[.val (.int p1), .val (.int p2), .unset, .unset, .unset, .unset, .unset] [(.int p1)])) rfl (hb hby at_1) _ (XS.iand X0.here hx rfl (hb hby at_3) rfl (XS.bipush X0.here hx rfl (hb hby at_4) k)))) ?_
  show own_Go p.tables e below RR (s₁.setTop (mkF m 6 #[.val (.int p1), .val (.int p2), .unset, .unset, .unset, .unset, .unset] [(.int (6 : Int32)), (.int (p1 &&& (2147483647 : Int32)))]))
  refine own_st (fun _ k => XS.irem X0.here hx rfl (hb hby at_6) rfl (by decide) k) ?_
  show own_Go p.tables e below RR (s₁.setTop (mkF m 7 #[.val (.int p1), .val (.int p2), .unset, .unset, .unset, .unset, .unset] [(.int ((p1 &&& (2147483647 : Int32)) - ((p1 &&& (2147483647 : Int32)) / (6 : Int32)) * (6 : Int32)))]))
  rw [irem_eq_mod (p1 &&& (2147483647 : Int32)) (6 : Int32)]
  show own_Go p.tables e below RR (s₁.setTop (mkF m 7 #[.val (.int p1), .val (.int p2), .unset, .unset, .unset, .unset, .unset] [(.int ((p1 &&& (2147483647 : Int32)) % (6 : Int32)))]))
  generalize gv1 : ((p1 &&& (2147483647 : Int32)) % (6 : Int32)) = v1
  show own_Go p.tables e below RR (s₁.setTop (mkF m 7 #[.val (.int p1), .val (.int p2), .unset, .unset, .unset, .unset, .unset] [(.int v1)]))
  refine own_st (fun _ k => XS.istoreN X0.here hx rfl (hb hby at_7) rfl (l' := #[.val (.int p1), .val (.int p2), .val (.int v1), .unset, .unset, .unset, .unset]) rfl k) ?_
  show own_Go p.tables e below RR (s₁.setTop (mkF m 8 #[.val (.int p1), .val (.int p2), .val (.int v1), .unset, .unset, .unset, .unset] []))
  show own_Go p.tables e below RR (s₁.setTop (mkF m 8 #[.val (.int p1), .val (.int p2), .val (.int v1), .unset, .unset, .unset, .unset] []))
  show own_Go p.tables e below RR (s₁.setTop (mkF m 8 #[.val (.int p1), .val (.int p2), .val (.int v1), .unset, .unset, .unset, .unset] []))
  rcases own_six gv1 with rfl | rfl | rfl | rfl | rfl | rfl
  · show own_Go p.tables e below RR (s₁.setTop (mkF m 8 #[.val (.int p1), .val (.int p2), .val (.int (0 : Int32)), .unset, .unset, .unset, .unset] []))
    show own_Go p.tables e below RR (s₁.setTop (mkF m 8 #[.val (.int p1), .val (.int p2), .val (.int (0 : Int32)), .unset, .unset, .unset, .unset] []))
    refine own_st (fun _ k => XS.iloadN X0.here hx rfl (hb hby at_8) rfl k) ?_
    show own_Go p.tables e below RR (s₁.setTop (mkF m 9 #[.val (.int p1), .val (.int p2), .val (.int (0 : Int32)), .unset, .unset, .unset, .unset] [(.int (0 : Int32))]))
    refine own_st (fun _ k => XS.ifNo X0.here hx rfl (hb hby at_9) rfl ((if0 _ _).trans (teq (by decide)).2) k) ?_
    show own_Go p.tables e below RR (s₁.setTop (mkF m 12 #[.val (.int p1), .val (.int p2), .val (.int (0 : Int32)), .unset, .unset, .unset, .unset] []))
    obtain ⟨T2, X2, e2, st2⟩ := getS2 X0 hx hZ hown (host := "") (Or.inl (hw _ (List.mem_of_getElem? (i := 1) rfl))) Via.refl e0 S_EQ (g := (mkF m 12 #[.val (.int p1), .val (.int p2), .val (.int (0 : Int32)), .unset, .unset, .unset, .unset] [])) rfl (hb hby at_12)
    refine own_st st2 ?_
    show own_Go p.tables e below RR (T2.setTop (mkF m 15 #[.val (.int p1), .val (.int p2), .val (.int (0 : Int32)), .unset, .unset, .unset, .unset] [(.ref a_EQ)]))
    refine own_st (fun _ k => XS.astoreN X2.here hx rfl (hb hby at_15) rfl rfl (l' := #[.val (.int p1), .val (.int p2), .val (.int (0 : Int32)), .val (.ref a_EQ), .unset, .unset, .unset]) rfl (XS.iconst X2.here hx rfl (hb hby at_16) (XS.istore X2.here hx rfl (hb hby at_17) rfl (l' := #[.val (.int p1), .val (.int p2), .val (.int (0 : Int32)), .val (.ref a_EQ), .val (.int (2 : Int32)), .unset, .unset]) rfl (XS.goto X2.here hx rfl (pc0 := 19) (pc' := 90) rfl (hb hby at_19) (by decide) (by decide) (XS.iloadN X2.here hx rfl (hb hby at_90) rfl k))))) ?_
    show own_Go p.tables e below RR (T2.setTop (mkF m 91 #[.val (.int p1), .val (.int p2), .val (.int (0 : Int32)), .val (.ref a_EQ), .val (.int (2 : Int32)), .unset, .unset] [(.int p2)]))
    by_cases hc91_3 : p2 < (0 : Int32)
    · refine own_st (fun _ k => XS.ifNo X2.here hx rfl (hb hby at_91) rfl ((if0 _ _).trans (tlt hc91_3).2.1) (XS.iconst X2.here hx rfl (hb hby at_94) (XS.goto X2.here hx rfl (pc0 := 95) (pc' := 107) rfl (hb hby at_95) (by decide) (by decide) (XS.istore X2.here hx rfl (hb hby at_107) rfl (l' := #[.val (.int p1), .val (.int p2), .val (.int (0 : Int32)), .val (.ref a_EQ), .val (.int (2 : Int32)), .val (.int (0 : Int32)), .unset]) rfl (XS.iload X2.here hx rfl (hb hby at_109) rfl (XS.iload X2.here hx rfl (hb hby at_111) rfl (XS.ishr X2.here hx rfl (hb hby at_113) rfl k))))))) ?_
      show own_Go p.tables e below RR (T2.setTop (mkF m 114 #[.val (.int p1), .val (.int p2), .val (.int (0 : Int32)), .val (.ref a_EQ), .val (.int (2 : Int32)), .val (.int (0 : Int32)), .unset] [(.int ((2 : Int32) >>> ((0 : Int32) &&& 31)))]))
      rw [show ((2 : Int32) >>> ((0 : Int32) &&& 31)) = (2 : Int32) from by decide]
      show own_Go p.tables e below RR (T2.setTop (mkF m 114 #[.val (.int p1), .val (.int p2), .val (.int (0 : Int32)), .val (.ref a_EQ), .val (.int (2 : Int32)), .val (.int (0 : Int32)), .unset] [(.int (2 : Int32))]))
      refine own_st (fun _ k => XS.iconst X2.here hx rfl (hb hby at_114) (XS.iand X2.here hx rfl (hb hby at_115) rfl k)) ?_
      show own_Go p.tables e below RR (T2.setTop (mkF m 116 #[.val (.int p1), .val (.int p2), .val (.int (0 : Int32)), .val (.ref a_EQ), .val (.int (2 : Int32)), .val (.int (0 : Int32)), .unset] [(.int (0 : Int32))]))
      refine own_st (fun _ k => XS.ifYes X2.here hx rfl (pc0 := 116) (pc' := 123) rfl (hb hby at_116) rfl ((if0 _ _).trans (teq (by decide)).1) (by decide) (by decide) (XS.iconst X2.here hx rfl (hb hby at_123) (XS.istore X2.here hx rfl (hb hby at_124) rfl (l' := #[.val (.int p1), .val (.int p2), .val (.int (0 : Int32)), .val (.ref a_EQ), .val (.int (2 : Int32)), .val (.int (0 : Int32)), .val (.int (0 : Int32))]) rfl (XS.aloadN X2.here hx rfl (hb hby at_126) rfl rfl (XS.iloadN X2.here hx rfl (hb hby at_127) rfl k))))) ?_
      show own_Go p.tables e below RR (T2.setTop (mkF m 128 #[.val (.int p1), .val (.int p2), .val (.int (0 : Int32)), .val (.ref a_EQ), .val (.int (2 : Int32)), .val (.int (0 : Int32)), .val (.int (0 : Int32))] [(.int p2), (.ref a_EQ)]))
      obtain ⟨cq4, kq4, q4a, q4b, q4c⟩ := isOf hZ e2 E_EQ
      obtain ⟨_, _, ⟨T4, L4, k4, n4⟩, -, X4, ⟨Lc4, hQ4, l4, y4, z4⟩, st4⟩ := X2.virtualBack hx (y := (⟨"com/example/seshat/seshat/query/Operator", "holds", "(I)Z"⟩ : MethodName)) (z := (⟨"com/example/seshat/seshat/query/Operator", "holds", "(I)Z"⟩ : MethodName)) hown (mvT hZ (hw _ (List.mem_of_getElem? (i := 4) rfl))) (mvT hZ (hw _ (List.mem_of_getElem? (i := 5) rfl))) (notFace_of_selects (args := #[]) (mvT hZ (hw _ (List.mem_of_getElem? (i := 7) rfl)))) (mvT hZ (hw _ (List.mem_of_getElem? (i := 7) rfl))) (mvT hZ (hw _ (List.mem_of_getElem? (i := 6) rfl))) (by decide) (backOf (W := 0) (own_rmH0 l Z a0 hw [] a_EQ p2 (0 : Int32) h0 n0 Z0 E_EQ F_EQ_ordinal (if_neg (own_nz hc91_3))) hZ (hw _ (List.mem_of_getElem? (i := 8) rfl)) (hw _ (List.mem_of_getElem? (i := 2) rfl)) (by decide) (by decide)) q4a q4c (g := (mkF m 128 #[.val (.int p1), .val (.int p2), .val (.int (0 : Int32)), .val (.ref a_EQ), .val (.int (2 : Int32)), .val (.int (0 : Int32)), .val (.int (0 : Int32))] [(.int p2), (.ref a_EQ)])) rfl (by rw [hml]; rfl) (Steps.refl _) (argsL := [(.int p2)]) (rest := []) (lenOf own_pd__I_Z rfl) rfl (by show 2 * 0 + _ ≤ _; exact Nat.le_of_eq rfl) (hb hby at_128) (fun _ _ => ⟨rfl, e2, (by decide : 0 + 0 ≤ _), (by decide : 0 + 0 ≤ _)⟩)
      dsimp only [Pt.U, Pt.locs, Pt.cells, Pt.slots] at X4 l4 y4 z4 st4 hQ4
      subst l4 y4 z4
      obtain ⟨rfl, Nq4, eq4⟩ := hQ4
      have N4 := Fr.app N0 Nq4
      refine own_st (fun _ k => st4.trans k) ?_
      show own_Go p.tables e below RR (T4.setTop (mkF m 131 #[.val (.int p1), .val (.int p2), .val (.int (0 : Int32)), .val (.ref a_EQ), .val (.int (2 : Int32)), .val (.int (0 : Int32)), .val (.int (0 : Int32))] [(.int (0 : Int32))]))
      refine own_st (fun _ k => XS.iload X4.here hx rfl (hb hby at_131) rfl k) ?_
      show own_Go p.tables e below RR (T4.setTop (mkF m 133 #[.val (.int p1), .val (.int p2), .val (.int (0 : Int32)), .val (.ref a_EQ), .val (.int (2 : Int32)), .val (.int (0 : Int32)), .val (.int (0 : Int32))] [(.int (0 : Int32)), (.int (0 : Int32))]))
      refine own_st (fun _ k => XS.icmpNo X4.here hx rfl (hb hby at_133) rfl (teq (by decide)).2 (XS.iconst X4.here hx rfl (hb hby at_136) (XS.goto X4.here hx rfl (pc0 := 137) (pc' := 141) rfl (hb hby at_137) (by decide) (by decide) k))) ?_
      show own_Go p.tables e below RR (T4.setTop (mkF m 141 #[.val (.int p1), .val (.int p2), .val (.int (0 : Int32)), .val (.ref a_EQ), .val (.int (2 : Int32)), .val (.int (0 : Int32)), .val (.int (0 : Int32))] [(.int (1 : Int32))]))
      obtain ⟨fs, hrt_, hrun, hended, hW, hsame⟩ := X4.leave (v := some (.int (1 : Int32))) (fun h => by rw [Bd.returns] at h; cases h)
      refine own_fin (retN X4 hx (t := .boolean) Bd.returns (by simp) (hb hby at_141) hrt_) (hRR _ ⟨_, hrun, hended, _, _, rfl, ?_, ⟨_, rfl⟩, hW, hsame.mono (by decide) (by decide)⟩)
      show own_Q0 Z p1 p2 a_EQ a_GT a_GTE a_LT a_IN a_LTE h0 n0 _ T4.heap _
      rw [eq4]
      exact ⟨rfl, N4⟩
    · refine own_st (fun _ k => XS.ifYes X2.here hx rfl (pc0 := 91) (pc' := 98) rfl (hb hby at_91) rfl ((if0 _ _).trans (flt hc91_3).2.1) (by decide) (by decide) (XS.iloadN X2.here hx rfl (hb hby at_98) rfl k)) ?_
      show own_Go p.tables e below RR (T2.setTop (mkF m 99 #[.val (.int p1), .val (.int p2), .val (.int (0 : Int32)), .val (.ref a_EQ), .val (.int (2 : Int32)), .unset, .unset] [(.int p2)]))
      by_cases hc99_5 : p2 = (0 : Int32)
      · refine own_st (fun _ k => XS.ifNo X2.here hx rfl (hb hby at_99) rfl ((if0 _ _).trans (teq hc99_5).2) (XS.iconst X2.here hx rfl (hb hby at_102) (XS.goto X2.here hx rfl (pc0 := 103) (pc' := 107) rfl (hb hby at_103) (by decide) (by decide) (XS.istore X2.here hx rfl (hb hby at_107) rfl (l' := #[.val (.int p1), .val (.int p2), .val (.int (0 : Int32)), .val (.ref a_EQ), .val (.int (2 : Int32)), .val (.int (1 : Int32)), .unset]) rfl (XS.iload X2.here hx rfl (hb hby at_109) rfl (XS.iload X2.here hx rfl (hb hby at_111) rfl (XS.ishr X2.here hx rfl (hb hby at_113) rfl k))))))) ?_
        show own_Go p.tables e below RR (T2.setTop (mkF m 114 #[.val (.int p1), .val (.int p2), .val (.int (0 : Int32)), .val (.ref a_EQ), .val (.int (2 : Int32)), .val (.int (1 : Int32)), .unset] [(.int ((2 : Int32) >>> ((1 : Int32) &&& 31)))]))
        rw [show ((2 : Int32) >>> ((1 : Int32) &&& 31)) = (1 : Int32) from by decide]
        show own_Go p.tables e below RR (T2.setTop (mkF m 114 #[.val (.int p1), .val (.int p2), .val (.int (0 : Int32)), .val (.ref a_EQ), .val (.int (2 : Int32)), .val (.int (1 : Int32)), .unset] [(.int (1 : Int32))]))
        refine own_st (fun _ k => XS.iconst X2.here hx rfl (hb hby at_114) (XS.iand X2.here hx rfl (hb hby at_115) rfl k)) ?_
        show own_Go p.tables e below RR (T2.setTop (mkF m 116 #[.val (.int p1), .val (.int p2), .val (.int (0 : Int32)), .val (.ref a_EQ), .val (.int (2 : Int32)), .val (.int (1 : Int32)), .unset] [(.int (1 : Int32))]))
        refine own_st (fun _ k => XS.ifNo X2.here hx rfl (hb hby at_116) rfl ((if0 _ _).trans (feq (by decide)).1) (XS.iconst X2.here hx rfl (hb hby at_119) (XS.goto X2.here hx rfl (pc0 := 120) (pc' := 124) rfl (hb hby at_120) (by decide) (by decide) (XS.istore X2.here hx rfl (hb hby at_124) rfl (l' := #[.val (.int p1), .val (.int p2), .val (.int (0 : Int32)), .val (.ref a_EQ), .val (.int (2 : Int32)), .val (.int (1 : Int32)), .val (.int (1 : Int32))]) rfl (XS.aloadN X2.here hx rfl (hb hby at_126) rfl rfl (XS.iloadN X2.here hx rfl (hb hby at_127) rfl k)))))) ?_
        show own_Go p.tables e below RR (T2.setTop (mkF m 128 #[.val (.int p1), .val (.int p2), .val (.int (0 : Int32)), .val (.ref a_EQ), .val (.int (2 : Int32)), .val (.int (1 : Int32)), .val (.int (1 : Int32))] [(.int p2), (.ref a_EQ)]))
        obtain ⟨cq6, kq6, q6a, q6b, q6c⟩ := isOf hZ e2 E_EQ
        obtain ⟨_, _, ⟨T6, L6, k6, n6⟩, -, X6, ⟨Lc6, hQ6, l6, y6, z6⟩, st6⟩ := X2.virtualBack hx (y := (⟨"com/example/seshat/seshat/query/Operator", "holds", "(I)Z"⟩ : MethodName)) (z := (⟨"com/example/seshat/seshat/query/Operator", "holds", "(I)Z"⟩ : MethodName)) hown (mvT hZ (hw _ (List.mem_of_getElem? (i := 4) rfl))) (mvT hZ (hw _ (List.mem_of_getElem? (i := 5) rfl))) (notFace_of_selects (args := #[]) (mvT hZ (hw _ (List.mem_of_getElem? (i := 7) rfl)))) (mvT hZ (hw _ (List.mem_of_getElem? (i := 7) rfl))) (mvT hZ (hw _ (List.mem_of_getElem? (i := 6) rfl))) (by decide) (backOf (W := 0) (own_rmH0 l Z a0 hw [] a_EQ p2 (1 : Int32) h0 n0 Z0 E_EQ F_EQ_ordinal (if_pos hc99_5)) hZ (hw _ (List.mem_of_getElem? (i := 8) rfl)) (hw _ (List.mem_of_getElem? (i := 2) rfl)) (by decide) (by decide)) q6a q6c (g := (mkF m 128 #[.val (.int p1), .val (.int p2), .val (.int (0 : Int32)), .val (.ref a_EQ), .val (.int (2 : Int32)), .val (.int (1 : Int32)), .val (.int (1 : Int32))] [(.int p2), (.ref a_EQ)])) rfl (by rw [hml]; rfl) (Steps.refl _) (argsL := [(.int p2)]) (rest := []) (lenOf own_pd__I_Z rfl) rfl (by show 2 * 0 + _ ≤ _; exact Nat.le_of_eq rfl) (hb hby at_128) (fun _ _ => ⟨rfl, e2, (by decide : 0 + 0 ≤ _), (by decide : 0 + 0 ≤ _)⟩)
        dsimp only [Pt.U, Pt.locs, Pt.cells, Pt.slots] at X6 l6 y6 z6 st6 hQ6
        subst l6 y6 z6
        obtain ⟨rfl, Nq6, eq6⟩ := hQ6
        have N6 := Fr.app N0 Nq6
        refine own_st (fun _ k => st6.trans k) ?_
        show own_Go p.tables e below RR (T6.setTop (mkF m 131 #[.val (.int p1), .val (.int p2), .val (.int (0 : Int32)), .val (.ref a_EQ), .val (.int (2 : Int32)), .val (.int (1 : Int32)), .val (.int (1 : Int32))] [(.int (1 : Int32))]))
        refine own_st (fun _ k => XS.iload X6.here hx rfl (hb hby at_131) rfl k) ?_
        show own_Go p.tables e below RR (T6.setTop (mkF m 133 #[.val (.int p1), .val (.int p2), .val (.int (0 : Int32)), .val (.ref a_EQ), .val (.int (2 : Int32)), .val (.int (1 : Int32)), .val (.int (1 : Int32))] [(.int (1 : Int32)), (.int (1 : Int32))]))
        refine own_st (fun _ k => XS.icmpNo X6.here hx rfl (hb hby at_133) rfl (teq (by decide)).2 (XS.iconst X6.here hx rfl (hb hby at_136) (XS.goto X6.here hx rfl (pc0 := 137) (pc' := 141) rfl (hb hby at_137) (by decide) (by decide) k))) ?_
        show own_Go p.tables e below RR (T6.setTop (mkF m 141 #[.val (.int p1), .val (.int p2), .val (.int (0 : Int32)), .val (.ref a_EQ), .val (.int (2 : Int32)), .val (.int (1 : Int32)), .val (.int (1 : Int32))] [(.int (1 : Int32))]))
        obtain ⟨fs, hrt_, hrun, hended, hW, hsame⟩ := X6.leave (v := some (.int (1 : Int32))) (fun h => by rw [Bd.returns] at h; cases h)
        refine own_fin (retN X6 hx (t := .boolean) Bd.returns (by simp) (hb hby at_141) hrt_) (hRR _ ⟨_, hrun, hended, _, _, rfl, ?_, ⟨_, rfl⟩, hW, hsame.mono (by decide) (by decide)⟩)
        show own_Q0 Z p1 p2 a_EQ a_GT a_GTE a_LT a_IN a_LTE h0 n0 _ T6.heap _
        rw [eq6]
        exact ⟨rfl, N6⟩
      · refine own_st (fun _ k => XS.ifYes X2.here hx rfl (pc0 := 99) (pc' := 106) rfl (hb hby at_99) rfl ((if0 _ _).trans (feq hc99_5).2) (by decide) (by decide) (XS.iconst X2.here hx rfl (hb hby at_106) (XS.istore X2.here hx rfl (hb hby at_107) rfl (l' := #[.val (.int p1), .val (.int p2), .val (.int (0 : Int32)), .val (.ref a_EQ), .val (.int (2 : Int32)), .val (.int (2 : Int32)), .unset]) rfl (XS.iload X2.here hx rfl (hb hby at_109) rfl (XS.iload X2.here hx rfl (hb hby at_111) rfl (XS.ishr X2.here hx rfl (hb hby at_113) rfl k)))))) ?_
        show own_Go p.tables e below RR (T2.setTop (mkF m 114 #[.val (.int p1), .val (.int p2), .val (.int (0 : Int32)), .val (.ref a_EQ), .val (.int (2 : Int32)), .val (.int (2 : Int32)), .unset] [(.int ((2 : Int32) >>> ((2 : Int32) &&& 31)))]))
        rw [show ((2 : Int32) >>> ((2 : Int32) &&& 31)) = (0 : Int32) from by decide]
        show own_Go p.tables e below RR (T2.setTop (mkF m 114 #[.val (.int p1), .val (.int p2), .val (.int (0 : Int32)), .val (.ref a_EQ), .val (.int (2 : Int32)), .val (.int (2 : Int32)), .unset] [(.int (0 : Int32))]))
        refine own_st (fun _ k => XS.iconst X2.here hx rfl (hb hby at_114) (XS.iand X2.here hx rfl (hb hby at_115) rfl k)) ?_
        show own_Go p.tables e below RR (T2.setTop (mkF m 116 #[.val (.int p1), .val (.int p2), .val (.int (0 : Int32)), .val (.ref a_EQ), .val (.int (2 : Int32)), .val (.int (2 : Int32)), .unset] [(.int (0 : Int32))]))
        refine own_st (fun _ k => XS.ifYes X2.here hx rfl (pc0 := 116) (pc' := 123) rfl (hb hby at_116) rfl ((if0 _ _).trans (teq (by decide)).1) (by decide) (by decide) (XS.iconst X2.here hx rfl (hb hby at_123) (XS.istore X2.here hx rfl (hb hby at_124) rfl (l' := #[.val (.int p1), .val (.int p2), .val (.int (0 : Int32)), .val (.ref a_EQ), .val (.int (2 : Int32)), .val (.int (2 : Int32)), .val (.int (0 : Int32))]) rfl (XS.aloadN X2.here hx rfl (hb hby at_126) rfl rfl (XS.iloadN X2.here hx rfl (hb hby at_127) rfl k))))) ?_
        show own_Go p.tables e below RR (T2.setTop (mkF m 128 #[.val (.int p1), .val (.int p2), .val (.int (0 : Int32)), .val (.ref a_EQ), .val (.int (2 : Int32)), .val (.int (2 : Int32)), .val (.int (0 : Int32))] [(.int p2), (.ref a_EQ)]))
        obtain ⟨cq7, kq7, q7a, q7b, q7c⟩ := isOf hZ e2 E_EQ
        obtain ⟨_, _, ⟨T7, L7, k7, n7⟩, -, X7, ⟨Lc7, hQ7, l7, y7, z7⟩, st7⟩ := X2.virtualBack hx (y := (⟨"com/example/seshat/seshat/query/Operator", "holds", "(I)Z"⟩ : MethodName)) (z := (⟨"com/example/seshat/seshat/query/Operator", "holds", "(I)Z"⟩ : MethodName)) hown (mvT hZ (hw _ (List.mem_of_getElem? (i := 4) rfl))) (mvT hZ (hw _ (List.mem_of_getElem? (i := 5) rfl))) (notFace_of_selects (args := #[]) (mvT hZ (hw _ (List.mem_of_getElem? (i := 7) rfl)))) (mvT hZ (hw _ (List.mem_of_getElem? (i := 7) rfl))) (mvT hZ (hw _ (List.mem_of_getElem? (i := 6) rfl))) (by decide) (backOf (W := 0) (own_rmH0 l Z a0 hw [] a_EQ p2 (0 : Int32) h0 n0 Z0 E_EQ F_EQ_ordinal (if_neg hc99_5)) hZ (hw _ (List.mem_of_getElem? (i := 8) rfl)) (hw _ (List.mem_of_getElem? (i := 2) rfl)) (by decide) (by decide)) q7a q7c (g := (mkF m 128 #[.val (.int p1), .val (.int p2), .val (.int (0 : Int32)), .val (.ref a_EQ), .val (.int (2 : Int32)), .val (.int (2 : Int32)), .val (.int (0 : Int32))] [(.int p2), (.ref a_EQ)])) rfl (by rw [hml]; rfl) (Steps.refl _) (argsL := [(.int p2)]) (rest := []) (lenOf own_pd__I_Z rfl) rfl (by show 2 * 0 + _ ≤ _; exact Nat.le_of_eq rfl) (hb hby at_128) (fun _ _ => ⟨rfl, e2, (by decide : 0 + 0 ≤ _), (by decide : 0 + 0 ≤ _)⟩)
        dsimp only [Pt.U, Pt.locs, Pt.cells, Pt.slots] at X7 l7 y7 z7 st7 hQ7
        subst l7 y7 z7
        obtain ⟨rfl, Nq7, eq7⟩ := hQ7
        have N7 := Fr.app N0 Nq7
        refine own_st (fun _ k => st7.trans k) ?_
        show own_Go p.tables e below RR (T7.setTop (mkF m 131 #[.val (.int p1), .val (.int p2), .val (.int (0 : Int32)), .val (.ref a_EQ), .val (.int (2 : Int32)), .val (.int (2 : Int32)), .val (.int (0 : Int32))] [(.int (0 : Int32))]))
        refine own_st (fun _ k => XS.iload X7.here hx rfl (hb hby at_131) rfl k) ?_
        show own_Go p.tables e below RR (T7.setTop (mkF m 133 #[.val (.int p1), .val (.int p2), .val (.int (0 : Int32)), .val (.ref a_EQ), .val (.int (2 : Int32)), .val (.int (2 : Int32)), .val (.int (0 : Int32))] [(.int (0 : Int32)), (.int (0 : Int32))]))
        refine own_st (fun _ k => XS.icmpNo X7.here hx rfl (hb hby at_133) rfl (teq (by decide)).2 (XS.iconst X7.here hx rfl (hb hby at_136) (XS.goto X7.here hx rfl (pc0 := 137) (pc' := 141) rfl (hb hby at_137) (by decide) (by decide) k))) ?_
        show own_Go p.tables e below RR (T7.setTop (mkF m 141 #[.val (.int p1), .val (.int p2), .val (.int (0 : Int32)), .val (.ref a_EQ), .val (.int (2 : Int32)), .val (.int (2 : Int32)), .val (.int (0 : Int32))] [(.int (1 : Int32))]))
        obtain ⟨fs, hrt_, hrun, hended, hW, hsame⟩ := X7.leave (v := some (.int (1 : Int32))) (fun h => by rw [Bd.returns] at h; cases h)
        refine own_fin (retN X7 hx (t := .boolean) Bd.returns (by simp) (hb hby at_141) hrt_) (hRR _ ⟨_, hrun, hended, _, _, rfl, ?_, ⟨_, rfl⟩, hW, hsame.mono (by decide) (by decide)⟩)
        show own_Q0 Z p1 p2 a_EQ a_GT a_GTE a_LT a_IN a_LTE h0 n0 _ T7.heap _
        rw [eq7]
        exact ⟨rfl, N7⟩
  · show own_Go p.tables e below RR (s₁.setTop (mkF m 8 #[.val (.int p1), .val (.int p2), .val (.int (1 : Int32)), .unset, .unset, .unset, .unset] []))
    show own_Go p.tables e below RR (s₁.setTop (mkF m 8 #[.val (.int p1), .val (.int p2), .val (.int (1 : Int32)), .unset, .unset, .unset, .unset] []))
    refine own_st (fun _ k => XS.iloadN X0.here hx rfl (hb hby at_8) rfl k) ?_
    show own_Go p.tables e below RR (s₁.setTop (mkF m 9 #[.val (.int p1), .val (.int p2), .val (.int (1 : Int32)), .unset, .unset, .unset, .unset] [(.int (1 : Int32))]))
    refine own_st (fun _ k => XS.ifYes X0.here hx rfl (pc0 := 9) (pc' := 22) rfl (hb hby at_9) rfl ((if0 _ _).trans (feq (by decide)).2) (by decide) (by decide) (XS.iloadN X0.here hx rfl (hb hby at_22) rfl (XS.iconst X0.here hx rfl (hb hby at_23) k))) ?_
    show own_Go p.tables e below RR (s₁.setTop (mkF m 24 #[.val (.int p1), .val (.int p2), .val (.int (1 : Int32)), .unset, .unset, .unset, .unset] [(.int (1 : Int32)), (.int (1 : Int32))]))
    refine own_st (fun _ k => XS.icmpNo X0.here hx rfl (hb hby at_24) rfl (teq (by decide)).2 k) ?_
    show own_Go p.tables e below RR (s₁.setTop (mkF m 27 #[.val (.int p1), .val (.int p2), .val (.int (1 : Int32)), .unset, .unset, .unset, .unset] []))
    obtain ⟨T8, X8, e8, st8⟩ := getS2 X0 hx hZ hown (host := "") (Or.inl (hw _ (List.mem_of_getElem? (i := 22) rfl))) Via.refl e0 S_LT (g := (mkF m 27 #[.val (.int p1), .val (.int p2), .val (.int (1 : Int32)), .unset, .unset, .unset, .unset] [])) rfl (hb hby at_27)
    refine own_st st8 ?_
    show own_Go p.tables e below RR (T8.setTop (mkF m 30 #[.val (.int p1), .val (.int p2), .val (.int (1 : Int32)), .unset, .unset, .unset, .unset] [(.ref a_LT)]))
    refine own_st (fun _ k => XS.astoreN X8.here hx rfl (hb hby at_30) rfl rfl (l' := #[.val (.int p1), .val (.int p2), .val (.int (1 : Int32)), .val (.ref a_LT), .unset, .unset, .unset]) rfl (XS.iconst X8.here hx rfl (hb hby at_31) (XS.istore X8.here hx rfl (hb hby at_32) rfl (l' := #[.val (.int p1), .val (.int p2), .val (.int (1 : Int32)), .val (.ref a_LT), .val (.int (1 : Int32)), .unset, .unset]) rfl (XS.goto X8.here hx rfl (pc0 := 34) (pc' := 90) rfl (hb hby at_34) (by decide) (by decide) (XS.iloadN X8.here hx rfl (hb hby at_90) rfl k))))) ?_
    show own_Go p.tables e below RR (T8.setTop (mkF m 91 #[.val (.int p1), .val (.int p2), .val (.int (1 : Int32)), .val (.ref a_LT), .val (.int (1 : Int32)), .unset, .unset] [(.int p2)]))
    by_cases hc91_9 : p2 < (0 : Int32)
    · refine own_st (fun _ k => XS.ifNo X8.here hx rfl (hb hby at_91) rfl ((if0 _ _).trans (tlt hc91_9).2.1) (XS.iconst X8.here hx rfl (hb hby at_94) (XS.goto X8.here hx rfl (pc0 := 95) (pc' := 107) rfl (hb hby at_95) (by decide) (by decide) (XS.istore X8.here hx rfl (hb hby at_107) rfl (l' := #[.val (.int p1), .val (.int p2), .val (.int (1 : Int32)), .val (.ref a_LT), .val (.int (1 : Int32)), .val (.int (0 : Int32)), .unset]) rfl (XS.iload X8.here hx rfl (hb hby at_109) rfl (XS.iload X8.here hx rfl (hb hby at_111) rfl (XS.ishr X8.here hx rfl (hb hby at_113) rfl k))))))) ?_
      show own_Go p.tables e below RR (T8.setTop (mkF m 114 #[.val (.int p1), .val (.int p2), .val (.int (1 : Int32)), .val (.ref a_LT), .val (.int (1 : Int32)), .val (.int (0 : Int32)), .unset] [(.int ((1 : Int32) >>> ((0 : Int32) &&& 31)))]))
      rw [show ((1 : Int32) >>> ((0 : Int32) &&& 31)) = (1 : Int32) from by decide]
      show own_Go p.tables e below RR (T8.setTop (mkF m 114 #[.val (.int p1), .val (.int p2), .val (.int (1 : Int32)), .val (.ref a_LT), .val (.int (1 : Int32)), .val (.int (0 : Int32)), .unset] [(.int (1 : Int32))]))
      refine own_st (fun _ k => XS.iconst X8.here hx rfl (hb hby at_114) (XS.iand X8.here hx rfl (hb hby at_115) rfl k)) ?_
      show own_Go p.tables e below RR (T8.setTop (mkF m 116 #[.val (.int p1), .val (.int p2), .val (.int (1 : Int32)), .val (.ref a_LT), .val (.int (1 : Int32)), .val (.int (0 : Int32)), .unset] [(.int (1 : Int32))]))
      refine own_st (fun _ k => XS.ifNo X8.here hx rfl (hb hby at_116) rfl ((if0 _ _).trans (feq (by decide)).1) (XS.iconst X8.here hx rfl (hb hby at_119) (XS.goto X8.here hx rfl (pc0 := 120) (pc' := 124) rfl (hb hby at_120) (by decide) (by decide) (XS.istore X8.here hx rfl (hb hby at_124) rfl (l' := #[.val (.int p1), .val (.int p2), .val (.int (1 : Int32)), .val (.ref a_LT), .val (.int (1 : Int32)), .val (.int (0 : Int32)), .val (.int (1 : Int32))]) rfl (XS.aloadN X8.here hx rfl (hb hby at_126) rfl rfl (XS.iloadN X8.here hx rfl (hb hby at_127) rfl k)))))) ?_
      show own_Go p.tables e below RR (T8.setTop (mkF m 128 #[.val (.int p1), .val (.int p2), .val (.int (1 : Int32)), .val (.ref a_LT), .val (.int (1 : Int32)), .val (.int (0 : Int32)), .val (.int (1 : Int32))] [(.int p2), (.ref a_LT)]))
      obtain ⟨cq10, kq10, q10a, q10b, q10c⟩ := isOf hZ e8 E_LT
      obtain ⟨_, _, ⟨T10, L10, k10, n10⟩, -, X10, ⟨Lc10, hQ10, l10, y10, z10⟩, st10⟩ := X8.virtualBack hx (y := (⟨"com/example/seshat/seshat/query/Operator", "holds", "(I)Z"⟩ : MethodName)) (z := (⟨"com/example/seshat/seshat/query/Operator", "holds", "(I)Z"⟩ : MethodName)) hown (mvT hZ (hw _ (List.mem_of_getElem? (i := 4) rfl))) (mvT hZ (hw _ (List.mem_of_getElem? (i := 5) rfl))) (notFace_of_selects (args := #[]) (mvT hZ (hw _ (List.mem_of_getElem? (i := 7) rfl)))) (mvT hZ (hw _ (List.mem_of_getElem? (i := 7) rfl))) (mvT hZ (hw _ (List.mem_of_getElem? (i := 6) rfl))) (by decide) (backOf (W := 0) (own_rmH1 l Z a0 hw [] a_LT p2 (1 : Int32) h0 n0 Z0 E_LT F_LT_ordinal (if_pos hc91_9)) hZ (hw _ (List.mem_of_getElem? (i := 8) rfl)) (hw _ (List.mem_of_getElem? (i := 2) rfl)) (by decide) (by decide)) q10a q10c (g := (mkF m 128 #[.val (.int p1), .val (.int p2), .val (.int (1 : Int32)), .val (.ref a_LT), .val (.int (1 : Int32)), .val (.int (0 : Int32)), .val (.int (1 : Int32))] [(.int p2), (.ref a_LT)])) rfl (by rw [hml]; rfl) (Steps.refl _) (argsL := [(.int p2)]) (rest := []) (lenOf own_pd__I_Z rfl) rfl (by show 2 * 0 + _ ≤ _; exact Nat.le_of_eq rfl) (hb hby at_128) (fun _ _ => ⟨rfl, e8, (by decide : 0 + 0 ≤ _), (by decide : 0 + 0 ≤ _)⟩)
      dsimp only [Pt.U, Pt.locs, Pt.cells, Pt.slots] at X10 l10 y10 z10 st10 hQ10
      subst l10 y10 z10
      obtain ⟨rfl, Nq10, eq10⟩ := hQ10
      have N10 := Fr.app N0 Nq10
      refine own_st (fun _ k => st10.trans k) ?_
      show own_Go p.tables e below RR (T10.setTop (mkF m 131 #[.val (.int p1), .val (.int p2), .val (.int (1 : Int32)), .val (.ref a_LT), .val (.int (1 : Int32)), .val (.int (0 : Int32)), .val (.int (1 : Int32))] [(.int (1 : Int32))]))
      refine own_st (fun _ k => XS.iload X10.here hx rfl (hb hby at_131) rfl k) ?_
      show own_Go p.tables e below RR (T10.setTop (mkF m 133 #[.val (.int p1), .val (.int p2), .val (.int (1 : Int32)), .val (.ref a_LT), .val (.int (1 : Int32)), .val (.int (0 : Int32)), .val (.int (1 : Int32))] [(.int (1 : Int32)), (.int (1 : Int32))]))
      refine own_st (fun _ k => XS.icmpNo X10.here hx rfl (hb hby at_133) rfl (teq (by decide)).2 (XS.iconst X10.here hx rfl (hb hby at_136) (XS.goto X10.here hx rfl (pc0 := 137) (pc' := 141) rfl (hb hby at_137) (by decide) (by decide) k))) ?_
      show own_Go p.tables e below RR (T10.setTop (mkF m 141 #[.val (.int p1), .val (.int p2), .val (.int (1 : Int32)), .val (.ref a_LT), .val (.int (1 : Int32)), .val (.int (0 : Int32)), .val (.int (1 : Int32))] [(.int (1 : Int32))]))
      obtain ⟨fs, hrt_, hrun, hended, hW, hsame⟩ := X10.leave (v := some (.int (1 : Int32))) (fun h => by rw [Bd.returns] at h; cases h)
      refine own_fin (retN X10 hx (t := .boolean) Bd.returns (by simp) (hb hby at_141) hrt_) (hRR _ ⟨_, hrun, hended, _, _, rfl, ?_, ⟨_, rfl⟩, hW, hsame.mono (by decide) (by decide)⟩)
      show own_Q0 Z p1 p2 a_EQ a_GT a_GTE a_LT a_IN a_LTE h0 n0 _ T10.heap _
      rw [eq10]
      exact ⟨rfl, N10⟩
    · refine own_st (fun _ k => XS.ifYes X8.here hx rfl (pc0 := 91) (pc' := 98) rfl (hb hby at_91) rfl ((if0 _ _).trans (flt hc91_9).2.1) (by decide) (by decide) (XS.iloadN X8.here hx rfl (hb hby at_98) rfl k)) ?_
      show own_Go p.tables e below RR (T8.setTop (mkF m 99 #[.val (.int p1), .val (.int p2), .val (.int (1 : Int32)), .val (.ref a_LT), .val (.int (1 : Int32)), .unset, .unset] [(.int p2)]))
      by_cases hc99_11 : p2 = (0 : Int32)
      · refine own_st (fun _ k => XS.ifNo X8.here hx rfl (hb hby at_99) rfl ((if0 _ _).trans (teq hc99_11).2) (XS.iconst X8.here hx rfl (hb hby at_102) (XS.goto X8.here hx rfl (pc0 := 103) (pc' := 107) rfl (hb hby at_103) (by decide) (by decide) (XS.istore X8.here hx rfl (hb hby at_107) rfl (l' := #[.val (.int p1), .val (.int p2), .val (.int (1 : Int32)), .val (.ref a_LT), .val (.int (1 : Int32)), .val (.int (1 : Int32)), .unset]) rfl (XS.iload X8.here hx rfl (hb hby at_109) rfl (XS.iload X8.here hx rfl (hb hby at_111) rfl (XS.ishr X8.here hx rfl (hb hby at_113) rfl k))))))) ?_
        show own_Go p.tables e below RR (T8.setTop (mkF m 114 #[.val (.int p1), .val (.int p2), .val (.int (1 : Int32)), .val (.ref a_LT), .val (.int (1 : Int32)), .val (.int (1 : Int32)), .unset] [(.int ((1 : Int32) >>> ((1 : Int32) &&& 31)))]))
        rw [show ((1 : Int32) >>> ((1 : Int32) &&& 31)) = (0 : Int32) from by decide]
        show own_Go p.tables e below RR (T8.setTop (mkF m 114 #[.val (.int p1), .val (.int p2), .val (.int (1 : Int32)), .val (.ref a_LT), .val (.int (1 : Int32)), .val (.int (1 : Int32)), .unset] [(.int (0 : Int32))]))
        refine own_st (fun _ k => XS.iconst X8.here hx rfl (hb hby at_114) (XS.iand X8.here hx rfl (hb hby at_115) rfl k)) ?_
        show own_Go p.tables e below RR (T8.setTop (mkF m 116 #[.val (.int p1), .val (.int p2), .val (.int (1 : Int32)), .val (.ref a_LT), .val (.int (1 : Int32)), .val (.int (1 : Int32)), .unset] [(.int (0 : Int32))]))
        refine own_st (fun _ k => XS.ifYes X8.here hx rfl (pc0 := 116) (pc' := 123) rfl (hb hby at_116) rfl ((if0 _ _).trans (teq (by decide)).1) (by decide) (by decide) (XS.iconst X8.here hx rfl (hb hby at_123) (XS.istore X8.here hx rfl (hb hby at_124) rfl (l' := #[.val (.int p1), .val (.int p2), .val (.int (1 : Int32)), .val (.ref a_LT), .val (.int (1 : Int32)), .val (.int (1 : Int32)), .val (.int (0 : Int32))]) rfl (XS.aloadN X8.here hx rfl (hb hby at_126) rfl rfl (XS.iloadN X8.here hx rfl (hb hby at_127) rfl k))))) ?_
        show own_Go p.tables e below RR (T8.setTop (mkF m 128 #[.val (.int p1), .val (.int p2), .val (.int (1 : Int32)), .val (.ref a_LT), .val (.int (1 : Int32)), .val (.int (1 : Int32)), .val (.int (0 : Int32))] [(.int p2), (.ref a_LT)]))
        obtain ⟨cq12, kq12, q12a, q12b, q12c⟩ := isOf hZ e8 E_LT
        obtain ⟨_, _, ⟨T12, L12, k12, n12⟩, -, X12, ⟨Lc12, hQ12, l12, y12, z12⟩, st12⟩ := X8.virtualBack hx (y := (⟨"com/example/seshat/seshat/query/Operator", "holds", "(I)Z"⟩ : MethodName)) (z := (⟨"com/example/seshat/seshat/query/Operator", "holds", "(I)Z"⟩ : MethodName)) hown (mvT hZ (hw _ (List.mem_of_getElem? (i := 4) rfl))) (mvT hZ (hw _ (List.mem_of_getElem? (i := 5) rfl))) (notFace_of_selects (args := #[]) (mvT hZ (hw _ (List.mem_of_getElem? (i := 7) rfl)))) (mvT hZ (hw _ (List.mem_of_getElem? (i := 7) rfl))) (mvT hZ (hw _ (List.mem_of_getElem? (i := 6) rfl))) (by decide) (backOf (W := 0) (own_rmH1 l Z a0 hw [] a_LT p2 (0 : Int32) h0 n0 Z0 E_LT F_LT_ordinal (if_neg (own_z hc99_11).2)) hZ (hw _ (List.mem_of_getElem? (i := 8) rfl)) (hw _ (List.mem_of_getElem? (i := 2) rfl)) (by decide) (by decide)) q12a q12c (g := (mkF m 128 #[.val (.int p1), .val (.int p2), .val (.int (1 : Int32)), .val (.ref a_LT), .val (.int (1 : Int32)), .val (.int (1 : Int32)), .val (.int (0 : Int32))] [(.int p2), (.ref a_LT)])) rfl (by rw [hml]; rfl) (Steps.refl _) (argsL := [(.int p2)]) (rest := []) (lenOf own_pd__I_Z rfl) rfl (by show 2 * 0 + _ ≤ _; exact Nat.le_of_eq rfl) (hb hby at_128) (fun _ _ => ⟨rfl, e8, (by decide : 0 + 0 ≤ _), (by decide : 0 + 0 ≤ _)⟩)
        dsimp only [Pt.U, Pt.locs, Pt.cells, Pt.slots] at X12 l12 y12 z12 st12 hQ12
        subst l12 y12 z12
        obtain ⟨rfl, Nq12, eq12⟩ := hQ12
        have N12 := Fr.app N0 Nq12
        refine own_st (fun _ k => st12.trans k) ?_
        show own_Go p.tables e below RR (T12.setTop (mkF m 131 #[.val (.int p1), .val (.int p2), .val (.int (1 : Int32)), .val (.ref a_LT), .val (.int (1 : Int32)), .val (.int (1 : Int32)), .val (.int (0 : Int32))] [(.int (0 : Int32))]))
        refine own_st (fun _ k => XS.iload X12.here hx rfl (hb hby at_131) rfl k) ?_
        show own_Go p.tables e below RR (T12.setTop (mkF m 133 #[.val (.int p1), .val (.int p2), .val (.int (1 : Int32)), .val (.ref a_LT), .val (.int (1 : Int32)), .val (.int (1 : Int32)), .val (.int (0 : Int32))] [(.int (0 : Int32)), (.int (0 : Int32))]))
        refine own_st (fun _ k => XS.icmpNo X12.here hx rfl (hb hby at_133) rfl (teq (by decide)).2 (XS.iconst X12.here hx rfl (hb hby at_136) (XS.goto X12.here hx rfl (pc0 := 137) (pc' := 141) rfl (hb hby at_137) (by decide) (by decide) k))) ?_
        show own_Go p.tables e below RR (T12.setTop (mkF m 141 #[.val (.int p1), .val (.int p2), .val (.int (1 : Int32)), .val (.ref a_LT), .val (.int (1 : Int32)), .val (.int (1 : Int32)), .val (.int (0 : Int32))] [(.int (1 : Int32))]))
        obtain ⟨fs, hrt_, hrun, hended, hW, hsame⟩ := X12.leave (v := some (.int (1 : Int32))) (fun h => by rw [Bd.returns] at h; cases h)
        refine own_fin (retN X12 hx (t := .boolean) Bd.returns (by simp) (hb hby at_141) hrt_) (hRR _ ⟨_, hrun, hended, _, _, rfl, ?_, ⟨_, rfl⟩, hW, hsame.mono (by decide) (by decide)⟩)
        show own_Q0 Z p1 p2 a_EQ a_GT a_GTE a_LT a_IN a_LTE h0 n0 _ T12.heap _
        rw [eq12]
        exact ⟨rfl, N12⟩
      · refine own_st (fun _ k => XS.ifYes X8.here hx rfl (pc0 := 99) (pc' := 106) rfl (hb hby at_99) rfl ((if0 _ _).trans (feq hc99_11).2) (by decide) (by decide) (XS.iconst X8.here hx rfl (hb hby at_106) (XS.istore X8.here hx rfl (hb hby at_107) rfl (l' := #[.val (.int p1), .val (.int p2), .val (.int (1 : Int32)), .val (.ref a_LT), .val (.int (1 : Int32)), .val (.int (2 : Int32)), .unset]) rfl (XS.iload X8.here hx rfl (hb hby at_109) rfl (XS.iload X8.here hx rfl (hb hby at_111) rfl (XS.ishr X8.here hx rfl (hb hby at_113) rfl k)))))) ?_
        show own_Go p.tables e below RR (T8.setTop (mkF m 114 #[.val (.int p1), .val (.int p2), .val (.int (1 : Int32)), .val (.ref a_LT), .val (.int (1 : Int32)), .val (.int (2 : Int32)), .unset] [(.int ((1 : Int32) >>> ((2 : Int32) &&& 31)))]))
        rw [show ((1 : Int32) >>> ((2 : Int32) &&& 31)) = (0 : Int32) from by decide]
        show own_Go p.tables e below RR (T8.setTop (mkF m 114 #[.val (.int p1), .val (.int p2), .val (.int (1 : Int32)), .val (.ref a_LT), .val (.int (1 : Int32)), .val (.int (2 : Int32)), .unset] [(.int (0 : Int32))]))
        refine own_st (fun _ k => XS.iconst X8.here hx rfl (hb hby at_114) (XS.iand X8.here hx rfl (hb hby at_115) rfl k)) ?_
        show own_Go p.tables e below RR (T8.setTop (mkF m 116 #[.val (.int p1), .val (.int p2), .val (.int (1 : Int32)), .val (.ref a_LT), .val (.int (1 : Int32)), .val (.int (2 : Int32)), .unset] [(.int (0 : Int32))]))
        refine own_st (fun _ k => XS.ifYes X8.here hx rfl (pc0 := 116) (pc' := 123) rfl (hb hby at_116) rfl ((if0 _ _).trans (teq (by decide)).1) (by decide) (by decide) (XS.iconst X8.here hx rfl (hb hby at_123) (XS.istore X8.here hx rfl (hb hby at_124) rfl (l' := #[.val (.int p1), .val (.int p2), .val (.int (1 : Int32)), .val (.ref a_LT), .val (.int (1 : Int32)), .val (.int (2 : Int32)), .val (.int (0 : Int32))]) rfl (XS.aloadN X8.here hx rfl (hb hby at_126) rfl rfl (XS.iloadN X8.here hx rfl (hb hby at_127) rfl k))))) ?_
        show own_Go p.tables e below RR (T8.setTop (mkF m 128 #[.val (.int p1), .val (.int p2), .val (.int (1 : Int32)), .val (.ref a_LT), .val (.int (1 : Int32)), .val (.int (2 : Int32)), .val (.int (0 : Int32))] [(.int p2), (.ref a_LT)]))
        obtain ⟨cq13, kq13, q13a, q13b, q13c⟩ := isOf hZ e8 E_LT
        obtain ⟨_, _, ⟨T13, L13, k13, n13⟩, -, X13, ⟨Lc13, hQ13, l13, y13, z13⟩, st13⟩ := X8.virtualBack hx (y := (⟨"com/example/seshat/seshat/query/Operator", "holds", "(I)Z"⟩ : MethodName)) (z := (⟨"com/example/seshat/seshat/query/Operator", "holds", "(I)Z"⟩ : MethodName)) hown (mvT hZ (hw _ (List.mem_of_getElem? (i := 4) rfl))) (mvT hZ (hw _ (List.mem_of_getElem? (i := 5) rfl))) (notFace_of_selects (args := #[]) (mvT hZ (hw _ (List.mem_of_getElem? (i := 7) rfl)))) (mvT hZ (hw _ (List.mem_of_getElem? (i := 7) rfl))) (mvT hZ (hw _ (List.mem_of_getElem? (i := 6) rfl))) (by decide) (backOf (W := 0) (own_rmH1 l Z a0 hw [] a_LT p2 (0 : Int32) h0 n0 Z0 E_LT F_LT_ordinal (if_neg hc91_9)) hZ (hw _ (List.mem_of_getElem? (i := 8) rfl)) (hw _ (List.mem_of_getElem? (i := 2) rfl)) (by decide) (by decide)) q13a q13c (g := (mkF m 128 #[.val (.int p1), .val (.int p2), .val (.int (1 : Int32)), .val (.ref a_LT), .val (.int (1 : Int32)), .val (.int (2 : Int32)), .val (.int (0 : Int32))] [(.int p2), (.ref a_LT)])) rfl (by rw [hml]; rfl) (Steps.refl _) (argsL := [(.int p2)]) (rest := []) (lenOf own_pd__I_Z rfl) rfl (by show 2 * 0 + _ ≤ _; exact Nat.le_of_eq rfl) (hb hby at_128) (fun _ _ => ⟨rfl, e8, (by decide : 0 + 0 ≤ _), (by decide : 0 + 0 ≤ _)⟩)
        dsimp only [Pt.U, Pt.locs, Pt.cells, Pt.slots] at X13 l13 y13 z13 st13 hQ13
        subst l13 y13 z13
        obtain ⟨rfl, Nq13, eq13⟩ := hQ13
        have N13 := Fr.app N0 Nq13
        refine own_st (fun _ k => st13.trans k) ?_
        show own_Go p.tables e below RR (T13.setTop (mkF m 131 #[.val (.int p1), .val (.int p2), .val (.int (1 : Int32)), .val (.ref a_LT), .val (.int (1 : Int32)), .val (.int (2 : Int32)), .val (.int (0 : Int32))] [(.int (0 : Int32))]))
        refine own_st (fun _ k => XS.iload X13.here hx rfl (hb hby at_131) rfl k) ?_
        show own_Go p.tables e below RR (T13.setTop (mkF m 133 #[.val (.int p1), .val (.int p2), .val (.int (1 : Int32)), .val (.ref a_LT), .val (.int (1 : Int32)), .val (.int (2 : Int32)), .val (.int (0 : Int32))] [(.int (0 : Int32)), (.int (0 : Int32))]))
        refine own_st (fun _ k => XS.icmpNo X13.here hx rfl (hb hby at_133) rfl (teq (by decide)).2 (XS.iconst X13.here hx rfl (hb hby at_136) (XS.goto X13.here hx rfl (pc0 := 137) (pc' := 141) rfl (hb hby at_137) (by decide) (by decide) k))) ?_
        show own_Go p.tables e below RR (T13.setTop (mkF m 141 #[.val (.int p1), .val (.int p2), .val (.int (1 : Int32)), .val (.ref a_LT), .val (.int (1 : Int32)), .val (.int (2 : Int32)), .val (.int (0 : Int32))] [(.int (1 : Int32))]))
        obtain ⟨fs, hrt_, hrun, hended, hW, hsame⟩ := X13.leave (v := some (.int (1 : Int32))) (fun h => by rw [Bd.returns] at h; cases h)
        refine own_fin (retN X13 hx (t := .boolean) Bd.returns (by simp) (hb hby at_141) hrt_) (hRR _ ⟨_, hrun, hended, _, _, rfl, ?_, ⟨_, rfl⟩, hW, hsame.mono (by decide) (by decide)⟩)
        show own_Q0 Z p1 p2 a_EQ a_GT a_GTE a_LT a_IN a_LTE h0 n0 _ T13.heap _
        rw [eq13]
        exact ⟨rfl, N13⟩
  · show own_Go p.tables e below RR (s₁.setTop (mkF m 8 #[.val (.int p1), .val (.int p2), .val (.int (2 : Int32)), .unset, .unset, .unset, .unset] []))
    show own_Go p.tables e below RR (s₁.setTop (mkF m 8 #[.val (.int p1), .val (.int p2), .val (.int (2 : Int32)), .unset, .unset, .unset, .unset] []))
    refine own_st (fun _ k => XS.iloadN X0.here hx rfl (hb hby at_8) rfl k) ?_
    show own_Go p.tables e below RR (s₁.setTop (mkF m 9 #[.val (.int p1), .val (.int p2), .val (.int (2 : Int32)), .unset, .unset, .unset, .unset] [(.int (2 : Int32))]))
    refine own_st (fun _ k => XS.ifYes X0.here hx rfl (pc0 := 9) (pc' := 22) rfl (hb hby at_9) rfl ((if0 _ _).trans (feq (by decide)).2) (by decide) (by decide) (XS.iloadN X0.here hx rfl (hb hby at_22) rfl (XS.iconst X0.here hx rfl (hb hby at_23) k))) ?_
    show own_Go p.tables e below RR (s₁.setTop (mkF m 24 #[.val (.int p1), .val (.int p2), .val (.int (2 : Int32)), .unset, .unset, .unset, .unset] [(.int (1 : Int32)), (.int (2 : Int32))]))
    refine own_st (fun _ k => XS.icmpYes X0.here hx rfl (pc0 := 24) (pc' := 37) rfl (hb hby at_24) rfl (feq (by decide)).2 (by decide) (by decide) (XS.iloadN X0.here hx rfl (hb hby at_37) rfl (XS.iconst X0.here hx rfl (hb hby at_38) k))) ?_
    show own_Go p.tables e below RR (s₁.setTop (mkF m 39 #[.val (.int p1), .val (.int p2), .val (.int (2 : Int32)), .unset, .unset, .unset, .unset] [(.int (2 : Int32)), (.int (2 : Int32))]))
    refine own_st (fun _ k => XS.icmpNo X0.here hx rfl (hb hby at_39) rfl (teq (by decide)).2 k) ?_
    show own_Go p.tables e below RR (s₁.setTop (mkF m 42 #[.val (.int p1), .val (.int p2), .val (.int (2 : Int32)), .unset, .unset, .unset, .unset] []))
    obtain ⟨T14, X14, e14, st14⟩ := getS2 X0 hx hZ hown (host := "") (Or.inl (hw _ (List.mem_of_getElem? (i := 18) rfl))) Via.refl e0 S_GT (g := (mkF m 42 #[.val (.int p1), .val (.int p2), .val (.int (2 : Int32)), .unset, .unset, .unset, .unset] [])) rfl (hb hby at_42)
    refine own_st st14 ?_
    show own_Go p.tables e below RR (T14.setTop (mkF m 45 #[.val (.int p1), .val (.int p2), .val (.int (2 : Int32)), .unset, .unset, .unset, .unset] [(.ref a_GT)]))
    refine own_st (fun _ k => XS.astoreN X14.here hx rfl (hb hby at_45) rfl rfl (l' := #[.val (.int p1), .val (.int p2), .val (.int (2 : Int32)), .val (.ref a_GT), .unset, .unset, .unset]) rfl (XS.iconst X14.here hx rfl (hb hby at_46) (XS.istore X14.here hx rfl (hb hby at_47) rfl (l' := #[.val (.int p1), .val (.int p2), .val (.int (2 : Int32)), .val (.ref a_GT), .val (.int (4 : Int32)), .unset, .unset]) rfl (XS.goto X14.here hx rfl (pc0 := 49) (pc' := 90) rfl (hb hby at_49) (by decide) (by decide) (XS.iloadN X14.here hx rfl (hb hby at_90) rfl k))))) ?_
    show own_Go p.tables e below RR (T14.setTop (mkF m 91 #[.val (.int p1), .val (.int p2), .val (.int (2 : Int32)), .val (.ref a_GT), .val (.int (4 : Int32)), .unset, .unset] [(.int p2)]))
    by_cases hc91_15 : p2 < (0 : Int32)
    · refine own_st (fun _ k => XS.ifNo X14.here hx rfl (hb hby at_91) rfl ((if0 _ _).trans (tlt hc91_15).2.1) (XS.iconst X14.here hx rfl (hb hby at_94) (XS.goto X14.here hx rfl (pc0 := 95) (pc' := 107) rfl (hb hby at_95) (by decide) (by decide) (XS.istore X14.here hx rfl (hb hby at_107) rfl (l' := #[.val (.int p1), .val (.int p2), .val (.int (2 : Int32)), .val (.ref a_GT), .val (.int (4 : Int32)), .val (.int (0 : Int32)), .unset]) rfl (XS.iload X14.here hx rfl (hb hby at_109) rfl (XS.iload X14.here hx rfl (hb hby at_111) rfl (XS.ishr X14.here hx rfl (hb hby at_113) rfl k))))))) ?_
      show own_Go p.tables e below RR (T14.setTop (mkF m 114 #[.val (.int p1), .val (.int p2), .val (.int (2 : Int32)), .val (.ref a_GT), .val (.int (4 : Int32)), .val (.int (0 : Int32)), .unset] [(.int ((4 : Int32) >>> ((0 : Int32) &&& 31)))]))
      rw [show ((4 : Int32) >>> ((0 : Int32) &&& 31)) = (4 : Int32) from by decide]
      show own_Go p.tables e below RR (T14.setTop (mkF m 114 #[.val (.int p1), .val (.int p2), .val (.int (2 : Int32)), .val (.ref a_GT), .val (.int (4 : Int32)), .val (.int (0 : Int32)), .unset] [(.int (4 : Int32))]))
      refine own_st (fun _ k => XS.iconst X14.here hx rfl (hb hby at_114) (XS.iand X14.here hx rfl (hb hby at_115) rfl k)) ?_
      show own_Go p.tables e below RR (T14.setTop (mkF m 116 #[.val (.int p1), .val (.int p2), .val (.int (2 : Int32)), .val (.ref a_GT), .val (.int (4 : Int32)), .val (.int (0 : Int32)), .unset] [(.int (0 : Int32))]))
      refine own_st (fun _ k => XS.ifYes X14.here hx rfl (pc0 := 116) (pc' := 123) rfl (hb hby at_116) rfl ((if0 _ _).trans (teq (by decide)).1) (by decide) (by decide) (XS.iconst X14.here hx rfl (hb hby at_123) (XS.istore X14.here hx rfl (hb hby at_124) rfl (l' := #[.val (.int p1), .val (.int p2), .val (.int (2 : Int32)), .val (.ref a_GT), .val (.int (4 : Int32)), .val (.int (0 : Int32)), .val (.int (0 : Int32))]) rfl (XS.aloadN X14.here hx rfl (hb hby at_126) rfl rfl (XS.iloadN X14.here hx rfl (hb hby at_127) rfl k))))) ?_
      show own_Go p.tables e below RR (T14.setTop (mkF m 128 #[.val (.int p1), .val (.int p2), .val (.int (2 : Int32)), .val (.ref a_GT), .val (.int (4 : Int32)), .val (.int (0 : Int32)), .val (.int (0 : Int32))] [(.int p2), (.ref a_GT)]))
      obtain ⟨cq16, kq16, q16a, q16b, q16c⟩ := isOf hZ e14 E_GT
      obtain ⟨_, _, ⟨T16, L16, k16, n16⟩, -, X16, ⟨Lc16, hQ16, l16, y16, z16⟩, st16⟩ := X14.virtualBack hx (y := (⟨"com/example/seshat/seshat/query/Operator", "holds", "(I)Z"⟩ : MethodName)) (z := (⟨"com/example/seshat/seshat/query/Operator", "holds", "(I)Z"⟩ : MethodName)) hown (mvT hZ (hw _ (List.mem_of_getElem? (i := 4) rfl))) (mvT hZ (hw _ (List.mem_of_getElem? (i := 5) rfl))) (notFace_of_selects (args := #[]) (mvT hZ (hw _ (List.mem_of_getElem? (i := 7) rfl)))) (mvT hZ (hw _ (List.mem_of_getElem? (i := 7) rfl))) (mvT hZ (hw _ (List.mem_of_getElem? (i := 6) rfl))) (by decide) (backOf (W := 0) (own_rmH2 l Z a0 hw [] a_GT p2 (0 : Int32) h0 n0 Z0 E_GT F_GT_ordinal (if_neg (own_np hc91_15))) hZ (hw _ (List.mem_of_getElem? (i := 8) rfl)) (hw _ (List.mem_of_getElem? (i := 2) rfl)) (by decide) (by decide)) q16a q16c (g := (mkF m 128 #[.val (.int p1), .val (.int p2), .val (.int (2 : Int32)), .val (.ref a_GT), .val (.int (4 : Int32)), .val (.int (0 : Int32)), .val (.int (0 : Int32))] [(.int p2), (.ref a_GT)])) rfl (by rw [hml]; rfl) (Steps.refl _) (argsL := [(.int p2)]) (rest := []) (lenOf own_pd__I_Z rfl) rfl (by show 2 * 0 + _ ≤ _; exact Nat.le_of_eq rfl) (hb hby at_128) (fun _ _ => ⟨rfl, e14, (by decide : 0 + 0 ≤ _), (by decide : 0 + 0 ≤ _)⟩)
      dsimp only [Pt.U, Pt.locs, Pt.cells, Pt.slots] at X16 l16 y16 z16 st16 hQ16
      subst l16 y16 z16
      obtain ⟨rfl, Nq16, eq16⟩ := hQ16
      have N16 := Fr.app N0 Nq16
      refine own_st (fun _ k => st16.trans k) ?_
      show own_Go p.tables e below RR (T16.setTop (mkF m 131 #[.val (.int p1), .val (.int p2), .val (.int (2 : Int32)), .val (.ref a_GT), .val (.int (4 : Int32)), .val (.int (0 : Int32)), .val (.int (0 : Int32))] [(.int (0 : Int32))]))
      refine own_st (fun _ k => XS.iload X16.here hx rfl (hb hby at_131) rfl k) ?_
      show own_Go p.tables e below RR (T16.setTop (mkF m 133 #[.val (.int p1), .val (.int p2), .val (.int (2 : Int32)), .val (.ref a_GT), .val (.int (4 : Int32)), .val (.int (0 : Int32)), .val (.int (0 : Int32))] [(.int (0 : Int32)), (.int (0 : Int32))]))
      refine own_st (fun _ k => XS.icmpNo X16.here hx rfl (hb hby at_133) rfl (teq (by decide)).2 (XS.iconst X16.here hx rfl (hb hby at_136) (XS.goto X16.here hx rfl (pc0 := 137) (pc' := 141) rfl (hb hby at_137) (by decide) (by decide) k))) ?_
      show own_Go p.tables e below RR (T16.setTop (mkF m 141 #[.val (.int p1), .val (.int p2), .val (.int (2 : Int32)), .val (.ref a_GT), .val (.int (4 : Int32)), .val (.int (0 : Int32)), .val (.int (0 : Int32))] [(.int (1 : Int32))]))
      obtain ⟨fs, hrt_, hrun, hended, hW, hsame⟩ := X16.leave (v := some (.int (1 : Int32))) (fun h => by rw [Bd.returns] at h; cases h)
      refine own_fin (retN X16 hx (t := .boolean) Bd.returns (by simp) (hb hby at_141) hrt_) (hRR _ ⟨_, hrun, hended, _, _, rfl, ?_, ⟨_, rfl⟩, hW, hsame.mono (by decide) (by decide)⟩)
      show own_Q0 Z p1 p2 a_EQ a_GT a_GTE a_LT a_IN a_LTE h0 n0 _ T16.heap _
      rw [eq16]
      exact ⟨rfl, N16⟩
    · refine own_st (fun _ k => XS.ifYes X14.here hx rfl (pc0 := 91) (pc' := 98) rfl (hb hby at_91) rfl ((if0 _ _).trans (flt hc91_15).2.1) (by decide) (by decide) (XS.iloadN X14.here hx rfl (hb hby at_98) rfl k)) ?_
      show own_Go p.tables e below RR (T14.setTop (mkF m 99 #[.val (.int p1), .val (.int p2), .val (.int (2 : Int32)), .val (.ref a_GT), .val (.int (4 : Int32)), .unset, .unset] [(.int p2)]))
      by_cases hc99_17 : p2 = (0 : Int32)
      · refine own_st (fun _ k => XS.ifNo X14.here hx rfl (hb hby at_99) rfl ((if0 _ _).trans (teq hc99_17).2) (XS.iconst X14.here hx rfl (hb hby at_102) (XS.goto X14.here hx rfl (pc0 := 103) (pc' := 107) rfl (hb hby at_103) (by decide) (by decide) (XS.istore X14.here hx rfl (hb hby at_107) rfl (l' := #[.val (.int p1), .val (.int p2), .val (.int (2 : Int32)), .val (.ref a_GT), .val (.int (4 : Int32)), .val (.int (1 : Int32)), .unset]) rfl (XS.iload X14.here hx rfl (hb hby at_109) rfl (XS.iload X14.here hx rfl (hb hby at_111) rfl (XS.ishr X14.here hx rfl (hb hby at_113) rfl k))))))) ?_
        show own_Go p.tables e below RR (T14.setTop (mkF m 114 #[.val (.int p1), .val (.int p2), .val (.int (2 : Int32)), .val (.ref a_GT), .val (.int (4 : Int32)), .val (.int (1 : Int32)), .unset] [(.int ((4 : Int32) >>> ((1 : Int32) &&& 31)))]))
        rw [show ((4 : Int32) >>> ((1 : Int32) &&& 31)) = (2 : Int32) from by decide]
        show own_Go p.tables e below RR (T14.setTop (mkF m 114 #[.val (.int p1), .val (.int p2), .val (.int (2 : Int32)), .val (.ref a_GT), .val (.int (4 : Int32)), .val (.int (1 : Int32)), .unset] [(.int (2 : Int32))]))
        refine own_st (fun _ k => XS.iconst X14.here hx rfl (hb hby at_114) (XS.iand X14.here hx rfl (hb hby at_115) rfl k)) ?_
        show own_Go p.tables e below RR (T14.setTop (mkF m 116 #[.val (.int p1), .val (.int p2), .val (.int (2 : Int32)), .val (.ref a_GT), .val (.int (4 : Int32)), .val (.int (1 : Int32)), .unset] [(.int (0 : Int32))]))
        refine own_st (fun _ k => XS.ifYes X14.here hx rfl (pc0 := 116) (pc' := 123) rfl (hb hby at_116) rfl ((if0 _ _).trans (teq (by decide)).1) (by decide) (by decide) (XS.iconst X14.here hx rfl (hb hby at_123) (XS.istore X14.here hx rfl (hb hby at_124) rfl (l' := #[.val (.int p1), .val (.int p2), .val (.int (2 : Int32)), .val (.ref a_GT), .val (.int (4 : Int32)), .val (.int (1 : Int32)), .val (.int (0 : Int32))]) rfl (XS.aloadN X14.here hx rfl (hb hby at_126) rfl rfl (XS.iloadN X14.here hx rfl (hb hby at_127) rfl k))))) ?_
        show own_Go p.tables e below RR (T14.setTop (mkF m 128 #[.val (.int p1), .val (.int p2), .val (.int (2 : Int32)), .val (.ref a_GT), .val (.int (4 : Int32)), .val (.int (1 : Int32)), .val (.int (0 : Int32))] [(.int p2), (.ref a_GT)]))
        obtain ⟨cq18, kq18, q18a, q18b, q18c⟩ := isOf hZ e14 E_GT
        obtain ⟨_, _, ⟨T18, L18, k18, n18⟩, -, X18, ⟨Lc18, hQ18, l18, y18, z18⟩, st18⟩ := X14.virtualBack hx (y := (⟨"com/example/seshat/seshat/query/Operator", "holds", "(I)Z"⟩ : MethodName)) (z := (⟨"com/example/seshat/seshat/query/Operator", "holds", "(I)Z"⟩ : MethodName)) hown (mvT hZ (hw _ (List.mem_of_getElem? (i := 4) rfl))) (mvT hZ (hw _ (List.mem_of_getElem? (i := 5) rfl))) (notFace_of_selects (args := #[]) (mvT hZ (hw _ (List.mem_of_getElem? (i := 7) rfl)))) (mvT hZ (hw _ (List.mem_of_getElem? (i := 7) rfl))) (mvT hZ (hw _ (List.mem_of_getElem? (i := 6) rfl))) (by decide) (backOf (W := 0) (own_rmH2 l Z a0 hw [] a_GT p2 (0 : Int32) h0 n0 Z0 E_GT F_GT_ordinal (if_neg (own_z hc99_17).1)) hZ (hw _ (List.mem_of_getElem? (i := 8) rfl)) (hw _ (List.mem_of_getElem? (i := 2) rfl)) (by decide) (by decide)) q18a q18c (g := (mkF m 128 #[.val (.int p1), .val (.int p2), .val (.int (2 : Int32)), .val (.ref a_GT), .val (.int (4 : Int32)), .val (.int (1 : Int32)), .val (.int (0 : Int32))] [(.int p2), (.ref a_GT)])) rfl (by rw [hml]; rfl) (Steps.refl _) (argsL := [(.int p2)]) (rest := []) (lenOf own_pd__I_Z rfl) rfl (by show 2 * 0 + _ ≤ _; exact Nat.le_of_eq rfl) (hb hby at_128) (fun _ _ => ⟨rfl, e14, (by decide : 0 + 0 ≤ _), (by decide : 0 + 0 ≤ _)⟩)
        dsimp only [Pt.U, Pt.locs, Pt.cells, Pt.slots] at X18 l18 y18 z18 st18 hQ18
        subst l18 y18 z18
        obtain ⟨rfl, Nq18, eq18⟩ := hQ18
        have N18 := Fr.app N0 Nq18
        refine own_st (fun _ k => st18.trans k) ?_
        show own_Go p.tables e below RR (T18.setTop (mkF m 131 #[.val (.int p1), .val (.int p2), .val (.int (2 : Int32)), .val (.ref a_GT), .val (.int (4 : Int32)), .val (.int (1 : Int32)), .val (.int (0 : Int32))] [(.int (0 : Int32))]))
        refine own_st (fun _ k => XS.iload X18.here hx rfl (hb hby at_131) rfl k) ?_
        show own_Go p.tables e below RR (T18.setTop (mkF m 133 #[.val (.int p1), .val (.int p2), .val (.int (2 : Int32)), .val (.ref a_GT), .val (.int (4 : Int32)), .val (.int (1 : Int32)), .val (.int (0 : Int32))] [(.int (0 : Int32)), (.int (0 : Int32))]))
        refine own_st (fun _ k => XS.icmpNo X18.here hx rfl (hb hby at_133) rfl (teq (by decide)).2 (XS.iconst X18.here hx rfl (hb hby at_136) (XS.goto X18.here hx rfl (pc0 := 137) (pc' := 141) rfl (hb hby at_137) (by decide) (by decide) k))) ?_
        show own_Go p.tables e below RR (T18.setTop (mkF m 141 #[.val (.int p1), .val (.int p2), .val (.int (2 : Int32)), .val (.ref a_GT), .val (.int (4 : Int32)), .val (.int (1 : Int32)), .val (.int (0 : Int32))] [(.int (1 : Int32))]))
        obtain ⟨fs, hrt_, hrun, hended, hW, hsame⟩ := X18.leave (v := some (.int (1 : Int32))) (fun h => by rw [Bd.returns] at h; cases h)
        refine own_fin (retN X18 hx (t := .boolean) Bd.returns (by simp) (hb hby at_141) hrt_) (hRR _ ⟨_, hrun, hended, _, _, rfl, ?_, ⟨_, rfl⟩, hW, hsame.mono (by decide) (by decide)⟩)
        show own_Q0 Z p1 p2 a_EQ a_GT a_GTE a_LT a_IN a_LTE h0 n0 _ T18.heap _
        rw [eq18]
        exact ⟨rfl, N18⟩
      · refine own_st (fun _ k => XS.ifYes X14.here hx rfl (pc0 := 99) (pc' := 106) rfl (hb hby at_99) rfl ((if0 _ _).trans (feq hc99_17).2) (by decide) (by decide) (XS.iconst X14.here hx rfl (hb hby at_106) (XS.istore X14.here hx rfl (hb hby at_107) rfl (l' := #[.val (.int p1), .val (.int p2), .val (.int (2 : Int32)), .val (.ref a_GT), .val (.int (4 : Int32)), .val (.int (2 : Int32)), .unset]) rfl (XS.iload X14.here hx rfl (hb hby at_109) rfl (XS.iload X14.here hx rfl (hb hby at_111) rfl (XS.ishr X14.here hx rfl (hb hby at_113) rfl k)))))) ?_
        show own_Go p.tables e below RR (T14.setTop (mkF m 114 #[.val (.int p1), .val (.int p2), .val (.int (2 : Int32)), .val (.ref a_GT), .val (.int (4 : Int32)), .val (.int (2 : Int32)), .unset] [(.int ((4 : Int32) >>> ((2 : Int32) &&& 31)))]))
        rw [show ((4 : Int32) >>> ((2 : Int32) &&& 31)) = (1 : Int32) from by decide]
        show own_Go p.tables e below RR (T14.setTop (mkF m 114 #[.val (.int p1), .val (.int p2), .val (.int (2 : Int32)), .val (.ref a_GT), .val (.int (4 : Int32)), .val (.int (2 : Int32)), .unset] [(.int (1 : Int32))]))
        refine own_st (fun _ k => XS.iconst X14.here hx rfl (hb hby at_114) (XS.iand X14.here hx rfl (hb hby at_115) rfl k)) ?_
        show own_Go p.tables e below RR (T14.setTop (mkF m 116 #[.val (.int p1), .val (.int p2), .val (.int (2 : Int32)), .val (.ref a_GT), .val (.int (4 : Int32)), .val (.int (2 : Int32)), .unset] [(.int (1 : Int32))]))
        refine own_st (fun _ k => XS.ifNo X14.here hx rfl (hb hby at_116) rfl ((if0 _ _).trans (feq (by decide)).1) (XS.iconst X14.here hx rfl (hb hby at_119) (XS.goto X14.here hx rfl (pc0 := 120) (pc' := 124) rfl (hb hby at_120) (by decide) (by decide) (XS.istore X14.here hx rfl (hb hby at_124) rfl (l' := #[.val (.int p1), .val (.int p2), .val (.int (2 : Int32)), .val (.ref a_GT), .val (.int (4 : Int32)), .val (.int (2 : Int32)), .val (.int (1 : Int32))]) rfl (XS.aloadN X14.here hx rfl (hb hby at_126) rfl rfl (XS.iloadN X14.here hx rfl (hb hby at_127) rfl k)))))) ?_
        show own_Go p.tables e below RR (T14.setTop (mkF m 128 #[.val (.int p1), .val (.int p2), .val (.int (2 : Int32)), .val (.ref a_GT), .val (.int (4 : Int32)), .val (.int (2 : Int32)), .val (.int (1 : Int32))] [(.int p2), (.ref a_GT)]))
        obtain ⟨cq19, kq19, q19a, q19b, q19c⟩ := isOf hZ e14 E_GT
        obtain ⟨_, _, ⟨T19, L19, k19, n19⟩, -, X19, ⟨Lc19, hQ19, l19, y19, z19⟩, st19⟩ := X14.virtualBack hx (y := (⟨"com/example/seshat/seshat/query/Operator", "holds", "(I)Z"⟩ : MethodName)) (z := (⟨"com/example/seshat/seshat/query/Operator", "holds", "(I)Z"⟩ : MethodName)) hown (mvT hZ (hw _ (List.mem_of_getElem? (i := 4) rfl))) (mvT hZ (hw _ (List.mem_of_getElem? (i := 5) rfl))) (notFace_of_selects (args := #[]) (mvT hZ (hw _ (List.mem_of_getElem? (i := 7) rfl)))) (mvT hZ (hw _ (List.mem_of_getElem? (i := 7) rfl))) (mvT hZ (hw _ (List.mem_of_getElem? (i := 6) rfl))) (by decide) (backOf (W := 0) (own_rmH2 l Z a0 hw [] a_GT p2 (1 : Int32) h0 n0 Z0 E_GT F_GT_ordinal (if_pos (own_pos hc91_15 hc99_17))) hZ (hw _ (List.mem_of_getElem? (i := 8) rfl)) (hw _ (List.mem_of_getElem? (i := 2) rfl)) (by decide) (by decide)) q19a q19c (g := (mkF m 128 #[.val (.int p1), .val (.int p2), .val (.int (2 : Int32)), .val (.ref a_GT), .val (.int (4 : Int32)), .val (.int (2 : Int32)), .val (.int (1 : Int32))] [(.int p2), (.ref a_GT)])) rfl (by rw [hml]; rfl) (Steps.refl _) (argsL := [(.int p2)]) (rest := []) (lenOf own_pd__I_Z rfl) rfl (by show 2 * 0 + _ ≤ _; exact Nat.le_of_eq rfl) (hb hby at_128) (fun _ _ => ⟨rfl, e14, (by decide : 0 + 0 ≤ _), (by decide : 0 + 0 ≤ _)⟩)
        dsimp only [Pt.U, Pt.locs, Pt.cells, Pt.slots] at X19 l19 y19 z19 st19 hQ19
        subst l19 y19 z19
        obtain ⟨rfl, Nq19, eq19⟩ := hQ19
        have N19 := Fr.app N0 Nq19
        refine own_st (fun _ k => st19.trans k) ?_
        show own_Go p.tables e below RR (T19.setTop (mkF m 131 #[.val (.int p1), .val (.int p2), .val (.int (2 : Int32)), .val (.ref a_GT), .val (.int (4 : Int32)), .val (.int (2 : Int32)), .val (.int (1 : Int32))] [(.int (1 : Int32))]))
        refine own_st (fun _ k => XS.iload X19.here hx rfl (hb hby at_131) rfl k) ?_
        show own_Go p.tables e below RR (T19.setTop (mkF m 133 #[.val (.int p1), .val (.int p2), .val (.int (2 : Int32)), .val (.ref a_GT), .val (.int (4 : Int32)), .val (.int (2 : Int32)), .val (.int (1 : Int32))] [(.int (1 : Int32)), (.int (1 : Int32))]))
        refine own_st (fun _ k => XS.icmpNo X19.here hx rfl (hb hby at_133) rfl (teq (by decide)).2 (XS.iconst X19.here hx rfl (hb hby at_136) (XS.goto X19.here hx rfl (pc0 := 137) (pc' := 141) rfl (hb hby at_137) (by decide) (by decide) k))) ?_
        show own_Go p.tables e below RR (T19.setTop (mkF m 141 #[.val (.int p1), .val (.int p2), .val (.int (2 : Int32)), .val (.ref a_GT), .val (.int (4 : Int32)), .val (.int (2 : Int32)), .val (.int (1 : Int32))] [(.int (1 : Int32))]))
        obtain ⟨fs, hrt_, hrun, hended, hW, hsame⟩ := X19.leave (v := some (.int (1 : Int32))) (fun h => by rw [Bd.returns] at h; cases h)
        refine own_fin (retN X19 hx (t := .boolean) Bd.returns (by simp) (hb hby at_141) hrt_) (hRR _ ⟨_, hrun, hended, _, _, rfl, ?_, ⟨_, rfl⟩, hW, hsame.mono (by decide) (by decide)⟩)
        show own_Q0 Z p1 p2 a_EQ a_GT a_GTE a_LT a_IN a_LTE h0 n0 _ T19.heap _
        rw [eq19]
        exact ⟨rfl, N19⟩
  · show own_Go p.tables e below RR (s₁.setTop (mkF m 8 #[.val (.int p1), .val (.int p2), .val (.int (3 : Int32)), .unset, .unset, .unset, .unset] []))
    show own_Go p.tables e below RR (s₁.setTop (mkF m 8 #[.val (.int p1), .val (.int p2), .val (.int (3 : Int32)), .unset, .unset, .unset, .unset] []))
    refine own_st (fun _ k => XS.iloadN X0.here hx rfl (hb hby at_8) rfl k) ?_
    show own_Go p.tables e below RR (s₁.setTop (mkF m 9 #[.val (.int p1), .val (.int p2), .val (.int (3 : Int32)), .unset, .unset, .unset, .unset] [(.int (3 : Int32))]))
    refine own_st (fun _ k => XS.ifYes X0.here hx rfl (pc0 := 9) (pc' := 22) rfl (hb hby at_9) rfl ((if0 _ _).trans (feq (by decide)).2) (by decide) (by decide) (XS.iloadN X0.here hx rfl (hb hby at_22) rfl (XS.iconst X0.here hx rfl (hb hby at_23) k))) ?_
    show own_Go p.tables e below RR (s₁.setTop (mkF m 24 #[.val (.int p1), .val (.int p2), .val (.int (3 : Int32)), .unset, .unset, .unset, .unset] [(.int (1 : Int32)), (.int (3 : Int32))]))
    refine own_st (fun _ k => XS.icmpYes X0.here hx rfl (pc0 := 24) (pc' := 37) rfl (hb hby at_24) rfl (feq (by decide)).2 (by decide) (by decide) (XS.iloadN X0.here hx rfl (hb hby at_37) rfl (XS.iconst X0.here hx rfl (hb hby at_38) k))) ?_
    show own_Go p.tables e below RR (s₁.setTop (mkF m 39 #[.val (.int p1), .val (.int p2), .val (.int (3 : Int32)), .unset, .unset, .unset, .unset] [(.int (2 : Int32)), (.int (3 : Int32))]))
    refine own_st (fun _ k => XS.icmpYes X0.here hx rfl (pc0 := 39) (pc' := 52) rfl (hb hby at_39) rfl (feq (by decide)).2 (by decide) (by decide) (XS.iloadN X0.here hx rfl (hb hby at_52) rfl (XS.iconst X0.here hx rfl (hb hby at_53) k))) ?_
    show own_Go p.tables e below RR (s₁.setTop (mkF m 54 #[.val (.int p1), .val (.int p2), .val (.int (3 : Int32)), .unset, .unset, .unset, .unset] [(.int (3 : Int32)), (.int (3 : Int32))]))
    refine own_st (fun _ k => XS.icmpNo X0.here hx rfl (hb hby at_54) rfl (teq (by decide)).2 k) ?_
    show own_Go p.tables e below RR (s₁.setTop (mkF m 57 #[.val (.int p1), .val (.int p2), .val (.int (3 : Int32)), .unset, .unset, .unset, .unset] []))
    obtain ⟨T20, X20, e20, st20⟩ := getS2 X0 hx hZ hown (host := "") (Or.inl (hw _ (List.mem_of_getElem? (i := 26) rfl))) Via.refl e0 S_LTE (g := (mkF m 57 #[.val (.int p1), .val (.int p2), .val (.int (3 : Int32)), .unset, .unset, .unset, .unset] [])) rfl (hb hby at_57)
    refine own_st st20 ?_
    show own_Go p.tables e below RR (T20.setTop (mkF m 60 #[.val (.int p1), .val (.int p2), .val (.int (3 : Int32)), .unset, .unset, .unset, .unset] [(.ref a_LTE)]))
    refine own_st (fun _ k => XS.astoreN X20.here hx rfl (hb hby at_60) rfl rfl (l' := #[.val (.int p1), .val (.int p2), .val (.int (3 : Int32)), .val (.ref a_LTE), .unset, .unset, .unset]) rfl (XS.iconst X20.here hx rfl (hb hby at_61) (XS.istore X20.here hx rfl (hb hby at_62) rfl (l' := #[.val (.int p1), .val (.int p2), .val (.int (3 : Int32)), .val (.ref a_LTE), .val (.int (3 : Int32)), .unset, .unset]) rfl (XS.goto X20.here hx rfl (pc0 := 64) (pc' := 90) rfl (hb hby at_64) (by decide) (by decide) (XS.iloadN X20.here hx rfl (hb hby at_90) rfl k))))) ?_
    show own_Go p.tables e below RR (T20.setTop (mkF m 91 #[.val (.int p1), .val (.int p2), .val (.int (3 : Int32)), .val (.ref a_LTE), .val (.int (3 : Int32)), .unset, .unset] [(.int p2)]))
    by_cases hc91_21 : p2 < (0 : Int32)
    · refine own_st (fun _ k => XS.ifNo X20.here hx rfl (hb hby at_91) rfl ((if0 _ _).trans (tlt hc91_21).2.1) (XS.iconst X20.here hx rfl (hb hby at_94) (XS.goto X20.here hx rfl (pc0 := 95) (pc' := 107) rfl (hb hby at_95) (by decide) (by decide) (XS.istore X20.here hx rfl (hb hby at_107) rfl (l' := #[.val (.int p1), .val (.int p2), .val (.int (3 : Int32)), .val (.ref a_LTE), .val (.int (3 : Int32)), .val (.int (0 : Int32)), .unset]) rfl (XS.iload X20.here hx rfl (hb hby at_109) rfl (XS.iload X20.here hx rfl (hb hby at_111) rfl (XS.ishr X20.here hx rfl (hb hby at_113) rfl k))))))) ?_
      show own_Go p.tables e below RR (T20.setTop (mkF m 114 #[.val (.int p1), .val (.int p2), .val (.int (3 : Int32)), .val (.ref a_LTE), .val (.int (3 : Int32)), .val (.int (0 : Int32)), .unset] [(.int ((3 : Int32) >>> ((0 : Int32) &&& 31)))]))
      rw [show ((3 : Int32) >>> ((0 : Int32) &&& 31)) = (3 : Int32) from by decide]
      show own_Go p.tables e below RR (T20.setTop (mkF m 114 #[.val (.int p1), .val (.int p2), .val (.int (3 : Int32)), .val (.ref a_LTE), .val (.int (3 : Int32)), .val (.int (0 : Int32)), .unset] [(.int (3 : Int32))]))
      refine own_st (fun _ k => XS.iconst X20.here hx rfl (hb hby at_114) (XS.iand X20.here hx rfl (hb hby at_115) rfl k)) ?_
      show own_Go p.tables e below RR (T20.setTop (mkF m 116 #[.val (.int p1), .val (.int p2), .val (.int (3 : Int32)), .val (.ref a_LTE), .val (.int (3 : Int32)), .val (.int (0 : Int32)), .unset] [(.int (1 : Int32))]))
      refine own_st (fun _ k => XS.ifNo X20.here hx rfl (hb hby at_116) rfl ((if0 _ _).trans (feq (by decide)).1) (XS.iconst X20.here hx rfl (hb hby at_119) (XS.goto X20.here hx rfl (pc0 := 120) (pc' := 124) rfl (hb hby at_120) (by decide) (by decide) (XS.istore X20.here hx rfl (hb hby at_124) rfl (l' := #[.val (.int p1), .val (.int p2), .val (.int (3 : Int32)), .val (.ref a_LTE), .val (.int (3 : Int32)), .val (.int (0 : Int32)), .val (.int (1 : Int32))]) rfl (XS.aloadN X20.here hx rfl (hb hby at_126) rfl rfl (XS.iloadN X20.here hx rfl (hb hby at_127) rfl k)))))) ?_
      show own_Go p.tables e below RR (T20.setTop (mkF m 128 #[.val (.int p1), .val (.int p2), .val (.int (3 : Int32)), .val (.ref a_LTE), .val (.int (3 : Int32)), .val (.int (0 : Int32)), .val (.int (1 : Int32))] [(.int p2), (.ref a_LTE)]))
      obtain ⟨cq22, kq22, q22a, q22b, q22c⟩ := isOf hZ e20 E_LTE
      obtain ⟨_, _, ⟨T22, L22, k22, n22⟩, -, X22, ⟨Lc22, hQ22, l22, y22, z22⟩, st22⟩ := X20.virtualBack hx (y := (⟨"com/example/seshat/seshat/query/Operator", "holds", "(I)Z"⟩ : MethodName)) (z := (⟨"com/example/seshat/seshat/query/Operator", "holds", "(I)Z"⟩ : MethodName)) hown (mvT hZ (hw _ (List.mem_of_getElem? (i := 4) rfl))) (mvT hZ (hw _ (List.mem_of_getElem? (i := 5) rfl))) (notFace_of_selects (args := #[]) (mvT hZ (hw _ (List.mem_of_getElem? (i := 7) rfl)))) (mvT hZ (hw _ (List.mem_of_getElem? (i := 7) rfl))) (mvT hZ (hw _ (List.mem_of_getElem? (i := 6) rfl))) (by decide) (backOf (W := 0) (own_rmH3 l Z a0 hw [] a_LTE p2 (1 : Int32) h0 n0 Z0 E_LTE F_LTE_ordinal (if_neg (own_np hc91_21))) hZ (hw _ (List.mem_of_getElem? (i := 8) rfl)) (hw _ (List.mem_of_getElem? (i := 2) rfl)) (by decide) (by decide)) q22a q22c (g := (mkF m 128 #[.val (.int p1), .val (.int p2), .val (.int (3 : Int32)), .val (.ref a_LTE), .val (.int (3 : Int32)), .val (.int (0 : Int32)), .val (.int (1 : Int32))] [(.int p2), (.ref a_LTE)])) rfl (by rw [hml]; rfl) (Steps.refl _) (argsL := [(.int p2)]) (rest := []) (lenOf own_pd__I_Z rfl) rfl (by show 2 * 0 + _ ≤ _; exact Nat.le_of_eq rfl) (hb hby at_128) (fun _ _ => ⟨rfl, e20, (by decide : 0 + 0 ≤ _), (by decide : 0 + 0 ≤ _)⟩)
      dsimp only [Pt.U, Pt.locs, Pt.cells, Pt.slots] at X22 l22 y22 z22 st22 hQ22
      subst l22 y22 z22
      obtain ⟨rfl, Nq22, eq22⟩ := hQ22
      have N22 := Fr.app N0 Nq22
      refine own_st (fun _ k => st22.trans k) ?_
      show own_Go p.tables e below RR (T22.setTop (mkF m 131 #[.val (.int p1), .val (.int p2), .val (.int (3 : Int32)), .val (.ref a_LTE), .val (.int (3 : Int32)), .val (.int (0 : Int32)), .val (.int (1 : Int32))] [(.int (1 : Int32))]))
      refine own_st (fun _ k => XS.iload X22.here hx rfl (hb hby at_131) rfl k) ?_
      show own_Go p.tables e below RR (T22.setTop (mkF m 133 #[.val (.int p1), .val (.int p2), .val (.int (3 : Int32)), .val (.ref a_LTE), .val (.int (3 : Int32)), .val (.int (0 : Int32)), .val (.int (1 : Int32))] [(.int (1 : Int32)), (.int (1 : Int32))]))
      refine own_st (fun _ k => XS.icmpNo X22.here hx rfl (hb hby at_133) rfl (teq (by decide)).2 (XS.iconst X22.here hx rfl (hb hby at_136) (XS.goto X22.here hx rfl (pc0 := 137) (pc' := 141) rfl (hb hby at_137) (by decide) (by decide) k))) ?_
      show own_Go p.tables e below RR (T22.setTop (mkF m 141 #[.val (.int p1), .val (.int p2), .val (.int (3 : Int32)), .val (.ref a_LTE), .val (.int (3 : Int32)), .val (.int (0 : Int32)), .val (.int (1 : Int32))] [(.int (1 : Int32))]))
      obtain ⟨fs, hrt_, hrun, hended, hW, hsame⟩ := X22.leave (v := some (.int (1 : Int32))) (fun h => by rw [Bd.returns] at h; cases h)
      refine own_fin (retN X22 hx (t := .boolean) Bd.returns (by simp) (hb hby at_141) hrt_) (hRR _ ⟨_, hrun, hended, _, _, rfl, ?_, ⟨_, rfl⟩, hW, hsame.mono (by decide) (by decide)⟩)
      show own_Q0 Z p1 p2 a_EQ a_GT a_GTE a_LT a_IN a_LTE h0 n0 _ T22.heap _
      rw [eq22]
      exact ⟨rfl, N22⟩
    · refine own_st (fun _ k => XS.ifYes X20.here hx rfl (pc0 := 91) (pc' := 98) rfl (hb hby at_91) rfl ((if0 _ _).trans (flt hc91_21).2.1) (by decide) (by decide) (XS.iloadN X20.here hx rfl (hb hby at_98) rfl k)) ?_
      show own_Go p.tables e below RR (T20.setTop (mkF m 99 #[.val (.int p1), .val (.int p2), .val (.int (3 : Int32)), .val (.ref a_LTE), .val (.int (3 : Int32)), .unset, .unset] [(.int p2)]))
      by_cases hc99_23 : p2 = (0 : Int32)
      · refine own_st (fun _ k => XS.ifNo X20.here hx rfl (hb hby at_99) rfl ((if0 _ _).trans (teq hc99_23).2) (XS.iconst X20.here hx rfl (hb hby at_102) (XS.goto X20.here hx rfl (pc0 := 103) (pc' := 107) rfl (hb hby at_103) (by decide) (by decide) (XS.istore X20.here hx rfl (hb hby at_107) rfl (l' := #[.val (.int p1), .val (.int p2), .val (.int (3 : Int32)), .val (.ref a_LTE), .val (.int (3 : Int32)), .val (.int (1 : Int32)), .unset]) rfl (XS.iload X20.here hx rfl (hb hby at_109) rfl (XS.iload X20.here hx rfl (hb hby at_111) rfl (XS.ishr X20.here hx rfl (hb hby at_113) rfl k))))))) ?_
        show own_Go p.tables e below RR (T20.setTop (mkF m 114 #[.val (.int p1), .val (.int p2), .val (.int (3 : Int32)), .val (.ref a_LTE), .val (.int (3 : Int32)), .val (.int (1 : Int32)), .unset] [(.int ((3 : Int32) >>> ((1 : Int32) &&& 31)))]))
        rw [show ((3 : Int32) >>> ((1 : Int32) &&& 31)) = (1 : Int32) from by decide]
        show own_Go p.tables e below RR (T20.setTop (mkF m 114 #[.val (.int p1), .val (.int p2), .val (.int (3 : Int32)), .val (.ref a_LTE), .val (.int (3 : Int32)), .val (.int (1 : Int32)), .unset] [(.int (1 : Int32))]))
        refine own_st (fun _ k => XS.iconst X20.here hx rfl (hb hby at_114) (XS.iand X20.here hx rfl (hb hby at_115) rfl k)) ?_
        show own_Go p.tables e below RR (T20.setTop (mkF m 116 #[.val (.int p1), .val (.int p2), .val (.int (3 : Int32)), .val (.ref a_LTE), .val (.int (3 : Int32)), .val (.int (1 : Int32)), .unset] [(.int (1 : Int32))]))
        refine own_st (fun _ k => XS.ifNo X20.here hx rfl (hb hby at_116) rfl ((if0 _ _).trans (feq (by decide)).1) (XS.iconst X20.here hx rfl (hb hby at_119) (XS.goto X20.here hx rfl (pc0 := 120) (pc' := 124) rfl (hb hby at_120) (by decide) (by decide) (XS.istore X20.here hx rfl (hb hby at_124) rfl (l' := #[.val (.int p1), .val (.int p2), .val (.int (3 : Int32)), .val (.ref a_LTE), .val (.int (3 : Int32)), .val (.int (1 : Int32)), .val (.int (1 : Int32))]) rfl (XS.aloadN X20.here hx rfl (hb hby at_126) rfl rfl (XS.iloadN X20.here hx rfl (hb hby at_127) rfl k)))))) ?_
        show own_Go p.tables e below RR (T20.setTop (mkF m 128 #[.val (.int p1), .val (.int p2), .val (.int (3 : Int32)), .val (.ref a_LTE), .val (.int (3 : Int32)), .val (.int (1 : Int32)), .val (.int (1 : Int32))] [(.int p2), (.ref a_LTE)]))
        obtain ⟨cq24, kq24, q24a, q24b, q24c⟩ := isOf hZ e20 E_LTE
        obtain ⟨_, _, ⟨T24, L24, k24, n24⟩, -, X24, ⟨Lc24, hQ24, l24, y24, z24⟩, st24⟩ := X20.virtualBack hx (y := (⟨"com/example/seshat/seshat/query/Operator", "holds", "(I)Z"⟩ : MethodName)) (z := (⟨"com/example/seshat/seshat/query/Operator", "holds", "(I)Z"⟩ : MethodName)) hown (mvT hZ (hw _ (List.mem_of_getElem? (i := 4) rfl))) (mvT hZ (hw _ (List.mem_of_getElem? (i := 5) rfl))) (notFace_of_selects (args := #[]) (mvT hZ (hw _ (List.mem_of_getElem? (i := 7) rfl)))) (mvT hZ (hw _ (List.mem_of_getElem? (i := 7) rfl))) (mvT hZ (hw _ (List.mem_of_getElem? (i := 6) rfl))) (by decide) (backOf (W := 0) (own_rmH3 l Z a0 hw [] a_LTE p2 (1 : Int32) h0 n0 Z0 E_LTE F_LTE_ordinal (if_neg (own_z hc99_23).1)) hZ (hw _ (List.mem_of_getElem? (i := 8) rfl)) (hw _ (List.mem_of_getElem? (i := 2) rfl)) (by decide) (by decide)) q24a q24c (g := (mkF m 128 #[.val (.int p1), .val (.int p2), .val (.int (3 : Int32)), .val (.ref a_LTE), .val (.int (3 : Int32)), .val (.int (1 : Int32)), .val (.int (1 : Int32))] [(.int p2), (.ref a_LTE)])) rfl (by rw [hml]; rfl) (Steps.refl _) (argsL := [(.int p2)]) (rest := []) (lenOf own_pd__I_Z rfl) rfl (by show 2 * 0 + _ ≤ _; exact Nat.le_of_eq rfl) (hb hby at_128) (fun _ _ => ⟨rfl, e20, (by decide : 0 + 0 ≤ _), (by decide : 0 + 0 ≤ _)⟩)
        dsimp only [Pt.U, Pt.locs, Pt.cells, Pt.slots] at X24 l24 y24 z24 st24 hQ24
        subst l24 y24 z24
        obtain ⟨rfl, Nq24, eq24⟩ := hQ24
        have N24 := Fr.app N0 Nq24
        refine own_st (fun _ k => st24.trans k) ?_
        show own_Go p.tables e below RR (T24.setTop (mkF m 131 #[.val (.int p1), .val (.int p2), .val (.int (3 : Int32)), .val (.ref a_LTE), .val (.int (3 : Int32)), .val (.int (1 : Int32)), .val (.int (1 : Int32))] [(.int (1 : Int32))]))
        refine own_st (fun _ k => XS.iload X24.here hx rfl (hb hby at_131) rfl k) ?_
        show own_Go p.tables e below RR (T24.setTop (mkF m 133 #[.val (.int p1), .val (.int p2), .val (.int (3 : Int32)), .val (.ref a_LTE), .val (.int (3 : Int32)), .val (.int (1 : Int32)), .val (.int (1 : Int32))] [(.int (1 : Int32)), (.int (1 : Int32))]))
        refine own_st (fun _ k => XS.icmpNo X24.here hx rfl (hb hby at_133) rfl (teq (by decide)).2 (XS.iconst X24.here hx rfl (hb hby at_136) (XS.goto X24.here hx rfl (pc0 := 137) (pc' := 141) rfl (hb hby at_137) (by decide) (by decide) k))) ?_
        show own_Go p.tables e below RR (T24.setTop (mkF m 141 #[.val (.int p1), .val (.int p2), .val (.int (3 : Int32)), .val (.ref a_LTE), .val (.int (3 : Int32)), .val (.int (1 : Int32)), .val (.int (1 : Int32))] [(.int (1 : Int32))]))
        obtain ⟨fs, hrt_, hrun, hended, hW, hsame⟩ := X24.leave (v := some (.int (1 : Int32))) (fun h => by rw [Bd.returns] at h; cases h)
        refine own_fin (retN X24 hx (t := .boolean) Bd.returns (by simp) (hb hby at_141) hrt_) (hRR _ ⟨_, hrun, hended, _, _, rfl, ?_, ⟨_, rfl⟩, hW, hsame.mono (by decide) (by decide)⟩)
        show own_Q0 Z p1 p2 a_EQ a_GT a_GTE a_LT a_IN a_LTE h0 n0 _ T24.heap _
        rw [eq24]
        exact ⟨rfl, N24⟩
      · refine own_st (fun _ k => XS.ifYes X20.here hx rfl (pc0 := 99) (pc' := 106) rfl (hb hby at_99) rfl ((if0 _ _).trans (feq hc99_23).2) (by decide) (by decide) (XS.iconst X20.here hx rfl (hb hby at_106) (XS.istore X20.here hx rfl (hb hby at_107) rfl (l' := #[.val (.int p1), .val (.int p2), .val (.int (3 : Int32)), .val (.ref a_LTE), .val (.int (3 : Int32)), .val (.int (2 : Int32)), .unset]) rfl (XS.iload X20.here hx rfl (hb hby at_109) rfl (XS.iload X20.here hx rfl (hb hby at_111) rfl (XS.ishr X20.here hx rfl (hb hby at_113) rfl k)))))) ?_
        show own_Go p.tables e below RR (T20.setTop (mkF m 114 #[.val (.int p1), .val (.int p2), .val (.int (3 : Int32)), .val (.ref a_LTE), .val (.int (3 : Int32)), .val (.int (2 : Int32)), .unset] [(.int ((3 : Int32) >>> ((2 : Int32) &&& 31)))]))
        rw [show ((3 : Int32) >>> ((2 : Int32) &&& 31)) = (0 : Int32) from by decide]
        show own_Go p.tables e below RR (T20.setTop (mkF m 114 #[.val (.int p1), .val (.int p2), .val (.int (3 : Int32)), .val (.ref a_LTE), .val (.int (3 : Int32)), .val (.int (2 : Int32)), .unset] [(.int (0 : Int32))]))
        refine own_st (fun _ k => XS.iconst X20.here hx rfl (hb hby at_114) (XS.iand X20.here hx rfl (hb hby at_115) rfl k)) ?_
        show own_Go p.tables e below RR (T20.setTop (mkF m 116 #[.val (.int p1), .val (.int p2), .val (.int (3 : Int32)), .val (.ref a_LTE), .val (.int (3 : Int32)), .val (.int (2 : Int32)), .unset] [(.int (0 : Int32))]))
        refine own_st (fun _ k => XS.ifYes X20.here hx rfl (pc0 := 116) (pc' := 123) rfl (hb hby at_116) rfl ((if0 _ _).trans (teq (by decide)).1) (by decide) (by decide) (XS.iconst X20.here hx rfl (hb hby at_123) (XS.istore X20.here hx rfl (hb hby at_124) rfl (l' := #[.val (.int p1), .val (.int p2), .val (.int (3 : Int32)), .val (.ref a_LTE), .val (.int (3 : Int32)), .val (.int (2 : Int32)), .val (.int (0 : Int32))]) rfl (XS.aloadN X20.here hx rfl (hb hby at_126) rfl rfl (XS.iloadN X20.here hx rfl (hb hby at_127) rfl k))))) ?_
        show own_Go p.tables e below RR (T20.setTop (mkF m 128 #[.val (.int p1), .val (.int p2), .val (.int (3 : Int32)), .val (.ref a_LTE), .val (.int (3 : Int32)), .val (.int (2 : Int32)), .val (.int (0 : Int32))] [(.int p2), (.ref a_LTE)]))
        obtain ⟨cq25, kq25, q25a, q25b, q25c⟩ := isOf hZ e20 E_LTE
        obtain ⟨_, _, ⟨T25, L25, k25, n25⟩, -, X25, ⟨Lc25, hQ25, l25, y25, z25⟩, st25⟩ := X20.virtualBack hx (y := (⟨"com/example/seshat/seshat/query/Operator", "holds", "(I)Z"⟩ : MethodName)) (z := (⟨"com/example/seshat/seshat/query/Operator", "holds", "(I)Z"⟩ : MethodName)) hown (mvT hZ (hw _ (List.mem_of_getElem? (i := 4) rfl))) (mvT hZ (hw _ (List.mem_of_getElem? (i := 5) rfl))) (notFace_of_selects (args := #[]) (mvT hZ (hw _ (List.mem_of_getElem? (i := 7) rfl)))) (mvT hZ (hw _ (List.mem_of_getElem? (i := 7) rfl))) (mvT hZ (hw _ (List.mem_of_getElem? (i := 6) rfl))) (by decide) (backOf (W := 0) (own_rmH3 l Z a0 hw [] a_LTE p2 (0 : Int32) h0 n0 Z0 E_LTE F_LTE_ordinal (if_pos (own_pos hc91_21 hc99_23))) hZ (hw _ (List.mem_of_getElem? (i := 8) rfl)) (hw _ (List.mem_of_getElem? (i := 2) rfl)) (by decide) (by decide)) q25a q25c (g := (mkF m 128 #[.val (.int p1), .val (.int p2), .val (.int (3 : Int32)), .val (.ref a_LTE), .val (.int (3 : Int32)), .val (.int (2 : Int32)), .val (.int (0 : Int32))] [(.int p2), (.ref a_LTE)])) rfl (by rw [hml]; rfl) (Steps.refl _) (argsL := [(.int p2)]) (rest := []) (lenOf own_pd__I_Z rfl) rfl (by show 2 * 0 + _ ≤ _; exact Nat.le_of_eq rfl) (hb hby at_128) (fun _ _ => ⟨rfl, e20, (by decide : 0 + 0 ≤ _), (by decide : 0 + 0 ≤ _)⟩)
        dsimp only [Pt.U, Pt.locs, Pt.cells, Pt.slots] at X25 l25 y25 z25 st25 hQ25
        subst l25 y25 z25
        obtain ⟨rfl, Nq25, eq25⟩ := hQ25
        have N25 := Fr.app N0 Nq25
        refine own_st (fun _ k => st25.trans k) ?_
        show own_Go p.tables e below RR (T25.setTop (mkF m 131 #[.val (.int p1), .val (.int p2), .val (.int (3 : Int32)), .val (.ref a_LTE), .val (.int (3 : Int32)), .val (.int (2 : Int32)), .val (.int (0 : Int32))] [(.int (0 : Int32))]))
        refine own_st (fun _ k => XS.iload X25.here hx rfl (hb hby at_131) rfl k) ?_
        show own_Go p.tables e below RR (T25.setTop (mkF m 133 #[.val (.int p1), .val (.int p2), .val (.int (3 : Int32)), .val (.ref a_LTE), .val (.int (3 : Int32)), .val (.int (2 : Int32)), .val (.int (0 : Int32))] [(.int (0 : Int32)), (.int (0 : Int32))]))
        refine own_st (fun _ k => XS.icmpNo X25.here hx rfl (hb hby at_133) rfl (teq (by decide)).2 (XS.iconst X25.here hx rfl (hb hby at_136) (XS.goto X25.here hx rfl (pc0 := 137) (pc' := 141) rfl (hb hby at_137) (by decide) (by decide) k))) ?_
        show own_Go p.tables e below RR (T25.setTop (mkF m 141 #[.val (.int p1), .val (.int p2), .val (.int (3 : Int32)), .val (.ref a_LTE), .val (.int (3 : Int32)), .val (.int (2 : Int32)), .val (.int (0 : Int32))] [(.int (1 : Int32))]))
        obtain ⟨fs, hrt_, hrun, hended, hW, hsame⟩ := X25.leave (v := some (.int (1 : Int32))) (fun h => by rw [Bd.returns] at h; cases h)
        refine own_fin (retN X25 hx (t := .boolean) Bd.returns (by simp) (hb hby at_141) hrt_) (hRR _ ⟨_, hrun, hended, _, _, rfl, ?_, ⟨_, rfl⟩, hW, hsame.mono (by decide) (by decide)⟩)
        show own_Q0 Z p1 p2 a_EQ a_GT a_GTE a_LT a_IN a_LTE h0 n0 _ T25.heap _
        rw [eq25]
        exact ⟨rfl, N25⟩
  · show own_Go p.tables e below RR (s₁.setTop (mkF m 8 #[.val (.int p1), .val (.int p2), .val (.int (4 : Int32)), .unset, .unset, .unset, .unset] []))
    show own_Go p.tables e below RR (s₁.setTop (mkF m 8 #[.val (.int p1), .val (.int p2), .val (.int (4 : Int32)), .unset, .unset, .unset, .unset] []))
    refine own_st (fun _ k => XS.iloadN X0.here hx rfl (hb hby at_8) rfl k) ?_
    show own_Go p.tables e below RR (s₁.setTop (mkF m 9 #[.val (.int p1), .val (.int p2), .val (.int (4 : Int32)), .unset, .unset, .unset, .unset] [(.int (4 : Int32))]))
    refine own_st (fun _ k => XS.ifYes X0.here hx rfl (pc0 := 9) (pc' := 22) rfl (hb hby at_9) rfl ((if0 _ _).trans (feq (by decide)).2) (by decide) (by decide) (XS.iloadN X0.here hx rfl (hb hby at_22) rfl (XS.iconst X0.here hx rfl (hb hby at_23) k))) ?_
    show own_Go p.tables e below RR (s₁.setTop (mkF m 24 #[.val (.int p1), .val (.int p2), .val (.int (4 : Int32)), .unset, .unset, .unset, .unset] [(.int (1 : Int32)), (.int (4 : Int32))]))
    refine own_st (fun _ k => XS.icmpYes X0.here hx rfl (pc0 := 24) (pc' := 37) rfl (hb hby at_24) rfl (feq (by decide)).2 (by decide) (by decide) (XS.iloadN X0.here hx rfl (hb hby at_37) rfl (XS.iconst X0.here hx rfl (hb hby at_38) k))) ?_
    show own_Go p.tables e below RR (s₁.setTop (mkF m 39 #[.val (.int p1), .val (.int p2), .val (.int (4 : Int32)), .unset, .unset, .unset, .unset] [(.int (2 : Int32)), (.int (4 : Int32))]))
    refine own_st (fun _ k => XS.icmpYes X0.here hx rfl (pc0 := 39) (pc' := 52) rfl (hb hby at_39) rfl (feq (by decide)).2 (by decide) (by decide) (XS.iloadN X0.here hx rfl (hb hby at_52) rfl (XS.iconst X0.here hx rfl (hb hby at_53) k))) ?_
    show own_Go p.tables e below RR (s₁.setTop (mkF m 54 #[.val (.int p1), .val (.int p2), .val (.int (4 : Int32)), .unset, .unset, .unset, .unset] [(.int (3 : Int32)), (.int (4 : Int32))]))
    refine own_st (fun _ k => XS.icmpYes X0.here hx rfl (pc0 := 54) (pc' := 67) rfl (hb hby at_54) rfl (feq (by decide)).2 (by decide) (by decide) (XS.iloadN X0.here hx rfl (hb hby at_67) rfl (XS.iconst X0.here hx rfl (hb hby at_68) k))) ?_
    show own_Go p.tables e below RR (s₁.setTop (mkF m 69 #[.val (.int p1), .val (.int p2), .val (.int (4 : Int32)), .unset, .unset, .unset, .unset] [(.int (4 : Int32)), (.int (4 : Int32))]))
    refine own_st (fun _ k => XS.icmpNo X0.here hx rfl (hb hby at_69) rfl (teq (by decide)).2 k) ?_
    show own_Go p.tables e below RR (s₁.setTop (mkF m 72 #[.val (.int p1), .val (.int p2), .val (.int (4 : Int32)), .unset, .unset, .unset, .unset] []))
    obtain ⟨T26, X26, e26, st26⟩ := getS2 X0 hx hZ hown (host := "") (Or.inl (hw _ (List.mem_of_getElem? (i := 20) rfl))) Via.refl e0 S_GTE (g := (mkF m 72 #[.val (.int p1), .val (.int p2), .val (.int (4 : Int32)), .unset, .unset, .unset, .unset] [])) rfl (hb hby at_72)
    refine own_st st26 ?_
    show own_Go p.tables e below RR (T26.setTop (mkF m 75 #[.val (.int p1), .val (.int p2), .val (.int (4 : Int32)), .unset, .unset, .unset, .unset] [(.ref a_GTE)]))
    refine own_st (fun _ k => XS.astoreN X26.here hx rfl (hb hby at_75) rfl rfl (l' := #[.val (.int p1), .val (.int p2), .val (.int (4 : Int32)), .val (.ref a_GTE), .unset, .unset, .unset]) rfl (XS.bipush X26.here hx rfl (hb hby at_76) (XS.istore X26.here hx rfl (hb hby at_78) rfl (l' := #[.val (.int p1), .val (.int p2), .val (.int (4 : Int32)), .val (.ref a_GTE), .val (.int (6 : Int32)), .unset, .unset]) rfl (XS.goto X26.here hx rfl (pc0 := 80) (pc' := 90) rfl (hb hby at_80) (by decide) (by decide) (XS.iloadN X26.here hx rfl (hb hby at_90) rfl k))))) ?_
    show own_Go p.tables e below RR (T26.setTop (mkF m 91 #[.val (.int p1), .val (.int p2), .val (.int (4 : Int32)), .val (.ref a_GTE), .val (.int (6 : Int32)), .unset, .unset] [(.int p2)]))
    by_cases hc91_27 : p2 < (0 : Int32)
    · refine own_st (fun _ k => XS.ifNo X26.here hx rfl (hb hby at_91) rfl ((if0 _ _).trans (tlt hc91_27).2.1) (XS.iconst X26.here hx rfl (hb hby at_94) (XS.goto X26.here hx rfl (pc0 := 95) (pc' := 107) rfl (hb hby at_95) (by decide) (by decide) (XS.istore X26.here hx rfl (hb hby at_107) rfl (l' := #[.val (.int p1), .val (.int p2), .val (.int (4 : Int32)), .val (.ref a_GTE), .val (.int (6 : Int32)), .val (.int (0 : Int32)), .unset]) rfl (XS.iload X26.here hx rfl (hb hby at_109) rfl (XS.iload X26.here hx rfl (hb hby at_111) rfl (XS.ishr X26.here hx rfl (hb hby at_113) rfl k))))))) ?_
      show own_Go p.tables e below RR (T26.setTop (mkF m 114 #[.val (.int p1), .val (.int p2), .val (.int (4 : Int32)), .val (.ref a_GTE), .val (.int (6 : Int32)), .val (.int (0 : Int32)), .unset] [(.int ((6 : Int32) >>> ((0 : Int32) &&& 31)))]))
      rw [show ((6 : Int32) >>> ((0 : Int32) &&& 31)) = (6 : Int32) from by decide]
      show own_Go p.tables e below RR (T26.setTop (mkF m 114 #[.val (.int p1), .val (.int p2), .val (.int (4 : Int32)), .val (.ref a_GTE), .val (.int (6 : Int32)), .val (.int (0 : Int32)), .unset] [(.int (6 : Int32))]))
      refine own_st (fun _ k => XS.iconst X26.here hx rfl (hb hby at_114) (XS.iand X26.here hx rfl (hb hby at_115) rfl k)) ?_
      show own_Go p.tables e below RR (T26.setTop (mkF m 116 #[.val (.int p1), .val (.int p2), .val (.int (4 : Int32)), .val (.ref a_GTE), .val (.int (6 : Int32)), .val (.int (0 : Int32)), .unset] [(.int (0 : Int32))]))
      refine own_st (fun _ k => XS.ifYes X26.here hx rfl (pc0 := 116) (pc' := 123) rfl (hb hby at_116) rfl ((if0 _ _).trans (teq (by decide)).1) (by decide) (by decide) (XS.iconst X26.here hx rfl (hb hby at_123) (XS.istore X26.here hx rfl (hb hby at_124) rfl (l' := #[.val (.int p1), .val (.int p2), .val (.int (4 : Int32)), .val (.ref a_GTE), .val (.int (6 : Int32)), .val (.int (0 : Int32)), .val (.int (0 : Int32))]) rfl (XS.aloadN X26.here hx rfl (hb hby at_126) rfl rfl (XS.iloadN X26.here hx rfl (hb hby at_127) rfl k))))) ?_
      show own_Go p.tables e below RR (T26.setTop (mkF m 128 #[.val (.int p1), .val (.int p2), .val (.int (4 : Int32)), .val (.ref a_GTE), .val (.int (6 : Int32)), .val (.int (0 : Int32)), .val (.int (0 : Int32))] [(.int p2), (.ref a_GTE)]))
      obtain ⟨cq28, kq28, q28a, q28b, q28c⟩ := isOf hZ e26 E_GTE
      obtain ⟨_, _, ⟨T28, L28, k28, n28⟩, -, X28, ⟨Lc28, hQ28, l28, y28, z28⟩, st28⟩ := X26.virtualBack hx (y := (⟨"com/example/seshat/seshat/query/Operator", "holds", "(I)Z"⟩ : MethodName)) (z := (⟨"com/example/seshat/seshat/query/Operator", "holds", "(I)Z"⟩ : MethodName)) hown (mvT hZ (hw _ (List.mem_of_getElem? (i := 4) rfl))) (mvT hZ (hw _ (List.mem_of_getElem? (i := 5) rfl))) (notFace_of_selects (args := #[]) (mvT hZ (hw _ (List.mem_of_getElem? (i := 7) rfl)))) (mvT hZ (hw _ (List.mem_of_getElem? (i := 7) rfl))) (mvT hZ (hw _ (List.mem_of_getElem? (i := 6) rfl))) (by decide) (backOf (W := 0) (own_rmH4 l Z a0 hw [] a_GTE p2 (0 : Int32) h0 n0 Z0 E_GTE F_GTE_ordinal (if_pos hc91_27)) hZ (hw _ (List.mem_of_getElem? (i := 8) rfl)) (hw _ (List.mem_of_getElem? (i := 2) rfl)) (by decide) (by decide)) q28a q28c (g := (mkF m 128 #[.val (.int p1), .val (.int p2), .val (.int (4 : Int32)), .val (.ref a_GTE), .val (.int (6 : Int32)), .val (.int (0 : Int32)), .val (.int (0 : Int32))] [(.int p2), (.ref a_GTE)])) rfl (by rw [hml]; rfl) (Steps.refl _) (argsL := [(.int p2)]) (rest := []) (lenOf own_pd__I_Z rfl) rfl (by show 2 * 0 + _ ≤ _; exact Nat.le_of_eq rfl) (hb hby at_128) (fun _ _ => ⟨rfl, e26, (by decide : 0 + 0 ≤ _), (by decide : 0 + 0 ≤ _)⟩)
      dsimp only [Pt.U, Pt.locs, Pt.cells, Pt.slots] at X28 l28 y28 z28 st28 hQ28
      subst l28 y28 z28
      obtain ⟨rfl, Nq28, eq28⟩ := hQ28
      have N28 := Fr.app N0 Nq28
      refine own_st (fun _ k => st28.trans k) ?_
      show own_Go p.tables e below RR (T28.setTop (mkF m 131 #[.val (.int p1), .val (.int p2), .val (.int (4 : Int32)), .val (.ref a_GTE), .val (.int (6 : Int32)), .val (.int (0 : Int32)), .val (.int (0 : Int32))] [(.int (0 : Int32))]))
      refine own_st (fun _ k => XS.iload X28.here hx rfl (hb hby at_131) rfl k) ?_
      show own_Go p.tables e below RR (T28.setTop (mkF m 133 #[.val (.int p1), .val (.int p2), .val (.int (4 : Int32)), .val (.ref a_GTE), .val (.int (6 : Int32)), .val (.int (0 : Int32)), .val (.int (0 : Int32))] [(.int (0 : Int32)), (.int (0 : Int32))]))
      refine own_st (fun _ k => XS.icmpNo X28.here hx rfl (hb hby at_133) rfl (teq (by decide)).2 (XS.iconst X28.here hx rfl (hb hby at_136) (XS.goto X28.here hx rfl (pc0 := 137) (pc' := 141) rfl (hb hby at_137) (by decide) (by decide) k))) ?_
      show own_Go p.tables e below RR (T28.setTop (mkF m 141 #[.val (.int p1), .val (.int p2), .val (.int (4 : Int32)), .val (.ref a_GTE), .val (.int (6 : Int32)), .val (.int (0 : Int32)), .val (.int (0 : Int32))] [(.int (1 : Int32))]))
      obtain ⟨fs, hrt_, hrun, hended, hW, hsame⟩ := X28.leave (v := some (.int (1 : Int32))) (fun h => by rw [Bd.returns] at h; cases h)
      refine own_fin (retN X28 hx (t := .boolean) Bd.returns (by simp) (hb hby at_141) hrt_) (hRR _ ⟨_, hrun, hended, _, _, rfl, ?_, ⟨_, rfl⟩, hW, hsame.mono (by decide) (by decide)⟩)
      show own_Q0 Z p1 p2 a_EQ a_GT a_GTE a_LT a_IN a_LTE h0 n0 _ T28.heap _
      rw [eq28]
      exact ⟨rfl, N28⟩
    · refine own_st (fun _ k => XS.ifYes X26.here hx rfl (pc0 := 91) (pc' := 98) rfl (hb hby at_91) rfl ((if0 _ _).trans (flt hc91_27).2.1) (by decide) (by decide) (XS.iloadN X26.here hx rfl (hb hby at_98) rfl k)) ?_
      show own_Go p.tables e below RR (T26.setTop (mkF m 99 #[.val (.int p1), .val (.int p2), .val (.int (4 : Int32)), .val (.ref a_GTE), .val (.int (6 : Int32)), .unset, .unset] [(.int p2)]))
      by_cases hc99_29 : p2 = (0 : Int32)
      · refine own_st (fun _ k => XS.ifNo X26.here hx rfl (hb hby at_99) rfl ((if0 _ _).trans (teq hc99_29).2) (XS.iconst X26.here hx rfl (hb hby at_102) (XS.goto X26.here hx rfl (pc0 := 103) (pc' := 107) rfl (hb hby at_103) (by decide) (by decide) (XS.istore X26.here hx rfl (hb hby at_107) rfl (l' := #[.val (.int p1), .val (.int p2), .val (.int (4 : Int32)), .val (.ref a_GTE), .val (.int (6 : Int32)), .val (.int (1 : Int32)), .unset]) rfl (XS.iload X26.here hx rfl (hb hby at_109) rfl (XS.iload X26.here hx rfl (hb hby at_111) rfl (XS.ishr X26.here hx rfl (hb hby at_113) rfl k))))))) ?_
        show own_Go p.tables e below RR (T26.setTop (mkF m 114 #[.val (.int p1), .val (.int p2), .val (.int (4 : Int32)), .val (.ref a_GTE), .val (.int (6 : Int32)), .val (.int (1 : Int32)), .unset] [(.int ((6 : Int32) >>> ((1 : Int32) &&& 31)))]))
        rw [show ((6 : Int32) >>> ((1 : Int32) &&& 31)) = (3 : Int32) from by decide]
        show own_Go p.tables e below RR (T26.setTop (mkF m 114 #[.val (.int p1), .val (.int p2), .val (.int (4 : Int32)), .val (.ref a_GTE), .val (.int (6 : Int32)), .val (.int (1 : Int32)), .unset] [(.int (3 : Int32))]))
        refine own_st (fun _ k => XS.iconst X26.here hx rfl (hb hby at_114) (XS.iand X26.here hx rfl (hb hby at_115) rfl k)) ?_
        show own_Go p.tables e below RR (T26.setTop (mkF m 116 #[.val (.int p1), .val (.int p2), .val (.int (4 : Int32)), .val (.ref a_GTE), .val (.int (6 : Int32)), .val (.int (1 : Int32)), .unset] [(.int (1 : Int32))]))
        refine own_st (fun _ k => XS.ifNo X26.here hx rfl (hb hby at_116) rfl ((if0 _ _).trans (feq (by decide)).1) (XS.iconst X26.here hx rfl (hb hby at_119) (XS.goto X26.here hx rfl (pc0 := 120) (pc' := 124) rfl (hb hby at_120) (by decide) (by decide) (XS.istore X26.here hx rfl (hb hby at_124) rfl (l' := #[.val (.int p1), .val (.int p2), .val (.int (4 : Int32)), .val (.ref a_GTE), .val (.int (6 : Int32)), .val (.int (1 : Int32)), .val (.int (1 : Int32))]) rfl (XS.aloadN X26.here hx rfl (hb hby at_126) rfl rfl (XS.iloadN X26.here hx rfl (hb hby at_127) rfl k)))))) ?_
        show own_Go p.tables e below RR (T26.setTop (mkF m 128 #[.val (.int p1), .val (.int p2), .val (.int (4 : Int32)), .val (.ref a_GTE), .val (.int (6 : Int32)), .val (.int (1 : Int32)), .val (.int (1 : Int32))] [(.int p2), (.ref a_GTE)]))
        obtain ⟨cq30, kq30, q30a, q30b, q30c⟩ := isOf hZ e26 E_GTE
        obtain ⟨_, _, ⟨T30, L30, k30, n30⟩, -, X30, ⟨Lc30, hQ30, l30, y30, z30⟩, st30⟩ := X26.virtualBack hx (y := (⟨"com/example/seshat/seshat/query/Operator", "holds", "(I)Z"⟩ : MethodName)) (z := (⟨"com/example/seshat/seshat/query/Operator", "holds", "(I)Z"⟩ : MethodName)) hown (mvT hZ (hw _ (List.mem_of_getElem? (i := 4) rfl))) (mvT hZ (hw _ (List.mem_of_getElem? (i := 5) rfl))) (notFace_of_selects (args := #[]) (mvT hZ (hw _ (List.mem_of_getElem? (i := 7) rfl)))) (mvT hZ (hw _ (List.mem_of_getElem? (i := 7) rfl))) (mvT hZ (hw _ (List.mem_of_getElem? (i := 6) rfl))) (by decide) (backOf (W := 0) (own_rmH4 l Z a0 hw [] a_GTE p2 (1 : Int32) h0 n0 Z0 E_GTE F_GTE_ordinal (if_neg (own_z hc99_29).2)) hZ (hw _ (List.mem_of_getElem? (i := 8) rfl)) (hw _ (List.mem_of_getElem? (i := 2) rfl)) (by decide) (by decide)) q30a q30c (g := (mkF m 128 #[.val (.int p1), .val (.int p2), .val (.int (4 : Int32)), .val (.ref a_GTE), .val (.int (6 : Int32)), .val (.int (1 : Int32)), .val (.int (1 : Int32))] [(.int p2), (.ref a_GTE)])) rfl (by rw [hml]; rfl) (Steps.refl _) (argsL := [(.int p2)]) (rest := []) (lenOf own_pd__I_Z rfl) rfl (by show 2 * 0 + _ ≤ _; exact Nat.le_of_eq rfl) (hb hby at_128) (fun _ _ => ⟨rfl, e26, (by decide : 0 + 0 ≤ _), (by decide : 0 + 0 ≤ _)⟩)
        dsimp only [Pt.U, Pt.locs, Pt.cells, Pt.slots] at X30 l30 y30 z30 st30 hQ30
        subst l30 y30 z30
        obtain ⟨rfl, Nq30, eq30⟩ := hQ30
        have N30 := Fr.app N0 Nq30
        refine own_st (fun _ k => st30.trans k) ?_
        show own_Go p.tables e below RR (T30.setTop (mkF m 131 #[.val (.int p1), .val (.int p2), .val (.int (4 : Int32)), .val (.ref a_GTE), .val (.int (6 : Int32)), .val (.int (1 : Int32)), .val (.int (1 : Int32))] [(.int (1 : Int32))]))
        refine own_st (fun _ k => XS.iload X30.here hx rfl (hb hby at_131) rfl k) ?_
        show own_Go p.tables e below RR (T30.setTop (mkF m 133 #[.val (.int p1), .val (.int p2), .val (.int (4 : Int32)), .val (.ref a_GTE), .val (.int (6 : Int32)), .val (.int (1 : Int32)), .val (.int (1 : Int32))] [(.int (1 : Int32)), (.int (1 : Int32))]))
        refine own_st (fun _ k => XS.icmpNo X30.here hx rfl (hb hby at_133) rfl (teq (by decide)).2 (XS.iconst X30.here hx rfl (hb hby at_136) (XS.goto X30.here hx rfl (pc0 := 137) (pc' := 141) rfl (hb hby at_137) (by decide) (by decide) k))) ?_
        show own_Go p.tables e below RR (T30.setTop (mkF m 141 #[.val (.int p1), .val (.int p2), .val (.int (4 : Int32)), .val (.ref a_GTE), .val (.int (6 : Int32)), .val (.int (1 : Int32)), .val (.int (1 : Int32))] [(.int (1 : Int32))]))
        obtain ⟨fs, hrt_, hrun, hended, hW, hsame⟩ := X30.leave (v := some (.int (1 : Int32))) (fun h => by rw [Bd.returns] at h; cases h)
        refine own_fin (retN X30 hx (t := .boolean) Bd.returns (by simp) (hb hby at_141) hrt_) (hRR _ ⟨_, hrun, hended, _, _, rfl, ?_, ⟨_, rfl⟩, hW, hsame.mono (by decide) (by decide)⟩)
        show own_Q0 Z p1 p2 a_EQ a_GT a_GTE a_LT a_IN a_LTE h0 n0 _ T30.heap _
        rw [eq30]
        exact ⟨rfl, N30⟩
      · refine own_st (fun _ k => XS.ifYes X26.here hx rfl (pc0 := 99) (pc' := 106) rfl (hb hby at_99) rfl ((if0 _ _).trans (feq hc99_29).2) (by decide) (by decide) (XS.iconst X26.here hx rfl (hb hby at_106) (XS.istore X26.here hx rfl (hb hby at_107) rfl (l' := #[.val (.int p1), .val (.int p2), .val (.int (4 : Int32)), .val (.ref a_GTE), .val (.int (6 : Int32)), .val (.int (2 : Int32)), .unset]) rfl (XS.iload X26.here hx rfl (hb hby at_109) rfl (XS.iload X26.here hx rfl (hb hby at_111) rfl (XS.ishr X26.here hx rfl (hb hby at_113) rfl k)))))) ?_
        show own_Go p.tables e below RR (T26.setTop (mkF m 114 #[.val (.int p1), .val (.int p2), .val (.int (4 : Int32)), .val (.ref a_GTE), .val (.int (6 : Int32)), .val (.int (2 : Int32)), .unset] [(.int ((6 : Int32) >>> ((2 : Int32) &&& 31)))]))
        rw [show ((6 : Int32) >>> ((2 : Int32) &&& 31)) = (1 : Int32) from by decide]
        show own_Go p.tables e below RR (T26.setTop (mkF m 114 #[.val (.int p1), .val (.int p2), .val (.int (4 : Int32)), .val (.ref a_GTE), .val (.int (6 : Int32)), .val (.int (2 : Int32)), .unset] [(.int (1 : Int32))]))
        refine own_st (fun _ k => XS.iconst X26.here hx rfl (hb hby at_114) (XS.iand X26.here hx rfl (hb hby at_115) rfl k)) ?_
        show own_Go p.tables e below RR (T26.setTop (mkF m 116 #[.val (.int p1), .val (.int p2), .val (.int (4 : Int32)), .val (.ref a_GTE), .val (.int (6 : Int32)), .val (.int (2 : Int32)), .unset] [(.int (1 : Int32))]))
        refine own_st (fun _ k => XS.ifNo X26.here hx rfl (hb hby at_116) rfl ((if0 _ _).trans (feq (by decide)).1) (XS.iconst X26.here hx rfl (hb hby at_119) (XS.goto X26.here hx rfl (pc0 := 120) (pc' := 124) rfl (hb hby at_120) (by decide) (by decide) (XS.istore X26.here hx rfl (hb hby at_124) rfl (l' := #[.val (.int p1), .val (.int p2), .val (.int (4 : Int32)), .val (.ref a_GTE), .val (.int (6 : Int32)), .val (.int (2 : Int32)), .val (.int (1 : Int32))]) rfl (XS.aloadN X26.here hx rfl (hb hby at_126) rfl rfl (XS.iloadN X26.here hx rfl (hb hby at_127) rfl k)))))) ?_
        show own_Go p.tables e below RR (T26.setTop (mkF m 128 #[.val (.int p1), .val (.int p2), .val (.int (4 : Int32)), .val (.ref a_GTE), .val (.int (6 : Int32)), .val (.int (2 : Int32)), .val (.int (1 : Int32))] [(.int p2), (.ref a_GTE)]))
        obtain ⟨cq31, kq31, q31a, q31b, q31c⟩ := isOf hZ e26 E_GTE
        obtain ⟨_, _, ⟨T31, L31, k31, n31⟩, -, X31, ⟨Lc31, hQ31, l31, y31, z31⟩, st31⟩ := X26.virtualBack hx (y := (⟨"com/example/seshat/seshat/query/Operator", "holds", "(I)Z"⟩ : MethodName)) (z := (⟨"com/example/seshat/seshat/query/Operator", "holds", "(I)Z"⟩ : MethodName)) hown (mvT hZ (hw _ (List.mem_of_getElem? (i := 4) rfl))) (mvT hZ (hw _ (List.mem_of_getElem? (i := 5) rfl))) (notFace_of_selects (args := #[]) (mvT hZ (hw _ (List.mem_of_getElem? (i := 7) rfl)))) (mvT hZ (hw _ (List.mem_of_getElem? (i := 7) rfl))) (mvT hZ (hw _ (List.mem_of_getElem? (i := 6) rfl))) (by decide) (backOf (W := 0) (own_rmH4 l Z a0 hw [] a_GTE p2 (1 : Int32) h0 n0 Z0 E_GTE F_GTE_ordinal (if_neg hc91_27)) hZ (hw _ (List.mem_of_getElem? (i := 8) rfl)) (hw _ (List.mem_of_getElem? (i := 2) rfl)) (by decide) (by decide)) q31a q31c (g := (mkF m 128 #[.val (.int p1), .val (.int p2), .val (.int (4 : Int32)), .val (.ref a_GTE), .val (.int (6 : Int32)), .val (.int (2 : Int32)), .val (.int (1 : Int32))] [(.int p2), (.ref a_GTE)])) rfl (by rw [hml]; rfl) (Steps.refl _) (argsL := [(.int p2)]) (rest := []) (lenOf own_pd__I_Z rfl) rfl (by show 2 * 0 + _ ≤ _; exact Nat.le_of_eq rfl) (hb hby at_128) (fun _ _ => ⟨rfl, e26, (by decide : 0 + 0 ≤ _), (by decide : 0 + 0 ≤ _)⟩)
        dsimp only [Pt.U, Pt.locs, Pt.cells, Pt.slots] at X31 l31 y31 z31 st31 hQ31
        subst l31 y31 z31
        obtain ⟨rfl, Nq31, eq31⟩ := hQ31
        have N31 := Fr.app N0 Nq31
        refine own_st (fun _ k => st31.trans k) ?_
        show own_Go p.tables e below RR (T31.setTop (mkF m 131 #[.val (.int p1), .val (.int p2), .val (.int (4 : Int32)), .val (.ref a_GTE), .val (.int (6 : Int32)), .val (.int (2 : Int32)), .val (.int (1 : Int32))] [(.int (1 : Int32))]))
        refine own_st (fun _ k => XS.iload X31.here hx rfl (hb hby at_131) rfl k) ?_
        show own_Go p.tables e below RR (T31.setTop (mkF m 133 #[.val (.int p1), .val (.int p2), .val (.int (4 : Int32)), .val (.ref a_GTE), .val (.int (6 : Int32)), .val (.int (2 : Int32)), .val (.int (1 : Int32))] [(.int (1 : Int32)), (.int (1 : Int32))]))
        refine own_st (fun _ k => XS.icmpNo X31.here hx rfl (hb hby at_133) rfl (teq (by decide)).2 (XS.iconst X31.here hx rfl (hb hby at_136) (XS.goto X31.here hx rfl (pc0 := 137) (pc' := 141) rfl (hb hby at_137) (by decide) (by decide) k))) ?_
        show own_Go p.tables e below RR (T31.setTop (mkF m 141 #[.val (.int p1), .val (.int p2), .val (.int (4 : Int32)), .val (.ref a_GTE), .val (.int (6 : Int32)), .val (.int (2 : Int32)), .val (.int (1 : Int32))] [(.int (1 : Int32))]))
        obtain ⟨fs, hrt_, hrun, hended, hW, hsame⟩ := X31.leave (v := some (.int (1 : Int32))) (fun h => by rw [Bd.returns] at h; cases h)
        refine own_fin (retN X31 hx (t := .boolean) Bd.returns (by simp) (hb hby at_141) hrt_) (hRR _ ⟨_, hrun, hended, _, _, rfl, ?_, ⟨_, rfl⟩, hW, hsame.mono (by decide) (by decide)⟩)
        show own_Q0 Z p1 p2 a_EQ a_GT a_GTE a_LT a_IN a_LTE h0 n0 _ T31.heap _
        rw [eq31]
        exact ⟨rfl, N31⟩
  · show own_Go p.tables e below RR (s₁.setTop (mkF m 8 #[.val (.int p1), .val (.int p2), .val (.int (5 : Int32)), .unset, .unset, .unset, .unset] []))
    show own_Go p.tables e below RR (s₁.setTop (mkF m 8 #[.val (.int p1), .val (.int p2), .val (.int (5 : Int32)), .unset, .unset, .unset, .unset] []))
    refine own_st (fun _ k => XS.iloadN X0.here hx rfl (hb hby at_8) rfl k) ?_
    show own_Go p.tables e below RR (s₁.setTop (mkF m 9 #[.val (.int p1), .val (.int p2), .val (.int (5 : Int32)), .unset, .unset, .unset, .unset] [(.int (5 : Int32))]))
    refine own_st (fun _ k => XS.ifYes X0.here hx rfl (pc0 := 9) (pc' := 22) rfl (hb hby at_9) rfl ((if0 _ _).trans (feq (by decide)).2) (by decide) (by decide) (XS.iloadN X0.here hx rfl (hb hby at_22) rfl (XS.iconst X0.here hx rfl (hb hby at_23) k))) ?_
    show own_Go p.tables e below RR (s₁.setTop (mkF m 24 #[.val (.int p1), .val (.int p2), .val (.int (5 : Int32)), .unset, .unset, .unset, .unset] [(.int (1 : Int32)), (.int (5 : Int32))]))
    refine own_st (fun _ k => XS.icmpYes X0.here hx rfl (pc0 := 24) (pc' := 37) rfl (hb hby at_24) rfl (feq (by decide)).2 (by decide) (by decide) (XS.iloadN X0.here hx rfl (hb hby at_37) rfl (XS.iconst X0.here hx rfl (hb hby at_38) k))) ?_
    show own_Go p.tables e below RR (s₁.setTop (mkF m 39 #[.val (.int p1), .val (.int p2), .val (.int (5 : Int32)), .unset, .unset, .unset, .unset] [(.int (2 : Int32)), (.int (5 : Int32))]))
    refine own_st (fun _ k => XS.icmpYes X0.here hx rfl (pc0 := 39) (pc' := 52) rfl (hb hby at_39) rfl (feq (by decide)).2 (by decide) (by decide) (XS.iloadN X0.here hx rfl (hb hby at_52) rfl (XS.iconst X0.here hx rfl (hb hby at_53) k))) ?_
    show own_Go p.tables e below RR (s₁.setTop (mkF m 54 #[.val (.int p1), .val (.int p2), .val (.int (5 : Int32)), .unset, .unset, .unset, .unset] [(.int (3 : Int32)), (.int (5 : Int32))]))
    refine own_st (fun _ k => XS.icmpYes X0.here hx rfl (pc0 := 54) (pc' := 67) rfl (hb hby at_54) rfl (feq (by decide)).2 (by decide) (by decide) (XS.iloadN X0.here hx rfl (hb hby at_67) rfl (XS.iconst X0.here hx rfl (hb hby at_68) k))) ?_
    show own_Go p.tables e below RR (s₁.setTop (mkF m 69 #[.val (.int p1), .val (.int p2), .val (.int (5 : Int32)), .unset, .unset, .unset, .unset] [(.int (4 : Int32)), (.int (5 : Int32))]))
    refine own_st (fun _ k => XS.icmpYes X0.here hx rfl (pc0 := 69) (pc' := 83) rfl (hb hby at_69) rfl (feq (by decide)).2 (by decide) (by decide) k) ?_
    show own_Go p.tables e below RR (s₁.setTop (mkF m 83 #[.val (.int p1), .val (.int p2), .val (.int (5 : Int32)), .unset, .unset, .unset, .unset] []))
    obtain ⟨T32, X32, e32, st32⟩ := getS2 X0 hx hZ hown (host := "") (Or.inl (hw _ (List.mem_of_getElem? (i := 24) rfl))) Via.refl e0 S_IN (g := (mkF m 83 #[.val (.int p1), .val (.int p2), .val (.int (5 : Int32)), .unset, .unset, .unset, .unset] [])) rfl (hb hby at_83)
    refine own_st st32 ?_
    show own_Go p.tables e below RR (T32.setTop (mkF m 86 #[.val (.int p1), .val (.int p2), .val (.int (5 : Int32)), .unset, .unset, .unset, .unset] [(.ref a_IN)]))
    refine own_st (fun _ k => XS.astoreN X32.here hx rfl (hb hby at_86) rfl rfl (l' := #[.val (.int p1), .val (.int p2), .val (.int (5 : Int32)), .val (.ref a_IN), .unset, .unset, .unset]) rfl (XS.iconst X32.here hx rfl (hb hby at_87) (XS.istore X32.here hx rfl (hb hby at_88) rfl (l' := #[.val (.int p1), .val (.int p2), .val (.int (5 : Int32)), .val (.ref a_IN), .val (.int (2 : Int32)), .unset, .unset]) rfl (XS.iloadN X32.here hx rfl (hb hby at_90) rfl k)))) ?_
    show own_Go p.tables e below RR (T32.setTop (mkF m 91 #[.val (.int p1), .val (.int p2), .val (.int (5 : Int32)), .val (.ref a_IN), .val (.int (2 : Int32)), .unset, .unset] [(.int p2)]))
    by_cases hc91_33 : p2 < (0 : Int32)
    · refine own_st (fun _ k => XS.ifNo X32.here hx rfl (hb hby at_91) rfl ((if0 _ _).trans (tlt hc91_33).2.1) (XS.iconst X32.here hx rfl (hb hby at_94) (XS.goto X32.here hx rfl (pc0 := 95) (pc' := 107) rfl (hb hby at_95) (by decide) (by decide) (XS.istore X32.here hx rfl (hb hby at_107) rfl (l' := #[.val (.int p1), .val (.int p2), .val (.int (5 : Int32)), .val (.ref a_IN), .val (.int (2 : Int32)), .val (.int (0 : Int32)), .unset]) rfl (XS.iload X32.here hx rfl (hb hby at_109) rfl (XS.iload X32.here hx rfl (hb hby at_111) rfl (XS.ishr X32.here hx rfl (hb hby at_113) rfl k))))))) ?_
      show own_Go p.tables e below RR (T32.setTop (mkF m 114 #[.val (.int p1), .val (.int p2), .val (.int (5 : Int32)), .val (.ref a_IN), .val (.int (2 : Int32)), .val (.int (0 : Int32)), .unset] [(.int ((2 : Int32) >>> ((0 : Int32) &&& 31)))]))
      rw [show ((2 : Int32) >>> ((0 : Int32) &&& 31)) = (2 : Int32) from by decide]
      show own_Go p.tables e below RR (T32.setTop (mkF m 114 #[.val (.int p1), .val (.int p2), .val (.int (5 : Int32)), .val (.ref a_IN), .val (.int (2 : Int32)), .val (.int (0 : Int32)), .unset] [(.int (2 : Int32))]))
      refine own_st (fun _ k => XS.iconst X32.here hx rfl (hb hby at_114) (XS.iand X32.here hx rfl (hb hby at_115) rfl k)) ?_
      show own_Go p.tables e below RR (T32.setTop (mkF m 116 #[.val (.int p1), .val (.int p2), .val (.int (5 : Int32)), .val (.ref a_IN), .val (.int (2 : Int32)), .val (.int (0 : Int32)), .unset] [(.int (0 : Int32))]))
      refine own_st (fun _ k => XS.ifYes X32.here hx rfl (pc0 := 116) (pc' := 123) rfl (hb hby at_116) rfl ((if0 _ _).trans (teq (by decide)).1) (by decide) (by decide) (XS.iconst X32.here hx rfl (hb hby at_123) (XS.istore X32.here hx rfl (hb hby at_124) rfl (l' := #[.val (.int p1), .val (.int p2), .val (.int (5 : Int32)), .val (.ref a_IN), .val (.int (2 : Int32)), .val (.int (0 : Int32)), .val (.int (0 : Int32))]) rfl (XS.aloadN X32.here hx rfl (hb hby at_126) rfl rfl (XS.iloadN X32.here hx rfl (hb hby at_127) rfl k))))) ?_
      show own_Go p.tables e below RR (T32.setTop (mkF m 128 #[.val (.int p1), .val (.int p2), .val (.int (5 : Int32)), .val (.ref a_IN), .val (.int (2 : Int32)), .val (.int (0 : Int32)), .val (.int (0 : Int32))] [(.int p2), (.ref a_IN)]))
      obtain ⟨cq34, kq34, q34a, q34b, q34c⟩ := isOf hZ e32 E_IN
      obtain ⟨_, _, ⟨T34, L34, k34, n34⟩, -, X34, ⟨Lc34, hQ34, l34, y34, z34⟩, st34⟩ := X32.virtualBack hx (y := (⟨"com/example/seshat/seshat/query/Operator", "holds", "(I)Z"⟩ : MethodName)) (z := (⟨"com/example/seshat/seshat/query/Operator", "holds", "(I)Z"⟩ : MethodName)) hown (mvT hZ (hw _ (List.mem_of_getElem? (i := 4) rfl))) (mvT hZ (hw _ (List.mem_of_getElem? (i := 5) rfl))) (notFace_of_selects (args := #[]) (mvT hZ (hw _ (List.mem_of_getElem? (i := 7) rfl)))) (mvT hZ (hw _ (List.mem_of_getElem? (i := 7) rfl))) (mvT hZ (hw _ (List.mem_of_getElem? (i := 6) rfl))) (by decide) (backOf (W := 0) (own_rmH5 l Z a0 hw [] a_IN p2 (0 : Int32) h0 n0 Z0 E_IN F_IN_ordinal (if_neg (own_nz hc91_33))) hZ (hw _ (List.mem_of_getElem? (i := 8) rfl)) (hw _ (List.mem_of_getElem? (i := 2) rfl)) (by decide) (by decide)) q34a q34c (g := (mkF m 128 #[.val (.int p1), .val (.int p2), .val (.int (5 : Int32)), .val (.ref a_IN), .val (.int (2 : Int32)), .val (.int (0 : Int32)), .val (.int (0 : Int32))] [(.int p2), (.ref a_IN)])) rfl (by rw [hml]; rfl) (Steps.refl _) (argsL := [(.int p2)]) (rest := []) (lenOf own_pd__I_Z rfl) rfl (by show 2 * 0 + _ ≤ _; exact Nat.le_of_eq rfl) (hb hby at_128) (fun _ _ => ⟨rfl, e32, (by decide : 0 + 0 ≤ _), (by decide : 0 + 0 ≤ _)⟩)
      dsimp only [Pt.U, Pt.locs, Pt.cells, Pt.slots] at X34 l34 y34 z34 st34 hQ34
      subst l34 y34 z34
      obtain ⟨rfl, Nq34, eq34⟩ := hQ34
      have N34 := Fr.app N0 Nq34
      refine own_st (fun _ k => st34.trans k) ?_
      show own_Go p.tables e below RR (T34.setTop (mkF m 131 #[.val (.int p1), .val (.int p2), .val (.int (5 : Int32)), .val (.ref a_IN), .val (.int (2 : Int32)), .val (.int (0 : Int32)), .val (.int (0 : Int32))] [(.int (0 : Int32))]))
      refine own_st (fun _ k => XS.iload X34.here hx rfl (hb hby at_131) rfl k) ?_
      show own_Go p.tables e below RR (T34.setTop (mkF m 133 #[.val (.int p1), .val (.int p2), .val (.int (5 : Int32)), .val (.ref a_IN), .val (.int (2 : Int32)), .val (.int (0 : Int32)), .val (.int (0 : Int32))] [(.int (0 : Int32)), (.int (0 : Int32))]))
      refine own_st (fun _ k => XS.icmpNo X34.here hx rfl (hb hby at_133) rfl (teq (by decide)).2 (XS.iconst X34.here hx rfl (hb hby at_136) (XS.goto X34.here hx rfl (pc0 := 137) (pc' := 141) rfl (hb hby at_137) (by decide) (by decide) k))) ?_
      show own_Go p.tables e below RR (T34.setTop (mkF m 141 #[.val (.int p1), .val (.int p2), .val (.int (5 : Int32)), .val (.ref a_IN), .val (.int (2 : Int32)), .val (.int (0 : Int32)), .val (.int (0 : Int32))] [(.int (1 : Int32))]))
      obtain ⟨fs, hrt_, hrun, hended, hW, hsame⟩ := X34.leave (v := some (.int (1 : Int32))) (fun h => by rw [Bd.returns] at h; cases h)
      refine own_fin (retN X34 hx (t := .boolean) Bd.returns (by simp) (hb hby at_141) hrt_) (hRR _ ⟨_, hrun, hended, _, _, rfl, ?_, ⟨_, rfl⟩, hW, hsame.mono (by decide) (by decide)⟩)
      show own_Q0 Z p1 p2 a_EQ a_GT a_GTE a_LT a_IN a_LTE h0 n0 _ T34.heap _
      rw [eq34]
      exact ⟨rfl, N34⟩
    · refine own_st (fun _ k => XS.ifYes X32.here hx rfl (pc0 := 91) (pc' := 98) rfl (hb hby at_91) rfl ((if0 _ _).trans (flt hc91_33).2.1) (by decide) (by decide) (XS.iloadN X32.here hx rfl (hb hby at_98) rfl k)) ?_
      show own_Go p.tables e below RR (T32.setTop (mkF m 99 #[.val (.int p1), .val (.int p2), .val (.int (5 : Int32)), .val (.ref a_IN), .val (.int (2 : Int32)), .unset, .unset] [(.int p2)]))
      by_cases hc99_35 : p2 = (0 : Int32)
      · refine own_st (fun _ k => XS.ifNo X32.here hx rfl (hb hby at_99) rfl ((if0 _ _).trans (teq hc99_35).2) (XS.iconst X32.here hx rfl (hb hby at_102) (XS.goto X32.here hx rfl (pc0 := 103) (pc' := 107) rfl (hb hby at_103) (by decide) (by decide) (XS.istore X32.here hx rfl (hb hby at_107) rfl (l' := #[.val (.int p1), .val (.int p2), .val (.int (5 : Int32)), .val (.ref a_IN), .val (.int (2 : Int32)), .val (.int (1 : Int32)), .unset]) rfl (XS.iload X32.here hx rfl (hb hby at_109) rfl (XS.iload X32.here hx rfl (hb hby at_111) rfl (XS.ishr X32.here hx rfl (hb hby at_113) rfl k))))))) ?_
        show own_Go p.tables e below RR (T32.setTop (mkF m 114 #[.val (.int p1), .val (.int p2), .val (.int (5 : Int32)), .val (.ref a_IN), .val (.int (2 : Int32)), .val (.int (1 : Int32)), .unset] [(.int ((2 : Int32) >>> ((1 : Int32) &&& 31)))]))
        rw [show ((2 : Int32) >>> ((1 : Int32) &&& 31)) = (1 : Int32) from by decide]
        show own_Go p.tables e below RR (T32.setTop (mkF m 114 #[.val (.int p1), .val (.int p2), .val (.int (5 : Int32)), .val (.ref a_IN), .val (.int (2 : Int32)), .val (.int (1 : Int32)), .unset] [(.int (1 : Int32))]))
        refine own_st (fun _ k => XS.iconst X32.here hx rfl (hb hby at_114) (XS.iand X32.here hx rfl (hb hby at_115) rfl k)) ?_
        show own_Go p.tables e below RR (T32.setTop (mkF m 116 #[.val (.int p1), .val (.int p2), .val (.int (5 : Int32)), .val (.ref a_IN), .val (.int (2 : Int32)), .val (.int (1 : Int32)), .unset] [(.int (1 : Int32))]))
        refine own_st (fun _ k => XS.ifNo X32.here hx rfl (hb hby at_116) rfl ((if0 _ _).trans (feq (by decide)).1) (XS.iconst X32.here hx rfl (hb hby at_119) (XS.goto X32.here hx rfl (pc0 := 120) (pc' := 124) rfl (hb hby at_120) (by decide) (by decide) (XS.istore X32.here hx rfl (hb hby at_124) rfl (l' := #[.val (.int p1), .val (.int p2), .val (.int (5 : Int32)), .val (.ref a_IN), .val (.int (2 : Int32)), .val (.int (1 : Int32)), .val (.int (1 : Int32))]) rfl (XS.aloadN X32.here hx rfl (hb hby at_126) rfl rfl (XS.iloadN X32.here hx rfl (hb hby at_127) rfl k)))))) ?_
        show own_Go p.tables e below RR (T32.setTop (mkF m 128 #[.val (.int p1), .val (.int p2), .val (.int (5 : Int32)), .val (.ref a_IN), .val (.int (2 : Int32)), .val (.int (1 : Int32)), .val (.int (1 : Int32))] [(.int p2), (.ref a_IN)]))
        obtain ⟨cq36, kq36, q36a, q36b, q36c⟩ := isOf hZ e32 E_IN
        obtain ⟨_, _, ⟨T36, L36, k36, n36⟩, -, X36, ⟨Lc36, hQ36, l36, y36, z36⟩, st36⟩ := X32.virtualBack hx (y := (⟨"com/example/seshat/seshat/query/Operator", "holds", "(I)Z"⟩ : MethodName)) (z := (⟨"com/example/seshat/seshat/query/Operator", "holds", "(I)Z"⟩ : MethodName)) hown (mvT hZ (hw _ (List.mem_of_getElem? (i := 4) rfl))) (mvT hZ (hw _ (List.mem_of_getElem? (i := 5) rfl))) (notFace_of_selects (args := #[]) (mvT hZ (hw _ (List.mem_of_getElem? (i := 7) rfl)))) (mvT hZ (hw _ (List.mem_of_getElem? (i := 7) rfl))) (mvT hZ (hw _ (List.mem_of_getElem? (i := 6) rfl))) (by decide) (backOf (W := 0) (own_rmH5 l Z a0 hw [] a_IN p2 (1 : Int32) h0 n0 Z0 E_IN F_IN_ordinal (if_pos hc99_35)) hZ (hw _ (List.mem_of_getElem? (i := 8) rfl)) (hw _ (List.mem_of_getElem? (i := 2) rfl)) (by decide) (by decide)) q36a q36c (g := (mkF m 128 #[.val (.int p1), .val (.int p2), .val (.int (5 : Int32)), .val (.ref a_IN), .val (.int (2 : Int32)), .val (.int (1 : Int32)), .val (.int (1 : Int32))] [(.int p2), (.ref a_IN)])) rfl (by rw [hml]; rfl) (Steps.refl _) (argsL := [(.int p2)]) (rest := []) (lenOf own_pd__I_Z rfl) rfl (by show 2 * 0 + _ ≤ _; exact Nat.le_of_eq rfl) (hb hby at_128) (fun _ _ => ⟨rfl, e32, (by decide : 0 + 0 ≤ _), (by decide : 0 + 0 ≤ _)⟩)
        dsimp only [Pt.U, Pt.locs, Pt.cells, Pt.slots] at X36 l36 y36 z36 st36 hQ36
        subst l36 y36 z36
        obtain ⟨rfl, Nq36, eq36⟩ := hQ36
        have N36 := Fr.app N0 Nq36
        refine own_st (fun _ k => st36.trans k) ?_
        show own_Go p.tables e below RR (T36.setTop (mkF m 131 #[.val (.int p1), .val (.int p2), .val (.int (5 : Int32)), .val (.ref a_IN), .val (.int (2 : Int32)), .val (.int (1 : Int32)), .val (.int (1 : Int32))] [(.int (1 : Int32))]))
        refine own_st (fun _ k => XS.iload X36.here hx rfl (hb hby at_131) rfl k) ?_
        show own_Go p.tables e below RR (T36.setTop (mkF m 133 #[.val (.int p1), .val (.int p2), .val (.int (5 : Int32)), .val (.ref a_IN), .val (.int (2 : Int32)), .val (.int (1 : Int32)), .val (.int (1 : Int32))] [(.int (1 : Int32)), (.int (1 : Int32))]))
        refine own_st (fun _ k => XS.icmpNo X36.here hx rfl (hb hby at_133) rfl (teq (by decide)).2 (XS.iconst X36.here hx rfl (hb hby at_136) (XS.goto X36.here hx rfl (pc0 := 137) (pc' := 141) rfl (hb hby at_137) (by decide) (by decide) k))) ?_
        show own_Go p.tables e below RR (T36.setTop (mkF m 141 #[.val (.int p1), .val (.int p2), .val (.int (5 : Int32)), .val (.ref a_IN), .val (.int (2 : Int32)), .val (.int (1 : Int32)), .val (.int (1 : Int32))] [(.int (1 : Int32))]))
        obtain ⟨fs, hrt_, hrun, hended, hW, hsame⟩ := X36.leave (v := some (.int (1 : Int32))) (fun h => by rw [Bd.returns] at h; cases h)
        refine own_fin (retN X36 hx (t := .boolean) Bd.returns (by simp) (hb hby at_141) hrt_) (hRR _ ⟨_, hrun, hended, _, _, rfl, ?_, ⟨_, rfl⟩, hW, hsame.mono (by decide) (by decide)⟩)
        show own_Q0 Z p1 p2 a_EQ a_GT a_GTE a_LT a_IN a_LTE h0 n0 _ T36.heap _
        rw [eq36]
        exact ⟨rfl, N36⟩
      · refine own_st (fun _ k => XS.ifYes X32.here hx rfl (pc0 := 99) (pc' := 106) rfl (hb hby at_99) rfl ((if0 _ _).trans (feq hc99_35).2) (by decide) (by decide) (XS.iconst X32.here hx rfl (hb hby at_106) (XS.istore X32.here hx rfl (hb hby at_107) rfl (l' := #[.val (.int p1), .val (.int p2), .val (.int (5 : Int32)), .val (.ref a_IN), .val (.int (2 : Int32)), .val (.int (2 : Int32)), .unset]) rfl (XS.iload X32.here hx rfl (hb hby at_109) rfl (XS.iload X32.here hx rfl (hb hby at_111) rfl (XS.ishr X32.here hx rfl (hb hby at_113) rfl k)))))) ?_
        show own_Go p.tables e below RR (T32.setTop (mkF m 114 #[.val (.int p1), .val (.int p2), .val (.int (5 : Int32)), .val (.ref a_IN), .val (.int (2 : Int32)), .val (.int (2 : Int32)), .unset] [(.int ((2 : Int32) >>> ((2 : Int32) &&& 31)))]))
        rw [show ((2 : Int32) >>> ((2 : Int32) &&& 31)) = (0 : Int32) from by decide]
        show own_Go p.tables e below RR (T32.setTop (mkF m 114 #[.val (.int p1), .val (.int p2), .val (.int (5 : Int32)), .val (.ref a_IN), .val (.int (2 : Int32)), .val (.int (2 : Int32)), .unset] [(.int (0 : Int32))]))
        refine own_st (fun _ k => XS.iconst X32.here hx rfl (hb hby at_114) (XS.iand X32.here hx rfl (hb hby at_115) rfl k)) ?_
        show own_Go p.tables e below RR (T32.setTop (mkF m 116 #[.val (.int p1), .val (.int p2), .val (.int (5 : Int32)), .val (.ref a_IN), .val (.int (2 : Int32)), .val (.int (2 : Int32)), .unset] [(.int (0 : Int32))]))
        refine own_st (fun _ k => XS.ifYes X32.here hx rfl (pc0 := 116) (pc' := 123) rfl (hb hby at_116) rfl ((if0 _ _).trans (teq (by decide)).1) (by decide) (by decide) (XS.iconst X32.here hx rfl (hb hby at_123) (XS.istore X32.here hx rfl (hb hby at_124) rfl (l' := #[.val (.int p1), .val (.int p2), .val (.int (5 : Int32)), .val (.ref a_IN), .val (.int (2 : Int32)), .val (.int (2 : Int32)), .val (.int (0 : Int32))]) rfl (XS.aloadN X32.here hx rfl (hb hby at_126) rfl rfl (XS.iloadN X32.here hx rfl (hb hby at_127) rfl k))))) ?_
        show own_Go p.tables e below RR (T32.setTop (mkF m 128 #[.val (.int p1), .val (.int p2), .val (.int (5 : Int32)), .val (.ref a_IN), .val (.int (2 : Int32)), .val (.int (2 : Int32)), .val (.int (0 : Int32))] [(.int p2), (.ref a_IN)]))
        obtain ⟨cq37, kq37, q37a, q37b, q37c⟩ := isOf hZ e32 E_IN
        obtain ⟨_, _, ⟨T37, L37, k37, n37⟩, -, X37, ⟨Lc37, hQ37, l37, y37, z37⟩, st37⟩ := X32.virtualBack hx (y := (⟨"com/example/seshat/seshat/query/Operator", "holds", "(I)Z"⟩ : MethodName)) (z := (⟨"com/example/seshat/seshat/query/Operator", "holds", "(I)Z"⟩ : MethodName)) hown (mvT hZ (hw _ (List.mem_of_getElem? (i := 4) rfl))) (mvT hZ (hw _ (List.mem_of_getElem? (i := 5) rfl))) (notFace_of_selects (args := #[]) (mvT hZ (hw _ (List.mem_of_getElem? (i := 7) rfl)))) (mvT hZ (hw _ (List.mem_of_getElem? (i := 7) rfl))) (mvT hZ (hw _ (List.mem_of_getElem? (i := 6) rfl))) (by decide) (backOf (W := 0) (own_rmH5 l Z a0 hw [] a_IN p2 (0 : Int32) h0 n0 Z0 E_IN F_IN_ordinal (if_neg hc99_35)) hZ (hw _ (List.mem_of_getElem? (i := 8) rfl)) (hw _ (List.mem_of_getElem? (i := 2) rfl)) (by decide) (by decide)) q37a q37c (g := (mkF m 128 #[.val (.int p1), .val (.int p2), .val (.int (5 : Int32)), .val (.ref a_IN), .val (.int (2 : Int32)), .val (.int (2 : Int32)), .val (.int (0 : Int32))] [(.int p2), (.ref a_IN)])) rfl (by rw [hml]; rfl) (Steps.refl _) (argsL := [(.int p2)]) (rest := []) (lenOf own_pd__I_Z rfl) rfl (by show 2 * 0 + _ ≤ _; exact Nat.le_of_eq rfl) (hb hby at_128) (fun _ _ => ⟨rfl, e32, (by decide : 0 + 0 ≤ _), (by decide : 0 + 0 ≤ _)⟩)
        dsimp only [Pt.U, Pt.locs, Pt.cells, Pt.slots] at X37 l37 y37 z37 st37 hQ37
        subst l37 y37 z37
        obtain ⟨rfl, Nq37, eq37⟩ := hQ37
        have N37 := Fr.app N0 Nq37
        refine own_st (fun _ k => st37.trans k) ?_
        show own_Go p.tables e below RR (T37.setTop (mkF m 131 #[.val (.int p1), .val (.int p2), .val (.int (5 : Int32)), .val (.ref a_IN), .val (.int (2 : Int32)), .val (.int (2 : Int32)), .val (.int (0 : Int32))] [(.int (0 : Int32))]))
        refine own_st (fun _ k => XS.iload X37.here hx rfl (hb hby at_131) rfl k) ?_
        show own_Go p.tables e below RR (T37.setTop (mkF m 133 #[.val (.int p1), .val (.int p2), .val (.int (5 : Int32)), .val (.ref a_IN), .val (.int (2 : Int32)), .val (.int (2 : Int32)), .val (.int (0 : Int32))] [(.int (0 : Int32)), (.int (0 : Int32))]))
        refine own_st (fun _ k => XS.icmpNo X37.here hx rfl (hb hby at_133) rfl (teq (by decide)).2 (XS.iconst X37.here hx rfl (hb hby at_136) (XS.goto X37.here hx rfl (pc0 := 137) (pc' := 141) rfl (hb hby at_137) (by decide) (by decide) k))) ?_
        show own_Go p.tables e below RR (T37.setTop (mkF m 141 #[.val (.int p1), .val (.int p2), .val (.int (5 : Int32)), .val (.ref a_IN), .val (.int (2 : Int32)), .val (.int (2 : Int32)), .val (.int (0 : Int32))] [(.int (1 : Int32))]))
        obtain ⟨fs, hrt_, hrun, hended, hW, hsame⟩ := X37.leave (v := some (.int (1 : Int32))) (fun h => by rw [Bd.returns] at h; cases h)
        refine own_fin (retN X37 hx (t := .boolean) Bd.returns (by simp) (hb hby at_141) hrt_) (hRR _ ⟨_, hrun, hended, _, _, rfl, ?_, ⟨_, rfl⟩, hW, hsame.mono (by decide) (by decide)⟩)
        show own_Q0 Z p1 p2 a_EQ a_GT a_GTE a_LT a_IN a_LTE h0 n0 _ T37.heap _
        rw [eq37]
        exact ⟨rfl, N37⟩
set_option maxRecDepth 65536 in
set_option maxHeartbeats 40000000 in
theorem own_comes {Post : Tables → Env → Array Value → State → Outcome → State → Prop} (hpost : ∀ tb e args s v u, (limb_1_1.after args s (.returned v) u = true ∧ limb_1_2.after args s (.returned v) u = true ∧ True) → FrameEnd s (.returned v) u (Jvm.fieldLocs frame_1_writes args s ++ Jvm.arrayLocs frame_1_arrays args s ++ Jvm.staticLocs frame_1_statics s) 0 0 → Post tb e args s (.returned v) u) :
    ArmFor flags0 classFile x code maxLocals ret World_1 tables_1 room_1 Calls_1 rest_1 Pre_1 Post := by
  intro l hfl _ _ p e ha hc hk s m args below hf hA hF happ hP
  obtain ⟨hcalls, hrest, hpre⟩ := hP
  obtain ⟨-, -, -, hnamed, -, -, -, hat⟩ := (Spec.applies_iff hf).mp happ
  obtain ⟨hg, hn⟩ := and_e (Cond.before_iff.mp (show (Jvm.Cond.and given_1 narrow_1).before args s = true from hpre))
  obtain ⟨u1a, u1b⟩ := and_e hg
  obtain ⟨u2a, u2b⟩ := and_e u1b
  obtain ⟨w0, w1, rfl⟩ : ∃ w0 w1 : Value, args = #[w0, w1] := by
    have hs : args.size = 2 := by simpa [Cond.value, given_1] using u1a
    obtain ⟨L⟩ := args
    match L, hs with
    | [w0, w1], _ => exact ⟨w0, w1, rfl⟩
  have hw := fun d (hd : d ∈ tables_1) => atoms_spec (ws := Jvm.Cond.code x code maxLocals ret :: tables_1) hat d (List.mem_cons_of_mem _ hd)
  have hfit : Fit s := fun {y c} hc i hi => by
    obtain ⟨ha, rfl⟩ := Array.getElem?_eq_some_iff.mp hc
    have q := List.all_eq_true.mp ((Array.all_eq_true_iff_forall_mem.mp hF) _ (Array.getElem_mem ha)) i (List.mem_range.mpr hi)
    simpa [Array.getElem?_eq_getElem hi] using q
  obtain ⟨i0, ei0⟩ := is_v u2a
  obtain rfl : w0 = (.int i0) := Option.some.inj ei0
  obtain ⟨i1, ei1⟩ := is_v u2b
  obtain rfl : w1 = (.int i1) := Option.some.inj ei1
  obtain ⟨u101a, u101b⟩ := and_e hn
  obtain ⟨u102a, u102b⟩ := and_e u101b
  obtain ⟨u103a, u103b⟩ := and_e u102b
  obtain ⟨u104a, u104b⟩ := and_e u103b
  obtain ⟨u105a, u105b⟩ := and_e u104b
  obtain ⟨u106a, u106b⟩ := and_e u105b
  obtain ⟨u107a, u107b⟩ := and_e u106b
  obtain ⟨u108a, u108b⟩ := and_e u107b
  obtain ⟨u109a, u109b⟩ := and_e u108b
  obtain ⟨u110a, u110b⟩ := and_e u109b
  obtain ⟨u111a, u111b⟩ := and_e u110b
  obtain ⟨a_EQ, v_EQ⟩ := exa_v u101a
  have E_EQ := Exa.start v_EQ u101a
  have S_EQ := Sta.start v_EQ (Or.inr ⟨(hw _ (List.mem_of_getElem? (i := 2) rfl)), (hw _ (List.mem_of_getElem? (i := 3) rfl))⟩)
  have F_EQ_ordinal := Fld.start ((fld_at v_EQ).symm.trans (own_eq_int u102a))
  obtain ⟨a_GT, v_GT⟩ := exa_v u103a
  have E_GT := Exa.start v_GT u103a
  have S_GT := Sta.start v_GT (Or.inr ⟨(hw _ (List.mem_of_getElem? (i := 2) rfl)), (hw _ (List.mem_of_getElem? (i := 19) rfl))⟩)
  have F_GT_ordinal := Fld.start ((fld_at v_GT).symm.trans (own_eq_int u104a))
  obtain ⟨a_GTE, v_GTE⟩ := exa_v u105a
  have E_GTE := Exa.start v_GTE u105a
  have S_GTE := Sta.start v_GTE (Or.inr ⟨(hw _ (List.mem_of_getElem? (i := 2) rfl)), (hw _ (List.mem_of_getElem? (i := 21) rfl))⟩)
  have F_GTE_ordinal := Fld.start ((fld_at v_GTE).symm.trans (own_eq_int u106a))
  obtain ⟨a_LT, v_LT⟩ := exa_v u107a
  have E_LT := Exa.start v_LT u107a
  have S_LT := Sta.start v_LT (Or.inr ⟨(hw _ (List.mem_of_getElem? (i := 2) rfl)), (hw _ (List.mem_of_getElem? (i := 23) rfl))⟩)
  have F_LT_ordinal := Fld.start ((fld_at v_LT).symm.trans (own_eq_int u108a))
  obtain ⟨a_IN, v_IN⟩ := exa_v u109a
  have E_IN := Exa.start v_IN u109a
  have S_IN := Sta.start v_IN (Or.inr ⟨(hw _ (List.mem_of_getElem? (i := 2) rfl)), (hw _ (List.mem_of_getElem? (i := 25) rfl))⟩)
  have F_IN_ordinal := Fld.start ((fld_at v_IN).symm.trans (own_eq_int u110a))
  obtain ⟨a_LTE, v_LTE⟩ := exa_v u111a
  have E_LTE := Exa.start v_LTE u111a
  have S_LTE := Sta.start v_LTE (Or.inr ⟨(hw _ (List.mem_of_getElem? (i := 2) rfl)), (hw _ (List.mem_of_getElem? (i := 27) rfl))⟩)
  have F_LTE_ordinal := Fld.start ((fld_at v_LTE).symm.trans (own_eq_int u111b))
  obtain ⟨n, o, h1, h2, h3, _, L, rfl, ⟨rfl, N⟩, hq⟩ := own_rm0 l s _ hw tables_1 i0 i1 a_EQ a_GT a_GTE a_LT a_IN a_LTE s.heap s.heap.size (Nat.le_refl _) E_EQ S_EQ F_EQ_ordinal E_GT S_GT F_GT_ordinal E_GTE S_GTE F_GTE_ordinal E_LT S_LT F_LT_ordinal E_IN S_IN F_IN_ordinal E_LTE S_LTE F_LTE_ordinal p e ha hc hk s m _ below hf ((Spec.applies_iff_loose hf).mp happ).1 ⟨rfl, State.Warmed39.refl s, rfl⟩ trivial
  refine ⟨n, _, h1, h2, h3, hpost _ _ _ _ _ _ ⟨Cond.after_iff.mpr rfl, Cond.after_iff.mpr (eq_i res_at (Term.int_eval (1)) rfl), trivial⟩ ⟨hq.1, hq.2.1, (hq.2.2.sift fun y hy => Or.inr (N y hy)).mono (by decide) (by decide)⟩⟩
theorem main_1_1 : Claimed_1_1 := own_comes fun _ _ _ _ _ _ h hF => ⟨h.1, hF⟩
theorem main_1_2 : Claimed_1_2 := own_comes fun _ _ _ _ _ _ h hF => ⟨h.2.1, hF⟩
end Jvm.Pilot.@@N@@
namespace Jvm.Pilot.@@N@@
open Jvm Jvm.ClassFile Sem Op Lib Jvm.Free Jvm.Stand Jvm.Pilot.@@N@@.Jvm.D
/-! MADE BY PROGRAM (witnessworld.py) out of the Statement's table words and the real class files: 10 classes; the members and pool entries that the words name. The judged class is class 1, her method 1. -/
namespace start1
open Jvm.ClassFile
def u (s : String) : CpInfo := .utf8 (stringToUtf16 s)
/-- a pool by its gaps: so many unusable entries, then the entry; so many at the end -/
def gap : Nat → List CpInfo → List CpInfo
  | 0, r => r
  | n + 1, r => .unusable :: gap n r
def poolList (es : List (Nat × CpInfo)) (last : Nat) : List CpInfo := es.foldr (fun e r => gap e.1 (e.2 :: r)) (gap last [])
def pool (es : List (Nat × CpInfo)) (last : Nat) : Array CpInfo := ⟨poolList es last⟩
def fileOf (pool : Array CpInfo) (this : Nat) (attrs : Array Attribute := #[]) (ms : Array MethodInfo := #[]) (fl : Nat := 33) (sup : Nat := 0) (ifs : Array Nat := #[]) (fds : Array FieldInfo := #[]) : ClassFile where
  minorVersion := 0
  majorVersion := 65
  constantPool := pool
  accessFlags := fl
  thisClass := this
  superClass := sup
  interfaces := ifs
  fields := fds
  methods := ms
  attributes := attrs
def plain (name : String) (sup : Option ClassId) : Class where
  name := name
  kind := .ordinary
  loader := none
  accessFlags := 33
  super := sup
  interfaces := #[]
  cf := none
  fields := #[]
  methods := #[]
  instanceTypes := #[]
  staticTypes := #[]
  resolved := #[]
  callSites := []
  init := .initialized
  statics := none
  mirror := none

def pool0 : Array CpInfo := pool [(5, u "<init>"), (0, u "()V"), (1, .class_ 10), (1, u "java/lang/Object")] 113

def k0m0 : Method := { name := "<init>", desc := "()V", sig := { parameters := [], returnType := none }, accessFlags := 1, code := none }
/-- java/lang/Object -/
def k0 : Class := { plain "java/lang/Object" none with
  accessFlags := 33
  interfaces := #[]
  cf := some (fileOf pool0 8 #[] #[{ accessFlags := 1, nameIndex := 5, descriptorIndex := 6, attributes := #[] }] 33 0 #[] #[])
  fields := #[]
  methods := #[k0m0]
  instanceTypes := #[]
  staticTypes := #[]
  resolved := Array.replicate 124 none
  statics := none }

def pool1 : Array CpInfo := pool [(2, .class_ 4), (1, u "java/lang/Object"), (0, u "<init>"), (0, u "()V"), (0, .integer 2147483647), (0, .fieldref 9 10), (0, .class_ 11), (0, .nameAndType 12 13), (0, u "com/example/seshat/seshat/query/Operator"), (0, u "EQ"), (0, u "Lcom/example/seshat/seshat/query/Operator;"), (0, .fieldref 9 15), (0, .nameAndType 16 13), (0, u "LT"), (0, .fieldref 9 18), (0, .nameAndType 19 13), (0, u "GT"), (0, .fieldref 9 21), (0, .nameAndType 22 13), (0, u "LTE"), (0, .fieldref 9 24), (0, .nameAndType 25 13), (0, u "GTE"), (0, .fieldref 9 27), (0, .nameAndType 28 13), (0, u "IN"), (0, .methodref 9 30), (0, .nameAndType 31 32), (0, u "holds"), (0, u "(I)Z"), (0, .class_ 34), (0, u "com/example/seshat/seshat/query/OperatorHoldsPinLaw"), (2, u "law"), (0, u "(II)Z")] 3

def k1m0 : Method := { name := "<init>", desc := "()V", sig := { parameters := [], returnType := none }, accessFlags := 1, code := none }
def k1c1 : Code := { maxStack := 2, maxLocals := 7, code := code, exceptionTable := #[], attributes := #[] }
def k1m1 : Method := { name := "law", desc := "(II)Z", sig := { parameters := [.int, .int], returnType := some .boolean }, accessFlags := 9, code := some k1c1 }
/-- com/example/seshat/seshat/query/OperatorHoldsPinLaw -/
def k1 : Class := { plain "com/example/seshat/seshat/query/OperatorHoldsPinLaw" (some 0) with
  accessFlags := 49
  interfaces := #[]
  cf := some (fileOf pool1 33 #[] #[{ accessFlags := 1, nameIndex := 5, descriptorIndex := 6, attributes := #[] }, { accessFlags := 9, nameIndex := 37, descriptorIndex := 38, attributes := #[] }] 49 2 #[] #[])
  fields := #[]
  methods := #[k1m0, k1m1]
  instanceTypes := #[]
  staticTypes := #[]
  resolved := Array.replicate 42 none
  statics := none }

def pool2 : Array CpInfo := pool [(1, .class_ 2), (0, u "java/lang/constant/Constable"), (0, .class_ 4), (0, u "java/lang/Object")] 6

/-- java/lang/constant/Constable -/
def k2 : Class := { plain "java/lang/constant/Constable" (some 0) with
  accessFlags := 1537
  interfaces := #[]
  cf := some (fileOf pool2 1 #[] #[] 1537 3 #[] #[])
  fields := #[]
  methods := #[]
  instanceTypes := #[]
  staticTypes := #[]
  resolved := Array.replicate 11 none
  statics := none }

def pool3 : Array CpInfo := pool [(1, .class_ 2), (0, u "java/lang/Comparable"), (0, .class_ 4), (0, u "java/lang/Object")] 7

/-- java/lang/Comparable -/
def k3 : Class := { plain "java/lang/Comparable" (some 0) with
  accessFlags := 1537
  interfaces := #[]
  cf := some (fileOf pool3 1 #[] #[] 1537 3 #[] #[])
  fields := #[]
  methods := #[]
  instanceTypes := #[]
  staticTypes := #[]
  resolved := Array.replicate 12 none
  statics := none }

def pool4 : Array CpInfo := pool [(1, .class_ 2), (0, u "java/io/Serializable"), (0, .class_ 4), (0, u "java/lang/Object")] 2

/-- java/io/Serializable -/
def k4 : Class := { plain "java/io/Serializable" (some 0) with
  accessFlags := 1537
  interfaces := #[]
  cf := some (fileOf pool4 1 #[] #[] 1537 3 #[] #[])
  fields := #[]
  methods := #[]
  instanceTypes := #[]
  staticTypes := #[]
  resolved := Array.replicate 7 none
  statics := none }

def pool5 : Array CpInfo := pool [(2, .class_ 4), (1, u "java/lang/Enum"), (0, u "name"), (0, u "Ljava/lang/String;"), (0, .fieldref 2 8), (0, .nameAndType 9 10), (0, u "ordinal"), (0, u "I"), (1, .class_ 14), (1, u "java/lang/Object"), (4, u "hash"), (86, .class_ 108), (1, u "java/lang/Enum$EnumDesc"), (2, .class_ 112), (0, u "java/lang/constant/Constable"), (0, .class_ 114), (0, u "java/lang/Comparable"), (0, .class_ 116), (0, u "java/io/Serializable"), (9, u "()I")] 77

def k5c0 : Code := { maxStack := 1, maxLocals := 1, code := jdk_37_method_2_code, exceptionTable := #[], attributes := #[] }
def k5m0 : Method := { name := "ordinal", desc := "()I", sig := { parameters := [], returnType := some .int }, accessFlags := 17, code := some k5c0 }
/-- java/lang/Enum -/
def k5 : Class := { plain "java/lang/Enum" (some 0) with
  accessFlags := 1057
  interfaces := #[2, 3, 4]
  cf := some (fileOf pool5 2 #[.nestMembers #[106]] #[{ accessFlags := 17, nameIndex := 9, descriptorIndex := 126, attributes := #[] }] 1057 12 #[111, 113, 115] #[{ accessFlags := 18, nameIndex := 5, descriptorIndex := 6, attributes := #[] }, { accessFlags := 18, nameIndex := 9, descriptorIndex := 10, attributes := #[] }, { accessFlags := 2, nameIndex := 19, descriptorIndex := 10, attributes := #[] }])
  fields := #[{ name := "name", type := (.object "java/lang/String"), accessFlags := 18, slot := 0, constantValue := 0 }, { name := "ordinal", type := .int, accessFlags := 18, slot := 1, constantValue := 0 }, { name := "hash", type := .int, accessFlags := 2, slot := 2, constantValue := 0 }]
  methods := #[k5m0]
  instanceTypes := #[(.object "java/lang/String"), .int, .int]
  staticTypes := #[]
  resolved := Array.replicate 204 none
  statics := none }

def pool6 : Array CpInfo := pool [(1, .class_ 2), (0, u "com/example/seshat/seshat/query/Operator"), (2, u "EQ"), (0, u "Lcom/example/seshat/seshat/query/Operator;"), (2, u "LT"), (2, u "GT"), (2, u "LTE"), (2, u "GTE"), (2, u "IN"), (2, u "$VALUES"), (0, u "[Lcom/example/seshat/seshat/query/Operator;"), (6, .class_ 34), (1, u "java/lang/Enum"), (46, u "()I"), (19, .methodref 1 102), (0, .nameAndType 103 81), (0, u "ordinal"), (24, u "holds"), (0, u "(I)Z")] 19

def k6c0 : Code := { maxStack := 4, maxLocals := 2, code := prog_16_method_7_code, exceptionTable := #[], attributes := #[] }
def k6m0 : Method := { name := "holds", desc := "(I)Z", sig := { parameters := [.int], returnType := some .boolean }, accessFlags := 0, code := some k6c0 }
/-- com/example/seshat/seshat/query/Operator -/
def k6 : Class := { plain "com/example/seshat/seshat/query/Operator" (some 5) with
  accessFlags := 16432
  interfaces := #[]
  cf := some (fileOf pool6 1 #[] #[{ accessFlags := 0, nameIndex := 128, descriptorIndex := 129, attributes := #[] }] 16432 32 #[] #[{ accessFlags := 16409, nameIndex := 5, descriptorIndex := 6, attributes := #[] }, { accessFlags := 16409, nameIndex := 9, descriptorIndex := 6, attributes := #[] }, { accessFlags := 16409, nameIndex := 12, descriptorIndex := 6, attributes := #[] }, { accessFlags := 16409, nameIndex := 15, descriptorIndex := 6, attributes := #[] }, { accessFlags := 16409, nameIndex := 18, descriptorIndex := 6, attributes := #[] }, { accessFlags := 16409, nameIndex := 21, descriptorIndex := 6, attributes := #[] }, { accessFlags := 4122, nameIndex := 24, descriptorIndex := 25, attributes := #[] }])
  fields := #[{ name := "EQ", type := (.object "com/example/seshat/seshat/query/Operator"), accessFlags := 16409, slot := 0, constantValue := 0 }, { name := "LT", type := (.object "com/example/seshat/seshat/query/Operator"), accessFlags := 16409, slot := 1, constantValue := 0 }, { name := "GT", type := (.object "com/example/seshat/seshat/query/Operator"), accessFlags := 16409, slot := 2, constantValue := 0 }, { name := "LTE", type := (.object "com/example/seshat/seshat/query/Operator"), accessFlags := 16409, slot := 3, constantValue := 0 }, { name := "GTE", type := (.object "com/example/seshat/seshat/query/Operator"), accessFlags := 16409, slot := 4, constantValue := 0 }, { name := "IN", type := (.object "com/example/seshat/seshat/query/Operator"), accessFlags := 16409, slot := 5, constantValue := 0 }, { name := "$VALUES", type := (.array (.object "com/example/seshat/seshat/query/Operator")), accessFlags := 4122, slot := 6, constantValue := 0 }]
  methods := #[k6m0]
  instanceTypes := #[(.object "java/lang/String"), .int, .int]
  staticTypes := #[(.object "com/example/seshat/seshat/query/Operator"), (.object "com/example/seshat/seshat/query/Operator"), (.object "com/example/seshat/seshat/query/Operator"), (.object "com/example/seshat/seshat/query/Operator"), (.object "com/example/seshat/seshat/query/Operator"), (.object "com/example/seshat/seshat/query/Operator"), (.array (.object "com/example/seshat/seshat/query/Operator"))]
  resolved := Array.replicate 149 none
  statics := some 0 }

def pool7 : Array CpInfo := pool [(1, u "java/lang/Cloneable"), (0, .class_ 1), (0, u "java/lang/Object"), (0, .class_ 3)] 3

/-- java/lang/Cloneable -/
def k7 : Class := { plain "java/lang/Cloneable" (some 0) with
  accessFlags := 1537
  interfaces := #[]
  cf := some (fileOf pool7 2 #[] #[] 1537 4 #[] #[])
  fields := #[]
  methods := #[]
  instanceTypes := #[]
  staticTypes := #[]
  resolved := Array.replicate 8 none
  statics := none }

/-- the primitive byte -/
def k8 : Class := { plain "byte" none with kind := .primitive 'B', accessFlags := 0x411 }
/-- [B -/
def k9 : Class := { plain "[B" (some 0) with kind := .array 8 .byte, interfaces := #[7, 4], accessFlags := 1041 }

def heap : Heap := #[{ cls := 6, slots := #[.ref 1, .ref 4, .ref 2, .ref 6, .ref 3, .ref 5, .null], vm := .statics 6 },
  { cls := 6, slots := #[.null, .int 0, .int 0], vm := .none },
  { cls := 6, slots := #[.null, .int 2, .int 0], vm := .none },
  { cls := 6, slots := #[.null, .int 4, .int 0], vm := .none },
  { cls := 6, slots := #[.null, .int 1, .int 0], vm := .none },
  { cls := 6, slots := #[.null, .int 5, .int 0], vm := .none },
  { cls := 6, slots := #[.null, .int 3, .int 0], vm := .none }]
def classes : Array Class := #[k0, k1, k2, k3, k4, k5, k6, k7, k8, k9]
def interned : List (Array UInt16 × Addr) := []
def slotsUsed : Nat := 25
def theMethod : MethodId := ⟨1, 1⟩
def args0 : Array Value := #[.int 5, .int 3]
def aboutOver (below : List Frame) : State where
  vm := { classes := classes, interned := interned.toArray }
  heap := heap
  slotsUsed := slotsUsed
  threads := #[{ frames := .invoking theMethod args0 :: below }]
def below0 : List Frame := [.native { method := ⟨0, 0⟩, args := #[] }]
def about1 : State := aboutOver below0
def p0 : Program := .bare "" "" ""
def e0 : Env := launch0.env 0 0 0
theorem w_frames : about1.frames = Frame.invoking theMethod args0 :: below0 := rfl
set_option maxRecDepth 65536 in
theorem w_args : argsFit about1.vm theMethod args0 = true := by decide +kernel
set_option maxRecDepth 65536 in
theorem w_heap : heapFits about1 = true := by decide +kernel
set_option maxRecDepth 65536 in
theorem w_runnable : about1.curStatus? = some .runnable := by decide +kernel
set_option maxRecDepth 65536 in
theorem w_alone : about1.alone = true := by decide +kernel
set_option maxRecDepth 65536 in
theorem w_named : about1.methodNamed? x = some theMethod := by decide +kernel
set_option maxRecDepth 65536 in
theorem w_hears : about1.hears theMethod below0 = true := by decide +kernel
set_option maxRecDepth 65536 in
theorem w_ripe : about1.ripe theMethod args0 below0 = true := by decide +kernel
theorem w_running : about1.status = .running := rfl
set_option maxRecDepth 65536 in
theorem w_room : about1.hasRoom e0.platform room_1 = true :=
  launch0.hasRoom_least _ room_1 (by decide +kernel) (by decide +kernel) (by decide +kernel) (by decide +kernel) (by decide +kernel) (by decide +kernel)
theorem allAtoms_all (ts : List Jvm.Cond) (a : Array Jvm.Value) (st : Jvm.State) : (allAtoms ts).before a st = ts.all (fun c => c.before a st) := by
  induction ts with
  | nil => rfl
  | cons c t ih =>
    show (Jvm.Cond.and c (allAtoms t)).before a st = _
    rw [Jvm.Cond.before_and, ih, List.all_cons]
def words1 : List Jvm.Cond := Jvm.Cond.code x code maxLocals ret :: tables_1
/-- a 'code' word, met by the world's own term for the bytes: nothing is compared byte by byte -/
theorem code_word {y : MethodName} {bytes : ByteArray} {mx : Nat} {rt : Option FieldType} {a : Array Value} {s : State} {m : MethodId} {meth : Method} {c : Code} (h1 : s.methodNamed? y = some m) (h2 : s.vm.method? m = some meth) (h3 : meth.code = some c) (h4 : c.code = bytes)
    (h5 : (c.maxLocals == mx && c.exceptionTable.isEmpty && decide (c.maxStack ≤ mostOperands) && decide (meth.sig.returnType = rt) && !meth.locks && decide (parseMethodDescriptor y.desc = some meth.sig)) = true) : (Jvm.Cond.code y bytes mx rt).before a s = true := by
  simp only [Bool.and_eq_true, beq_iff_eq, Bool.not_eq_true', decide_eq_true_eq] at h5
  obtain ⟨⟨⟨⟨⟨g1, g2⟩, g3⟩, g4⟩, g5⟩, g6⟩ := h5
  simp [Cond.before, Cond.holds, Cond.value, h1, h2, h3, h4, g1, g2, g3, g4, g5, g6]
def isCode : Jvm.Cond → Bool
  | .code _ _ _ _ => true
  | _ => false
theorem all_split {L : List Jvm.Cond} {P : Jvm.Cond → Bool} (h1 : L.all (fun c => isCode c || P c) = true) (h2 : ∀ c ∈ L.filter isCode, P c = true) : L.all P = true := by
  refine List.all_eq_true.mpr fun c hc => ?_
  have h := List.all_eq_true.mp h1 c hc
  rcases Bool.eq_false_or_eq_true (isCode c) with hi | hi
  · exact h2 c (List.mem_filter.mpr ⟨hc, hi⟩)
  · simpa [hi] using h
set_option maxRecDepth 65536 in
theorem w_c0 : (Jvm.Cond.code x code maxLocals ret).before args0 about1 = true := code_word (m := ⟨1, 1⟩) (meth := k1m1) (c := k1c1) (by decide +kernel) rfl rfl rfl (by decide +kernel)
set_option maxRecDepth 65536 in
theorem w_c1 : (Jvm.Cond.code ({ cls := "com/example/seshat/seshat/query/Operator", name := "holds", desc := "(I)Z" } : Jvm.MethodName) prog_16_method_7_code (2 : Nat) (Option.some Jvm.ClassFile.FieldType.boolean)).before args0 about1 = true := code_word (m := ⟨6, 0⟩) (meth := k6m0) (c := k6c0) (by decide +kernel) rfl rfl rfl (by decide +kernel)
set_option maxRecDepth 65536 in
theorem w_c2 : (Jvm.Cond.code ({ cls := "java/lang/Enum", name := "ordinal", desc := "()I" } : Jvm.MethodName) jdk_37_method_2_code (1 : Nat) (Option.some Jvm.ClassFile.FieldType.int)).before args0 about1 = true := code_word (m := ⟨5, 0⟩) (meth := k5m0) (c := k5c0) (by decide +kernel) rfl rfl rfl (by decide +kernel)
def codes1 : List Jvm.Cond := [Jvm.Cond.code x code maxLocals ret, Jvm.Cond.code ({ cls := "com/example/seshat/seshat/query/Operator", name := "holds", desc := "(I)Z" } : Jvm.MethodName) prog_16_method_7_code (2 : Nat) (Option.some Jvm.ClassFile.FieldType.boolean), Jvm.Cond.code ({ cls := "java/lang/Enum", name := "ordinal", desc := "()I" } : Jvm.MethodName) jdk_37_method_2_code (1 : Nat) (Option.some Jvm.ClassFile.FieldType.int)]
set_option maxRecDepth 65536 in
theorem codes_eq : words1.filter isCode = codes1 := rfl
theorem w_codes : ∀ c ∈ words1.filter isCode, c.before args0 about1 = true := by
  rw [codes_eq]
  intro c hc
  simp only [codes1, List.mem_cons, List.not_mem_nil, or_false] at hc
  rcases hc with rfl | rfl | rfl
  · exact w_c0
  · exact w_c1
  · exact w_c2
set_option maxRecDepth 65536 in
theorem w_t1 : (words1.take 24).all (fun c => isCode c || c.before args0 about1) = true := by decide +kernel
set_option maxRecDepth 65536 in
theorem w_t2 : (words1.drop 24).all (fun c => isCode c || c.before args0 about1) = true := by decide +kernel
theorem w_tables : (allAtoms (Jvm.Cond.code x code maxLocals ret :: tables_1)).before args0 about1 = true := by
  rw [allAtoms_all]
  show words1.all (fun c => c.before args0 about1) = true
  refine all_split ?_ w_codes
  rw [← List.take_append_drop 24 words1, List.all_append, w_t1, w_t2]
  rfl
set_option maxRecDepth 65536 in
theorem w_case : (Jvm.Cond.and given_1 narrow_1).before args0 about1 = true := by decide +kernel
theorem w_applies : (headSpec (Jvm.Cond.code x code maxLocals ret :: tables_1) room_1).applies x e0.platform about1 = true :=
  (Spec.applies_iff w_frames).mpr ⟨w_running, w_runnable, w_alone, w_named, w_hears, w_ripe, w_room, w_tables⟩
theorem atStart : AtStart classFile x code maxLocals ret World_1 tables_1 room_1 Calls_1 rest_1 Pre_1 launch0 p0 e0 about1 theMethod args0 below0 :=
  ⟨lists_1, trivial, launch0.admits_env _ _ _, launch0.least_env, fairChoices_fair.cas, fairChoices_fair.clock, w_frames, w_args, w_heap, w_applies, trivial, trivial, w_case⟩
end start1
theorem witness_1 : WitnessClaimed_1 := ⟨start1.p0, start1.e0, start1.about1, start1.theMethod, start1.args0, start1.below0, start1.atStart⟩
end Jvm.Pilot.@@N@@
