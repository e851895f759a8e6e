import JvmDerived
import JvmDerived.Pilot.@@N@@Statement
import JvmDerived.Pilot.@@N@@Code
set_option linter.unusedVariables false
set_option linter.unusedSimpArgs false
namespace Jvm.RoadKit
open Sem ClassFile Op Lib Jvm.Stand Jvm.Free Jvm.LawKit
section Own
/-- from u a state is reached where R holds -/
def own_Go (tb : Tables) (e : Env) (below : List Frame) (R : State → Prop) (u : State) : Prop := ∃ t, Steps tb e below u t ∧ R t
theorem own_st {tb : Tables} {e : Env} {below : List Frame} {R : State → Prop} {u v : State} (h : ∀ t, Steps tb e below v t → Steps tb e below u t) (g : own_Go tb e below R v) : own_Go tb e below R u := by
  obtain ⟨t, h1, h2⟩ := g
  exact ⟨t, h t h1, h2⟩
theorem own_fin {tb : Tables} {e : Env} {below : List Frame} {R : State → Prop} {u t : State} (h : Steps tb e below u t) (r : R t) : own_Go tb e below R u := ⟨t, h, r⟩
theorem own_in {tb : Tables} {e : Env} {below : List Frame} {u v : State} {P : State → Outcome → Prop} (h : ∀ t, Steps tb e below v t → Steps tb e below u t)
    (g : ∀ RR : State → Prop, (∀ t, (∃ o, t.status = .running ∧ P t o) → RR t) → own_Go tb e below RR v) : ∃ t o, Steps tb e below u t ∧ t.status = .running ∧ P t o := by
  obtain ⟨t, h1, o, h2, h3⟩ := g (fun t => ∃ o, t.status = .running ∧ P t o) fun _ q => q
  exact ⟨t, o, h t h1, h2, h3⟩
theorem own_ri {x y : Int32} (h : x = y) : some (Value.int x) = some (Value.int y) := h ▸ rfl
theorem own_rj {x y : Int64} (h : x = y) : some (Value.long x) = some (Value.long y) := h ▸ rfl
theorem own_rr {x y : Addr} (h : x = y) : some (Value.ref x) = some (Value.ref y) := h ▸ rfl
theorem own_eq_int {args : Array Value} {first s : State} {o : Option Outcome} {idx : List Nat} {a : Term} {k : Int32} (h : (Cond.eq a (.int k)).value args first o s idx = some true) : a.eval args first o idx s = some (.int k) := by
  simp only [Cond.value, Term.eval] at h
  cases ht : a.eval args first o idx s with
  | none => simp [ht] at h
  | some x => cases x <;> simp [ht] at h ⊢; exact h
theorem own_eq_long {args : Array Value} {first s : State} {o : Option Outcome} {idx : List Nat} {a : Term} {k : Int64} (h : (Cond.eq a (.long k)).value args first o s idx = some true) : a.eval args first o idx s = some (.long k) := by
  simp only [Cond.value, Term.eval] at h
  cases ht : a.eval args first o idx s with
  | none => simp [ht] at h
  | some x => cases x <;> simp [ht] at h ⊢; exact h
theorem own_selP {s : State} {args : Array Value} {y : MethodName} {n : Nat} (wi : (Cond.instantiable y.cls n).before args s = true) (hp : s.PrivateAt y) (hi : (Cond.instanceMethod y).before args s = true) (hy : y.cls ≠ "java/lang/invoke/MethodHandle" ∧ y.cls ≠ "java/lang/invoke/VarHandle") : (Cond.selects y.cls y y).before args s = true := by
  obtain ⟨c, k, h1, h2, -, h4, -⟩ := Cond.instantiable_spec wi
  exact selects_self_of_private h1 h2 (Bool.or_eq_false_iff.mp h4).1 hp hi hy
variable {p : Program} {l : Launch} {e : Env} {R : Room} {s : State} {m : MethodId} {args : Array Value} {below : List Frame} {meth : Method} {c : Code} {T : State} {locs : List Loc} {cells slots : Nat} {Z : State} {h : Heap}
theorem retI (X : Stand p l e R s m args below meth c T locs cells slots) (hx : p.tables.exec = Jvm.exec) {pc : Nat} {Ls : Array Slot} {z : Int32} {rest : List Value} (hret : meth.sig.returnType = some .int) (hd : decode c.code pc = .ok (.ireturn, 1)) {fs : List Frame}
    (hl : ∀ (f : JFrame) (acts : List Action), f.method = m → f.locked = none → f.entered = [] → (doReturn e (T.setTop f) acts (some (.int z))).1 = T.setFrames fs) : Steps p.tables e below (T.setTop (mkF m pc Ls (.int z :: rest))) (T.setFrames fs) :=
  retOut X hx hret rfl (Or.inl ⟨rfl, Or.inl rfl, z, rfl⟩) hd hl
theorem own_len (X : Stand p l e R s m args below meth c T locs cells slots) (hx : p.tables.exec = Jvm.exec) (hZ : Z.Warmed39 s.vm) (eT : T.heap = h) {a : Addr} {cl : Cell} {ty : FieldType} (A : Arr Z h a cl ty) {z : Int32} (S : cl.slots.size = z.toNatClampNeg) (N : ¬ z < 0)
    {g : JFrame} (hg : g.method = m) {rest : List Value} (hs : g.stack = .ref a :: rest) (hd : decode c.code g.pc = .ok (.arraylength, 1)) {target : State}
    (k : Steps p.tables e below (T.setTop { g with pc := g.pc + 1, stack := .int z :: rest }) target) : Steps p.tables e below (T.setTop g) target :=
  X.arraylength hx (by rw [eT]; exact A.1) (State.isArrayOf_alike hZ.alike A.2.1) hg hs hd target (by rw [len_of S N]; exact k)
end Own
end Jvm.RoadKit
namespace Jvm.Pilot.@@N@@
open Jvm Jvm.ClassFile Sem Op Lib Jvm.Free Jvm.Stand Jvm.LawKit Jvm.RoadKit Bundle Jvm.Pilot.@@N@@.Jvm.D
def own_pick (k a b c d : Int32) : Int32 := if k = 0 then a else if k = 1 then b else if k = 2 then c else d
theorem own_five {x v : Int32} (h : (x &&& (2147483647 : Int32)) % (5 : Int32) = v) : v = 0 ∨ v = 1 ∨ v = 2 ∨ v = 3 ∨ v = 4 := by
  have h1 := c_mask x 2147483647 31 (by decide) (by decide)
  have h2 := c_irem (x &&& 2147483647) 5 5 (by decide)
  rw [h] at h2
  have e : v.toInt = 0 ∨ v.toInt = 1 ∨ v.toInt = 2 ∨ v.toInt = 3 ∨ v.toInt = 4 := by omega
  simpa [← Int32.toInt_inj] using e
theorem own_pn_com_example_candex_candex_index_TermTrieReversedPinLaw : plainName "com/example/candex/candex/index/TermTrieReversedPinLaw" = true := by first | (simp [plainName, overriddenIn]; done) | decide +kernel
theorem own_dmethod_2_code_0 : decode method_2_code 0 = .ok (.iload_n 0, 1) := by decide +kernel
theorem own_dmethod_2_code_1 : decode method_2_code 1 = .ok (.ifCond .ne 5, 3) := by decide +kernel
theorem own_dmethod_2_code_4 : decode method_2_code 4 = .ok (.iload_n 1, 1) := by decide +kernel
theorem own_dmethod_2_code_5 : decode method_2_code 5 = .ok (.ireturn, 1) := by decide +kernel
theorem own_dmethod_2_code_6 : decode method_2_code 6 = .ok (.iload_n 0, 1) := by decide +kernel
theorem own_dmethod_2_code_7 : decode method_2_code 7 = .ok (.iconst 1, 1) := by decide +kernel
theorem own_dmethod_2_code_8 : decode method_2_code 8 = .ok (.if_icmp .ne 5, 3) := by decide +kernel
theorem own_dmethod_2_code_11 : decode method_2_code 11 = .ok (.iload_n 2, 1) := by decide +kernel
theorem own_dmethod_2_code_12 : decode method_2_code 12 = .ok (.ireturn, 1) := by decide +kernel
theorem own_dmethod_2_code_13 : decode method_2_code 13 = .ok (.iload_n 0, 1) := by decide +kernel
theorem own_dmethod_2_code_14 : decode method_2_code 14 = .ok (.iconst 2, 1) := by decide +kernel
theorem own_dmethod_2_code_15 : decode method_2_code 15 = .ok (.if_icmp .ne 5, 3) := by decide +kernel
theorem own_dmethod_2_code_18 : decode method_2_code 18 = .ok (.iload_n 3, 1) := by decide +kernel
theorem own_dmethod_2_code_19 : decode method_2_code 19 = .ok (.ireturn, 1) := by decide +kernel
theorem own_dmethod_2_code_20 : decode method_2_code 20 = .ok (.iload 4, 2) := by decide +kernel
theorem own_dmethod_2_code_22 : decode method_2_code 22 = .ok (.ireturn, 1) := by decide +kernel
theorem own_efP (m : MethodId) (p1 : Int32) (p2 : Int32) (p3 : Int32) (p4 : Int32) (p5 : Int32) : entryFrame m #[(.int p1), (.int p2), (.int p3), (.int p4), (.int p5)] 5 = mkF m 0 #[.val (.int p1), .val (.int p2), .val (.int p3), .val (.int p4), .val (.int p5)] [] := by first | (simp [entryFrame, mkF, argsToLocals, Value.category]; done) | rfl
def own_QP (Z : State) (p1 : Int32) (p2 : Int32) (p3 : Int32) (p4 : Int32) (p5 : Int32) (r : Int32) (h0 : Heap) (n0 : Nat) (v_ : Option Value) (h : Heap) (L_ : List Loc) : Prop := v_ = some (.int r) ∧ Fr n0 L_ ∧ h = h0
abbrev own_RP : Room := { frames := 0, cells := 0, slots := 0, locals := 0 }
set_option maxRecDepth 65536 in
set_option maxHeartbeats 40000000 in
theorem own_rmP (l : Launch) (Z : State) (a0 : Array Value) (hw : ∀ d ∈ tables_1, d.before a0 Z = true) (ws : List Jvm.Cond) (p1 : Int32) (p2 : Int32) (p3 : Int32) (p4 : Int32) (p5 : Int32) (r : Int32) (h0 : Heap) (n0 : Nat) (Z0 : n0 ≤ h0.size) (hv : own_pick p1 p2 p3 p4 p5 = r) :
    MetFree l (⟨"com/example/candex/candex/index/TermTrieReversedPinLaw", "pick", "(IIIII)I"⟩ : MethodName) (head1 (Jvm.Cond.code (⟨"com/example/candex/candex/index/TermTrieReversedPinLaw", "pick", "(IIIII)I"⟩ : MethodName) method_2_code 5 (some .int) :: ws) own_RP) (fun a U => a = #[(.int p1), (.int p2), (.int p3), (.int p4), (.int p5)] ∧ Z.Warmed39 U.vm ∧ U.heap = h0) (fun _ _ _ _ _ => True) (fun _ U oc_ U' => ∃ v_ L_, oc_ = .returned v_ ∧ own_QP Z p1 p2 p3 p4 p5 r h0 n0 v_ U'.heap L_ ∧ FrameEnd U oc_ U' L_ own_RP.cells own_RP.slots) := by
  refine MetFree.of_bodySF (plainFor_of_name own_pn_com_example_candex_candex_index_TermTrieReversedPinLaw) hisR ?_
  intro p e s m args below meth c s₁ Bd hml0 hP hK
  obtain ⟨rfl, hZ, hh⟩ := hP
  have hx := Bd.exec
  have hby := Bd.bytes
  have hml : c.maxLocals = 5 := hml0
  have hown : s.vm.findClass "com/example/candex/candex/index/TermTrieReversedPinLaw" = some m.cls := findClass_of_methodNamed Bd.named
  have hnm := (name_of_methodNamed Bd.named Bd.method).1
  have X0 : Stand p l e own_RP s m #[(.int p1), (.int p2), (.int p3), (.int p4), (.int p5)] below meth c s₁ [] 0 0 := Stand.of_body Bd
  have e0 : s₁.heap = h0 := by rw [← hh, Bd.state]; rfl
  have N0 := Fr.nil n0
  refine own_in (fun _ k => castTop (own_efP m p1 p2 p3 p4 p5) k) ?_
  intro RR hRR
  show own_Go p.tables e below RR (s₁.setTop (mkF m 0 #[.val (.int p1), .val (.int p2), .val (.int p3), .val (.int p4), .val (.int p5)] []))
  refine own_st (fun _ k => XS.iloadN X0.here hx rfl (hb hby own_dmethod_2_code_0) rfl k) ?_
  show own_Go p.tables e below RR (s₁.setTop (mkF m 1 #[.val (.int p1), .val (.int p2), .val (.int p3), .val (.int p4), .val (.int p5)] [(.int p1)]))
  by_cases hc1_1 : p1 = (0 : Int32)
  · refine own_st (fun _ k => XS.ifNo X0.here hx rfl (hb hby own_dmethod_2_code_1) rfl ((if0 _ _).trans (teq hc1_1).2) (XS.iloadN X0.here hx rfl (hb hby own_dmethod_2_code_4) rfl k)) ?_
    show own_Go p.tables e below RR (s₁.setTop (mkF m 5 #[.val (.int p1), .val (.int p2), .val (.int p3), .val (.int p4), .val (.int p5)] [(.int p2)]))
    obtain ⟨fs, hrt_, hrun, hended, hW, hsame⟩ := X0.leave (v := some (.int p2)) (fun h => by rw [Bd.returns] at h; cases h)
    refine own_fin (retI X0 hx Bd.returns (hb hby own_dmethod_2_code_5) hrt_) (hRR _ ⟨_, hrun, hended, _, _, rfl, ?_, ⟨_, rfl⟩, hW, hsame.mono (by decide) (by decide)⟩)
    show own_QP Z p1 p2 p3 p4 p5 r h0 n0 _ s₁.heap _
    rw [e0]
    exact ⟨own_ri (by first | simpa only [own_pick, hc1_1, if_true, if_false] using hv | simpa [own_pick, hc1_1] using hv), N0, rfl⟩
  · refine own_st (fun _ k => XS.ifYes X0.here hx rfl (pc0 := 1) (pc' := 6) rfl (hb hby own_dmethod_2_code_1) rfl ((if0 _ _).trans (feq hc1_1).2) (by decide) (by decide) (XS.iloadN X0.here hx rfl (hb hby own_dmethod_2_code_6) rfl (XS.iconst X0.here hx rfl (hb hby own_dmethod_2_code_7) k))) ?_
    show own_Go p.tables e below RR (s₁.setTop (mkF m 8 #[.val (.int p1), .val (.int p2), .val (.int p3), .val (.int p4), .val (.int p5)] [(.int (1 : Int32)), (.int p1)]))
    by_cases hc8_2 : p1 = (1 : Int32)
    · refine own_st (fun _ k => XS.icmpNo X0.here hx rfl (hb hby own_dmethod_2_code_8) rfl (teq hc8_2).2 (XS.iloadN X0.here hx rfl (hb hby own_dmethod_2_code_11) rfl k)) ?_
      show own_Go p.tables e below RR (s₁.setTop (mkF m 12 #[.val (.int p1), .val (.int p2), .val (.int p3), .val (.int p4), .val (.int p5)] [(.int p3)]))
      obtain ⟨fs, hrt_, hrun, hended, hW, hsame⟩ := X0.leave (v := some (.int p3)) (fun h => by rw [Bd.returns] at h; cases h)
      refine own_fin (retI X0 hx Bd.returns (hb hby own_dmethod_2_code_12) hrt_) (hRR _ ⟨_, hrun, hended, _, _, rfl, ?_, ⟨_, rfl⟩, hW, hsame.mono (by decide) (by decide)⟩)
      show own_QP Z p1 p2 p3 p4 p5 r h0 n0 _ s₁.heap _
      rw [e0]
      exact ⟨own_ri (by first | simpa only [own_pick, hc1_1, hc8_2, if_true, if_false] using hv | simpa [own_pick, hc1_1, hc8_2] using hv), N0, rfl⟩
    · refine own_st (fun _ k => XS.icmpYes X0.here hx rfl (pc0 := 8) (pc' := 13) rfl (hb hby own_dmethod_2_code_8) rfl (feq hc8_2).2 (by decide) (by decide) (XS.iloadN X0.here hx rfl (hb hby own_dmethod_2_code_13) rfl (XS.iconst X0.here hx rfl (hb hby own_dmethod_2_code_14) k))) ?_
      show own_Go p.tables e below RR (s₁.setTop (mkF m 15 #[.val (.int p1), .val (.int p2), .val (.int p3), .val (.int p4), .val (.int p5)] [(.int (2 : Int32)), (.int p1)]))
      by_cases hc15_3 : p1 = (2 : Int32)
      · refine own_st (fun _ k => XS.icmpNo X0.here hx rfl (hb hby own_dmethod_2_code_15) rfl (teq hc15_3).2 (XS.iloadN X0.here hx rfl (hb hby own_dmethod_2_code_18) rfl k)) ?_
        show own_Go p.tables e below RR (s₁.setTop (mkF m 19 #[.val (.int p1), .val (.int p2), .val (.int p3), .val (.int p4), .val (.int p5)] [(.int p4)]))
        obtain ⟨fs, hrt_, hrun, hended, hW, hsame⟩ := X0.leave (v := some (.int p4)) (fun h => by rw [Bd.returns] at h; cases h)
        refine own_fin (retI X0 hx Bd.returns (hb hby own_dmethod_2_code_19) hrt_) (hRR _ ⟨_, hrun, hended, _, _, rfl, ?_, ⟨_, rfl⟩, hW, hsame.mono (by decide) (by decide)⟩)
        show own_QP Z p1 p2 p3 p4 p5 r h0 n0 _ s₁.heap _
        rw [e0]
        exact ⟨own_ri (by first | simpa only [own_pick, hc1_1, hc8_2, hc15_3, if_true, if_false] using hv | simpa [own_pick, hc1_1, hc8_2, hc15_3] using hv), N0, rfl⟩
      · refine own_st (fun _ k => XS.icmpYes X0.here hx rfl (pc0 := 15) (pc' := 20) rfl (hb hby own_dmethod_2_code_15) rfl (feq hc15_3).2 (by decide) (by decide) (XS.iload X0.here hx rfl (hb hby own_dmethod_2_code_20) rfl k)) ?_
        show own_Go p.tables e below RR (s₁.setTop (mkF m 22 #[.val (.int p1), .val (.int p2), .val (.int p3), .val (.int p4), .val (.int p5)] [(.int p5)]))
        obtain ⟨fs, hrt_, hrun, hended, hW, hsame⟩ := X0.leave (v := some (.int p5)) (fun h => by rw [Bd.returns] at h; cases h)
        refine own_fin (retI X0 hx Bd.returns (hb hby own_dmethod_2_code_22) hrt_) (hRR _ ⟨_, hrun, hended, _, _, rfl, ?_, ⟨_, rfl⟩, hW, hsame.mono (by decide) (by decide)⟩)
        show own_QP Z p1 p2 p3 p4 p5 r h0 n0 _ s₁.heap _
        rw [e0]
        exact ⟨own_ri (by first | simpa only [own_pick, hc1_1, hc8_2, hc15_3, if_true, if_false] using hv | simpa [own_pick, hc1_1, hc8_2, hc15_3] using hv), N0, rfl⟩
theorem own_pn_com_example_candex_candex_index_TermTrie : plainName "com/example/candex/candex/index/TermTrie" = true := by first | (simp [plainName, overriddenIn]; done) | decide +kernel
theorem own_dprog_45_method_2_code_0 : decode prog_45_method_2_code 0 = .ok (.aload_n 0, 1) := by decide +kernel
theorem own_dprog_45_method_2_code_1 : decode prog_45_method_2_code 1 = .ok (.arraylength, 1) := by decide +kernel
theorem own_dprog_45_method_2_code_2 : decode prog_45_method_2_code 2 = .ok (.newarray .int, 2) := by decide +kernel
theorem own_dprog_45_method_2_code_4 : decode prog_45_method_2_code 4 = .ok (.astore_n 1, 1) := by decide +kernel
theorem own_dprog_45_method_2_code_5 : decode prog_45_method_2_code 5 = .ok (.iconst 0, 1) := by decide +kernel
theorem own_dprog_45_method_2_code_6 : decode prog_45_method_2_code 6 = .ok (.istore_n 2, 1) := by decide +kernel
theorem own_dprog_45_method_2_code_7 : decode prog_45_method_2_code 7 = .ok (.iload_n 2, 1) := by decide +kernel
theorem own_dprog_45_method_2_code_8 : decode prog_45_method_2_code 8 = .ok (.aload_n 0, 1) := by decide +kernel
theorem own_dprog_45_method_2_code_9 : decode prog_45_method_2_code 9 = .ok (.arraylength, 1) := by decide +kernel
theorem own_dprog_45_method_2_code_10 : decode prog_45_method_2_code 10 = .ok (.if_icmp .ge 20, 3) := by decide +kernel
theorem own_dprog_45_method_2_code_30 : decode prog_45_method_2_code 30 = .ok (.aload_n 1, 1) := by decide +kernel
theorem own_dprog_45_method_2_code_31 : decode prog_45_method_2_code 31 = .ok (.areturn, 1) := by decide +kernel
theorem own_efV0 (m : MethodId) (o : Addr) : entryFrame m #[(.ref o)] 3 = mkF m 0 #[.val (.ref o), .unset, .unset] [] := by first | (simp [entryFrame, mkF, argsToLocals, Value.category]; done) | rfl
def own_QV0 (Z : State) (o : Addr) (kc : ClassId) (r : Addr) (h0 : Heap) (n0 : Nat) (v_ : Option Value) (h : Heap) (L_ : List Loc) : Prop := v_ = some (.ref r) ∧ Fr n0 L_ ∧ Keep h0 h [] ∧ ∃ k' : ClassId, Arv Z h r k' .int (0 : Int32) [] (.int (0 : Int32))
abbrev own_RV0 : Room := { frames := 0, cells := 1, slots := 0, locals := 0 }
set_option maxRecDepth 65536 in
set_option maxHeartbeats 40000000 in
theorem own_rmV0 (l : Launch) (Z : State) (a0 : Array Value) (hw : ∀ d ∈ tables_1, d.before a0 Z = true) (ws : List Jvm.Cond) (o : Addr) (kc : ClassId) (r : Addr) (h0 : Heap) (n0 : Nat) (Z0 : n0 ≤ h0.size) (A : Arv Z h0 o kc .int (0 : Int32) [] (.int (0 : Int32))) (hr : r = h0.size) :
    MetFree l (⟨"com/example/candex/candex/index/TermTrie", "reversed", "([I)[I"⟩ : MethodName) (head1 (Jvm.Cond.code (⟨"com/example/candex/candex/index/TermTrie", "reversed", "([I)[I"⟩ : MethodName) prog_45_method_2_code 3 (some (.array .int)) :: ws) own_RV0) (fun a U => a = #[(.ref o)] ∧ Z.Warmed39 U.vm ∧ U.heap = h0) (fun _ _ _ _ _ => True) (fun _ U oc_ U' => ∃ v_ L_, oc_ = .returned v_ ∧ own_QV0 Z o kc r h0 n0 v_ U'.heap L_ ∧ FrameEnd U oc_ U' L_ own_RV0.cells own_RV0.slots) := by
  refine MetFree.of_bodySF (plainFor_of_name own_pn_com_example_candex_candex_index_TermTrie) hisR ?_
  intro p e s m args below meth c s₁ Bd hml0 hP hK
  obtain ⟨rfl, hZ, hh⟩ := hP
  have hx := Bd.exec
  have hby := Bd.bytes
  have hml : c.maxLocals = 3 := hml0
  have hown : s.vm.findClass "com/example/candex/candex/index/TermTrie" = some m.cls := findClass_of_methodNamed Bd.named
  have hnm := (name_of_methodNamed Bd.named Bd.method).1
  have X0 : Stand p l e own_RV0 s m #[(.ref o)] below meth c s₁ [] 0 0 := Stand.of_body Bd
  have e0 : s₁.heap = h0 := by rw [← hh, Bd.state]; rfl
  have N0 := Fr.nil n0
  refine own_in (fun _ k => castTop (own_efV0 m o) k) ?_
  intro RR hRR
  show own_Go p.tables e below RR (s₁.setTop (mkF m 0 #[.val (.ref o), .unset, .unset] []))
  refine own_st (fun _ k => XS.aloadN X0.here hx rfl (hb hby own_dprog_45_method_2_code_0) rfl rfl k) ?_
  show own_Go p.tables e below RR (s₁.setTop (mkF m 1 #[.val (.ref o), .unset, .unset] [(.ref o)]))
  obtain ⟨c1, A1, -, s1, m1, -, -⟩ := id A
  refine own_st (fun _ k => own_len X0 hx hZ e0 A1 s1 m1 (g := (mkF m 1 #[.val (.ref o), .unset, .unset] [(.ref o)])) rfl rfl (hb hby own_dprog_45_method_2_code_1) k) ?_
  show own_Go p.tables e below RR (s₁.setTop (mkF m 2 #[.val (.ref o), .unset, .unset] [(.int (0 : Int32))]))
  obtain ⟨T2, h2, k2, X2, e2, E2, A2, st2⟩ := newP X0 hx hZ (hw _ (List.mem_of_getElem? (i := 1) rfl)) e0 (g := (mkF m 2 #[.val (.ref o), .unset, .unset] [(.int (0 : Int32))])) rfl (hb hby own_dprog_45_method_2_code_2) rfl (by decide) (cap := 0) (by decide) (by decide) (by decide) (by decide)
  obtain ⟨b2, gb2⟩ : ∃ z, z = h0.size := ⟨_, rfl⟩
  rw [← gb2] at A2 st2
  have ge2 : n0 ≤ b2 := Nat.le_trans Z0 (Nat.le_of_eq gb2.symm)
  have sz2 : h0.size ≤ b2 := Nat.le_trans (Keep.refl h0 []).1 (Nat.le_of_eq gb2.symm)
  refine own_st st2 ?_
  have z3 : n0 ≤ h2.size := Nat.le_trans Z0 E2.1
  have kk4 : Keep h0 h2 [] := (Keep.refl h0 []).ext E2
  have V2 : Arv Z h2 b2 k2 .int (0 : Int32) [] (.int (0 : Int32)) := (Arv.new A2 (by decide)).pad (pad_rep [] (.int (0 : Int32)) 0)
  show own_Go p.tables e below RR (T2.setTop (mkF m 4 #[.val (.ref o), .unset, .unset] [(.ref b2)]))
  refine own_st (fun _ k => XS.astoreN X2.here hx rfl (hb hby own_dprog_45_method_2_code_4) rfl rfl (l' := #[.val (.ref o), .val (.ref b2), .unset]) rfl (XS.iconst X2.here hx rfl (hb hby own_dprog_45_method_2_code_5) (XS.istoreN X2.here hx rfl (hb hby own_dprog_45_method_2_code_6) rfl (l' := #[.val (.ref o), .val (.ref b2), .val (.int (0 : Int32))]) rfl (XS.iloadN X2.here hx rfl (hb hby own_dprog_45_method_2_code_7) rfl (XS.aloadN X2.here hx rfl (hb hby own_dprog_45_method_2_code_8) rfl rfl k))))) ?_
  show own_Go p.tables e below RR (T2.setTop (mkF m 9 #[.val (.ref o), .val (.ref b2), .val (.int (0 : Int32))] [(.ref o), (.int (0 : Int32))]))
  have f5 := (A.ext E2)
  obtain ⟨c6, A6, -, s6, m6, -, -⟩ := id f5
  refine own_st (fun _ k => own_len X2 hx hZ e2 A6 s6 m6 (g := (mkF m 9 #[.val (.ref o), .val (.ref b2), .val (.int (0 : Int32))] [(.ref o), (.int (0 : Int32))])) rfl rfl (hb hby own_dprog_45_method_2_code_9) k) ?_
  show own_Go p.tables e below RR (T2.setTop (mkF m 10 #[.val (.ref o), .val (.ref b2), .val (.int (0 : Int32))] [(.int (0 : Int32)), (.int (0 : Int32))]))
  refine own_st (fun _ k => XS.icmpYes X2.here hx rfl (pc0 := 10) (pc' := 30) rfl (hb hby own_dprog_45_method_2_code_10) rfl (flt (by decide)).2.1 (by decide) (by decide) (XS.aloadN X2.here hx rfl (hb hby own_dprog_45_method_2_code_30) rfl rfl k)) ?_
  show own_Go p.tables e below RR (T2.setTop (mkF m 31 #[.val (.ref o), .val (.ref b2), .val (.int (0 : Int32))] [(.ref b2)]))
  obtain ⟨fs, hrt_, hrun, hended, hW, hsame⟩ := X2.leave (v := some (.ref b2)) (fun h => by rw [Bd.returns] at h; cases h)
  refine own_fin (retOut X2 hx Bd.returns rfl (Or.inr (Or.inr (Or.inr (Or.inr ⟨rfl, rfl, rfl⟩)))) (hb hby own_dprog_45_method_2_code_31) hrt_) (hRR _ ⟨_, hrun, hended, _, _, rfl, ?_, ⟨_, rfl⟩, hW, hsame.mono (by decide) (by decide)⟩)
  show own_QV0 Z o kc r h0 n0 _ T2.heap _
  rw [e2]
  obtain rfl : b2 = r := gb2.trans hr.symm
  exact ⟨rfl, N0, kk4, _, V2⟩
theorem own_dprog_45_method_2_code_13 : decode prog_45_method_2_code 13 = .ok (.aload_n 1, 1) := by decide +kernel
theorem own_dprog_45_method_2_code_14 : decode prog_45_method_2_code 14 = .ok (.aload_n 0, 1) := by decide +kernel
theorem own_dprog_45_method_2_code_15 : decode prog_45_method_2_code 15 = .ok (.arraylength, 1) := by decide +kernel
theorem own_dprog_45_method_2_code_16 : decode prog_45_method_2_code 16 = .ok (.iconst 1, 1) := by decide +kernel
theorem own_dprog_45_method_2_code_17 : decode prog_45_method_2_code 17 = .ok (.isub, 1) := by decide +kernel
theorem own_dprog_45_method_2_code_18 : decode prog_45_method_2_code 18 = .ok (.iload_n 2, 1) := by decide +kernel
theorem own_dprog_45_method_2_code_19 : decode prog_45_method_2_code 19 = .ok (.isub, 1) := by decide +kernel
theorem own_dprog_45_method_2_code_20 : decode prog_45_method_2_code 20 = .ok (.aload_n 0, 1) := by decide +kernel
theorem own_dprog_45_method_2_code_21 : decode prog_45_method_2_code 21 = .ok (.iload_n 2, 1) := by decide +kernel
theorem own_dprog_45_method_2_code_22 : decode prog_45_method_2_code 22 = .ok (.iaload, 1) := by decide +kernel
theorem own_dprog_45_method_2_code_23 : decode prog_45_method_2_code 23 = .ok (.iastore, 1) := by decide +kernel
theorem own_dprog_45_method_2_code_24 : decode prog_45_method_2_code 24 = .ok (.iinc 2 1, 3) := by decide +kernel
theorem own_dprog_45_method_2_code_27 : decode prog_45_method_2_code 27 = .ok (.goto (-20), 3) := by decide +kernel
theorem own_efV1 (m : MethodId) (o : Addr) : entryFrame m #[(.ref o)] 3 = mkF m 0 #[.val (.ref o), .unset, .unset] [] := by first | (simp [entryFrame, mkF, argsToLocals, Value.category]; done) | rfl
def own_QV1 (Z : State) (o : Addr) (kc : ClassId) (x0 : Int32) (r : Addr) (h0 : Heap) (n0 : Nat) (v_ : Option Value) (h : Heap) (L_ : List Loc) : Prop := v_ = some (.ref r) ∧ Fr n0 L_ ∧ Keep h0 h [] ∧ ∃ k' : ClassId, Arv Z h r k' .int (1 : Int32) [(.int x0)] (.int (0 : Int32))
abbrev own_RV1 : Room := { frames := 0, cells := 1, slots := 1, locals := 0 }
set_option maxRecDepth 65536 in
set_option maxHeartbeats 40000000 in
theorem own_rmV1 (l : Launch) (Z : State) (a0 : Array Value) (hw : ∀ d ∈ tables_1, d.before a0 Z = true) (ws : List Jvm.Cond) (o : Addr) (kc : ClassId) (x0 : Int32) (r : Addr) (h0 : Heap) (n0 : Nat) (Z0 : n0 ≤ h0.size) (A : Arv Z h0 o kc .int (1 : Int32) [(.int x0)] (.int (0 : Int32))) (hr : r = h0.size) :
    MetFree l (⟨"com/example/candex/candex/index/TermTrie", "reversed", "([I)[I"⟩ : MethodName) (head1 (Jvm.Cond.code (⟨"com/example/candex/candex/index/TermTrie", "reversed", "([I)[I"⟩ : MethodName) prog_45_method_2_code 3 (some (.array .int)) :: ws) own_RV1) (fun a U => a = #[(.ref o)] ∧ Z.Warmed39 U.vm ∧ U.heap = h0) (fun _ _ _ _ _ => True) (fun _ U oc_ U' => ∃ v_ L_, oc_ = .returned v_ ∧ own_QV1 Z o kc x0 r h0 n0 v_ U'.heap L_ ∧ FrameEnd U oc_ U' L_ own_RV1.cells own_RV1.slots) := by
  refine MetFree.of_bodySF (plainFor_of_name own_pn_com_example_candex_candex_index_TermTrie) hisR ?_
  intro p e s m args below meth c s₁ Bd hml0 hP hK
  obtain ⟨rfl, hZ, hh⟩ := hP
  have hx := Bd.exec
  have hby := Bd.bytes
  have hml : c.maxLocals = 3 := hml0
  have hown : s.vm.findClass "com/example/candex/candex/index/TermTrie" = some m.cls := findClass_of_methodNamed Bd.named
  have hnm := (name_of_methodNamed Bd.named Bd.method).1
  have X0 : Stand p l e own_RV1 s m #[(.ref o)] below meth c s₁ [] 0 0 := Stand.of_body Bd
  have e0 : s₁.heap = h0 := by rw [← hh, Bd.state]; rfl
  have N0 := Fr.nil n0
  refine own_in (fun _ k => castTop (own_efV1 m o) k) ?_
  intro RR hRR
  show own_Go p.tables e below RR (s₁.setTop (mkF m 0 #[.val (.ref o), .unset, .unset] []))
  refine own_st (fun _ k => XS.aloadN X0.here hx rfl (hb hby own_dprog_45_method_2_code_0) rfl rfl k) ?_
  show own_Go p.tables e below RR (s₁.setTop (mkF m 1 #[.val (.ref o), .unset, .unset] [(.ref o)]))
  obtain ⟨c1, A1, -, s1, m1, -, -⟩ := id A
  refine own_st (fun _ k => own_len X0 hx hZ e0 A1 s1 m1 (g := (mkF m 1 #[.val (.ref o), .unset, .unset] [(.ref o)])) rfl rfl (hb hby own_dprog_45_method_2_code_1) k) ?_
  show own_Go p.tables e below RR (s₁.setTop (mkF m 2 #[.val (.ref o), .unset, .unset] [(.int (1 : Int32))]))
  obtain ⟨T2, h2, k2, X2, e2, E2, A2, st2⟩ := newP X0 hx hZ (hw _ (List.mem_of_getElem? (i := 1) rfl)) e0 (g := (mkF m 2 #[.val (.ref o), .unset, .unset] [(.int (1 : Int32))])) rfl (hb hby own_dprog_45_method_2_code_2) rfl (by decide) (cap := 1) (by decide) (by decide) (by decide) (by decide)
  obtain ⟨b2, gb2⟩ : ∃ z, z = h0.size := ⟨_, rfl⟩
  rw [← gb2] at A2 st2
  have ge2 : n0 ≤ b2 := Nat.le_trans Z0 (Nat.le_of_eq gb2.symm)
  have sz2 : h0.size ≤ b2 := Nat.le_trans (Keep.refl h0 []).1 (Nat.le_of_eq gb2.symm)
  refine own_st st2 ?_
  have z3 : n0 ≤ h2.size := Nat.le_trans Z0 E2.1
  have kk4 : Keep h0 h2 [] := (Keep.refl h0 []).ext E2
  have V2 : Arv Z h2 b2 k2 .int (1 : Int32) [(.int (0 : Int32))] (.int (0 : Int32)) := (Arv.new A2 (by decide)).pad (pad_rep [] (.int (0 : Int32)) 1)
  show own_Go p.tables e below RR (T2.setTop (mkF m 4 #[.val (.ref o), .unset, .unset] [(.ref b2)]))
  refine own_st (fun _ k => XS.astoreN X2.here hx rfl (hb hby own_dprog_45_method_2_code_4) rfl rfl (l' := #[.val (.ref o), .val (.ref b2), .unset]) rfl (XS.iconst X2.here hx rfl (hb hby own_dprog_45_method_2_code_5) (XS.istoreN X2.here hx rfl (hb hby own_dprog_45_method_2_code_6) rfl (l' := #[.val (.ref o), .val (.ref b2), .val (.int (0 : Int32))]) rfl (XS.iloadN X2.here hx rfl (hb hby own_dprog_45_method_2_code_7) rfl (XS.aloadN X2.here hx rfl (hb hby own_dprog_45_method_2_code_8) rfl rfl k))))) ?_
  show own_Go p.tables e below RR (T2.setTop (mkF m 9 #[.val (.ref o), .val (.ref b2), .val (.int (0 : Int32))] [(.ref o), (.int (0 : Int32))]))
  have f5 := (A.ext E2)
  obtain ⟨c6, A6, -, s6, m6, -, -⟩ := id f5
  refine own_st (fun _ k => own_len X2 hx hZ e2 A6 s6 m6 (g := (mkF m 9 #[.val (.ref o), .val (.ref b2), .val (.int (0 : Int32))] [(.ref o), (.int (0 : Int32))])) rfl rfl (hb hby own_dprog_45_method_2_code_9) k) ?_
  show own_Go p.tables e below RR (T2.setTop (mkF m 10 #[.val (.ref o), .val (.ref b2), .val (.int (0 : Int32))] [(.int (1 : Int32)), (.int (0 : Int32))]))
  refine own_st (fun _ k => XS.icmpNo X2.here hx rfl (hb hby own_dprog_45_method_2_code_10) rfl (tlt (by decide)).2.1 (XS.aloadN X2.here hx rfl (hb hby own_dprog_45_method_2_code_13) rfl rfl (XS.aloadN X2.here hx rfl (hb hby own_dprog_45_method_2_code_14) rfl rfl k))) ?_
  show own_Go p.tables e below RR (T2.setTop (mkF m 15 #[.val (.ref o), .val (.ref b2), .val (.int (0 : Int32))] [(.ref o), (.ref b2)]))
  obtain ⟨c7, A7, -, s7, m7, -, -⟩ := id f5
  refine own_st (fun _ k => own_len X2 hx hZ e2 A7 s7 m7 (g := (mkF m 15 #[.val (.ref o), .val (.ref b2), .val (.int (0 : Int32))] [(.ref o), (.ref b2)])) rfl rfl (hb hby own_dprog_45_method_2_code_15) (XS.iconst X2.here hx rfl (hb hby own_dprog_45_method_2_code_16) (XS.isub X2.here hx rfl (hb hby own_dprog_45_method_2_code_17) rfl (XS.iloadN X2.here hx rfl (hb hby own_dprog_45_method_2_code_18) rfl (XS.isub X2.here hx rfl (hb hby own_dprog_45_method_2_code_19) rfl (XS.aloadN X2.here hx rfl (hb hby own_dprog_45_method_2_code_20) rfl rfl (XS.iloadN X2.here hx rfl (hb hby own_dprog_45_method_2_code_21) rfl k))))))) ?_
  show own_Go p.tables e below RR (T2.setTop (mkF m 22 #[.val (.ref o), .val (.ref b2), .val (.int (0 : Int32))] [(.int (0 : Int32)), (.ref o), (.int (0 : Int32)), (.ref b2)]))
  obtain ⟨c8, A8, q8, s8, m8, H8, G8⟩ := id f5
  have b8 := inb_of (j := (0 : Int32)) s8 ⟨by decide, by decide⟩
  refine own_st (fun _ k => X2.iaload hx (j := (0 : Int32)) (v := (.int x0)) (by rw [e2]; exact A8.1) (State.isArrayOf_alike hZ.alike A8.2.1) A8.2.2 b8 (Has.at H8 b8 rfl) (g := (mkF m 22 #[.val (.ref o), .val (.ref b2), .val (.int (0 : Int32))] [(.int (0 : Int32)), (.ref o), (.int (0 : Int32)), (.ref b2)])) rfl rfl (hb hby own_dprog_45_method_2_code_22) _ k) ?_
  show own_Go p.tables e below RR (T2.setTop (mkF m 23 #[.val (.ref o), .val (.ref b2), .val (.int (0 : Int32))] [(.int x0), (.int (0 : Int32)), (.ref b2)]))
  obtain ⟨c9, A9, q9, s9, m9, H9, G9⟩ := id V2
  obtain ⟨T10, h10, X10, e10, W10, st10⟩ := stI X2 hx hZ e2 A9 (j := (0 : Int32)) (inb_of s9 ⟨by decide, by decide⟩) (g := (mkF m 23 #[.val (.ref o), .val (.ref b2), .val (.int (0 : Int32))] [(.int x0), (.int (0 : Int32)), (.ref b2)])) rfl rfl (hb hby own_dprog_45_method_2_code_23)
  have V10 := Arv.set A9 q9 s9 m9 H9 G9 rfl W10 0 rfl (Nat.le_of_ble_eq_true rfl)
  have V10 : Arv Z h10 b2 k2 .int (1 : Int32) [(.int x0)] (.int (0 : Int32)) := V10
  have N10 := Fr.snoc X10 N0 ge2
  refine own_st st10 ?_
  have z11 : n0 ≤ h10.size := Nat.le_trans z3 (Keep.of_wr W10).1
  have kk12 : Keep h0 h10 [] := kk4.wr W10 (Or.inr sz2)
  show own_Go p.tables e below RR (T10.setTop (mkF m 24 #[.val (.ref o), .val (.ref b2), .val (.int (0 : Int32))] []))
  refine own_st (fun _ k => XS.iinc X10.here hx rfl (hb hby own_dprog_45_method_2_code_24) rfl (l' := #[.val (.ref o), .val (.ref b2), .val (.int (1 : Int32))]) rfl (XS.goto X10.here hx rfl (pc0 := 27) (pc' := 7) rfl (hb hby own_dprog_45_method_2_code_27) (by decide) (by decide) (XS.iloadN X10.here hx rfl (hb hby own_dprog_45_method_2_code_7) rfl (XS.aloadN X10.here hx rfl (hb hby own_dprog_45_method_2_code_8) rfl rfl k)))) ?_
  show own_Go p.tables e below RR (T10.setTop (mkF m 9 #[.val (.ref o), .val (.ref b2), .val (.int (1 : Int32))] [(.ref o), (.int (1 : Int32))]))
  have ne13 : o ≠ b2 := (Nat.ne_of_lt (Nat.lt_of_lt_of_le A.lt (Nat.le_of_eq gb2.symm)))
  have f14 := (f5.other W10 ne13)
  obtain ⟨c15, A15, -, s15, m15, -, -⟩ := id f14
  refine own_st (fun _ k => own_len X10 hx hZ e10 A15 s15 m15 (g := (mkF m 9 #[.val (.ref o), .val (.ref b2), .val (.int (1 : Int32))] [(.ref o), (.int (1 : Int32))])) rfl rfl (hb hby own_dprog_45_method_2_code_9) k) ?_
  show own_Go p.tables e below RR (T10.setTop (mkF m 10 #[.val (.ref o), .val (.ref b2), .val (.int (1 : Int32))] [(.int (1 : Int32)), (.int (1 : Int32))]))
  refine own_st (fun _ k => XS.icmpYes X10.here hx rfl (pc0 := 10) (pc' := 30) rfl (hb hby own_dprog_45_method_2_code_10) rfl (flt (by decide)).2.1 (by decide) (by decide) (XS.aloadN X10.here hx rfl (hb hby own_dprog_45_method_2_code_30) rfl rfl k)) ?_
  show own_Go p.tables e below RR (T10.setTop (mkF m 31 #[.val (.ref o), .val (.ref b2), .val (.int (1 : Int32))] [(.ref b2)]))
  obtain ⟨fs, hrt_, hrun, hended, hW, hsame⟩ := X10.leave (v := some (.ref b2)) (fun h => by rw [Bd.returns] at h; cases h)
  refine own_fin (retOut X10 hx Bd.returns rfl (Or.inr (Or.inr (Or.inr (Or.inr ⟨rfl, rfl, rfl⟩)))) (hb hby own_dprog_45_method_2_code_31) hrt_) (hRR _ ⟨_, hrun, hended, _, _, rfl, ?_, ⟨_, rfl⟩, hW, hsame.mono (by decide) (by decide)⟩)
  show own_QV1 Z o kc x0 r h0 n0 _ T10.heap _
  rw [e10]
  obtain rfl : b2 = r := gb2.trans hr.symm
  exact ⟨rfl, N10, kk12, _, V10⟩
theorem own_efV2 (m : MethodId) (o : Addr) : entryFrame m #[(.ref o)] 3 = mkF m 0 #[.val (.ref o), .unset, .unset] [] := by first | (simp [entryFrame, mkF, argsToLocals, Value.category]; done) | rfl
def own_QV2 (Z : State) (o : Addr) (kc : ClassId) (x0 : Int32) (x1 : Int32) (r : Addr) (h0 : Heap) (n0 : Nat) (v_ : Option Value) (h : Heap) (L_ : List Loc) : Prop := v_ = some (.ref r) ∧ Fr n0 L_ ∧ Keep h0 h [] ∧ ∃ k' : ClassId, Arv Z h r k' .int (2 : Int32) [(.int x1), (.int x0)] (.int (0 : Int32))
abbrev own_RV2 : Room := { frames := 0, cells := 1, slots := 2, locals := 0 }
set_option maxRecDepth 65536 in
set_option maxHeartbeats 40000000 in
theorem own_rmV2 (l : Launch) (Z : State) (a0 : Array Value) (hw : ∀ d ∈ tables_1, d.before a0 Z = true) (ws : List Jvm.Cond) (o : Addr) (kc : ClassId) (x0 : Int32) (x1 : Int32) (r : Addr) (h0 : Heap) (n0 : Nat) (Z0 : n0 ≤ h0.size) (A : Arv Z h0 o kc .int (2 : Int32) [(.int x0), (.int x1)] (.int (0 : Int32))) (hr : r = h0.size) :
    MetFree l (⟨"com/example/candex/candex/index/TermTrie", "reversed", "([I)[I"⟩ : MethodName) (head1 (Jvm.Cond.code (⟨"com/example/candex/candex/index/TermTrie", "reversed", "([I)[I"⟩ : MethodName) prog_45_method_2_code 3 (some (.array .int)) :: ws) own_RV2) (fun a U => a = #[(.ref o)] ∧ Z.Warmed39 U.vm ∧ U.heap = h0) (fun _ _ _ _ _ => True) (fun _ U oc_ U' => ∃ v_ L_, oc_ = .returned v_ ∧ own_QV2 Z o kc x0 x1 r h0 n0 v_ U'.heap L_ ∧ FrameEnd U oc_ U' L_ own_RV2.cells own_RV2.slots) := by
  refine MetFree.of_bodySF (plainFor_of_name own_pn_com_example_candex_candex_index_TermTrie) hisR ?_
  intro p e s m args below meth c s₁ Bd hml0 hP hK
  obtain ⟨rfl, hZ, hh⟩ := hP
  have hx := Bd.exec
  have hby := Bd.bytes
  have hml : c.maxLocals = 3 := hml0
  have hown : s.vm.findClass "com/example/candex/candex/index/TermTrie" = some m.cls := findClass_of_methodNamed Bd.named
  have hnm := (name_of_methodNamed Bd.named Bd.method).1
  have X0 : Stand p l e own_RV2 s m #[(.ref o)] below meth c s₁ [] 0 0 := Stand.of_body Bd
  have e0 : s₁.heap = h0 := by rw [← hh, Bd.state]; rfl
  have N0 := Fr.nil n0
  refine own_in (fun _ k => castTop (own_efV2 m o) k) ?_
  intro RR hRR
  show own_Go p.tables e below RR (s₁.setTop (mkF m 0 #[.val (.ref o), .unset, .unset] []))
  refine own_st (fun _ k => XS.aloadN X0.here hx rfl (hb hby own_dprog_45_method_2_code_0) rfl rfl k) ?_
  show own_Go p.tables e below RR (s₁.setTop (mkF m 1 #[.val (.ref o), .unset, .unset] [(.ref o)]))
  obtain ⟨c1, A1, -, s1, m1, -, -⟩ := id A
  refine own_st (fun _ k => own_len X0 hx hZ e0 A1 s1 m1 (g := (mkF m 1 #[.val (.ref o), .unset, .unset] [(.ref o)])) rfl rfl (hb hby own_dprog_45_method_2_code_1) k) ?_
  show own_Go p.tables e below RR (s₁.setTop (mkF m 2 #[.val (.ref o), .unset, .unset] [(.int (2 : Int32))]))
  obtain ⟨T2, h2, k2, X2, e2, E2, A2, st2⟩ := newP X0 hx hZ (hw _ (List.mem_of_getElem? (i := 1) rfl)) e0 (g := (mkF m 2 #[.val (.ref o), .unset, .unset] [(.int (2 : Int32))])) rfl (hb hby own_dprog_45_method_2_code_2) rfl (by decide) (cap := 2) (by decide) (by decide) (by decide) (by decide)
  obtain ⟨b2, gb2⟩ : ∃ z, z = h0.size := ⟨_, rfl⟩
  rw [← gb2] at A2 st2
  have ge2 : n0 ≤ b2 := Nat.le_trans Z0 (Nat.le_of_eq gb2.symm)
  have sz2 : h0.size ≤ b2 := Nat.le_trans (Keep.refl h0 []).1 (Nat.le_of_eq gb2.symm)
  refine own_st st2 ?_
  have z3 : n0 ≤ h2.size := Nat.le_trans Z0 E2.1
  have kk4 : Keep h0 h2 [] := (Keep.refl h0 []).ext E2
  have V2 : Arv Z h2 b2 k2 .int (2 : Int32) [(.int (0 : Int32)), (.int (0 : Int32))] (.int (0 : Int32)) := (Arv.new A2 (by decide)).pad (pad_rep [] (.int (0 : Int32)) 2)
  show own_Go p.tables e below RR (T2.setTop (mkF m 4 #[.val (.ref o), .unset, .unset] [(.ref b2)]))
  refine own_st (fun _ k => XS.astoreN X2.here hx rfl (hb hby own_dprog_45_method_2_code_4) rfl rfl (l' := #[.val (.ref o), .val (.ref b2), .unset]) rfl (XS.iconst X2.here hx rfl (hb hby own_dprog_45_method_2_code_5) (XS.istoreN X2.here hx rfl (hb hby own_dprog_45_method_2_code_6) rfl (l' := #[.val (.ref o), .val (.ref b2), .val (.int (0 : Int32))]) rfl (XS.iloadN X2.here hx rfl (hb hby own_dprog_45_method_2_code_7) rfl (XS.aloadN X2.here hx rfl (hb hby own_dprog_45_method_2_code_8) rfl rfl k))))) ?_
  show own_Go p.tables e below RR (T2.setTop (mkF m 9 #[.val (.ref o), .val (.ref b2), .val (.int (0 : Int32))] [(.ref o), (.int (0 : Int32))]))
  have f5 := (A.ext E2)
  obtain ⟨c6, A6, -, s6, m6, -, -⟩ := id f5
  refine own_st (fun _ k => own_len X2 hx hZ e2 A6 s6 m6 (g := (mkF m 9 #[.val (.ref o), .val (.ref b2), .val (.int (0 : Int32))] [(.ref o), (.int (0 : Int32))])) rfl rfl (hb hby own_dprog_45_method_2_code_9) k) ?_
  show own_Go p.tables e below RR (T2.setTop (mkF m 10 #[.val (.ref o), .val (.ref b2), .val (.int (0 : Int32))] [(.int (2 : Int32)), (.int (0 : Int32))]))
  refine own_st (fun _ k => XS.icmpNo X2.here hx rfl (hb hby own_dprog_45_method_2_code_10) rfl (tlt (by decide)).2.1 (XS.aloadN X2.here hx rfl (hb hby own_dprog_45_method_2_code_13) rfl rfl (XS.aloadN X2.here hx rfl (hb hby own_dprog_45_method_2_code_14) rfl rfl k))) ?_
  show own_Go p.tables e below RR (T2.setTop (mkF m 15 #[.val (.ref o), .val (.ref b2), .val (.int (0 : Int32))] [(.ref o), (.ref b2)]))
  obtain ⟨c7, A7, -, s7, m7, -, -⟩ := id f5
  refine own_st (fun _ k => own_len X2 hx hZ e2 A7 s7 m7 (g := (mkF m 15 #[.val (.ref o), .val (.ref b2), .val (.int (0 : Int32))] [(.ref o), (.ref b2)])) rfl rfl (hb hby own_dprog_45_method_2_code_15) (XS.iconst X2.here hx rfl (hb hby own_dprog_45_method_2_code_16) (XS.isub X2.here hx rfl (hb hby own_dprog_45_method_2_code_17) rfl (XS.iloadN X2.here hx rfl (hb hby own_dprog_45_method_2_code_18) rfl (XS.isub X2.here hx rfl (hb hby own_dprog_45_method_2_code_19) rfl (XS.aloadN X2.here hx rfl (hb hby own_dprog_45_method_2_code_20) rfl rfl (XS.iloadN X2.here hx rfl (hb hby own_dprog_45_method_2_code_21) rfl k))))))) ?_
  show own_Go p.tables e below RR (T2.setTop (mkF m 22 #[.val (.ref o), .val (.ref b2), .val (.int (0 : Int32))] [(.int (0 : Int32)), (.ref o), (.int (1 : Int32)), (.ref b2)]))
  obtain ⟨c8, A8, q8, s8, m8, H8, G8⟩ := id f5
  have b8 := inb_of (j := (0 : Int32)) s8 ⟨by decide, by decide⟩
  refine own_st (fun _ k => X2.iaload hx (j := (0 : Int32)) (v := (.int x0)) (by rw [e2]; exact A8.1) (State.isArrayOf_alike hZ.alike A8.2.1) A8.2.2 b8 (Has.at H8 b8 rfl) (g := (mkF m 22 #[.val (.ref o), .val (.ref b2), .val (.int (0 : Int32))] [(.int (0 : Int32)), (.ref o), (.int (1 : Int32)), (.ref b2)])) rfl rfl (hb hby own_dprog_45_method_2_code_22) _ k) ?_
  show own_Go p.tables e below RR (T2.setTop (mkF m 23 #[.val (.ref o), .val (.ref b2), .val (.int (0 : Int32))] [(.int x0), (.int (1 : Int32)), (.ref b2)]))
  obtain ⟨c9, A9, q9, s9, m9, H9, G9⟩ := id V2
  obtain ⟨T10, h10, X10, e10, W10, st10⟩ := stI X2 hx hZ e2 A9 (j := (1 : Int32)) (inb_of s9 ⟨by decide, by decide⟩) (g := (mkF m 23 #[.val (.ref o), .val (.ref b2), .val (.int (0 : Int32))] [(.int x0), (.int (1 : Int32)), (.ref b2)])) rfl rfl (hb hby own_dprog_45_method_2_code_23)
  have V10 := Arv.set A9 q9 s9 m9 H9 G9 rfl W10 1 rfl (Nat.le_of_ble_eq_true rfl)
  have V10 : Arv Z h10 b2 k2 .int (2 : Int32) [(.int (0 : Int32)), (.int x0)] (.int (0 : Int32)) := V10
  have N10 := Fr.snoc X10 N0 ge2
  refine own_st st10 ?_
  have z11 : n0 ≤ h10.size := Nat.le_trans z3 (Keep.of_wr W10).1
  have kk12 : Keep h0 h10 [] := kk4.wr W10 (Or.inr sz2)
  show own_Go p.tables e below RR (T10.setTop (mkF m 24 #[.val (.ref o), .val (.ref b2), .val (.int (0 : Int32))] []))
  refine own_st (fun _ k => XS.iinc X10.here hx rfl (hb hby own_dprog_45_method_2_code_24) rfl (l' := #[.val (.ref o), .val (.ref b2), .val (.int (1 : Int32))]) rfl (XS.goto X10.here hx rfl (pc0 := 27) (pc' := 7) rfl (hb hby own_dprog_45_method_2_code_27) (by decide) (by decide) (XS.iloadN X10.here hx rfl (hb hby own_dprog_45_method_2_code_7) rfl (XS.aloadN X10.here hx rfl (hb hby own_dprog_45_method_2_code_8) rfl rfl k)))) ?_
  show own_Go p.tables e below RR (T10.setTop (mkF m 9 #[.val (.ref o), .val (.ref b2), .val (.int (1 : Int32))] [(.ref o), (.int (1 : Int32))]))
  have ne13 : o ≠ b2 := (Nat.ne_of_lt (Nat.lt_of_lt_of_le A.lt (Nat.le_of_eq gb2.symm)))
  have f14 := (f5.other W10 ne13)
  obtain ⟨c15, A15, -, s15, m15, -, -⟩ := id f14
  refine own_st (fun _ k => own_len X10 hx hZ e10 A15 s15 m15 (g := (mkF m 9 #[.val (.ref o), .val (.ref b2), .val (.int (1 : Int32))] [(.ref o), (.int (1 : Int32))])) rfl rfl (hb hby own_dprog_45_method_2_code_9) k) ?_
  show own_Go p.tables e below RR (T10.setTop (mkF m 10 #[.val (.ref o), .val (.ref b2), .val (.int (1 : Int32))] [(.int (2 : Int32)), (.int (1 : Int32))]))
  refine own_st (fun _ k => XS.icmpNo X10.here hx rfl (hb hby own_dprog_45_method_2_code_10) rfl (tlt (by decide)).2.1 (XS.aloadN X10.here hx rfl (hb hby own_dprog_45_method_2_code_13) rfl rfl (XS.aloadN X10.here hx rfl (hb hby own_dprog_45_method_2_code_14) rfl rfl k))) ?_
  show own_Go p.tables e below RR (T10.setTop (mkF m 15 #[.val (.ref o), .val (.ref b2), .val (.int (1 : Int32))] [(.ref o), (.ref b2)]))
  obtain ⟨c16, A16, -, s16, m16, -, -⟩ := id f14
  refine own_st (fun _ k => own_len X10 hx hZ e10 A16 s16 m16 (g := (mkF m 15 #[.val (.ref o), .val (.ref b2), .val (.int (1 : Int32))] [(.ref o), (.ref b2)])) rfl rfl (hb hby own_dprog_45_method_2_code_15) (XS.iconst X10.here hx rfl (hb hby own_dprog_45_method_2_code_16) (XS.isub X10.here hx rfl (hb hby own_dprog_45_method_2_code_17) rfl (XS.iloadN X10.here hx rfl (hb hby own_dprog_45_method_2_code_18) rfl (XS.isub X10.here hx rfl (hb hby own_dprog_45_method_2_code_19) rfl (XS.aloadN X10.here hx rfl (hb hby own_dprog_45_method_2_code_20) rfl rfl (XS.iloadN X10.here hx rfl (hb hby own_dprog_45_method_2_code_21) rfl k))))))) ?_
  show own_Go p.tables e below RR (T10.setTop (mkF m 22 #[.val (.ref o), .val (.ref b2), .val (.int (1 : Int32))] [(.int (1 : Int32)), (.ref o), (.int (0 : Int32)), (.ref b2)]))
  obtain ⟨c17, A17, q17, s17, m17, H17, G17⟩ := id f14
  have b17 := inb_of (j := (1 : Int32)) s17 ⟨by decide, by decide⟩
  refine own_st (fun _ k => X10.iaload hx (j := (1 : Int32)) (v := (.int x1)) (by rw [e10]; exact A17.1) (State.isArrayOf_alike hZ.alike A17.2.1) A17.2.2 b17 (Has.at H17 b17 rfl) (g := (mkF m 22 #[.val (.ref o), .val (.ref b2), .val (.int (1 : Int32))] [(.int (1 : Int32)), (.ref o), (.int (0 : Int32)), (.ref b2)])) rfl rfl (hb hby own_dprog_45_method_2_code_22) _ k) ?_
  show own_Go p.tables e below RR (T10.setTop (mkF m 23 #[.val (.ref o), .val (.ref b2), .val (.int (1 : Int32))] [(.int x1), (.int (0 : Int32)), (.ref b2)]))
  obtain ⟨c18, A18, q18, s18, m18, H18, G18⟩ := id V10
  obtain ⟨T19, h19, X19, e19, W19, st19⟩ := stI X10 hx hZ e10 A18 (j := (0 : Int32)) (inb_of s18 ⟨by decide, by decide⟩) (g := (mkF m 23 #[.val (.ref o), .val (.ref b2), .val (.int (1 : Int32))] [(.int x1), (.int (0 : Int32)), (.ref b2)])) rfl rfl (hb hby own_dprog_45_method_2_code_23)
  have V19 := Arv.set A18 q18 s18 m18 H18 G18 rfl W19 0 rfl (Nat.le_of_ble_eq_true rfl)
  have V19 : Arv Z h19 b2 k2 .int (2 : Int32) [(.int x1), (.int x0)] (.int (0 : Int32)) := V19
  have N19 := Fr.snoc X19 N10 ge2
  refine own_st st19 ?_
  have z20 : n0 ≤ h19.size := Nat.le_trans z11 (Keep.of_wr W19).1
  have kk21 : Keep h0 h19 [] := kk12.wr W19 (Or.inr sz2)
  show own_Go p.tables e below RR (T19.setTop (mkF m 24 #[.val (.ref o), .val (.ref b2), .val (.int (1 : Int32))] []))
  refine own_st (fun _ k => XS.iinc X19.here hx rfl (hb hby own_dprog_45_method_2_code_24) rfl (l' := #[.val (.ref o), .val (.ref b2), .val (.int (2 : Int32))]) rfl (XS.goto X19.here hx rfl (pc0 := 27) (pc' := 7) rfl (hb hby own_dprog_45_method_2_code_27) (by decide) (by decide) (XS.iloadN X19.here hx rfl (hb hby own_dprog_45_method_2_code_7) rfl (XS.aloadN X19.here hx rfl (hb hby own_dprog_45_method_2_code_8) rfl rfl k)))) ?_
  show own_Go p.tables e below RR (T19.setTop (mkF m 9 #[.val (.ref o), .val (.ref b2), .val (.int (2 : Int32))] [(.ref o), (.int (2 : Int32))]))
  have f22 := (f14.other W19 ne13)
  obtain ⟨c23, A23, -, s23, m23, -, -⟩ := id f22
  refine own_st (fun _ k => own_len X19 hx hZ e19 A23 s23 m23 (g := (mkF m 9 #[.val (.ref o), .val (.ref b2), .val (.int (2 : Int32))] [(.ref o), (.int (2 : Int32))])) rfl rfl (hb hby own_dprog_45_method_2_code_9) k) ?_
  show own_Go p.tables e below RR (T19.setTop (mkF m 10 #[.val (.ref o), .val (.ref b2), .val (.int (2 : Int32))] [(.int (2 : Int32)), (.int (2 : Int32))]))
  refine own_st (fun _ k => XS.icmpYes X19.here hx rfl (pc0 := 10) (pc' := 30) rfl (hb hby own_dprog_45_method_2_code_10) rfl (flt (by decide)).2.1 (by decide) (by decide) (XS.aloadN X19.here hx rfl (hb hby own_dprog_45_method_2_code_30) rfl rfl k)) ?_
  show own_Go p.tables e below RR (T19.setTop (mkF m 31 #[.val (.ref o), .val (.ref b2), .val (.int (2 : Int32))] [(.ref b2)]))
  obtain ⟨fs, hrt_, hrun, hended, hW, hsame⟩ := X19.leave (v := some (.ref b2)) (fun h => by rw [Bd.returns] at h; cases h)
  refine own_fin (retOut X19 hx Bd.returns rfl (Or.inr (Or.inr (Or.inr (Or.inr ⟨rfl, rfl, rfl⟩)))) (hb hby own_dprog_45_method_2_code_31) hrt_) (hRR _ ⟨_, hrun, hended, _, _, rfl, ?_, ⟨_, rfl⟩, hW, hsame.mono (by decide) (by decide)⟩)
  show own_QV2 Z o kc x0 x1 r h0 n0 _ T19.heap _
  rw [e19]
  obtain rfl : b2 = r := gb2.trans hr.symm
  exact ⟨rfl, N19, kk21, _, V19⟩
theorem own_efV3 (m : MethodId) (o : Addr) : entryFrame m #[(.ref o)] 3 = mkF m 0 #[.val (.ref o), .unset, .unset] [] := by first | (simp [entryFrame, mkF, argsToLocals, Value.category]; done) | rfl
def own_QV3 (Z : State) (o : Addr) (kc : ClassId) (x0 : Int32) (x1 : Int32) (x2 : Int32) (r : Addr) (h0 : Heap) (n0 : Nat) (v_ : Option Value) (h : Heap) (L_ : List Loc) : Prop := v_ = some (.ref r) ∧ Fr n0 L_ ∧ Keep h0 h [] ∧ ∃ k' : ClassId, Arv Z h r k' .int (3 : Int32) [(.int x2), (.int x1), (.int x0)] (.int (0 : Int32))
abbrev own_RV3 : Room := { frames := 0, cells := 1, slots := 3, locals := 0 }
set_option maxRecDepth 65536 in
set_option maxHeartbeats 40000000 in
theorem own_rmV3 (l : Launch) (Z : State) (a0 : Array Value) (hw : ∀ d ∈ tables_1, d.before a0 Z = true) (ws : List Jvm.Cond) (o : Addr) (kc : ClassId) (x0 : Int32) (x1 : Int32) (x2 : Int32) (r : Addr) (h0 : Heap) (n0 : Nat) (Z0 : n0 ≤ h0.size) (A : Arv Z h0 o kc .int (3 : Int32) [(.int x0), (.int x1), (.int x2)] (.int (0 : Int32))) (hr : r = h0.size) :
    MetFree l (⟨"com/example/candex/candex/index/TermTrie", "reversed", "([I)[I"⟩ : MethodName) (head1 (Jvm.Cond.code (⟨"com/example/candex/candex/index/TermTrie", "reversed", "([I)[I"⟩ : MethodName) prog_45_method_2_code 3 (some (.array .int)) :: ws) own_RV3) (fun a U => a = #[(.ref o)] ∧ Z.Warmed39 U.vm ∧ U.heap = h0) (fun _ _ _ _ _ => True) (fun _ U oc_ U' => ∃ v_ L_, oc_ = .returned v_ ∧ own_QV3 Z o kc x0 x1 x2 r h0 n0 v_ U'.heap L_ ∧ FrameEnd U oc_ U' L_ own_RV3.cells own_RV3.slots) := by
  refine MetFree.of_bodySF (plainFor_of_name own_pn_com_example_candex_candex_index_TermTrie) hisR ?_
  intro p e s m args below meth c s₁ Bd hml0 hP hK
  obtain ⟨rfl, hZ, hh⟩ := hP
  have hx := Bd.exec
  have hby := Bd.bytes
  have hml : c.maxLocals = 3 := hml0
  have hown : s.vm.findClass "com/example/candex/candex/index/TermTrie" = some m.cls := findClass_of_methodNamed Bd.named
  have hnm := (name_of_methodNamed Bd.named Bd.method).1
  have X0 : Stand p l e own_RV3 s m #[(.ref o)] below meth c s₁ [] 0 0 := Stand.of_body Bd
  have e0 : s₁.heap = h0 := by rw [← hh, Bd.state]; rfl
  have N0 := Fr.nil n0
  refine own_in (fun _ k => castTop (own_efV3 m o) k) ?_
  intro RR hRR
  show own_Go p.tables e below RR (s₁.setTop (mkF m 0 #[.val (.ref o), .unset, .unset] []))
  refine own_st (fun _ k => XS.aloadN X0.here hx rfl (hb hby own_dprog_45_method_2_code_0) rfl rfl k) ?_
  show own_Go p.tables e below RR (s₁.setTop (mkF m 1 #[.val (.ref o), .unset, .unset] [(.ref o)]))
  obtain ⟨c1, A1, -, s1, m1, -, -⟩ := id A
  refine own_st (fun _ k => own_len X0 hx hZ e0 A1 s1 m1 (g := (mkF m 1 #[.val (.ref o), .unset, .unset] [(.ref o)])) rfl rfl (hb hby own_dprog_45_method_2_code_1) k) ?_
  show own_Go p.tables e below RR (s₁.setTop (mkF m 2 #[.val (.ref o), .unset, .unset] [(.int (3 : Int32))]))
  obtain ⟨T2, h2, k2, X2, e2, E2, A2, st2⟩ := newP X0 hx hZ (hw _ (List.mem_of_getElem? (i := 1) rfl)) e0 (g := (mkF m 2 #[.val (.ref o), .unset, .unset] [(.int (3 : Int32))])) rfl (hb hby own_dprog_45_method_2_code_2) rfl (by decide) (cap := 3) (by decide) (by decide) (by decide) (by decide)
  obtain ⟨b2, gb2⟩ : ∃ z, z = h0.size := ⟨_, rfl⟩
  rw [← gb2] at A2 st2
  have ge2 : n0 ≤ b2 := Nat.le_trans Z0 (Nat.le_of_eq gb2.symm)
  have sz2 : h0.size ≤ b2 := Nat.le_trans (Keep.refl h0 []).1 (Nat.le_of_eq gb2.symm)
  refine own_st st2 ?_
  have z3 : n0 ≤ h2.size := Nat.le_trans Z0 E2.1
  have kk4 : Keep h0 h2 [] := (Keep.refl h0 []).ext E2
  have V2 : Arv Z h2 b2 k2 .int (3 : Int32) [(.int (0 : Int32)), (.int (0 : Int32)), (.int (0 : Int32))] (.int (0 : Int32)) := (Arv.new A2 (by decide)).pad (pad_rep [] (.int (0 : Int32)) 3)
  show own_Go p.tables e below RR (T2.setTop (mkF m 4 #[.val (.ref o), .unset, .unset] [(.ref b2)]))
  refine own_st (fun _ k => XS.astoreN X2.here hx rfl (hb hby own_dprog_45_method_2_code_4) rfl rfl (l' := #[.val (.ref o), .val (.ref b2), .unset]) rfl (XS.iconst X2.here hx rfl (hb hby own_dprog_45_method_2_code_5) (XS.istoreN X2.here hx rfl (hb hby own_dprog_45_method_2_code_6) rfl (l' := #[.val (.ref o), .val (.ref b2), .val (.int (0 : Int32))]) rfl (XS.iloadN X2.here hx rfl (hb hby own_dprog_45_method_2_code_7) rfl (XS.aloadN X2.here hx rfl (hb hby own_dprog_45_method_2_code_8) rfl rfl k))))) ?_
  show own_Go p.tables e below RR (T2.setTop (mkF m 9 #[.val (.ref o), .val (.ref b2), .val (.int (0 : Int32))] [(.ref o), (.int (0 : Int32))]))
  have f5 := (A.ext E2)
  obtain ⟨c6, A6, -, s6, m6, -, -⟩ := id f5
  refine own_st (fun _ k => own_len X2 hx hZ e2 A6 s6 m6 (g := (mkF m 9 #[.val (.ref o), .val (.ref b2), .val (.int (0 : Int32))] [(.ref o), (.int (0 : Int32))])) rfl rfl (hb hby own_dprog_45_method_2_code_9) k) ?_
  show own_Go p.tables e below RR (T2.setTop (mkF m 10 #[.val (.ref o), .val (.ref b2), .val (.int (0 : Int32))] [(.int (3 : Int32)), (.int (0 : Int32))]))
  refine own_st (fun _ k => XS.icmpNo X2.here hx rfl (hb hby own_dprog_45_method_2_code_10) rfl (tlt (by decide)).2.1 (XS.aloadN X2.here hx rfl (hb hby own_dprog_45_method_2_code_13) rfl rfl (XS.aloadN X2.here hx rfl (hb hby own_dprog_45_method_2_code_14) rfl rfl k))) ?_
  show own_Go p.tables e below RR (T2.setTop (mkF m 15 #[.val (.ref o), .val (.ref b2), .val (.int (0 : Int32))] [(.ref o), (.ref b2)]))
  obtain ⟨c7, A7, -, s7, m7, -, -⟩ := id f5
  refine own_st (fun _ k => own_len X2 hx hZ e2 A7 s7 m7 (g := (mkF m 15 #[.val (.ref o), .val (.ref b2), .val (.int (0 : Int32))] [(.ref o), (.ref b2)])) rfl rfl (hb hby own_dprog_45_method_2_code_15) (XS.iconst X2.here hx rfl (hb hby own_dprog_45_method_2_code_16) (XS.isub X2.here hx rfl (hb hby own_dprog_45_method_2_code_17) rfl (XS.iloadN X2.here hx rfl (hb hby own_dprog_45_method_2_code_18) rfl (XS.isub X2.here hx rfl (hb hby own_dprog_45_method_2_code_19) rfl (XS.aloadN X2.here hx rfl (hb hby own_dprog_45_method_2_code_20) rfl rfl (XS.iloadN X2.here hx rfl (hb hby own_dprog_45_method_2_code_21) rfl k))))))) ?_
  show own_Go p.tables e below RR (T2.setTop (mkF m 22 #[.val (.ref o), .val (.ref b2), .val (.int (0 : Int32))] [(.int (0 : Int32)), (.ref o), (.int (2 : Int32)), (.ref b2)]))
  obtain ⟨c8, A8, q8, s8, m8, H8, G8⟩ := id f5
  have b8 := inb_of (j := (0 : Int32)) s8 ⟨by decide, by decide⟩
  refine own_st (fun _ k => X2.iaload hx (j := (0 : Int32)) (v := (.int x0)) (by rw [e2]; exact A8.1) (State.isArrayOf_alike hZ.alike A8.2.1) A8.2.2 b8 (Has.at H8 b8 rfl) (g := (mkF m 22 #[.val (.ref o), .val (.ref b2), .val (.int (0 : Int32))] [(.int (0 : Int32)), (.ref o), (.int (2 : Int32)), (.ref b2)])) rfl rfl (hb hby own_dprog_45_method_2_code_22) _ k) ?_
  show own_Go p.tables e below RR (T2.setTop (mkF m 23 #[.val (.ref o), .val (.ref b2), .val (.int (0 : Int32))] [(.int x0), (.int (2 : Int32)), (.ref b2)]))
  obtain ⟨c9, A9, q9, s9, m9, H9, G9⟩ := id V2
  obtain ⟨T10, h10, X10, e10, W10, st10⟩ := stI X2 hx hZ e2 A9 (j := (2 : Int32)) (inb_of s9 ⟨by decide, by decide⟩) (g := (mkF m 23 #[.val (.ref o), .val (.ref b2), .val (.int (0 : Int32))] [(.int x0), (.int (2 : Int32)), (.ref b2)])) rfl rfl (hb hby own_dprog_45_method_2_code_23)
  have V10 := Arv.set A9 q9 s9 m9 H9 G9 rfl W10 2 rfl (Nat.le_of_ble_eq_true rfl)
  have V10 : Arv Z h10 b2 k2 .int (3 : Int32) [(.int (0 : Int32)), (.int (0 : Int32)), (.int x0)] (.int (0 : Int32)) := V10
  have N10 := Fr.snoc X10 N0 ge2
  refine own_st st10 ?_
  have z11 : n0 ≤ h10.size := Nat.le_trans z3 (Keep.of_wr W10).1
  have kk12 : Keep h0 h10 [] := kk4.wr W10 (Or.inr sz2)
  show own_Go p.tables e below RR (T10.setTop (mkF m 24 #[.val (.ref o), .val (.ref b2), .val (.int (0 : Int32))] []))
  refine own_st (fun _ k => XS.iinc X10.here hx rfl (hb hby own_dprog_45_method_2_code_24) rfl (l' := #[.val (.ref o), .val (.ref b2), .val (.int (1 : Int32))]) rfl (XS.goto X10.here hx rfl (pc0 := 27) (pc' := 7) rfl (hb hby own_dprog_45_method_2_code_27) (by decide) (by decide) (XS.iloadN X10.here hx rfl (hb hby own_dprog_45_method_2_code_7) rfl (XS.aloadN X10.here hx rfl (hb hby own_dprog_45_method_2_code_8) rfl rfl k)))) ?_
  show own_Go p.tables e below RR (T10.setTop (mkF m 9 #[.val (.ref o), .val (.ref b2), .val (.int (1 : Int32))] [(.ref o), (.int (1 : Int32))]))
  have ne13 : o ≠ b2 := (Nat.ne_of_lt (Nat.lt_of_lt_of_le A.lt (Nat.le_of_eq gb2.symm)))
  have f14 := (f5.other W10 ne13)
  obtain ⟨c15, A15, -, s15, m15, -, -⟩ := id f14
  refine own_st (fun _ k => own_len X10 hx hZ e10 A15 s15 m15 (g := (mkF m 9 #[.val (.ref o), .val (.ref b2), .val (.int (1 : Int32))] [(.ref o), (.int (1 : Int32))])) rfl rfl (hb hby own_dprog_45_method_2_code_9) k) ?_
  show own_Go p.tables e below RR (T10.setTop (mkF m 10 #[.val (.ref o), .val (.ref b2), .val (.int (1 : Int32))] [(.int (3 : Int32)), (.int (1 : Int32))]))
  refine own_st (fun _ k => XS.icmpNo X10.here hx rfl (hb hby own_dprog_45_method_2_code_10) rfl (tlt (by decide)).2.1 (XS.aloadN X10.here hx rfl (hb hby own_dprog_45_method_2_code_13) rfl rfl (XS.aloadN X10.here hx rfl (hb hby own_dprog_45_method_2_code_14) rfl rfl k))) ?_
  show own_Go p.tables e below RR (T10.setTop (mkF m 15 #[.val (.ref o), .val (.ref b2), .val (.int (1 : Int32))] [(.ref o), (.ref b2)]))
  obtain ⟨c16, A16, -, s16, m16, -, -⟩ := id f14
  refine own_st (fun _ k => own_len X10 hx hZ e10 A16 s16 m16 (g := (mkF m 15 #[.val (.ref o), .val (.ref b2), .val (.int (1 : Int32))] [(.ref o), (.ref b2)])) rfl rfl (hb hby own_dprog_45_method_2_code_15) (XS.iconst X10.here hx rfl (hb hby own_dprog_45_method_2_code_16) (XS.isub X10.here hx rfl (hb hby own_dprog_45_method_2_code_17) rfl (XS.iloadN X10.here hx rfl (hb hby own_dprog_45_method_2_code_18) rfl (XS.isub X10.here hx rfl (hb hby own_dprog_45_method_2_code_19) rfl (XS.aloadN X10.here hx rfl (hb hby own_dprog_45_method_2_code_20) rfl rfl (XS.iloadN X10.here hx rfl (hb hby own_dprog_45_method_2_code_21) rfl k))))))) ?_
  show own_Go p.tables e below RR (T10.setTop (mkF m 22 #[.val (.ref o), .val (.ref b2), .val (.int (1 : Int32))] [(.int (1 : Int32)), (.ref o), (.int (1 : Int32)), (.ref b2)]))
  obtain ⟨c17, A17, q17, s17, m17, H17, G17⟩ := id f14
  have b17 := inb_of (j := (1 : Int32)) s17 ⟨by decide, by decide⟩
  refine own_st (fun _ k => X10.iaload hx (j := (1 : Int32)) (v := (.int x1)) (by rw [e10]; exact A17.1) (State.isArrayOf_alike hZ.alike A17.2.1) A17.2.2 b17 (Has.at H17 b17 rfl) (g := (mkF m 22 #[.val (.ref o), .val (.ref b2), .val (.int (1 : Int32))] [(.int (1 : Int32)), (.ref o), (.int (1 : Int32)), (.ref b2)])) rfl rfl (hb hby own_dprog_45_method_2_code_22) _ k) ?_
  show own_Go p.tables e below RR (T10.setTop (mkF m 23 #[.val (.ref o), .val (.ref b2), .val (.int (1 : Int32))] [(.int x1), (.int (1 : Int32)), (.ref b2)]))
  obtain ⟨c18, A18, q18, s18, m18, H18, G18⟩ := id V10
  obtain ⟨T19, h19, X19, e19, W19, st19⟩ := stI X10 hx hZ e10 A18 (j := (1 : Int32)) (inb_of s18 ⟨by decide, by decide⟩) (g := (mkF m 23 #[.val (.ref o), .val (.ref b2), .val (.int (1 : Int32))] [(.int x1), (.int (1 : Int32)), (.ref b2)])) rfl rfl (hb hby own_dprog_45_method_2_code_23)
  have V19 := Arv.set A18 q18 s18 m18 H18 G18 rfl W19 1 rfl (Nat.le_of_ble_eq_true rfl)
  have V19 : Arv Z h19 b2 k2 .int (3 : Int32) [(.int (0 : Int32)), (.int x1), (.int x0)] (.int (0 : Int32)) := V19
  have N19 := Fr.snoc X19 N10 ge2
  refine own_st st19 ?_
  have z20 : n0 ≤ h19.size := Nat.le_trans z11 (Keep.of_wr W19).1
  have kk21 : Keep h0 h19 [] := kk12.wr W19 (Or.inr sz2)
  show own_Go p.tables e below RR (T19.setTop (mkF m 24 #[.val (.ref o), .val (.ref b2), .val (.int (1 : Int32))] []))
  refine own_st (fun _ k => XS.iinc X19.here hx rfl (hb hby own_dprog_45_method_2_code_24) rfl (l' := #[.val (.ref o), .val (.ref b2), .val (.int (2 : Int32))]) rfl (XS.goto X19.here hx rfl (pc0 := 27) (pc' := 7) rfl (hb hby own_dprog_45_method_2_code_27) (by decide) (by decide) (XS.iloadN X19.here hx rfl (hb hby own_dprog_45_method_2_code_7) rfl (XS.aloadN X19.here hx rfl (hb hby own_dprog_45_method_2_code_8) rfl rfl k)))) ?_
  show own_Go p.tables e below RR (T19.setTop (mkF m 9 #[.val (.ref o), .val (.ref b2), .val (.int (2 : Int32))] [(.ref o), (.int (2 : Int32))]))
  have f22 := (f14.other W19 ne13)
  obtain ⟨c23, A23, -, s23, m23, -, -⟩ := id f22
  refine own_st (fun _ k => own_len X19 hx hZ e19 A23 s23 m23 (g := (mkF m 9 #[.val (.ref o), .val (.ref b2), .val (.int (2 : Int32))] [(.ref o), (.int (2 : Int32))])) rfl rfl (hb hby own_dprog_45_method_2_code_9) k) ?_
  show own_Go p.tables e below RR (T19.setTop (mkF m 10 #[.val (.ref o), .val (.ref b2), .val (.int (2 : Int32))] [(.int (3 : Int32)), (.int (2 : Int32))]))
  refine own_st (fun _ k => XS.icmpNo X19.here hx rfl (hb hby own_dprog_45_method_2_code_10) rfl (tlt (by decide)).2.1 (XS.aloadN X19.here hx rfl (hb hby own_dprog_45_method_2_code_13) rfl rfl (XS.aloadN X19.here hx rfl (hb hby own_dprog_45_method_2_code_14) rfl rfl k))) ?_
  show own_Go p.tables e below RR (T19.setTop (mkF m 15 #[.val (.ref o), .val (.ref b2), .val (.int (2 : Int32))] [(.ref o), (.ref b2)]))
  obtain ⟨c24, A24, -, s24, m24, -, -⟩ := id f22
  refine own_st (fun _ k => own_len X19 hx hZ e19 A24 s24 m24 (g := (mkF m 15 #[.val (.ref o), .val (.ref b2), .val (.int (2 : Int32))] [(.ref o), (.ref b2)])) rfl rfl (hb hby own_dprog_45_method_2_code_15) (XS.iconst X19.here hx rfl (hb hby own_dprog_45_method_2_code_16) (XS.isub X19.here hx rfl (hb hby own_dprog_45_method_2_code_17) rfl (XS.iloadN X19.here hx rfl (hb hby own_dprog_45_method_2_code_18) rfl (XS.isub X19.here hx rfl (hb hby own_dprog_45_method_2_code_19) rfl (XS.aloadN X19.here hx rfl (hb hby own_dprog_45_method_2_code_20) rfl rfl (XS.iloadN X19.here hx rfl (hb hby own_dprog_45_method_2_code_21) rfl k))))))) ?_
  show own_Go p.tables e below RR (T19.setTop (mkF m 22 #[.val (.ref o), .val (.ref b2), .val (.int (2 : Int32))] [(.int (2 : Int32)), (.ref o), (.int (0 : Int32)), (.ref b2)]))
  obtain ⟨c25, A25, q25, s25, m25, H25, G25⟩ := id f22
  have b25 := inb_of (j := (2 : Int32)) s25 ⟨by decide, by decide⟩
  refine own_st (fun _ k => X19.iaload hx (j := (2 : Int32)) (v := (.int x2)) (by rw [e19]; exact A25.1) (State.isArrayOf_alike hZ.alike A25.2.1) A25.2.2 b25 (Has.at H25 b25 rfl) (g := (mkF m 22 #[.val (.ref o), .val (.ref b2), .val (.int (2 : Int32))] [(.int (2 : Int32)), (.ref o), (.int (0 : Int32)), (.ref b2)])) rfl rfl (hb hby own_dprog_45_method_2_code_22) _ k) ?_
  show own_Go p.tables e below RR (T19.setTop (mkF m 23 #[.val (.ref o), .val (.ref b2), .val (.int (2 : Int32))] [(.int x2), (.int (0 : Int32)), (.ref b2)]))
  obtain ⟨c26, A26, q26, s26, m26, H26, G26⟩ := id V19
  obtain ⟨T27, h27, X27, e27, W27, st27⟩ := stI X19 hx hZ e19 A26 (j := (0 : Int32)) (inb_of s26 ⟨by decide, by decide⟩) (g := (mkF m 23 #[.val (.ref o), .val (.ref b2), .val (.int (2 : Int32))] [(.int x2), (.int (0 : Int32)), (.ref b2)])) rfl rfl (hb hby own_dprog_45_method_2_code_23)
  have V27 := Arv.set A26 q26 s26 m26 H26 G26 rfl W27 0 rfl (Nat.le_of_ble_eq_true rfl)
  have V27 : Arv Z h27 b2 k2 .int (3 : Int32) [(.int x2), (.int x1), (.int x0)] (.int (0 : Int32)) := V27
  have N27 := Fr.snoc X27 N19 ge2
  refine own_st st27 ?_
  have z28 : n0 ≤ h27.size := Nat.le_trans z20 (Keep.of_wr W27).1
  have kk29 : Keep h0 h27 [] := kk21.wr W27 (Or.inr sz2)
  show own_Go p.tables e below RR (T27.setTop (mkF m 24 #[.val (.ref o), .val (.ref b2), .val (.int (2 : Int32))] []))
  refine own_st (fun _ k => XS.iinc X27.here hx rfl (hb hby own_dprog_45_method_2_code_24) rfl (l' := #[.val (.ref o), .val (.ref b2), .val (.int (3 : Int32))]) rfl (XS.goto X27.here hx rfl (pc0 := 27) (pc' := 7) rfl (hb hby own_dprog_45_method_2_code_27) (by decide) (by decide) (XS.iloadN X27.here hx rfl (hb hby own_dprog_45_method_2_code_7) rfl (XS.aloadN X27.here hx rfl (hb hby own_dprog_45_method_2_code_8) rfl rfl k)))) ?_
  show own_Go p.tables e below RR (T27.setTop (mkF m 9 #[.val (.ref o), .val (.ref b2), .val (.int (3 : Int32))] [(.ref o), (.int (3 : Int32))]))
  have f30 := (f22.other W27 ne13)
  obtain ⟨c31, A31, -, s31, m31, -, -⟩ := id f30
  refine own_st (fun _ k => own_len X27 hx hZ e27 A31 s31 m31 (g := (mkF m 9 #[.val (.ref o), .val (.ref b2), .val (.int (3 : Int32))] [(.ref o), (.int (3 : Int32))])) rfl rfl (hb hby own_dprog_45_method_2_code_9) k) ?_
  show own_Go p.tables e below RR (T27.setTop (mkF m 10 #[.val (.ref o), .val (.ref b2), .val (.int (3 : Int32))] [(.int (3 : Int32)), (.int (3 : Int32))]))
  refine own_st (fun _ k => XS.icmpYes X27.here hx rfl (pc0 := 10) (pc' := 30) rfl (hb hby own_dprog_45_method_2_code_10) rfl (flt (by decide)).2.1 (by decide) (by decide) (XS.aloadN X27.here hx rfl (hb hby own_dprog_45_method_2_code_30) rfl rfl k)) ?_
  show own_Go p.tables e below RR (T27.setTop (mkF m 31 #[.val (.ref o), .val (.ref b2), .val (.int (3 : Int32))] [(.ref b2)]))
  obtain ⟨fs, hrt_, hrun, hended, hW, hsame⟩ := X27.leave (v := some (.ref b2)) (fun h => by rw [Bd.returns] at h; cases h)
  refine own_fin (retOut X27 hx Bd.returns rfl (Or.inr (Or.inr (Or.inr (Or.inr ⟨rfl, rfl, rfl⟩)))) (hb hby own_dprog_45_method_2_code_31) hrt_) (hRR _ ⟨_, hrun, hended, _, _, rfl, ?_, ⟨_, rfl⟩, hW, hsame.mono (by decide) (by decide)⟩)
  show own_QV3 Z o kc x0 x1 x2 r h0 n0 _ T27.heap _
  rw [e27]
  obtain rfl : b2 = r := gb2.trans hr.symm
  exact ⟨rfl, N27, kk29, _, V27⟩
theorem own_efV4 (m : MethodId) (o : Addr) : entryFrame m #[(.ref o)] 3 = mkF m 0 #[.val (.ref o), .unset, .unset] [] := by first | (simp [entryFrame, mkF, argsToLocals, Value.category]; done) | rfl
def own_QV4 (Z : State) (o : Addr) (kc : ClassId) (x0 : Int32) (x1 : Int32) (x2 : Int32) (x3 : Int32) (r : Addr) (h0 : Heap) (n0 : Nat) (v_ : Option Value) (h : Heap) (L_ : List Loc) : Prop := v_ = some (.ref r) ∧ Fr n0 L_ ∧ Keep h0 h [] ∧ ∃ k' : ClassId, Arv Z h r k' .int (4 : Int32) [(.int x3), (.int x2), (.int x1), (.int x0)] (.int (0 : Int32))
abbrev own_RV4 : Room := { frames := 0, cells := 1, slots := 4, locals := 0 }
set_option maxRecDepth 65536 in
set_option maxHeartbeats 40000000 in
theorem own_rmV4 (l : Launch) (Z : State) (a0 : Array Value) (hw : ∀ d ∈ tables_1, d.before a0 Z = true) (ws : List Jvm.Cond) (o : Addr) (kc : ClassId) (x0 : Int32) (x1 : Int32) (x2 : Int32) (x3 : Int32) (r : Addr) (h0 : Heap) (n0 : Nat) (Z0 : n0 ≤ h0.size) (A : Arv Z h0 o kc .int (4 : Int32) [(.int x0), (.int x1), (.int x2), (.int x3)] (.int (0 : Int32))) (hr : r = h0.size) :
    MetFree l (⟨"com/example/candex/candex/index/TermTrie", "reversed", "([I)[I"⟩ : MethodName) (head1 (Jvm.Cond.code (⟨"com/example/candex/candex/index/TermTrie", "reversed", "([I)[I"⟩ : MethodName) prog_45_method_2_code 3 (some (.array .int)) :: ws) own_RV4) (fun a U => a = #[(.ref o)] ∧ Z.Warmed39 U.vm ∧ U.heap = h0) (fun _ _ _ _ _ => True) (fun _ U oc_ U' => ∃ v_ L_, oc_ = .returned v_ ∧ own_QV4 Z o kc x0 x1 x2 x3 r h0 n0 v_ U'.heap L_ ∧ FrameEnd U oc_ U' L_ own_RV4.cells own_RV4.slots) := by
  refine MetFree.of_bodySF (plainFor_of_name own_pn_com_example_candex_candex_index_TermTrie) hisR ?_
  intro p e s m args below meth c s₁ Bd hml0 hP hK
  obtain ⟨rfl, hZ, hh⟩ := hP
  have hx := Bd.exec
  have hby := Bd.bytes
  have hml : c.maxLocals = 3 := hml0
  have hown : s.vm.findClass "com/example/candex/candex/index/TermTrie" = some m.cls := findClass_of_methodNamed Bd.named
  have hnm := (name_of_methodNamed Bd.named Bd.method).1
  have X0 : Stand p l e own_RV4 s m #[(.ref o)] below meth c s₁ [] 0 0 := Stand.of_body Bd
  have e0 : s₁.heap = h0 := by rw [← hh, Bd.state]; rfl
  have N0 := Fr.nil n0
  refine own_in (fun _ k => castTop (own_efV4 m o) k) ?_
  intro RR hRR
  show own_Go p.tables e below RR (s₁.setTop (mkF m 0 #[.val (.ref o), .unset, .unset] []))
  refine own_st (fun _ k => XS.aloadN X0.here hx rfl (hb hby own_dprog_45_method_2_code_0) rfl rfl k) ?_
  show own_Go p.tables e below RR (s₁.setTop (mkF m 1 #[.val (.ref o), .unset, .unset] [(.ref o)]))
  obtain ⟨c1, A1, -, s1, m1, -, -⟩ := id A
  refine own_st (fun _ k => own_len X0 hx hZ e0 A1 s1 m1 (g := (mkF m 1 #[.val (.ref o), .unset, .unset] [(.ref o)])) rfl rfl (hb hby own_dprog_45_method_2_code_1) k) ?_
  show own_Go p.tables e below RR (s₁.setTop (mkF m 2 #[.val (.ref o), .unset, .unset] [(.int (4 : Int32))]))
  obtain ⟨T2, h2, k2, X2, e2, E2, A2, st2⟩ := newP X0 hx hZ (hw _ (List.mem_of_getElem? (i := 1) rfl)) e0 (g := (mkF m 2 #[.val (.ref o), .unset, .unset] [(.int (4 : Int32))])) rfl (hb hby own_dprog_45_method_2_code_2) rfl (by decide) (cap := 4) (by decide) (by decide) (by decide) (by decide)
  obtain ⟨b2, gb2⟩ : ∃ z, z = h0.size := ⟨_, rfl⟩
  rw [← gb2] at A2 st2
  have ge2 : n0 ≤ b2 := Nat.le_trans Z0 (Nat.le_of_eq gb2.symm)
  have sz2 : h0.size ≤ b2 := Nat.le_trans (Keep.refl h0 []).1 (Nat.le_of_eq gb2.symm)
  refine own_st st2 ?_
  have z3 : n0 ≤ h2.size := Nat.le_trans Z0 E2.1
  have kk4 : Keep h0 h2 [] := (Keep.refl h0 []).ext E2
  have V2 : Arv Z h2 b2 k2 .int (4 : Int32) [(.int (0 : Int32)), (.int (0 : Int32)), (.int (0 : Int32)), (.int (0 : Int32))] (.int (0 : Int32)) := (Arv.new A2 (by decide)).pad (pad_rep [] (.int (0 : Int32)) 4)
  show own_Go p.tables e below RR (T2.setTop (mkF m 4 #[.val (.ref o), .unset, .unset] [(.ref b2)]))
  refine own_st (fun _ k => XS.astoreN X2.here hx rfl (hb hby own_dprog_45_method_2_code_4) rfl rfl (l' := #[.val (.ref o), .val (.ref b2), .unset]) rfl (XS.iconst X2.here hx rfl (hb hby own_dprog_45_method_2_code_5) (XS.istoreN X2.here hx rfl (hb hby own_dprog_45_method_2_code_6) rfl (l' := #[.val (.ref o), .val (.ref b2), .val (.int (0 : Int32))]) rfl (XS.iloadN X2.here hx rfl (hb hby own_dprog_45_method_2_code_7) rfl (XS.aloadN X2.here hx rfl (hb hby own_dprog_45_method_2_code_8) rfl rfl k))))) ?_
  show own_Go p.tables e below RR (T2.setTop (mkF m 9 #[.val (.ref o), .val (.ref b2), .val (.int (0 : Int32))] [(.ref o), (.int (0 : Int32))]))
  have f5 := (A.ext E2)
  obtain ⟨c6, A6, -, s6, m6, -, -⟩ := id f5
  refine own_st (fun _ k => own_len X2 hx hZ e2 A6 s6 m6 (g := (mkF m 9 #[.val (.ref o), .val (.ref b2), .val (.int (0 : Int32))] [(.ref o), (.int (0 : Int32))])) rfl rfl (hb hby own_dprog_45_method_2_code_9) k) ?_
  show own_Go p.tables e below RR (T2.setTop (mkF m 10 #[.val (.ref o), .val (.ref b2), .val (.int (0 : Int32))] [(.int (4 : Int32)), (.int (0 : Int32))]))
  refine own_st (fun _ k => XS.icmpNo X2.here hx rfl (hb hby own_dprog_45_method_2_code_10) rfl (tlt (by decide)).2.1 (XS.aloadN X2.here hx rfl (hb hby own_dprog_45_method_2_code_13) rfl rfl (XS.aloadN X2.here hx rfl (hb hby own_dprog_45_method_2_code_14) rfl rfl k))) ?_
  show own_Go p.tables e below RR (T2.setTop (mkF m 15 #[.val (.ref o), .val (.ref b2), .val (.int (0 : Int32))] [(.ref o), (.ref b2)]))
  obtain ⟨c7, A7, -, s7, m7, -, -⟩ := id f5
  refine own_st (fun _ k => own_len X2 hx hZ e2 A7 s7 m7 (g := (mkF m 15 #[.val (.ref o), .val (.ref b2), .val (.int (0 : Int32))] [(.ref o), (.ref b2)])) rfl rfl (hb hby own_dprog_45_method_2_code_15) (XS.iconst X2.here hx rfl (hb hby own_dprog_45_method_2_code_16) (XS.isub X2.here hx rfl (hb hby own_dprog_45_method_2_code_17) rfl (XS.iloadN X2.here hx rfl (hb hby own_dprog_45_method_2_code_18) rfl (XS.isub X2.here hx rfl (hb hby own_dprog_45_method_2_code_19) rfl (XS.aloadN X2.here hx rfl (hb hby own_dprog_45_method_2_code_20) rfl rfl (XS.iloadN X2.here hx rfl (hb hby own_dprog_45_method_2_code_21) rfl k))))))) ?_
  show own_Go p.tables e below RR (T2.setTop (mkF m 22 #[.val (.ref o), .val (.ref b2), .val (.int (0 : Int32))] [(.int (0 : Int32)), (.ref o), (.int (3 : Int32)), (.ref b2)]))
  obtain ⟨c8, A8, q8, s8, m8, H8, G8⟩ := id f5
  have b8 := inb_of (j := (0 : Int32)) s8 ⟨by decide, by decide⟩
  refine own_st (fun _ k => X2.iaload hx (j := (0 : Int32)) (v := (.int x0)) (by rw [e2]; exact A8.1) (State.isArrayOf_alike hZ.alike A8.2.1) A8.2.2 b8 (Has.at H8 b8 rfl) (g := (mkF m 22 #[.val (.ref o), .val (.ref b2), .val (.int (0 : Int32))] [(.int (0 : Int32)), (.ref o), (.int (3 : Int32)), (.ref b2)])) rfl rfl (hb hby own_dprog_45_method_2_code_22) _ k) ?_
  show own_Go p.tables e below RR (T2.setTop (mkF m 23 #[.val (.ref o), .val (.ref b2), .val (.int (0 : Int32))] [(.int x0), (.int (3 : Int32)), (.ref b2)]))
  obtain ⟨c9, A9, q9, s9, m9, H9, G9⟩ := id V2
  obtain ⟨T10, h10, X10, e10, W10, st10⟩ := stI X2 hx hZ e2 A9 (j := (3 : Int32)) (inb_of s9 ⟨by decide, by decide⟩) (g := (mkF m 23 #[.val (.ref o), .val (.ref b2), .val (.int (0 : Int32))] [(.int x0), (.int (3 : Int32)), (.ref b2)])) rfl rfl (hb hby own_dprog_45_method_2_code_23)
  have V10 := Arv.set A9 q9 s9 m9 H9 G9 rfl W10 3 rfl (Nat.le_of_ble_eq_true rfl)
  have V10 : Arv Z h10 b2 k2 .int (4 : Int32) [(.int (0 : Int32)), (.int (0 : Int32)), (.int (0 : Int32)), (.int x0)] (.int (0 : Int32)) := V10
  have N10 := Fr.snoc X10 N0 ge2
  refine own_st st10 ?_
  have z11 : n0 ≤ h10.size := Nat.le_trans z3 (Keep.of_wr W10).1
  have kk12 : Keep h0 h10 [] := kk4.wr W10 (Or.inr sz2)
  show own_Go p.tables e below RR (T10.setTop (mkF m 24 #[.val (.ref o), .val (.ref b2), .val (.int (0 : Int32))] []))
  refine own_st (fun _ k => XS.iinc X10.here hx rfl (hb hby own_dprog_45_method_2_code_24) rfl (l' := #[.val (.ref o), .val (.ref b2), .val (.int (1 : Int32))]) rfl (XS.goto X10.here hx rfl (pc0 := 27) (pc' := 7) rfl (hb hby own_dprog_45_method_2_code_27) (by decide) (by decide) (XS.iloadN X10.here hx rfl (hb hby own_dprog_45_method_2_code_7) rfl (XS.aloadN X10.here hx rfl (hb hby own_dprog_45_method_2_code_8) rfl rfl k)))) ?_
  show own_Go p.tables e below RR (T10.setTop (mkF m 9 #[.val (.ref o), .val (.ref b2), .val (.int (1 : Int32))] [(.ref o), (.int (1 : Int32))]))
  have ne13 : o ≠ b2 := (Nat.ne_of_lt (Nat.lt_of_lt_of_le A.lt (Nat.le_of_eq gb2.symm)))
  have f14 := (f5.other W10 ne13)
  obtain ⟨c15, A15, -, s15, m15, -, -⟩ := id f14
  refine own_st (fun _ k => own_len X10 hx hZ e10 A15 s15 m15 (g := (mkF m 9 #[.val (.ref o), .val (.ref b2), .val (.int (1 : Int32))] [(.ref o), (.int (1 : Int32))])) rfl rfl (hb hby own_dprog_45_method_2_code_9) k) ?_
  show own_Go p.tables e below RR (T10.setTop (mkF m 10 #[.val (.ref o), .val (.ref b2), .val (.int (1 : Int32))] [(.int (4 : Int32)), (.int (1 : Int32))]))
  refine own_st (fun _ k => XS.icmpNo X10.here hx rfl (hb hby own_dprog_45_method_2_code_10) rfl (tlt (by decide)).2.1 (XS.aloadN X10.here hx rfl (hb hby own_dprog_45_method_2_code_13) rfl rfl (XS.aloadN X10.here hx rfl (hb hby own_dprog_45_method_2_code_14) rfl rfl k))) ?_
  show own_Go p.tables e below RR (T10.setTop (mkF m 15 #[.val (.ref o), .val (.ref b2), .val (.int (1 : Int32))] [(.ref o), (.ref b2)]))
  obtain ⟨c16, A16, -, s16, m16, -, -⟩ := id f14
  refine own_st (fun _ k => own_len X10 hx hZ e10 A16 s16 m16 (g := (mkF m 15 #[.val (.ref o), .val (.ref b2), .val (.int (1 : Int32))] [(.ref o), (.ref b2)])) rfl rfl (hb hby own_dprog_45_method_2_code_15) (XS.iconst X10.here hx rfl (hb hby own_dprog_45_method_2_code_16) (XS.isub X10.here hx rfl (hb hby own_dprog_45_method_2_code_17) rfl (XS.iloadN X10.here hx rfl (hb hby own_dprog_45_method_2_code_18) rfl (XS.isub X10.here hx rfl (hb hby own_dprog_45_method_2_code_19) rfl (XS.aloadN X10.here hx rfl (hb hby own_dprog_45_method_2_code_20) rfl rfl (XS.iloadN X10.here hx rfl (hb hby own_dprog_45_method_2_code_21) rfl k))))))) ?_
  show own_Go p.tables e below RR (T10.setTop (mkF m 22 #[.val (.ref o), .val (.ref b2), .val (.int (1 : Int32))] [(.int (1 : Int32)), (.ref o), (.int (2 : Int32)), (.ref b2)]))
  obtain ⟨c17, A17, q17, s17, m17, H17, G17⟩ := id f14
  have b17 := inb_of (j := (1 : Int32)) s17 ⟨by decide, by decide⟩
  refine own_st (fun _ k => X10.iaload hx (j := (1 : Int32)) (v := (.int x1)) (by rw [e10]; exact A17.1) (State.isArrayOf_alike hZ.alike A17.2.1) A17.2.2 b17 (Has.at H17 b17 rfl) (g := (mkF m 22 #[.val (.ref o), .val (.ref b2), .val (.int (1 : Int32))] [(.int (1 : Int32)), (.ref o), (.int (2 : Int32)), (.ref b2)])) rfl rfl (hb hby own_dprog_45_method_2_code_22) _ k) ?_
  show own_Go p.tables e below RR (T10.setTop (mkF m 23 #[.val (.ref o), .val (.ref b2), .val (.int (1 : Int32))] [(.int x1), (.int (2 : Int32)), (.ref b2)]))
  obtain ⟨c18, A18, q18, s18, m18, H18, G18⟩ := id V10
  obtain ⟨T19, h19, X19, e19, W19, st19⟩ := stI X10 hx hZ e10 A18 (j := (2 : Int32)) (inb_of s18 ⟨by decide, by decide⟩) (g := (mkF m 23 #[.val (.ref o), .val (.ref b2), .val (.int (1 : Int32))] [(.int x1), (.int (2 : Int32)), (.ref b2)])) rfl rfl (hb hby own_dprog_45_method_2_code_23)
  have V19 := Arv.set A18 q18 s18 m18 H18 G18 rfl W19 2 rfl (Nat.le_of_ble_eq_true rfl)
  have V19 : Arv Z h19 b2 k2 .int (4 : Int32) [(.int (0 : Int32)), (.int (0 : Int32)), (.int x1), (.int x0)] (.int (0 : Int32)) := V19
  have N19 := Fr.snoc X19 N10 ge2
  refine own_st st19 ?_
  have z20 : n0 ≤ h19.size := Nat.le_trans z11 (Keep.of_wr W19).1
  have kk21 : Keep h0 h19 [] := kk12.wr W19 (Or.inr sz2)
  show own_Go p.tables e below RR (T19.setTop (mkF m 24 #[.val (.ref o), .val (.ref b2), .val (.int (1 : Int32))] []))
  refine own_st (fun _ k => XS.iinc X19.here hx rfl (hb hby own_dprog_45_method_2_code_24) rfl (l' := #[.val (.ref o), .val (.ref b2), .val (.int (2 : Int32))]) rfl (XS.goto X19.here hx rfl (pc0 := 27) (pc' := 7) rfl (hb hby own_dprog_45_method_2_code_27) (by decide) (by decide) (XS.iloadN X19.here hx rfl (hb hby own_dprog_45_method_2_code_7) rfl (XS.aloadN X19.here hx rfl (hb hby own_dprog_45_method_2_code_8) rfl rfl k)))) ?_
  show own_Go p.tables e below RR (T19.setTop (mkF m 9 #[.val (.ref o), .val (.ref b2), .val (.int (2 : Int32))] [(.ref o), (.int (2 : Int32))]))
  have f22 := (f14.other W19 ne13)
  obtain ⟨c23, A23, -, s23, m23, -, -⟩ := id f22
  refine own_st (fun _ k => own_len X19 hx hZ e19 A23 s23 m23 (g := (mkF m 9 #[.val (.ref o), .val (.ref b2), .val (.int (2 : Int32))] [(.ref o), (.int (2 : Int32))])) rfl rfl (hb hby own_dprog_45_method_2_code_9) k) ?_
  show own_Go p.tables e below RR (T19.setTop (mkF m 10 #[.val (.ref o), .val (.ref b2), .val (.int (2 : Int32))] [(.int (4 : Int32)), (.int (2 : Int32))]))
  refine own_st (fun _ k => XS.icmpNo X19.here hx rfl (hb hby own_dprog_45_method_2_code_10) rfl (tlt (by decide)).2.1 (XS.aloadN X19.here hx rfl (hb hby own_dprog_45_method_2_code_13) rfl rfl (XS.aloadN X19.here hx rfl (hb hby own_dprog_45_method_2_code_14) rfl rfl k))) ?_
  show own_Go p.tables e below RR (T19.setTop (mkF m 15 #[.val (.ref o), .val (.ref b2), .val (.int (2 : Int32))] [(.ref o), (.ref b2)]))
  obtain ⟨c24, A24, -, s24, m24, -, -⟩ := id f22
  refine own_st (fun _ k => own_len X19 hx hZ e19 A24 s24 m24 (g := (mkF m 15 #[.val (.ref o), .val (.ref b2), .val (.int (2 : Int32))] [(.ref o), (.ref b2)])) rfl rfl (hb hby own_dprog_45_method_2_code_15) (XS.iconst X19.here hx rfl (hb hby own_dprog_45_method_2_code_16) (XS.isub X19.here hx rfl (hb hby own_dprog_45_method_2_code_17) rfl (XS.iloadN X19.here hx rfl (hb hby own_dprog_45_method_2_code_18) rfl (XS.isub X19.here hx rfl (hb hby own_dprog_45_method_2_code_19) rfl (XS.aloadN X19.here hx rfl (hb hby own_dprog_45_method_2_code_20) rfl rfl (XS.iloadN X19.here hx rfl (hb hby own_dprog_45_method_2_code_21) rfl k))))))) ?_
  show own_Go p.tables e below RR (T19.setTop (mkF m 22 #[.val (.ref o), .val (.ref b2), .val (.int (2 : Int32))] [(.int (2 : Int32)), (.ref o), (.int (1 : Int32)), (.ref b2)]))
  obtain ⟨c25, A25, q25, s25, m25, H25, G25⟩ := id f22
  have b25 := inb_of (j := (2 : Int32)) s25 ⟨by decide, by decide⟩
  refine own_st (fun _ k => X19.iaload hx (j := (2 : Int32)) (v := (.int x2)) (by rw [e19]; exact A25.1) (State.isArrayOf_alike hZ.alike A25.2.1) A25.2.2 b25 (Has.at H25 b25 rfl) (g := (mkF m 22 #[.val (.ref o), .val (.ref b2), .val (.int (2 : Int32))] [(.int (2 : Int32)), (.ref o), (.int (1 : Int32)), (.ref b2)])) rfl rfl (hb hby own_dprog_45_method_2_code_22) _ k) ?_
  show own_Go p.tables e below RR (T19.setTop (mkF m 23 #[.val (.ref o), .val (.ref b2), .val (.int (2 : Int32))] [(.int x2), (.int (1 : Int32)), (.ref b2)]))
  obtain ⟨c26, A26, q26, s26, m26, H26, G26⟩ := id V19
  obtain ⟨T27, h27, X27, e27, W27, st27⟩ := stI X19 hx hZ e19 A26 (j := (1 : Int32)) (inb_of s26 ⟨by decide, by decide⟩) (g := (mkF m 23 #[.val (.ref o), .val (.ref b2), .val (.int (2 : Int32))] [(.int x2), (.int (1 : Int32)), (.ref b2)])) rfl rfl (hb hby own_dprog_45_method_2_code_23)
  have V27 := Arv.set A26 q26 s26 m26 H26 G26 rfl W27 1 rfl (Nat.le_of_ble_eq_true rfl)
  have V27 : Arv Z h27 b2 k2 .int (4 : Int32) [(.int (0 : Int32)), (.int x2), (.int x1), (.int x0)] (.int (0 : Int32)) := V27
  have N27 := Fr.snoc X27 N19 ge2
  refine own_st st27 ?_
  have z28 : n0 ≤ h27.size := Nat.le_trans z20 (Keep.of_wr W27).1
  have kk29 : Keep h0 h27 [] := kk21.wr W27 (Or.inr sz2)
  show own_Go p.tables e below RR (T27.setTop (mkF m 24 #[.val (.ref o), .val (.ref b2), .val (.int (2 : Int32))] []))
  refine own_st (fun _ k => XS.iinc X27.here hx rfl (hb hby own_dprog_45_method_2_code_24) rfl (l' := #[.val (.ref o), .val (.ref b2), .val (.int (3 : Int32))]) rfl (XS.goto X27.here hx rfl (pc0 := 27) (pc' := 7) rfl (hb hby own_dprog_45_method_2_code_27) (by decide) (by decide) (XS.iloadN X27.here hx rfl (hb hby own_dprog_45_method_2_code_7) rfl (XS.aloadN X27.here hx rfl (hb hby own_dprog_45_method_2_code_8) rfl rfl k)))) ?_
  show own_Go p.tables e below RR (T27.setTop (mkF m 9 #[.val (.ref o), .val (.ref b2), .val (.int (3 : Int32))] [(.ref o), (.int (3 : Int32))]))
  have f30 := (f22.other W27 ne13)
  obtain ⟨c31, A31, -, s31, m31, -, -⟩ := id f30
  refine own_st (fun _ k => own_len X27 hx hZ e27 A31 s31 m31 (g := (mkF m 9 #[.val (.ref o), .val (.ref b2), .val (.int (3 : Int32))] [(.ref o), (.int (3 : Int32))])) rfl rfl (hb hby own_dprog_45_method_2_code_9) k) ?_
  show own_Go p.tables e below RR (T27.setTop (mkF m 10 #[.val (.ref o), .val (.ref b2), .val (.int (3 : Int32))] [(.int (4 : Int32)), (.int (3 : Int32))]))
  refine own_st (fun _ k => XS.icmpNo X27.here hx rfl (hb hby own_dprog_45_method_2_code_10) rfl (tlt (by decide)).2.1 (XS.aloadN X27.here hx rfl (hb hby own_dprog_45_method_2_code_13) rfl rfl (XS.aloadN X27.here hx rfl (hb hby own_dprog_45_method_2_code_14) rfl rfl k))) ?_
  show own_Go p.tables e below RR (T27.setTop (mkF m 15 #[.val (.ref o), .val (.ref b2), .val (.int (3 : Int32))] [(.ref o), (.ref b2)]))
  obtain ⟨c32, A32, -, s32, m32, -, -⟩ := id f30
  refine own_st (fun _ k => own_len X27 hx hZ e27 A32 s32 m32 (g := (mkF m 15 #[.val (.ref o), .val (.ref b2), .val (.int (3 : Int32))] [(.ref o), (.ref b2)])) rfl rfl (hb hby own_dprog_45_method_2_code_15) (XS.iconst X27.here hx rfl (hb hby own_dprog_45_method_2_code_16) (XS.isub X27.here hx rfl (hb hby own_dprog_45_method_2_code_17) rfl (XS.iloadN X27.here hx rfl (hb hby own_dprog_45_method_2_code_18) rfl (XS.isub X27.here hx rfl (hb hby own_dprog_45_method_2_code_19) rfl (XS.aloadN X27.here hx rfl (hb hby own_dprog_45_method_2_code_20) rfl rfl (XS.iloadN X27.here hx rfl (hb hby own_dprog_45_method_2_code_21) rfl k))))))) ?_
  show own_Go p.tables e below RR (T27.setTop (mkF m 22 #[.val (.ref o), .val (.ref b2), .val (.int (3 : Int32))] [(.int (3 : Int32)), (.ref o), (.int (0 : Int32)), (.ref b2)]))
  obtain ⟨c33, A33, q33, s33, m33, H33, G33⟩ := id f30
  have b33 := inb_of (j := (3 : Int32)) s33 ⟨by decide, by decide⟩
  refine own_st (fun _ k => X27.iaload hx (j := (3 : Int32)) (v := (.int x3)) (by rw [e27]; exact A33.1) (State.isArrayOf_alike hZ.alike A33.2.1) A33.2.2 b33 (Has.at H33 b33 rfl) (g := (mkF m 22 #[.val (.ref o), .val (.ref b2), .val (.int (3 : Int32))] [(.int (3 : Int32)), (.ref o), (.int (0 : Int32)), (.ref b2)])) rfl rfl (hb hby own_dprog_45_method_2_code_22) _ k) ?_
  show own_Go p.tables e below RR (T27.setTop (mkF m 23 #[.val (.ref o), .val (.ref b2), .val (.int (3 : Int32))] [(.int x3), (.int (0 : Int32)), (.ref b2)]))
  obtain ⟨c34, A34, q34, s34, m34, H34, G34⟩ := id V27
  obtain ⟨T35, h35, X35, e35, W35, st35⟩ := stI X27 hx hZ e27 A34 (j := (0 : Int32)) (inb_of s34 ⟨by decide, by decide⟩) (g := (mkF m 23 #[.val (.ref o), .val (.ref b2), .val (.int (3 : Int32))] [(.int x3), (.int (0 : Int32)), (.ref b2)])) rfl rfl (hb hby own_dprog_45_method_2_code_23)
  have V35 := Arv.set A34 q34 s34 m34 H34 G34 rfl W35 0 rfl (Nat.le_of_ble_eq_true rfl)
  have V35 : Arv Z h35 b2 k2 .int (4 : Int32) [(.int x3), (.int x2), (.int x1), (.int x0)] (.int (0 : Int32)) := V35
  have N35 := Fr.snoc X35 N27 ge2
  refine own_st st35 ?_
  have z36 : n0 ≤ h35.size := Nat.le_trans z28 (Keep.of_wr W35).1
  have kk37 : Keep h0 h35 [] := kk29.wr W35 (Or.inr sz2)
  show own_Go p.tables e below RR (T35.setTop (mkF m 24 #[.val (.ref o), .val (.ref b2), .val (.int (3 : Int32))] []))
  refine own_st (fun _ k => XS.iinc X35.here hx rfl (hb hby own_dprog_45_method_2_code_24) rfl (l' := #[.val (.ref o), .val (.ref b2), .val (.int (4 : Int32))]) rfl (XS.goto X35.here hx rfl (pc0 := 27) (pc' := 7) rfl (hb hby own_dprog_45_method_2_code_27) (by decide) (by decide) (XS.iloadN X35.here hx rfl (hb hby own_dprog_45_method_2_code_7) rfl (XS.aloadN X35.here hx rfl (hb hby own_dprog_45_method_2_code_8) rfl rfl k)))) ?_
  show own_Go p.tables e below RR (T35.setTop (mkF m 9 #[.val (.ref o), .val (.ref b2), .val (.int (4 : Int32))] [(.ref o), (.int (4 : Int32))]))
  have f38 := (f30.other W35 ne13)
  obtain ⟨c39, A39, -, s39, m39, -, -⟩ := id f38
  refine own_st (fun _ k => own_len X35 hx hZ e35 A39 s39 m39 (g := (mkF m 9 #[.val (.ref o), .val (.ref b2), .val (.int (4 : Int32))] [(.ref o), (.int (4 : Int32))])) rfl rfl (hb hby own_dprog_45_method_2_code_9) k) ?_
  show own_Go p.tables e below RR (T35.setTop (mkF m 10 #[.val (.ref o), .val (.ref b2), .val (.int (4 : Int32))] [(.int (4 : Int32)), (.int (4 : Int32))]))
  refine own_st (fun _ k => XS.icmpYes X35.here hx rfl (pc0 := 10) (pc' := 30) rfl (hb hby own_dprog_45_method_2_code_10) rfl (flt (by decide)).2.1 (by decide) (by decide) (XS.aloadN X35.here hx rfl (hb hby own_dprog_45_method_2_code_30) rfl rfl k)) ?_
  show own_Go p.tables e below RR (T35.setTop (mkF m 31 #[.val (.ref o), .val (.ref b2), .val (.int (4 : Int32))] [(.ref b2)]))
  obtain ⟨fs, hrt_, hrun, hended, hW, hsame⟩ := X35.leave (v := some (.ref b2)) (fun h => by rw [Bd.returns] at h; cases h)
  refine own_fin (retOut X35 hx Bd.returns rfl (Or.inr (Or.inr (Or.inr (Or.inr ⟨rfl, rfl, rfl⟩)))) (hb hby own_dprog_45_method_2_code_31) hrt_) (hRR _ ⟨_, hrun, hended, _, _, rfl, ?_, ⟨_, rfl⟩, hW, hsame.mono (by decide) (by decide)⟩)
  show own_QV4 Z o kc x0 x1 x2 x3 r h0 n0 _ T35.heap _
  rw [e35]
  obtain rfl : b2 = r := gb2.trans hr.symm
  exact ⟨rfl, N35, kk37, _, V35⟩
theorem own_pd___I__I : parseMethodDescriptor "([I)[I" = some ⟨[(.array .int)], some (.array .int)⟩ := by decide +kernel
theorem own_pd__IIIII_I : parseMethodDescriptor "(IIIII)I" = some ⟨[.int, .int, .int, .int, .int], some .int⟩ := by decide +kernel
theorem own_ef0 (m : MethodId) (p1 : Int32) (p2 : Int32) (p3 : Int32) (p4 : Int32) (p5 : Int32) : entryFrame m #[(.int p1), (.int p2), (.int p3), (.int p4), (.int p5)] maxLocals = mkF m 0 #[.val (.int p1), .val (.int p2), .val (.int p3), .val (.int p4), .val (.int p5), .unset, .unset, .unset, .unset] [] := by first | (simp [entryFrame, mkF, argsToLocals, Value.category, maxLocals]; done) | rfl
def own_Q0 (Z : State) (p1 : Int32) (p2 : Int32) (p3 : Int32) (p4 : Int32) (p5 : Int32) (h0 : Heap) (n0 : Nat) (v_ : Option Value) (h : Heap) (L_ : List Loc) : Prop := v_ = some (.int 1) ∧ Fr n0 L_
set_option maxRecDepth 65536 in
set_option maxHeartbeats 40000000 in
theorem own_rm0 (l : Launch) (Z : State) (a0 : Array Value) (hw : ∀ d ∈ tables_1, d.before a0 Z = true) (ws : List Jvm.Cond) (p1 : Int32) (p2 : Int32) (p3 : Int32) (p4 : Int32) (p5 : Int32) (h0 : Heap) (n0 : Nat) (Z0 : n0 ≤ h0.size)  :
    MetFree l x (head1 (Jvm.Cond.code x code maxLocals ret :: ws) room_1) (fun a U => a = #[(.int p1), (.int p2), (.int p3), (.int p4), (.int p5)] ∧ Z.Warmed39 U.vm ∧ U.heap = h0) (fun _ _ _ _ _ => True) (fun _ U oc_ U' => ∃ v_ L_, oc_ = .returned v_ ∧ own_Q0 Z p1 p2 p3 p4 p5 h0 n0 v_ U'.heap L_ ∧ FrameEnd U oc_ U' L_ room_1.cells room_1.slots) := by
  refine MetFree.of_bodySF (plainFor_of_name own_pn_com_example_candex_candex_index_TermTrieReversedPinLaw) hisR ?_
  intro p e s m args below meth c s₁ Bd hml0 hP hK
  obtain ⟨rfl, hZ, hh⟩ := hP
  have hx := Bd.exec
  have hby := Bd.bytes
  have hml : c.maxLocals = 9 := hml0
  have hown : s.vm.findClass "com/example/candex/candex/index/TermTrieReversedPinLaw" = some m.cls := findClass_of_methodNamed Bd.named
  have hnm := (name_of_methodNamed Bd.named Bd.method).1
  have X0 : Stand p l e room_1 s m #[(.int p1), (.int p2), (.int p3), (.int p4), (.int p5)] below meth c s₁ [] 0 0 := Stand.of_body Bd
  have e0 : s₁.heap = h0 := by rw [← hh, Bd.state]; rfl
  have N0 := Fr.nil n0
  refine own_in (fun _ k => castTop (own_ef0 m p1 p2 p3 p4 p5) k) ?_
  intro RR hRR
  show own_Go p.tables e below RR (s₁.setTop (mkF m 0 #[.val (.int p1), .val (.int p2), .val (.int p3), .val (.int p4), .val (.int p5), .unset, .unset, .unset, .unset] []))
  refine own_st (fun _ k => XS.iloadN X0.here hx rfl (hb hby at_0) rfl (X0.ldcInt hx hown (mvT hZ (hw _ (List.mem_of_getElem? (i := 0) rfl))) (g := (mkF m 1 #[.val (.int p1), .val (.int p2), .val (.int p3), .val (.int p4), .val (.int p5), .unset, .unset, .unset, .unset] [(.int p1)])) rfl (hb hby at_1) _ (XS.iand X0.here hx rfl (hb hby at_3) rfl (XS.iconst X0.here hx rfl (hb hby at_4) k)))) ?_
  show own_Go p.tables e below RR (s₁.setTop (mkF m 5 #[.val (.int p1), .val (.int p2), .val (.int p3), .val (.int p4), .val (.int p5), .unset, .unset, .unset, .unset] [(.int (5 : Int32)), (.int (p1 &&& (2147483647 : Int32)))]))
  refine own_st (fun _ k => XS.irem X0.here hx rfl (hb hby at_5) rfl (by decide) k) ?_
  show own_Go p.tables e below RR (s₁.setTop (mkF m 6 #[.val (.int p1), .val (.int p2), .val (.int p3), .val (.int p4), .val (.int p5), .unset, .unset, .unset, .unset] [(.int ((p1 &&& (2147483647 : Int32)) - ((p1 &&& (2147483647 : Int32)) / (5 : Int32)) * (5 : Int32)))]))
  rw [irem_eq_mod (p1 &&& (2147483647 : Int32)) (5 : Int32)]
  show own_Go p.tables e below RR (s₁.setTop (mkF m 6 #[.val (.int p1), .val (.int p2), .val (.int p3), .val (.int p4), .val (.int p5), .unset, .unset, .unset, .unset] [(.int ((p1 &&& (2147483647 : Int32)) % (5 : Int32)))]))
  generalize gv1 : ((p1 &&& (2147483647 : Int32)) % (5 : Int32)) = v1
  show own_Go p.tables e below RR (s₁.setTop (mkF m 6 #[.val (.int p1), .val (.int p2), .val (.int p3), .val (.int p4), .val (.int p5), .unset, .unset, .unset, .unset] [(.int v1)]))
  refine own_st (fun _ k => XS.istore X0.here hx rfl (hb hby at_6) rfl (l' := #[.val (.int p1), .val (.int p2), .val (.int p3), .val (.int p4), .val (.int p5), .val (.int v1), .unset, .unset, .unset]) rfl k) ?_
  show own_Go p.tables e below RR (s₁.setTop (mkF m 8 #[.val (.int p1), .val (.int p2), .val (.int p3), .val (.int p4), .val (.int p5), .val (.int v1), .unset, .unset, .unset] []))
  show own_Go p.tables e below RR (s₁.setTop (mkF m 8 #[.val (.int p1), .val (.int p2), .val (.int p3), .val (.int p4), .val (.int p5), .val (.int v1), .unset, .unset, .unset] []))
  show own_Go p.tables e below RR (s₁.setTop (mkF m 8 #[.val (.int p1), .val (.int p2), .val (.int p3), .val (.int p4), .val (.int p5), .val (.int v1), .unset, .unset, .unset] []))
  rcases own_five gv1 with rfl | rfl | rfl | rfl | rfl
  · show own_Go p.tables e below RR (s₁.setTop (mkF m 8 #[.val (.int p1), .val (.int p2), .val (.int p3), .val (.int p4), .val (.int p5), .val (.int (0 : Int32)), .unset, .unset, .unset] []))
    show own_Go p.tables e below RR (s₁.setTop (mkF m 8 #[.val (.int p1), .val (.int p2), .val (.int p3), .val (.int p4), .val (.int p5), .val (.int (0 : Int32)), .unset, .unset, .unset] []))
    refine own_st (fun _ k => XS.iload X0.here hx rfl (hb hby at_8) rfl k) ?_
    show own_Go p.tables e below RR (s₁.setTop (mkF m 10 #[.val (.int p1), .val (.int p2), .val (.int p3), .val (.int p4), .val (.int p5), .val (.int (0 : Int32)), .unset, .unset, .unset] [(.int (0 : Int32))]))
    obtain ⟨T2, h2, k2, X2, e2, E2, A2, st2⟩ := newP X0 hx hZ (hw _ (List.mem_of_getElem? (i := 1) rfl)) e0 (g := (mkF m 10 #[.val (.int p1), .val (.int p2), .val (.int p3), .val (.int p4), .val (.int p5), .val (.int (0 : Int32)), .unset, .unset, .unset] [(.int (0 : Int32))])) rfl (hb hby at_10) rfl (by decide) (cap := 0) (by decide) (by decide) (by decide) (by decide)
    obtain ⟨b2, gb2⟩ : ∃ z, z = h0.size := ⟨_, rfl⟩
    rw [← gb2] at A2 st2
    have ge2 : n0 ≤ b2 := Nat.le_trans Z0 (Nat.le_of_eq gb2.symm)
    refine own_st st2 ?_
    have z3 : n0 ≤ h2.size := Nat.le_trans Z0 E2.1
    have V2 : Arv Z h2 b2 k2 .int (0 : Int32) [] (.int (0 : Int32)) := (Arv.new A2 (by decide)).pad (pad_rep [] (.int (0 : Int32)) 0)
    show own_Go p.tables e below RR (T2.setTop (mkF m 12 #[.val (.int p1), .val (.int p2), .val (.int p3), .val (.int p4), .val (.int p5), .val (.int (0 : Int32)), .unset, .unset, .unset] [(.ref b2)]))
    refine own_st (fun _ k => XS.astore X2.here hx rfl (hb hby at_12) rfl rfl (l' := #[.val (.int p1), .val (.int p2), .val (.int p3), .val (.int p4), .val (.int p5), .val (.int (0 : Int32)), .val (.ref b2), .unset, .unset]) rfl (XS.iload X2.here hx rfl (hb hby at_14) rfl k)) ?_
    show own_Go p.tables e below RR (T2.setTop (mkF m 16 #[.val (.int p1), .val (.int p2), .val (.int p3), .val (.int p4), .val (.int p5), .val (.int (0 : Int32)), .val (.ref b2), .unset, .unset] [(.int (0 : Int32))]))
    refine own_st (fun _ k => XS.ifYes X2.here hx rfl (pc0 := 16) (pc' := 24) rfl (hb hby at_16) rfl ((if0 _ _).trans (flt (by decide)).2.2.2) (by decide) (by decide) (XS.iload X2.here hx rfl (hb hby at_24) rfl (XS.iconst X2.here hx rfl (hb hby at_26) k))) ?_
    show own_Go p.tables e below RR (T2.setTop (mkF m 27 #[.val (.int p1), .val (.int p2), .val (.int p3), .val (.int p4), .val (.int p5), .val (.int (0 : Int32)), .val (.ref b2), .unset, .unset] [(.int (1 : Int32)), (.int (0 : Int32))]))
    refine own_st (fun _ k => XS.icmpYes X2.here hx rfl (pc0 := 27) (pc' := 35) rfl (hb hby at_27) rfl (flt (by decide)).2.2.2 (by decide) (by decide) (XS.iload X2.here hx rfl (hb hby at_35) rfl (XS.iconst X2.here hx rfl (hb hby at_37) k))) ?_
    show own_Go p.tables e below RR (T2.setTop (mkF m 38 #[.val (.int p1), .val (.int p2), .val (.int p3), .val (.int p4), .val (.int p5), .val (.int (0 : Int32)), .val (.ref b2), .unset, .unset] [(.int (2 : Int32)), (.int (0 : Int32))]))
    refine own_st (fun _ k => XS.icmpYes X2.here hx rfl (pc0 := 38) (pc' := 46) rfl (hb hby at_38) rfl (flt (by decide)).2.2.2 (by decide) (by decide) (XS.iload X2.here hx rfl (hb hby at_46) rfl (XS.iconst X2.here hx rfl (hb hby at_48) k))) ?_
    show own_Go p.tables e below RR (T2.setTop (mkF m 49 #[.val (.int p1), .val (.int p2), .val (.int p3), .val (.int p4), .val (.int p5), .val (.int (0 : Int32)), .val (.ref b2), .unset, .unset] [(.int (3 : Int32)), (.int (0 : Int32))]))
    refine own_st (fun _ k => XS.icmpYes X2.here hx rfl (pc0 := 49) (pc' := 58) rfl (hb hby at_49) rfl (flt (by decide)).2.2.2 (by decide) (by decide) (XS.aload X2.here hx rfl (hb hby at_58) rfl rfl k)) ?_
    show own_Go p.tables e below RR (T2.setTop (mkF m 60 #[.val (.int p1), .val (.int p2), .val (.int p3), .val (.int p4), .val (.int p5), .val (.int (0 : Int32)), .val (.ref b2), .unset, .unset] [(.ref b2)]))
    obtain ⟨b4, gb4⟩ : ∃ z, z = h2.size := ⟨_, rfl⟩
    have ge4 : n0 ≤ b4 := Nat.le_trans z3 (Nat.le_of_eq gb4.symm)
    obtain ⟨_, _, ⟨T5, L5, k5, n5⟩, -, X5, ⟨Lc5, hQ5, l5, y5, z5⟩, st5⟩ := Jvm.LawKit.callS X2 hx (y := (⟨"com/example/candex/candex/index/TermTrie", "reversed", "([I)[I"⟩ : MethodName)) hown (mvT hZ (hw _ (List.mem_of_getElem? (i := 2) rfl))) (mvT hZ (hw _ (List.mem_of_getElem? (i := 3) rfl))) (mvT hZ (hw _ (List.mem_of_getElem? (i := 4) rfl))) (mvT hZ (hw _ (List.mem_of_getElem? (i := 5) rfl))) (by decide) (backOf (W := 0) (own_rmV0 l Z a0 hw [] b2 k2 b4 h2 n0 z3 V2 gb4) hZ (hw _ (List.mem_of_getElem? (i := 5) rfl)) (hw _ (List.mem_of_getElem? (i := 4) rfl)) (by decide) (by decide)) (g := (mkF m 60 #[.val (.int p1), .val (.int p2), .val (.int p3), .val (.int p4), .val (.int p5), .val (.int (0 : Int32)), .val (.ref b2), .unset, .unset] [(.ref b2)])) rfl (by rw [hml]; rfl) (argsL := [(.ref b2)]) (rest := []) (lenOf own_pd___I__I rfl) rfl (by show 2 * 0 + _ ≤ _; exact Nat.le_of_eq rfl) (hb hby at_60) (fun _ _ => ⟨rfl, e2, (by decide : 1 + 1 ≤ _), (by decide : 0 + 0 ≤ _)⟩)
    dsimp only [Pt.U, Pt.locs, Pt.cells, Pt.slots] at X5 l5 y5 z5 st5 hQ5
    subst l5 y5 z5
    obtain ⟨rfl, Nq5, Kq5, kq5, Vq5⟩ := hQ5
    have N5 := Fr.app N0 Nq5
    refine own_st st5 ?_
    have z6 : n0 ≤ T5.heap.size := Nat.le_trans z3 Kq5.1
    show own_Go p.tables e below RR (T5.setTop (mkF m 63 #[.val (.int p1), .val (.int p2), .val (.int p3), .val (.int p4), .val (.int p5), .val (.int (0 : Int32)), .val (.ref b2), .unset, .unset] [(.ref b4)]))
    refine own_st (fun _ k => XS.astore X5.here hx rfl (hb hby at_63) rfl rfl (l' := #[.val (.int p1), .val (.int p2), .val (.int p3), .val (.int p4), .val (.int p5), .val (.int (0 : Int32)), .val (.ref b2), .val (.ref b4), .unset]) rfl (XS.aload X5.here hx rfl (hb hby at_65) rfl rfl k)) ?_
    show own_Go p.tables e below RR (T5.setTop (mkF m 67 #[.val (.int p1), .val (.int p2), .val (.int p3), .val (.int p4), .val (.int p5), .val (.int (0 : Int32)), .val (.ref b2), .val (.ref b4), .unset] [(.ref b4)]))
    refine own_st (fun _ k => XS.ifnullNo X5.here hx rfl (hb hby at_67) rfl (XS.aload X5.here hx rfl (hb hby at_70) rfl rfl k)) ?_
    show own_Go p.tables e below RR (T5.setTop (mkF m 72 #[.val (.int p1), .val (.int p2), .val (.int p3), .val (.int p4), .val (.int p5), .val (.int (0 : Int32)), .val (.ref b2), .val (.ref b4), .unset] [(.ref b4)]))
    obtain ⟨c7, A7, -, s7, m7, -, -⟩ := id Vq5
    refine own_st (fun _ k => own_len X5 hx hZ rfl A7 s7 m7 (g := (mkF m 72 #[.val (.int p1), .val (.int p2), .val (.int p3), .val (.int p4), .val (.int p5), .val (.int (0 : Int32)), .val (.ref b2), .val (.ref b4), .unset] [(.ref b4)])) rfl rfl (hb hby at_72) (XS.iload X5.here hx rfl (hb hby at_73) rfl k)) ?_
    show own_Go p.tables e below RR (T5.setTop (mkF m 75 #[.val (.int p1), .val (.int p2), .val (.int p3), .val (.int p4), .val (.int p5), .val (.int (0 : Int32)), .val (.ref b2), .val (.ref b4), .unset] [(.int (0 : Int32)), (.int (0 : Int32))]))
    refine own_st (fun _ k => XS.icmpYes X5.here hx rfl (pc0 := 75) (pc' := 80) rfl (hb hby at_75) rfl (teq (by decide)).1 (by decide) (by decide) (XS.iconst X5.here hx rfl (hb hby at_80) (XS.istore X5.here hx rfl (hb hby at_81) rfl (l' := #[.val (.int p1), .val (.int p2), .val (.int p3), .val (.int p4), .val (.int p5), .val (.int (0 : Int32)), .val (.ref b2), .val (.ref b4), .val (.int (1 : Int32))]) rfl (XS.iload X5.here hx rfl (hb hby at_83) rfl k)))) ?_
    show own_Go p.tables e below RR (T5.setTop (mkF m 85 #[.val (.int p1), .val (.int p2), .val (.int p3), .val (.int p4), .val (.int p5), .val (.int (0 : Int32)), .val (.ref b2), .val (.ref b4), .val (.int (1 : Int32))] [(.int (0 : Int32))]))
    refine own_st (fun _ k => XS.ifYes X5.here hx rfl (pc0 := 85) (pc' := 127) rfl (hb hby at_85) rfl ((if0 _ _).trans (flt (by decide)).2.2.2) (by decide) (by decide) (XS.iload X5.here hx rfl (hb hby at_127) rfl (XS.iconst X5.here hx rfl (hb hby at_129) k))) ?_
    show own_Go p.tables e below RR (T5.setTop (mkF m 130 #[.val (.int p1), .val (.int p2), .val (.int p3), .val (.int p4), .val (.int p5), .val (.int (0 : Int32)), .val (.ref b2), .val (.ref b4), .val (.int (1 : Int32))] [(.int (1 : Int32)), (.int (0 : Int32))]))
    refine own_st (fun _ k => XS.icmpYes X5.here hx rfl (pc0 := 130) (pc' := 172) rfl (hb hby at_130) rfl (flt (by decide)).2.2.2 (by decide) (by decide) (XS.iload X5.here hx rfl (hb hby at_172) rfl (XS.iconst X5.here hx rfl (hb hby at_174) k))) ?_
    show own_Go p.tables e below RR (T5.setTop (mkF m 175 #[.val (.int p1), .val (.int p2), .val (.int p3), .val (.int p4), .val (.int p5), .val (.int (0 : Int32)), .val (.ref b2), .val (.ref b4), .val (.int (1 : Int32))] [(.int (2 : Int32)), (.int (0 : Int32))]))
    refine own_st (fun _ k => XS.icmpYes X5.here hx rfl (pc0 := 175) (pc' := 217) rfl (hb hby at_175) rfl (flt (by decide)).2.2.2 (by decide) (by decide) (XS.iload X5.here hx rfl (hb hby at_217) rfl (XS.iconst X5.here hx rfl (hb hby at_219) k))) ?_
    show own_Go p.tables e below RR (T5.setTop (mkF m 220 #[.val (.int p1), .val (.int p2), .val (.int p3), .val (.int p4), .val (.int p5), .val (.int (0 : Int32)), .val (.ref b2), .val (.ref b4), .val (.int (1 : Int32))] [(.int (3 : Int32)), (.int (0 : Int32))]))
    refine own_st (fun _ k => XS.icmpYes X5.here hx rfl (pc0 := 220) (pc' := 263) rfl (hb hby at_220) rfl (flt (by decide)).2.2.2 (by decide) (by decide) (XS.iload X5.here hx rfl (hb hby at_263) rfl k)) ?_
    show own_Go p.tables e below RR (T5.setTop (mkF m 265 #[.val (.int p1), .val (.int p2), .val (.int p3), .val (.int p4), .val (.int p5), .val (.int (0 : Int32)), .val (.ref b2), .val (.ref b4), .val (.int (1 : Int32))] [(.int (1 : Int32))]))
    obtain ⟨fs, hrt_, hrun, hended, hW, hsame⟩ := X5.leave (v := some (.int (1 : Int32))) (fun h => by rw [Bd.returns] at h; cases h)
    refine own_fin (retN X5 hx (t := .boolean) Bd.returns (by simp) (hb hby at_265) hrt_) (hRR _ ⟨_, hrun, hended, _, _, rfl, ?_, ⟨_, rfl⟩, hW, hsame.mono (by decide) (by decide)⟩)
    show own_Q0 Z p1 p2 p3 p4 p5 h0 n0 _ T5.heap _
    exact ⟨rfl, N5⟩
  · show own_Go p.tables e below RR (s₁.setTop (mkF m 8 #[.val (.int p1), .val (.int p2), .val (.int p3), .val (.int p4), .val (.int p5), .val (.int (1 : Int32)), .unset, .unset, .unset] []))
    show own_Go p.tables e below RR (s₁.setTop (mkF m 8 #[.val (.int p1), .val (.int p2), .val (.int p3), .val (.int p4), .val (.int p5), .val (.int (1 : Int32)), .unset, .unset, .unset] []))
    refine own_st (fun _ k => XS.iload X0.here hx rfl (hb hby at_8) rfl k) ?_
    show own_Go p.tables e below RR (s₁.setTop (mkF m 10 #[.val (.int p1), .val (.int p2), .val (.int p3), .val (.int p4), .val (.int p5), .val (.int (1 : Int32)), .unset, .unset, .unset] [(.int (1 : Int32))]))
    obtain ⟨T8, h8, k8, X8, e8, E8, A8, st8⟩ := newP X0 hx hZ (hw _ (List.mem_of_getElem? (i := 1) rfl)) e0 (g := (mkF m 10 #[.val (.int p1), .val (.int p2), .val (.int p3), .val (.int p4), .val (.int p5), .val (.int (1 : Int32)), .unset, .unset, .unset] [(.int (1 : Int32))])) rfl (hb hby at_10) rfl (by decide) (cap := 1) (by decide) (by decide) (by decide) (by decide)
    obtain ⟨b8, gb8⟩ : ∃ z, z = h0.size := ⟨_, rfl⟩
    rw [← gb8] at A8 st8
    have ge8 : n0 ≤ b8 := Nat.le_trans Z0 (Nat.le_of_eq gb8.symm)
    refine own_st st8 ?_
    have z9 : n0 ≤ h8.size := Nat.le_trans Z0 E8.1
    have V8 : Arv Z h8 b8 k8 .int (1 : Int32) [(.int (0 : Int32))] (.int (0 : Int32)) := (Arv.new A8 (by decide)).pad (pad_rep [] (.int (0 : Int32)) 1)
    show own_Go p.tables e below RR (T8.setTop (mkF m 12 #[.val (.int p1), .val (.int p2), .val (.int p3), .val (.int p4), .val (.int p5), .val (.int (1 : Int32)), .unset, .unset, .unset] [(.ref b8)]))
    refine own_st (fun _ k => XS.astore X8.here hx rfl (hb hby at_12) rfl rfl (l' := #[.val (.int p1), .val (.int p2), .val (.int p3), .val (.int p4), .val (.int p5), .val (.int (1 : Int32)), .val (.ref b8), .unset, .unset]) rfl (XS.iload X8.here hx rfl (hb hby at_14) rfl k)) ?_
    show own_Go p.tables e below RR (T8.setTop (mkF m 16 #[.val (.int p1), .val (.int p2), .val (.int p3), .val (.int p4), .val (.int p5), .val (.int (1 : Int32)), .val (.ref b8), .unset, .unset] [(.int (1 : Int32))]))
    refine own_st (fun _ k => XS.ifNo X8.here hx rfl (hb hby at_16) rfl ((if0 _ _).trans (tlt (by decide)).2.2.2) (XS.aload X8.here hx rfl (hb hby at_19) rfl rfl (XS.iconst X8.here hx rfl (hb hby at_21) (XS.iloadN X8.here hx rfl (hb hby at_22) rfl k)))) ?_
    show own_Go p.tables e below RR (T8.setTop (mkF m 23 #[.val (.int p1), .val (.int p2), .val (.int p3), .val (.int p4), .val (.int p5), .val (.int (1 : Int32)), .val (.ref b8), .unset, .unset] [(.int p2), (.int (0 : Int32)), (.ref b8)]))
    obtain ⟨c10, A10, q10, s10, m10, H10, G10⟩ := id V8
    obtain ⟨T11, h11, X11, e11, W11, st11⟩ := stI X8 hx hZ e8 A10 (j := (0 : Int32)) (inb_of s10 ⟨by decide, by decide⟩) (g := (mkF m 23 #[.val (.int p1), .val (.int p2), .val (.int p3), .val (.int p4), .val (.int p5), .val (.int (1 : Int32)), .val (.ref b8), .unset, .unset] [(.int p2), (.int (0 : Int32)), (.ref b8)])) rfl rfl (hb hby at_23)
    have V11 := Arv.set A10 q10 s10 m10 H10 G10 rfl W11 0 rfl (Nat.le_of_ble_eq_true rfl)
    have V11 : Arv Z h11 b8 k8 .int (1 : Int32) [(.int p2)] (.int (0 : Int32)) := V11
    have N11 := Fr.snoc X11 N0 ge8
    refine own_st st11 ?_
    have z12 : n0 ≤ h11.size := Nat.le_trans z9 (Keep.of_wr W11).1
    show own_Go p.tables e below RR (T11.setTop (mkF m 24 #[.val (.int p1), .val (.int p2), .val (.int p3), .val (.int p4), .val (.int p5), .val (.int (1 : Int32)), .val (.ref b8), .unset, .unset] []))
    refine own_st (fun _ k => XS.iload X11.here hx rfl (hb hby at_24) rfl (XS.iconst X11.here hx rfl (hb hby at_26) k)) ?_
    show own_Go p.tables e below RR (T11.setTop (mkF m 27 #[.val (.int p1), .val (.int p2), .val (.int p3), .val (.int p4), .val (.int p5), .val (.int (1 : Int32)), .val (.ref b8), .unset, .unset] [(.int (1 : Int32)), (.int (1 : Int32))]))
    refine own_st (fun _ k => XS.icmpYes X11.here hx rfl (pc0 := 27) (pc' := 35) rfl (hb hby at_27) rfl (flt (by decide)).2.2.2 (by decide) (by decide) (XS.iload X11.here hx rfl (hb hby at_35) rfl (XS.iconst X11.here hx rfl (hb hby at_37) k))) ?_
    show own_Go p.tables e below RR (T11.setTop (mkF m 38 #[.val (.int p1), .val (.int p2), .val (.int p3), .val (.int p4), .val (.int p5), .val (.int (1 : Int32)), .val (.ref b8), .unset, .unset] [(.int (2 : Int32)), (.int (1 : Int32))]))
    refine own_st (fun _ k => XS.icmpYes X11.here hx rfl (pc0 := 38) (pc' := 46) rfl (hb hby at_38) rfl (flt (by decide)).2.2.2 (by decide) (by decide) (XS.iload X11.here hx rfl (hb hby at_46) rfl (XS.iconst X11.here hx rfl (hb hby at_48) k))) ?_
    show own_Go p.tables e below RR (T11.setTop (mkF m 49 #[.val (.int p1), .val (.int p2), .val (.int p3), .val (.int p4), .val (.int p5), .val (.int (1 : Int32)), .val (.ref b8), .unset, .unset] [(.int (3 : Int32)), (.int (1 : Int32))]))
    refine own_st (fun _ k => XS.icmpYes X11.here hx rfl (pc0 := 49) (pc' := 58) rfl (hb hby at_49) rfl (flt (by decide)).2.2.2 (by decide) (by decide) (XS.aload X11.here hx rfl (hb hby at_58) rfl rfl k)) ?_
    show own_Go p.tables e below RR (T11.setTop (mkF m 60 #[.val (.int p1), .val (.int p2), .val (.int p3), .val (.int p4), .val (.int p5), .val (.int (1 : Int32)), .val (.ref b8), .unset, .unset] [(.ref b8)]))
    obtain ⟨b13, gb13⟩ : ∃ z, z = h11.size := ⟨_, rfl⟩
    have ge13 : n0 ≤ b13 := Nat.le_trans z12 (Nat.le_of_eq gb13.symm)
    obtain ⟨_, _, ⟨T14, L14, k14, n14⟩, -, X14, ⟨Lc14, hQ14, l14, y14, z14⟩, st14⟩ := Jvm.LawKit.callS X11 hx (y := (⟨"com/example/candex/candex/index/TermTrie", "reversed", "([I)[I"⟩ : MethodName)) hown (mvT hZ (hw _ (List.mem_of_getElem? (i := 2) rfl))) (mvT hZ (hw _ (List.mem_of_getElem? (i := 3) rfl))) (mvT hZ (hw _ (List.mem_of_getElem? (i := 4) rfl))) (mvT hZ (hw _ (List.mem_of_getElem? (i := 5) rfl))) (by decide) (backOf (W := 0) (own_rmV1 l Z a0 hw [] b8 k8 p2 b13 h11 n0 z12 V11 gb13) hZ (hw _ (List.mem_of_getElem? (i := 5) rfl)) (hw _ (List.mem_of_getElem? (i := 4) rfl)) (by decide) (by decide)) (g := (mkF m 60 #[.val (.int p1), .val (.int p2), .val (.int p3), .val (.int p4), .val (.int p5), .val (.int (1 : Int32)), .val (.ref b8), .unset, .unset] [(.ref b8)])) rfl (by rw [hml]; rfl) (argsL := [(.ref b8)]) (rest := []) (lenOf own_pd___I__I rfl) rfl (by show 2 * 0 + _ ≤ _; exact Nat.le_of_eq rfl) (hb hby at_60) (fun _ _ => ⟨rfl, e11, (by decide : 1 + 1 ≤ _), (by decide : 1 + 1 ≤ _)⟩)
    dsimp only [Pt.U, Pt.locs, Pt.cells, Pt.slots] at X14 l14 y14 z14 st14 hQ14
    subst l14 y14 z14
    obtain ⟨rfl, Nq14, Kq14, kq14, Vq14⟩ := hQ14
    have N14 := Fr.app N11 Nq14
    refine own_st st14 ?_
    have z15 : n0 ≤ T14.heap.size := Nat.le_trans z12 Kq14.1
    show own_Go p.tables e below RR (T14.setTop (mkF m 63 #[.val (.int p1), .val (.int p2), .val (.int p3), .val (.int p4), .val (.int p5), .val (.int (1 : Int32)), .val (.ref b8), .unset, .unset] [(.ref b13)]))
    refine own_st (fun _ k => XS.astore X14.here hx rfl (hb hby at_63) rfl rfl (l' := #[.val (.int p1), .val (.int p2), .val (.int p3), .val (.int p4), .val (.int p5), .val (.int (1 : Int32)), .val (.ref b8), .val (.ref b13), .unset]) rfl (XS.aload X14.here hx rfl (hb hby at_65) rfl rfl k)) ?_
    show own_Go p.tables e below RR (T14.setTop (mkF m 67 #[.val (.int p1), .val (.int p2), .val (.int p3), .val (.int p4), .val (.int p5), .val (.int (1 : Int32)), .val (.ref b8), .val (.ref b13), .unset] [(.ref b13)]))
    refine own_st (fun _ k => XS.ifnullNo X14.here hx rfl (hb hby at_67) rfl (XS.aload X14.here hx rfl (hb hby at_70) rfl rfl k)) ?_
    show own_Go p.tables e below RR (T14.setTop (mkF m 72 #[.val (.int p1), .val (.int p2), .val (.int p3), .val (.int p4), .val (.int p5), .val (.int (1 : Int32)), .val (.ref b8), .val (.ref b13), .unset] [(.ref b13)]))
    obtain ⟨c16, A16, -, s16, m16, -, -⟩ := id Vq14
    refine own_st (fun _ k => own_len X14 hx hZ rfl A16 s16 m16 (g := (mkF m 72 #[.val (.int p1), .val (.int p2), .val (.int p3), .val (.int p4), .val (.int p5), .val (.int (1 : Int32)), .val (.ref b8), .val (.ref b13), .unset] [(.ref b13)])) rfl rfl (hb hby at_72) (XS.iload X14.here hx rfl (hb hby at_73) rfl k)) ?_
    show own_Go p.tables e below RR (T14.setTop (mkF m 75 #[.val (.int p1), .val (.int p2), .val (.int p3), .val (.int p4), .val (.int p5), .val (.int (1 : Int32)), .val (.ref b8), .val (.ref b13), .unset] [(.int (1 : Int32)), (.int (1 : Int32))]))
    refine own_st (fun _ k => XS.icmpYes X14.here hx rfl (pc0 := 75) (pc' := 80) rfl (hb hby at_75) rfl (teq (by decide)).1 (by decide) (by decide) (XS.iconst X14.here hx rfl (hb hby at_80) (XS.istore X14.here hx rfl (hb hby at_81) rfl (l' := #[.val (.int p1), .val (.int p2), .val (.int p3), .val (.int p4), .val (.int p5), .val (.int (1 : Int32)), .val (.ref b8), .val (.ref b13), .val (.int (1 : Int32))]) rfl (XS.iload X14.here hx rfl (hb hby at_83) rfl k)))) ?_
    show own_Go p.tables e below RR (T14.setTop (mkF m 85 #[.val (.int p1), .val (.int p2), .val (.int p3), .val (.int p4), .val (.int p5), .val (.int (1 : Int32)), .val (.ref b8), .val (.ref b13), .val (.int (1 : Int32))] [(.int (1 : Int32))]))
    refine own_st (fun _ k => XS.ifNo X14.here hx rfl (hb hby at_85) rfl ((if0 _ _).trans (tlt (by decide)).2.2.2) (XS.iload X14.here hx rfl (hb hby at_88) rfl k)) ?_
    show own_Go p.tables e below RR (T14.setTop (mkF m 90 #[.val (.int p1), .val (.int p2), .val (.int p3), .val (.int p4), .val (.int p5), .val (.int (1 : Int32)), .val (.ref b8), .val (.ref b13), .val (.int (1 : Int32))] [(.int (1 : Int32))]))
    refine own_st (fun _ k => XS.ifNo X14.here hx rfl (hb hby at_90) rfl ((if0 _ _).trans (feq (by decide)).1) (XS.aload X14.here hx rfl (hb hby at_93) rfl rfl (XS.iconst X14.here hx rfl (hb hby at_95) k))) ?_
    show own_Go p.tables e below RR (T14.setTop (mkF m 96 #[.val (.int p1), .val (.int p2), .val (.int p3), .val (.int p4), .val (.int p5), .val (.int (1 : Int32)), .val (.ref b8), .val (.ref b13), .val (.int (1 : Int32))] [(.int (0 : Int32)), (.ref b8)]))
    have f17 := (V11.keep Kq14 nin0)
    obtain ⟨c18, A18, q18, s18, m18, H18, G18⟩ := id f17
    have b18 := inb_of (j := (0 : Int32)) s18 ⟨by decide, by decide⟩
    refine own_st (fun _ k => X14.iaload hx (j := (0 : Int32)) (v := (.int p2)) (by exact A18.1) (State.isArrayOf_alike hZ.alike A18.2.1) A18.2.2 b18 (Has.at H18 b18 rfl) (g := (mkF m 96 #[.val (.int p1), .val (.int p2), .val (.int p3), .val (.int p4), .val (.int p5), .val (.int (1 : Int32)), .val (.ref b8), .val (.ref b13), .val (.int (1 : Int32))] [(.int (0 : Int32)), (.ref b8)])) rfl rfl (hb hby at_96) _ (XS.iloadN X14.here hx rfl (hb hby at_97) rfl k)) ?_
    show own_Go p.tables e below RR (T14.setTop (mkF m 98 #[.val (.int p1), .val (.int p2), .val (.int p3), .val (.int p4), .val (.int p5), .val (.int (1 : Int32)), .val (.ref b8), .val (.ref b13), .val (.int (1 : Int32))] [(.int p2), (.int p2)]))
    refine own_st (fun _ k => XS.icmpNo X14.here hx rfl (hb hby at_98) rfl (teq rfl).2 (XS.aload X14.here hx rfl (hb hby at_101) rfl rfl (XS.iconst X14.here hx rfl (hb hby at_103) k))) ?_
    show own_Go p.tables e below RR (T14.setTop (mkF m 104 #[.val (.int p1), .val (.int p2), .val (.int p3), .val (.int p4), .val (.int p5), .val (.int (1 : Int32)), .val (.ref b8), .val (.ref b13), .val (.int (1 : Int32))] [(.int (0 : Int32)), (.ref b13)]))
    obtain ⟨c19, A19, q19, s19, m19, H19, G19⟩ := id Vq14
    have b19 := inb_of (j := (0 : Int32)) s19 ⟨by decide, by decide⟩
    refine own_st (fun _ k => X14.iaload hx (j := (0 : Int32)) (v := (.int p2)) (by exact A19.1) (State.isArrayOf_alike hZ.alike A19.2.1) A19.2.2 b19 (Has.at H19 b19 rfl) (g := (mkF m 104 #[.val (.int p1), .val (.int p2), .val (.int p3), .val (.int p4), .val (.int p5), .val (.int (1 : Int32)), .val (.ref b8), .val (.ref b13), .val (.int (1 : Int32))] [(.int (0 : Int32)), (.ref b13)])) rfl rfl (hb hby at_104) _ (XS.iload X14.here hx rfl (hb hby at_105) rfl (XS.iconst X14.here hx rfl (hb hby at_107) (XS.isub X14.here hx rfl (hb hby at_108) rfl (XS.iloadN X14.here hx rfl (hb hby at_109) rfl (XS.iloadN X14.here hx rfl (hb hby at_110) rfl (XS.iloadN X14.here hx rfl (hb hby at_111) rfl (XS.iload X14.here hx rfl (hb hby at_112) rfl k)))))))) ?_
    show own_Go p.tables e below RR (T14.setTop (mkF m 114 #[.val (.int p1), .val (.int p2), .val (.int p3), .val (.int p4), .val (.int p5), .val (.int (1 : Int32)), .val (.ref b8), .val (.ref b13), .val (.int (1 : Int32))] [(.int p5), (.int p4), (.int p3), (.int p2), (.int (0 : Int32)), (.int p2)]))
    obtain ⟨_, _, ⟨T20, L20, k20, n20⟩, -, X20, ⟨Lc20, hQ20, l20, y20, z20⟩, st20⟩ := Jvm.LawKit.callS X14 hx (y := (⟨"com/example/candex/candex/index/TermTrieReversedPinLaw", "pick", "(IIIII)I"⟩ : MethodName)) hown (mvT hZ (hw _ (List.mem_of_getElem? (i := 6) rfl))) (mvT hZ (hw _ (List.mem_of_getElem? (i := 7) rfl))) (mvT hZ (hw _ (List.mem_of_getElem? (i := 8) rfl))) (mvT hZ (hw _ (List.mem_of_getElem? (i := 9) rfl))) (by decide) (backOf (W := 1) (own_rmP l Z a0 hw [] (0 : Int32) p2 p3 p4 p5 p2 T14.heap n0 z15 rfl) hZ (hw _ (List.mem_of_getElem? (i := 9) rfl)) (hw _ (List.mem_of_getElem? (i := 8) rfl)) (by decide) (by decide)) (g := (mkF m 114 #[.val (.int p1), .val (.int p2), .val (.int p3), .val (.int p4), .val (.int p5), .val (.int (1 : Int32)), .val (.ref b8), .val (.ref b13), .val (.int (1 : Int32))] [(.int p5), (.int p4), (.int p3), (.int p2), (.int (0 : Int32)), (.int p2)])) rfl (by rw [hml]; rfl) (argsL := [(.int (0 : Int32)), (.int p2), (.int p3), (.int p4), (.int p5)]) (rest := [(.int p2)]) (lenOf own_pd__IIIII_I rfl) rfl (by show 2 * 0 + _ ≤ _; exact Nat.le_of_eq rfl) (hb hby at_114) (fun _ _ => ⟨rfl, rfl, (by decide : 2 + 0 ≤ _), (by decide : 2 + 0 ≤ _)⟩)
    dsimp only [Pt.U, Pt.locs, Pt.cells, Pt.slots] at X20 l20 y20 z20 st20 hQ20
    subst l20 y20 z20
    obtain ⟨rfl, Nq20, eq20⟩ := hQ20
    have N20 := Fr.app N14 Nq20
    refine own_st st20 ?_
    show own_Go p.tables e below RR (T20.setTop (mkF m 117 #[.val (.int p1), .val (.int p2), .val (.int p3), .val (.int p4), .val (.int p5), .val (.int (1 : Int32)), .val (.ref b8), .val (.ref b13), .val (.int (1 : Int32))] [(.int p2), (.int p2)]))
    refine own_st (fun _ k => XS.icmpNo X20.here hx rfl (hb hby at_117) rfl (teq rfl).2 (XS.iconst X20.here hx rfl (hb hby at_120) (XS.goto X20.here hx rfl (pc0 := 121) (pc' := 125) rfl (hb hby at_121) (by decide) (by decide) (XS.istore X20.here hx rfl (hb hby at_125) rfl (l' := #[.val (.int p1), .val (.int p2), .val (.int p3), .val (.int p4), .val (.int p5), .val (.int (1 : Int32)), .val (.ref b8), .val (.ref b13), .val (.int (1 : Int32))]) rfl (XS.iload X20.here hx rfl (hb hby at_127) rfl (XS.iconst X20.here hx rfl (hb hby at_129) k)))))) ?_
    show own_Go p.tables e below RR (T20.setTop (mkF m 130 #[.val (.int p1), .val (.int p2), .val (.int p3), .val (.int p4), .val (.int p5), .val (.int (1 : Int32)), .val (.ref b8), .val (.ref b13), .val (.int (1 : Int32))] [(.int (1 : Int32)), (.int (1 : Int32))]))
    refine own_st (fun _ k => XS.icmpYes X20.here hx rfl (pc0 := 130) (pc' := 172) rfl (hb hby at_130) rfl (flt (by decide)).2.2.2 (by decide) (by decide) (XS.iload X20.here hx rfl (hb hby at_172) rfl (XS.iconst X20.here hx rfl (hb hby at_174) k))) ?_
    show own_Go p.tables e below RR (T20.setTop (mkF m 175 #[.val (.int p1), .val (.int p2), .val (.int p3), .val (.int p4), .val (.int p5), .val (.int (1 : Int32)), .val (.ref b8), .val (.ref b13), .val (.int (1 : Int32))] [(.int (2 : Int32)), (.int (1 : Int32))]))
    refine own_st (fun _ k => XS.icmpYes X20.here hx rfl (pc0 := 175) (pc' := 217) rfl (hb hby at_175) rfl (flt (by decide)).2.2.2 (by decide) (by decide) (XS.iload X20.here hx rfl (hb hby at_217) rfl (XS.iconst X20.here hx rfl (hb hby at_219) k))) ?_
    show own_Go p.tables e below RR (T20.setTop (mkF m 220 #[.val (.int p1), .val (.int p2), .val (.int p3), .val (.int p4), .val (.int p5), .val (.int (1 : Int32)), .val (.ref b8), .val (.ref b13), .val (.int (1 : Int32))] [(.int (3 : Int32)), (.int (1 : Int32))]))
    refine own_st (fun _ k => XS.icmpYes X20.here hx rfl (pc0 := 220) (pc' := 263) rfl (hb hby at_220) rfl (flt (by decide)).2.2.2 (by decide) (by decide) (XS.iload X20.here hx rfl (hb hby at_263) rfl k)) ?_
    show own_Go p.tables e below RR (T20.setTop (mkF m 265 #[.val (.int p1), .val (.int p2), .val (.int p3), .val (.int p4), .val (.int p5), .val (.int (1 : Int32)), .val (.ref b8), .val (.ref b13), .val (.int (1 : Int32))] [(.int (1 : Int32))]))
    obtain ⟨fs, hrt_, hrun, hended, hW, hsame⟩ := X20.leave (v := some (.int (1 : Int32))) (fun h => by rw [Bd.returns] at h; cases h)
    refine own_fin (retN X20 hx (t := .boolean) Bd.returns (by simp) (hb hby at_265) hrt_) (hRR _ ⟨_, hrun, hended, _, _, rfl, ?_, ⟨_, rfl⟩, hW, hsame.mono (by decide) (by decide)⟩)
    show own_Q0 Z p1 p2 p3 p4 p5 h0 n0 _ T20.heap _
    rw [eq20]
    exact ⟨rfl, N20⟩
  · show own_Go p.tables e below RR (s₁.setTop (mkF m 8 #[.val (.int p1), .val (.int p2), .val (.int p3), .val (.int p4), .val (.int p5), .val (.int (2 : Int32)), .unset, .unset, .unset] []))
    show own_Go p.tables e below RR (s₁.setTop (mkF m 8 #[.val (.int p1), .val (.int p2), .val (.int p3), .val (.int p4), .val (.int p5), .val (.int (2 : Int32)), .unset, .unset, .unset] []))
    refine own_st (fun _ k => XS.iload X0.here hx rfl (hb hby at_8) rfl k) ?_
    show own_Go p.tables e below RR (s₁.setTop (mkF m 10 #[.val (.int p1), .val (.int p2), .val (.int p3), .val (.int p4), .val (.int p5), .val (.int (2 : Int32)), .unset, .unset, .unset] [(.int (2 : Int32))]))
    obtain ⟨T21, h21, k21, X21, e21, E21, A21, st21⟩ := newP X0 hx hZ (hw _ (List.mem_of_getElem? (i := 1) rfl)) e0 (g := (mkF m 10 #[.val (.int p1), .val (.int p2), .val (.int p3), .val (.int p4), .val (.int p5), .val (.int (2 : Int32)), .unset, .unset, .unset] [(.int (2 : Int32))])) rfl (hb hby at_10) rfl (by decide) (cap := 2) (by decide) (by decide) (by decide) (by decide)
    obtain ⟨b21, gb21⟩ : ∃ z, z = h0.size := ⟨_, rfl⟩
    rw [← gb21] at A21 st21
    have ge21 : n0 ≤ b21 := Nat.le_trans Z0 (Nat.le_of_eq gb21.symm)
    refine own_st st21 ?_
    have z22 : n0 ≤ h21.size := Nat.le_trans Z0 E21.1
    have V21 : Arv Z h21 b21 k21 .int (2 : Int32) [(.int (0 : Int32)), (.int (0 : Int32))] (.int (0 : Int32)) := (Arv.new A21 (by decide)).pad (pad_rep [] (.int (0 : Int32)) 2)
    show own_Go p.tables e below RR (T21.setTop (mkF m 12 #[.val (.int p1), .val (.int p2), .val (.int p3), .val (.int p4), .val (.int p5), .val (.int (2 : Int32)), .unset, .unset, .unset] [(.ref b21)]))
    refine own_st (fun _ k => XS.astore X21.here hx rfl (hb hby at_12) rfl rfl (l' := #[.val (.int p1), .val (.int p2), .val (.int p3), .val (.int p4), .val (.int p5), .val (.int (2 : Int32)), .val (.ref b21), .unset, .unset]) rfl (XS.iload X21.here hx rfl (hb hby at_14) rfl k)) ?_
    show own_Go p.tables e below RR (T21.setTop (mkF m 16 #[.val (.int p1), .val (.int p2), .val (.int p3), .val (.int p4), .val (.int p5), .val (.int (2 : Int32)), .val (.ref b21), .unset, .unset] [(.int (2 : Int32))]))
    refine own_st (fun _ k => XS.ifNo X21.here hx rfl (hb hby at_16) rfl ((if0 _ _).trans (tlt (by decide)).2.2.2) (XS.aload X21.here hx rfl (hb hby at_19) rfl rfl (XS.iconst X21.here hx rfl (hb hby at_21) (XS.iloadN X21.here hx rfl (hb hby at_22) rfl k)))) ?_
    show own_Go p.tables e below RR (T21.setTop (mkF m 23 #[.val (.int p1), .val (.int p2), .val (.int p3), .val (.int p4), .val (.int p5), .val (.int (2 : Int32)), .val (.ref b21), .unset, .unset] [(.int p2), (.int (0 : Int32)), (.ref b21)]))
    obtain ⟨c23, A23, q23, s23, m23, H23, G23⟩ := id V21
    obtain ⟨T24, h24, X24, e24, W24, st24⟩ := stI X21 hx hZ e21 A23 (j := (0 : Int32)) (inb_of s23 ⟨by decide, by decide⟩) (g := (mkF m 23 #[.val (.int p1), .val (.int p2), .val (.int p3), .val (.int p4), .val (.int p5), .val (.int (2 : Int32)), .val (.ref b21), .unset, .unset] [(.int p2), (.int (0 : Int32)), (.ref b21)])) rfl rfl (hb hby at_23)
    have V24 := Arv.set A23 q23 s23 m23 H23 G23 rfl W24 0 rfl (Nat.le_of_ble_eq_true rfl)
    have V24 : Arv Z h24 b21 k21 .int (2 : Int32) [(.int p2), (.int (0 : Int32))] (.int (0 : Int32)) := V24
    have N24 := Fr.snoc X24 N0 ge21
    refine own_st st24 ?_
    have z25 : n0 ≤ h24.size := Nat.le_trans z22 (Keep.of_wr W24).1
    show own_Go p.tables e below RR (T24.setTop (mkF m 24 #[.val (.int p1), .val (.int p2), .val (.int p3), .val (.int p4), .val (.int p5), .val (.int (2 : Int32)), .val (.ref b21), .unset, .unset] []))
    refine own_st (fun _ k => XS.iload X24.here hx rfl (hb hby at_24) rfl (XS.iconst X24.here hx rfl (hb hby at_26) k)) ?_
    show own_Go p.tables e below RR (T24.setTop (mkF m 27 #[.val (.int p1), .val (.int p2), .val (.int p3), .val (.int p4), .val (.int p5), .val (.int (2 : Int32)), .val (.ref b21), .unset, .unset] [(.int (1 : Int32)), (.int (2 : Int32))]))
    refine own_st (fun _ k => XS.icmpNo X24.here hx rfl (hb hby at_27) rfl (tlt (by decide)).2.2.2 (XS.aload X24.here hx rfl (hb hby at_30) rfl rfl (XS.iconst X24.here hx rfl (hb hby at_32) (XS.iloadN X24.here hx rfl (hb hby at_33) rfl k)))) ?_
    show own_Go p.tables e below RR (T24.setTop (mkF m 34 #[.val (.int p1), .val (.int p2), .val (.int p3), .val (.int p4), .val (.int p5), .val (.int (2 : Int32)), .val (.ref b21), .unset, .unset] [(.int p3), (.int (1 : Int32)), (.ref b21)]))
    obtain ⟨c26, A26, q26, s26, m26, H26, G26⟩ := id V24
    obtain ⟨T27, h27, X27, e27, W27, st27⟩ := stI X24 hx hZ e24 A26 (j := (1 : Int32)) (inb_of s26 ⟨by decide, by decide⟩) (g := (mkF m 34 #[.val (.int p1), .val (.int p2), .val (.int p3), .val (.int p4), .val (.int p5), .val (.int (2 : Int32)), .val (.ref b21), .unset, .unset] [(.int p3), (.int (1 : Int32)), (.ref b21)])) rfl rfl (hb hby at_34)
    have V27 := Arv.set A26 q26 s26 m26 H26 G26 rfl W27 1 rfl (Nat.le_of_ble_eq_true rfl)
    have V27 : Arv Z h27 b21 k21 .int (2 : Int32) [(.int p2), (.int p3)] (.int (0 : Int32)) := V27
    have N27 := Fr.snoc X27 N24 ge21
    refine own_st st27 ?_
    have z28 : n0 ≤ h27.size := Nat.le_trans z25 (Keep.of_wr W27).1
    show own_Go p.tables e below RR (T27.setTop (mkF m 35 #[.val (.int p1), .val (.int p2), .val (.int p3), .val (.int p4), .val (.int p5), .val (.int (2 : Int32)), .val (.ref b21), .unset, .unset] []))
    refine own_st (fun _ k => XS.iload X27.here hx rfl (hb hby at_35) rfl (XS.iconst X27.here hx rfl (hb hby at_37) k)) ?_
    show own_Go p.tables e below RR (T27.setTop (mkF m 38 #[.val (.int p1), .val (.int p2), .val (.int p3), .val (.int p4), .val (.int p5), .val (.int (2 : Int32)), .val (.ref b21), .unset, .unset] [(.int (2 : Int32)), (.int (2 : Int32))]))
    refine own_st (fun _ k => XS.icmpYes X27.here hx rfl (pc0 := 38) (pc' := 46) rfl (hb hby at_38) rfl (flt (by decide)).2.2.2 (by decide) (by decide) (XS.iload X27.here hx rfl (hb hby at_46) rfl (XS.iconst X27.here hx rfl (hb hby at_48) k))) ?_
    show own_Go p.tables e below RR (T27.setTop (mkF m 49 #[.val (.int p1), .val (.int p2), .val (.int p3), .val (.int p4), .val (.int p5), .val (.int (2 : Int32)), .val (.ref b21), .unset, .unset] [(.int (3 : Int32)), (.int (2 : Int32))]))
    refine own_st (fun _ k => XS.icmpYes X27.here hx rfl (pc0 := 49) (pc' := 58) rfl (hb hby at_49) rfl (flt (by decide)).2.2.2 (by decide) (by decide) (XS.aload X27.here hx rfl (hb hby at_58) rfl rfl k)) ?_
    show own_Go p.tables e below RR (T27.setTop (mkF m 60 #[.val (.int p1), .val (.int p2), .val (.int p3), .val (.int p4), .val (.int p5), .val (.int (2 : Int32)), .val (.ref b21), .unset, .unset] [(.ref b21)]))
    obtain ⟨b29, gb29⟩ : ∃ z, z = h27.size := ⟨_, rfl⟩
    have ge29 : n0 ≤ b29 := Nat.le_trans z28 (Nat.le_of_eq gb29.symm)
    obtain ⟨_, _, ⟨T30, L30, k30, n30⟩, -, X30, ⟨Lc30, hQ30, l30, y30, z30⟩, st30⟩ := Jvm.LawKit.callS X27 hx (y := (⟨"com/example/candex/candex/index/TermTrie", "reversed", "([I)[I"⟩ : MethodName)) hown (mvT hZ (hw _ (List.mem_of_getElem? (i := 2) rfl))) (mvT hZ (hw _ (List.mem_of_getElem? (i := 3) rfl))) (mvT hZ (hw _ (List.mem_of_getElem? (i := 4) rfl))) (mvT hZ (hw _ (List.mem_of_getElem? (i := 5) rfl))) (by decide) (backOf (W := 0) (own_rmV2 l Z a0 hw [] b21 k21 p2 p3 b29 h27 n0 z28 V27 gb29) hZ (hw _ (List.mem_of_getElem? (i := 5) rfl)) (hw _ (List.mem_of_getElem? (i := 4) rfl)) (by decide) (by decide)) (g := (mkF m 60 #[.val (.int p1), .val (.int p2), .val (.int p3), .val (.int p4), .val (.int p5), .val (.int (2 : Int32)), .val (.ref b21), .unset, .unset] [(.ref b21)])) rfl (by rw [hml]; rfl) (argsL := [(.ref b21)]) (rest := []) (lenOf own_pd___I__I rfl) rfl (by show 2 * 0 + _ ≤ _; exact Nat.le_of_eq rfl) (hb hby at_60) (fun _ _ => ⟨rfl, e27, (by decide : 1 + 1 ≤ _), (by decide : 2 + 2 ≤ _)⟩)
    dsimp only [Pt.U, Pt.locs, Pt.cells, Pt.slots] at X30 l30 y30 z30 st30 hQ30
    subst l30 y30 z30
    obtain ⟨rfl, Nq30, Kq30, kq30, Vq30⟩ := hQ30
    have N30 := Fr.app N27 Nq30
    refine own_st st30 ?_
    have z31 : n0 ≤ T30.heap.size := Nat.le_trans z28 Kq30.1
    show own_Go p.tables e below RR (T30.setTop (mkF m 63 #[.val (.int p1), .val (.int p2), .val (.int p3), .val (.int p4), .val (.int p5), .val (.int (2 : Int32)), .val (.ref b21), .unset, .unset] [(.ref b29)]))
    refine own_st (fun _ k => XS.astore X30.here hx rfl (hb hby at_63) rfl rfl (l' := #[.val (.int p1), .val (.int p2), .val (.int p3), .val (.int p4), .val (.int p5), .val (.int (2 : Int32)), .val (.ref b21), .val (.ref b29), .unset]) rfl (XS.aload X30.here hx rfl (hb hby at_65) rfl rfl k)) ?_
    show own_Go p.tables e below RR (T30.setTop (mkF m 67 #[.val (.int p1), .val (.int p2), .val (.int p3), .val (.int p4), .val (.int p5), .val (.int (2 : Int32)), .val (.ref b21), .val (.ref b29), .unset] [(.ref b29)]))
    refine own_st (fun _ k => XS.ifnullNo X30.here hx rfl (hb hby at_67) rfl (XS.aload X30.here hx rfl (hb hby at_70) rfl rfl k)) ?_
    show own_Go p.tables e below RR (T30.setTop (mkF m 72 #[.val (.int p1), .val (.int p2), .val (.int p3), .val (.int p4), .val (.int p5), .val (.int (2 : Int32)), .val (.ref b21), .val (.ref b29), .unset] [(.ref b29)]))
    obtain ⟨c32, A32, -, s32, m32, -, -⟩ := id Vq30
    refine own_st (fun _ k => own_len X30 hx hZ rfl A32 s32 m32 (g := (mkF m 72 #[.val (.int p1), .val (.int p2), .val (.int p3), .val (.int p4), .val (.int p5), .val (.int (2 : Int32)), .val (.ref b21), .val (.ref b29), .unset] [(.ref b29)])) rfl rfl (hb hby at_72) (XS.iload X30.here hx rfl (hb hby at_73) rfl k)) ?_
    show own_Go p.tables e below RR (T30.setTop (mkF m 75 #[.val (.int p1), .val (.int p2), .val (.int p3), .val (.int p4), .val (.int p5), .val (.int (2 : Int32)), .val (.ref b21), .val (.ref b29), .unset] [(.int (2 : Int32)), (.int (2 : Int32))]))
    refine own_st (fun _ k => XS.icmpYes X30.here hx rfl (pc0 := 75) (pc' := 80) rfl (hb hby at_75) rfl (teq (by decide)).1 (by decide) (by decide) (XS.iconst X30.here hx rfl (hb hby at_80) (XS.istore X30.here hx rfl (hb hby at_81) rfl (l' := #[.val (.int p1), .val (.int p2), .val (.int p3), .val (.int p4), .val (.int p5), .val (.int (2 : Int32)), .val (.ref b21), .val (.ref b29), .val (.int (1 : Int32))]) rfl (XS.iload X30.here hx rfl (hb hby at_83) rfl k)))) ?_
    show own_Go p.tables e below RR (T30.setTop (mkF m 85 #[.val (.int p1), .val (.int p2), .val (.int p3), .val (.int p4), .val (.int p5), .val (.int (2 : Int32)), .val (.ref b21), .val (.ref b29), .val (.int (1 : Int32))] [(.int (2 : Int32))]))
    refine own_st (fun _ k => XS.ifNo X30.here hx rfl (hb hby at_85) rfl ((if0 _ _).trans (tlt (by decide)).2.2.2) (XS.iload X30.here hx rfl (hb hby at_88) rfl k)) ?_
    show own_Go p.tables e below RR (T30.setTop (mkF m 90 #[.val (.int p1), .val (.int p2), .val (.int p3), .val (.int p4), .val (.int p5), .val (.int (2 : Int32)), .val (.ref b21), .val (.ref b29), .val (.int (1 : Int32))] [(.int (1 : Int32))]))
    refine own_st (fun _ k => XS.ifNo X30.here hx rfl (hb hby at_90) rfl ((if0 _ _).trans (feq (by decide)).1) (XS.aload X30.here hx rfl (hb hby at_93) rfl rfl (XS.iconst X30.here hx rfl (hb hby at_95) k))) ?_
    show own_Go p.tables e below RR (T30.setTop (mkF m 96 #[.val (.int p1), .val (.int p2), .val (.int p3), .val (.int p4), .val (.int p5), .val (.int (2 : Int32)), .val (.ref b21), .val (.ref b29), .val (.int (1 : Int32))] [(.int (0 : Int32)), (.ref b21)]))
    have f33 := (V27.keep Kq30 nin0)
    obtain ⟨c34, A34, q34, s34, m34, H34, G34⟩ := id f33
    have b34 := inb_of (j := (0 : Int32)) s34 ⟨by decide, by decide⟩
    refine own_st (fun _ k => X30.iaload hx (j := (0 : Int32)) (v := (.int p2)) (by exact A34.1) (State.isArrayOf_alike hZ.alike A34.2.1) A34.2.2 b34 (Has.at H34 b34 rfl) (g := (mkF m 96 #[.val (.int p1), .val (.int p2), .val (.int p3), .val (.int p4), .val (.int p5), .val (.int (2 : Int32)), .val (.ref b21), .val (.ref b29), .val (.int (1 : Int32))] [(.int (0 : Int32)), (.ref b21)])) rfl rfl (hb hby at_96) _ (XS.iloadN X30.here hx rfl (hb hby at_97) rfl k)) ?_
    show own_Go p.tables e below RR (T30.setTop (mkF m 98 #[.val (.int p1), .val (.int p2), .val (.int p3), .val (.int p4), .val (.int p5), .val (.int (2 : Int32)), .val (.ref b21), .val (.ref b29), .val (.int (1 : Int32))] [(.int p2), (.int p2)]))
    refine own_st (fun _ k => XS.icmpNo X30.here hx rfl (hb hby at_98) rfl (teq rfl).2 (XS.aload X30.here hx rfl (hb hby at_101) rfl rfl (XS.iconst X30.here hx rfl (hb hby at_103) k))) ?_
    show own_Go p.tables e below RR (T30.setTop (mkF m 104 #[.val (.int p1), .val (.int p2), .val (.int p3), .val (.int p4), .val (.int p5), .val (.int (2 : Int32)), .val (.ref b21), .val (.ref b29), .val (.int (1 : Int32))] [(.int (0 : Int32)), (.ref b29)]))
    obtain ⟨c35, A35, q35, s35, m35, H35, G35⟩ := id Vq30
    have b35 := inb_of (j := (0 : Int32)) s35 ⟨by decide, by decide⟩
    refine own_st (fun _ k => X30.iaload hx (j := (0 : Int32)) (v := (.int p3)) (by exact A35.1) (State.isArrayOf_alike hZ.alike A35.2.1) A35.2.2 b35 (Has.at H35 b35 rfl) (g := (mkF m 104 #[.val (.int p1), .val (.int p2), .val (.int p3), .val (.int p4), .val (.int p5), .val (.int (2 : Int32)), .val (.ref b21), .val (.ref b29), .val (.int (1 : Int32))] [(.int (0 : Int32)), (.ref b29)])) rfl rfl (hb hby at_104) _ (XS.iload X30.here hx rfl (hb hby at_105) rfl (XS.iconst X30.here hx rfl (hb hby at_107) (XS.isub X30.here hx rfl (hb hby at_108) rfl (XS.iloadN X30.here hx rfl (hb hby at_109) rfl (XS.iloadN X30.here hx rfl (hb hby at_110) rfl (XS.iloadN X30.here hx rfl (hb hby at_111) rfl (XS.iload X30.here hx rfl (hb hby at_112) rfl k)))))))) ?_
    show own_Go p.tables e below RR (T30.setTop (mkF m 114 #[.val (.int p1), .val (.int p2), .val (.int p3), .val (.int p4), .val (.int p5), .val (.int (2 : Int32)), .val (.ref b21), .val (.ref b29), .val (.int (1 : Int32))] [(.int p5), (.int p4), (.int p3), (.int p2), (.int (1 : Int32)), (.int p3)]))
    obtain ⟨_, _, ⟨T36, L36, k36, n36⟩, -, X36, ⟨Lc36, hQ36, l36, y36, z36⟩, st36⟩ := Jvm.LawKit.callS X30 hx (y := (⟨"com/example/candex/candex/index/TermTrieReversedPinLaw", "pick", "(IIIII)I"⟩ : MethodName)) hown (mvT hZ (hw _ (List.mem_of_getElem? (i := 6) rfl))) (mvT hZ (hw _ (List.mem_of_getElem? (i := 7) rfl))) (mvT hZ (hw _ (List.mem_of_getElem? (i := 8) rfl))) (mvT hZ (hw _ (List.mem_of_getElem? (i := 9) rfl))) (by decide) (backOf (W := 1) (own_rmP l Z a0 hw [] (1 : Int32) p2 p3 p4 p5 p3 T30.heap n0 z31 rfl) hZ (hw _ (List.mem_of_getElem? (i := 9) rfl)) (hw _ (List.mem_of_getElem? (i := 8) rfl)) (by decide) (by decide)) (g := (mkF m 114 #[.val (.int p1), .val (.int p2), .val (.int p3), .val (.int p4), .val (.int p5), .val (.int (2 : Int32)), .val (.ref b21), .val (.ref b29), .val (.int (1 : Int32))] [(.int p5), (.int p4), (.int p3), (.int p2), (.int (1 : Int32)), (.int p3)])) rfl (by rw [hml]; rfl) (argsL := [(.int (1 : Int32)), (.int p2), (.int p3), (.int p4), (.int p5)]) (rest := [(.int p3)]) (lenOf own_pd__IIIII_I rfl) rfl (by show 2 * 0 + _ ≤ _; exact Nat.le_of_eq rfl) (hb hby at_114) (fun _ _ => ⟨rfl, rfl, (by decide : 2 + 0 ≤ _), (by decide : 4 + 0 ≤ _)⟩)
    dsimp only [Pt.U, Pt.locs, Pt.cells, Pt.slots] at X36 l36 y36 z36 st36 hQ36
    subst l36 y36 z36
    obtain ⟨rfl, Nq36, eq36⟩ := hQ36
    have N36 := Fr.app N30 Nq36
    refine own_st st36 ?_
    show own_Go p.tables e below RR (T36.setTop (mkF m 117 #[.val (.int p1), .val (.int p2), .val (.int p3), .val (.int p4), .val (.int p5), .val (.int (2 : Int32)), .val (.ref b21), .val (.ref b29), .val (.int (1 : Int32))] [(.int p3), (.int p3)]))
    refine own_st (fun _ k => XS.icmpNo X36.here hx rfl (hb hby at_117) rfl (teq rfl).2 (XS.iconst X36.here hx rfl (hb hby at_120) (XS.goto X36.here hx rfl (pc0 := 121) (pc' := 125) rfl (hb hby at_121) (by decide) (by decide) (XS.istore X36.here hx rfl (hb hby at_125) rfl (l' := #[.val (.int p1), .val (.int p2), .val (.int p3), .val (.int p4), .val (.int p5), .val (.int (2 : Int32)), .val (.ref b21), .val (.ref b29), .val (.int (1 : Int32))]) rfl (XS.iload X36.here hx rfl (hb hby at_127) rfl (XS.iconst X36.here hx rfl (hb hby at_129) k)))))) ?_
    show own_Go p.tables e below RR (T36.setTop (mkF m 130 #[.val (.int p1), .val (.int p2), .val (.int p3), .val (.int p4), .val (.int p5), .val (.int (2 : Int32)), .val (.ref b21), .val (.ref b29), .val (.int (1 : Int32))] [(.int (1 : Int32)), (.int (2 : Int32))]))
    refine own_st (fun _ k => XS.icmpNo X36.here hx rfl (hb hby at_130) rfl (tlt (by decide)).2.2.2 (XS.iload X36.here hx rfl (hb hby at_133) rfl k)) ?_
    show own_Go p.tables e below RR (T36.setTop (mkF m 135 #[.val (.int p1), .val (.int p2), .val (.int p3), .val (.int p4), .val (.int p5), .val (.int (2 : Int32)), .val (.ref b21), .val (.ref b29), .val (.int (1 : Int32))] [(.int (1 : Int32))]))
    refine own_st (fun _ k => XS.ifNo X36.here hx rfl (hb hby at_135) rfl ((if0 _ _).trans (feq (by decide)).1) (XS.aload X36.here hx rfl (hb hby at_138) rfl rfl (XS.iconst X36.here hx rfl (hb hby at_140) k))) ?_
    show own_Go p.tables e below RR (T36.setTop (mkF m 141 #[.val (.int p1), .val (.int p2), .val (.int p3), .val (.int p4), .val (.int p5), .val (.int (2 : Int32)), .val (.ref b21), .val (.ref b29), .val (.int (1 : Int32))] [(.int (1 : Int32)), (.ref b21)]))
    obtain ⟨c37, A37, q37, s37, m37, H37, G37⟩ := id f33
    have b37 := inb_of (j := (1 : Int32)) s37 ⟨by decide, by decide⟩
    refine own_st (fun _ k => X36.iaload hx (j := (1 : Int32)) (v := (.int p3)) (by rw [eq36]; exact A37.1) (State.isArrayOf_alike hZ.alike A37.2.1) A37.2.2 b37 (Has.at H37 b37 rfl) (g := (mkF m 141 #[.val (.int p1), .val (.int p2), .val (.int p3), .val (.int p4), .val (.int p5), .val (.int (2 : Int32)), .val (.ref b21), .val (.ref b29), .val (.int (1 : Int32))] [(.int (1 : Int32)), (.ref b21)])) rfl rfl (hb hby at_141) _ (XS.iloadN X36.here hx rfl (hb hby at_142) rfl k)) ?_
    show own_Go p.tables e below RR (T36.setTop (mkF m 143 #[.val (.int p1), .val (.int p2), .val (.int p3), .val (.int p4), .val (.int p5), .val (.int (2 : Int32)), .val (.ref b21), .val (.ref b29), .val (.int (1 : Int32))] [(.int p3), (.int p3)]))
    refine own_st (fun _ k => XS.icmpNo X36.here hx rfl (hb hby at_143) rfl (teq rfl).2 (XS.aload X36.here hx rfl (hb hby at_146) rfl rfl (XS.iconst X36.here hx rfl (hb hby at_148) k))) ?_
    show own_Go p.tables e below RR (T36.setTop (mkF m 149 #[.val (.int p1), .val (.int p2), .val (.int p3), .val (.int p4), .val (.int p5), .val (.int (2 : Int32)), .val (.ref b21), .val (.ref b29), .val (.int (1 : Int32))] [(.int (1 : Int32)), (.ref b29)]))
    obtain ⟨c38, A38, q38, s38, m38, H38, G38⟩ := id Vq30
    have b38 := inb_of (j := (1 : Int32)) s38 ⟨by decide, by decide⟩
    refine own_st (fun _ k => X36.iaload hx (j := (1 : Int32)) (v := (.int p2)) (by rw [eq36]; exact A38.1) (State.isArrayOf_alike hZ.alike A38.2.1) A38.2.2 b38 (Has.at H38 b38 rfl) (g := (mkF m 149 #[.val (.int p1), .val (.int p2), .val (.int p3), .val (.int p4), .val (.int p5), .val (.int (2 : Int32)), .val (.ref b21), .val (.ref b29), .val (.int (1 : Int32))] [(.int (1 : Int32)), (.ref b29)])) rfl rfl (hb hby at_149) _ (XS.iload X36.here hx rfl (hb hby at_150) rfl (XS.iconst X36.here hx rfl (hb hby at_152) (XS.isub X36.here hx rfl (hb hby at_153) rfl (XS.iloadN X36.here hx rfl (hb hby at_154) rfl (XS.iloadN X36.here hx rfl (hb hby at_155) rfl (XS.iloadN X36.here hx rfl (hb hby at_156) rfl (XS.iload X36.here hx rfl (hb hby at_157) rfl k)))))))) ?_
    show own_Go p.tables e below RR (T36.setTop (mkF m 159 #[.val (.int p1), .val (.int p2), .val (.int p3), .val (.int p4), .val (.int p5), .val (.int (2 : Int32)), .val (.ref b21), .val (.ref b29), .val (.int (1 : Int32))] [(.int p5), (.int p4), (.int p3), (.int p2), (.int (0 : Int32)), (.int p2)]))
    obtain ⟨_, _, ⟨T39, L39, k39, n39⟩, -, X39, ⟨Lc39, hQ39, l39, y39, z39⟩, st39⟩ := Jvm.LawKit.callS X36 hx (y := (⟨"com/example/candex/candex/index/TermTrieReversedPinLaw", "pick", "(IIIII)I"⟩ : MethodName)) hown (mvT hZ (hw _ (List.mem_of_getElem? (i := 6) rfl))) (mvT hZ (hw _ (List.mem_of_getElem? (i := 7) rfl))) (mvT hZ (hw _ (List.mem_of_getElem? (i := 8) rfl))) (mvT hZ (hw _ (List.mem_of_getElem? (i := 9) rfl))) (by decide) (backOf (W := 1) (own_rmP l Z a0 hw [] (0 : Int32) p2 p3 p4 p5 p2 T30.heap n0 z31 rfl) hZ (hw _ (List.mem_of_getElem? (i := 9) rfl)) (hw _ (List.mem_of_getElem? (i := 8) rfl)) (by decide) (by decide)) (g := (mkF m 159 #[.val (.int p1), .val (.int p2), .val (.int p3), .val (.int p4), .val (.int p5), .val (.int (2 : Int32)), .val (.ref b21), .val (.ref b29), .val (.int (1 : Int32))] [(.int p5), (.int p4), (.int p3), (.int p2), (.int (0 : Int32)), (.int p2)])) rfl (by rw [hml]; rfl) (argsL := [(.int (0 : Int32)), (.int p2), (.int p3), (.int p4), (.int p5)]) (rest := [(.int p2)]) (lenOf own_pd__IIIII_I rfl) rfl (by show 2 * 0 + _ ≤ _; exact Nat.le_of_eq rfl) (hb hby at_159) (fun _ _ => ⟨rfl, eq36, (by decide : 2 + 0 ≤ _), (by decide : 4 + 0 ≤ _)⟩)
    dsimp only [Pt.U, Pt.locs, Pt.cells, Pt.slots] at X39 l39 y39 z39 st39 hQ39
    subst l39 y39 z39
    obtain ⟨rfl, Nq39, eq39⟩ := hQ39
    have N39 := Fr.app N36 Nq39
    refine own_st st39 ?_
    show own_Go p.tables e below RR (T39.setTop (mkF m 162 #[.val (.int p1), .val (.int p2), .val (.int p3), .val (.int p4), .val (.int p5), .val (.int (2 : Int32)), .val (.ref b21), .val (.ref b29), .val (.int (1 : Int32))] [(.int p2), (.int p2)]))
    refine own_st (fun _ k => XS.icmpNo X39.here hx rfl (hb hby at_162) rfl (teq rfl).2 (XS.iconst X39.here hx rfl (hb hby at_165) (XS.goto X39.here hx rfl (pc0 := 166) (pc' := 170) rfl (hb hby at_166) (by decide) (by decide) (XS.istore X39.here hx rfl (hb hby at_170) rfl (l' := #[.val (.int p1), .val (.int p2), .val (.int p3), .val (.int p4), .val (.int p5), .val (.int (2 : Int32)), .val (.ref b21), .val (.ref b29), .val (.int (1 : Int32))]) rfl (XS.iload X39.here hx rfl (hb hby at_172) rfl (XS.iconst X39.here hx rfl (hb hby at_174) k)))))) ?_
    show own_Go p.tables e below RR (T39.setTop (mkF m 175 #[.val (.int p1), .val (.int p2), .val (.int p3), .val (.int p4), .val (.int p5), .val (.int (2 : Int32)), .val (.ref b21), .val (.ref b29), .val (.int (1 : Int32))] [(.int (2 : Int32)), (.int (2 : Int32))]))
    refine own_st (fun _ k => XS.icmpYes X39.here hx rfl (pc0 := 175) (pc' := 217) rfl (hb hby at_175) rfl (flt (by decide)).2.2.2 (by decide) (by decide) (XS.iload X39.here hx rfl (hb hby at_217) rfl (XS.iconst X39.here hx rfl (hb hby at_219) k))) ?_
    show own_Go p.tables e below RR (T39.setTop (mkF m 220 #[.val (.int p1), .val (.int p2), .val (.int p3), .val (.int p4), .val (.int p5), .val (.int (2 : Int32)), .val (.ref b21), .val (.ref b29), .val (.int (1 : Int32))] [(.int (3 : Int32)), (.int (2 : Int32))]))
    refine own_st (fun _ k => XS.icmpYes X39.here hx rfl (pc0 := 220) (pc' := 263) rfl (hb hby at_220) rfl (flt (by decide)).2.2.2 (by decide) (by decide) (XS.iload X39.here hx rfl (hb hby at_263) rfl k)) ?_
    show own_Go p.tables e below RR (T39.setTop (mkF m 265 #[.val (.int p1), .val (.int p2), .val (.int p3), .val (.int p4), .val (.int p5), .val (.int (2 : Int32)), .val (.ref b21), .val (.ref b29), .val (.int (1 : Int32))] [(.int (1 : Int32))]))
    obtain ⟨fs, hrt_, hrun, hended, hW, hsame⟩ := X39.leave (v := some (.int (1 : Int32))) (fun h => by rw [Bd.returns] at h; cases h)
    refine own_fin (retN X39 hx (t := .boolean) Bd.returns (by simp) (hb hby at_265) hrt_) (hRR _ ⟨_, hrun, hended, _, _, rfl, ?_, ⟨_, rfl⟩, hW, hsame.mono (by decide) (by decide)⟩)
    show own_Q0 Z p1 p2 p3 p4 p5 h0 n0 _ T39.heap _
    rw [eq39]
    exact ⟨rfl, N39⟩
  · show own_Go p.tables e below RR (s₁.setTop (mkF m 8 #[.val (.int p1), .val (.int p2), .val (.int p3), .val (.int p4), .val (.int p5), .val (.int (3 : Int32)), .unset, .unset, .unset] []))
    show own_Go p.tables e below RR (s₁.setTop (mkF m 8 #[.val (.int p1), .val (.int p2), .val (.int p3), .val (.int p4), .val (.int p5), .val (.int (3 : Int32)), .unset, .unset, .unset] []))
    refine own_st (fun _ k => XS.iload X0.here hx rfl (hb hby at_8) rfl k) ?_
    show own_Go p.tables e below RR (s₁.setTop (mkF m 10 #[.val (.int p1), .val (.int p2), .val (.int p3), .val (.int p4), .val (.int p5), .val (.int (3 : Int32)), .unset, .unset, .unset] [(.int (3 : Int32))]))
    obtain ⟨T40, h40, k40, X40, e40, E40, A40, st40⟩ := newP X0 hx hZ (hw _ (List.mem_of_getElem? (i := 1) rfl)) e0 (g := (mkF m 10 #[.val (.int p1), .val (.int p2), .val (.int p3), .val (.int p4), .val (.int p5), .val (.int (3 : Int32)), .unset, .unset, .unset] [(.int (3 : Int32))])) rfl (hb hby at_10) rfl (by decide) (cap := 3) (by decide) (by decide) (by decide) (by decide)
    obtain ⟨b40, gb40⟩ : ∃ z, z = h0.size := ⟨_, rfl⟩
    rw [← gb40] at A40 st40
    have ge40 : n0 ≤ b40 := Nat.le_trans Z0 (Nat.le_of_eq gb40.symm)
    refine own_st st40 ?_
    have z41 : n0 ≤ h40.size := Nat.le_trans Z0 E40.1
    have V40 : Arv Z h40 b40 k40 .int (3 : Int32) [(.int (0 : Int32)), (.int (0 : Int32)), (.int (0 : Int32))] (.int (0 : Int32)) := (Arv.new A40 (by decide)).pad (pad_rep [] (.int (0 : Int32)) 3)
    show own_Go p.tables e below RR (T40.setTop (mkF m 12 #[.val (.int p1), .val (.int p2), .val (.int p3), .val (.int p4), .val (.int p5), .val (.int (3 : Int32)), .unset, .unset, .unset] [(.ref b40)]))
    refine own_st (fun _ k => XS.astore X40.here hx rfl (hb hby at_12) rfl rfl (l' := #[.val (.int p1), .val (.int p2), .val (.int p3), .val (.int p4), .val (.int p5), .val (.int (3 : Int32)), .val (.ref b40), .unset, .unset]) rfl (XS.iload X40.here hx rfl (hb hby at_14) rfl k)) ?_
    show own_Go p.tables e below RR (T40.setTop (mkF m 16 #[.val (.int p1), .val (.int p2), .val (.int p3), .val (.int p4), .val (.int p5), .val (.int (3 : Int32)), .val (.ref b40), .unset, .unset] [(.int (3 : Int32))]))
    refine own_st (fun _ k => XS.ifNo X40.here hx rfl (hb hby at_16) rfl ((if0 _ _).trans (tlt (by decide)).2.2.2) (XS.aload X40.here hx rfl (hb hby at_19) rfl rfl (XS.iconst X40.here hx rfl (hb hby at_21) (XS.iloadN X40.here hx rfl (hb hby at_22) rfl k)))) ?_
    show own_Go p.tables e below RR (T40.setTop (mkF m 23 #[.val (.int p1), .val (.int p2), .val (.int p3), .val (.int p4), .val (.int p5), .val (.int (3 : Int32)), .val (.ref b40), .unset, .unset] [(.int p2), (.int (0 : Int32)), (.ref b40)]))
    obtain ⟨c42, A42, q42, s42, m42, H42, G42⟩ := id V40
    obtain ⟨T43, h43, X43, e43, W43, st43⟩ := stI X40 hx hZ e40 A42 (j := (0 : Int32)) (inb_of s42 ⟨by decide, by decide⟩) (g := (mkF m 23 #[.val (.int p1), .val (.int p2), .val (.int p3), .val (.int p4), .val (.int p5), .val (.int (3 : Int32)), .val (.ref b40), .unset, .unset] [(.int p2), (.int (0 : Int32)), (.ref b40)])) rfl rfl (hb hby at_23)
    have V43 := Arv.set A42 q42 s42 m42 H42 G42 rfl W43 0 rfl (Nat.le_of_ble_eq_true rfl)
    have V43 : Arv Z h43 b40 k40 .int (3 : Int32) [(.int p2), (.int (0 : Int32)), (.int (0 : Int32))] (.int (0 : Int32)) := V43
    have N43 := Fr.snoc X43 N0 ge40
    refine own_st st43 ?_
    have z44 : n0 ≤ h43.size := Nat.le_trans z41 (Keep.of_wr W43).1
    show own_Go p.tables e below RR (T43.setTop (mkF m 24 #[.val (.int p1), .val (.int p2), .val (.int p3), .val (.int p4), .val (.int p5), .val (.int (3 : Int32)), .val (.ref b40), .unset, .unset] []))
    refine own_st (fun _ k => XS.iload X43.here hx rfl (hb hby at_24) rfl (XS.iconst X43.here hx rfl (hb hby at_26) k)) ?_
    show own_Go p.tables e below RR (T43.setTop (mkF m 27 #[.val (.int p1), .val (.int p2), .val (.int p3), .val (.int p4), .val (.int p5), .val (.int (3 : Int32)), .val (.ref b40), .unset, .unset] [(.int (1 : Int32)), (.int (3 : Int32))]))
    refine own_st (fun _ k => XS.icmpNo X43.here hx rfl (hb hby at_27) rfl (tlt (by decide)).2.2.2 (XS.aload X43.here hx rfl (hb hby at_30) rfl rfl (XS.iconst X43.here hx rfl (hb hby at_32) (XS.iloadN X43.here hx rfl (hb hby at_33) rfl k)))) ?_
    show own_Go p.tables e below RR (T43.setTop (mkF m 34 #[.val (.int p1), .val (.int p2), .val (.int p3), .val (.int p4), .val (.int p5), .val (.int (3 : Int32)), .val (.ref b40), .unset, .unset] [(.int p3), (.int (1 : Int32)), (.ref b40)]))
    obtain ⟨c45, A45, q45, s45, m45, H45, G45⟩ := id V43
    obtain ⟨T46, h46, X46, e46, W46, st46⟩ := stI X43 hx hZ e43 A45 (j := (1 : Int32)) (inb_of s45 ⟨by decide, by decide⟩) (g := (mkF m 34 #[.val (.int p1), .val (.int p2), .val (.int p3), .val (.int p4), .val (.int p5), .val (.int (3 : Int32)), .val (.ref b40), .unset, .unset] [(.int p3), (.int (1 : Int32)), (.ref b40)])) rfl rfl (hb hby at_34)
    have V46 := Arv.set A45 q45 s45 m45 H45 G45 rfl W46 1 rfl (Nat.le_of_ble_eq_true rfl)
    have V46 : Arv Z h46 b40 k40 .int (3 : Int32) [(.int p2), (.int p3), (.int (0 : Int32))] (.int (0 : Int32)) := V46
    have N46 := Fr.snoc X46 N43 ge40
    refine own_st st46 ?_
    have z47 : n0 ≤ h46.size := Nat.le_trans z44 (Keep.of_wr W46).1
    show own_Go p.tables e below RR (T46.setTop (mkF m 35 #[.val (.int p1), .val (.int p2), .val (.int p3), .val (.int p4), .val (.int p5), .val (.int (3 : Int32)), .val (.ref b40), .unset, .unset] []))
    refine own_st (fun _ k => XS.iload X46.here hx rfl (hb hby at_35) rfl (XS.iconst X46.here hx rfl (hb hby at_37) k)) ?_
    show own_Go p.tables e below RR (T46.setTop (mkF m 38 #[.val (.int p1), .val (.int p2), .val (.int p3), .val (.int p4), .val (.int p5), .val (.int (3 : Int32)), .val (.ref b40), .unset, .unset] [(.int (2 : Int32)), (.int (3 : Int32))]))
    refine own_st (fun _ k => XS.icmpNo X46.here hx rfl (hb hby at_38) rfl (tlt (by decide)).2.2.2 (XS.aload X46.here hx rfl (hb hby at_41) rfl rfl (XS.iconst X46.here hx rfl (hb hby at_43) (XS.iloadN X46.here hx rfl (hb hby at_44) rfl k)))) ?_
    show own_Go p.tables e below RR (T46.setTop (mkF m 45 #[.val (.int p1), .val (.int p2), .val (.int p3), .val (.int p4), .val (.int p5), .val (.int (3 : Int32)), .val (.ref b40), .unset, .unset] [(.int p4), (.int (2 : Int32)), (.ref b40)]))
    obtain ⟨c48, A48, q48, s48, m48, H48, G48⟩ := id V46
    obtain ⟨T49, h49, X49, e49, W49, st49⟩ := stI X46 hx hZ e46 A48 (j := (2 : Int32)) (inb_of s48 ⟨by decide, by decide⟩) (g := (mkF m 45 #[.val (.int p1), .val (.int p2), .val (.int p3), .val (.int p4), .val (.int p5), .val (.int (3 : Int32)), .val (.ref b40), .unset, .unset] [(.int p4), (.int (2 : Int32)), (.ref b40)])) rfl rfl (hb hby at_45)
    have V49 := Arv.set A48 q48 s48 m48 H48 G48 rfl W49 2 rfl (Nat.le_of_ble_eq_true rfl)
    have V49 : Arv Z h49 b40 k40 .int (3 : Int32) [(.int p2), (.int p3), (.int p4)] (.int (0 : Int32)) := V49
    have N49 := Fr.snoc X49 N46 ge40
    refine own_st st49 ?_
    have z50 : n0 ≤ h49.size := Nat.le_trans z47 (Keep.of_wr W49).1
    show own_Go p.tables e below RR (T49.setTop (mkF m 46 #[.val (.int p1), .val (.int p2), .val (.int p3), .val (.int p4), .val (.int p5), .val (.int (3 : Int32)), .val (.ref b40), .unset, .unset] []))
    refine own_st (fun _ k => XS.iload X49.here hx rfl (hb hby at_46) rfl (XS.iconst X49.here hx rfl (hb hby at_48) k)) ?_
    show own_Go p.tables e below RR (T49.setTop (mkF m 49 #[.val (.int p1), .val (.int p2), .val (.int p3), .val (.int p4), .val (.int p5), .val (.int (3 : Int32)), .val (.ref b40), .unset, .unset] [(.int (3 : Int32)), (.int (3 : Int32))]))
    refine own_st (fun _ k => XS.icmpYes X49.here hx rfl (pc0 := 49) (pc' := 58) rfl (hb hby at_49) rfl (flt (by decide)).2.2.2 (by decide) (by decide) (XS.aload X49.here hx rfl (hb hby at_58) rfl rfl k)) ?_
    show own_Go p.tables e below RR (T49.setTop (mkF m 60 #[.val (.int p1), .val (.int p2), .val (.int p3), .val (.int p4), .val (.int p5), .val (.int (3 : Int32)), .val (.ref b40), .unset, .unset] [(.ref b40)]))
    obtain ⟨b51, gb51⟩ : ∃ z, z = h49.size := ⟨_, rfl⟩
    have ge51 : n0 ≤ b51 := Nat.le_trans z50 (Nat.le_of_eq gb51.symm)
    obtain ⟨_, _, ⟨T52, L52, k52, n52⟩, -, X52, ⟨Lc52, hQ52, l52, y52, z52⟩, st52⟩ := Jvm.LawKit.callS X49 hx (y := (⟨"com/example/candex/candex/index/TermTrie", "reversed", "([I)[I"⟩ : MethodName)) hown (mvT hZ (hw _ (List.mem_of_getElem? (i := 2) rfl))) (mvT hZ (hw _ (List.mem_of_getElem? (i := 3) rfl))) (mvT hZ (hw _ (List.mem_of_getElem? (i := 4) rfl))) (mvT hZ (hw _ (List.mem_of_getElem? (i := 5) rfl))) (by decide) (backOf (W := 0) (own_rmV3 l Z a0 hw [] b40 k40 p2 p3 p4 b51 h49 n0 z50 V49 gb51) hZ (hw _ (List.mem_of_getElem? (i := 5) rfl)) (hw _ (List.mem_of_getElem? (i := 4) rfl)) (by decide) (by decide)) (g := (mkF m 60 #[.val (.int p1), .val (.int p2), .val (.int p3), .val (.int p4), .val (.int p5), .val (.int (3 : Int32)), .val (.ref b40), .unset, .unset] [(.ref b40)])) rfl (by rw [hml]; rfl) (argsL := [(.ref b40)]) (rest := []) (lenOf own_pd___I__I rfl) rfl (by show 2 * 0 + _ ≤ _; exact Nat.le_of_eq rfl) (hb hby at_60) (fun _ _ => ⟨rfl, e49, (by decide : 1 + 1 ≤ _), (by decide : 3 + 3 ≤ _)⟩)
    dsimp only [Pt.U, Pt.locs, Pt.cells, Pt.slots] at X52 l52 y52 z52 st52 hQ52
    subst l52 y52 z52
    obtain ⟨rfl, Nq52, Kq52, kq52, Vq52⟩ := hQ52
    have N52 := Fr.app N49 Nq52
    refine own_st st52 ?_
    have z53 : n0 ≤ T52.heap.size := Nat.le_trans z50 Kq52.1
    show own_Go p.tables e below RR (T52.setTop (mkF m 63 #[.val (.int p1), .val (.int p2), .val (.int p3), .val (.int p4), .val (.int p5), .val (.int (3 : Int32)), .val (.ref b40), .unset, .unset] [(.ref b51)]))
    refine own_st (fun _ k => XS.astore X52.here hx rfl (hb hby at_63) rfl rfl (l' := #[.val (.int p1), .val (.int p2), .val (.int p3), .val (.int p4), .val (.int p5), .val (.int (3 : Int32)), .val (.ref b40), .val (.ref b51), .unset]) rfl (XS.aload X52.here hx rfl (hb hby at_65) rfl rfl k)) ?_
    show own_Go p.tables e below RR (T52.setTop (mkF m 67 #[.val (.int p1), .val (.int p2), .val (.int p3), .val (.int p4), .val (.int p5), .val (.int (3 : Int32)), .val (.ref b40), .val (.ref b51), .unset] [(.ref b51)]))
    refine own_st (fun _ k => XS.ifnullNo X52.here hx rfl (hb hby at_67) rfl (XS.aload X52.here hx rfl (hb hby at_70) rfl rfl k)) ?_
    show own_Go p.tables e below RR (T52.setTop (mkF m 72 #[.val (.int p1), .val (.int p2), .val (.int p3), .val (.int p4), .val (.int p5), .val (.int (3 : Int32)), .val (.ref b40), .val (.ref b51), .unset] [(.ref b51)]))
    obtain ⟨c54, A54, -, s54, m54, -, -⟩ := id Vq52
    refine own_st (fun _ k => own_len X52 hx hZ rfl A54 s54 m54 (g := (mkF m 72 #[.val (.int p1), .val (.int p2), .val (.int p3), .val (.int p4), .val (.int p5), .val (.int (3 : Int32)), .val (.ref b40), .val (.ref b51), .unset] [(.ref b51)])) rfl rfl (hb hby at_72) (XS.iload X52.here hx rfl (hb hby at_73) rfl k)) ?_
    show own_Go p.tables e below RR (T52.setTop (mkF m 75 #[.val (.int p1), .val (.int p2), .val (.int p3), .val (.int p4), .val (.int p5), .val (.int (3 : Int32)), .val (.ref b40), .val (.ref b51), .unset] [(.int (3 : Int32)), (.int (3 : Int32))]))
    refine own_st (fun _ k => XS.icmpYes X52.here hx rfl (pc0 := 75) (pc' := 80) rfl (hb hby at_75) rfl (teq (by decide)).1 (by decide) (by decide) (XS.iconst X52.here hx rfl (hb hby at_80) (XS.istore X52.here hx rfl (hb hby at_81) rfl (l' := #[.val (.int p1), .val (.int p2), .val (.int p3), .val (.int p4), .val (.int p5), .val (.int (3 : Int32)), .val (.ref b40), .val (.ref b51), .val (.int (1 : Int32))]) rfl (XS.iload X52.here hx rfl (hb hby at_83) rfl k)))) ?_
    show own_Go p.tables e below RR (T52.setTop (mkF m 85 #[.val (.int p1), .val (.int p2), .val (.int p3), .val (.int p4), .val (.int p5), .val (.int (3 : Int32)), .val (.ref b40), .val (.ref b51), .val (.int (1 : Int32))] [(.int (3 : Int32))]))
    refine own_st (fun _ k => XS.ifNo X52.here hx rfl (hb hby at_85) rfl ((if0 _ _).trans (tlt (by decide)).2.2.2) (XS.iload X52.here hx rfl (hb hby at_88) rfl k)) ?_
    show own_Go p.tables e below RR (T52.setTop (mkF m 90 #[.val (.int p1), .val (.int p2), .val (.int p3), .val (.int p4), .val (.int p5), .val (.int (3 : Int32)), .val (.ref b40), .val (.ref b51), .val (.int (1 : Int32))] [(.int (1 : Int32))]))
    refine own_st (fun _ k => XS.ifNo X52.here hx rfl (hb hby at_90) rfl ((if0 _ _).trans (feq (by decide)).1) (XS.aload X52.here hx rfl (hb hby at_93) rfl rfl (XS.iconst X52.here hx rfl (hb hby at_95) k))) ?_
    show own_Go p.tables e below RR (T52.setTop (mkF m 96 #[.val (.int p1), .val (.int p2), .val (.int p3), .val (.int p4), .val (.int p5), .val (.int (3 : Int32)), .val (.ref b40), .val (.ref b51), .val (.int (1 : Int32))] [(.int (0 : Int32)), (.ref b40)]))
    have f55 := (V49.keep Kq52 nin0)
    obtain ⟨c56, A56, q56, s56, m56, H56, G56⟩ := id f55
    have b56 := inb_of (j := (0 : Int32)) s56 ⟨by decide, by decide⟩
    refine own_st (fun _ k => X52.iaload hx (j := (0 : Int32)) (v := (.int p2)) (by exact A56.1) (State.isArrayOf_alike hZ.alike A56.2.1) A56.2.2 b56 (Has.at H56 b56 rfl) (g := (mkF m 96 #[.val (.int p1), .val (.int p2), .val (.int p3), .val (.int p4), .val (.int p5), .val (.int (3 : Int32)), .val (.ref b40), .val (.ref b51), .val (.int (1 : Int32))] [(.int (0 : Int32)), (.ref b40)])) rfl rfl (hb hby at_96) _ (XS.iloadN X52.here hx rfl (hb hby at_97) rfl k)) ?_
    show own_Go p.tables e below RR (T52.setTop (mkF m 98 #[.val (.int p1), .val (.int p2), .val (.int p3), .val (.int p4), .val (.int p5), .val (.int (3 : Int32)), .val (.ref b40), .val (.ref b51), .val (.int (1 : Int32))] [(.int p2), (.int p2)]))
    refine own_st (fun _ k => XS.icmpNo X52.here hx rfl (hb hby at_98) rfl (teq rfl).2 (XS.aload X52.here hx rfl (hb hby at_101) rfl rfl (XS.iconst X52.here hx rfl (hb hby at_103) k))) ?_
    show own_Go p.tables e below RR (T52.setTop (mkF m 104 #[.val (.int p1), .val (.int p2), .val (.int p3), .val (.int p4), .val (.int p5), .val (.int (3 : Int32)), .val (.ref b40), .val (.ref b51), .val (.int (1 : Int32))] [(.int (0 : Int32)), (.ref b51)]))
    obtain ⟨c57, A57, q57, s57, m57, H57, G57⟩ := id Vq52
    have b57 := inb_of (j := (0 : Int32)) s57 ⟨by decide, by decide⟩
    refine own_st (fun _ k => X52.iaload hx (j := (0 : Int32)) (v := (.int p4)) (by exact A57.1) (State.isArrayOf_alike hZ.alike A57.2.1) A57.2.2 b57 (Has.at H57 b57 rfl) (g := (mkF m 104 #[.val (.int p1), .val (.int p2), .val (.int p3), .val (.int p4), .val (.int p5), .val (.int (3 : Int32)), .val (.ref b40), .val (.ref b51), .val (.int (1 : Int32))] [(.int (0 : Int32)), (.ref b51)])) rfl rfl (hb hby at_104) _ (XS.iload X52.here hx rfl (hb hby at_105) rfl (XS.iconst X52.here hx rfl (hb hby at_107) (XS.isub X52.here hx rfl (hb hby at_108) rfl (XS.iloadN X52.here hx rfl (hb hby at_109) rfl (XS.iloadN X52.here hx rfl (hb hby at_110) rfl (XS.iloadN X52.here hx rfl (hb hby at_111) rfl (XS.iload X52.here hx rfl (hb hby at_112) rfl k)))))))) ?_
    show own_Go p.tables e below RR (T52.setTop (mkF m 114 #[.val (.int p1), .val (.int p2), .val (.int p3), .val (.int p4), .val (.int p5), .val (.int (3 : Int32)), .val (.ref b40), .val (.ref b51), .val (.int (1 : Int32))] [(.int p5), (.int p4), (.int p3), (.int p2), (.int (2 : Int32)), (.int p4)]))
    obtain ⟨_, _, ⟨T58, L58, k58, n58⟩, -, X58, ⟨Lc58, hQ58, l58, y58, z58⟩, st58⟩ := Jvm.LawKit.callS X52 hx (y := (⟨"com/example/candex/candex/index/TermTrieReversedPinLaw", "pick", "(IIIII)I"⟩ : MethodName)) hown (mvT hZ (hw _ (List.mem_of_getElem? (i := 6) rfl))) (mvT hZ (hw _ (List.mem_of_getElem? (i := 7) rfl))) (mvT hZ (hw _ (List.mem_of_getElem? (i := 8) rfl))) (mvT hZ (hw _ (List.mem_of_getElem? (i := 9) rfl))) (by decide) (backOf (W := 1) (own_rmP l Z a0 hw [] (2 : Int32) p2 p3 p4 p5 p4 T52.heap n0 z53 rfl) hZ (hw _ (List.mem_of_getElem? (i := 9) rfl)) (hw _ (List.mem_of_getElem? (i := 8) rfl)) (by decide) (by decide)) (g := (mkF m 114 #[.val (.int p1), .val (.int p2), .val (.int p3), .val (.int p4), .val (.int p5), .val (.int (3 : Int32)), .val (.ref b40), .val (.ref b51), .val (.int (1 : Int32))] [(.int p5), (.int p4), (.int p3), (.int p2), (.int (2 : Int32)), (.int p4)])) rfl (by rw [hml]; rfl) (argsL := [(.int (2 : Int32)), (.int p2), (.int p3), (.int p4), (.int p5)]) (rest := [(.int p4)]) (lenOf own_pd__IIIII_I rfl) rfl (by show 2 * 0 + _ ≤ _; exact Nat.le_of_eq rfl) (hb hby at_114) (fun _ _ => ⟨rfl, rfl, (by decide : 2 + 0 ≤ _), (by decide : 6 + 0 ≤ _)⟩)
    dsimp only [Pt.U, Pt.locs, Pt.cells, Pt.slots] at X58 l58 y58 z58 st58 hQ58
    subst l58 y58 z58
    obtain ⟨rfl, Nq58, eq58⟩ := hQ58
    have N58 := Fr.app N52 Nq58
    refine own_st st58 ?_
    show own_Go p.tables e below RR (T58.setTop (mkF m 117 #[.val (.int p1), .val (.int p2), .val (.int p3), .val (.int p4), .val (.int p5), .val (.int (3 : Int32)), .val (.ref b40), .val (.ref b51), .val (.int (1 : Int32))] [(.int p4), (.int p4)]))
    refine own_st (fun _ k => XS.icmpNo X58.here hx rfl (hb hby at_117) rfl (teq rfl).2 (XS.iconst X58.here hx rfl (hb hby at_120) (XS.goto X58.here hx rfl (pc0 := 121) (pc' := 125) rfl (hb hby at_121) (by decide) (by decide) (XS.istore X58.here hx rfl (hb hby at_125) rfl (l' := #[.val (.int p1), .val (.int p2), .val (.int p3), .val (.int p4), .val (.int p5), .val (.int (3 : Int32)), .val (.ref b40), .val (.ref b51), .val (.int (1 : Int32))]) rfl (XS.iload X58.here hx rfl (hb hby at_127) rfl (XS.iconst X58.here hx rfl (hb hby at_129) k)))))) ?_
    show own_Go p.tables e below RR (T58.setTop (mkF m 130 #[.val (.int p1), .val (.int p2), .val (.int p3), .val (.int p4), .val (.int p5), .val (.int (3 : Int32)), .val (.ref b40), .val (.ref b51), .val (.int (1 : Int32))] [(.int (1 : Int32)), (.int (3 : Int32))]))
    refine own_st (fun _ k => XS.icmpNo X58.here hx rfl (hb hby at_130) rfl (tlt (by decide)).2.2.2 (XS.iload X58.here hx rfl (hb hby at_133) rfl k)) ?_
    show own_Go p.tables e below RR (T58.setTop (mkF m 135 #[.val (.int p1), .val (.int p2), .val (.int p3), .val (.int p4), .val (.int p5), .val (.int (3 : Int32)), .val (.ref b40), .val (.ref b51), .val (.int (1 : Int32))] [(.int (1 : Int32))]))
    refine own_st (fun _ k => XS.ifNo X58.here hx rfl (hb hby at_135) rfl ((if0 _ _).trans (feq (by decide)).1) (XS.aload X58.here hx rfl (hb hby at_138) rfl rfl (XS.iconst X58.here hx rfl (hb hby at_140) k))) ?_
    show own_Go p.tables e below RR (T58.setTop (mkF m 141 #[.val (.int p1), .val (.int p2), .val (.int p3), .val (.int p4), .val (.int p5), .val (.int (3 : Int32)), .val (.ref b40), .val (.ref b51), .val (.int (1 : Int32))] [(.int (1 : Int32)), (.ref b40)]))
    obtain ⟨c59, A59, q59, s59, m59, H59, G59⟩ := id f55
    have b59 := inb_of (j := (1 : Int32)) s59 ⟨by decide, by decide⟩
    refine own_st (fun _ k => X58.iaload hx (j := (1 : Int32)) (v := (.int p3)) (by rw [eq58]; exact A59.1) (State.isArrayOf_alike hZ.alike A59.2.1) A59.2.2 b59 (Has.at H59 b59 rfl) (g := (mkF m 141 #[.val (.int p1), .val (.int p2), .val (.int p3), .val (.int p4), .val (.int p5), .val (.int (3 : Int32)), .val (.ref b40), .val (.ref b51), .val (.int (1 : Int32))] [(.int (1 : Int32)), (.ref b40)])) rfl rfl (hb hby at_141) _ (XS.iloadN X58.here hx rfl (hb hby at_142) rfl k)) ?_
    show own_Go p.tables e below RR (T58.setTop (mkF m 143 #[.val (.int p1), .val (.int p2), .val (.int p3), .val (.int p4), .val (.int p5), .val (.int (3 : Int32)), .val (.ref b40), .val (.ref b51), .val (.int (1 : Int32))] [(.int p3), (.int p3)]))
    refine own_st (fun _ k => XS.icmpNo X58.here hx rfl (hb hby at_143) rfl (teq rfl).2 (XS.aload X58.here hx rfl (hb hby at_146) rfl rfl (XS.iconst X58.here hx rfl (hb hby at_148) k))) ?_
    show own_Go p.tables e below RR (T58.setTop (mkF m 149 #[.val (.int p1), .val (.int p2), .val (.int p3), .val (.int p4), .val (.int p5), .val (.int (3 : Int32)), .val (.ref b40), .val (.ref b51), .val (.int (1 : Int32))] [(.int (1 : Int32)), (.ref b51)]))
    obtain ⟨c60, A60, q60, s60, m60, H60, G60⟩ := id Vq52
    have b60 := inb_of (j := (1 : Int32)) s60 ⟨by decide, by decide⟩
    refine own_st (fun _ k => X58.iaload hx (j := (1 : Int32)) (v := (.int p3)) (by rw [eq58]; exact A60.1) (State.isArrayOf_alike hZ.alike A60.2.1) A60.2.2 b60 (Has.at H60 b60 rfl) (g := (mkF m 149 #[.val (.int p1), .val (.int p2), .val (.int p3), .val (.int p4), .val (.int p5), .val (.int (3 : Int32)), .val (.ref b40), .val (.ref b51), .val (.int (1 : Int32))] [(.int (1 : Int32)), (.ref b51)])) rfl rfl (hb hby at_149) _ (XS.iload X58.here hx rfl (hb hby at_150) rfl (XS.iconst X58.here hx rfl (hb hby at_152) (XS.isub X58.here hx rfl (hb hby at_153) rfl (XS.iloadN X58.here hx rfl (hb hby at_154) rfl (XS.iloadN X58.here hx rfl (hb hby at_155) rfl (XS.iloadN X58.here hx rfl (hb hby at_156) rfl (XS.iload X58.here hx rfl (hb hby at_157) rfl k)))))))) ?_
    show own_Go p.tables e below RR (T58.setTop (mkF m 159 #[.val (.int p1), .val (.int p2), .val (.int p3), .val (.int p4), .val (.int p5), .val (.int (3 : Int32)), .val (.ref b40), .val (.ref b51), .val (.int (1 : Int32))] [(.int p5), (.int p4), (.int p3), (.int p2), (.int (1 : Int32)), (.int p3)]))
    obtain ⟨_, _, ⟨T61, L61, k61, n61⟩, -, X61, ⟨Lc61, hQ61, l61, y61, z61⟩, st61⟩ := Jvm.LawKit.callS X58 hx (y := (⟨"com/example/candex/candex/index/TermTrieReversedPinLaw", "pick", "(IIIII)I"⟩ : MethodName)) hown (mvT hZ (hw _ (List.mem_of_getElem? (i := 6) rfl))) (mvT hZ (hw _ (List.mem_of_getElem? (i := 7) rfl))) (mvT hZ (hw _ (List.mem_of_getElem? (i := 8) rfl))) (mvT hZ (hw _ (List.mem_of_getElem? (i := 9) rfl))) (by decide) (backOf (W := 1) (own_rmP l Z a0 hw [] (1 : Int32) p2 p3 p4 p5 p3 T52.heap n0 z53 rfl) hZ (hw _ (List.mem_of_getElem? (i := 9) rfl)) (hw _ (List.mem_of_getElem? (i := 8) rfl)) (by decide) (by decide)) (g := (mkF m 159 #[.val (.int p1), .val (.int p2), .val (.int p3), .val (.int p4), .val (.int p5), .val (.int (3 : Int32)), .val (.ref b40), .val (.ref b51), .val (.int (1 : Int32))] [(.int p5), (.int p4), (.int p3), (.int p2), (.int (1 : Int32)), (.int p3)])) rfl (by rw [hml]; rfl) (argsL := [(.int (1 : Int32)), (.int p2), (.int p3), (.int p4), (.int p5)]) (rest := [(.int p3)]) (lenOf own_pd__IIIII_I rfl) rfl (by show 2 * 0 + _ ≤ _; exact Nat.le_of_eq rfl) (hb hby at_159) (fun _ _ => ⟨rfl, eq58, (by decide : 2 + 0 ≤ _), (by decide : 6 + 0 ≤ _)⟩)
    dsimp only [Pt.U, Pt.locs, Pt.cells, Pt.slots] at X61 l61 y61 z61 st61 hQ61
    subst l61 y61 z61
    obtain ⟨rfl, Nq61, eq61⟩ := hQ61
    have N61 := Fr.app N58 Nq61
    refine own_st st61 ?_
    show own_Go p.tables e below RR (T61.setTop (mkF m 162 #[.val (.int p1), .val (.int p2), .val (.int p3), .val (.int p4), .val (.int p5), .val (.int (3 : Int32)), .val (.ref b40), .val (.ref b51), .val (.int (1 : Int32))] [(.int p3), (.int p3)]))
    refine own_st (fun _ k => XS.icmpNo X61.here hx rfl (hb hby at_162) rfl (teq rfl).2 (XS.iconst X61.here hx rfl (hb hby at_165) (XS.goto X61.here hx rfl (pc0 := 166) (pc' := 170) rfl (hb hby at_166) (by decide) (by decide) (XS.istore X61.here hx rfl (hb hby at_170) rfl (l' := #[.val (.int p1), .val (.int p2), .val (.int p3), .val (.int p4), .val (.int p5), .val (.int (3 : Int32)), .val (.ref b40), .val (.ref b51), .val (.int (1 : Int32))]) rfl (XS.iload X61.here hx rfl (hb hby at_172) rfl (XS.iconst X61.here hx rfl (hb hby at_174) k)))))) ?_
    show own_Go p.tables e below RR (T61.setTop (mkF m 175 #[.val (.int p1), .val (.int p2), .val (.int p3), .val (.int p4), .val (.int p5), .val (.int (3 : Int32)), .val (.ref b40), .val (.ref b51), .val (.int (1 : Int32))] [(.int (2 : Int32)), (.int (3 : Int32))]))
    refine own_st (fun _ k => XS.icmpNo X61.here hx rfl (hb hby at_175) rfl (tlt (by decide)).2.2.2 (XS.iload X61.here hx rfl (hb hby at_178) rfl k)) ?_
    show own_Go p.tables e below RR (T61.setTop (mkF m 180 #[.val (.int p1), .val (.int p2), .val (.int p3), .val (.int p4), .val (.int p5), .val (.int (3 : Int32)), .val (.ref b40), .val (.ref b51), .val (.int (1 : Int32))] [(.int (1 : Int32))]))
    refine own_st (fun _ k => XS.ifNo X61.here hx rfl (hb hby at_180) rfl ((if0 _ _).trans (feq (by decide)).1) (XS.aload X61.here hx rfl (hb hby at_183) rfl rfl (XS.iconst X61.here hx rfl (hb hby at_185) k))) ?_
    show own_Go p.tables e below RR (T61.setTop (mkF m 186 #[.val (.int p1), .val (.int p2), .val (.int p3), .val (.int p4), .val (.int p5), .val (.int (3 : Int32)), .val (.ref b40), .val (.ref b51), .val (.int (1 : Int32))] [(.int (2 : Int32)), (.ref b40)]))
    obtain ⟨c62, A62, q62, s62, m62, H62, G62⟩ := id f55
    have b62 := inb_of (j := (2 : Int32)) s62 ⟨by decide, by decide⟩
    refine own_st (fun _ k => X61.iaload hx (j := (2 : Int32)) (v := (.int p4)) (by rw [eq61]; exact A62.1) (State.isArrayOf_alike hZ.alike A62.2.1) A62.2.2 b62 (Has.at H62 b62 rfl) (g := (mkF m 186 #[.val (.int p1), .val (.int p2), .val (.int p3), .val (.int p4), .val (.int p5), .val (.int (3 : Int32)), .val (.ref b40), .val (.ref b51), .val (.int (1 : Int32))] [(.int (2 : Int32)), (.ref b40)])) rfl rfl (hb hby at_186) _ (XS.iloadN X61.here hx rfl (hb hby at_187) rfl k)) ?_
    show own_Go p.tables e below RR (T61.setTop (mkF m 188 #[.val (.int p1), .val (.int p2), .val (.int p3), .val (.int p4), .val (.int p5), .val (.int (3 : Int32)), .val (.ref b40), .val (.ref b51), .val (.int (1 : Int32))] [(.int p4), (.int p4)]))
    refine own_st (fun _ k => XS.icmpNo X61.here hx rfl (hb hby at_188) rfl (teq rfl).2 (XS.aload X61.here hx rfl (hb hby at_191) rfl rfl (XS.iconst X61.here hx rfl (hb hby at_193) k))) ?_
    show own_Go p.tables e below RR (T61.setTop (mkF m 194 #[.val (.int p1), .val (.int p2), .val (.int p3), .val (.int p4), .val (.int p5), .val (.int (3 : Int32)), .val (.ref b40), .val (.ref b51), .val (.int (1 : Int32))] [(.int (2 : Int32)), (.ref b51)]))
    obtain ⟨c63, A63, q63, s63, m63, H63, G63⟩ := id Vq52
    have b63 := inb_of (j := (2 : Int32)) s63 ⟨by decide, by decide⟩
    refine own_st (fun _ k => X61.iaload hx (j := (2 : Int32)) (v := (.int p2)) (by rw [eq61]; exact A63.1) (State.isArrayOf_alike hZ.alike A63.2.1) A63.2.2 b63 (Has.at H63 b63 rfl) (g := (mkF m 194 #[.val (.int p1), .val (.int p2), .val (.int p3), .val (.int p4), .val (.int p5), .val (.int (3 : Int32)), .val (.ref b40), .val (.ref b51), .val (.int (1 : Int32))] [(.int (2 : Int32)), (.ref b51)])) rfl rfl (hb hby at_194) _ (XS.iload X61.here hx rfl (hb hby at_195) rfl (XS.iconst X61.here hx rfl (hb hby at_197) (XS.isub X61.here hx rfl (hb hby at_198) rfl (XS.iloadN X61.here hx rfl (hb hby at_199) rfl (XS.iloadN X61.here hx rfl (hb hby at_200) rfl (XS.iloadN X61.here hx rfl (hb hby at_201) rfl (XS.iload X61.here hx rfl (hb hby at_202) rfl k)))))))) ?_
    show own_Go p.tables e below RR (T61.setTop (mkF m 204 #[.val (.int p1), .val (.int p2), .val (.int p3), .val (.int p4), .val (.int p5), .val (.int (3 : Int32)), .val (.ref b40), .val (.ref b51), .val (.int (1 : Int32))] [(.int p5), (.int p4), (.int p3), (.int p2), (.int (0 : Int32)), (.int p2)]))
    obtain ⟨_, _, ⟨T64, L64, k64, n64⟩, -, X64, ⟨Lc64, hQ64, l64, y64, z64⟩, st64⟩ := Jvm.LawKit.callS X61 hx (y := (⟨"com/example/candex/candex/index/TermTrieReversedPinLaw", "pick", "(IIIII)I"⟩ : MethodName)) hown (mvT hZ (hw _ (List.mem_of_getElem? (i := 6) rfl))) (mvT hZ (hw _ (List.mem_of_getElem? (i := 7) rfl))) (mvT hZ (hw _ (List.mem_of_getElem? (i := 8) rfl))) (mvT hZ (hw _ (List.mem_of_getElem? (i := 9) rfl))) (by decide) (backOf (W := 1) (own_rmP l Z a0 hw [] (0 : Int32) p2 p3 p4 p5 p2 T52.heap n0 z53 rfl) hZ (hw _ (List.mem_of_getElem? (i := 9) rfl)) (hw _ (List.mem_of_getElem? (i := 8) rfl)) (by decide) (by decide)) (g := (mkF m 204 #[.val (.int p1), .val (.int p2), .val (.int p3), .val (.int p4), .val (.int p5), .val (.int (3 : Int32)), .val (.ref b40), .val (.ref b51), .val (.int (1 : Int32))] [(.int p5), (.int p4), (.int p3), (.int p2), (.int (0 : Int32)), (.int p2)])) rfl (by rw [hml]; rfl) (argsL := [(.int (0 : Int32)), (.int p2), (.int p3), (.int p4), (.int p5)]) (rest := [(.int p2)]) (lenOf own_pd__IIIII_I rfl) rfl (by show 2 * 0 + _ ≤ _; exact Nat.le_of_eq rfl) (hb hby at_204) (fun _ _ => ⟨rfl, eq61, (by decide : 2 + 0 ≤ _), (by decide : 6 + 0 ≤ _)⟩)
    dsimp only [Pt.U, Pt.locs, Pt.cells, Pt.slots] at X64 l64 y64 z64 st64 hQ64
    subst l64 y64 z64
    obtain ⟨rfl, Nq64, eq64⟩ := hQ64
    have N64 := Fr.app N61 Nq64
    refine own_st st64 ?_
    show own_Go p.tables e below RR (T64.setTop (mkF m 207 #[.val (.int p1), .val (.int p2), .val (.int p3), .val (.int p4), .val (.int p5), .val (.int (3 : Int32)), .val (.ref b40), .val (.ref b51), .val (.int (1 : Int32))] [(.int p2), (.int p2)]))
    refine own_st (fun _ k => XS.icmpNo X64.here hx rfl (hb hby at_207) rfl (teq rfl).2 (XS.iconst X64.here hx rfl (hb hby at_210) (XS.goto X64.here hx rfl (pc0 := 211) (pc' := 215) rfl (hb hby at_211) (by decide) (by decide) (XS.istore X64.here hx rfl (hb hby at_215) rfl (l' := #[.val (.int p1), .val (.int p2), .val (.int p3), .val (.int p4), .val (.int p5), .val (.int (3 : Int32)), .val (.ref b40), .val (.ref b51), .val (.int (1 : Int32))]) rfl (XS.iload X64.here hx rfl (hb hby at_217) rfl (XS.iconst X64.here hx rfl (hb hby at_219) k)))))) ?_
    show own_Go p.tables e below RR (T64.setTop (mkF m 220 #[.val (.int p1), .val (.int p2), .val (.int p3), .val (.int p4), .val (.int p5), .val (.int (3 : Int32)), .val (.ref b40), .val (.ref b51), .val (.int (1 : Int32))] [(.int (3 : Int32)), (.int (3 : Int32))]))
    refine own_st (fun _ k => XS.icmpYes X64.here hx rfl (pc0 := 220) (pc' := 263) rfl (hb hby at_220) rfl (flt (by decide)).2.2.2 (by decide) (by decide) (XS.iload X64.here hx rfl (hb hby at_263) rfl k)) ?_
    show own_Go p.tables e below RR (T64.setTop (mkF m 265 #[.val (.int p1), .val (.int p2), .val (.int p3), .val (.int p4), .val (.int p5), .val (.int (3 : Int32)), .val (.ref b40), .val (.ref b51), .val (.int (1 : Int32))] [(.int (1 : Int32))]))
    obtain ⟨fs, hrt_, hrun, hended, hW, hsame⟩ := X64.leave (v := some (.int (1 : Int32))) (fun h => by rw [Bd.returns] at h; cases h)
    refine own_fin (retN X64 hx (t := .boolean) Bd.returns (by simp) (hb hby at_265) hrt_) (hRR _ ⟨_, hrun, hended, _, _, rfl, ?_, ⟨_, rfl⟩, hW, hsame.mono (by decide) (by decide)⟩)
    show own_Q0 Z p1 p2 p3 p4 p5 h0 n0 _ T64.heap _
    rw [eq64]
    exact ⟨rfl, N64⟩
  · show own_Go p.tables e below RR (s₁.setTop (mkF m 8 #[.val (.int p1), .val (.int p2), .val (.int p3), .val (.int p4), .val (.int p5), .val (.int (4 : Int32)), .unset, .unset, .unset] []))
    show own_Go p.tables e below RR (s₁.setTop (mkF m 8 #[.val (.int p1), .val (.int p2), .val (.int p3), .val (.int p4), .val (.int p5), .val (.int (4 : Int32)), .unset, .unset, .unset] []))
    refine own_st (fun _ k => XS.iload X0.here hx rfl (hb hby at_8) rfl k) ?_
    show own_Go p.tables e below RR (s₁.setTop (mkF m 10 #[.val (.int p1), .val (.int p2), .val (.int p3), .val (.int p4), .val (.int p5), .val (.int (4 : Int32)), .unset, .unset, .unset] [(.int (4 : Int32))]))
    obtain ⟨T65, h65, k65, X65, e65, E65, A65, st65⟩ := newP X0 hx hZ (hw _ (List.mem_of_getElem? (i := 1) rfl)) e0 (g := (mkF m 10 #[.val (.int p1), .val (.int p2), .val (.int p3), .val (.int p4), .val (.int p5), .val (.int (4 : Int32)), .unset, .unset, .unset] [(.int (4 : Int32))])) rfl (hb hby at_10) rfl (by decide) (cap := 4) (by decide) (by decide) (by decide) (by decide)
    obtain ⟨b65, gb65⟩ : ∃ z, z = h0.size := ⟨_, rfl⟩
    rw [← gb65] at A65 st65
    have ge65 : n0 ≤ b65 := Nat.le_trans Z0 (Nat.le_of_eq gb65.symm)
    refine own_st st65 ?_
    have z66 : n0 ≤ h65.size := Nat.le_trans Z0 E65.1
    have V65 : Arv Z h65 b65 k65 .int (4 : Int32) [(.int (0 : Int32)), (.int (0 : Int32)), (.int (0 : Int32)), (.int (0 : Int32))] (.int (0 : Int32)) := (Arv.new A65 (by decide)).pad (pad_rep [] (.int (0 : Int32)) 4)
    show own_Go p.tables e below RR (T65.setTop (mkF m 12 #[.val (.int p1), .val (.int p2), .val (.int p3), .val (.int p4), .val (.int p5), .val (.int (4 : Int32)), .unset, .unset, .unset] [(.ref b65)]))
    refine own_st (fun _ k => XS.astore X65.here hx rfl (hb hby at_12) rfl rfl (l' := #[.val (.int p1), .val (.int p2), .val (.int p3), .val (.int p4), .val (.int p5), .val (.int (4 : Int32)), .val (.ref b65), .unset, .unset]) rfl (XS.iload X65.here hx rfl (hb hby at_14) rfl k)) ?_
    show own_Go p.tables e below RR (T65.setTop (mkF m 16 #[.val (.int p1), .val (.int p2), .val (.int p3), .val (.int p4), .val (.int p5), .val (.int (4 : Int32)), .val (.ref b65), .unset, .unset] [(.int (4 : Int32))]))
    refine own_st (fun _ k => XS.ifNo X65.here hx rfl (hb hby at_16) rfl ((if0 _ _).trans (tlt (by decide)).2.2.2) (XS.aload X65.here hx rfl (hb hby at_19) rfl rfl (XS.iconst X65.here hx rfl (hb hby at_21) (XS.iloadN X65.here hx rfl (hb hby at_22) rfl k)))) ?_
    show own_Go p.tables e below RR (T65.setTop (mkF m 23 #[.val (.int p1), .val (.int p2), .val (.int p3), .val (.int p4), .val (.int p5), .val (.int (4 : Int32)), .val (.ref b65), .unset, .unset] [(.int p2), (.int (0 : Int32)), (.ref b65)]))
    obtain ⟨c67, A67, q67, s67, m67, H67, G67⟩ := id V65
    obtain ⟨T68, h68, X68, e68, W68, st68⟩ := stI X65 hx hZ e65 A67 (j := (0 : Int32)) (inb_of s67 ⟨by decide, by decide⟩) (g := (mkF m 23 #[.val (.int p1), .val (.int p2), .val (.int p3), .val (.int p4), .val (.int p5), .val (.int (4 : Int32)), .val (.ref b65), .unset, .unset] [(.int p2), (.int (0 : Int32)), (.ref b65)])) rfl rfl (hb hby at_23)
    have V68 := Arv.set A67 q67 s67 m67 H67 G67 rfl W68 0 rfl (Nat.le_of_ble_eq_true rfl)
    have V68 : Arv Z h68 b65 k65 .int (4 : Int32) [(.int p2), (.int (0 : Int32)), (.int (0 : Int32)), (.int (0 : Int32))] (.int (0 : Int32)) := V68
    have N68 := Fr.snoc X68 N0 ge65
    refine own_st st68 ?_
    have z69 : n0 ≤ h68.size := Nat.le_trans z66 (Keep.of_wr W68).1
    show own_Go p.tables e below RR (T68.setTop (mkF m 24 #[.val (.int p1), .val (.int p2), .val (.int p3), .val (.int p4), .val (.int p5), .val (.int (4 : Int32)), .val (.ref b65), .unset, .unset] []))
    refine own_st (fun _ k => XS.iload X68.here hx rfl (hb hby at_24) rfl (XS.iconst X68.here hx rfl (hb hby at_26) k)) ?_
    show own_Go p.tables e below RR (T68.setTop (mkF m 27 #[.val (.int p1), .val (.int p2), .val (.int p3), .val (.int p4), .val (.int p5), .val (.int (4 : Int32)), .val (.ref b65), .unset, .unset] [(.int (1 : Int32)), (.int (4 : Int32))]))
    refine own_st (fun _ k => XS.icmpNo X68.here hx rfl (hb hby at_27) rfl (tlt (by decide)).2.2.2 (XS.aload X68.here hx rfl (hb hby at_30) rfl rfl (XS.iconst X68.here hx rfl (hb hby at_32) (XS.iloadN X68.here hx rfl (hb hby at_33) rfl k)))) ?_
    show own_Go p.tables e below RR (T68.setTop (mkF m 34 #[.val (.int p1), .val (.int p2), .val (.int p3), .val (.int p4), .val (.int p5), .val (.int (4 : Int32)), .val (.ref b65), .unset, .unset] [(.int p3), (.int (1 : Int32)), (.ref b65)]))
    obtain ⟨c70, A70, q70, s70, m70, H70, G70⟩ := id V68
    obtain ⟨T71, h71, X71, e71, W71, st71⟩ := stI X68 hx hZ e68 A70 (j := (1 : Int32)) (inb_of s70 ⟨by decide, by decide⟩) (g := (mkF m 34 #[.val (.int p1), .val (.int p2), .val (.int p3), .val (.int p4), .val (.int p5), .val (.int (4 : Int32)), .val (.ref b65), .unset, .unset] [(.int p3), (.int (1 : Int32)), (.ref b65)])) rfl rfl (hb hby at_34)
    have V71 := Arv.set A70 q70 s70 m70 H70 G70 rfl W71 1 rfl (Nat.le_of_ble_eq_true rfl)
    have V71 : Arv Z h71 b65 k65 .int (4 : Int32) [(.int p2), (.int p3), (.int (0 : Int32)), (.int (0 : Int32))] (.int (0 : Int32)) := V71
    have N71 := Fr.snoc X71 N68 ge65
    refine own_st st71 ?_
    have z72 : n0 ≤ h71.size := Nat.le_trans z69 (Keep.of_wr W71).1
    show own_Go p.tables e below RR (T71.setTop (mkF m 35 #[.val (.int p1), .val (.int p2), .val (.int p3), .val (.int p4), .val (.int p5), .val (.int (4 : Int32)), .val (.ref b65), .unset, .unset] []))
    refine own_st (fun _ k => XS.iload X71.here hx rfl (hb hby at_35) rfl (XS.iconst X71.here hx rfl (hb hby at_37) k)) ?_
    show own_Go p.tables e below RR (T71.setTop (mkF m 38 #[.val (.int p1), .val (.int p2), .val (.int p3), .val (.int p4), .val (.int p5), .val (.int (4 : Int32)), .val (.ref b65), .unset, .unset] [(.int (2 : Int32)), (.int (4 : Int32))]))
    refine own_st (fun _ k => XS.icmpNo X71.here hx rfl (hb hby at_38) rfl (tlt (by decide)).2.2.2 (XS.aload X71.here hx rfl (hb hby at_41) rfl rfl (XS.iconst X71.here hx rfl (hb hby at_43) (XS.iloadN X71.here hx rfl (hb hby at_44) rfl k)))) ?_
    show own_Go p.tables e below RR (T71.setTop (mkF m 45 #[.val (.int p1), .val (.int p2), .val (.int p3), .val (.int p4), .val (.int p5), .val (.int (4 : Int32)), .val (.ref b65), .unset, .unset] [(.int p4), (.int (2 : Int32)), (.ref b65)]))
    obtain ⟨c73, A73, q73, s73, m73, H73, G73⟩ := id V71
    obtain ⟨T74, h74, X74, e74, W74, st74⟩ := stI X71 hx hZ e71 A73 (j := (2 : Int32)) (inb_of s73 ⟨by decide, by decide⟩) (g := (mkF m 45 #[.val (.int p1), .val (.int p2), .val (.int p3), .val (.int p4), .val (.int p5), .val (.int (4 : Int32)), .val (.ref b65), .unset, .unset] [(.int p4), (.int (2 : Int32)), (.ref b65)])) rfl rfl (hb hby at_45)
    have V74 := Arv.set A73 q73 s73 m73 H73 G73 rfl W74 2 rfl (Nat.le_of_ble_eq_true rfl)
    have V74 : Arv Z h74 b65 k65 .int (4 : Int32) [(.int p2), (.int p3), (.int p4), (.int (0 : Int32))] (.int (0 : Int32)) := V74
    have N74 := Fr.snoc X74 N71 ge65
    refine own_st st74 ?_
    have z75 : n0 ≤ h74.size := Nat.le_trans z72 (Keep.of_wr W74).1
    show own_Go p.tables e below RR (T74.setTop (mkF m 46 #[.val (.int p1), .val (.int p2), .val (.int p3), .val (.int p4), .val (.int p5), .val (.int (4 : Int32)), .val (.ref b65), .unset, .unset] []))
    refine own_st (fun _ k => XS.iload X74.here hx rfl (hb hby at_46) rfl (XS.iconst X74.here hx rfl (hb hby at_48) k)) ?_
    show own_Go p.tables e below RR (T74.setTop (mkF m 49 #[.val (.int p1), .val (.int p2), .val (.int p3), .val (.int p4), .val (.int p5), .val (.int (4 : Int32)), .val (.ref b65), .unset, .unset] [(.int (3 : Int32)), (.int (4 : Int32))]))
    refine own_st (fun _ k => XS.icmpNo X74.here hx rfl (hb hby at_49) rfl (tlt (by decide)).2.2.2 (XS.aload X74.here hx rfl (hb hby at_52) rfl rfl (XS.iconst X74.here hx rfl (hb hby at_54) (XS.iload X74.here hx rfl (hb hby at_55) rfl k)))) ?_
    show own_Go p.tables e below RR (T74.setTop (mkF m 57 #[.val (.int p1), .val (.int p2), .val (.int p3), .val (.int p4), .val (.int p5), .val (.int (4 : Int32)), .val (.ref b65), .unset, .unset] [(.int p5), (.int (3 : Int32)), (.ref b65)]))
    obtain ⟨c76, A76, q76, s76, m76, H76, G76⟩ := id V74
    obtain ⟨T77, h77, X77, e77, W77, st77⟩ := stI X74 hx hZ e74 A76 (j := (3 : Int32)) (inb_of s76 ⟨by decide, by decide⟩) (g := (mkF m 57 #[.val (.int p1), .val (.int p2), .val (.int p3), .val (.int p4), .val (.int p5), .val (.int (4 : Int32)), .val (.ref b65), .unset, .unset] [(.int p5), (.int (3 : Int32)), (.ref b65)])) rfl rfl (hb hby at_57)
    have V77 := Arv.set A76 q76 s76 m76 H76 G76 rfl W77 3 rfl (Nat.le_of_ble_eq_true rfl)
    have V77 : Arv Z h77 b65 k65 .int (4 : Int32) [(.int p2), (.int p3), (.int p4), (.int p5)] (.int (0 : Int32)) := V77
    have N77 := Fr.snoc X77 N74 ge65
    refine own_st st77 ?_
    have z78 : n0 ≤ h77.size := Nat.le_trans z75 (Keep.of_wr W77).1
    show own_Go p.tables e below RR (T77.setTop (mkF m 58 #[.val (.int p1), .val (.int p2), .val (.int p3), .val (.int p4), .val (.int p5), .val (.int (4 : Int32)), .val (.ref b65), .unset, .unset] []))
    refine own_st (fun _ k => XS.aload X77.here hx rfl (hb hby at_58) rfl rfl k) ?_
    show own_Go p.tables e below RR (T77.setTop (mkF m 60 #[.val (.int p1), .val (.int p2), .val (.int p3), .val (.int p4), .val (.int p5), .val (.int (4 : Int32)), .val (.ref b65), .unset, .unset] [(.ref b65)]))
    obtain ⟨b79, gb79⟩ : ∃ z, z = h77.size := ⟨_, rfl⟩
    have ge79 : n0 ≤ b79 := Nat.le_trans z78 (Nat.le_of_eq gb79.symm)
    obtain ⟨_, _, ⟨T80, L80, k80, n80⟩, -, X80, ⟨Lc80, hQ80, l80, y80, z80⟩, st80⟩ := Jvm.LawKit.callS X77 hx (y := (⟨"com/example/candex/candex/index/TermTrie", "reversed", "([I)[I"⟩ : MethodName)) hown (mvT hZ (hw _ (List.mem_of_getElem? (i := 2) rfl))) (mvT hZ (hw _ (List.mem_of_getElem? (i := 3) rfl))) (mvT hZ (hw _ (List.mem_of_getElem? (i := 4) rfl))) (mvT hZ (hw _ (List.mem_of_getElem? (i := 5) rfl))) (by decide) (backOf (W := 0) (own_rmV4 l Z a0 hw [] b65 k65 p2 p3 p4 p5 b79 h77 n0 z78 V77 gb79) hZ (hw _ (List.mem_of_getElem? (i := 5) rfl)) (hw _ (List.mem_of_getElem? (i := 4) rfl)) (by decide) (by decide)) (g := (mkF m 60 #[.val (.int p1), .val (.int p2), .val (.int p3), .val (.int p4), .val (.int p5), .val (.int (4 : Int32)), .val (.ref b65), .unset, .unset] [(.ref b65)])) rfl (by rw [hml]; rfl) (argsL := [(.ref b65)]) (rest := []) (lenOf own_pd___I__I rfl) rfl (by show 2 * 0 + _ ≤ _; exact Nat.le_of_eq rfl) (hb hby at_60) (fun _ _ => ⟨rfl, e77, (by decide : 1 + 1 ≤ _), (by decide : 4 + 4 ≤ _)⟩)
    dsimp only [Pt.U, Pt.locs, Pt.cells, Pt.slots] at X80 l80 y80 z80 st80 hQ80
    subst l80 y80 z80
    obtain ⟨rfl, Nq80, Kq80, kq80, Vq80⟩ := hQ80
    have N80 := Fr.app N77 Nq80
    refine own_st st80 ?_
    have z81 : n0 ≤ T80.heap.size := Nat.le_trans z78 Kq80.1
    show own_Go p.tables e below RR (T80.setTop (mkF m 63 #[.val (.int p1), .val (.int p2), .val (.int p3), .val (.int p4), .val (.int p5), .val (.int (4 : Int32)), .val (.ref b65), .unset, .unset] [(.ref b79)]))
    refine own_st (fun _ k => XS.astore X80.here hx rfl (hb hby at_63) rfl rfl (l' := #[.val (.int p1), .val (.int p2), .val (.int p3), .val (.int p4), .val (.int p5), .val (.int (4 : Int32)), .val (.ref b65), .val (.ref b79), .unset]) rfl (XS.aload X80.here hx rfl (hb hby at_65) rfl rfl k)) ?_
    show own_Go p.tables e below RR (T80.setTop (mkF m 67 #[.val (.int p1), .val (.int p2), .val (.int p3), .val (.int p4), .val (.int p5), .val (.int (4 : Int32)), .val (.ref b65), .val (.ref b79), .unset] [(.ref b79)]))
    refine own_st (fun _ k => XS.ifnullNo X80.here hx rfl (hb hby at_67) rfl (XS.aload X80.here hx rfl (hb hby at_70) rfl rfl k)) ?_
    show own_Go p.tables e below RR (T80.setTop (mkF m 72 #[.val (.int p1), .val (.int p2), .val (.int p3), .val (.int p4), .val (.int p5), .val (.int (4 : Int32)), .val (.ref b65), .val (.ref b79), .unset] [(.ref b79)]))
    obtain ⟨c82, A82, -, s82, m82, -, -⟩ := id Vq80
    refine own_st (fun _ k => own_len X80 hx hZ rfl A82 s82 m82 (g := (mkF m 72 #[.val (.int p1), .val (.int p2), .val (.int p3), .val (.int p4), .val (.int p5), .val (.int (4 : Int32)), .val (.ref b65), .val (.ref b79), .unset] [(.ref b79)])) rfl rfl (hb hby at_72) (XS.iload X80.here hx rfl (hb hby at_73) rfl k)) ?_
    show own_Go p.tables e below RR (T80.setTop (mkF m 75 #[.val (.int p1), .val (.int p2), .val (.int p3), .val (.int p4), .val (.int p5), .val (.int (4 : Int32)), .val (.ref b65), .val (.ref b79), .unset] [(.int (4 : Int32)), (.int (4 : Int32))]))
    refine own_st (fun _ k => XS.icmpYes X80.here hx rfl (pc0 := 75) (pc' := 80) rfl (hb hby at_75) rfl (teq (by decide)).1 (by decide) (by decide) (XS.iconst X80.here hx rfl (hb hby at_80) (XS.istore X80.here hx rfl (hb hby at_81) rfl (l' := #[.val (.int p1), .val (.int p2), .val (.int p3), .val (.int p4), .val (.int p5), .val (.int (4 : Int32)), .val (.ref b65), .val (.ref b79), .val (.int (1 : Int32))]) rfl (XS.iload X80.here hx rfl (hb hby at_83) rfl k)))) ?_
    show own_Go p.tables e below RR (T80.setTop (mkF m 85 #[.val (.int p1), .val (.int p2), .val (.int p3), .val (.int p4), .val (.int p5), .val (.int (4 : Int32)), .val (.ref b65), .val (.ref b79), .val (.int (1 : Int32))] [(.int (4 : Int32))]))
    refine own_st (fun _ k => XS.ifNo X80.here hx rfl (hb hby at_85) rfl ((if0 _ _).trans (tlt (by decide)).2.2.2) (XS.iload X80.here hx rfl (hb hby at_88) rfl k)) ?_
    show own_Go p.tables e below RR (T80.setTop (mkF m 90 #[.val (.int p1), .val (.int p2), .val (.int p3), .val (.int p4), .val (.int p5), .val (.int (4 : Int32)), .val (.ref b65), .val (.ref b79), .val (.int (1 : Int32))] [(.int (1 : Int32))]))
    refine own_st (fun _ k => XS.ifNo X80.here hx rfl (hb hby at_90) rfl ((if0 _ _).trans (feq (by decide)).1) (XS.aload X80.here hx rfl (hb hby at_93) rfl rfl (XS.iconst X80.here hx rfl (hb hby at_95) k))) ?_
    show own_Go p.tables e below RR (T80.setTop (mkF m 96 #[.val (.int p1), .val (.int p2), .val (.int p3), .val (.int p4), .val (.int p5), .val (.int (4 : Int32)), .val (.ref b65), .val (.ref b79), .val (.int (1 : Int32))] [(.int (0 : Int32)), (.ref b65)]))
    have f83 := (V77.keep Kq80 nin0)
    obtain ⟨c84, A84, q84, s84, m84, H84, G84⟩ := id f83
    have b84 := inb_of (j := (0 : Int32)) s84 ⟨by decide, by decide⟩
    refine own_st (fun _ k => X80.iaload hx (j := (0 : Int32)) (v := (.int p2)) (by exact A84.1) (State.isArrayOf_alike hZ.alike A84.2.1) A84.2.2 b84 (Has.at H84 b84 rfl) (g := (mkF m 96 #[.val (.int p1), .val (.int p2), .val (.int p3), .val (.int p4), .val (.int p5), .val (.int (4 : Int32)), .val (.ref b65), .val (.ref b79), .val (.int (1 : Int32))] [(.int (0 : Int32)), (.ref b65)])) rfl rfl (hb hby at_96) _ (XS.iloadN X80.here hx rfl (hb hby at_97) rfl k)) ?_
    show own_Go p.tables e below RR (T80.setTop (mkF m 98 #[.val (.int p1), .val (.int p2), .val (.int p3), .val (.int p4), .val (.int p5), .val (.int (4 : Int32)), .val (.ref b65), .val (.ref b79), .val (.int (1 : Int32))] [(.int p2), (.int p2)]))
    refine own_st (fun _ k => XS.icmpNo X80.here hx rfl (hb hby at_98) rfl (teq rfl).2 (XS.aload X80.here hx rfl (hb hby at_101) rfl rfl (XS.iconst X80.here hx rfl (hb hby at_103) k))) ?_
    show own_Go p.tables e below RR (T80.setTop (mkF m 104 #[.val (.int p1), .val (.int p2), .val (.int p3), .val (.int p4), .val (.int p5), .val (.int (4 : Int32)), .val (.ref b65), .val (.ref b79), .val (.int (1 : Int32))] [(.int (0 : Int32)), (.ref b79)]))
    obtain ⟨c85, A85, q85, s85, m85, H85, G85⟩ := id Vq80
    have b85 := inb_of (j := (0 : Int32)) s85 ⟨by decide, by decide⟩
    refine own_st (fun _ k => X80.iaload hx (j := (0 : Int32)) (v := (.int p5)) (by exact A85.1) (State.isArrayOf_alike hZ.alike A85.2.1) A85.2.2 b85 (Has.at H85 b85 rfl) (g := (mkF m 104 #[.val (.int p1), .val (.int p2), .val (.int p3), .val (.int p4), .val (.int p5), .val (.int (4 : Int32)), .val (.ref b65), .val (.ref b79), .val (.int (1 : Int32))] [(.int (0 : Int32)), (.ref b79)])) rfl rfl (hb hby at_104) _ (XS.iload X80.here hx rfl (hb hby at_105) rfl (XS.iconst X80.here hx rfl (hb hby at_107) (XS.isub X80.here hx rfl (hb hby at_108) rfl (XS.iloadN X80.here hx rfl (hb hby at_109) rfl (XS.iloadN X80.here hx rfl (hb hby at_110) rfl (XS.iloadN X80.here hx rfl (hb hby at_111) rfl (XS.iload X80.here hx rfl (hb hby at_112) rfl k)))))))) ?_
    show own_Go p.tables e below RR (T80.setTop (mkF m 114 #[.val (.int p1), .val (.int p2), .val (.int p3), .val (.int p4), .val (.int p5), .val (.int (4 : Int32)), .val (.ref b65), .val (.ref b79), .val (.int (1 : Int32))] [(.int p5), (.int p4), (.int p3), (.int p2), (.int (3 : Int32)), (.int p5)]))
    obtain ⟨_, _, ⟨T86, L86, k86, n86⟩, -, X86, ⟨Lc86, hQ86, l86, y86, z86⟩, st86⟩ := Jvm.LawKit.callS X80 hx (y := (⟨"com/example/candex/candex/index/TermTrieReversedPinLaw", "pick", "(IIIII)I"⟩ : MethodName)) hown (mvT hZ (hw _ (List.mem_of_getElem? (i := 6) rfl))) (mvT hZ (hw _ (List.mem_of_getElem? (i := 7) rfl))) (mvT hZ (hw _ (List.mem_of_getElem? (i := 8) rfl))) (mvT hZ (hw _ (List.mem_of_getElem? (i := 9) rfl))) (by decide) (backOf (W := 1) (own_rmP l Z a0 hw [] (3 : Int32) p2 p3 p4 p5 p5 T80.heap n0 z81 rfl) hZ (hw _ (List.mem_of_getElem? (i := 9) rfl)) (hw _ (List.mem_of_getElem? (i := 8) rfl)) (by decide) (by decide)) (g := (mkF m 114 #[.val (.int p1), .val (.int p2), .val (.int p3), .val (.int p4), .val (.int p5), .val (.int (4 : Int32)), .val (.ref b65), .val (.ref b79), .val (.int (1 : Int32))] [(.int p5), (.int p4), (.int p3), (.int p2), (.int (3 : Int32)), (.int p5)])) rfl (by rw [hml]; rfl) (argsL := [(.int (3 : Int32)), (.int p2), (.int p3), (.int p4), (.int p5)]) (rest := [(.int p5)]) (lenOf own_pd__IIIII_I rfl) rfl (by show 2 * 0 + _ ≤ _; exact Nat.le_of_eq rfl) (hb hby at_114) (fun _ _ => ⟨rfl, rfl, (by decide : 2 + 0 ≤ _), (by decide : 8 + 0 ≤ _)⟩)
    dsimp only [Pt.U, Pt.locs, Pt.cells, Pt.slots] at X86 l86 y86 z86 st86 hQ86
    subst l86 y86 z86
    obtain ⟨rfl, Nq86, eq86⟩ := hQ86
    have N86 := Fr.app N80 Nq86
    refine own_st st86 ?_
    show own_Go p.tables e below RR (T86.setTop (mkF m 117 #[.val (.int p1), .val (.int p2), .val (.int p3), .val (.int p4), .val (.int p5), .val (.int (4 : Int32)), .val (.ref b65), .val (.ref b79), .val (.int (1 : Int32))] [(.int p5), (.int p5)]))
    refine own_st (fun _ k => XS.icmpNo X86.here hx rfl (hb hby at_117) rfl (teq rfl).2 (XS.iconst X86.here hx rfl (hb hby at_120) (XS.goto X86.here hx rfl (pc0 := 121) (pc' := 125) rfl (hb hby at_121) (by decide) (by decide) (XS.istore X86.here hx rfl (hb hby at_125) rfl (l' := #[.val (.int p1), .val (.int p2), .val (.int p3), .val (.int p4), .val (.int p5), .val (.int (4 : Int32)), .val (.ref b65), .val (.ref b79), .val (.int (1 : Int32))]) rfl (XS.iload X86.here hx rfl (hb hby at_127) rfl (XS.iconst X86.here hx rfl (hb hby at_129) k)))))) ?_
    show own_Go p.tables e below RR (T86.setTop (mkF m 130 #[.val (.int p1), .val (.int p2), .val (.int p3), .val (.int p4), .val (.int p5), .val (.int (4 : Int32)), .val (.ref b65), .val (.ref b79), .val (.int (1 : Int32))] [(.int (1 : Int32)), (.int (4 : Int32))]))
    refine own_st (fun _ k => XS.icmpNo X86.here hx rfl (hb hby at_130) rfl (tlt (by decide)).2.2.2 (XS.iload X86.here hx rfl (hb hby at_133) rfl k)) ?_
    show own_Go p.tables e below RR (T86.setTop (mkF m 135 #[.val (.int p1), .val (.int p2), .val (.int p3), .val (.int p4), .val (.int p5), .val (.int (4 : Int32)), .val (.ref b65), .val (.ref b79), .val (.int (1 : Int32))] [(.int (1 : Int32))]))
    refine own_st (fun _ k => XS.ifNo X86.here hx rfl (hb hby at_135) rfl ((if0 _ _).trans (feq (by decide)).1) (XS.aload X86.here hx rfl (hb hby at_138) rfl rfl (XS.iconst X86.here hx rfl (hb hby at_140) k))) ?_
    show own_Go p.tables e below RR (T86.setTop (mkF m 141 #[.val (.int p1), .val (.int p2), .val (.int p3), .val (.int p4), .val (.int p5), .val (.int (4 : Int32)), .val (.ref b65), .val (.ref b79), .val (.int (1 : Int32))] [(.int (1 : Int32)), (.ref b65)]))
    obtain ⟨c87, A87, q87, s87, m87, H87, G87⟩ := id f83
    have b87 := inb_of (j := (1 : Int32)) s87 ⟨by decide, by decide⟩
    refine own_st (fun _ k => X86.iaload hx (j := (1 : Int32)) (v := (.int p3)) (by rw [eq86]; exact A87.1) (State.isArrayOf_alike hZ.alike A87.2.1) A87.2.2 b87 (Has.at H87 b87 rfl) (g := (mkF m 141 #[.val (.int p1), .val (.int p2), .val (.int p3), .val (.int p4), .val (.int p5), .val (.int (4 : Int32)), .val (.ref b65), .val (.ref b79), .val (.int (1 : Int32))] [(.int (1 : Int32)), (.ref b65)])) rfl rfl (hb hby at_141) _ (XS.iloadN X86.here hx rfl (hb hby at_142) rfl k)) ?_
    show own_Go p.tables e below RR (T86.setTop (mkF m 143 #[.val (.int p1), .val (.int p2), .val (.int p3), .val (.int p4), .val (.int p5), .val (.int (4 : Int32)), .val (.ref b65), .val (.ref b79), .val (.int (1 : Int32))] [(.int p3), (.int p3)]))
    refine own_st (fun _ k => XS.icmpNo X86.here hx rfl (hb hby at_143) rfl (teq rfl).2 (XS.aload X86.here hx rfl (hb hby at_146) rfl rfl (XS.iconst X86.here hx rfl (hb hby at_148) k))) ?_
    show own_Go p.tables e below RR (T86.setTop (mkF m 149 #[.val (.int p1), .val (.int p2), .val (.int p3), .val (.int p4), .val (.int p5), .val (.int (4 : Int32)), .val (.ref b65), .val (.ref b79), .val (.int (1 : Int32))] [(.int (1 : Int32)), (.ref b79)]))
    obtain ⟨c88, A88, q88, s88, m88, H88, G88⟩ := id Vq80
    have b88 := inb_of (j := (1 : Int32)) s88 ⟨by decide, by decide⟩
    refine own_st (fun _ k => X86.iaload hx (j := (1 : Int32)) (v := (.int p4)) (by rw [eq86]; exact A88.1) (State.isArrayOf_alike hZ.alike A88.2.1) A88.2.2 b88 (Has.at H88 b88 rfl) (g := (mkF m 149 #[.val (.int p1), .val (.int p2), .val (.int p3), .val (.int p4), .val (.int p5), .val (.int (4 : Int32)), .val (.ref b65), .val (.ref b79), .val (.int (1 : Int32))] [(.int (1 : Int32)), (.ref b79)])) rfl rfl (hb hby at_149) _ (XS.iload X86.here hx rfl (hb hby at_150) rfl (XS.iconst X86.here hx rfl (hb hby at_152) (XS.isub X86.here hx rfl (hb hby at_153) rfl (XS.iloadN X86.here hx rfl (hb hby at_154) rfl (XS.iloadN X86.here hx rfl (hb hby at_155) rfl (XS.iloadN X86.here hx rfl (hb hby at_156) rfl (XS.iload X86.here hx rfl (hb hby at_157) rfl k)))))))) ?_
    show own_Go p.tables e below RR (T86.setTop (mkF m 159 #[.val (.int p1), .val (.int p2), .val (.int p3), .val (.int p4), .val (.int p5), .val (.int (4 : Int32)), .val (.ref b65), .val (.ref b79), .val (.int (1 : Int32))] [(.int p5), (.int p4), (.int p3), (.int p2), (.int (2 : Int32)), (.int p4)]))
    obtain ⟨_, _, ⟨T89, L89, k89, n89⟩, -, X89, ⟨Lc89, hQ89, l89, y89, z89⟩, st89⟩ := Jvm.LawKit.callS X86 hx (y := (⟨"com/example/candex/candex/index/TermTrieReversedPinLaw", "pick", "(IIIII)I"⟩ : MethodName)) hown (mvT hZ (hw _ (List.mem_of_getElem? (i := 6) rfl))) (mvT hZ (hw _ (List.mem_of_getElem? (i := 7) rfl))) (mvT hZ (hw _ (List.mem_of_getElem? (i := 8) rfl))) (mvT hZ (hw _ (List.mem_of_getElem? (i := 9) rfl))) (by decide) (backOf (W := 1) (own_rmP l Z a0 hw [] (2 : Int32) p2 p3 p4 p5 p4 T80.heap n0 z81 rfl) hZ (hw _ (List.mem_of_getElem? (i := 9) rfl)) (hw _ (List.mem_of_getElem? (i := 8) rfl)) (by decide) (by decide)) (g := (mkF m 159 #[.val (.int p1), .val (.int p2), .val (.int p3), .val (.int p4), .val (.int p5), .val (.int (4 : Int32)), .val (.ref b65), .val (.ref b79), .val (.int (1 : Int32))] [(.int p5), (.int p4), (.int p3), (.int p2), (.int (2 : Int32)), (.int p4)])) rfl (by rw [hml]; rfl) (argsL := [(.int (2 : Int32)), (.int p2), (.int p3), (.int p4), (.int p5)]) (rest := [(.int p4)]) (lenOf own_pd__IIIII_I rfl) rfl (by show 2 * 0 + _ ≤ _; exact Nat.le_of_eq rfl) (hb hby at_159) (fun _ _ => ⟨rfl, eq86, (by decide : 2 + 0 ≤ _), (by decide : 8 + 0 ≤ _)⟩)
    dsimp only [Pt.U, Pt.locs, Pt.cells, Pt.slots] at X89 l89 y89 z89 st89 hQ89
    subst l89 y89 z89
    obtain ⟨rfl, Nq89, eq89⟩ := hQ89
    have N89 := Fr.app N86 Nq89
    refine own_st st89 ?_
    show own_Go p.tables e below RR (T89.setTop (mkF m 162 #[.val (.int p1), .val (.int p2), .val (.int p3), .val (.int p4), .val (.int p5), .val (.int (4 : Int32)), .val (.ref b65), .val (.ref b79), .val (.int (1 : Int32))] [(.int p4), (.int p4)]))
    refine own_st (fun _ k => XS.icmpNo X89.here hx rfl (hb hby at_162) rfl (teq rfl).2 (XS.iconst X89.here hx rfl (hb hby at_165) (XS.goto X89.here hx rfl (pc0 := 166) (pc' := 170) rfl (hb hby at_166) (by decide) (by decide) (XS.istore X89.here hx rfl (hb hby at_170) rfl (l' := #[.val (.int p1), .val (.int p2), .val (.int p3), .val (.int p4), .val (.int p5), .val (.int (4 : Int32)), .val (.ref b65), .val (.ref b79), .val (.int (1 : Int32))]) rfl (XS.iload X89.here hx rfl (hb hby at_172) rfl (XS.iconst X89.here hx rfl (hb hby at_174) k)))))) ?_
    show own_Go p.tables e below RR (T89.setTop (mkF m 175 #[.val (.int p1), .val (.int p2), .val (.int p3), .val (.int p4), .val (.int p5), .val (.int (4 : Int32)), .val (.ref b65), .val (.ref b79), .val (.int (1 : Int32))] [(.int (2 : Int32)), (.int (4 : Int32))]))
    refine own_st (fun _ k => XS.icmpNo X89.here hx rfl (hb hby at_175) rfl (tlt (by decide)).2.2.2 (XS.iload X89.here hx rfl (hb hby at_178) rfl k)) ?_
    show own_Go p.tables e below RR (T89.setTop (mkF m 180 #[.val (.int p1), .val (.int p2), .val (.int p3), .val (.int p4), .val (.int p5), .val (.int (4 : Int32)), .val (.ref b65), .val (.ref b79), .val (.int (1 : Int32))] [(.int (1 : Int32))]))
    refine own_st (fun _ k => XS.ifNo X89.here hx rfl (hb hby at_180) rfl ((if0 _ _).trans (feq (by decide)).1) (XS.aload X89.here hx rfl (hb hby at_183) rfl rfl (XS.iconst X89.here hx rfl (hb hby at_185) k))) ?_
    show own_Go p.tables e below RR (T89.setTop (mkF m 186 #[.val (.int p1), .val (.int p2), .val (.int p3), .val (.int p4), .val (.int p5), .val (.int (4 : Int32)), .val (.ref b65), .val (.ref b79), .val (.int (1 : Int32))] [(.int (2 : Int32)), (.ref b65)]))
    obtain ⟨c90, A90, q90, s90, m90, H90, G90⟩ := id f83
    have b90 := inb_of (j := (2 : Int32)) s90 ⟨by decide, by decide⟩
    refine own_st (fun _ k => X89.iaload hx (j := (2 : Int32)) (v := (.int p4)) (by rw [eq89]; exact A90.1) (State.isArrayOf_alike hZ.alike A90.2.1) A90.2.2 b90 (Has.at H90 b90 rfl) (g := (mkF m 186 #[.val (.int p1), .val (.int p2), .val (.int p3), .val (.int p4), .val (.int p5), .val (.int (4 : Int32)), .val (.ref b65), .val (.ref b79), .val (.int (1 : Int32))] [(.int (2 : Int32)), (.ref b65)])) rfl rfl (hb hby at_186) _ (XS.iloadN X89.here hx rfl (hb hby at_187) rfl k)) ?_
    show own_Go p.tables e below RR (T89.setTop (mkF m 188 #[.val (.int p1), .val (.int p2), .val (.int p3), .val (.int p4), .val (.int p5), .val (.int (4 : Int32)), .val (.ref b65), .val (.ref b79), .val (.int (1 : Int32))] [(.int p4), (.int p4)]))
    refine own_st (fun _ k => XS.icmpNo X89.here hx rfl (hb hby at_188) rfl (teq rfl).2 (XS.aload X89.here hx rfl (hb hby at_191) rfl rfl (XS.iconst X89.here hx rfl (hb hby at_193) k))) ?_
    show own_Go p.tables e below RR (T89.setTop (mkF m 194 #[.val (.int p1), .val (.int p2), .val (.int p3), .val (.int p4), .val (.int p5), .val (.int (4 : Int32)), .val (.ref b65), .val (.ref b79), .val (.int (1 : Int32))] [(.int (2 : Int32)), (.ref b79)]))
    obtain ⟨c91, A91, q91, s91, m91, H91, G91⟩ := id Vq80
    have b91 := inb_of (j := (2 : Int32)) s91 ⟨by decide, by decide⟩
    refine own_st (fun _ k => X89.iaload hx (j := (2 : Int32)) (v := (.int p3)) (by rw [eq89]; exact A91.1) (State.isArrayOf_alike hZ.alike A91.2.1) A91.2.2 b91 (Has.at H91 b91 rfl) (g := (mkF m 194 #[.val (.int p1), .val (.int p2), .val (.int p3), .val (.int p4), .val (.int p5), .val (.int (4 : Int32)), .val (.ref b65), .val (.ref b79), .val (.int (1 : Int32))] [(.int (2 : Int32)), (.ref b79)])) rfl rfl (hb hby at_194) _ (XS.iload X89.here hx rfl (hb hby at_195) rfl (XS.iconst X89.here hx rfl (hb hby at_197) (XS.isub X89.here hx rfl (hb hby at_198) rfl (XS.iloadN X89.here hx rfl (hb hby at_199) rfl (XS.iloadN X89.here hx rfl (hb hby at_200) rfl (XS.iloadN X89.here hx rfl (hb hby at_201) rfl (XS.iload X89.here hx rfl (hb hby at_202) rfl k)))))))) ?_
    show own_Go p.tables e below RR (T89.setTop (mkF m 204 #[.val (.int p1), .val (.int p2), .val (.int p3), .val (.int p4), .val (.int p5), .val (.int (4 : Int32)), .val (.ref b65), .val (.ref b79), .val (.int (1 : Int32))] [(.int p5), (.int p4), (.int p3), (.int p2), (.int (1 : Int32)), (.int p3)]))
    obtain ⟨_, _, ⟨T92, L92, k92, n92⟩, -, X92, ⟨Lc92, hQ92, l92, y92, z92⟩, st92⟩ := Jvm.LawKit.callS X89 hx (y := (⟨"com/example/candex/candex/index/TermTrieReversedPinLaw", "pick", "(IIIII)I"⟩ : MethodName)) hown (mvT hZ (hw _ (List.mem_of_getElem? (i := 6) rfl))) (mvT hZ (hw _ (List.mem_of_getElem? (i := 7) rfl))) (mvT hZ (hw _ (List.mem_of_getElem? (i := 8) rfl))) (mvT hZ (hw _ (List.mem_of_getElem? (i := 9) rfl))) (by decide) (backOf (W := 1) (own_rmP l Z a0 hw [] (1 : Int32) p2 p3 p4 p5 p3 T80.heap n0 z81 rfl) hZ (hw _ (List.mem_of_getElem? (i := 9) rfl)) (hw _ (List.mem_of_getElem? (i := 8) rfl)) (by decide) (by decide)) (g := (mkF m 204 #[.val (.int p1), .val (.int p2), .val (.int p3), .val (.int p4), .val (.int p5), .val (.int (4 : Int32)), .val (.ref b65), .val (.ref b79), .val (.int (1 : Int32))] [(.int p5), (.int p4), (.int p3), (.int p2), (.int (1 : Int32)), (.int p3)])) rfl (by rw [hml]; rfl) (argsL := [(.int (1 : Int32)), (.int p2), (.int p3), (.int p4), (.int p5)]) (rest := [(.int p3)]) (lenOf own_pd__IIIII_I rfl) rfl (by show 2 * 0 + _ ≤ _; exact Nat.le_of_eq rfl) (hb hby at_204) (fun _ _ => ⟨rfl, eq89, (by decide : 2 + 0 ≤ _), (by decide : 8 + 0 ≤ _)⟩)
    dsimp only [Pt.U, Pt.locs, Pt.cells, Pt.slots] at X92 l92 y92 z92 st92 hQ92
    subst l92 y92 z92
    obtain ⟨rfl, Nq92, eq92⟩ := hQ92
    have N92 := Fr.app N89 Nq92
    refine own_st st92 ?_
    show own_Go p.tables e below RR (T92.setTop (mkF m 207 #[.val (.int p1), .val (.int p2), .val (.int p3), .val (.int p4), .val (.int p5), .val (.int (4 : Int32)), .val (.ref b65), .val (.ref b79), .val (.int (1 : Int32))] [(.int p3), (.int p3)]))
    refine own_st (fun _ k => XS.icmpNo X92.here hx rfl (hb hby at_207) rfl (teq rfl).2 (XS.iconst X92.here hx rfl (hb hby at_210) (XS.goto X92.here hx rfl (pc0 := 211) (pc' := 215) rfl (hb hby at_211) (by decide) (by decide) (XS.istore X92.here hx rfl (hb hby at_215) rfl (l' := #[.val (.int p1), .val (.int p2), .val (.int p3), .val (.int p4), .val (.int p5), .val (.int (4 : Int32)), .val (.ref b65), .val (.ref b79), .val (.int (1 : Int32))]) rfl (XS.iload X92.here hx rfl (hb hby at_217) rfl (XS.iconst X92.here hx rfl (hb hby at_219) k)))))) ?_
    show own_Go p.tables e below RR (T92.setTop (mkF m 220 #[.val (.int p1), .val (.int p2), .val (.int p3), .val (.int p4), .val (.int p5), .val (.int (4 : Int32)), .val (.ref b65), .val (.ref b79), .val (.int (1 : Int32))] [(.int (3 : Int32)), (.int (4 : Int32))]))
    refine own_st (fun _ k => XS.icmpNo X92.here hx rfl (hb hby at_220) rfl (tlt (by decide)).2.2.2 (XS.iload X92.here hx rfl (hb hby at_223) rfl k)) ?_
    show own_Go p.tables e below RR (T92.setTop (mkF m 225 #[.val (.int p1), .val (.int p2), .val (.int p3), .val (.int p4), .val (.int p5), .val (.int (4 : Int32)), .val (.ref b65), .val (.ref b79), .val (.int (1 : Int32))] [(.int (1 : Int32))]))
    refine own_st (fun _ k => XS.ifNo X92.here hx rfl (hb hby at_225) rfl ((if0 _ _).trans (feq (by decide)).1) (XS.aload X92.here hx rfl (hb hby at_228) rfl rfl (XS.iconst X92.here hx rfl (hb hby at_230) k))) ?_
    show own_Go p.tables e below RR (T92.setTop (mkF m 231 #[.val (.int p1), .val (.int p2), .val (.int p3), .val (.int p4), .val (.int p5), .val (.int (4 : Int32)), .val (.ref b65), .val (.ref b79), .val (.int (1 : Int32))] [(.int (3 : Int32)), (.ref b65)]))
    obtain ⟨c93, A93, q93, s93, m93, H93, G93⟩ := id f83
    have b93 := inb_of (j := (3 : Int32)) s93 ⟨by decide, by decide⟩
    refine own_st (fun _ k => X92.iaload hx (j := (3 : Int32)) (v := (.int p5)) (by rw [eq92]; exact A93.1) (State.isArrayOf_alike hZ.alike A93.2.1) A93.2.2 b93 (Has.at H93 b93 rfl) (g := (mkF m 231 #[.val (.int p1), .val (.int p2), .val (.int p3), .val (.int p4), .val (.int p5), .val (.int (4 : Int32)), .val (.ref b65), .val (.ref b79), .val (.int (1 : Int32))] [(.int (3 : Int32)), (.ref b65)])) rfl rfl (hb hby at_231) _ (XS.iload X92.here hx rfl (hb hby at_232) rfl k)) ?_
    show own_Go p.tables e below RR (T92.setTop (mkF m 234 #[.val (.int p1), .val (.int p2), .val (.int p3), .val (.int p4), .val (.int p5), .val (.int (4 : Int32)), .val (.ref b65), .val (.ref b79), .val (.int (1 : Int32))] [(.int p5), (.int p5)]))
    refine own_st (fun _ k => XS.icmpNo X92.here hx rfl (hb hby at_234) rfl (teq rfl).2 (XS.aload X92.here hx rfl (hb hby at_237) rfl rfl (XS.iconst X92.here hx rfl (hb hby at_239) k))) ?_
    show own_Go p.tables e below RR (T92.setTop (mkF m 240 #[.val (.int p1), .val (.int p2), .val (.int p3), .val (.int p4), .val (.int p5), .val (.int (4 : Int32)), .val (.ref b65), .val (.ref b79), .val (.int (1 : Int32))] [(.int (3 : Int32)), (.ref b79)]))
    obtain ⟨c94, A94, q94, s94, m94, H94, G94⟩ := id Vq80
    have b94 := inb_of (j := (3 : Int32)) s94 ⟨by decide, by decide⟩
    refine own_st (fun _ k => X92.iaload hx (j := (3 : Int32)) (v := (.int p2)) (by rw [eq92]; exact A94.1) (State.isArrayOf_alike hZ.alike A94.2.1) A94.2.2 b94 (Has.at H94 b94 rfl) (g := (mkF m 240 #[.val (.int p1), .val (.int p2), .val (.int p3), .val (.int p4), .val (.int p5), .val (.int (4 : Int32)), .val (.ref b65), .val (.ref b79), .val (.int (1 : Int32))] [(.int (3 : Int32)), (.ref b79)])) rfl rfl (hb hby at_240) _ (XS.iload X92.here hx rfl (hb hby at_241) rfl (XS.iconst X92.here hx rfl (hb hby at_243) (XS.isub X92.here hx rfl (hb hby at_244) rfl (XS.iloadN X92.here hx rfl (hb hby at_245) rfl (XS.iloadN X92.here hx rfl (hb hby at_246) rfl (XS.iloadN X92.here hx rfl (hb hby at_247) rfl (XS.iload X92.here hx rfl (hb hby at_248) rfl k)))))))) ?_
    show own_Go p.tables e below RR (T92.setTop (mkF m 250 #[.val (.int p1), .val (.int p2), .val (.int p3), .val (.int p4), .val (.int p5), .val (.int (4 : Int32)), .val (.ref b65), .val (.ref b79), .val (.int (1 : Int32))] [(.int p5), (.int p4), (.int p3), (.int p2), (.int (0 : Int32)), (.int p2)]))
    obtain ⟨_, _, ⟨T95, L95, k95, n95⟩, -, X95, ⟨Lc95, hQ95, l95, y95, z95⟩, st95⟩ := Jvm.LawKit.callS X92 hx (y := (⟨"com/example/candex/candex/index/TermTrieReversedPinLaw", "pick", "(IIIII)I"⟩ : MethodName)) hown (mvT hZ (hw _ (List.mem_of_getElem? (i := 6) rfl))) (mvT hZ (hw _ (List.mem_of_getElem? (i := 7) rfl))) (mvT hZ (hw _ (List.mem_of_getElem? (i := 8) rfl))) (mvT hZ (hw _ (List.mem_of_getElem? (i := 9) rfl))) (by decide) (backOf (W := 1) (own_rmP l Z a0 hw [] (0 : Int32) p2 p3 p4 p5 p2 T80.heap n0 z81 rfl) hZ (hw _ (List.mem_of_getElem? (i := 9) rfl)) (hw _ (List.mem_of_getElem? (i := 8) rfl)) (by decide) (by decide)) (g := (mkF m 250 #[.val (.int p1), .val (.int p2), .val (.int p3), .val (.int p4), .val (.int p5), .val (.int (4 : Int32)), .val (.ref b65), .val (.ref b79), .val (.int (1 : Int32))] [(.int p5), (.int p4), (.int p3), (.int p2), (.int (0 : Int32)), (.int p2)])) rfl (by rw [hml]; rfl) (argsL := [(.int (0 : Int32)), (.int p2), (.int p3), (.int p4), (.int p5)]) (rest := [(.int p2)]) (lenOf own_pd__IIIII_I rfl) rfl (by show 2 * 0 + _ ≤ _; exact Nat.le_of_eq rfl) (hb hby at_250) (fun _ _ => ⟨rfl, eq92, (by decide : 2 + 0 ≤ _), (by decide : 8 + 0 ≤ _)⟩)
    dsimp only [Pt.U, Pt.locs, Pt.cells, Pt.slots] at X95 l95 y95 z95 st95 hQ95
    subst l95 y95 z95
    obtain ⟨rfl, Nq95, eq95⟩ := hQ95
    have N95 := Fr.app N92 Nq95
    refine own_st st95 ?_
    show own_Go p.tables e below RR (T95.setTop (mkF m 253 #[.val (.int p1), .val (.int p2), .val (.int p3), .val (.int p4), .val (.int p5), .val (.int (4 : Int32)), .val (.ref b65), .val (.ref b79), .val (.int (1 : Int32))] [(.int p2), (.int p2)]))
    refine own_st (fun _ k => XS.icmpNo X95.here hx rfl (hb hby at_253) rfl (teq rfl).2 (XS.iconst X95.here hx rfl (hb hby at_256) (XS.goto X95.here hx rfl (pc0 := 257) (pc' := 261) rfl (hb hby at_257) (by decide) (by decide) (XS.istore X95.here hx rfl (hb hby at_261) rfl (l' := #[.val (.int p1), .val (.int p2), .val (.int p3), .val (.int p4), .val (.int p5), .val (.int (4 : Int32)), .val (.ref b65), .val (.ref b79), .val (.int (1 : Int32))]) rfl (XS.iload X95.here hx rfl (hb hby at_263) rfl k))))) ?_
    show own_Go p.tables e below RR (T95.setTop (mkF m 265 #[.val (.int p1), .val (.int p2), .val (.int p3), .val (.int p4), .val (.int p5), .val (.int (4 : Int32)), .val (.ref b65), .val (.ref b79), .val (.int (1 : Int32))] [(.int (1 : Int32))]))
    obtain ⟨fs, hrt_, hrun, hended, hW, hsame⟩ := X95.leave (v := some (.int (1 : Int32))) (fun h => by rw [Bd.returns] at h; cases h)
    refine own_fin (retN X95 hx (t := .boolean) Bd.returns (by simp) (hb hby at_265) hrt_) (hRR _ ⟨_, hrun, hended, _, _, rfl, ?_, ⟨_, rfl⟩, hW, hsame.mono (by decide) (by decide)⟩)
    show own_Q0 Z p1 p2 p3 p4 p5 h0 n0 _ T95.heap _
    rw [eq95]
    exact ⟨rfl, N95⟩
set_option maxRecDepth 65536 in
set_option maxHeartbeats 40000000 in
theorem own_comes {Post : Tables → Env → Array Value → State → Outcome → State → Prop} (hpost : ∀ tb e args s v u, (limb_1_1.after args s (.returned v) u = true ∧ limb_1_2.after args s (.returned v) u = true ∧ True) → FrameEnd s (.returned v) u (Jvm.fieldLocs frame_1_writes args s ++ Jvm.arrayLocs frame_1_arrays args s ++ Jvm.staticLocs frame_1_statics s) 16 128 → Post tb e args s (.returned v) u) :
    ArmFor flags0 classFile x code maxLocals ret World_1 tables_1 room_1 Calls_1 rest_1 Pre_1 Post := by
  intro l hfl _ _ p e ha hc hk s m args below hf hA hF happ hP
  obtain ⟨hcalls, hrest, hpre⟩ := hP
  obtain ⟨-, -, -, hnamed, -, -, -, hat⟩ := (Spec.applies_iff hf).mp happ
  obtain ⟨hg, hn⟩ := and_e (Cond.before_iff.mp (show (Jvm.Cond.and given_1 narrow_1).before args s = true from hpre))
  obtain ⟨u1a, u1b⟩ := and_e hg
  obtain ⟨u2a, u2b⟩ := and_e u1b
  obtain ⟨u3a, u3b⟩ := and_e u2b
  obtain ⟨u4a, u4b⟩ := and_e u3b
  obtain ⟨u5a, u5b⟩ := and_e u4b
  obtain ⟨w0, w1, w2, w3, w4, rfl⟩ : ∃ w0 w1 w2 w3 w4 : Value, args = #[w0, w1, w2, w3, w4] := by
    have hs : args.size = 5 := by simpa [Cond.value, given_1] using u1a
    obtain ⟨L⟩ := args
    match L, hs with
    | [w0, w1, w2, w3, w4], _ => exact ⟨w0, w1, w2, w3, w4, rfl⟩
  have hw := fun d (hd : d ∈ tables_1) => atoms_spec (ws := Jvm.Cond.code x code maxLocals ret :: tables_1) hat d (List.mem_cons_of_mem _ hd)
  have hfit : Fit s := fun {y c} hc i hi => by
    obtain ⟨ha, rfl⟩ := Array.getElem?_eq_some_iff.mp hc
    have q := List.all_eq_true.mp ((Array.all_eq_true_iff_forall_mem.mp hF) _ (Array.getElem_mem ha)) i (List.mem_range.mpr hi)
    simpa [Array.getElem?_eq_getElem hi] using q
  obtain ⟨i0, ei0⟩ := is_v u2a
  obtain rfl : w0 = (.int i0) := Option.some.inj ei0
  obtain ⟨i1, ei1⟩ := is_v u3a
  obtain rfl : w1 = (.int i1) := Option.some.inj ei1
  obtain ⟨i2, ei2⟩ := is_v u4a
  obtain rfl : w2 = (.int i2) := Option.some.inj ei2
  obtain ⟨i3, ei3⟩ := is_v u5a
  obtain rfl : w3 = (.int i3) := Option.some.inj ei3
  obtain ⟨i4, ei4⟩ := is_v u5b
  obtain rfl : w4 = (.int i4) := Option.some.inj ei4
  obtain ⟨n, o, h1, h2, h3, _, L, rfl, ⟨rfl, N⟩, hq⟩ := own_rm0 l s _ hw tables_1 i0 i1 i2 i3 i4 s.heap s.heap.size (Nat.le_refl _)  p e ha hc hk s m _ below hf ((Spec.applies_iff_loose hf).mp happ).1 ⟨rfl, State.Warmed39.refl s, rfl⟩ trivial
  refine ⟨n, _, h1, h2, h3, hpost _ _ _ _ _ _ ⟨Cond.after_iff.mpr rfl, Cond.after_iff.mpr (eq_i res_at (Term.int_eval (1)) rfl), trivial⟩ ⟨hq.1, hq.2.1, (hq.2.2.sift fun y hy => Or.inr (N y hy)).mono (by decide) (by decide)⟩⟩
theorem main_1_1 : Claimed_1_1 := own_comes fun _ _ _ _ _ _ h hF => ⟨h.1, hF⟩
theorem main_1_2 : Claimed_1_2 := own_comes fun _ _ _ _ _ _ h hF => ⟨h.2.1, hF⟩
end Jvm.Pilot.@@N@@
namespace Jvm.Pilot.@@N@@
open Jvm Jvm.ClassFile Sem Op Lib Jvm.Free Jvm.Stand Jvm.Pilot.@@N@@.Jvm.D
/-! MADE BY PROGRAM (witnessworld.py) out of the Statement's table words and the real class files: 9 classes; the members and pool entries that the words name. The judged class is class 1, her method 2. -/
namespace start1
open Jvm.ClassFile
def u (s : String) : CpInfo := .utf8 (stringToUtf16 s)
/-- a pool by its gaps: so many unusable entries, then the entry; so many at the end -/
def gap : Nat → List CpInfo → List CpInfo
  | 0, r => r
  | n + 1, r => .unusable :: gap n r
def poolList (es : List (Nat × CpInfo)) (last : Nat) : List CpInfo := es.foldr (fun e r => gap e.1 (e.2 :: r)) (gap last [])
def pool (es : List (Nat × CpInfo)) (last : Nat) : Array CpInfo := ⟨poolList es last⟩
def fileOf (pool : Array CpInfo) (this : Nat) (attrs : Array Attribute := #[]) (ms : Array MethodInfo := #[]) (fl : Nat := 33) (sup : Nat := 0) (ifs : Array Nat := #[]) (fds : Array FieldInfo := #[]) : ClassFile where
  minorVersion := 0
  majorVersion := 65
  constantPool := pool
  accessFlags := fl
  thisClass := this
  superClass := sup
  interfaces := ifs
  fields := fds
  methods := ms
  attributes := attrs
def plain (name : String) (sup : Option ClassId) : Class where
  name := name
  kind := .ordinary
  loader := none
  accessFlags := 33
  super := sup
  interfaces := #[]
  cf := none
  fields := #[]
  methods := #[]
  instanceTypes := #[]
  staticTypes := #[]
  resolved := #[]
  callSites := []
  init := .initialized
  statics := none
  mirror := none

def pool0 : Array CpInfo := pool [(5, u "<init>"), (0, u "()V"), (1, .class_ 10), (1, u "java/lang/Object")] 113

def k0m0 : Method := { name := "<init>", desc := "()V", sig := { parameters := [], returnType := none }, accessFlags := 1, code := none }
/-- java/lang/Object -/
def k0 : Class := { plain "java/lang/Object" none with
  accessFlags := 33
  interfaces := #[]
  cf := some (fileOf pool0 8 #[] #[{ accessFlags := 1, nameIndex := 5, descriptorIndex := 6, attributes := #[] }] 33 0 #[] #[])
  fields := #[]
  methods := #[k0m0]
  instanceTypes := #[]
  staticTypes := #[]
  resolved := Array.replicate 124 none
  statics := none }

def pool1 : Array CpInfo := pool [(2, .class_ 4), (1, u "java/lang/Object"), (0, u "<init>"), (0, u "()V"), (0, .integer 2147483647), (0, .methodref 9 10), (0, .class_ 11), (0, .nameAndType 12 13), (0, u "com/example/candex/candex/index/TermTrie"), (0, u "reversed"), (0, u "([I)[I"), (0, .methodref 15 16), (0, .class_ 17), (0, .nameAndType 18 19), (0, u "com/example/candex/candex/index/TermTrieReversedPinLaw"), (0, u "pick"), (0, u "(IIIII)I"), (3, u "law"), (0, u "(IIIII)Z")] 4

def k1m0 : Method := { name := "<init>", desc := "()V", sig := { parameters := [], returnType := none }, accessFlags := 1, code := none }
def k1c1 : Code := { maxStack := 2, maxLocals := 5, code := method_2_code, exceptionTable := #[], attributes := #[] }
def k1m1 : Method := { name := "pick", desc := "(IIIII)I", sig := { parameters := [.int, .int, .int, .int, .int], returnType := some .int }, accessFlags := 10, code := some k1c1 }
def k1c2 : Code := { maxStack := 6, maxLocals := 9, code := code, exceptionTable := #[], attributes := #[] }
def k1m2 : Method := { name := "law", desc := "(IIIII)Z", sig := { parameters := [.int, .int, .int, .int, .int], returnType := some .boolean }, accessFlags := 9, code := some k1c2 }
/-- com/example/candex/candex/index/TermTrieReversedPinLaw -/
def k1 : Class := { plain "com/example/candex/candex/index/TermTrieReversedPinLaw" (some 0) with
  accessFlags := 49
  interfaces := #[]
  cf := some (fileOf pool1 15 #[] #[{ accessFlags := 1, nameIndex := 5, descriptorIndex := 6, attributes := #[] }, { accessFlags := 10, nameIndex := 18, descriptorIndex := 19, attributes := #[] }, { accessFlags := 9, nameIndex := 23, descriptorIndex := 24, attributes := #[] }] 49 2 #[] #[])
  fields := #[]
  methods := #[k1m0, k1m1, k1m2]
  instanceTypes := #[]
  staticTypes := #[]
  resolved := Array.replicate 29 none
  statics := none }

def pool2 : Array CpInfo := pool [(2, .class_ 4), (1, u "java/lang/Object"), (3, .class_ 10), (1, u "com/example/candex/candex/index/TermTrie"), (0, u "data"), (0, u "Ljava/nio/ByteBuffer;"), (2, u "root"), (0, u "I"), (0, .class_ 18), (0, u "com/example/candex/candex/index/TermTrie$Walk"), (26, .class_ 47), (1, u "com/example/candex/candex/index/TermTrie$Node"), (22, .class_ 71), (0, u "com/example/candex/candex/index/TermTrie$Terms"), (19, u "CHILD"), (2, u "FEW_CHILDREN"), (3, u "reversed"), (0, u "([I)[I"), (5, .class_ 106), (0, u "com/example/candex/candex/index/TermTrie$Visitor"), (7, .class_ 115), (0, u "com/example/candex/candex/index/TermTrie$Writer"), (0, .class_ 117), (0, u "com/example/candex/candex/index/TermTrie$Writer$Open")] 7

def k2c0 : Code := { maxStack := 4, maxLocals := 3, code := prog_45_method_2_code, exceptionTable := #[], attributes := #[] }
def k2m0 : Method := { name := "reversed", desc := "([I)[I", sig := { parameters := [(.array .int)], returnType := some (.array .int) }, accessFlags := 8, code := some k2c0 }
/-- com/example/candex/candex/index/TermTrie -/
def k2 : Class := { plain "com/example/candex/candex/index/TermTrie" (some 0) with
  accessFlags := 32
  interfaces := #[]
  cf := some (fileOf pool2 8 #[.nestMembers #[17, 45, 70, 114, 116, 105]] #[{ accessFlags := 8, nameIndex := 98, descriptorIndex := 99, attributes := #[] }] 32 2 #[] #[{ accessFlags := 26, nameIndex := 91, descriptorIndex := 16, attributes := #[] }, { accessFlags := 26, nameIndex := 94, descriptorIndex := 16, attributes := #[] }, { accessFlags := 18, nameIndex := 11, descriptorIndex := 12, attributes := #[] }, { accessFlags := 18, nameIndex := 15, descriptorIndex := 16, attributes := #[] }])
  fields := #[{ name := "CHILD", type := .int, accessFlags := 26, slot := 0, constantValue := 0 }, { name := "FEW_CHILDREN", type := .int, accessFlags := 26, slot := 1, constantValue := 0 }, { name := "data", type := (.object "java/nio/ByteBuffer"), accessFlags := 18, slot := 0, constantValue := 0 }, { name := "root", type := .int, accessFlags := 18, slot := 1, constantValue := 0 }]
  methods := #[k2m0]
  instanceTypes := #[(.object "java/nio/ByteBuffer"), .int]
  staticTypes := #[.int, .int]
  resolved := Array.replicate 125 none
  statics := none }

def pool3 : Array CpInfo := pool [(1, u "java/lang/Cloneable"), (0, .class_ 1), (0, u "java/lang/Object"), (0, .class_ 3)] 3

/-- java/lang/Cloneable -/
def k3 : Class := { plain "java/lang/Cloneable" (some 0) with
  accessFlags := 1537
  interfaces := #[]
  cf := some (fileOf pool3 2 #[] #[] 1537 4 #[] #[])
  fields := #[]
  methods := #[]
  instanceTypes := #[]
  staticTypes := #[]
  resolved := Array.replicate 8 none
  statics := none }

def pool4 : Array CpInfo := pool [(1, u "java/io/Serializable"), (0, .class_ 1), (0, u "java/lang/Object"), (0, .class_ 3)] 3

/-- java/io/Serializable -/
def k4 : Class := { plain "java/io/Serializable" (some 0) with
  accessFlags := 1537
  interfaces := #[]
  cf := some (fileOf pool4 2 #[] #[] 1537 4 #[] #[])
  fields := #[]
  methods := #[]
  instanceTypes := #[]
  staticTypes := #[]
  resolved := Array.replicate 8 none
  statics := none }

/-- the primitive byte -/
def k5 : Class := { plain "byte" none with kind := .primitive 'B', accessFlags := 0x411 }
/-- [B -/
def k6 : Class := { plain "[B" (some 0) with kind := .array 5 .byte, interfaces := #[3, 4], accessFlags := 1041 }

/-- the primitive int -/
def k7 : Class := { plain "int" none with kind := .primitive 'I', accessFlags := 0x411 }
/-- [I -/
def k8 : Class := { plain "[I" (some 0) with kind := .array 7 .int, interfaces := #[3, 4], accessFlags := 1041 }

def heap : Heap := #[]
def classes : Array Class := #[k0, k1, k2, k3, k4, k5, k6, k7, k8]
def interned : List (Array UInt16 × Addr) := []
def slotsUsed : Nat := 0
def theMethod : MethodId := ⟨1, 2⟩
def args0 : Array Value := #[.int 4, .int 3, .int 1, .int 1, .int 2]
def aboutOver (below : List Frame) : State where
  vm := { classes := classes, interned := interned.toArray }
  heap := heap
  slotsUsed := slotsUsed
  threads := #[{ frames := .invoking theMethod args0 :: below }]
def below0 : List Frame := [.native { method := ⟨0, 0⟩, args := #[] }]
def about1 : State := aboutOver below0
def p0 : Program := .bare "" "" ""
def e0 : Env := launch0.env 0 0 0
theorem w_frames : about1.frames = Frame.invoking theMethod args0 :: below0 := rfl
set_option maxRecDepth 65536 in
theorem w_args : argsFit about1.vm theMethod args0 = true := by decide +kernel
set_option maxRecDepth 65536 in
theorem w_heap : heapFits about1 = true := by decide +kernel
set_option maxRecDepth 65536 in
theorem w_runnable : about1.curStatus? = some .runnable := by decide +kernel
set_option maxRecDepth 65536 in
theorem w_alone : about1.alone = true := by decide +kernel
set_option maxRecDepth 65536 in
theorem w_named : about1.methodNamed? x = some theMethod := by decide +kernel
set_option maxRecDepth 65536 in
theorem w_hears : about1.hears theMethod below0 = true := by decide +kernel
set_option maxRecDepth 65536 in
theorem w_ripe : about1.ripe theMethod args0 below0 = true := by decide +kernel
theorem w_running : about1.status = .running := rfl
set_option maxRecDepth 65536 in
theorem w_room : about1.hasRoom e0.platform room_1 = true :=
  launch0.hasRoom_least _ room_1 (by decide +kernel) (by decide +kernel) (by decide +kernel) (by decide +kernel) (by decide +kernel) (by decide +kernel)
theorem allAtoms_all (ts : List Jvm.Cond) (a : Array Jvm.Value) (st : Jvm.State) : (allAtoms ts).before a st = ts.all (fun c => c.before a st) := by
  induction ts with
  | nil => rfl
  | cons c t ih =>
    show (Jvm.Cond.and c (allAtoms t)).before a st = _
    rw [Jvm.Cond.before_and, ih, List.all_cons]
def words1 : List Jvm.Cond := Jvm.Cond.code x code maxLocals ret :: tables_1
/-- a 'code' word, met by the world's own term for the bytes: nothing is compared byte by byte -/
theorem code_word {y : MethodName} {bytes : ByteArray} {mx : Nat} {rt : Option FieldType} {a : Array Value} {s : State} {m : MethodId} {meth : Method} {c : Code} (h1 : s.methodNamed? y = some m) (h2 : s.vm.method? m = some meth) (h3 : meth.code = some c) (h4 : c.code = bytes)
    (h5 : (c.maxLocals == mx && c.exceptionTable.isEmpty && decide (c.maxStack ≤ mostOperands) && decide (meth.sig.returnType = rt) && !meth.locks && decide (parseMethodDescriptor y.desc = some meth.sig)) = true) : (Jvm.Cond.code y bytes mx rt).before a s = true := by
  simp only [Bool.and_eq_true, beq_iff_eq, Bool.not_eq_true', decide_eq_true_eq] at h5
  obtain ⟨⟨⟨⟨⟨g1, g2⟩, g3⟩, g4⟩, g5⟩, g6⟩ := h5
  simp [Cond.before, Cond.holds, Cond.value, h1, h2, h3, h4, g1, g2, g3, g4, g5, g6]
def isCode : Jvm.Cond → Bool
  | .code _ _ _ _ => true
  | _ => false
theorem all_split {L : List Jvm.Cond} {P : Jvm.Cond → Bool} (h1 : L.all (fun c => isCode c || P c) = true) (h2 : ∀ c ∈ L.filter isCode, P c = true) : L.all P = true := by
  refine List.all_eq_true.mpr fun c hc => ?_
  have h := List.all_eq_true.mp h1 c hc
  rcases Bool.eq_false_or_eq_true (isCode c) with hi | hi
  · exact h2 c (List.mem_filter.mpr ⟨hc, hi⟩)
  · simpa [hi] using h
set_option maxRecDepth 65536 in
theorem w_c0 : (Jvm.Cond.code x code maxLocals ret).before args0 about1 = true := code_word (m := ⟨1, 2⟩) (meth := k1m2) (c := k1c2) (by decide +kernel) rfl rfl rfl (by decide +kernel)
set_option maxRecDepth 65536 in
theorem w_c1 : (Jvm.Cond.code ({ cls := "com/example/candex/candex/index/TermTrie", name := "reversed", desc := "([I)[I" } : Jvm.MethodName) prog_45_method_2_code (3 : Nat) (Option.some (Jvm.ClassFile.FieldType.array Jvm.ClassFile.FieldType.int))).before args0 about1 = true := code_word (m := ⟨2, 0⟩) (meth := k2m0) (c := k2c0) (by decide +kernel) rfl rfl rfl (by decide +kernel)
set_option maxRecDepth 65536 in
theorem w_c2 : (Jvm.Cond.code ({ cls := "com/example/candex/candex/index/TermTrieReversedPinLaw", name := "pick", desc := "(IIIII)I" } : Jvm.MethodName) method_2_code (5 : Nat) (Option.some Jvm.ClassFile.FieldType.int)).before args0 about1 = true := code_word (m := ⟨1, 1⟩) (meth := k1m1) (c := k1c1) (by decide +kernel) rfl rfl rfl (by decide +kernel)
def codes1 : List Jvm.Cond := [Jvm.Cond.code x code maxLocals ret, Jvm.Cond.code ({ cls := "com/example/candex/candex/index/TermTrie", name := "reversed", desc := "([I)[I" } : Jvm.MethodName) prog_45_method_2_code (3 : Nat) (Option.some (Jvm.ClassFile.FieldType.array Jvm.ClassFile.FieldType.int)), Jvm.Cond.code ({ cls := "com/example/candex/candex/index/TermTrieReversedPinLaw", name := "pick", desc := "(IIIII)I" } : Jvm.MethodName) method_2_code (5 : Nat) (Option.some Jvm.ClassFile.FieldType.int)]
set_option maxRecDepth 65536 in
theorem codes_eq : words1.filter isCode = codes1 := rfl
theorem w_codes : ∀ c ∈ words1.filter isCode, c.before args0 about1 = true := by
  rw [codes_eq]
  intro c hc
  simp only [codes1, List.mem_cons, List.not_mem_nil, or_false] at hc
  rcases hc with rfl | rfl | rfl
  · exact w_c0
  · exact w_c1
  · exact w_c2
set_option maxRecDepth 65536 in
theorem w_t1 : words1.all (fun c => isCode c || c.before args0 about1) = true := by decide +kernel
theorem w_tables : (allAtoms (Jvm.Cond.code x code maxLocals ret :: tables_1)).before args0 about1 = true := by
  rw [allAtoms_all]
  show words1.all (fun c => c.before args0 about1) = true
  refine all_split ?_ w_codes
  rw [w_t1]
set_option maxRecDepth 65536 in
theorem w_case : (Jvm.Cond.and given_1 narrow_1).before args0 about1 = true := by decide +kernel
theorem w_applies : (headSpec (Jvm.Cond.code x code maxLocals ret :: tables_1) room_1).applies x e0.platform about1 = true :=
  (Spec.applies_iff w_frames).mpr ⟨w_running, w_runnable, w_alone, w_named, w_hears, w_ripe, w_room, w_tables⟩
theorem atStart : AtStart classFile x code maxLocals ret World_1 tables_1 room_1 Calls_1 rest_1 Pre_1 launch0 p0 e0 about1 theMethod args0 below0 :=
  ⟨lists_1, trivial, launch0.admits_env _ _ _, launch0.least_env, fairChoices_fair.cas, fairChoices_fair.clock, w_frames, w_args, w_heap, w_applies, trivial, trivial, w_case⟩
end start1
theorem witness_1 : WitnessClaimed_1 := ⟨start1.p0, start1.e0, start1.about1, start1.theMethod, start1.args0, start1.below0, start1.atStart⟩
end Jvm.Pilot.@@N@@
