import JvmDerived
import JvmDerived.Pilot.@@N@@Statement
import JvmDerived.Pilot.@@N@@Code
set_option linter.unusedVariables false
set_option linter.unusedSimpArgs false
namespace Jvm.RoadKit
open Sem ClassFile Op Lib Jvm.Stand Jvm.Free Jvm.LawKit
section Own
/-- from u a state is reached where R holds -/
def own_Go (tb : Tables) (e : Env) (below : List Frame) (R : State → Prop) (u : State) : Prop := ∃ t, Steps tb e below u t ∧ R t
theorem own_st {tb : Tables} {e : Env} {below : List Frame} {R : State → Prop} {u v : State} (h : ∀ t, Steps tb e below v t → Steps tb e below u t) (g : own_Go tb e below R v) : own_Go tb e below R u := by
  obtain ⟨t, h1, h2⟩ := g
  exact ⟨t, h t h1, h2⟩
theorem own_fin {tb : Tables} {e : Env} {below : List Frame} {R : State → Prop} {u t : State} (h : Steps tb e below u t) (r : R t) : own_Go tb e below R u := ⟨t, h, r⟩
theorem own_in {tb : Tables} {e : Env} {below : List Frame} {u v : State} {P : State → Outcome → Prop} (h : ∀ t, Steps tb e below v t → Steps tb e below u t)
    (g : ∀ RR : State → Prop, (∀ t, (∃ o, t.status = .running ∧ P t o) → RR t) → own_Go tb e below RR v) : ∃ t o, Steps tb e below u t ∧ t.status = .running ∧ P t o := by
  obtain ⟨t, h1, o, h2, h3⟩ := g (fun t => ∃ o, t.status = .running ∧ P t o) fun _ q => q
  exact ⟨t, o, h t h1, h2, h3⟩
theorem own_ri {x y : Int32} (h : x = y) : some (Value.int x) = some (Value.int y) := h ▸ rfl
theorem own_rj {x y : Int64} (h : x = y) : some (Value.long x) = some (Value.long y) := h ▸ rfl
theorem own_rr {x y : Addr} (h : x = y) : some (Value.ref x) = some (Value.ref y) := h ▸ rfl
theorem own_eq_int {args : Array Value} {first s : State} {o : Option Outcome} {idx : List Nat} {a : Term} {k : Int32} (h : (Cond.eq a (.int k)).value args first o s idx = some true) : a.eval args first o idx s = some (.int k) := by
  simp only [Cond.value, Term.eval] at h
  cases ht : a.eval args first o idx s with
  | none => simp [ht] at h
  | some x => cases x <;> simp [ht] at h ⊢; exact h
theorem own_eq_long {args : Array Value} {first s : State} {o : Option Outcome} {idx : List Nat} {a : Term} {k : Int64} (h : (Cond.eq a (.long k)).value args first o s idx = some true) : a.eval args first o idx s = some (.long k) := by
  simp only [Cond.value, Term.eval] at h
  cases ht : a.eval args first o idx s with
  | none => simp [ht] at h
  | some x => cases x <;> simp [ht] at h ⊢; exact h
theorem own_selP {s : State} {args : Array Value} {y : MethodName} {n : Nat} (wi : (Cond.instantiable y.cls n).before args s = true) (hp : s.PrivateAt y) (hi : (Cond.instanceMethod y).before args s = true) (hy : y.cls ≠ "java/lang/invoke/MethodHandle" ∧ y.cls ≠ "java/lang/invoke/VarHandle") : (Cond.selects y.cls y y).before args s = true := by
  obtain ⟨c, k, h1, h2, -, h4, -⟩ := Cond.instantiable_spec wi
  exact selects_self_of_private h1 h2 (Bool.or_eq_false_iff.mp h4).1 hp hi hy
variable {p : Program} {l : Launch} {e : Env} {R : Room} {s : State} {m : MethodId} {args : Array Value} {below : List Frame} {meth : Method} {c : Code} {T : State} {locs : List Loc} {cells slots : Nat} {Z : State} {h : Heap}
theorem retI (X : Stand p l e R s m args below meth c T locs cells slots) (hx : p.tables.exec = Jvm.exec) {pc : Nat} {Ls : Array Slot} {z : Int32} {rest : List Value} (hret : meth.sig.returnType = some .int) (hd : decode c.code pc = .ok (.ireturn, 1)) {fs : List Frame}
    (hl : ∀ (f : JFrame) (acts : List Action), f.method = m → f.locked = none → f.entered = [] → (doReturn e (T.setTop f) acts (some (.int z))).1 = T.setFrames fs) : Steps p.tables e below (T.setTop (mkF m pc Ls (.int z :: rest))) (T.setFrames fs) :=
  retOut X hx hret rfl (Or.inl ⟨rfl, Or.inl rfl, z, rfl⟩) hd hl
theorem own_len (X : Stand p l e R s m args below meth c T locs cells slots) (hx : p.tables.exec = Jvm.exec) (hZ : Z.Warmed39 s.vm) (eT : T.heap = h) {a : Addr} {cl : Cell} {ty : FieldType} (A : Arr Z h a cl ty) {z : Int32} (S : cl.slots.size = z.toNatClampNeg) (N : ¬ z < 0)
    {g : JFrame} (hg : g.method = m) {rest : List Value} (hs : g.stack = .ref a :: rest) (hd : decode c.code g.pc = .ok (.arraylength, 1)) {target : State}
    (k : Steps p.tables e below (T.setTop { g with pc := g.pc + 1, stack := .int z :: rest }) target) : Steps p.tables e below (T.setTop g) target :=
  X.arraylength hx (by rw [eT]; exact A.1) (State.isArrayOf_alike hZ.alike A.2.1) hg hs hd target (by rw [len_of S N]; exact k)
end Own
end Jvm.RoadKit
namespace Jvm.Pilot.@@N@@
open Jvm Jvm.ClassFile Sem Op Lib Jvm.Free Jvm.Stand Jvm.LawKit Jvm.RoadKit Bundle Jvm.Pilot.@@N@@.Jvm.D
theorem own_four {x v : Int32} (h : (x &&& (3 : Int32)) = v) : v = 0 ∨ v = 1 ∨ v = 2 ∨ v = 3 := by
  have h1 := c_mask x 3 2 (by decide) (by decide)
  rw [h] at h1
  have e : v.toInt = 0 ∨ v.toInt = 1 ∨ v.toInt = 2 ∨ v.toInt = 3 := by omega
  simpa [← Int32.toInt_inj] using e
theorem own_bb {x y : Int32} (h : x.toInt8.toInt32 = y) : y.toInt8.toInt32 = y := by
  subst h
  rw [Int8.toInt8_toInt32]
theorem own_pn_com_example_seshat_seshat_bundles_Spill : plainName "com/example/seshat/seshat/bundles/Spill" = true := by first | (simp [plainName, overriddenIn]; done) | decide +kernel
theorem own_dprog_3_method_3_code_0 : decode prog_3_method_3_code 0 = .ok (.aload_n 0, 1) := by decide +kernel
theorem own_dprog_3_method_3_code_1 : decode prog_3_method_3_code 1 = .ok (.arraylength, 1) := by decide +kernel
theorem own_dprog_3_method_3_code_2 : decode prog_3_method_3_code 2 = .ok (.iconst 1, 1) := by decide +kernel
theorem own_dprog_3_method_3_code_3 : decode prog_3_method_3_code 3 = .ok (.iadd, 1) := by decide +kernel
theorem own_dprog_3_method_3_code_4 : decode prog_3_method_3_code 4 = .ok (.newarray .byte, 2) := by decide +kernel
theorem own_dprog_3_method_3_code_6 : decode prog_3_method_3_code 6 = .ok (.astore_n 1, 1) := by decide +kernel
theorem own_dprog_3_method_3_code_7 : decode prog_3_method_3_code 7 = .ok (.aload_n 0, 1) := by decide +kernel
theorem own_dprog_3_method_3_code_8 : decode prog_3_method_3_code 8 = .ok (.iconst 0, 1) := by decide +kernel
theorem own_dprog_3_method_3_code_9 : decode prog_3_method_3_code 9 = .ok (.aload_n 1, 1) := by decide +kernel
theorem own_dprog_3_method_3_code_10 : decode prog_3_method_3_code 10 = .ok (.iconst 0, 1) := by decide +kernel
theorem own_dprog_3_method_3_code_11 : decode prog_3_method_3_code 11 = .ok (.aload_n 0, 1) := by decide +kernel
theorem own_dprog_3_method_3_code_12 : decode prog_3_method_3_code 12 = .ok (.arraylength, 1) := by decide +kernel
theorem own_dprog_3_method_3_code_13 : decode prog_3_method_3_code 13 = .ok (.invokestatic 49, 3) := by decide +kernel
theorem own_dprog_3_method_3_code_16 : decode prog_3_method_3_code 16 = .ok (.aload_n 1, 1) := by decide +kernel
theorem own_dprog_3_method_3_code_17 : decode prog_3_method_3_code 17 = .ok (.aload_n 0, 1) := by decide +kernel
theorem own_dprog_3_method_3_code_18 : decode prog_3_method_3_code 18 = .ok (.arraylength, 1) := by decide +kernel
theorem own_dprog_3_method_3_code_19 : decode prog_3_method_3_code 19 = .ok (.bipush 10, 2) := by decide +kernel
theorem own_dprog_3_method_3_code_21 : decode prog_3_method_3_code 21 = .ok (.bastore, 1) := by decide +kernel
theorem own_dprog_3_method_3_code_22 : decode prog_3_method_3_code 22 = .ok (.aload_n 1, 1) := by decide +kernel
theorem own_dprog_3_method_3_code_23 : decode prog_3_method_3_code 23 = .ok (.areturn, 1) := by decide +kernel
theorem own_efN0 (m : MethodId) (o : Addr) : entryFrame m #[(.ref o)] 2 = mkF m 0 #[.val (.ref o), .unset] [] := by first | (simp [entryFrame, mkF, argsToLocals, Value.category]; done) | rfl
def own_QN0 (Z : State) (o : Addr) (kc : ClassId) (r : Addr) (h0 : Heap) (n0 : Nat) (v_ : Option Value) (h : Heap) (L_ : List Loc) : Prop := v_ = some (.ref r) ∧ Fr n0 L_ ∧ Keep h0 h [] ∧ ∃ k' : ClassId, Arv Z h r k' .byte (1 : Int32) [(.int (10 : Int32))] (.int (0 : Int32))
abbrev own_RN0 : Room := { frames := 1, cells := 1, slots := 1, locals := 18 }
set_option maxRecDepth 65536 in
set_option maxHeartbeats 40000000 in
theorem own_rmN0 (l : Launch) (Z : State) (a0 : Array Value) (hw : ∀ d ∈ tables_1, d.before a0 Z = true) (ws : List Jvm.Cond) (o : Addr) (kc : ClassId) (r : Addr) (h0 : Heap) (n0 : Nat) (Z0 : n0 ≤ h0.size) (A : Arv Z h0 o kc .byte (0 : Int32) [] (.int (0 : Int32))) (hr : r = h0.size) :
    MetFree l (⟨"com/example/seshat/seshat/bundles/Spill", "line", "([B)[B"⟩ : MethodName) (head1 (Jvm.Cond.code (⟨"com/example/seshat/seshat/bundles/Spill", "line", "([B)[B"⟩ : MethodName) prog_3_method_3_code 2 (some (.array .byte)) :: ws) own_RN0) (fun a U => a = #[(.ref o)] ∧ Z.Warmed39 U.vm ∧ U.heap = h0) (fun _ _ _ _ _ => True) (fun _ U oc_ U' => ∃ v_ L_, oc_ = .returned v_ ∧ own_QN0 Z o kc r h0 n0 v_ U'.heap L_ ∧ FrameEnd U oc_ U' L_ own_RN0.cells own_RN0.slots) := by
  refine MetFree.of_bodySF (plainFor_of_name own_pn_com_example_seshat_seshat_bundles_Spill) hisR ?_
  intro p e s m args below meth c s₁ Bd hml0 hP hK
  obtain ⟨rfl, hZ, hh⟩ := hP
  have hx := Bd.exec
  have hby := Bd.bytes
  have hml : c.maxLocals = 2 := hml0
  have hown : s.vm.findClass "com/example/seshat/seshat/bundles/Spill" = some m.cls := findClass_of_methodNamed Bd.named
  have hnm := (name_of_methodNamed Bd.named Bd.method).1
  have X0 : Stand p l e own_RN0 s m #[(.ref o)] below meth c s₁ [] 0 0 := Stand.of_body Bd
  have e0 : s₁.heap = h0 := by rw [← hh, Bd.state]; rfl
  have N0 := Fr.nil n0
  refine own_in (fun _ k => castTop (own_efN0 m o) k) ?_
  intro RR hRR
  show own_Go p.tables e below RR (s₁.setTop (mkF m 0 #[.val (.ref o), .unset] []))
  refine own_st (fun _ k => XS.aloadN X0.here hx rfl (hb hby own_dprog_3_method_3_code_0) rfl rfl k) ?_
  show own_Go p.tables e below RR (s₁.setTop (mkF m 1 #[.val (.ref o), .unset] [(.ref o)]))
  obtain ⟨c1, A1, -, s1, m1, -, -⟩ := id A
  refine own_st (fun _ k => own_len X0 hx hZ e0 A1 s1 m1 (g := (mkF m 1 #[.val (.ref o), .unset] [(.ref o)])) rfl rfl (hb hby own_dprog_3_method_3_code_1) (XS.iconst X0.here hx rfl (hb hby own_dprog_3_method_3_code_2) (XS.iadd X0.here hx rfl (hb hby own_dprog_3_method_3_code_3) rfl k))) ?_
  show own_Go p.tables e below RR (s₁.setTop (mkF m 4 #[.val (.ref o), .unset] [(.int (1 : Int32))]))
  obtain ⟨T2, h2, k2, X2, e2, E2, A2, st2⟩ := newP X0 hx hZ (hw _ (List.mem_of_getElem? (i := 0) rfl)) e0 (g := (mkF m 4 #[.val (.ref o), .unset] [(.int (1 : Int32))])) rfl (hb hby own_dprog_3_method_3_code_4) rfl (by decide) (cap := 1) (by decide) (by decide) (by decide) (by decide)
  obtain ⟨b2, gb2⟩ : ∃ z, z = h0.size := ⟨_, rfl⟩
  rw [← gb2] at A2 st2
  have ge2 : n0 ≤ b2 := Nat.le_trans Z0 (Nat.le_of_eq gb2.symm)
  have sz2 : h0.size ≤ b2 := Nat.le_trans (Keep.refl h0 []).1 (Nat.le_of_eq gb2.symm)
  refine own_st st2 ?_
  have z3 : n0 ≤ h2.size := Nat.le_trans Z0 E2.1
  have kk4 : Keep h0 h2 [] := (Keep.refl h0 []).ext E2
  have V2 : Arv Z h2 b2 k2 .byte (1 : Int32) [(.int (0 : Int32))] (.int (0 : Int32)) := (Arv.new A2 (by decide)).pad (pad_rep [] (.int (0 : Int32)) 1)
  show own_Go p.tables e below RR (T2.setTop (mkF m 6 #[.val (.ref o), .unset] [(.ref b2)]))
  refine own_st (fun _ k => XS.astoreN X2.here hx rfl (hb hby own_dprog_3_method_3_code_6) rfl rfl (l' := #[.val (.ref o), .val (.ref b2)]) rfl (XS.aloadN X2.here hx rfl (hb hby own_dprog_3_method_3_code_7) rfl rfl (XS.iconst X2.here hx rfl (hb hby own_dprog_3_method_3_code_8) (XS.aloadN X2.here hx rfl (hb hby own_dprog_3_method_3_code_9) rfl rfl (XS.iconst X2.here hx rfl (hb hby own_dprog_3_method_3_code_10) (XS.aloadN X2.here hx rfl (hb hby own_dprog_3_method_3_code_11) rfl rfl k)))))) ?_
  show own_Go p.tables e below RR (T2.setTop (mkF m 12 #[.val (.ref o), .val (.ref b2)] [(.ref o), (.int (0 : Int32)), (.ref b2), (.int (0 : Int32)), (.ref o)]))
  have f5 := (A.ext E2)
  obtain ⟨c6, A6, -, s6, m6, -, -⟩ := id f5
  refine own_st (fun _ k => own_len X2 hx hZ e2 A6 s6 m6 (g := (mkF m 12 #[.val (.ref o), .val (.ref b2)] [(.ref o), (.int (0 : Int32)), (.ref b2), (.int (0 : Int32)), (.ref o)])) rfl rfl (hb hby own_dprog_3_method_3_code_12) k) ?_
  show own_Go p.tables e below RR (T2.setTop (mkF m 13 #[.val (.ref o), .val (.ref b2)] [(.int (0 : Int32)), (.int (0 : Int32)), (.ref b2), (.int (0 : Int32)), (.ref o)]))
  obtain ⟨T7, h7, L7, X7, e7, N7, K7, V7, st7⟩ := cpA X2 hx hZ hown (hw _ (List.mem_of_getElem? (i := 5) rfl)) (hw _ (List.mem_of_getElem? (i := 8) rfl)) (hw _ (List.mem_of_getElem? (i := 6) rfl)) (hw _ (List.mem_of_getElem? (i := 7) rfl)) e2 f5 V2 (us := []) (Or.inl ⟨rfl, rfl⟩) (by decide) (by decide) (by decide) (by decide) (by decide) rfl (by decide) N0 ge2 (g := (mkF m 13 #[.val (.ref o), .val (.ref b2)] [(.int (0 : Int32)), (.int (0 : Int32)), (.ref b2), (.int (0 : Int32)), (.ref o)])) rfl (by rw [hml]; rfl) rfl (hb hby own_dprog_3_method_3_code_13) (by decide) (W := 0) (by show 2 * 0 + _ ≤ _; exact Nat.le_of_eq rfl) (by decide)
  have V7 : Arv Z h7 b2 k2 .byte (1 : Int32) [(.int (0 : Int32))] (.int (0 : Int32)) := V7
  refine own_st st7 ?_
  have z8 : n0 ≤ h7.size := Nat.le_trans z3 K7.1
  have kk9 : Keep h0 h7 [] := kk4.trans K7 (allS (Or.inr sz2) all0)
  show own_Go p.tables e below RR (T7.setTop (mkF m 16 #[.val (.ref o), .val (.ref b2)] []))
  refine own_st (fun _ k => XS.aloadN X7.here hx rfl (hb hby own_dprog_3_method_3_code_16) rfl rfl (XS.aloadN X7.here hx rfl (hb hby own_dprog_3_method_3_code_17) rfl rfl k)) ?_
  show own_Go p.tables e below RR (T7.setTop (mkF m 18 #[.val (.ref o), .val (.ref b2)] [(.ref o), (.ref b2)]))
  have ne10 : o ≠ b2 := (Nat.ne_of_lt (Nat.lt_of_lt_of_le A.lt (Nat.le_of_eq gb2.symm)))
  have f11 := (f5.keep K7 (ninS ne10 nin0))
  obtain ⟨c12, A12, -, s12, m12, -, -⟩ := id f11
  refine own_st (fun _ k => own_len X7 hx hZ e7 A12 s12 m12 (g := (mkF m 18 #[.val (.ref o), .val (.ref b2)] [(.ref o), (.ref b2)])) rfl rfl (hb hby own_dprog_3_method_3_code_18) (XS.bipush X7.here hx rfl (hb hby own_dprog_3_method_3_code_19) k)) ?_
  show own_Go p.tables e below RR (T7.setTop (mkF m 21 #[.val (.ref o), .val (.ref b2)] [(.int (10 : Int32)), (.int (0 : Int32)), (.ref b2)]))
  obtain ⟨c13, A13, q13, s13, m13, H13, G13⟩ := id V7
  obtain ⟨T14, h14, X14, e14, W14, st14⟩ := stB X7 hx hZ e7 A13 (j := (0 : Int32)) (inb_of s13 ⟨by decide, by decide⟩) (g := (mkF m 21 #[.val (.ref o), .val (.ref b2)] [(.int (10 : Int32)), (.int (0 : Int32)), (.ref b2)])) rfl rfl (hb hby own_dprog_3_method_3_code_21)
  have V14 := Arv.set A13 q13 s13 m13 H13 G13 (fits_nar_byte _) W14 0 rfl (Nat.le_of_ble_eq_true rfl)
  have V14 : Arv Z h14 b2 k2 .byte (1 : Int32) [(.int (10 : Int32))] (.int (0 : Int32)) := V14
  have N14 := Fr.snoc X14 N7 ge2
  refine own_st st14 ?_
  have z15 : n0 ≤ h14.size := Nat.le_trans z8 (Keep.of_wr W14).1
  have kk16 : Keep h0 h14 [] := kk9.wr W14 (Or.inr sz2)
  show own_Go p.tables e below RR (T14.setTop (mkF m 22 #[.val (.ref o), .val (.ref b2)] []))
  refine own_st (fun _ k => XS.aloadN X14.here hx rfl (hb hby own_dprog_3_method_3_code_22) rfl rfl k) ?_
  show own_Go p.tables e below RR (T14.setTop (mkF m 23 #[.val (.ref o), .val (.ref b2)] [(.ref b2)]))
  obtain ⟨fs, hrt_, hrun, hended, hW, hsame⟩ := X14.leave (v := some (.ref b2)) (fun h => by rw [Bd.returns] at h; cases h)
  refine own_fin (retOut X14 hx Bd.returns rfl (Or.inr (Or.inr (Or.inr (Or.inr ⟨rfl, rfl, rfl⟩)))) (hb hby own_dprog_3_method_3_code_23) hrt_) (hRR _ ⟨_, hrun, hended, _, _, rfl, ?_, ⟨_, rfl⟩, hW, hsame.mono (by decide) (by decide)⟩)
  show own_QN0 Z o kc r h0 n0 _ T14.heap _
  rw [e14]
  obtain rfl : b2 = r := gb2.trans hr.symm
  exact ⟨rfl, N14, kk16, _, V14⟩
theorem own_efN1 (m : MethodId) (o : Addr) : entryFrame m #[(.ref o)] 2 = mkF m 0 #[.val (.ref o), .unset] [] := by first | (simp [entryFrame, mkF, argsToLocals, Value.category]; done) | rfl
def own_QN1 (Z : State) (o : Addr) (kc : ClassId) (x0 : Int32) (r : Addr) (h0 : Heap) (n0 : Nat) (v_ : Option Value) (h : Heap) (L_ : List Loc) : Prop := v_ = some (.ref r) ∧ Fr n0 L_ ∧ Keep h0 h [] ∧ ∃ k' : ClassId, Arv Z h r k' .byte (2 : Int32) [(.int x0), (.int (10 : Int32))] (.int (0 : Int32))
abbrev own_RN1 : Room := { frames := 1, cells := 1, slots := 2, locals := 18 }
set_option maxRecDepth 65536 in
set_option maxHeartbeats 40000000 in
theorem own_rmN1 (l : Launch) (Z : State) (a0 : Array Value) (hw : ∀ d ∈ tables_1, d.before a0 Z = true) (ws : List Jvm.Cond) (o : Addr) (kc : ClassId) (x0 : Int32) (r : Addr) (h0 : Heap) (n0 : Nat) (Z0 : n0 ≤ h0.size) (A : Arv Z h0 o kc .byte (1 : Int32) [(.int x0)] (.int (0 : Int32))) (hr : r = h0.size) :
    MetFree l (⟨"com/example/seshat/seshat/bundles/Spill", "line", "([B)[B"⟩ : MethodName) (head1 (Jvm.Cond.code (⟨"com/example/seshat/seshat/bundles/Spill", "line", "([B)[B"⟩ : MethodName) prog_3_method_3_code 2 (some (.array .byte)) :: ws) own_RN1) (fun a U => a = #[(.ref o)] ∧ Z.Warmed39 U.vm ∧ U.heap = h0) (fun _ _ _ _ _ => True) (fun _ U oc_ U' => ∃ v_ L_, oc_ = .returned v_ ∧ own_QN1 Z o kc x0 r h0 n0 v_ U'.heap L_ ∧ FrameEnd U oc_ U' L_ own_RN1.cells own_RN1.slots) := by
  refine MetFree.of_bodySF (plainFor_of_name own_pn_com_example_seshat_seshat_bundles_Spill) hisR ?_
  intro p e s m args below meth c s₁ Bd hml0 hP hK
  obtain ⟨rfl, hZ, hh⟩ := hP
  have hx := Bd.exec
  have hby := Bd.bytes
  have hml : c.maxLocals = 2 := hml0
  have hown : s.vm.findClass "com/example/seshat/seshat/bundles/Spill" = some m.cls := findClass_of_methodNamed Bd.named
  have hnm := (name_of_methodNamed Bd.named Bd.method).1
  have X0 : Stand p l e own_RN1 s m #[(.ref o)] below meth c s₁ [] 0 0 := Stand.of_body Bd
  have e0 : s₁.heap = h0 := by rw [← hh, Bd.state]; rfl
  have N0 := Fr.nil n0
  refine own_in (fun _ k => castTop (own_efN1 m o) k) ?_
  intro RR hRR
  show own_Go p.tables e below RR (s₁.setTop (mkF m 0 #[.val (.ref o), .unset] []))
  refine own_st (fun _ k => XS.aloadN X0.here hx rfl (hb hby own_dprog_3_method_3_code_0) rfl rfl k) ?_
  show own_Go p.tables e below RR (s₁.setTop (mkF m 1 #[.val (.ref o), .unset] [(.ref o)]))
  obtain ⟨c1, A1, -, s1, m1, -, -⟩ := id A
  refine own_st (fun _ k => own_len X0 hx hZ e0 A1 s1 m1 (g := (mkF m 1 #[.val (.ref o), .unset] [(.ref o)])) rfl rfl (hb hby own_dprog_3_method_3_code_1) (XS.iconst X0.here hx rfl (hb hby own_dprog_3_method_3_code_2) (XS.iadd X0.here hx rfl (hb hby own_dprog_3_method_3_code_3) rfl k))) ?_
  show own_Go p.tables e below RR (s₁.setTop (mkF m 4 #[.val (.ref o), .unset] [(.int (2 : Int32))]))
  obtain ⟨T2, h2, k2, X2, e2, E2, A2, st2⟩ := newP X0 hx hZ (hw _ (List.mem_of_getElem? (i := 0) rfl)) e0 (g := (mkF m 4 #[.val (.ref o), .unset] [(.int (2 : Int32))])) rfl (hb hby own_dprog_3_method_3_code_4) rfl (by decide) (cap := 2) (by decide) (by decide) (by decide) (by decide)
  obtain ⟨b2, gb2⟩ : ∃ z, z = h0.size := ⟨_, rfl⟩
  rw [← gb2] at A2 st2
  have ge2 : n0 ≤ b2 := Nat.le_trans Z0 (Nat.le_of_eq gb2.symm)
  have sz2 : h0.size ≤ b2 := Nat.le_trans (Keep.refl h0 []).1 (Nat.le_of_eq gb2.symm)
  refine own_st st2 ?_
  have z3 : n0 ≤ h2.size := Nat.le_trans Z0 E2.1
  have kk4 : Keep h0 h2 [] := (Keep.refl h0 []).ext E2
  have V2 : Arv Z h2 b2 k2 .byte (2 : Int32) [(.int (0 : Int32)), (.int (0 : Int32))] (.int (0 : Int32)) := (Arv.new A2 (by decide)).pad (pad_rep [] (.int (0 : Int32)) 2)
  show own_Go p.tables e below RR (T2.setTop (mkF m 6 #[.val (.ref o), .unset] [(.ref b2)]))
  refine own_st (fun _ k => XS.astoreN X2.here hx rfl (hb hby own_dprog_3_method_3_code_6) rfl rfl (l' := #[.val (.ref o), .val (.ref b2)]) rfl (XS.aloadN X2.here hx rfl (hb hby own_dprog_3_method_3_code_7) rfl rfl (XS.iconst X2.here hx rfl (hb hby own_dprog_3_method_3_code_8) (XS.aloadN X2.here hx rfl (hb hby own_dprog_3_method_3_code_9) rfl rfl (XS.iconst X2.here hx rfl (hb hby own_dprog_3_method_3_code_10) (XS.aloadN X2.here hx rfl (hb hby own_dprog_3_method_3_code_11) rfl rfl k)))))) ?_
  show own_Go p.tables e below RR (T2.setTop (mkF m 12 #[.val (.ref o), .val (.ref b2)] [(.ref o), (.int (0 : Int32)), (.ref b2), (.int (0 : Int32)), (.ref o)]))
  have f5 := (A.ext E2)
  obtain ⟨c6, A6, -, s6, m6, -, -⟩ := id f5
  refine own_st (fun _ k => own_len X2 hx hZ e2 A6 s6 m6 (g := (mkF m 12 #[.val (.ref o), .val (.ref b2)] [(.ref o), (.int (0 : Int32)), (.ref b2), (.int (0 : Int32)), (.ref o)])) rfl rfl (hb hby own_dprog_3_method_3_code_12) k) ?_
  show own_Go p.tables e below RR (T2.setTop (mkF m 13 #[.val (.ref o), .val (.ref b2)] [(.int (1 : Int32)), (.int (0 : Int32)), (.ref b2), (.int (0 : Int32)), (.ref o)]))
  obtain ⟨T7, h7, L7, X7, e7, N7, K7, V7, st7⟩ := cpA X2 hx hZ hown (hw _ (List.mem_of_getElem? (i := 5) rfl)) (hw _ (List.mem_of_getElem? (i := 8) rfl)) (hw _ (List.mem_of_getElem? (i := 6) rfl)) (hw _ (List.mem_of_getElem? (i := 7) rfl)) e2 f5 V2 (us := [(.int x0)]) (Or.inl ⟨rfl, rfl⟩) (by decide) (by decide) (by decide) (by decide) (by decide) rfl (by decide) N0 ge2 (g := (mkF m 13 #[.val (.ref o), .val (.ref b2)] [(.int (1 : Int32)), (.int (0 : Int32)), (.ref b2), (.int (0 : Int32)), (.ref o)])) rfl (by rw [hml]; rfl) rfl (hb hby own_dprog_3_method_3_code_13) (by decide) (W := 0) (by show 2 * 0 + _ ≤ _; exact Nat.le_of_eq rfl) (by decide)
  have V7 : Arv Z h7 b2 k2 .byte (2 : Int32) [(.int x0), (.int (0 : Int32))] (.int (0 : Int32)) := V7
  refine own_st st7 ?_
  have z8 : n0 ≤ h7.size := Nat.le_trans z3 K7.1
  have kk9 : Keep h0 h7 [] := kk4.trans K7 (allS (Or.inr sz2) all0)
  show own_Go p.tables e below RR (T7.setTop (mkF m 16 #[.val (.ref o), .val (.ref b2)] []))
  refine own_st (fun _ k => XS.aloadN X7.here hx rfl (hb hby own_dprog_3_method_3_code_16) rfl rfl (XS.aloadN X7.here hx rfl (hb hby own_dprog_3_method_3_code_17) rfl rfl k)) ?_
  show own_Go p.tables e below RR (T7.setTop (mkF m 18 #[.val (.ref o), .val (.ref b2)] [(.ref o), (.ref b2)]))
  have ne10 : o ≠ b2 := (Nat.ne_of_lt (Nat.lt_of_lt_of_le A.lt (Nat.le_of_eq gb2.symm)))
  have f11 := (f5.keep K7 (ninS ne10 nin0))
  obtain ⟨c12, A12, -, s12, m12, -, -⟩ := id f11
  refine own_st (fun _ k => own_len X7 hx hZ e7 A12 s12 m12 (g := (mkF m 18 #[.val (.ref o), .val (.ref b2)] [(.ref o), (.ref b2)])) rfl rfl (hb hby own_dprog_3_method_3_code_18) (XS.bipush X7.here hx rfl (hb hby own_dprog_3_method_3_code_19) k)) ?_
  show own_Go p.tables e below RR (T7.setTop (mkF m 21 #[.val (.ref o), .val (.ref b2)] [(.int (10 : Int32)), (.int (1 : Int32)), (.ref b2)]))
  obtain ⟨c13, A13, q13, s13, m13, H13, G13⟩ := id V7
  obtain ⟨T14, h14, X14, e14, W14, st14⟩ := stB X7 hx hZ e7 A13 (j := (1 : Int32)) (inb_of s13 ⟨by decide, by decide⟩) (g := (mkF m 21 #[.val (.ref o), .val (.ref b2)] [(.int (10 : Int32)), (.int (1 : Int32)), (.ref b2)])) rfl rfl (hb hby own_dprog_3_method_3_code_21)
  have V14 := Arv.set A13 q13 s13 m13 H13 G13 (fits_nar_byte _) W14 1 rfl (Nat.le_of_ble_eq_true rfl)
  have V14 : Arv Z h14 b2 k2 .byte (2 : Int32) [(.int x0), (.int (10 : Int32))] (.int (0 : Int32)) := V14
  have N14 := Fr.snoc X14 N7 ge2
  refine own_st st14 ?_
  have z15 : n0 ≤ h14.size := Nat.le_trans z8 (Keep.of_wr W14).1
  have kk16 : Keep h0 h14 [] := kk9.wr W14 (Or.inr sz2)
  show own_Go p.tables e below RR (T14.setTop (mkF m 22 #[.val (.ref o), .val (.ref b2)] []))
  refine own_st (fun _ k => XS.aloadN X14.here hx rfl (hb hby own_dprog_3_method_3_code_22) rfl rfl k) ?_
  show own_Go p.tables e below RR (T14.setTop (mkF m 23 #[.val (.ref o), .val (.ref b2)] [(.ref b2)]))
  obtain ⟨fs, hrt_, hrun, hended, hW, hsame⟩ := X14.leave (v := some (.ref b2)) (fun h => by rw [Bd.returns] at h; cases h)
  refine own_fin (retOut X14 hx Bd.returns rfl (Or.inr (Or.inr (Or.inr (Or.inr ⟨rfl, rfl, rfl⟩)))) (hb hby own_dprog_3_method_3_code_23) hrt_) (hRR _ ⟨_, hrun, hended, _, _, rfl, ?_, ⟨_, rfl⟩, hW, hsame.mono (by decide) (by decide)⟩)
  show own_QN1 Z o kc x0 r h0 n0 _ T14.heap _
  rw [e14]
  obtain rfl : b2 = r := gb2.trans hr.symm
  exact ⟨rfl, N14, kk16, _, V14⟩
theorem own_efN2 (m : MethodId) (o : Addr) : entryFrame m #[(.ref o)] 2 = mkF m 0 #[.val (.ref o), .unset] [] := by first | (simp [entryFrame, mkF, argsToLocals, Value.category]; done) | rfl
def own_QN2 (Z : State) (o : Addr) (kc : ClassId) (x0 : Int32) (x1 : Int32) (r : Addr) (h0 : Heap) (n0 : Nat) (v_ : Option Value) (h : Heap) (L_ : List Loc) : Prop := v_ = some (.ref r) ∧ Fr n0 L_ ∧ Keep h0 h [] ∧ ∃ k' : ClassId, Arv Z h r k' .byte (3 : Int32) [(.int x0), (.int x1), (.int (10 : Int32))] (.int (0 : Int32))
abbrev own_RN2 : Room := { frames := 1, cells := 1, slots := 3, locals := 18 }
set_option maxRecDepth 65536 in
set_option maxHeartbeats 40000000 in
theorem own_rmN2 (l : Launch) (Z : State) (a0 : Array Value) (hw : ∀ d ∈ tables_1, d.before a0 Z = true) (ws : List Jvm.Cond) (o : Addr) (kc : ClassId) (x0 : Int32) (x1 : Int32) (r : Addr) (h0 : Heap) (n0 : Nat) (Z0 : n0 ≤ h0.size) (A : Arv Z h0 o kc .byte (2 : Int32) [(.int x0), (.int x1)] (.int (0 : Int32))) (hr : r = h0.size) :
    MetFree l (⟨"com/example/seshat/seshat/bundles/Spill", "line", "([B)[B"⟩ : MethodName) (head1 (Jvm.Cond.code (⟨"com/example/seshat/seshat/bundles/Spill", "line", "([B)[B"⟩ : MethodName) prog_3_method_3_code 2 (some (.array .byte)) :: ws) own_RN2) (fun a U => a = #[(.ref o)] ∧ Z.Warmed39 U.vm ∧ U.heap = h0) (fun _ _ _ _ _ => True) (fun _ U oc_ U' => ∃ v_ L_, oc_ = .returned v_ ∧ own_QN2 Z o kc x0 x1 r h0 n0 v_ U'.heap L_ ∧ FrameEnd U oc_ U' L_ own_RN2.cells own_RN2.slots) := by
  refine MetFree.of_bodySF (plainFor_of_name own_pn_com_example_seshat_seshat_bundles_Spill) hisR ?_
  intro p e s m args below meth c s₁ Bd hml0 hP hK
  obtain ⟨rfl, hZ, hh⟩ := hP
  have hx := Bd.exec
  have hby := Bd.bytes
  have hml : c.maxLocals = 2 := hml0
  have hown : s.vm.findClass "com/example/seshat/seshat/bundles/Spill" = some m.cls := findClass_of_methodNamed Bd.named
  have hnm := (name_of_methodNamed Bd.named Bd.method).1
  have X0 : Stand p l e own_RN2 s m #[(.ref o)] below meth c s₁ [] 0 0 := Stand.of_body Bd
  have e0 : s₁.heap = h0 := by rw [← hh, Bd.state]; rfl
  have N0 := Fr.nil n0
  refine own_in (fun _ k => castTop (own_efN2 m o) k) ?_
  intro RR hRR
  show own_Go p.tables e below RR (s₁.setTop (mkF m 0 #[.val (.ref o), .unset] []))
  refine own_st (fun _ k => XS.aloadN X0.here hx rfl (hb hby own_dprog_3_method_3_code_0) rfl rfl k) ?_
  show own_Go p.tables e below RR (s₁.setTop (mkF m 1 #[.val (.ref o), .unset] [(.ref o)]))
  obtain ⟨c1, A1, -, s1, m1, -, -⟩ := id A
  refine own_st (fun _ k => own_len X0 hx hZ e0 A1 s1 m1 (g := (mkF m 1 #[.val (.ref o), .unset] [(.ref o)])) rfl rfl (hb hby own_dprog_3_method_3_code_1) (XS.iconst X0.here hx rfl (hb hby own_dprog_3_method_3_code_2) (XS.iadd X0.here hx rfl (hb hby own_dprog_3_method_3_code_3) rfl k))) ?_
  show own_Go p.tables e below RR (s₁.setTop (mkF m 4 #[.val (.ref o), .unset] [(.int (3 : Int32))]))
  obtain ⟨T2, h2, k2, X2, e2, E2, A2, st2⟩ := newP X0 hx hZ (hw _ (List.mem_of_getElem? (i := 0) rfl)) e0 (g := (mkF m 4 #[.val (.ref o), .unset] [(.int (3 : Int32))])) rfl (hb hby own_dprog_3_method_3_code_4) rfl (by decide) (cap := 3) (by decide) (by decide) (by decide) (by decide)
  obtain ⟨b2, gb2⟩ : ∃ z, z = h0.size := ⟨_, rfl⟩
  rw [← gb2] at A2 st2
  have ge2 : n0 ≤ b2 := Nat.le_trans Z0 (Nat.le_of_eq gb2.symm)
  have sz2 : h0.size ≤ b2 := Nat.le_trans (Keep.refl h0 []).1 (Nat.le_of_eq gb2.symm)
  refine own_st st2 ?_
  have z3 : n0 ≤ h2.size := Nat.le_trans Z0 E2.1
  have kk4 : Keep h0 h2 [] := (Keep.refl h0 []).ext E2
  have V2 : Arv Z h2 b2 k2 .byte (3 : Int32) [(.int (0 : Int32)), (.int (0 : Int32)), (.int (0 : Int32))] (.int (0 : Int32)) := (Arv.new A2 (by decide)).pad (pad_rep [] (.int (0 : Int32)) 3)
  show own_Go p.tables e below RR (T2.setTop (mkF m 6 #[.val (.ref o), .unset] [(.ref b2)]))
  refine own_st (fun _ k => XS.astoreN X2.here hx rfl (hb hby own_dprog_3_method_3_code_6) rfl rfl (l' := #[.val (.ref o), .val (.ref b2)]) rfl (XS.aloadN X2.here hx rfl (hb hby own_dprog_3_method_3_code_7) rfl rfl (XS.iconst X2.here hx rfl (hb hby own_dprog_3_method_3_code_8) (XS.aloadN X2.here hx rfl (hb hby own_dprog_3_method_3_code_9) rfl rfl (XS.iconst X2.here hx rfl (hb hby own_dprog_3_method_3_code_10) (XS.aloadN X2.here hx rfl (hb hby own_dprog_3_method_3_code_11) rfl rfl k)))))) ?_
  show own_Go p.tables e below RR (T2.setTop (mkF m 12 #[.val (.ref o), .val (.ref b2)] [(.ref o), (.int (0 : Int32)), (.ref b2), (.int (0 : Int32)), (.ref o)]))
  have f5 := (A.ext E2)
  obtain ⟨c6, A6, -, s6, m6, -, -⟩ := id f5
  refine own_st (fun _ k => own_len X2 hx hZ e2 A6 s6 m6 (g := (mkF m 12 #[.val (.ref o), .val (.ref b2)] [(.ref o), (.int (0 : Int32)), (.ref b2), (.int (0 : Int32)), (.ref o)])) rfl rfl (hb hby own_dprog_3_method_3_code_12) k) ?_
  show own_Go p.tables e below RR (T2.setTop (mkF m 13 #[.val (.ref o), .val (.ref b2)] [(.int (2 : Int32)), (.int (0 : Int32)), (.ref b2), (.int (0 : Int32)), (.ref o)]))
  obtain ⟨T7, h7, L7, X7, e7, N7, K7, V7, st7⟩ := cpA X2 hx hZ hown (hw _ (List.mem_of_getElem? (i := 5) rfl)) (hw _ (List.mem_of_getElem? (i := 8) rfl)) (hw _ (List.mem_of_getElem? (i := 6) rfl)) (hw _ (List.mem_of_getElem? (i := 7) rfl)) e2 f5 V2 (us := [(.int x0), (.int x1)]) (Or.inl ⟨rfl, rfl⟩) (by decide) (by decide) (by decide) (by decide) (by decide) rfl (by decide) N0 ge2 (g := (mkF m 13 #[.val (.ref o), .val (.ref b2)] [(.int (2 : Int32)), (.int (0 : Int32)), (.ref b2), (.int (0 : Int32)), (.ref o)])) rfl (by rw [hml]; rfl) rfl (hb hby own_dprog_3_method_3_code_13) (by decide) (W := 0) (by show 2 * 0 + _ ≤ _; exact Nat.le_of_eq rfl) (by decide)
  have V7 : Arv Z h7 b2 k2 .byte (3 : Int32) [(.int x0), (.int x1), (.int (0 : Int32))] (.int (0 : Int32)) := V7
  refine own_st st7 ?_
  have z8 : n0 ≤ h7.size := Nat.le_trans z3 K7.1
  have kk9 : Keep h0 h7 [] := kk4.trans K7 (allS (Or.inr sz2) all0)
  show own_Go p.tables e below RR (T7.setTop (mkF m 16 #[.val (.ref o), .val (.ref b2)] []))
  refine own_st (fun _ k => XS.aloadN X7.here hx rfl (hb hby own_dprog_3_method_3_code_16) rfl rfl (XS.aloadN X7.here hx rfl (hb hby own_dprog_3_method_3_code_17) rfl rfl k)) ?_
  show own_Go p.tables e below RR (T7.setTop (mkF m 18 #[.val (.ref o), .val (.ref b2)] [(.ref o), (.ref b2)]))
  have ne10 : o ≠ b2 := (Nat.ne_of_lt (Nat.lt_of_lt_of_le A.lt (Nat.le_of_eq gb2.symm)))
  have f11 := (f5.keep K7 (ninS ne10 nin0))
  obtain ⟨c12, A12, -, s12, m12, -, -⟩ := id f11
  refine own_st (fun _ k => own_len X7 hx hZ e7 A12 s12 m12 (g := (mkF m 18 #[.val (.ref o), .val (.ref b2)] [(.ref o), (.ref b2)])) rfl rfl (hb hby own_dprog_3_method_3_code_18) (XS.bipush X7.here hx rfl (hb hby own_dprog_3_method_3_code_19) k)) ?_
  show own_Go p.tables e below RR (T7.setTop (mkF m 21 #[.val (.ref o), .val (.ref b2)] [(.int (10 : Int32)), (.int (2 : Int32)), (.ref b2)]))
  obtain ⟨c13, A13, q13, s13, m13, H13, G13⟩ := id V7
  obtain ⟨T14, h14, X14, e14, W14, st14⟩ := stB X7 hx hZ e7 A13 (j := (2 : Int32)) (inb_of s13 ⟨by decide, by decide⟩) (g := (mkF m 21 #[.val (.ref o), .val (.ref b2)] [(.int (10 : Int32)), (.int (2 : Int32)), (.ref b2)])) rfl rfl (hb hby own_dprog_3_method_3_code_21)
  have V14 := Arv.set A13 q13 s13 m13 H13 G13 (fits_nar_byte _) W14 2 rfl (Nat.le_of_ble_eq_true rfl)
  have V14 : Arv Z h14 b2 k2 .byte (3 : Int32) [(.int x0), (.int x1), (.int (10 : Int32))] (.int (0 : Int32)) := V14
  have N14 := Fr.snoc X14 N7 ge2
  refine own_st st14 ?_
  have z15 : n0 ≤ h14.size := Nat.le_trans z8 (Keep.of_wr W14).1
  have kk16 : Keep h0 h14 [] := kk9.wr W14 (Or.inr sz2)
  show own_Go p.tables e below RR (T14.setTop (mkF m 22 #[.val (.ref o), .val (.ref b2)] []))
  refine own_st (fun _ k => XS.aloadN X14.here hx rfl (hb hby own_dprog_3_method_3_code_22) rfl rfl k) ?_
  show own_Go p.tables e below RR (T14.setTop (mkF m 23 #[.val (.ref o), .val (.ref b2)] [(.ref b2)]))
  obtain ⟨fs, hrt_, hrun, hended, hW, hsame⟩ := X14.leave (v := some (.ref b2)) (fun h => by rw [Bd.returns] at h; cases h)
  refine own_fin (retOut X14 hx Bd.returns rfl (Or.inr (Or.inr (Or.inr (Or.inr ⟨rfl, rfl, rfl⟩)))) (hb hby own_dprog_3_method_3_code_23) hrt_) (hRR _ ⟨_, hrun, hended, _, _, rfl, ?_, ⟨_, rfl⟩, hW, hsame.mono (by decide) (by decide)⟩)
  show own_QN2 Z o kc x0 x1 r h0 n0 _ T14.heap _
  rw [e14]
  obtain rfl : b2 = r := gb2.trans hr.symm
  exact ⟨rfl, N14, kk16, _, V14⟩
theorem own_efN3 (m : MethodId) (o : Addr) : entryFrame m #[(.ref o)] 2 = mkF m 0 #[.val (.ref o), .unset] [] := by first | (simp [entryFrame, mkF, argsToLocals, Value.category]; done) | rfl
def own_QN3 (Z : State) (o : Addr) (kc : ClassId) (x0 : Int32) (x1 : Int32) (x2 : Int32) (r : Addr) (h0 : Heap) (n0 : Nat) (v_ : Option Value) (h : Heap) (L_ : List Loc) : Prop := v_ = some (.ref r) ∧ Fr n0 L_ ∧ Keep h0 h [] ∧ ∃ k' : ClassId, Arv Z h r k' .byte (4 : Int32) [(.int x0), (.int x1), (.int x2), (.int (10 : Int32))] (.int (0 : Int32))
abbrev own_RN3 : Room := { frames := 1, cells := 1, slots := 4, locals := 18 }
set_option maxRecDepth 65536 in
set_option maxHeartbeats 40000000 in
theorem own_rmN3 (l : Launch) (Z : State) (a0 : Array Value) (hw : ∀ d ∈ tables_1, d.before a0 Z = true) (ws : List Jvm.Cond) (o : Addr) (kc : ClassId) (x0 : Int32) (x1 : Int32) (x2 : Int32) (r : Addr) (h0 : Heap) (n0 : Nat) (Z0 : n0 ≤ h0.size) (A : Arv Z h0 o kc .byte (3 : Int32) [(.int x0), (.int x1), (.int x2)] (.int (0 : Int32))) (hr : r = h0.size) :
    MetFree l (⟨"com/example/seshat/seshat/bundles/Spill", "line", "([B)[B"⟩ : MethodName) (head1 (Jvm.Cond.code (⟨"com/example/seshat/seshat/bundles/Spill", "line", "([B)[B"⟩ : MethodName) prog_3_method_3_code 2 (some (.array .byte)) :: ws) own_RN3) (fun a U => a = #[(.ref o)] ∧ Z.Warmed39 U.vm ∧ U.heap = h0) (fun _ _ _ _ _ => True) (fun _ U oc_ U' => ∃ v_ L_, oc_ = .returned v_ ∧ own_QN3 Z o kc x0 x1 x2 r h0 n0 v_ U'.heap L_ ∧ FrameEnd U oc_ U' L_ own_RN3.cells own_RN3.slots) := by
  refine MetFree.of_bodySF (plainFor_of_name own_pn_com_example_seshat_seshat_bundles_Spill) hisR ?_
  intro p e s m args below meth c s₁ Bd hml0 hP hK
  obtain ⟨rfl, hZ, hh⟩ := hP
  have hx := Bd.exec
  have hby := Bd.bytes
  have hml : c.maxLocals = 2 := hml0
  have hown : s.vm.findClass "com/example/seshat/seshat/bundles/Spill" = some m.cls := findClass_of_methodNamed Bd.named
  have hnm := (name_of_methodNamed Bd.named Bd.method).1
  have X0 : Stand p l e own_RN3 s m #[(.ref o)] below meth c s₁ [] 0 0 := Stand.of_body Bd
  have e0 : s₁.heap = h0 := by rw [← hh, Bd.state]; rfl
  have N0 := Fr.nil n0
  refine own_in (fun _ k => castTop (own_efN3 m o) k) ?_
  intro RR hRR
  show own_Go p.tables e below RR (s₁.setTop (mkF m 0 #[.val (.ref o), .unset] []))
  refine own_st (fun _ k => XS.aloadN X0.here hx rfl (hb hby own_dprog_3_method_3_code_0) rfl rfl k) ?_
  show own_Go p.tables e below RR (s₁.setTop (mkF m 1 #[.val (.ref o), .unset] [(.ref o)]))
  obtain ⟨c1, A1, -, s1, m1, -, -⟩ := id A
  refine own_st (fun _ k => own_len X0 hx hZ e0 A1 s1 m1 (g := (mkF m 1 #[.val (.ref o), .unset] [(.ref o)])) rfl rfl (hb hby own_dprog_3_method_3_code_1) (XS.iconst X0.here hx rfl (hb hby own_dprog_3_method_3_code_2) (XS.iadd X0.here hx rfl (hb hby own_dprog_3_method_3_code_3) rfl k))) ?_
  show own_Go p.tables e below RR (s₁.setTop (mkF m 4 #[.val (.ref o), .unset] [(.int (4 : Int32))]))
  obtain ⟨T2, h2, k2, X2, e2, E2, A2, st2⟩ := newP X0 hx hZ (hw _ (List.mem_of_getElem? (i := 0) rfl)) e0 (g := (mkF m 4 #[.val (.ref o), .unset] [(.int (4 : Int32))])) rfl (hb hby own_dprog_3_method_3_code_4) rfl (by decide) (cap := 4) (by decide) (by decide) (by decide) (by decide)
  obtain ⟨b2, gb2⟩ : ∃ z, z = h0.size := ⟨_, rfl⟩
  rw [← gb2] at A2 st2
  have ge2 : n0 ≤ b2 := Nat.le_trans Z0 (Nat.le_of_eq gb2.symm)
  have sz2 : h0.size ≤ b2 := Nat.le_trans (Keep.refl h0 []).1 (Nat.le_of_eq gb2.symm)
  refine own_st st2 ?_
  have z3 : n0 ≤ h2.size := Nat.le_trans Z0 E2.1
  have kk4 : Keep h0 h2 [] := (Keep.refl h0 []).ext E2
  have V2 : Arv Z h2 b2 k2 .byte (4 : Int32) [(.int (0 : Int32)), (.int (0 : Int32)), (.int (0 : Int32)), (.int (0 : Int32))] (.int (0 : Int32)) := (Arv.new A2 (by decide)).pad (pad_rep [] (.int (0 : Int32)) 4)
  show own_Go p.tables e below RR (T2.setTop (mkF m 6 #[.val (.ref o), .unset] [(.ref b2)]))
  refine own_st (fun _ k => XS.astoreN X2.here hx rfl (hb hby own_dprog_3_method_3_code_6) rfl rfl (l' := #[.val (.ref o), .val (.ref b2)]) rfl (XS.aloadN X2.here hx rfl (hb hby own_dprog_3_method_3_code_7) rfl rfl (XS.iconst X2.here hx rfl (hb hby own_dprog_3_method_3_code_8) (XS.aloadN X2.here hx rfl (hb hby own_dprog_3_method_3_code_9) rfl rfl (XS.iconst X2.here hx rfl (hb hby own_dprog_3_method_3_code_10) (XS.aloadN X2.here hx rfl (hb hby own_dprog_3_method_3_code_11) rfl rfl k)))))) ?_
  show own_Go p.tables e below RR (T2.setTop (mkF m 12 #[.val (.ref o), .val (.ref b2)] [(.ref o), (.int (0 : Int32)), (.ref b2), (.int (0 : Int32)), (.ref o)]))
  have f5 := (A.ext E2)
  obtain ⟨c6, A6, -, s6, m6, -, -⟩ := id f5
  refine own_st (fun _ k => own_len X2 hx hZ e2 A6 s6 m6 (g := (mkF m 12 #[.val (.ref o), .val (.ref b2)] [(.ref o), (.int (0 : Int32)), (.ref b2), (.int (0 : Int32)), (.ref o)])) rfl rfl (hb hby own_dprog_3_method_3_code_12) k) ?_
  show own_Go p.tables e below RR (T2.setTop (mkF m 13 #[.val (.ref o), .val (.ref b2)] [(.int (3 : Int32)), (.int (0 : Int32)), (.ref b2), (.int (0 : Int32)), (.ref o)]))
  obtain ⟨T7, h7, L7, X7, e7, N7, K7, V7, st7⟩ := cpA X2 hx hZ hown (hw _ (List.mem_of_getElem? (i := 5) rfl)) (hw _ (List.mem_of_getElem? (i := 8) rfl)) (hw _ (List.mem_of_getElem? (i := 6) rfl)) (hw _ (List.mem_of_getElem? (i := 7) rfl)) e2 f5 V2 (us := [(.int x0), (.int x1), (.int x2)]) (Or.inl ⟨rfl, rfl⟩) (by decide) (by decide) (by decide) (by decide) (by decide) rfl (by decide) N0 ge2 (g := (mkF m 13 #[.val (.ref o), .val (.ref b2)] [(.int (3 : Int32)), (.int (0 : Int32)), (.ref b2), (.int (0 : Int32)), (.ref o)])) rfl (by rw [hml]; rfl) rfl (hb hby own_dprog_3_method_3_code_13) (by decide) (W := 0) (by show 2 * 0 + _ ≤ _; exact Nat.le_of_eq rfl) (by decide)
  have V7 : Arv Z h7 b2 k2 .byte (4 : Int32) [(.int x0), (.int x1), (.int x2), (.int (0 : Int32))] (.int (0 : Int32)) := V7
  refine own_st st7 ?_
  have z8 : n0 ≤ h7.size := Nat.le_trans z3 K7.1
  have kk9 : Keep h0 h7 [] := kk4.trans K7 (allS (Or.inr sz2) all0)
  show own_Go p.tables e below RR (T7.setTop (mkF m 16 #[.val (.ref o), .val (.ref b2)] []))
  refine own_st (fun _ k => XS.aloadN X7.here hx rfl (hb hby own_dprog_3_method_3_code_16) rfl rfl (XS.aloadN X7.here hx rfl (hb hby own_dprog_3_method_3_code_17) rfl rfl k)) ?_
  show own_Go p.tables e below RR (T7.setTop (mkF m 18 #[.val (.ref o), .val (.ref b2)] [(.ref o), (.ref b2)]))
  have ne10 : o ≠ b2 := (Nat.ne_of_lt (Nat.lt_of_lt_of_le A.lt (Nat.le_of_eq gb2.symm)))
  have f11 := (f5.keep K7 (ninS ne10 nin0))
  obtain ⟨c12, A12, -, s12, m12, -, -⟩ := id f11
  refine own_st (fun _ k => own_len X7 hx hZ e7 A12 s12 m12 (g := (mkF m 18 #[.val (.ref o), .val (.ref b2)] [(.ref o), (.ref b2)])) rfl rfl (hb hby own_dprog_3_method_3_code_18) (XS.bipush X7.here hx rfl (hb hby own_dprog_3_method_3_code_19) k)) ?_
  show own_Go p.tables e below RR (T7.setTop (mkF m 21 #[.val (.ref o), .val (.ref b2)] [(.int (10 : Int32)), (.int (3 : Int32)), (.ref b2)]))
  obtain ⟨c13, A13, q13, s13, m13, H13, G13⟩ := id V7
  obtain ⟨T14, h14, X14, e14, W14, st14⟩ := stB X7 hx hZ e7 A13 (j := (3 : Int32)) (inb_of s13 ⟨by decide, by decide⟩) (g := (mkF m 21 #[.val (.ref o), .val (.ref b2)] [(.int (10 : Int32)), (.int (3 : Int32)), (.ref b2)])) rfl rfl (hb hby own_dprog_3_method_3_code_21)
  have V14 := Arv.set A13 q13 s13 m13 H13 G13 (fits_nar_byte _) W14 3 rfl (Nat.le_of_ble_eq_true rfl)
  have V14 : Arv Z h14 b2 k2 .byte (4 : Int32) [(.int x0), (.int x1), (.int x2), (.int (10 : Int32))] (.int (0 : Int32)) := V14
  have N14 := Fr.snoc X14 N7 ge2
  refine own_st st14 ?_
  have z15 : n0 ≤ h14.size := Nat.le_trans z8 (Keep.of_wr W14).1
  have kk16 : Keep h0 h14 [] := kk9.wr W14 (Or.inr sz2)
  show own_Go p.tables e below RR (T14.setTop (mkF m 22 #[.val (.ref o), .val (.ref b2)] []))
  refine own_st (fun _ k => XS.aloadN X14.here hx rfl (hb hby own_dprog_3_method_3_code_22) rfl rfl k) ?_
  show own_Go p.tables e below RR (T14.setTop (mkF m 23 #[.val (.ref o), .val (.ref b2)] [(.ref b2)]))
  obtain ⟨fs, hrt_, hrun, hended, hW, hsame⟩ := X14.leave (v := some (.ref b2)) (fun h => by rw [Bd.returns] at h; cases h)
  refine own_fin (retOut X14 hx Bd.returns rfl (Or.inr (Or.inr (Or.inr (Or.inr ⟨rfl, rfl, rfl⟩)))) (hb hby own_dprog_3_method_3_code_23) hrt_) (hRR _ ⟨_, hrun, hended, _, _, rfl, ?_, ⟨_, rfl⟩, hW, hsame.mono (by decide) (by decide)⟩)
  show own_QN3 Z o kc x0 x1 x2 r h0 n0 _ T14.heap _
  rw [e14]
  obtain rfl : b2 = r := gb2.trans hr.symm
  exact ⟨rfl, N14, kk16, _, V14⟩
theorem own_pn_com_example_seshat_seshat_bundles_SpillLinePinLaw : plainName "com/example/seshat/seshat/bundles/SpillLinePinLaw" = true := by first | (simp [plainName, overriddenIn]; done) | decide +kernel
theorem own_pd___B__B : parseMethodDescriptor "([B)[B" = some ⟨[(.array .byte)], some (.array .byte)⟩ := by decide +kernel
theorem own_ef0 (m : MethodId) (p1 : Int32) (p2 : Int32) (p3 : Int32) (p4 : Int32) : entryFrame m #[(.int p1), (.int p2), (.int p3), (.int p4)] maxLocals = mkF m 0 #[.val (.int p1), .val (.int p2), .val (.int p3), .val (.int p4), .unset, .unset, .unset, .unset, .unset, .unset] [] := by first | (simp [entryFrame, mkF, argsToLocals, Value.category, maxLocals]; done) | rfl
def own_Q0 (Z : State) (p1 : Int32) (p2 : Int32) (p3 : Int32) (p4 : Int32) (h0 : Heap) (n0 : Nat) (v_ : Option Value) (h : Heap) (L_ : List Loc) : Prop := v_ = some (.int 1) ∧ Fr n0 L_
set_option maxRecDepth 65536 in
set_option maxHeartbeats 40000000 in
theorem own_rm0 (l : Launch) (Z : State) (a0 : Array Value) (hw : ∀ d ∈ tables_1, d.before a0 Z = true) (ws : List Jvm.Cond) (p1 : Int32) (p2 : Int32) (p3 : Int32) (p4 : Int32) (h0 : Heap) (n0 : Nat) (Z0 : n0 ≤ h0.size)  :
    MetFree l x (head1 (Jvm.Cond.code x code maxLocals ret :: ws) room_1) (fun a U => a = #[(.int p1), (.int p2), (.int p3), (.int p4)] ∧ Z.Warmed39 U.vm ∧ U.heap = h0) (fun _ _ _ _ _ => True) (fun _ U oc_ U' => ∃ v_ L_, oc_ = .returned v_ ∧ own_Q0 Z p1 p2 p3 p4 h0 n0 v_ U'.heap L_ ∧ FrameEnd U oc_ U' L_ room_1.cells room_1.slots) := by
  refine MetFree.of_bodySF (plainFor_of_name own_pn_com_example_seshat_seshat_bundles_SpillLinePinLaw) hisR ?_
  intro p e s m args below meth c s₁ Bd hml0 hP hK
  obtain ⟨rfl, hZ, hh⟩ := hP
  have hx := Bd.exec
  have hby := Bd.bytes
  have hml : c.maxLocals = 10 := hml0
  have hown : s.vm.findClass "com/example/seshat/seshat/bundles/SpillLinePinLaw" = some m.cls := findClass_of_methodNamed Bd.named
  have hnm := (name_of_methodNamed Bd.named Bd.method).1
  have X0 : Stand p l e room_1 s m #[(.int p1), (.int p2), (.int p3), (.int p4)] below meth c s₁ [] 0 0 := Stand.of_body Bd
  have e0 : s₁.heap = h0 := by rw [← hh, Bd.state]; rfl
  have N0 := Fr.nil n0
  refine own_in (fun _ k => castTop (own_ef0 m p1 p2 p3 p4) k) ?_
  intro RR hRR
  show own_Go p.tables e below RR (s₁.setTop (mkF m 0 #[.val (.int p1), .val (.int p2), .val (.int p3), .val (.int p4), .unset, .unset, .unset, .unset, .unset, .unset] []))
  refine own_st (fun _ k => XS.iloadN X0.here hx rfl (hb hby at_0) rfl (XS.iconst X0.here hx rfl (hb hby at_1) (XS.iand X0.here hx rfl (hb hby at_2) rfl k))) ?_
  show own_Go p.tables e below RR (s₁.setTop (mkF m 3 #[.val (.int p1), .val (.int p2), .val (.int p3), .val (.int p4), .unset, .unset, .unset, .unset, .unset, .unset] [(.int (p1 &&& (3 : Int32)))]))
  generalize gv1 : (p1 &&& (3 : Int32)) = v1
  show own_Go p.tables e below RR (s₁.setTop (mkF m 3 #[.val (.int p1), .val (.int p2), .val (.int p3), .val (.int p4), .unset, .unset, .unset, .unset, .unset, .unset] [(.int v1)]))
  refine own_st (fun _ k => XS.istore X0.here hx rfl (hb hby at_3) rfl (l' := #[.val (.int p1), .val (.int p2), .val (.int p3), .val (.int p4), .val (.int v1), .unset, .unset, .unset, .unset, .unset]) rfl (XS.iloadN X0.here hx rfl (hb hby at_5) rfl (XS.i2b X0.here hx rfl (hb hby at_6) rfl k))) ?_
  show own_Go p.tables e below RR (s₁.setTop (mkF m 7 #[.val (.int p1), .val (.int p2), .val (.int p3), .val (.int p4), .val (.int v1), .unset, .unset, .unset, .unset, .unset] [(.int (p2.toInt8.toInt32))]))
  generalize gv2 : (p2.toInt8.toInt32) = v2
  show own_Go p.tables e below RR (s₁.setTop (mkF m 7 #[.val (.int p1), .val (.int p2), .val (.int p3), .val (.int p4), .val (.int v1), .unset, .unset, .unset, .unset, .unset] [(.int v2)]))
  refine own_st (fun _ k => XS.istore X0.here hx rfl (hb hby at_7) rfl (l' := #[.val (.int p1), .val (.int p2), .val (.int p3), .val (.int p4), .val (.int v1), .val (.int v2), .unset, .unset, .unset, .unset]) rfl (XS.iloadN X0.here hx rfl (hb hby at_9) rfl (XS.i2b X0.here hx rfl (hb hby at_10) rfl k))) ?_
  show own_Go p.tables e below RR (s₁.setTop (mkF m 11 #[.val (.int p1), .val (.int p2), .val (.int p3), .val (.int p4), .val (.int v1), .val (.int v2), .unset, .unset, .unset, .unset] [(.int (p3.toInt8.toInt32))]))
  generalize gv3 : (p3.toInt8.toInt32) = v3
  show own_Go p.tables e below RR (s₁.setTop (mkF m 11 #[.val (.int p1), .val (.int p2), .val (.int p3), .val (.int p4), .val (.int v1), .val (.int v2), .unset, .unset, .unset, .unset] [(.int v3)]))
  refine own_st (fun _ k => XS.istore X0.here hx rfl (hb hby at_11) rfl (l' := #[.val (.int p1), .val (.int p2), .val (.int p3), .val (.int p4), .val (.int v1), .val (.int v2), .val (.int v3), .unset, .unset, .unset]) rfl (XS.iloadN X0.here hx rfl (hb hby at_13) rfl (XS.i2b X0.here hx rfl (hb hby at_14) rfl k))) ?_
  show own_Go p.tables e below RR (s₁.setTop (mkF m 15 #[.val (.int p1), .val (.int p2), .val (.int p3), .val (.int p4), .val (.int v1), .val (.int v2), .val (.int v3), .unset, .unset, .unset] [(.int (p4.toInt8.toInt32))]))
  generalize gv4 : (p4.toInt8.toInt32) = v4
  show own_Go p.tables e below RR (s₁.setTop (mkF m 15 #[.val (.int p1), .val (.int p2), .val (.int p3), .val (.int p4), .val (.int v1), .val (.int v2), .val (.int v3), .unset, .unset, .unset] [(.int v4)]))
  refine own_st (fun _ k => XS.istore X0.here hx rfl (hb hby at_15) rfl (l' := #[.val (.int p1), .val (.int p2), .val (.int p3), .val (.int p4), .val (.int v1), .val (.int v2), .val (.int v3), .val (.int v4), .unset, .unset]) rfl k) ?_
  show own_Go p.tables e below RR (s₁.setTop (mkF m 17 #[.val (.int p1), .val (.int p2), .val (.int p3), .val (.int p4), .val (.int v1), .val (.int v2), .val (.int v3), .val (.int v4), .unset, .unset] []))
  show own_Go p.tables e below RR (s₁.setTop (mkF m 17 #[.val (.int p1), .val (.int p2), .val (.int p3), .val (.int p4), .val (.int v1), .val (.int v2), .val (.int v3), .val (.int v4), .unset, .unset] []))
  show own_Go p.tables e below RR (s₁.setTop (mkF m 17 #[.val (.int p1), .val (.int p2), .val (.int p3), .val (.int p4), .val (.int v1), .val (.int v2), .val (.int v3), .val (.int v4), .unset, .unset] []))
  rcases own_four gv1 with rfl | rfl | rfl | rfl
  · show own_Go p.tables e below RR (s₁.setTop (mkF m 17 #[.val (.int p1), .val (.int p2), .val (.int p3), .val (.int p4), .val (.int (0 : Int32)), .val (.int v2), .val (.int v3), .val (.int v4), .unset, .unset] []))
    show own_Go p.tables e below RR (s₁.setTop (mkF m 17 #[.val (.int p1), .val (.int p2), .val (.int p3), .val (.int p4), .val (.int (0 : Int32)), .val (.int v2), .val (.int v3), .val (.int v4), .unset, .unset] []))
    refine own_st (fun _ k => XS.iload X0.here hx rfl (hb hby at_17) rfl k) ?_
    show own_Go p.tables e below RR (s₁.setTop (mkF m 19 #[.val (.int p1), .val (.int p2), .val (.int p3), .val (.int p4), .val (.int (0 : Int32)), .val (.int v2), .val (.int v3), .val (.int v4), .unset, .unset] [(.int (0 : Int32))]))
    obtain ⟨T5, h5, k5, X5, e5, E5, A5, st5⟩ := newP X0 hx hZ (hw _ (List.mem_of_getElem? (i := 0) rfl)) e0 (g := (mkF m 19 #[.val (.int p1), .val (.int p2), .val (.int p3), .val (.int p4), .val (.int (0 : Int32)), .val (.int v2), .val (.int v3), .val (.int v4), .unset, .unset] [(.int (0 : Int32))])) rfl (hb hby at_19) rfl (by decide) (cap := 0) (by decide) (by decide) (by decide) (by decide)
    obtain ⟨b5, gb5⟩ : ∃ z, z = h0.size := ⟨_, rfl⟩
    rw [← gb5] at A5 st5
    have ge5 : n0 ≤ b5 := Nat.le_trans Z0 (Nat.le_of_eq gb5.symm)
    refine own_st st5 ?_
    have z6 : n0 ≤ h5.size := Nat.le_trans Z0 E5.1
    have V5 : Arv Z h5 b5 k5 .byte (0 : Int32) [] (.int (0 : Int32)) := (Arv.new A5 (by decide)).pad (pad_rep [] (.int (0 : Int32)) 0)
    show own_Go p.tables e below RR (T5.setTop (mkF m 21 #[.val (.int p1), .val (.int p2), .val (.int p3), .val (.int p4), .val (.int (0 : Int32)), .val (.int v2), .val (.int v3), .val (.int v4), .unset, .unset] [(.ref b5)]))
    refine own_st (fun _ k => XS.astore X5.here hx rfl (hb hby at_21) rfl rfl (l' := #[.val (.int p1), .val (.int p2), .val (.int p3), .val (.int p4), .val (.int (0 : Int32)), .val (.int v2), .val (.int v3), .val (.int v4), .val (.ref b5), .unset]) rfl (XS.iload X5.here hx rfl (hb hby at_23) rfl k)) ?_
    show own_Go p.tables e below RR (T5.setTop (mkF m 25 #[.val (.int p1), .val (.int p2), .val (.int p3), .val (.int p4), .val (.int (0 : Int32)), .val (.int v2), .val (.int v3), .val (.int v4), .val (.ref b5), .unset] [(.int (0 : Int32))]))
    refine own_st (fun _ k => XS.ifYes X5.here hx rfl (pc0 := 25) (pc' := 34) rfl (hb hby at_25) rfl ((if0 _ _).trans (flt (by decide)).2.2.2) (by decide) (by decide) (XS.iload X5.here hx rfl (hb hby at_34) rfl (XS.iconst X5.here hx rfl (hb hby at_36) k))) ?_
    show own_Go p.tables e below RR (T5.setTop (mkF m 37 #[.val (.int p1), .val (.int p2), .val (.int p3), .val (.int p4), .val (.int (0 : Int32)), .val (.int v2), .val (.int v3), .val (.int v4), .val (.ref b5), .unset] [(.int (1 : Int32)), (.int (0 : Int32))]))
    refine own_st (fun _ k => XS.icmpYes X5.here hx rfl (pc0 := 37) (pc' := 46) rfl (hb hby at_37) rfl (flt (by decide)).2.2.2 (by decide) (by decide) (XS.iload X5.here hx rfl (hb hby at_46) rfl (XS.iconst X5.here hx rfl (hb hby at_48) k))) ?_
    show own_Go p.tables e below RR (T5.setTop (mkF m 49 #[.val (.int p1), .val (.int p2), .val (.int p3), .val (.int p4), .val (.int (0 : Int32)), .val (.int v2), .val (.int v3), .val (.int v4), .val (.ref b5), .unset] [(.int (2 : Int32)), (.int (0 : Int32))]))
    refine own_st (fun _ k => XS.icmpYes X5.here hx rfl (pc0 := 49) (pc' := 58) rfl (hb hby at_49) rfl (flt (by decide)).2.2.2 (by decide) (by decide) (XS.aload X5.here hx rfl (hb hby at_58) rfl rfl k)) ?_
    show own_Go p.tables e below RR (T5.setTop (mkF m 60 #[.val (.int p1), .val (.int p2), .val (.int p3), .val (.int p4), .val (.int (0 : Int32)), .val (.int v2), .val (.int v3), .val (.int v4), .val (.ref b5), .unset] [(.ref b5)]))
    obtain ⟨b7, gb7⟩ : ∃ z, z = h5.size := ⟨_, rfl⟩
    have ge7 : n0 ≤ b7 := Nat.le_trans z6 (Nat.le_of_eq gb7.symm)
    obtain ⟨_, _, ⟨T8, L8, k8, n8⟩, -, X8, ⟨Lc8, hQ8, l8, y8, z8⟩, st8⟩ := Jvm.LawKit.callS X5 hx (y := (⟨"com/example/seshat/seshat/bundles/Spill", "line", "([B)[B"⟩ : MethodName)) hown (mvT hZ (hw _ (List.mem_of_getElem? (i := 1) rfl))) (mvT hZ (hw _ (List.mem_of_getElem? (i := 2) rfl))) (mvT hZ (hw _ (List.mem_of_getElem? (i := 3) rfl))) (mvT hZ (hw _ (List.mem_of_getElem? (i := 4) rfl))) (by decide) (backOf (W := 0) (own_rmN0 l Z a0 hw [] b5 k5 b7 h5 n0 z6 V5 gb7) hZ (hw _ (List.mem_of_getElem? (i := 4) rfl)) (hw _ (List.mem_of_getElem? (i := 3) rfl)) (by decide) (by decide)) (g := (mkF m 60 #[.val (.int p1), .val (.int p2), .val (.int p3), .val (.int p4), .val (.int (0 : Int32)), .val (.int v2), .val (.int v3), .val (.int v4), .val (.ref b5), .unset] [(.ref b5)])) rfl (by rw [hml]; rfl) (argsL := [(.ref b5)]) (rest := []) (lenOf own_pd___B__B rfl) rfl (by show 2 * 0 + _ ≤ _; exact Nat.le_of_eq rfl) (hb hby at_60) (fun _ _ => ⟨rfl, e5, (by decide : 1 + 1 ≤ _), (by decide : 0 + 1 ≤ _)⟩)
    dsimp only [Pt.U, Pt.locs, Pt.cells, Pt.slots] at X8 l8 y8 z8 st8 hQ8
    subst l8 y8 z8
    obtain ⟨rfl, Nq8, Kq8, kq8, Vq8⟩ := hQ8
    have N8 := Fr.app N0 Nq8
    refine own_st st8 ?_
    have z9 : n0 ≤ T8.heap.size := Nat.le_trans z6 Kq8.1
    show own_Go p.tables e below RR (T8.setTop (mkF m 63 #[.val (.int p1), .val (.int p2), .val (.int p3), .val (.int p4), .val (.int (0 : Int32)), .val (.int v2), .val (.int v3), .val (.int v4), .val (.ref b5), .unset] [(.ref b7)]))
    refine own_st (fun _ k => XS.astore X8.here hx rfl (hb hby at_63) rfl rfl (l' := #[.val (.int p1), .val (.int p2), .val (.int p3), .val (.int p4), .val (.int (0 : Int32)), .val (.int v2), .val (.int v3), .val (.int v4), .val (.ref b5), .val (.ref b7)]) rfl (XS.aload X8.here hx rfl (hb hby at_65) rfl rfl k)) ?_
    show own_Go p.tables e below RR (T8.setTop (mkF m 67 #[.val (.int p1), .val (.int p2), .val (.int p3), .val (.int p4), .val (.int (0 : Int32)), .val (.int v2), .val (.int v3), .val (.int v4), .val (.ref b5), .val (.ref b7)] [(.ref b7)]))
    refine own_st (fun _ k => XS.ifnullNo X8.here hx rfl (hb hby at_67) rfl (XS.aload X8.here hx rfl (hb hby at_70) rfl rfl (XS.aload X8.here hx rfl (hb hby at_72) rfl rfl k))) ?_
    show own_Go p.tables e below RR (T8.setTop (mkF m 74 #[.val (.int p1), .val (.int p2), .val (.int p3), .val (.int p4), .val (.int (0 : Int32)), .val (.int v2), .val (.int v3), .val (.int v4), .val (.ref b5), .val (.ref b7)] [(.ref b5), (.ref b7)]))
    have ne10 : b5 ≠ b7 := (Nat.ne_of_lt (Nat.lt_of_lt_of_le V5.lt (Nat.le_of_eq gb7.symm)))
    have hc74_11 : ¬ (b7 = b5) := (Ne.symm ne10)
    refine own_st (fun _ k => Jvm.RoadKit.acmp (g := (mkF m 74 #[.val (.int p1), .val (.int p2), .val (.int p3), .val (.int p4), .val (.int (0 : Int32)), .val (.int v2), .val (.int v3), .val (.int v4), .val (.ref b5), .val (.ref b7)] [(.ref b5), (.ref b7)])) X8 hx rfl rfl rfl (pc0 := 74) (pc' := 77) (same := false) rfl (hb hby at_74) rfl (decide_eq_false fun q => hc74_11 (Value.ref.inj q)) (by decide) (by decide) (XS.aload X8.here hx rfl (hb hby at_77) rfl rfl k)) ?_
    show own_Go p.tables e below RR (T8.setTop (mkF m 79 #[.val (.int p1), .val (.int p2), .val (.int p3), .val (.int p4), .val (.int (0 : Int32)), .val (.int v2), .val (.int v3), .val (.int v4), .val (.ref b5), .val (.ref b7)] [(.ref b7)]))
    obtain ⟨c12, A12, -, s12, m12, -, -⟩ := id Vq8
    refine own_st (fun _ k => own_len X8 hx hZ rfl A12 s12 m12 (g := (mkF m 79 #[.val (.int p1), .val (.int p2), .val (.int p3), .val (.int p4), .val (.int (0 : Int32)), .val (.int v2), .val (.int v3), .val (.int v4), .val (.ref b5), .val (.ref b7)] [(.ref b7)])) rfl rfl (hb hby at_79) (XS.iload X8.here hx rfl (hb hby at_80) rfl (XS.iconst X8.here hx rfl (hb hby at_82) (XS.iadd X8.here hx rfl (hb hby at_83) rfl k)))) ?_
    show own_Go p.tables e below RR (T8.setTop (mkF m 84 #[.val (.int p1), .val (.int p2), .val (.int p3), .val (.int p4), .val (.int (0 : Int32)), .val (.int v2), .val (.int v3), .val (.int v4), .val (.ref b5), .val (.ref b7)] [(.int (1 : Int32)), (.int (1 : Int32))]))
    refine own_st (fun _ k => XS.icmpYes X8.here hx rfl (pc0 := 84) (pc' := 89) rfl (hb hby at_84) rfl (teq (by decide)).1 (by decide) (by decide) (XS.iload X8.here hx rfl (hb hby at_89) rfl k)) ?_
    show own_Go p.tables e below RR (T8.setTop (mkF m 91 #[.val (.int p1), .val (.int p2), .val (.int p3), .val (.int p4), .val (.int (0 : Int32)), .val (.int v2), .val (.int v3), .val (.int v4), .val (.ref b5), .val (.ref b7)] [(.int (0 : Int32))]))
    refine own_st (fun _ k => XS.ifYes X8.here hx rfl (pc0 := 91) (pc' := 105) rfl (hb hby at_91) rfl ((if0 _ _).trans (flt (by decide)).2.2.2) (by decide) (by decide) (XS.iload X8.here hx rfl (hb hby at_105) rfl (XS.iconst X8.here hx rfl (hb hby at_107) k))) ?_
    show own_Go p.tables e below RR (T8.setTop (mkF m 108 #[.val (.int p1), .val (.int p2), .val (.int p3), .val (.int p4), .val (.int (0 : Int32)), .val (.int v2), .val (.int v3), .val (.int v4), .val (.ref b5), .val (.ref b7)] [(.int (1 : Int32)), (.int (0 : Int32))]))
    refine own_st (fun _ k => XS.icmpYes X8.here hx rfl (pc0 := 108) (pc' := 122) rfl (hb hby at_108) rfl (flt (by decide)).2.2.2 (by decide) (by decide) (XS.iload X8.here hx rfl (hb hby at_122) rfl (XS.iconst X8.here hx rfl (hb hby at_124) k))) ?_
    show own_Go p.tables e below RR (T8.setTop (mkF m 125 #[.val (.int p1), .val (.int p2), .val (.int p3), .val (.int p4), .val (.int (0 : Int32)), .val (.int v2), .val (.int v3), .val (.int v4), .val (.ref b5), .val (.ref b7)] [(.int (2 : Int32)), (.int (0 : Int32))]))
    refine own_st (fun _ k => XS.icmpYes X8.here hx rfl (pc0 := 125) (pc' := 139) rfl (hb hby at_125) rfl (flt (by decide)).2.2.2 (by decide) (by decide) (XS.aload X8.here hx rfl (hb hby at_139) rfl rfl (XS.iload X8.here hx rfl (hb hby at_141) rfl k))) ?_
    show own_Go p.tables e below RR (T8.setTop (mkF m 143 #[.val (.int p1), .val (.int p2), .val (.int p3), .val (.int p4), .val (.int (0 : Int32)), .val (.int v2), .val (.int v3), .val (.int v4), .val (.ref b5), .val (.ref b7)] [(.int (0 : Int32)), (.ref b7)]))
    obtain ⟨c13, A13, q13, s13, m13, H13, G13⟩ := id Vq8
    have b13 := inb_of (j := (0 : Int32)) s13 ⟨by decide, by decide⟩
    refine own_st (fun _ k => X8.baloadBytes hx (j := (0 : Int32)) (v := (.int (10 : Int32))) (by exact A13.1) (State.isArrayOf_alike hZ.alike A13.2.1) A13.2.2 b13 (Has.at H13 b13 rfl) (g := (mkF m 143 #[.val (.int p1), .val (.int p2), .val (.int p3), .val (.int p4), .val (.int (0 : Int32)), .val (.int v2), .val (.int v3), .val (.int v4), .val (.ref b5), .val (.ref b7)] [(.int (0 : Int32)), (.ref b7)])) rfl rfl (hb hby at_143) _ (XS.bipush X8.here hx rfl (hb hby at_144) k)) ?_
    show own_Go p.tables e below RR (T8.setTop (mkF m 146 #[.val (.int p1), .val (.int p2), .val (.int p3), .val (.int p4), .val (.int (0 : Int32)), .val (.int v2), .val (.int v3), .val (.int v4), .val (.ref b5), .val (.ref b7)] [(.int (10 : Int32)), (.int (10 : Int32))]))
    refine own_st (fun _ k => XS.icmpYes X8.here hx rfl (pc0 := 146) (pc' := 151) rfl (hb hby at_146) rfl (teq (by decide)).1 (by decide) (by decide) (XS.iload X8.here hx rfl (hb hby at_151) rfl k)) ?_
    show own_Go p.tables e below RR (T8.setTop (mkF m 153 #[.val (.int p1), .val (.int p2), .val (.int p3), .val (.int p4), .val (.int (0 : Int32)), .val (.int v2), .val (.int v3), .val (.int v4), .val (.ref b5), .val (.ref b7)] [(.int (0 : Int32))]))
    refine own_st (fun _ k => XS.ifYes X8.here hx rfl (pc0 := 153) (pc' := 167) rfl (hb hby at_153) rfl ((if0 _ _).trans (flt (by decide)).2.2.2) (by decide) (by decide) (XS.iload X8.here hx rfl (hb hby at_167) rfl (XS.iconst X8.here hx rfl (hb hby at_169) k))) ?_
    show own_Go p.tables e below RR (T8.setTop (mkF m 170 #[.val (.int p1), .val (.int p2), .val (.int p3), .val (.int p4), .val (.int (0 : Int32)), .val (.int v2), .val (.int v3), .val (.int v4), .val (.ref b5), .val (.ref b7)] [(.int (1 : Int32)), (.int (0 : Int32))]))
    refine own_st (fun _ k => XS.icmpYes X8.here hx rfl (pc0 := 170) (pc' := 184) rfl (hb hby at_170) rfl (flt (by decide)).2.2.2 (by decide) (by decide) (XS.iload X8.here hx rfl (hb hby at_184) rfl (XS.iconst X8.here hx rfl (hb hby at_186) k))) ?_
    show own_Go p.tables e below RR (T8.setTop (mkF m 187 #[.val (.int p1), .val (.int p2), .val (.int p3), .val (.int p4), .val (.int (0 : Int32)), .val (.int v2), .val (.int v3), .val (.int v4), .val (.ref b5), .val (.ref b7)] [(.int (2 : Int32)), (.int (0 : Int32))]))
    refine own_st (fun _ k => XS.icmpYes X8.here hx rfl (pc0 := 187) (pc' := 201) rfl (hb hby at_187) rfl (flt (by decide)).2.2.2 (by decide) (by decide) (XS.iconst X8.here hx rfl (hb hby at_201) k)) ?_
    show own_Go p.tables e below RR (T8.setTop (mkF m 202 #[.val (.int p1), .val (.int p2), .val (.int p3), .val (.int p4), .val (.int (0 : Int32)), .val (.int v2), .val (.int v3), .val (.int v4), .val (.ref b5), .val (.ref b7)] [(.int (1 : Int32))]))
    obtain ⟨fs, hrt_, hrun, hended, hW, hsame⟩ := X8.leave (v := some (.int (1 : Int32))) (fun h => by rw [Bd.returns] at h; cases h)
    refine own_fin (retN X8 hx (t := .boolean) Bd.returns (by simp) (hb hby at_202) hrt_) (hRR _ ⟨_, hrun, hended, _, _, rfl, ?_, ⟨_, rfl⟩, hW, hsame.mono (by decide) (by decide)⟩)
    show own_Q0 Z p1 p2 p3 p4 h0 n0 _ T8.heap _
    exact ⟨rfl, N8⟩
  · show own_Go p.tables e below RR (s₁.setTop (mkF m 17 #[.val (.int p1), .val (.int p2), .val (.int p3), .val (.int p4), .val (.int (1 : Int32)), .val (.int v2), .val (.int v3), .val (.int v4), .unset, .unset] []))
    show own_Go p.tables e below RR (s₁.setTop (mkF m 17 #[.val (.int p1), .val (.int p2), .val (.int p3), .val (.int p4), .val (.int (1 : Int32)), .val (.int v2), .val (.int v3), .val (.int v4), .unset, .unset] []))
    refine own_st (fun _ k => XS.iload X0.here hx rfl (hb hby at_17) rfl k) ?_
    show own_Go p.tables e below RR (s₁.setTop (mkF m 19 #[.val (.int p1), .val (.int p2), .val (.int p3), .val (.int p4), .val (.int (1 : Int32)), .val (.int v2), .val (.int v3), .val (.int v4), .unset, .unset] [(.int (1 : Int32))]))
    obtain ⟨T14, h14, k14, X14, e14, E14, A14, st14⟩ := newP X0 hx hZ (hw _ (List.mem_of_getElem? (i := 0) rfl)) e0 (g := (mkF m 19 #[.val (.int p1), .val (.int p2), .val (.int p3), .val (.int p4), .val (.int (1 : Int32)), .val (.int v2), .val (.int v3), .val (.int v4), .unset, .unset] [(.int (1 : Int32))])) rfl (hb hby at_19) rfl (by decide) (cap := 1) (by decide) (by decide) (by decide) (by decide)
    obtain ⟨b14, gb14⟩ : ∃ z, z = h0.size := ⟨_, rfl⟩
    rw [← gb14] at A14 st14
    have ge14 : n0 ≤ b14 := Nat.le_trans Z0 (Nat.le_of_eq gb14.symm)
    refine own_st st14 ?_
    have z15 : n0 ≤ h14.size := Nat.le_trans Z0 E14.1
    have V14 : Arv Z h14 b14 k14 .byte (1 : Int32) [(.int (0 : Int32))] (.int (0 : Int32)) := (Arv.new A14 (by decide)).pad (pad_rep [] (.int (0 : Int32)) 1)
    show own_Go p.tables e below RR (T14.setTop (mkF m 21 #[.val (.int p1), .val (.int p2), .val (.int p3), .val (.int p4), .val (.int (1 : Int32)), .val (.int v2), .val (.int v3), .val (.int v4), .unset, .unset] [(.ref b14)]))
    refine own_st (fun _ k => XS.astore X14.here hx rfl (hb hby at_21) rfl rfl (l' := #[.val (.int p1), .val (.int p2), .val (.int p3), .val (.int p4), .val (.int (1 : Int32)), .val (.int v2), .val (.int v3), .val (.int v4), .val (.ref b14), .unset]) rfl (XS.iload X14.here hx rfl (hb hby at_23) rfl k)) ?_
    show own_Go p.tables e below RR (T14.setTop (mkF m 25 #[.val (.int p1), .val (.int p2), .val (.int p3), .val (.int p4), .val (.int (1 : Int32)), .val (.int v2), .val (.int v3), .val (.int v4), .val (.ref b14), .unset] [(.int (1 : Int32))]))
    refine own_st (fun _ k => XS.ifNo X14.here hx rfl (hb hby at_25) rfl ((if0 _ _).trans (tlt (by decide)).2.2.2) (XS.aload X14.here hx rfl (hb hby at_28) rfl rfl (XS.iconst X14.here hx rfl (hb hby at_30) (XS.iload X14.here hx rfl (hb hby at_31) rfl k)))) ?_
    show own_Go p.tables e below RR (T14.setTop (mkF m 33 #[.val (.int p1), .val (.int p2), .val (.int p3), .val (.int p4), .val (.int (1 : Int32)), .val (.int v2), .val (.int v3), .val (.int v4), .val (.ref b14), .unset] [(.int v2), (.int (0 : Int32)), (.ref b14)]))
    obtain ⟨c16, A16, q16, s16, m16, H16, G16⟩ := id V14
    obtain ⟨T17, h17, X17, e17, W17, st17⟩ := stB X14 hx hZ e14 A16 (j := (0 : Int32)) (inb_of s16 ⟨by decide, by decide⟩) (g := (mkF m 33 #[.val (.int p1), .val (.int p2), .val (.int p3), .val (.int p4), .val (.int (1 : Int32)), .val (.int v2), .val (.int v3), .val (.int v4), .val (.ref b14), .unset] [(.int v2), (.int (0 : Int32)), (.ref b14)])) rfl rfl (hb hby at_33)
    have V17 := Arv.set A16 q16 s16 m16 H16 G16 (fits_nar_byte _) W17 0 rfl (Nat.le_of_ble_eq_true rfl)
    have V17 : Arv Z h17 b14 k14 .byte (1 : Int32) [(.int v2.toInt8.toInt32)] (.int (0 : Int32)) := V17
    have N17 := Fr.snoc X17 N0 ge14
    refine own_st st17 ?_
    have z18 : n0 ≤ h17.size := Nat.le_trans z15 (Keep.of_wr W17).1
    show own_Go p.tables e below RR (T17.setTop (mkF m 34 #[.val (.int p1), .val (.int p2), .val (.int p3), .val (.int p4), .val (.int (1 : Int32)), .val (.int v2), .val (.int v3), .val (.int v4), .val (.ref b14), .unset] []))
    refine own_st (fun _ k => XS.iload X17.here hx rfl (hb hby at_34) rfl (XS.iconst X17.here hx rfl (hb hby at_36) k)) ?_
    show own_Go p.tables e below RR (T17.setTop (mkF m 37 #[.val (.int p1), .val (.int p2), .val (.int p3), .val (.int p4), .val (.int (1 : Int32)), .val (.int v2), .val (.int v3), .val (.int v4), .val (.ref b14), .unset] [(.int (1 : Int32)), (.int (1 : Int32))]))
    refine own_st (fun _ k => XS.icmpYes X17.here hx rfl (pc0 := 37) (pc' := 46) rfl (hb hby at_37) rfl (flt (by decide)).2.2.2 (by decide) (by decide) (XS.iload X17.here hx rfl (hb hby at_46) rfl (XS.iconst X17.here hx rfl (hb hby at_48) k))) ?_
    show own_Go p.tables e below RR (T17.setTop (mkF m 49 #[.val (.int p1), .val (.int p2), .val (.int p3), .val (.int p4), .val (.int (1 : Int32)), .val (.int v2), .val (.int v3), .val (.int v4), .val (.ref b14), .unset] [(.int (2 : Int32)), (.int (1 : Int32))]))
    refine own_st (fun _ k => XS.icmpYes X17.here hx rfl (pc0 := 49) (pc' := 58) rfl (hb hby at_49) rfl (flt (by decide)).2.2.2 (by decide) (by decide) (XS.aload X17.here hx rfl (hb hby at_58) rfl rfl k)) ?_
    show own_Go p.tables e below RR (T17.setTop (mkF m 60 #[.val (.int p1), .val (.int p2), .val (.int p3), .val (.int p4), .val (.int (1 : Int32)), .val (.int v2), .val (.int v3), .val (.int v4), .val (.ref b14), .unset] [(.ref b14)]))
    obtain ⟨b19, gb19⟩ : ∃ z, z = h17.size := ⟨_, rfl⟩
    have ge19 : n0 ≤ b19 := Nat.le_trans z18 (Nat.le_of_eq gb19.symm)
    obtain ⟨_, _, ⟨T20, L20, k20, n20⟩, -, X20, ⟨Lc20, hQ20, l20, y20, z20⟩, st20⟩ := Jvm.LawKit.callS X17 hx (y := (⟨"com/example/seshat/seshat/bundles/Spill", "line", "([B)[B"⟩ : MethodName)) hown (mvT hZ (hw _ (List.mem_of_getElem? (i := 1) rfl))) (mvT hZ (hw _ (List.mem_of_getElem? (i := 2) rfl))) (mvT hZ (hw _ (List.mem_of_getElem? (i := 3) rfl))) (mvT hZ (hw _ (List.mem_of_getElem? (i := 4) rfl))) (by decide) (backOf (W := 0) (own_rmN1 l Z a0 hw [] b14 k14 v2.toInt8.toInt32 b19 h17 n0 z18 V17 gb19) hZ (hw _ (List.mem_of_getElem? (i := 4) rfl)) (hw _ (List.mem_of_getElem? (i := 3) rfl)) (by decide) (by decide)) (g := (mkF m 60 #[.val (.int p1), .val (.int p2), .val (.int p3), .val (.int p4), .val (.int (1 : Int32)), .val (.int v2), .val (.int v3), .val (.int v4), .val (.ref b14), .unset] [(.ref b14)])) rfl (by rw [hml]; rfl) (argsL := [(.ref b14)]) (rest := []) (lenOf own_pd___B__B rfl) rfl (by show 2 * 0 + _ ≤ _; exact Nat.le_of_eq rfl) (hb hby at_60) (fun _ _ => ⟨rfl, e17, (by decide : 1 + 1 ≤ _), (by decide : 1 + 2 ≤ _)⟩)
    dsimp only [Pt.U, Pt.locs, Pt.cells, Pt.slots] at X20 l20 y20 z20 st20 hQ20
    subst l20 y20 z20
    obtain ⟨rfl, Nq20, Kq20, kq20, Vq20⟩ := hQ20
    have N20 := Fr.app N17 Nq20
    refine own_st st20 ?_
    have z21 : n0 ≤ T20.heap.size := Nat.le_trans z18 Kq20.1
    show own_Go p.tables e below RR (T20.setTop (mkF m 63 #[.val (.int p1), .val (.int p2), .val (.int p3), .val (.int p4), .val (.int (1 : Int32)), .val (.int v2), .val (.int v3), .val (.int v4), .val (.ref b14), .unset] [(.ref b19)]))
    refine own_st (fun _ k => XS.astore X20.here hx rfl (hb hby at_63) rfl rfl (l' := #[.val (.int p1), .val (.int p2), .val (.int p3), .val (.int p4), .val (.int (1 : Int32)), .val (.int v2), .val (.int v3), .val (.int v4), .val (.ref b14), .val (.ref b19)]) rfl (XS.aload X20.here hx rfl (hb hby at_65) rfl rfl k)) ?_
    show own_Go p.tables e below RR (T20.setTop (mkF m 67 #[.val (.int p1), .val (.int p2), .val (.int p3), .val (.int p4), .val (.int (1 : Int32)), .val (.int v2), .val (.int v3), .val (.int v4), .val (.ref b14), .val (.ref b19)] [(.ref b19)]))
    refine own_st (fun _ k => XS.ifnullNo X20.here hx rfl (hb hby at_67) rfl (XS.aload X20.here hx rfl (hb hby at_70) rfl rfl (XS.aload X20.here hx rfl (hb hby at_72) rfl rfl k))) ?_
    show own_Go p.tables e below RR (T20.setTop (mkF m 74 #[.val (.int p1), .val (.int p2), .val (.int p3), .val (.int p4), .val (.int (1 : Int32)), .val (.int v2), .val (.int v3), .val (.int v4), .val (.ref b14), .val (.ref b19)] [(.ref b14), (.ref b19)]))
    have ne22 : b14 ≠ b19 := (Nat.ne_of_lt (Nat.lt_of_lt_of_le V17.lt (Nat.le_of_eq gb19.symm)))
    have hc74_23 : ¬ (b19 = b14) := (Ne.symm ne22)
    refine own_st (fun _ k => Jvm.RoadKit.acmp (g := (mkF m 74 #[.val (.int p1), .val (.int p2), .val (.int p3), .val (.int p4), .val (.int (1 : Int32)), .val (.int v2), .val (.int v3), .val (.int v4), .val (.ref b14), .val (.ref b19)] [(.ref b14), (.ref b19)])) X20 hx rfl rfl rfl (pc0 := 74) (pc' := 77) (same := false) rfl (hb hby at_74) rfl (decide_eq_false fun q => hc74_23 (Value.ref.inj q)) (by decide) (by decide) (XS.aload X20.here hx rfl (hb hby at_77) rfl rfl k)) ?_
    show own_Go p.tables e below RR (T20.setTop (mkF m 79 #[.val (.int p1), .val (.int p2), .val (.int p3), .val (.int p4), .val (.int (1 : Int32)), .val (.int v2), .val (.int v3), .val (.int v4), .val (.ref b14), .val (.ref b19)] [(.ref b19)]))
    obtain ⟨c24, A24, -, s24, m24, -, -⟩ := id Vq20
    refine own_st (fun _ k => own_len X20 hx hZ rfl A24 s24 m24 (g := (mkF m 79 #[.val (.int p1), .val (.int p2), .val (.int p3), .val (.int p4), .val (.int (1 : Int32)), .val (.int v2), .val (.int v3), .val (.int v4), .val (.ref b14), .val (.ref b19)] [(.ref b19)])) rfl rfl (hb hby at_79) (XS.iload X20.here hx rfl (hb hby at_80) rfl (XS.iconst X20.here hx rfl (hb hby at_82) (XS.iadd X20.here hx rfl (hb hby at_83) rfl k)))) ?_
    show own_Go p.tables e below RR (T20.setTop (mkF m 84 #[.val (.int p1), .val (.int p2), .val (.int p3), .val (.int p4), .val (.int (1 : Int32)), .val (.int v2), .val (.int v3), .val (.int v4), .val (.ref b14), .val (.ref b19)] [(.int (2 : Int32)), (.int (2 : Int32))]))
    refine own_st (fun _ k => XS.icmpYes X20.here hx rfl (pc0 := 84) (pc' := 89) rfl (hb hby at_84) rfl (teq (by decide)).1 (by decide) (by decide) (XS.iload X20.here hx rfl (hb hby at_89) rfl k)) ?_
    show own_Go p.tables e below RR (T20.setTop (mkF m 91 #[.val (.int p1), .val (.int p2), .val (.int p3), .val (.int p4), .val (.int (1 : Int32)), .val (.int v2), .val (.int v3), .val (.int v4), .val (.ref b14), .val (.ref b19)] [(.int (1 : Int32))]))
    refine own_st (fun _ k => XS.ifNo X20.here hx rfl (hb hby at_91) rfl ((if0 _ _).trans (tlt (by decide)).2.2.2) (XS.aload X20.here hx rfl (hb hby at_94) rfl rfl (XS.iconst X20.here hx rfl (hb hby at_96) k))) ?_
    show own_Go p.tables e below RR (T20.setTop (mkF m 97 #[.val (.int p1), .val (.int p2), .val (.int p3), .val (.int p4), .val (.int (1 : Int32)), .val (.int v2), .val (.int v3), .val (.int v4), .val (.ref b14), .val (.ref b19)] [(.int (0 : Int32)), (.ref b19)]))
    obtain ⟨c25, A25, q25, s25, m25, H25, G25⟩ := id Vq20
    have b25 := inb_of (j := (0 : Int32)) s25 ⟨by decide, by decide⟩
    refine own_st (fun _ k => X20.baloadBytes hx (j := (0 : Int32)) (v := (.int v2.toInt8.toInt32)) (by exact A25.1) (State.isArrayOf_alike hZ.alike A25.2.1) A25.2.2 b25 (Has.at H25 b25 rfl) (g := (mkF m 97 #[.val (.int p1), .val (.int p2), .val (.int p3), .val (.int p4), .val (.int (1 : Int32)), .val (.int v2), .val (.int v3), .val (.int v4), .val (.ref b14), .val (.ref b19)] [(.int (0 : Int32)), (.ref b19)])) rfl rfl (hb hby at_97) _ (XS.iload X20.here hx rfl (hb hby at_98) rfl k)) ?_
    show own_Go p.tables e below RR (T20.setTop (mkF m 100 #[.val (.int p1), .val (.int p2), .val (.int p3), .val (.int p4), .val (.int (1 : Int32)), .val (.int v2), .val (.int v3), .val (.int v4), .val (.ref b14), .val (.ref b19)] [(.int v2), (.int v2.toInt8.toInt32)]))
    have hc100_26 : v2.toInt8.toInt32 = v2 := own_bb gv2
    refine own_st (fun _ k => XS.icmpYes X20.here hx rfl (pc0 := 100) (pc' := 105) rfl (hb hby at_100) rfl (teq hc100_26).1 (by decide) (by decide) (XS.iload X20.here hx rfl (hb hby at_105) rfl (XS.iconst X20.here hx rfl (hb hby at_107) k))) ?_
    show own_Go p.tables e below RR (T20.setTop (mkF m 108 #[.val (.int p1), .val (.int p2), .val (.int p3), .val (.int p4), .val (.int (1 : Int32)), .val (.int v2), .val (.int v3), .val (.int v4), .val (.ref b14), .val (.ref b19)] [(.int (1 : Int32)), (.int (1 : Int32))]))
    refine own_st (fun _ k => XS.icmpYes X20.here hx rfl (pc0 := 108) (pc' := 122) rfl (hb hby at_108) rfl (flt (by decide)).2.2.2 (by decide) (by decide) (XS.iload X20.here hx rfl (hb hby at_122) rfl (XS.iconst X20.here hx rfl (hb hby at_124) k))) ?_
    show own_Go p.tables e below RR (T20.setTop (mkF m 125 #[.val (.int p1), .val (.int p2), .val (.int p3), .val (.int p4), .val (.int (1 : Int32)), .val (.int v2), .val (.int v3), .val (.int v4), .val (.ref b14), .val (.ref b19)] [(.int (2 : Int32)), (.int (1 : Int32))]))
    refine own_st (fun _ k => XS.icmpYes X20.here hx rfl (pc0 := 125) (pc' := 139) rfl (hb hby at_125) rfl (flt (by decide)).2.2.2 (by decide) (by decide) (XS.aload X20.here hx rfl (hb hby at_139) rfl rfl (XS.iload X20.here hx rfl (hb hby at_141) rfl k))) ?_
    show own_Go p.tables e below RR (T20.setTop (mkF m 143 #[.val (.int p1), .val (.int p2), .val (.int p3), .val (.int p4), .val (.int (1 : Int32)), .val (.int v2), .val (.int v3), .val (.int v4), .val (.ref b14), .val (.ref b19)] [(.int (1 : Int32)), (.ref b19)]))
    obtain ⟨c27, A27, q27, s27, m27, H27, G27⟩ := id Vq20
    have b27 := inb_of (j := (1 : Int32)) s27 ⟨by decide, by decide⟩
    refine own_st (fun _ k => X20.baloadBytes hx (j := (1 : Int32)) (v := (.int (10 : Int32))) (by exact A27.1) (State.isArrayOf_alike hZ.alike A27.2.1) A27.2.2 b27 (Has.at H27 b27 rfl) (g := (mkF m 143 #[.val (.int p1), .val (.int p2), .val (.int p3), .val (.int p4), .val (.int (1 : Int32)), .val (.int v2), .val (.int v3), .val (.int v4), .val (.ref b14), .val (.ref b19)] [(.int (1 : Int32)), (.ref b19)])) rfl rfl (hb hby at_143) _ (XS.bipush X20.here hx rfl (hb hby at_144) k)) ?_
    show own_Go p.tables e below RR (T20.setTop (mkF m 146 #[.val (.int p1), .val (.int p2), .val (.int p3), .val (.int p4), .val (.int (1 : Int32)), .val (.int v2), .val (.int v3), .val (.int v4), .val (.ref b14), .val (.ref b19)] [(.int (10 : Int32)), (.int (10 : Int32))]))
    refine own_st (fun _ k => XS.icmpYes X20.here hx rfl (pc0 := 146) (pc' := 151) rfl (hb hby at_146) rfl (teq (by decide)).1 (by decide) (by decide) (XS.iload X20.here hx rfl (hb hby at_151) rfl k)) ?_
    show own_Go p.tables e below RR (T20.setTop (mkF m 153 #[.val (.int p1), .val (.int p2), .val (.int p3), .val (.int p4), .val (.int (1 : Int32)), .val (.int v2), .val (.int v3), .val (.int v4), .val (.ref b14), .val (.ref b19)] [(.int (1 : Int32))]))
    refine own_st (fun _ k => XS.ifNo X20.here hx rfl (hb hby at_153) rfl ((if0 _ _).trans (tlt (by decide)).2.2.2) (XS.aload X20.here hx rfl (hb hby at_156) rfl rfl (XS.iconst X20.here hx rfl (hb hby at_158) k))) ?_
    show own_Go p.tables e below RR (T20.setTop (mkF m 159 #[.val (.int p1), .val (.int p2), .val (.int p3), .val (.int p4), .val (.int (1 : Int32)), .val (.int v2), .val (.int v3), .val (.int v4), .val (.ref b14), .val (.ref b19)] [(.int (0 : Int32)), (.ref b14)]))
    have f28 := (V17.keep Kq20 nin0)
    obtain ⟨c29, A29, q29, s29, m29, H29, G29⟩ := id f28
    have b29 := inb_of (j := (0 : Int32)) s29 ⟨by decide, by decide⟩
    refine own_st (fun _ k => X20.baloadBytes hx (j := (0 : Int32)) (v := (.int v2.toInt8.toInt32)) (by exact A29.1) (State.isArrayOf_alike hZ.alike A29.2.1) A29.2.2 b29 (Has.at H29 b29 rfl) (g := (mkF m 159 #[.val (.int p1), .val (.int p2), .val (.int p3), .val (.int p4), .val (.int (1 : Int32)), .val (.int v2), .val (.int v3), .val (.int v4), .val (.ref b14), .val (.ref b19)] [(.int (0 : Int32)), (.ref b14)])) rfl rfl (hb hby at_159) _ (XS.iload X20.here hx rfl (hb hby at_160) rfl k)) ?_
    show own_Go p.tables e below RR (T20.setTop (mkF m 162 #[.val (.int p1), .val (.int p2), .val (.int p3), .val (.int p4), .val (.int (1 : Int32)), .val (.int v2), .val (.int v3), .val (.int v4), .val (.ref b14), .val (.ref b19)] [(.int v2), (.int v2.toInt8.toInt32)]))
    refine own_st (fun _ k => XS.icmpYes X20.here hx rfl (pc0 := 162) (pc' := 167) rfl (hb hby at_162) rfl (teq hc100_26).1 (by decide) (by decide) (XS.iload X20.here hx rfl (hb hby at_167) rfl (XS.iconst X20.here hx rfl (hb hby at_169) k))) ?_
    show own_Go p.tables e below RR (T20.setTop (mkF m 170 #[.val (.int p1), .val (.int p2), .val (.int p3), .val (.int p4), .val (.int (1 : Int32)), .val (.int v2), .val (.int v3), .val (.int v4), .val (.ref b14), .val (.ref b19)] [(.int (1 : Int32)), (.int (1 : Int32))]))
    refine own_st (fun _ k => XS.icmpYes X20.here hx rfl (pc0 := 170) (pc' := 184) rfl (hb hby at_170) rfl (flt (by decide)).2.2.2 (by decide) (by decide) (XS.iload X20.here hx rfl (hb hby at_184) rfl (XS.iconst X20.here hx rfl (hb hby at_186) k))) ?_
    show own_Go p.tables e below RR (T20.setTop (mkF m 187 #[.val (.int p1), .val (.int p2), .val (.int p3), .val (.int p4), .val (.int (1 : Int32)), .val (.int v2), .val (.int v3), .val (.int v4), .val (.ref b14), .val (.ref b19)] [(.int (2 : Int32)), (.int (1 : Int32))]))
    refine own_st (fun _ k => XS.icmpYes X20.here hx rfl (pc0 := 187) (pc' := 201) rfl (hb hby at_187) rfl (flt (by decide)).2.2.2 (by decide) (by decide) (XS.iconst X20.here hx rfl (hb hby at_201) k)) ?_
    show own_Go p.tables e below RR (T20.setTop (mkF m 202 #[.val (.int p1), .val (.int p2), .val (.int p3), .val (.int p4), .val (.int (1 : Int32)), .val (.int v2), .val (.int v3), .val (.int v4), .val (.ref b14), .val (.ref b19)] [(.int (1 : Int32))]))
    obtain ⟨fs, hrt_, hrun, hended, hW, hsame⟩ := X20.leave (v := some (.int (1 : Int32))) (fun h => by rw [Bd.returns] at h; cases h)
    refine own_fin (retN X20 hx (t := .boolean) Bd.returns (by simp) (hb hby at_202) hrt_) (hRR _ ⟨_, hrun, hended, _, _, rfl, ?_, ⟨_, rfl⟩, hW, hsame.mono (by decide) (by decide)⟩)
    show own_Q0 Z p1 p2 p3 p4 h0 n0 _ T20.heap _
    exact ⟨rfl, N20⟩
  · show own_Go p.tables e below RR (s₁.setTop (mkF m 17 #[.val (.int p1), .val (.int p2), .val (.int p3), .val (.int p4), .val (.int (2 : Int32)), .val (.int v2), .val (.int v3), .val (.int v4), .unset, .unset] []))
    show own_Go p.tables e below RR (s₁.setTop (mkF m 17 #[.val (.int p1), .val (.int p2), .val (.int p3), .val (.int p4), .val (.int (2 : Int32)), .val (.int v2), .val (.int v3), .val (.int v4), .unset, .unset] []))
    refine own_st (fun _ k => XS.iload X0.here hx rfl (hb hby at_17) rfl k) ?_
    show own_Go p.tables e below RR (s₁.setTop (mkF m 19 #[.val (.int p1), .val (.int p2), .val (.int p3), .val (.int p4), .val (.int (2 : Int32)), .val (.int v2), .val (.int v3), .val (.int v4), .unset, .unset] [(.int (2 : Int32))]))
    obtain ⟨T30, h30, k30, X30, e30, E30, A30, st30⟩ := newP X0 hx hZ (hw _ (List.mem_of_getElem? (i := 0) rfl)) e0 (g := (mkF m 19 #[.val (.int p1), .val (.int p2), .val (.int p3), .val (.int p4), .val (.int (2 : Int32)), .val (.int v2), .val (.int v3), .val (.int v4), .unset, .unset] [(.int (2 : Int32))])) rfl (hb hby at_19) rfl (by decide) (cap := 2) (by decide) (by decide) (by decide) (by decide)
    obtain ⟨b30, gb30⟩ : ∃ z, z = h0.size := ⟨_, rfl⟩
    rw [← gb30] at A30 st30
    have ge30 : n0 ≤ b30 := Nat.le_trans Z0 (Nat.le_of_eq gb30.symm)
    refine own_st st30 ?_
    have z31 : n0 ≤ h30.size := Nat.le_trans Z0 E30.1
    have V30 : Arv Z h30 b30 k30 .byte (2 : Int32) [(.int (0 : Int32)), (.int (0 : Int32))] (.int (0 : Int32)) := (Arv.new A30 (by decide)).pad (pad_rep [] (.int (0 : Int32)) 2)
    show own_Go p.tables e below RR (T30.setTop (mkF m 21 #[.val (.int p1), .val (.int p2), .val (.int p3), .val (.int p4), .val (.int (2 : Int32)), .val (.int v2), .val (.int v3), .val (.int v4), .unset, .unset] [(.ref b30)]))
    refine own_st (fun _ k => XS.astore X30.here hx rfl (hb hby at_21) rfl rfl (l' := #[.val (.int p1), .val (.int p2), .val (.int p3), .val (.int p4), .val (.int (2 : Int32)), .val (.int v2), .val (.int v3), .val (.int v4), .val (.ref b30), .unset]) rfl (XS.iload X30.here hx rfl (hb hby at_23) rfl k)) ?_
    show own_Go p.tables e below RR (T30.setTop (mkF m 25 #[.val (.int p1), .val (.int p2), .val (.int p3), .val (.int p4), .val (.int (2 : Int32)), .val (.int v2), .val (.int v3), .val (.int v4), .val (.ref b30), .unset] [(.int (2 : Int32))]))
    refine own_st (fun _ k => XS.ifNo X30.here hx rfl (hb hby at_25) rfl ((if0 _ _).trans (tlt (by decide)).2.2.2) (XS.aload X30.here hx rfl (hb hby at_28) rfl rfl (XS.iconst X30.here hx rfl (hb hby at_30) (XS.iload X30.here hx rfl (hb hby at_31) rfl k)))) ?_
    show own_Go p.tables e below RR (T30.setTop (mkF m 33 #[.val (.int p1), .val (.int p2), .val (.int p3), .val (.int p4), .val (.int (2 : Int32)), .val (.int v2), .val (.int v3), .val (.int v4), .val (.ref b30), .unset] [(.int v2), (.int (0 : Int32)), (.ref b30)]))
    obtain ⟨c32, A32, q32, s32, m32, H32, G32⟩ := id V30
    obtain ⟨T33, h33, X33, e33, W33, st33⟩ := stB X30 hx hZ e30 A32 (j := (0 : Int32)) (inb_of s32 ⟨by decide, by decide⟩) (g := (mkF m 33 #[.val (.int p1), .val (.int p2), .val (.int p3), .val (.int p4), .val (.int (2 : Int32)), .val (.int v2), .val (.int v3), .val (.int v4), .val (.ref b30), .unset] [(.int v2), (.int (0 : Int32)), (.ref b30)])) rfl rfl (hb hby at_33)
    have V33 := Arv.set A32 q32 s32 m32 H32 G32 (fits_nar_byte _) W33 0 rfl (Nat.le_of_ble_eq_true rfl)
    have V33 : Arv Z h33 b30 k30 .byte (2 : Int32) [(.int v2.toInt8.toInt32), (.int (0 : Int32))] (.int (0 : Int32)) := V33
    have N33 := Fr.snoc X33 N0 ge30
    refine own_st st33 ?_
    have z34 : n0 ≤ h33.size := Nat.le_trans z31 (Keep.of_wr W33).1
    show own_Go p.tables e below RR (T33.setTop (mkF m 34 #[.val (.int p1), .val (.int p2), .val (.int p3), .val (.int p4), .val (.int (2 : Int32)), .val (.int v2), .val (.int v3), .val (.int v4), .val (.ref b30), .unset] []))
    refine own_st (fun _ k => XS.iload X33.here hx rfl (hb hby at_34) rfl (XS.iconst X33.here hx rfl (hb hby at_36) k)) ?_
    show own_Go p.tables e below RR (T33.setTop (mkF m 37 #[.val (.int p1), .val (.int p2), .val (.int p3), .val (.int p4), .val (.int (2 : Int32)), .val (.int v2), .val (.int v3), .val (.int v4), .val (.ref b30), .unset] [(.int (1 : Int32)), (.int (2 : Int32))]))
    refine own_st (fun _ k => XS.icmpNo X33.here hx rfl (hb hby at_37) rfl (tlt (by decide)).2.2.2 (XS.aload X33.here hx rfl (hb hby at_40) rfl rfl (XS.iconst X33.here hx rfl (hb hby at_42) (XS.iload X33.here hx rfl (hb hby at_43) rfl k)))) ?_
    show own_Go p.tables e below RR (T33.setTop (mkF m 45 #[.val (.int p1), .val (.int p2), .val (.int p3), .val (.int p4), .val (.int (2 : Int32)), .val (.int v2), .val (.int v3), .val (.int v4), .val (.ref b30), .unset] [(.int v3), (.int (1 : Int32)), (.ref b30)]))
    obtain ⟨c35, A35, q35, s35, m35, H35, G35⟩ := id V33
    obtain ⟨T36, h36, X36, e36, W36, st36⟩ := stB X33 hx hZ e33 A35 (j := (1 : Int32)) (inb_of s35 ⟨by decide, by decide⟩) (g := (mkF m 45 #[.val (.int p1), .val (.int p2), .val (.int p3), .val (.int p4), .val (.int (2 : Int32)), .val (.int v2), .val (.int v3), .val (.int v4), .val (.ref b30), .unset] [(.int v3), (.int (1 : Int32)), (.ref b30)])) rfl rfl (hb hby at_45)
    have V36 := Arv.set A35 q35 s35 m35 H35 G35 (fits_nar_byte _) W36 1 rfl (Nat.le_of_ble_eq_true rfl)
    have V36 : Arv Z h36 b30 k30 .byte (2 : Int32) [(.int v2.toInt8.toInt32), (.int v3.toInt8.toInt32)] (.int (0 : Int32)) := V36
    have N36 := Fr.snoc X36 N33 ge30
    refine own_st st36 ?_
    have z37 : n0 ≤ h36.size := Nat.le_trans z34 (Keep.of_wr W36).1
    show own_Go p.tables e below RR (T36.setTop (mkF m 46 #[.val (.int p1), .val (.int p2), .val (.int p3), .val (.int p4), .val (.int (2 : Int32)), .val (.int v2), .val (.int v3), .val (.int v4), .val (.ref b30), .unset] []))
    refine own_st (fun _ k => XS.iload X36.here hx rfl (hb hby at_46) rfl (XS.iconst X36.here hx rfl (hb hby at_48) k)) ?_
    show own_Go p.tables e below RR (T36.setTop (mkF m 49 #[.val (.int p1), .val (.int p2), .val (.int p3), .val (.int p4), .val (.int (2 : Int32)), .val (.int v2), .val (.int v3), .val (.int v4), .val (.ref b30), .unset] [(.int (2 : Int32)), (.int (2 : Int32))]))
    refine own_st (fun _ k => XS.icmpYes X36.here hx rfl (pc0 := 49) (pc' := 58) rfl (hb hby at_49) rfl (flt (by decide)).2.2.2 (by decide) (by decide) (XS.aload X36.here hx rfl (hb hby at_58) rfl rfl k)) ?_
    show own_Go p.tables e below RR (T36.setTop (mkF m 60 #[.val (.int p1), .val (.int p2), .val (.int p3), .val (.int p4), .val (.int (2 : Int32)), .val (.int v2), .val (.int v3), .val (.int v4), .val (.ref b30), .unset] [(.ref b30)]))
    obtain ⟨b38, gb38⟩ : ∃ z, z = h36.size := ⟨_, rfl⟩
    have ge38 : n0 ≤ b38 := Nat.le_trans z37 (Nat.le_of_eq gb38.symm)
    obtain ⟨_, _, ⟨T39, L39, k39, n39⟩, -, X39, ⟨Lc39, hQ39, l39, y39, z39⟩, st39⟩ := Jvm.LawKit.callS X36 hx (y := (⟨"com/example/seshat/seshat/bundles/Spill", "line", "([B)[B"⟩ : MethodName)) hown (mvT hZ (hw _ (List.mem_of_getElem? (i := 1) rfl))) (mvT hZ (hw _ (List.mem_of_getElem? (i := 2) rfl))) (mvT hZ (hw _ (List.mem_of_getElem? (i := 3) rfl))) (mvT hZ (hw _ (List.mem_of_getElem? (i := 4) rfl))) (by decide) (backOf (W := 0) (own_rmN2 l Z a0 hw [] b30 k30 v2.toInt8.toInt32 v3.toInt8.toInt32 b38 h36 n0 z37 V36 gb38) hZ (hw _ (List.mem_of_getElem? (i := 4) rfl)) (hw _ (List.mem_of_getElem? (i := 3) rfl)) (by decide) (by decide)) (g := (mkF m 60 #[.val (.int p1), .val (.int p2), .val (.int p3), .val (.int p4), .val (.int (2 : Int32)), .val (.int v2), .val (.int v3), .val (.int v4), .val (.ref b30), .unset] [(.ref b30)])) rfl (by rw [hml]; rfl) (argsL := [(.ref b30)]) (rest := []) (lenOf own_pd___B__B rfl) rfl (by show 2 * 0 + _ ≤ _; exact Nat.le_of_eq rfl) (hb hby at_60) (fun _ _ => ⟨rfl, e36, (by decide : 1 + 1 ≤ _), (by decide : 2 + 3 ≤ _)⟩)
    dsimp only [Pt.U, Pt.locs, Pt.cells, Pt.slots] at X39 l39 y39 z39 st39 hQ39
    subst l39 y39 z39
    obtain ⟨rfl, Nq39, Kq39, kq39, Vq39⟩ := hQ39
    have N39 := Fr.app N36 Nq39
    refine own_st st39 ?_
    have z40 : n0 ≤ T39.heap.size := Nat.le_trans z37 Kq39.1
    show own_Go p.tables e below RR (T39.setTop (mkF m 63 #[.val (.int p1), .val (.int p2), .val (.int p3), .val (.int p4), .val (.int (2 : Int32)), .val (.int v2), .val (.int v3), .val (.int v4), .val (.ref b30), .unset] [(.ref b38)]))
    refine own_st (fun _ k => XS.astore X39.here hx rfl (hb hby at_63) rfl rfl (l' := #[.val (.int p1), .val (.int p2), .val (.int p3), .val (.int p4), .val (.int (2 : Int32)), .val (.int v2), .val (.int v3), .val (.int v4), .val (.ref b30), .val (.ref b38)]) rfl (XS.aload X39.here hx rfl (hb hby at_65) rfl rfl k)) ?_
    show own_Go p.tables e below RR (T39.setTop (mkF m 67 #[.val (.int p1), .val (.int p2), .val (.int p3), .val (.int p4), .val (.int (2 : Int32)), .val (.int v2), .val (.int v3), .val (.int v4), .val (.ref b30), .val (.ref b38)] [(.ref b38)]))
    refine own_st (fun _ k => XS.ifnullNo X39.here hx rfl (hb hby at_67) rfl (XS.aload X39.here hx rfl (hb hby at_70) rfl rfl (XS.aload X39.here hx rfl (hb hby at_72) rfl rfl k))) ?_
    show own_Go p.tables e below RR (T39.setTop (mkF m 74 #[.val (.int p1), .val (.int p2), .val (.int p3), .val (.int p4), .val (.int (2 : Int32)), .val (.int v2), .val (.int v3), .val (.int v4), .val (.ref b30), .val (.ref b38)] [(.ref b30), (.ref b38)]))
    have ne41 : b30 ≠ b38 := (Nat.ne_of_lt (Nat.lt_of_lt_of_le V36.lt (Nat.le_of_eq gb38.symm)))
    have hc74_42 : ¬ (b38 = b30) := (Ne.symm ne41)
    refine own_st (fun _ k => Jvm.RoadKit.acmp (g := (mkF m 74 #[.val (.int p1), .val (.int p2), .val (.int p3), .val (.int p4), .val (.int (2 : Int32)), .val (.int v2), .val (.int v3), .val (.int v4), .val (.ref b30), .val (.ref b38)] [(.ref b30), (.ref b38)])) X39 hx rfl rfl rfl (pc0 := 74) (pc' := 77) (same := false) rfl (hb hby at_74) rfl (decide_eq_false fun q => hc74_42 (Value.ref.inj q)) (by decide) (by decide) (XS.aload X39.here hx rfl (hb hby at_77) rfl rfl k)) ?_
    show own_Go p.tables e below RR (T39.setTop (mkF m 79 #[.val (.int p1), .val (.int p2), .val (.int p3), .val (.int p4), .val (.int (2 : Int32)), .val (.int v2), .val (.int v3), .val (.int v4), .val (.ref b30), .val (.ref b38)] [(.ref b38)]))
    obtain ⟨c43, A43, -, s43, m43, -, -⟩ := id Vq39
    refine own_st (fun _ k => own_len X39 hx hZ rfl A43 s43 m43 (g := (mkF m 79 #[.val (.int p1), .val (.int p2), .val (.int p3), .val (.int p4), .val (.int (2 : Int32)), .val (.int v2), .val (.int v3), .val (.int v4), .val (.ref b30), .val (.ref b38)] [(.ref b38)])) rfl rfl (hb hby at_79) (XS.iload X39.here hx rfl (hb hby at_80) rfl (XS.iconst X39.here hx rfl (hb hby at_82) (XS.iadd X39.here hx rfl (hb hby at_83) rfl k)))) ?_
    show own_Go p.tables e below RR (T39.setTop (mkF m 84 #[.val (.int p1), .val (.int p2), .val (.int p3), .val (.int p4), .val (.int (2 : Int32)), .val (.int v2), .val (.int v3), .val (.int v4), .val (.ref b30), .val (.ref b38)] [(.int (3 : Int32)), (.int (3 : Int32))]))
    refine own_st (fun _ k => XS.icmpYes X39.here hx rfl (pc0 := 84) (pc' := 89) rfl (hb hby at_84) rfl (teq (by decide)).1 (by decide) (by decide) (XS.iload X39.here hx rfl (hb hby at_89) rfl k)) ?_
    show own_Go p.tables e below RR (T39.setTop (mkF m 91 #[.val (.int p1), .val (.int p2), .val (.int p3), .val (.int p4), .val (.int (2 : Int32)), .val (.int v2), .val (.int v3), .val (.int v4), .val (.ref b30), .val (.ref b38)] [(.int (2 : Int32))]))
    refine own_st (fun _ k => XS.ifNo X39.here hx rfl (hb hby at_91) rfl ((if0 _ _).trans (tlt (by decide)).2.2.2) (XS.aload X39.here hx rfl (hb hby at_94) rfl rfl (XS.iconst X39.here hx rfl (hb hby at_96) k))) ?_
    show own_Go p.tables e below RR (T39.setTop (mkF m 97 #[.val (.int p1), .val (.int p2), .val (.int p3), .val (.int p4), .val (.int (2 : Int32)), .val (.int v2), .val (.int v3), .val (.int v4), .val (.ref b30), .val (.ref b38)] [(.int (0 : Int32)), (.ref b38)]))
    obtain ⟨c44, A44, q44, s44, m44, H44, G44⟩ := id Vq39
    have b44 := inb_of (j := (0 : Int32)) s44 ⟨by decide, by decide⟩
    refine own_st (fun _ k => X39.baloadBytes hx (j := (0 : Int32)) (v := (.int v2.toInt8.toInt32)) (by exact A44.1) (State.isArrayOf_alike hZ.alike A44.2.1) A44.2.2 b44 (Has.at H44 b44 rfl) (g := (mkF m 97 #[.val (.int p1), .val (.int p2), .val (.int p3), .val (.int p4), .val (.int (2 : Int32)), .val (.int v2), .val (.int v3), .val (.int v4), .val (.ref b30), .val (.ref b38)] [(.int (0 : Int32)), (.ref b38)])) rfl rfl (hb hby at_97) _ (XS.iload X39.here hx rfl (hb hby at_98) rfl k)) ?_
    show own_Go p.tables e below RR (T39.setTop (mkF m 100 #[.val (.int p1), .val (.int p2), .val (.int p3), .val (.int p4), .val (.int (2 : Int32)), .val (.int v2), .val (.int v3), .val (.int v4), .val (.ref b30), .val (.ref b38)] [(.int v2), (.int v2.toInt8.toInt32)]))
    have hc100_45 : v2.toInt8.toInt32 = v2 := own_bb gv2
    refine own_st (fun _ k => XS.icmpYes X39.here hx rfl (pc0 := 100) (pc' := 105) rfl (hb hby at_100) rfl (teq hc100_45).1 (by decide) (by decide) (XS.iload X39.here hx rfl (hb hby at_105) rfl (XS.iconst X39.here hx rfl (hb hby at_107) k))) ?_
    show own_Go p.tables e below RR (T39.setTop (mkF m 108 #[.val (.int p1), .val (.int p2), .val (.int p3), .val (.int p4), .val (.int (2 : Int32)), .val (.int v2), .val (.int v3), .val (.int v4), .val (.ref b30), .val (.ref b38)] [(.int (1 : Int32)), (.int (2 : Int32))]))
    refine own_st (fun _ k => XS.icmpNo X39.here hx rfl (hb hby at_108) rfl (tlt (by decide)).2.2.2 (XS.aload X39.here hx rfl (hb hby at_111) rfl rfl (XS.iconst X39.here hx rfl (hb hby at_113) k))) ?_
    show own_Go p.tables e below RR (T39.setTop (mkF m 114 #[.val (.int p1), .val (.int p2), .val (.int p3), .val (.int p4), .val (.int (2 : Int32)), .val (.int v2), .val (.int v3), .val (.int v4), .val (.ref b30), .val (.ref b38)] [(.int (1 : Int32)), (.ref b38)]))
    obtain ⟨c46, A46, q46, s46, m46, H46, G46⟩ := id Vq39
    have b46 := inb_of (j := (1 : Int32)) s46 ⟨by decide, by decide⟩
    refine own_st (fun _ k => X39.baloadBytes hx (j := (1 : Int32)) (v := (.int v3.toInt8.toInt32)) (by exact A46.1) (State.isArrayOf_alike hZ.alike A46.2.1) A46.2.2 b46 (Has.at H46 b46 rfl) (g := (mkF m 114 #[.val (.int p1), .val (.int p2), .val (.int p3), .val (.int p4), .val (.int (2 : Int32)), .val (.int v2), .val (.int v3), .val (.int v4), .val (.ref b30), .val (.ref b38)] [(.int (1 : Int32)), (.ref b38)])) rfl rfl (hb hby at_114) _ (XS.iload X39.here hx rfl (hb hby at_115) rfl k)) ?_
    show own_Go p.tables e below RR (T39.setTop (mkF m 117 #[.val (.int p1), .val (.int p2), .val (.int p3), .val (.int p4), .val (.int (2 : Int32)), .val (.int v2), .val (.int v3), .val (.int v4), .val (.ref b30), .val (.ref b38)] [(.int v3), (.int v3.toInt8.toInt32)]))
    have hc117_47 : v3.toInt8.toInt32 = v3 := own_bb gv3
    refine own_st (fun _ k => XS.icmpYes X39.here hx rfl (pc0 := 117) (pc' := 122) rfl (hb hby at_117) rfl (teq hc117_47).1 (by decide) (by decide) (XS.iload X39.here hx rfl (hb hby at_122) rfl (XS.iconst X39.here hx rfl (hb hby at_124) k))) ?_
    show own_Go p.tables e below RR (T39.setTop (mkF m 125 #[.val (.int p1), .val (.int p2), .val (.int p3), .val (.int p4), .val (.int (2 : Int32)), .val (.int v2), .val (.int v3), .val (.int v4), .val (.ref b30), .val (.ref b38)] [(.int (2 : Int32)), (.int (2 : Int32))]))
    refine own_st (fun _ k => XS.icmpYes X39.here hx rfl (pc0 := 125) (pc' := 139) rfl (hb hby at_125) rfl (flt (by decide)).2.2.2 (by decide) (by decide) (XS.aload X39.here hx rfl (hb hby at_139) rfl rfl (XS.iload X39.here hx rfl (hb hby at_141) rfl k))) ?_
    show own_Go p.tables e below RR (T39.setTop (mkF m 143 #[.val (.int p1), .val (.int p2), .val (.int p3), .val (.int p4), .val (.int (2 : Int32)), .val (.int v2), .val (.int v3), .val (.int v4), .val (.ref b30), .val (.ref b38)] [(.int (2 : Int32)), (.ref b38)]))
    obtain ⟨c48, A48, q48, s48, m48, H48, G48⟩ := id Vq39
    have b48 := inb_of (j := (2 : Int32)) s48 ⟨by decide, by decide⟩
    refine own_st (fun _ k => X39.baloadBytes hx (j := (2 : Int32)) (v := (.int (10 : Int32))) (by exact A48.1) (State.isArrayOf_alike hZ.alike A48.2.1) A48.2.2 b48 (Has.at H48 b48 rfl) (g := (mkF m 143 #[.val (.int p1), .val (.int p2), .val (.int p3), .val (.int p4), .val (.int (2 : Int32)), .val (.int v2), .val (.int v3), .val (.int v4), .val (.ref b30), .val (.ref b38)] [(.int (2 : Int32)), (.ref b38)])) rfl rfl (hb hby at_143) _ (XS.bipush X39.here hx rfl (hb hby at_144) k)) ?_
    show own_Go p.tables e below RR (T39.setTop (mkF m 146 #[.val (.int p1), .val (.int p2), .val (.int p3), .val (.int p4), .val (.int (2 : Int32)), .val (.int v2), .val (.int v3), .val (.int v4), .val (.ref b30), .val (.ref b38)] [(.int (10 : Int32)), (.int (10 : Int32))]))
    refine own_st (fun _ k => XS.icmpYes X39.here hx rfl (pc0 := 146) (pc' := 151) rfl (hb hby at_146) rfl (teq (by decide)).1 (by decide) (by decide) (XS.iload X39.here hx rfl (hb hby at_151) rfl k)) ?_
    show own_Go p.tables e below RR (T39.setTop (mkF m 153 #[.val (.int p1), .val (.int p2), .val (.int p3), .val (.int p4), .val (.int (2 : Int32)), .val (.int v2), .val (.int v3), .val (.int v4), .val (.ref b30), .val (.ref b38)] [(.int (2 : Int32))]))
    refine own_st (fun _ k => XS.ifNo X39.here hx rfl (hb hby at_153) rfl ((if0 _ _).trans (tlt (by decide)).2.2.2) (XS.aload X39.here hx rfl (hb hby at_156) rfl rfl (XS.iconst X39.here hx rfl (hb hby at_158) k))) ?_
    show own_Go p.tables e below RR (T39.setTop (mkF m 159 #[.val (.int p1), .val (.int p2), .val (.int p3), .val (.int p4), .val (.int (2 : Int32)), .val (.int v2), .val (.int v3), .val (.int v4), .val (.ref b30), .val (.ref b38)] [(.int (0 : Int32)), (.ref b30)]))
    have f49 := (V36.keep Kq39 nin0)
    obtain ⟨c50, A50, q50, s50, m50, H50, G50⟩ := id f49
    have b50 := inb_of (j := (0 : Int32)) s50 ⟨by decide, by decide⟩
    refine own_st (fun _ k => X39.baloadBytes hx (j := (0 : Int32)) (v := (.int v2.toInt8.toInt32)) (by exact A50.1) (State.isArrayOf_alike hZ.alike A50.2.1) A50.2.2 b50 (Has.at H50 b50 rfl) (g := (mkF m 159 #[.val (.int p1), .val (.int p2), .val (.int p3), .val (.int p4), .val (.int (2 : Int32)), .val (.int v2), .val (.int v3), .val (.int v4), .val (.ref b30), .val (.ref b38)] [(.int (0 : Int32)), (.ref b30)])) rfl rfl (hb hby at_159) _ (XS.iload X39.here hx rfl (hb hby at_160) rfl k)) ?_
    show own_Go p.tables e below RR (T39.setTop (mkF m 162 #[.val (.int p1), .val (.int p2), .val (.int p3), .val (.int p4), .val (.int (2 : Int32)), .val (.int v2), .val (.int v3), .val (.int v4), .val (.ref b30), .val (.ref b38)] [(.int v2), (.int v2.toInt8.toInt32)]))
    refine own_st (fun _ k => XS.icmpYes X39.here hx rfl (pc0 := 162) (pc' := 167) rfl (hb hby at_162) rfl (teq hc100_45).1 (by decide) (by decide) (XS.iload X39.here hx rfl (hb hby at_167) rfl (XS.iconst X39.here hx rfl (hb hby at_169) k))) ?_
    show own_Go p.tables e below RR (T39.setTop (mkF m 170 #[.val (.int p1), .val (.int p2), .val (.int p3), .val (.int p4), .val (.int (2 : Int32)), .val (.int v2), .val (.int v3), .val (.int v4), .val (.ref b30), .val (.ref b38)] [(.int (1 : Int32)), (.int (2 : Int32))]))
    refine own_st (fun _ k => XS.icmpNo X39.here hx rfl (hb hby at_170) rfl (tlt (by decide)).2.2.2 (XS.aload X39.here hx rfl (hb hby at_173) rfl rfl (XS.iconst X39.here hx rfl (hb hby at_175) k))) ?_
    show own_Go p.tables e below RR (T39.setTop (mkF m 176 #[.val (.int p1), .val (.int p2), .val (.int p3), .val (.int p4), .val (.int (2 : Int32)), .val (.int v2), .val (.int v3), .val (.int v4), .val (.ref b30), .val (.ref b38)] [(.int (1 : Int32)), (.ref b30)]))
    obtain ⟨c51, A51, q51, s51, m51, H51, G51⟩ := id f49
    have b51 := inb_of (j := (1 : Int32)) s51 ⟨by decide, by decide⟩
    refine own_st (fun _ k => X39.baloadBytes hx (j := (1 : Int32)) (v := (.int v3.toInt8.toInt32)) (by exact A51.1) (State.isArrayOf_alike hZ.alike A51.2.1) A51.2.2 b51 (Has.at H51 b51 rfl) (g := (mkF m 176 #[.val (.int p1), .val (.int p2), .val (.int p3), .val (.int p4), .val (.int (2 : Int32)), .val (.int v2), .val (.int v3), .val (.int v4), .val (.ref b30), .val (.ref b38)] [(.int (1 : Int32)), (.ref b30)])) rfl rfl (hb hby at_176) _ (XS.iload X39.here hx rfl (hb hby at_177) rfl k)) ?_
    show own_Go p.tables e below RR (T39.setTop (mkF m 179 #[.val (.int p1), .val (.int p2), .val (.int p3), .val (.int p4), .val (.int (2 : Int32)), .val (.int v2), .val (.int v3), .val (.int v4), .val (.ref b30), .val (.ref b38)] [(.int v3), (.int v3.toInt8.toInt32)]))
    refine own_st (fun _ k => XS.icmpYes X39.here hx rfl (pc0 := 179) (pc' := 184) rfl (hb hby at_179) rfl (teq hc117_47).1 (by decide) (by decide) (XS.iload X39.here hx rfl (hb hby at_184) rfl (XS.iconst X39.here hx rfl (hb hby at_186) k))) ?_
    show own_Go p.tables e below RR (T39.setTop (mkF m 187 #[.val (.int p1), .val (.int p2), .val (.int p3), .val (.int p4), .val (.int (2 : Int32)), .val (.int v2), .val (.int v3), .val (.int v4), .val (.ref b30), .val (.ref b38)] [(.int (2 : Int32)), (.int (2 : Int32))]))
    refine own_st (fun _ k => XS.icmpYes X39.here hx rfl (pc0 := 187) (pc' := 201) rfl (hb hby at_187) rfl (flt (by decide)).2.2.2 (by decide) (by decide) (XS.iconst X39.here hx rfl (hb hby at_201) k)) ?_
    show own_Go p.tables e below RR (T39.setTop (mkF m 202 #[.val (.int p1), .val (.int p2), .val (.int p3), .val (.int p4), .val (.int (2 : Int32)), .val (.int v2), .val (.int v3), .val (.int v4), .val (.ref b30), .val (.ref b38)] [(.int (1 : Int32))]))
    obtain ⟨fs, hrt_, hrun, hended, hW, hsame⟩ := X39.leave (v := some (.int (1 : Int32))) (fun h => by rw [Bd.returns] at h; cases h)
    refine own_fin (retN X39 hx (t := .boolean) Bd.returns (by simp) (hb hby at_202) hrt_) (hRR _ ⟨_, hrun, hended, _, _, rfl, ?_, ⟨_, rfl⟩, hW, hsame.mono (by decide) (by decide)⟩)
    show own_Q0 Z p1 p2 p3 p4 h0 n0 _ T39.heap _
    exact ⟨rfl, N39⟩
  · show own_Go p.tables e below RR (s₁.setTop (mkF m 17 #[.val (.int p1), .val (.int p2), .val (.int p3), .val (.int p4), .val (.int (3 : Int32)), .val (.int v2), .val (.int v3), .val (.int v4), .unset, .unset] []))
    show own_Go p.tables e below RR (s₁.setTop (mkF m 17 #[.val (.int p1), .val (.int p2), .val (.int p3), .val (.int p4), .val (.int (3 : Int32)), .val (.int v2), .val (.int v3), .val (.int v4), .unset, .unset] []))
    refine own_st (fun _ k => XS.iload X0.here hx rfl (hb hby at_17) rfl k) ?_
    show own_Go p.tables e below RR (s₁.setTop (mkF m 19 #[.val (.int p1), .val (.int p2), .val (.int p3), .val (.int p4), .val (.int (3 : Int32)), .val (.int v2), .val (.int v3), .val (.int v4), .unset, .unset] [(.int (3 : Int32))]))
    obtain ⟨T52, h52, k52, X52, e52, E52, A52, st52⟩ := newP X0 hx hZ (hw _ (List.mem_of_getElem? (i := 0) rfl)) e0 (g := (mkF m 19 #[.val (.int p1), .val (.int p2), .val (.int p3), .val (.int p4), .val (.int (3 : Int32)), .val (.int v2), .val (.int v3), .val (.int v4), .unset, .unset] [(.int (3 : Int32))])) rfl (hb hby at_19) rfl (by decide) (cap := 3) (by decide) (by decide) (by decide) (by decide)
    obtain ⟨b52, gb52⟩ : ∃ z, z = h0.size := ⟨_, rfl⟩
    rw [← gb52] at A52 st52
    have ge52 : n0 ≤ b52 := Nat.le_trans Z0 (Nat.le_of_eq gb52.symm)
    refine own_st st52 ?_
    have z53 : n0 ≤ h52.size := Nat.le_trans Z0 E52.1
    have V52 : Arv Z h52 b52 k52 .byte (3 : Int32) [(.int (0 : Int32)), (.int (0 : Int32)), (.int (0 : Int32))] (.int (0 : Int32)) := (Arv.new A52 (by decide)).pad (pad_rep [] (.int (0 : Int32)) 3)
    show own_Go p.tables e below RR (T52.setTop (mkF m 21 #[.val (.int p1), .val (.int p2), .val (.int p3), .val (.int p4), .val (.int (3 : Int32)), .val (.int v2), .val (.int v3), .val (.int v4), .unset, .unset] [(.ref b52)]))
    refine own_st (fun _ k => XS.astore X52.here hx rfl (hb hby at_21) rfl rfl (l' := #[.val (.int p1), .val (.int p2), .val (.int p3), .val (.int p4), .val (.int (3 : Int32)), .val (.int v2), .val (.int v3), .val (.int v4), .val (.ref b52), .unset]) rfl (XS.iload X52.here hx rfl (hb hby at_23) rfl k)) ?_
    show own_Go p.tables e below RR (T52.setTop (mkF m 25 #[.val (.int p1), .val (.int p2), .val (.int p3), .val (.int p4), .val (.int (3 : Int32)), .val (.int v2), .val (.int v3), .val (.int v4), .val (.ref b52), .unset] [(.int (3 : Int32))]))
    refine own_st (fun _ k => XS.ifNo X52.here hx rfl (hb hby at_25) rfl ((if0 _ _).trans (tlt (by decide)).2.2.2) (XS.aload X52.here hx rfl (hb hby at_28) rfl rfl (XS.iconst X52.here hx rfl (hb hby at_30) (XS.iload X52.here hx rfl (hb hby at_31) rfl k)))) ?_
    show own_Go p.tables e below RR (T52.setTop (mkF m 33 #[.val (.int p1), .val (.int p2), .val (.int p3), .val (.int p4), .val (.int (3 : Int32)), .val (.int v2), .val (.int v3), .val (.int v4), .val (.ref b52), .unset] [(.int v2), (.int (0 : Int32)), (.ref b52)]))
    obtain ⟨c54, A54, q54, s54, m54, H54, G54⟩ := id V52
    obtain ⟨T55, h55, X55, e55, W55, st55⟩ := stB X52 hx hZ e52 A54 (j := (0 : Int32)) (inb_of s54 ⟨by decide, by decide⟩) (g := (mkF m 33 #[.val (.int p1), .val (.int p2), .val (.int p3), .val (.int p4), .val (.int (3 : Int32)), .val (.int v2), .val (.int v3), .val (.int v4), .val (.ref b52), .unset] [(.int v2), (.int (0 : Int32)), (.ref b52)])) rfl rfl (hb hby at_33)
    have V55 := Arv.set A54 q54 s54 m54 H54 G54 (fits_nar_byte _) W55 0 rfl (Nat.le_of_ble_eq_true rfl)
    have V55 : Arv Z h55 b52 k52 .byte (3 : Int32) [(.int v2.toInt8.toInt32), (.int (0 : Int32)), (.int (0 : Int32))] (.int (0 : Int32)) := V55
    have N55 := Fr.snoc X55 N0 ge52
    refine own_st st55 ?_
    have z56 : n0 ≤ h55.size := Nat.le_trans z53 (Keep.of_wr W55).1
    show own_Go p.tables e below RR (T55.setTop (mkF m 34 #[.val (.int p1), .val (.int p2), .val (.int p3), .val (.int p4), .val (.int (3 : Int32)), .val (.int v2), .val (.int v3), .val (.int v4), .val (.ref b52), .unset] []))
    refine own_st (fun _ k => XS.iload X55.here hx rfl (hb hby at_34) rfl (XS.iconst X55.here hx rfl (hb hby at_36) k)) ?_
    show own_Go p.tables e below RR (T55.setTop (mkF m 37 #[.val (.int p1), .val (.int p2), .val (.int p3), .val (.int p4), .val (.int (3 : Int32)), .val (.int v2), .val (.int v3), .val (.int v4), .val (.ref b52), .unset] [(.int (1 : Int32)), (.int (3 : Int32))]))
    refine own_st (fun _ k => XS.icmpNo X55.here hx rfl (hb hby at_37) rfl (tlt (by decide)).2.2.2 (XS.aload X55.here hx rfl (hb hby at_40) rfl rfl (XS.iconst X55.here hx rfl (hb hby at_42) (XS.iload X55.here hx rfl (hb hby at_43) rfl k)))) ?_
    show own_Go p.tables e below RR (T55.setTop (mkF m 45 #[.val (.int p1), .val (.int p2), .val (.int p3), .val (.int p4), .val (.int (3 : Int32)), .val (.int v2), .val (.int v3), .val (.int v4), .val (.ref b52), .unset] [(.int v3), (.int (1 : Int32)), (.ref b52)]))
    obtain ⟨c57, A57, q57, s57, m57, H57, G57⟩ := id V55
    obtain ⟨T58, h58, X58, e58, W58, st58⟩ := stB X55 hx hZ e55 A57 (j := (1 : Int32)) (inb_of s57 ⟨by decide, by decide⟩) (g := (mkF m 45 #[.val (.int p1), .val (.int p2), .val (.int p3), .val (.int p4), .val (.int (3 : Int32)), .val (.int v2), .val (.int v3), .val (.int v4), .val (.ref b52), .unset] [(.int v3), (.int (1 : Int32)), (.ref b52)])) rfl rfl (hb hby at_45)
    have V58 := Arv.set A57 q57 s57 m57 H57 G57 (fits_nar_byte _) W58 1 rfl (Nat.le_of_ble_eq_true rfl)
    have V58 : Arv Z h58 b52 k52 .byte (3 : Int32) [(.int v2.toInt8.toInt32), (.int v3.toInt8.toInt32), (.int (0 : Int32))] (.int (0 : Int32)) := V58
    have N58 := Fr.snoc X58 N55 ge52
    refine own_st st58 ?_
    have z59 : n0 ≤ h58.size := Nat.le_trans z56 (Keep.of_wr W58).1
    show own_Go p.tables e below RR (T58.setTop (mkF m 46 #[.val (.int p1), .val (.int p2), .val (.int p3), .val (.int p4), .val (.int (3 : Int32)), .val (.int v2), .val (.int v3), .val (.int v4), .val (.ref b52), .unset] []))
    refine own_st (fun _ k => XS.iload X58.here hx rfl (hb hby at_46) rfl (XS.iconst X58.here hx rfl (hb hby at_48) k)) ?_
    show own_Go p.tables e below RR (T58.setTop (mkF m 49 #[.val (.int p1), .val (.int p2), .val (.int p3), .val (.int p4), .val (.int (3 : Int32)), .val (.int v2), .val (.int v3), .val (.int v4), .val (.ref b52), .unset] [(.int (2 : Int32)), (.int (3 : Int32))]))
    refine own_st (fun _ k => XS.icmpNo X58.here hx rfl (hb hby at_49) rfl (tlt (by decide)).2.2.2 (XS.aload X58.here hx rfl (hb hby at_52) rfl rfl (XS.iconst X58.here hx rfl (hb hby at_54) (XS.iload X58.here hx rfl (hb hby at_55) rfl k)))) ?_
    show own_Go p.tables e below RR (T58.setTop (mkF m 57 #[.val (.int p1), .val (.int p2), .val (.int p3), .val (.int p4), .val (.int (3 : Int32)), .val (.int v2), .val (.int v3), .val (.int v4), .val (.ref b52), .unset] [(.int v4), (.int (2 : Int32)), (.ref b52)]))
    obtain ⟨c60, A60, q60, s60, m60, H60, G60⟩ := id V58
    obtain ⟨T61, h61, X61, e61, W61, st61⟩ := stB X58 hx hZ e58 A60 (j := (2 : Int32)) (inb_of s60 ⟨by decide, by decide⟩) (g := (mkF m 57 #[.val (.int p1), .val (.int p2), .val (.int p3), .val (.int p4), .val (.int (3 : Int32)), .val (.int v2), .val (.int v3), .val (.int v4), .val (.ref b52), .unset] [(.int v4), (.int (2 : Int32)), (.ref b52)])) rfl rfl (hb hby at_57)
    have V61 := Arv.set A60 q60 s60 m60 H60 G60 (fits_nar_byte _) W61 2 rfl (Nat.le_of_ble_eq_true rfl)
    have V61 : Arv Z h61 b52 k52 .byte (3 : Int32) [(.int v2.toInt8.toInt32), (.int v3.toInt8.toInt32), (.int v4.toInt8.toInt32)] (.int (0 : Int32)) := V61
    have N61 := Fr.snoc X61 N58 ge52
    refine own_st st61 ?_
    have z62 : n0 ≤ h61.size := Nat.le_trans z59 (Keep.of_wr W61).1
    show own_Go p.tables e below RR (T61.setTop (mkF m 58 #[.val (.int p1), .val (.int p2), .val (.int p3), .val (.int p4), .val (.int (3 : Int32)), .val (.int v2), .val (.int v3), .val (.int v4), .val (.ref b52), .unset] []))
    refine own_st (fun _ k => XS.aload X61.here hx rfl (hb hby at_58) rfl rfl k) ?_
    show own_Go p.tables e below RR (T61.setTop (mkF m 60 #[.val (.int p1), .val (.int p2), .val (.int p3), .val (.int p4), .val (.int (3 : Int32)), .val (.int v2), .val (.int v3), .val (.int v4), .val (.ref b52), .unset] [(.ref b52)]))
    obtain ⟨b63, gb63⟩ : ∃ z, z = h61.size := ⟨_, rfl⟩
    have ge63 : n0 ≤ b63 := Nat.le_trans z62 (Nat.le_of_eq gb63.symm)
    obtain ⟨_, _, ⟨T64, L64, k64, n64⟩, -, X64, ⟨Lc64, hQ64, l64, y64, z64⟩, st64⟩ := Jvm.LawKit.callS X61 hx (y := (⟨"com/example/seshat/seshat/bundles/Spill", "line", "([B)[B"⟩ : MethodName)) hown (mvT hZ (hw _ (List.mem_of_getElem? (i := 1) rfl))) (mvT hZ (hw _ (List.mem_of_getElem? (i := 2) rfl))) (mvT hZ (hw _ (List.mem_of_getElem? (i := 3) rfl))) (mvT hZ (hw _ (List.mem_of_getElem? (i := 4) rfl))) (by decide) (backOf (W := 0) (own_rmN3 l Z a0 hw [] b52 k52 v2.toInt8.toInt32 v3.toInt8.toInt32 v4.toInt8.toInt32 b63 h61 n0 z62 V61 gb63) hZ (hw _ (List.mem_of_getElem? (i := 4) rfl)) (hw _ (List.mem_of_getElem? (i := 3) rfl)) (by decide) (by decide)) (g := (mkF m 60 #[.val (.int p1), .val (.int p2), .val (.int p3), .val (.int p4), .val (.int (3 : Int32)), .val (.int v2), .val (.int v3), .val (.int v4), .val (.ref b52), .unset] [(.ref b52)])) rfl (by rw [hml]; rfl) (argsL := [(.ref b52)]) (rest := []) (lenOf own_pd___B__B rfl) rfl (by show 2 * 0 + _ ≤ _; exact Nat.le_of_eq rfl) (hb hby at_60) (fun _ _ => ⟨rfl, e61, (by decide : 1 + 1 ≤ _), (by decide : 3 + 4 ≤ _)⟩)
    dsimp only [Pt.U, Pt.locs, Pt.cells, Pt.slots] at X64 l64 y64 z64 st64 hQ64
    subst l64 y64 z64
    obtain ⟨rfl, Nq64, Kq64, kq64, Vq64⟩ := hQ64
    have N64 := Fr.app N61 Nq64
    refine own_st st64 ?_
    have z65 : n0 ≤ T64.heap.size := Nat.le_trans z62 Kq64.1
    show own_Go p.tables e below RR (T64.setTop (mkF m 63 #[.val (.int p1), .val (.int p2), .val (.int p3), .val (.int p4), .val (.int (3 : Int32)), .val (.int v2), .val (.int v3), .val (.int v4), .val (.ref b52), .unset] [(.ref b63)]))
    refine own_st (fun _ k => XS.astore X64.here hx rfl (hb hby at_63) rfl rfl (l' := #[.val (.int p1), .val (.int p2), .val (.int p3), .val (.int p4), .val (.int (3 : Int32)), .val (.int v2), .val (.int v3), .val (.int v4), .val (.ref b52), .val (.ref b63)]) rfl (XS.aload X64.here hx rfl (hb hby at_65) rfl rfl k)) ?_
    show own_Go p.tables e below RR (T64.setTop (mkF m 67 #[.val (.int p1), .val (.int p2), .val (.int p3), .val (.int p4), .val (.int (3 : Int32)), .val (.int v2), .val (.int v3), .val (.int v4), .val (.ref b52), .val (.ref b63)] [(.ref b63)]))
    refine own_st (fun _ k => XS.ifnullNo X64.here hx rfl (hb hby at_67) rfl (XS.aload X64.here hx rfl (hb hby at_70) rfl rfl (XS.aload X64.here hx rfl (hb hby at_72) rfl rfl k))) ?_
    show own_Go p.tables e below RR (T64.setTop (mkF m 74 #[.val (.int p1), .val (.int p2), .val (.int p3), .val (.int p4), .val (.int (3 : Int32)), .val (.int v2), .val (.int v3), .val (.int v4), .val (.ref b52), .val (.ref b63)] [(.ref b52), (.ref b63)]))
    have ne66 : b52 ≠ b63 := (Nat.ne_of_lt (Nat.lt_of_lt_of_le V61.lt (Nat.le_of_eq gb63.symm)))
    have hc74_67 : ¬ (b63 = b52) := (Ne.symm ne66)
    refine own_st (fun _ k => Jvm.RoadKit.acmp (g := (mkF m 74 #[.val (.int p1), .val (.int p2), .val (.int p3), .val (.int p4), .val (.int (3 : Int32)), .val (.int v2), .val (.int v3), .val (.int v4), .val (.ref b52), .val (.ref b63)] [(.ref b52), (.ref b63)])) X64 hx rfl rfl rfl (pc0 := 74) (pc' := 77) (same := false) rfl (hb hby at_74) rfl (decide_eq_false fun q => hc74_67 (Value.ref.inj q)) (by decide) (by decide) (XS.aload X64.here hx rfl (hb hby at_77) rfl rfl k)) ?_
    show own_Go p.tables e below RR (T64.setTop (mkF m 79 #[.val (.int p1), .val (.int p2), .val (.int p3), .val (.int p4), .val (.int (3 : Int32)), .val (.int v2), .val (.int v3), .val (.int v4), .val (.ref b52), .val (.ref b63)] [(.ref b63)]))
    obtain ⟨c68, A68, -, s68, m68, -, -⟩ := id Vq64
    refine own_st (fun _ k => own_len X64 hx hZ rfl A68 s68 m68 (g := (mkF m 79 #[.val (.int p1), .val (.int p2), .val (.int p3), .val (.int p4), .val (.int (3 : Int32)), .val (.int v2), .val (.int v3), .val (.int v4), .val (.ref b52), .val (.ref b63)] [(.ref b63)])) rfl rfl (hb hby at_79) (XS.iload X64.here hx rfl (hb hby at_80) rfl (XS.iconst X64.here hx rfl (hb hby at_82) (XS.iadd X64.here hx rfl (hb hby at_83) rfl k)))) ?_
    show own_Go p.tables e below RR (T64.setTop (mkF m 84 #[.val (.int p1), .val (.int p2), .val (.int p3), .val (.int p4), .val (.int (3 : Int32)), .val (.int v2), .val (.int v3), .val (.int v4), .val (.ref b52), .val (.ref b63)] [(.int (4 : Int32)), (.int (4 : Int32))]))
    refine own_st (fun _ k => XS.icmpYes X64.here hx rfl (pc0 := 84) (pc' := 89) rfl (hb hby at_84) rfl (teq (by decide)).1 (by decide) (by decide) (XS.iload X64.here hx rfl (hb hby at_89) rfl k)) ?_
    show own_Go p.tables e below RR (T64.setTop (mkF m 91 #[.val (.int p1), .val (.int p2), .val (.int p3), .val (.int p4), .val (.int (3 : Int32)), .val (.int v2), .val (.int v3), .val (.int v4), .val (.ref b52), .val (.ref b63)] [(.int (3 : Int32))]))
    refine own_st (fun _ k => XS.ifNo X64.here hx rfl (hb hby at_91) rfl ((if0 _ _).trans (tlt (by decide)).2.2.2) (XS.aload X64.here hx rfl (hb hby at_94) rfl rfl (XS.iconst X64.here hx rfl (hb hby at_96) k))) ?_
    show own_Go p.tables e below RR (T64.setTop (mkF m 97 #[.val (.int p1), .val (.int p2), .val (.int p3), .val (.int p4), .val (.int (3 : Int32)), .val (.int v2), .val (.int v3), .val (.int v4), .val (.ref b52), .val (.ref b63)] [(.int (0 : Int32)), (.ref b63)]))
    obtain ⟨c69, A69, q69, s69, m69, H69, G69⟩ := id Vq64
    have b69 := inb_of (j := (0 : Int32)) s69 ⟨by decide, by decide⟩
    refine own_st (fun _ k => X64.baloadBytes hx (j := (0 : Int32)) (v := (.int v2.toInt8.toInt32)) (by exact A69.1) (State.isArrayOf_alike hZ.alike A69.2.1) A69.2.2 b69 (Has.at H69 b69 rfl) (g := (mkF m 97 #[.val (.int p1), .val (.int p2), .val (.int p3), .val (.int p4), .val (.int (3 : Int32)), .val (.int v2), .val (.int v3), .val (.int v4), .val (.ref b52), .val (.ref b63)] [(.int (0 : Int32)), (.ref b63)])) rfl rfl (hb hby at_97) _ (XS.iload X64.here hx rfl (hb hby at_98) rfl k)) ?_
    show own_Go p.tables e below RR (T64.setTop (mkF m 100 #[.val (.int p1), .val (.int p2), .val (.int p3), .val (.int p4), .val (.int (3 : Int32)), .val (.int v2), .val (.int v3), .val (.int v4), .val (.ref b52), .val (.ref b63)] [(.int v2), (.int v2.toInt8.toInt32)]))
    have hc100_70 : v2.toInt8.toInt32 = v2 := own_bb gv2
    refine own_st (fun _ k => XS.icmpYes X64.here hx rfl (pc0 := 100) (pc' := 105) rfl (hb hby at_100) rfl (teq hc100_70).1 (by decide) (by decide) (XS.iload X64.here hx rfl (hb hby at_105) rfl (XS.iconst X64.here hx rfl (hb hby at_107) k))) ?_
    show own_Go p.tables e below RR (T64.setTop (mkF m 108 #[.val (.int p1), .val (.int p2), .val (.int p3), .val (.int p4), .val (.int (3 : Int32)), .val (.int v2), .val (.int v3), .val (.int v4), .val (.ref b52), .val (.ref b63)] [(.int (1 : Int32)), (.int (3 : Int32))]))
    refine own_st (fun _ k => XS.icmpNo X64.here hx rfl (hb hby at_108) rfl (tlt (by decide)).2.2.2 (XS.aload X64.here hx rfl (hb hby at_111) rfl rfl (XS.iconst X64.here hx rfl (hb hby at_113) k))) ?_
    show own_Go p.tables e below RR (T64.setTop (mkF m 114 #[.val (.int p1), .val (.int p2), .val (.int p3), .val (.int p4), .val (.int (3 : Int32)), .val (.int v2), .val (.int v3), .val (.int v4), .val (.ref b52), .val (.ref b63)] [(.int (1 : Int32)), (.ref b63)]))
    obtain ⟨c71, A71, q71, s71, m71, H71, G71⟩ := id Vq64
    have b71 := inb_of (j := (1 : Int32)) s71 ⟨by decide, by decide⟩
    refine own_st (fun _ k => X64.baloadBytes hx (j := (1 : Int32)) (v := (.int v3.toInt8.toInt32)) (by exact A71.1) (State.isArrayOf_alike hZ.alike A71.2.1) A71.2.2 b71 (Has.at H71 b71 rfl) (g := (mkF m 114 #[.val (.int p1), .val (.int p2), .val (.int p3), .val (.int p4), .val (.int (3 : Int32)), .val (.int v2), .val (.int v3), .val (.int v4), .val (.ref b52), .val (.ref b63)] [(.int (1 : Int32)), (.ref b63)])) rfl rfl (hb hby at_114) _ (XS.iload X64.here hx rfl (hb hby at_115) rfl k)) ?_
    show own_Go p.tables e below RR (T64.setTop (mkF m 117 #[.val (.int p1), .val (.int p2), .val (.int p3), .val (.int p4), .val (.int (3 : Int32)), .val (.int v2), .val (.int v3), .val (.int v4), .val (.ref b52), .val (.ref b63)] [(.int v3), (.int v3.toInt8.toInt32)]))
    have hc117_72 : v3.toInt8.toInt32 = v3 := own_bb gv3
    refine own_st (fun _ k => XS.icmpYes X64.here hx rfl (pc0 := 117) (pc' := 122) rfl (hb hby at_117) rfl (teq hc117_72).1 (by decide) (by decide) (XS.iload X64.here hx rfl (hb hby at_122) rfl (XS.iconst X64.here hx rfl (hb hby at_124) k))) ?_
    show own_Go p.tables e below RR (T64.setTop (mkF m 125 #[.val (.int p1), .val (.int p2), .val (.int p3), .val (.int p4), .val (.int (3 : Int32)), .val (.int v2), .val (.int v3), .val (.int v4), .val (.ref b52), .val (.ref b63)] [(.int (2 : Int32)), (.int (3 : Int32))]))
    refine own_st (fun _ k => XS.icmpNo X64.here hx rfl (hb hby at_125) rfl (tlt (by decide)).2.2.2 (XS.aload X64.here hx rfl (hb hby at_128) rfl rfl (XS.iconst X64.here hx rfl (hb hby at_130) k))) ?_
    show own_Go p.tables e below RR (T64.setTop (mkF m 131 #[.val (.int p1), .val (.int p2), .val (.int p3), .val (.int p4), .val (.int (3 : Int32)), .val (.int v2), .val (.int v3), .val (.int v4), .val (.ref b52), .val (.ref b63)] [(.int (2 : Int32)), (.ref b63)]))
    obtain ⟨c73, A73, q73, s73, m73, H73, G73⟩ := id Vq64
    have b73 := inb_of (j := (2 : Int32)) s73 ⟨by decide, by decide⟩
    refine own_st (fun _ k => X64.baloadBytes hx (j := (2 : Int32)) (v := (.int v4.toInt8.toInt32)) (by exact A73.1) (State.isArrayOf_alike hZ.alike A73.2.1) A73.2.2 b73 (Has.at H73 b73 rfl) (g := (mkF m 131 #[.val (.int p1), .val (.int p2), .val (.int p3), .val (.int p4), .val (.int (3 : Int32)), .val (.int v2), .val (.int v3), .val (.int v4), .val (.ref b52), .val (.ref b63)] [(.int (2 : Int32)), (.ref b63)])) rfl rfl (hb hby at_131) _ (XS.iload X64.here hx rfl (hb hby at_132) rfl k)) ?_
    show own_Go p.tables e below RR (T64.setTop (mkF m 134 #[.val (.int p1), .val (.int p2), .val (.int p3), .val (.int p4), .val (.int (3 : Int32)), .val (.int v2), .val (.int v3), .val (.int v4), .val (.ref b52), .val (.ref b63)] [(.int v4), (.int v4.toInt8.toInt32)]))
    have hc134_74 : v4.toInt8.toInt32 = v4 := own_bb gv4
    refine own_st (fun _ k => XS.icmpYes X64.here hx rfl (pc0 := 134) (pc' := 139) rfl (hb hby at_134) rfl (teq hc134_74).1 (by decide) (by decide) (XS.aload X64.here hx rfl (hb hby at_139) rfl rfl (XS.iload X64.here hx rfl (hb hby at_141) rfl k))) ?_
    show own_Go p.tables e below RR (T64.setTop (mkF m 143 #[.val (.int p1), .val (.int p2), .val (.int p3), .val (.int p4), .val (.int (3 : Int32)), .val (.int v2), .val (.int v3), .val (.int v4), .val (.ref b52), .val (.ref b63)] [(.int (3 : Int32)), (.ref b63)]))
    obtain ⟨c75, A75, q75, s75, m75, H75, G75⟩ := id Vq64
    have b75 := inb_of (j := (3 : Int32)) s75 ⟨by decide, by decide⟩
    refine own_st (fun _ k => X64.baloadBytes hx (j := (3 : Int32)) (v := (.int (10 : Int32))) (by exact A75.1) (State.isArrayOf_alike hZ.alike A75.2.1) A75.2.2 b75 (Has.at H75 b75 rfl) (g := (mkF m 143 #[.val (.int p1), .val (.int p2), .val (.int p3), .val (.int p4), .val (.int (3 : Int32)), .val (.int v2), .val (.int v3), .val (.int v4), .val (.ref b52), .val (.ref b63)] [(.int (3 : Int32)), (.ref b63)])) rfl rfl (hb hby at_143) _ (XS.bipush X64.here hx rfl (hb hby at_144) k)) ?_
    show own_Go p.tables e below RR (T64.setTop (mkF m 146 #[.val (.int p1), .val (.int p2), .val (.int p3), .val (.int p4), .val (.int (3 : Int32)), .val (.int v2), .val (.int v3), .val (.int v4), .val (.ref b52), .val (.ref b63)] [(.int (10 : Int32)), (.int (10 : Int32))]))
    refine own_st (fun _ k => XS.icmpYes X64.here hx rfl (pc0 := 146) (pc' := 151) rfl (hb hby at_146) rfl (teq (by decide)).1 (by decide) (by decide) (XS.iload X64.here hx rfl (hb hby at_151) rfl k)) ?_
    show own_Go p.tables e below RR (T64.setTop (mkF m 153 #[.val (.int p1), .val (.int p2), .val (.int p3), .val (.int p4), .val (.int (3 : Int32)), .val (.int v2), .val (.int v3), .val (.int v4), .val (.ref b52), .val (.ref b63)] [(.int (3 : Int32))]))
    refine own_st (fun _ k => XS.ifNo X64.here hx rfl (hb hby at_153) rfl ((if0 _ _).trans (tlt (by decide)).2.2.2) (XS.aload X64.here hx rfl (hb hby at_156) rfl rfl (XS.iconst X64.here hx rfl (hb hby at_158) k))) ?_
    show own_Go p.tables e below RR (T64.setTop (mkF m 159 #[.val (.int p1), .val (.int p2), .val (.int p3), .val (.int p4), .val (.int (3 : Int32)), .val (.int v2), .val (.int v3), .val (.int v4), .val (.ref b52), .val (.ref b63)] [(.int (0 : Int32)), (.ref b52)]))
    have f76 := (V61.keep Kq64 nin0)
    obtain ⟨c77, A77, q77, s77, m77, H77, G77⟩ := id f76
    have b77 := inb_of (j := (0 : Int32)) s77 ⟨by decide, by decide⟩
    refine own_st (fun _ k => X64.baloadBytes hx (j := (0 : Int32)) (v := (.int v2.toInt8.toInt32)) (by exact A77.1) (State.isArrayOf_alike hZ.alike A77.2.1) A77.2.2 b77 (Has.at H77 b77 rfl) (g := (mkF m 159 #[.val (.int p1), .val (.int p2), .val (.int p3), .val (.int p4), .val (.int (3 : Int32)), .val (.int v2), .val (.int v3), .val (.int v4), .val (.ref b52), .val (.ref b63)] [(.int (0 : Int32)), (.ref b52)])) rfl rfl (hb hby at_159) _ (XS.iload X64.here hx rfl (hb hby at_160) rfl k)) ?_
    show own_Go p.tables e below RR (T64.setTop (mkF m 162 #[.val (.int p1), .val (.int p2), .val (.int p3), .val (.int p4), .val (.int (3 : Int32)), .val (.int v2), .val (.int v3), .val (.int v4), .val (.ref b52), .val (.ref b63)] [(.int v2), (.int v2.toInt8.toInt32)]))
    refine own_st (fun _ k => XS.icmpYes X64.here hx rfl (pc0 := 162) (pc' := 167) rfl (hb hby at_162) rfl (teq hc100_70).1 (by decide) (by decide) (XS.iload X64.here hx rfl (hb hby at_167) rfl (XS.iconst X64.here hx rfl (hb hby at_169) k))) ?_
    show own_Go p.tables e below RR (T64.setTop (mkF m 170 #[.val (.int p1), .val (.int p2), .val (.int p3), .val (.int p4), .val (.int (3 : Int32)), .val (.int v2), .val (.int v3), .val (.int v4), .val (.ref b52), .val (.ref b63)] [(.int (1 : Int32)), (.int (3 : Int32))]))
    refine own_st (fun _ k => XS.icmpNo X64.here hx rfl (hb hby at_170) rfl (tlt (by decide)).2.2.2 (XS.aload X64.here hx rfl (hb hby at_173) rfl rfl (XS.iconst X64.here hx rfl (hb hby at_175) k))) ?_
    show own_Go p.tables e below RR (T64.setTop (mkF m 176 #[.val (.int p1), .val (.int p2), .val (.int p3), .val (.int p4), .val (.int (3 : Int32)), .val (.int v2), .val (.int v3), .val (.int v4), .val (.ref b52), .val (.ref b63)] [(.int (1 : Int32)), (.ref b52)]))
    obtain ⟨c78, A78, q78, s78, m78, H78, G78⟩ := id f76
    have b78 := inb_of (j := (1 : Int32)) s78 ⟨by decide, by decide⟩
    refine own_st (fun _ k => X64.baloadBytes hx (j := (1 : Int32)) (v := (.int v3.toInt8.toInt32)) (by exact A78.1) (State.isArrayOf_alike hZ.alike A78.2.1) A78.2.2 b78 (Has.at H78 b78 rfl) (g := (mkF m 176 #[.val (.int p1), .val (.int p2), .val (.int p3), .val (.int p4), .val (.int (3 : Int32)), .val (.int v2), .val (.int v3), .val (.int v4), .val (.ref b52), .val (.ref b63)] [(.int (1 : Int32)), (.ref b52)])) rfl rfl (hb hby at_176) _ (XS.iload X64.here hx rfl (hb hby at_177) rfl k)) ?_
    show own_Go p.tables e below RR (T64.setTop (mkF m 179 #[.val (.int p1), .val (.int p2), .val (.int p3), .val (.int p4), .val (.int (3 : Int32)), .val (.int v2), .val (.int v3), .val (.int v4), .val (.ref b52), .val (.ref b63)] [(.int v3), (.int v3.toInt8.toInt32)]))
    refine own_st (fun _ k => XS.icmpYes X64.here hx rfl (pc0 := 179) (pc' := 184) rfl (hb hby at_179) rfl (teq hc117_72).1 (by decide) (by decide) (XS.iload X64.here hx rfl (hb hby at_184) rfl (XS.iconst X64.here hx rfl (hb hby at_186) k))) ?_
    show own_Go p.tables e below RR (T64.setTop (mkF m 187 #[.val (.int p1), .val (.int p2), .val (.int p3), .val (.int p4), .val (.int (3 : Int32)), .val (.int v2), .val (.int v3), .val (.int v4), .val (.ref b52), .val (.ref b63)] [(.int (2 : Int32)), (.int (3 : Int32))]))
    refine own_st (fun _ k => XS.icmpNo X64.here hx rfl (hb hby at_187) rfl (tlt (by decide)).2.2.2 (XS.aload X64.here hx rfl (hb hby at_190) rfl rfl (XS.iconst X64.here hx rfl (hb hby at_192) k))) ?_
    show own_Go p.tables e below RR (T64.setTop (mkF m 193 #[.val (.int p1), .val (.int p2), .val (.int p3), .val (.int p4), .val (.int (3 : Int32)), .val (.int v2), .val (.int v3), .val (.int v4), .val (.ref b52), .val (.ref b63)] [(.int (2 : Int32)), (.ref b52)]))
    obtain ⟨c79, A79, q79, s79, m79, H79, G79⟩ := id f76
    have b79 := inb_of (j := (2 : Int32)) s79 ⟨by decide, by decide⟩
    refine own_st (fun _ k => X64.baloadBytes hx (j := (2 : Int32)) (v := (.int v4.toInt8.toInt32)) (by exact A79.1) (State.isArrayOf_alike hZ.alike A79.2.1) A79.2.2 b79 (Has.at H79 b79 rfl) (g := (mkF m 193 #[.val (.int p1), .val (.int p2), .val (.int p3), .val (.int p4), .val (.int (3 : Int32)), .val (.int v2), .val (.int v3), .val (.int v4), .val (.ref b52), .val (.ref b63)] [(.int (2 : Int32)), (.ref b52)])) rfl rfl (hb hby at_193) _ (XS.iload X64.here hx rfl (hb hby at_194) rfl k)) ?_
    show own_Go p.tables e below RR (T64.setTop (mkF m 196 #[.val (.int p1), .val (.int p2), .val (.int p3), .val (.int p4), .val (.int (3 : Int32)), .val (.int v2), .val (.int v3), .val (.int v4), .val (.ref b52), .val (.ref b63)] [(.int v4), (.int v4.toInt8.toInt32)]))
    refine own_st (fun _ k => XS.icmpYes X64.here hx rfl (pc0 := 196) (pc' := 201) rfl (hb hby at_196) rfl (teq hc134_74).1 (by decide) (by decide) (XS.iconst X64.here hx rfl (hb hby at_201) k)) ?_
    show own_Go p.tables e below RR (T64.setTop (mkF m 202 #[.val (.int p1), .val (.int p2), .val (.int p3), .val (.int p4), .val (.int (3 : Int32)), .val (.int v2), .val (.int v3), .val (.int v4), .val (.ref b52), .val (.ref b63)] [(.int (1 : Int32))]))
    obtain ⟨fs, hrt_, hrun, hended, hW, hsame⟩ := X64.leave (v := some (.int (1 : Int32))) (fun h => by rw [Bd.returns] at h; cases h)
    refine own_fin (retN X64 hx (t := .boolean) Bd.returns (by simp) (hb hby at_202) hrt_) (hRR _ ⟨_, hrun, hended, _, _, rfl, ?_, ⟨_, rfl⟩, hW, hsame.mono (by decide) (by decide)⟩)
    show own_Q0 Z p1 p2 p3 p4 h0 n0 _ T64.heap _
    exact ⟨rfl, N64⟩
set_option maxRecDepth 65536 in
set_option maxHeartbeats 40000000 in
theorem own_comes {Post : Tables → Env → Array Value → State → Outcome → State → Prop} (hpost : ∀ tb e args s v u, (limb_1_1.after args s (.returned v) u = true ∧ limb_1_2.after args s (.returned v) u = true ∧ True) → FrameEnd s (.returned v) u (Jvm.fieldLocs frame_1_writes args s ++ Jvm.arrayLocs frame_1_arrays args s ++ Jvm.staticLocs frame_1_statics s) 16 128 → Post tb e args s (.returned v) u) :
    ArmFor flags0 classFile x code maxLocals ret World_1 tables_1 room_1 Calls_1 rest_1 Pre_1 Post := by
  intro l hfl _ _ p e ha hc hk s m args below hf hA hF happ hP
  obtain ⟨hcalls, hrest, hpre⟩ := hP
  obtain ⟨-, -, -, hnamed, -, -, -, hat⟩ := (Spec.applies_iff hf).mp happ
  obtain ⟨hg, hn⟩ := and_e (Cond.before_iff.mp (show (Jvm.Cond.and given_1 narrow_1).before args s = true from hpre))
  obtain ⟨u1a, u1b⟩ := and_e hg
  obtain ⟨u2a, u2b⟩ := and_e u1b
  obtain ⟨u3a, u3b⟩ := and_e u2b
  obtain ⟨u4a, u4b⟩ := and_e u3b
  obtain ⟨w0, w1, w2, w3, rfl⟩ : ∃ w0 w1 w2 w3 : Value, args = #[w0, w1, w2, w3] := by
    have hs : args.size = 4 := by simpa [Cond.value, given_1] using u1a
    obtain ⟨L⟩ := args
    match L, hs with
    | [w0, w1, w2, w3], _ => exact ⟨w0, w1, w2, w3, rfl⟩
  have hw := fun d (hd : d ∈ tables_1) => atoms_spec (ws := Jvm.Cond.code x code maxLocals ret :: tables_1) hat d (List.mem_cons_of_mem _ hd)
  have hfit : Fit s := fun {y c} hc i hi => by
    obtain ⟨ha, rfl⟩ := Array.getElem?_eq_some_iff.mp hc
    have q := List.all_eq_true.mp ((Array.all_eq_true_iff_forall_mem.mp hF) _ (Array.getElem_mem ha)) i (List.mem_range.mpr hi)
    simpa [Array.getElem?_eq_getElem hi] using q
  obtain ⟨i0, ei0⟩ := is_v u2a
  obtain rfl : w0 = (.int i0) := Option.some.inj ei0
  obtain ⟨i1, ei1⟩ := is_v u3a
  obtain rfl : w1 = (.int i1) := Option.some.inj ei1
  obtain ⟨i2, ei2⟩ := is_v u4a
  obtain rfl : w2 = (.int i2) := Option.some.inj ei2
  obtain ⟨i3, ei3⟩ := is_v u4b
  obtain rfl : w3 = (.int i3) := Option.some.inj ei3
  obtain ⟨n, o, h1, h2, h3, _, L, rfl, ⟨rfl, N⟩, hq⟩ := own_rm0 l s _ hw tables_1 i0 i1 i2 i3 s.heap s.heap.size (Nat.le_refl _)  p e ha hc hk s m _ below hf ((Spec.applies_iff_loose hf).mp happ).1 ⟨rfl, State.Warmed39.refl s, rfl⟩ trivial
  refine ⟨n, _, h1, h2, h3, hpost _ _ _ _ _ _ ⟨Cond.after_iff.mpr rfl, Cond.after_iff.mpr (eq_i res_at (Term.int_eval (1)) rfl), trivial⟩ ⟨hq.1, hq.2.1, (hq.2.2.sift fun y hy => Or.inr (N y hy)).mono (by decide) (by decide)⟩⟩
theorem main_1_1 : Claimed_1_1 := own_comes fun _ _ _ _ _ _ h hF => ⟨h.1, hF⟩
theorem main_1_2 : Claimed_1_2 := own_comes fun _ _ _ _ _ _ h hF => ⟨h.2.1, hF⟩
end Jvm.Pilot.@@N@@
namespace Jvm.Pilot.@@N@@
open Jvm Jvm.ClassFile Sem Op Lib Jvm.Free Jvm.Stand Jvm.Pilot.@@N@@.Jvm.D
/-! MADE BY PROGRAM (witnessworld.py) out of the Statement's table words and the real class files: 10 classes; the members and pool entries that the words name. The judged class is class 1, her method 1. -/
namespace start1
open Jvm.ClassFile
def u (s : String) : CpInfo := .utf8 (stringToUtf16 s)
/-- a pool by its gaps: so many unusable entries, then the entry; so many at the end -/
def gap : Nat → List CpInfo → List CpInfo
  | 0, r => r
  | n + 1, r => .unusable :: gap n r
def poolList (es : List (Nat × CpInfo)) (last : Nat) : List CpInfo := es.foldr (fun e r => gap e.1 (e.2 :: r)) (gap last [])
def pool (es : List (Nat × CpInfo)) (last : Nat) : Array CpInfo := ⟨poolList es last⟩
def fileOf (pool : Array CpInfo) (this : Nat) (attrs : Array Attribute := #[]) (ms : Array MethodInfo := #[]) (fl : Nat := 33) (sup : Nat := 0) (ifs : Array Nat := #[]) (fds : Array FieldInfo := #[]) : ClassFile where
  minorVersion := 0
  majorVersion := 65
  constantPool := pool
  accessFlags := fl
  thisClass := this
  superClass := sup
  interfaces := ifs
  fields := fds
  methods := ms
  attributes := attrs
def plain (name : String) (sup : Option ClassId) : Class where
  name := name
  kind := .ordinary
  loader := none
  accessFlags := 33
  super := sup
  interfaces := #[]
  cf := none
  fields := #[]
  methods := #[]
  instanceTypes := #[]
  staticTypes := #[]
  resolved := #[]
  callSites := []
  init := .initialized
  statics := none
  mirror := none

def pool0 : Array CpInfo := pool [(5, u "<init>"), (0, u "()V"), (1, .class_ 10), (1, u "java/lang/Object")] 113

def k0m0 : Method := { name := "<init>", desc := "()V", sig := { parameters := [], returnType := none }, accessFlags := 1, code := none }
/-- java/lang/Object -/
def k0 : Class := { plain "java/lang/Object" none with
  accessFlags := 33
  interfaces := #[]
  cf := some (fileOf pool0 8 #[] #[{ accessFlags := 1, nameIndex := 5, descriptorIndex := 6, attributes := #[] }] 33 0 #[] #[])
  fields := #[]
  methods := #[k0m0]
  instanceTypes := #[]
  staticTypes := #[]
  resolved := Array.replicate 124 none
  statics := none }

def pool1 : Array CpInfo := pool [(2, .class_ 4), (1, u "java/lang/Object"), (0, u "<init>"), (0, u "()V"), (0, .methodref 8 9), (0, .class_ 10), (0, .nameAndType 11 12), (0, u "com/example/seshat/seshat/bundles/Spill"), (0, u "line"), (0, u "([B)[B"), (0, .class_ 14), (0, u "com/example/seshat/seshat/bundles/SpillLinePinLaw"), (2, u "law"), (0, u "(IIII)Z")] 5

def k1m0 : Method := { name := "<init>", desc := "()V", sig := { parameters := [], returnType := none }, accessFlags := 1, code := none }
def k1c1 : Code := { maxStack := 3, maxLocals := 10, code := code, exceptionTable := #[], attributes := #[] }
def k1m1 : Method := { name := "law", desc := "(IIII)Z", sig := { parameters := [.int, .int, .int, .int], returnType := some .boolean }, accessFlags := 9, code := some k1c1 }
/-- com/example/seshat/seshat/bundles/SpillLinePinLaw -/
def k1 : Class := { plain "com/example/seshat/seshat/bundles/SpillLinePinLaw" (some 0) with
  accessFlags := 49
  interfaces := #[]
  cf := some (fileOf pool1 13 #[] #[{ accessFlags := 1, nameIndex := 5, descriptorIndex := 6, attributes := #[] }, { accessFlags := 9, nameIndex := 17, descriptorIndex := 18, attributes := #[] }] 49 2 #[] #[])
  fields := #[]
  methods := #[k1m0, k1m1]
  instanceTypes := #[]
  staticTypes := #[]
  resolved := Array.replicate 24 none
  statics := none }

def pool2 : Array CpInfo := pool [(12, .class_ 14), (1, u "java/util/function/Consumer"), (1, .class_ 17), (0, u "java/lang/Object")] 41

/-- java/util/function/Consumer -/
def k2 : Class := { plain "java/util/function/Consumer" (some 0) with
  accessFlags := 1537
  interfaces := #[]
  cf := some (fileOf pool2 12 #[] #[] 1537 16 #[] #[])
  fields := #[]
  methods := #[]
  instanceTypes := #[]
  staticTypes := #[]
  resolved := Array.replicate 59 none
  statics := none }

def pool3 : Array CpInfo := pool [(1, .class_ 2), (0, u "java/lang/AutoCloseable"), (0, .class_ 4), (0, u "java/lang/Object")] 7

/-- java/lang/AutoCloseable -/
def k3 : Class := { plain "java/lang/AutoCloseable" (some 0) with
  accessFlags := 1537
  interfaces := #[]
  cf := some (fileOf pool3 1 #[] #[] 1537 3 #[] #[])
  fields := #[]
  methods := #[]
  instanceTypes := #[]
  staticTypes := #[]
  resolved := Array.replicate 12 none
  statics := none }

def pool4 : Array CpInfo := pool [(2, .class_ 4), (1, u "java/lang/Object"), (3, .class_ 10), (1, u "com/example/seshat/seshat/bundles/Spill"), (0, u "path"), (0, u "Ljava/nio/file/Path;"), (2, u "out"), (0, u "Ljava/io/OutputStream;"), (32, .methodref 50 51), (0, .class_ 52), (0, .nameAndType 53 54), (0, u "java/lang/System"), (0, u "arraycopy"), (0, u "(Ljava/lang/Object;ILjava/lang/Object;II)V"), (18, u "lines"), (0, u "I"), (2, u "bytes"), (0, u "J"), (21, .class_ 101), (0, u "java/util/function/Consumer"), (0, .class_ 103), (0, u "java/lang/AutoCloseable"), (0, u "BUFFER_BYTES"), (1, u "LINE_FEED"), (0, u "B"), (6, u "line"), (0, u "([B)[B")] 13

def k4c0 : Code := { maxStack := 5, maxLocals := 2, code := prog_3_method_3_code, exceptionTable := #[], attributes := #[] }
def k4m0 : Method := { name := "line", desc := "([B)[B", sig := { parameters := [(.array .byte)], returnType := some (.array .byte) }, accessFlags := 8, code := some k4c0 }
/-- com/example/seshat/seshat/bundles/Spill -/
def k4 : Class := { plain "com/example/seshat/seshat/bundles/Spill" (some 0) with
  accessFlags := 32
  interfaces := #[2, 3]
  cf := some (fileOf pool4 8 #[] #[{ accessFlags := 8, nameIndex := 114, descriptorIndex := 115, attributes := #[] }] 32 2 #[100, 102] #[{ accessFlags := 26, nameIndex := 104, descriptorIndex := 74, attributes := #[] }, { accessFlags := 26, nameIndex := 106, descriptorIndex := 107, attributes := #[] }, { accessFlags := 18, nameIndex := 11, descriptorIndex := 12, attributes := #[] }, { accessFlags := 18, nameIndex := 15, descriptorIndex := 16, attributes := #[] }, { accessFlags := 2, nameIndex := 73, descriptorIndex := 74, attributes := #[] }, { accessFlags := 2, nameIndex := 77, descriptorIndex := 78, attributes := #[] }])
  fields := #[{ name := "BUFFER_BYTES", type := .int, accessFlags := 26, slot := 0, constantValue := 0 }, { name := "LINE_FEED", type := .byte, accessFlags := 26, slot := 1, constantValue := 0 }, { name := "path", type := (.object "java/nio/file/Path"), accessFlags := 18, slot := 0, constantValue := 0 }, { name := "out", type := (.object "java/io/OutputStream"), accessFlags := 18, slot := 1, constantValue := 0 }, { name := "lines", type := .int, accessFlags := 2, slot := 2, constantValue := 0 }, { name := "bytes", type := .long, accessFlags := 2, slot := 3, constantValue := 0 }]
  methods := #[k4m0]
  instanceTypes := #[(.object "java/nio/file/Path"), (.object "java/io/OutputStream"), .int, .long]
  staticTypes := #[.int, .byte]
  resolved := Array.replicate 129 none
  statics := none }

def pool5 : Array CpInfo := pool [(2, .class_ 4), (1, u "java/lang/Object"), (0, u "<init>"), (0, u "()V"), (1, .class_ 10), (1, u "java/lang/System"), (0, u "allowSecurityManager"), (0, u "I"), (16, u "cons"), (0, u "Ljava/io/Console;"), (77, .class_ 110), (1, u "java/lang/System$CallersHolder"), (43, u "initialErrStream"), (0, u "Ljava/io/PrintStream;"), (19, u "security"), (0, u "Ljava/lang/SecurityManager;"), (31, .class_ 209), (0, u "java/lang/System$1"), (7, u "props"), (0, u "Ljava/util/Properties;"), (2, u "lineSeparator"), (0, u "Ljava/lang/String;"), (96, .class_ 321), (1, u "java/lang/System$LoggerFinder"), (5, .class_ 328), (0, u "java/lang/System$Logger"), (67, u "err"), (2, u "out"), (91, u "notSupportedJnuEncoding"), (15, u "in"), (17, u "initialIn"), (0, u "Ljava/io/InputStream;"), (35, u "bootLayer"), (0, u "Ljava/lang/ModuleLayer;"), (99, .class_ 664), (0, u "java/lang/System$2"), (9, u "NEVER"), (2, u "MAYBE"), (49, u "arraycopy"), (0, u "(Ljava/lang/Object;ILjava/lang/Object;II)V"), (72, .class_ 802), (0, u "java/lang/System$Logger$Level")] 31

def k5m0 : Method := { name := "<init>", desc := "()V", sig := { parameters := [], returnType := none }, accessFlags := 2, code := none }
def k5m1 : Method := { name := "arraycopy", desc := "(Ljava/lang/Object;ILjava/lang/Object;II)V", sig := { parameters := [(.object "java/lang/Object"), .int, (.object "java/lang/Object"), .int, .int], returnType := none }, accessFlags := 265, code := none }
/-- java/lang/System -/
def k5 : Class := { plain "java/lang/System" (some 0) with
  accessFlags := 49
  interfaces := #[]
  cf := some (fileOf pool5 8 #[.nestMembers #[319, 327, 801, 108, 663, 208]] #[{ accessFlags := 2, nameIndex := 5, descriptorIndex := 6, attributes := #[] }, { accessFlags := 265, nameIndex := 727, descriptorIndex := 728, attributes := #[] }] 49 2 #[] #[{ accessFlags := 25, nameIndex := 507, descriptorIndex := 526, attributes := #[] }, { accessFlags := 25, nameIndex := 399, descriptorIndex := 155, attributes := #[] }, { accessFlags := 25, nameIndex := 396, descriptorIndex := 155, attributes := #[] }, { accessFlags := 10, nameIndex := 525, descriptorIndex := 526, attributes := #[] }, { accessFlags := 26, nameIndex := 674, descriptorIndex := 12, attributes := #[] }, { accessFlags := 26, nameIndex := 677, descriptorIndex := 12, attributes := #[] }, { accessFlags := 10, nameIndex := 11, descriptorIndex := 12, attributes := #[] }, { accessFlags := 74, nameIndex := 175, descriptorIndex := 176, attributes := #[] }, { accessFlags := 10, nameIndex := 491, descriptorIndex := 222, attributes := #[] }, { accessFlags := 74, nameIndex := 29, descriptorIndex := 30, attributes := #[] }, { accessFlags := 74, nameIndex := 154, descriptorIndex := 155, attributes := #[] }, { accessFlags := 10, nameIndex := 217, descriptorIndex := 218, attributes := #[] }, { accessFlags := 10, nameIndex := 221, descriptorIndex := 222, attributes := #[] }, { accessFlags := 8, nameIndex := 562, descriptorIndex := 563, attributes := #[] }])
  fields := #[{ name := "in", type := (.object "java/io/InputStream"), accessFlags := 25, slot := 0, constantValue := 0 }, { name := "out", type := (.object "java/io/PrintStream"), accessFlags := 25, slot := 1, constantValue := 0 }, { name := "err", type := (.object "java/io/PrintStream"), accessFlags := 25, slot := 2, constantValue := 0 }, { name := "initialIn", type := (.object "java/io/InputStream"), accessFlags := 10, slot := 3, constantValue := 0 }, { name := "NEVER", type := .int, accessFlags := 26, slot := 4, constantValue := 0 }, { name := "MAYBE", type := .int, accessFlags := 26, slot := 5, constantValue := 0 }, { name := "allowSecurityManager", type := .int, accessFlags := 10, slot := 6, constantValue := 0 }, { name := "security", type := (.object "java/lang/SecurityManager"), accessFlags := 74, slot := 7, constantValue := 0 }, { name := "notSupportedJnuEncoding", type := (.object "java/lang/String"), accessFlags := 10, slot := 8, constantValue := 0 }, { name := "cons", type := (.object "java/io/Console"), accessFlags := 74, slot := 9, constantValue := 0 }, { name := "initialErrStream", type := (.object "java/io/PrintStream"), accessFlags := 74, slot := 10, constantValue := 0 }, { name := "props", type := (.object "java/util/Properties"), accessFlags := 10, slot := 11, constantValue := 0 }, { name := "lineSeparator", type := (.object "java/lang/String"), accessFlags := 10, slot := 12, constantValue := 0 }, { name := "bootLayer", type := (.object "java/lang/ModuleLayer"), accessFlags := 8, slot := 13, constantValue := 0 }]
  methods := #[k5m0, k5m1]
  instanceTypes := #[]
  staticTypes := #[(.object "java/io/InputStream"), (.object "java/io/PrintStream"), (.object "java/io/PrintStream"), (.object "java/io/InputStream"), .int, .int, .int, (.object "java/lang/SecurityManager"), (.object "java/lang/String"), (.object "java/io/Console"), (.object "java/io/PrintStream"), (.object "java/util/Properties"), (.object "java/lang/String"), (.object "java/lang/ModuleLayer")]
  resolved := Array.replicate 834 none
  statics := none }

def pool6 : Array CpInfo := pool [(1, u "java/lang/Cloneable"), (0, .class_ 1), (0, u "java/lang/Object"), (0, .class_ 3)] 3

/-- java/lang/Cloneable -/
def k6 : Class := { plain "java/lang/Cloneable" (some 0) with
  accessFlags := 1537
  interfaces := #[]
  cf := some (fileOf pool6 2 #[] #[] 1537 4 #[] #[])
  fields := #[]
  methods := #[]
  instanceTypes := #[]
  staticTypes := #[]
  resolved := Array.replicate 8 none
  statics := none }

def pool7 : Array CpInfo := pool [(1, u "java/io/Serializable"), (0, .class_ 1), (0, u "java/lang/Object"), (0, .class_ 3)] 3

/-- java/io/Serializable -/
def k7 : Class := { plain "java/io/Serializable" (some 0) with
  accessFlags := 1537
  interfaces := #[]
  cf := some (fileOf pool7 2 #[] #[] 1537 4 #[] #[])
  fields := #[]
  methods := #[]
  instanceTypes := #[]
  staticTypes := #[]
  resolved := Array.replicate 8 none
  statics := none }

/-- the primitive byte -/
def k8 : Class := { plain "byte" none with kind := .primitive 'B', accessFlags := 0x411 }
/-- [B -/
def k9 : Class := { plain "[B" (some 0) with kind := .array 8 .byte, interfaces := #[6, 7], accessFlags := 1041 }

def heap : Heap := #[]
def classes : Array Class := #[k0, k1, k2, k3, k4, k5, k6, k7, k8, k9]
def interned : List (Array UInt16 × Addr) := []
def slotsUsed : Nat := 0
def theMethod : MethodId := ⟨1, 1⟩
def args0 : Array Value := #[.int 2, .int 3, .int 1, .int 1]
def aboutOver (below : List Frame) : State where
  vm := { classes := classes, interned := interned.toArray }
  heap := heap
  slotsUsed := slotsUsed
  threads := #[{ frames := .invoking theMethod args0 :: below }]
def below0 : List Frame := [.native { method := ⟨0, 0⟩, args := #[] }]
def about1 : State := aboutOver below0
def p0 : Program := .bare "" "" ""
def e0 : Env := launch0.env 0 0 0
theorem w_frames : about1.frames = Frame.invoking theMethod args0 :: below0 := rfl
set_option maxRecDepth 65536 in
theorem w_args : argsFit about1.vm theMethod args0 = true := by decide +kernel
set_option maxRecDepth 65536 in
theorem w_heap : heapFits about1 = true := by decide +kernel
set_option maxRecDepth 65536 in
theorem w_runnable : about1.curStatus? = some .runnable := by decide +kernel
set_option maxRecDepth 65536 in
theorem w_alone : about1.alone = true := by decide +kernel
set_option maxRecDepth 65536 in
theorem w_named : about1.methodNamed? x = some theMethod := by decide +kernel
set_option maxRecDepth 65536 in
theorem w_hears : about1.hears theMethod below0 = true := by decide +kernel
set_option maxRecDepth 65536 in
theorem w_ripe : about1.ripe theMethod args0 below0 = true := by decide +kernel
theorem w_running : about1.status = .running := rfl
set_option maxRecDepth 65536 in
theorem w_room : about1.hasRoom e0.platform room_1 = true :=
  launch0.hasRoom_least _ room_1 (by decide +kernel) (by decide +kernel) (by decide +kernel) (by decide +kernel) (by decide +kernel) (by decide +kernel)
theorem allAtoms_all (ts : List Jvm.Cond) (a : Array Jvm.Value) (st : Jvm.State) : (allAtoms ts).before a st = ts.all (fun c => c.before a st) := by
  induction ts with
  | nil => rfl
  | cons c t ih =>
    show (Jvm.Cond.and c (allAtoms t)).before a st = _
    rw [Jvm.Cond.before_and, ih, List.all_cons]
def words1 : List Jvm.Cond := Jvm.Cond.code x code maxLocals ret :: tables_1
/-- a 'code' word, met by the world's own term for the bytes: nothing is compared byte by byte -/
theorem code_word {y : MethodName} {bytes : ByteArray} {mx : Nat} {rt : Option FieldType} {a : Array Value} {s : State} {m : MethodId} {meth : Method} {c : Code} (h1 : s.methodNamed? y = some m) (h2 : s.vm.method? m = some meth) (h3 : meth.code = some c) (h4 : c.code = bytes)
    (h5 : (c.maxLocals == mx && c.exceptionTable.isEmpty && decide (c.maxStack ≤ mostOperands) && decide (meth.sig.returnType = rt) && !meth.locks && decide (parseMethodDescriptor y.desc = some meth.sig)) = true) : (Jvm.Cond.code y bytes mx rt).before a s = true := by
  simp only [Bool.and_eq_true, beq_iff_eq, Bool.not_eq_true', decide_eq_true_eq] at h5
  obtain ⟨⟨⟨⟨⟨g1, g2⟩, g3⟩, g4⟩, g5⟩, g6⟩ := h5
  simp [Cond.before, Cond.holds, Cond.value, h1, h2, h3, h4, g1, g2, g3, g4, g5, g6]
def isCode : Jvm.Cond → Bool
  | .code _ _ _ _ => true
  | _ => false
theorem all_split {L : List Jvm.Cond} {P : Jvm.Cond → Bool} (h1 : L.all (fun c => isCode c || P c) = true) (h2 : ∀ c ∈ L.filter isCode, P c = true) : L.all P = true := by
  refine List.all_eq_true.mpr fun c hc => ?_
  have h := List.all_eq_true.mp h1 c hc
  rcases Bool.eq_false_or_eq_true (isCode c) with hi | hi
  · exact h2 c (List.mem_filter.mpr ⟨hc, hi⟩)
  · simpa [hi] using h
set_option maxRecDepth 65536 in
theorem w_c0 : (Jvm.Cond.code x code maxLocals ret).before args0 about1 = true := code_word (m := ⟨1, 1⟩) (meth := k1m1) (c := k1c1) (by decide +kernel) rfl rfl rfl (by decide +kernel)
set_option maxRecDepth 65536 in
theorem w_c1 : (Jvm.Cond.code ({ cls := "com/example/seshat/seshat/bundles/Spill", name := "line", desc := "([B)[B" } : Jvm.MethodName) prog_3_method_3_code (2 : Nat) (Option.some (Jvm.ClassFile.FieldType.array Jvm.ClassFile.FieldType.byte))).before args0 about1 = true := code_word (m := ⟨4, 0⟩) (meth := k4m0) (c := k4c0) (by decide +kernel) rfl rfl rfl (by decide +kernel)
def codes1 : List Jvm.Cond := [Jvm.Cond.code x code maxLocals ret, Jvm.Cond.code ({ cls := "com/example/seshat/seshat/bundles/Spill", name := "line", desc := "([B)[B" } : Jvm.MethodName) prog_3_method_3_code (2 : Nat) (Option.some (Jvm.ClassFile.FieldType.array Jvm.ClassFile.FieldType.byte))]
set_option maxRecDepth 65536 in
theorem codes_eq : words1.filter isCode = codes1 := rfl
theorem w_codes : ∀ c ∈ words1.filter isCode, c.before args0 about1 = true := by
  rw [codes_eq]
  intro c hc
  simp only [codes1, List.mem_cons, List.not_mem_nil, or_false] at hc
  rcases hc with rfl | rfl
  · exact w_c0
  · exact w_c1
set_option maxRecDepth 65536 in
theorem w_t1 : words1.all (fun c => isCode c || c.before args0 about1) = true := by decide +kernel
theorem w_tables : (allAtoms (Jvm.Cond.code x code maxLocals ret :: tables_1)).before args0 about1 = true := by
  rw [allAtoms_all]
  show words1.all (fun c => c.before args0 about1) = true
  refine all_split ?_ w_codes
  rw [w_t1]
set_option maxRecDepth 65536 in
theorem w_case : (Jvm.Cond.and given_1 narrow_1).before args0 about1 = true := by decide +kernel
theorem w_applies : (headSpec (Jvm.Cond.code x code maxLocals ret :: tables_1) room_1).applies x e0.platform about1 = true :=
  (Spec.applies_iff w_frames).mpr ⟨w_running, w_runnable, w_alone, w_named, w_hears, w_ripe, w_room, w_tables⟩
theorem atStart : AtStart classFile x code maxLocals ret World_1 tables_1 room_1 Calls_1 rest_1 Pre_1 launch0 p0 e0 about1 theMethod args0 below0 :=
  ⟨lists_1, trivial, launch0.admits_env _ _ _, launch0.least_env, fairChoices_fair.cas, fairChoices_fair.clock, w_frames, w_args, w_heap, w_applies, trivial, trivial, w_case⟩
end start1
theorem witness_1 : WitnessClaimed_1 := ⟨start1.p0, start1.e0, start1.about1, start1.theMethod, start1.args0, start1.below0, start1.atStart⟩
end Jvm.Pilot.@@N@@
