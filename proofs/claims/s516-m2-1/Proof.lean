import JvmDerived
import JvmDerived.Pilot.@@N@@Statement
import JvmDerived.Pilot.@@N@@Code
set_option linter.unusedVariables false
set_option linter.unusedSimpArgs false
namespace Jvm.RoadKit
open Sem ClassFile Op Lib Jvm.Stand Jvm.Free Jvm.LawKit
section Own
/-- from u a state is reached where R holds -/
def own_Go (tb : Tables) (e : Env) (below : List Frame) (R : State → Prop) (u : State) : Prop := ∃ t, Steps tb e below u t ∧ R t
theorem own_st {tb : Tables} {e : Env} {below : List Frame} {R : State → Prop} {u v : State} (h : ∀ t, Steps tb e below v t → Steps tb e below u t) (g : own_Go tb e below R v) : own_Go tb e below R u := by
  obtain ⟨t, h1, h2⟩ := g
  exact ⟨t, h t h1, h2⟩
theorem own_fin {tb : Tables} {e : Env} {below : List Frame} {R : State → Prop} {u t : State} (h : Steps tb e below u t) (r : R t) : own_Go tb e below R u := ⟨t, h, r⟩
theorem own_in {tb : Tables} {e : Env} {below : List Frame} {u v : State} {P : State → Outcome → Prop} (h : ∀ t, Steps tb e below v t → Steps tb e below u t)
    (g : ∀ RR : State → Prop, (∀ t, (∃ o, t.status = .running ∧ P t o) → RR t) → own_Go tb e below RR v) : ∃ t o, Steps tb e below u t ∧ t.status = .running ∧ P t o := by
  obtain ⟨t, h1, o, h2, h3⟩ := g (fun t => ∃ o, t.status = .running ∧ P t o) fun _ q => q
  exact ⟨t, o, h t h1, h2, h3⟩
theorem own_ri {x y : Int32} (h : x = y) : some (Value.int x) = some (Value.int y) := h ▸ rfl
theorem own_rj {x y : Int64} (h : x = y) : some (Value.long x) = some (Value.long y) := h ▸ rfl
theorem own_rr {x y : Addr} (h : x = y) : some (Value.ref x) = some (Value.ref y) := h ▸ rfl
theorem own_eq_int {args : Array Value} {first s : State} {o : Option Outcome} {idx : List Nat} {a : Term} {k : Int32} (h : (Cond.eq a (.int k)).value args first o s idx = some true) : a.eval args first o idx s = some (.int k) := by
  simp only [Cond.value, Term.eval] at h
  cases ht : a.eval args first o idx s with
  | none => simp [ht] at h
  | some x => cases x <;> simp [ht] at h ⊢; exact h
theorem own_eq_long {args : Array Value} {first s : State} {o : Option Outcome} {idx : List Nat} {a : Term} {k : Int64} (h : (Cond.eq a (.long k)).value args first o s idx = some true) : a.eval args first o idx s = some (.long k) := by
  simp only [Cond.value, Term.eval] at h
  cases ht : a.eval args first o idx s with
  | none => simp [ht] at h
  | some x => cases x <;> simp [ht] at h ⊢; exact h
theorem own_selP {s : State} {args : Array Value} {y : MethodName} {n : Nat} (wi : (Cond.instantiable y.cls n).before args s = true) (hp : s.PrivateAt y) (hi : (Cond.instanceMethod y).before args s = true) (hy : y.cls ≠ "java/lang/invoke/MethodHandle" ∧ y.cls ≠ "java/lang/invoke/VarHandle") : (Cond.selects y.cls y y).before args s = true := by
  obtain ⟨c, k, h1, h2, -, h4, -⟩ := Cond.instantiable_spec wi
  exact selects_self_of_private h1 h2 (Bool.or_eq_false_iff.mp h4).1 hp hi hy
variable {p : Program} {l : Launch} {e : Env} {R : Room} {s : State} {m : MethodId} {args : Array Value} {below : List Frame} {meth : Method} {c : Code} {T : State} {locs : List Loc} {cells slots : Nat} {Z : State} {h : Heap}
theorem retI (X : Stand p l e R s m args below meth c T locs cells slots) (hx : p.tables.exec = Jvm.exec) {pc : Nat} {Ls : Array Slot} {z : Int32} {rest : List Value} (hret : meth.sig.returnType = some .int) (hd : decode c.code pc = .ok (.ireturn, 1)) {fs : List Frame}
    (hl : ∀ (f : JFrame) (acts : List Action), f.method = m → f.locked = none → f.entered = [] → (doReturn e (T.setTop f) acts (some (.int z))).1 = T.setFrames fs) : Steps p.tables e below (T.setTop (mkF m pc Ls (.int z :: rest))) (T.setFrames fs) :=
  retOut X hx hret rfl (Or.inl ⟨rfl, Or.inl rfl, z, rfl⟩) hd hl
theorem own_len (X : Stand p l e R s m args below meth c T locs cells slots) (hx : p.tables.exec = Jvm.exec) (hZ : Z.Warmed39 s.vm) (eT : T.heap = h) {a : Addr} {cl : Cell} {ty : FieldType} (A : Arr Z h a cl ty) {z : Int32} (S : cl.slots.size = z.toNatClampNeg) (N : ¬ z < 0)
    {g : JFrame} (hg : g.method = m) {rest : List Value} (hs : g.stack = .ref a :: rest) (hd : decode c.code g.pc = .ok (.arraylength, 1)) {target : State}
    (k : Steps p.tables e below (T.setTop { g with pc := g.pc + 1, stack := .int z :: rest }) target) : Steps p.tables e below (T.setTop g) target :=
  X.arraylength hx (by rw [eT]; exact A.1) (State.isArrayOf_alike hZ.alike A.2.1) hg hs hd target (by rw [len_of S N]; exact k)
end Own
end Jvm.RoadKit
namespace Jvm.Pilot.@@N@@
open Jvm Jvm.ClassFile Sem Op Lib Jvm.Free Jvm.Stand Jvm.LawKit Jvm.RoadKit Bundle Jvm.Pilot.@@N@@.Jvm.D
def own_us (v : Int64) : Int64 := v ^^^ ((v.toUInt64 >>> ((33 : Int32) &&& 0x3f).toInt64.toUInt64).toInt64)
theorem own_us_bv (v : Int64) : (own_us v).toBitVec = v.toBitVec ^^^ (v.toBitVec >>> 33) := by
  have e : ((33 : Int32) &&& 0x3f).toInt64.toUInt64 = 33 := by decide
  unfold own_us
  rw [e]
  rfl
theorem own_us_us (v : Int64) : own_us (own_us v) = v := by
  apply Int64.toBitVec_inj.mp
  rw [own_us_bv, own_us_bv]
  ext i hi
  simp only [BitVec.getElem_xor, BitVec.getElem_ushiftRight, BitVec.getLsbD_xor, BitVec.getLsbD_ushiftRight]
  rw [BitVec.getLsbD_of_ge v.toBitVec (33 + (33 + i)) (by omega)]
  rw [← BitVec.getLsbD_eq_getElem]
  cases v.toBitVec.getLsbD i <;> cases v.toBitVec.getLsbD (33 + i) <;> rfl
def own_spread (x : Int64) : Int64 := own_us (own_us (own_us x * (-49064778989728563)) * (-4265267296055464877))
def own_inv (a : Int64) : Int64 :=
  let x1 := a * (2 - a * a)
  let x2 := x1 * (2 - a * x1)
  let x3 := x2 * (2 - a * x2)
  let x4 := x3 * (2 - a * x3)
  x4 * (2 - a * x4)
theorem own_i1 : own_inv (-49064778989728563) * (-49064778989728563) = 1 := by decide
theorem own_i2 : own_inv (-4265267296055464877) * (-4265267296055464877) = 1 := by decide
theorem own_all (x : Int64) : own_us (own_us (own_us (own_spread x) * own_inv (-4265267296055464877)) * own_inv (-49064778989728563)) = x := by
  unfold own_spread
  rw [own_us_us, Int64.mul_assoc, Int64.mul_comm (-4265267296055464877), own_i2, Int64.mul_one, own_us_us, Int64.mul_assoc, Int64.mul_comm (-49064778989728563), own_i1, Int64.mul_one, own_us_us]
theorem own_pn_com_example_nesiph_nesiph_Hashing : plainName "com/example/nesiph/nesiph/Hashing" = true := by first | (simp [plainName, overriddenIn]; done) | decide +kernel
theorem own_dprog_17_method_2_code_0 : decode prog_17_method_2_code 0 = .ok (.lload_n 0, 1) := by decide +kernel
theorem own_dprog_17_method_2_code_1 : decode prog_17_method_2_code 1 = .ok (.lstore_n 2, 1) := by decide +kernel
theorem own_dprog_17_method_2_code_2 : decode prog_17_method_2_code 2 = .ok (.lload_n 2, 1) := by decide +kernel
theorem own_dprog_17_method_2_code_3 : decode prog_17_method_2_code 3 = .ok (.lload_n 2, 1) := by decide +kernel
theorem own_dprog_17_method_2_code_4 : decode prog_17_method_2_code 4 = .ok (.bipush 33, 2) := by decide +kernel
theorem own_dprog_17_method_2_code_6 : decode prog_17_method_2_code 6 = .ok (.lushr, 1) := by decide +kernel
theorem own_dprog_17_method_2_code_7 : decode prog_17_method_2_code 7 = .ok (.lxor, 1) := by decide +kernel
theorem own_dprog_17_method_2_code_8 : decode prog_17_method_2_code 8 = .ok (.ldc2_w 7, 3) := by decide +kernel
theorem own_dprog_17_method_2_code_11 : decode prog_17_method_2_code 11 = .ok (.lmul, 1) := by decide +kernel
theorem own_dprog_17_method_2_code_12 : decode prog_17_method_2_code 12 = .ok (.lstore_n 2, 1) := by decide +kernel
theorem own_dprog_17_method_2_code_13 : decode prog_17_method_2_code 13 = .ok (.lload_n 2, 1) := by decide +kernel
theorem own_dprog_17_method_2_code_14 : decode prog_17_method_2_code 14 = .ok (.lload_n 2, 1) := by decide +kernel
theorem own_dprog_17_method_2_code_15 : decode prog_17_method_2_code 15 = .ok (.bipush 33, 2) := by decide +kernel
theorem own_dprog_17_method_2_code_17 : decode prog_17_method_2_code 17 = .ok (.lushr, 1) := by decide +kernel
theorem own_dprog_17_method_2_code_18 : decode prog_17_method_2_code 18 = .ok (.lxor, 1) := by decide +kernel
theorem own_dprog_17_method_2_code_19 : decode prog_17_method_2_code 19 = .ok (.ldc2_w 9, 3) := by decide +kernel
theorem own_dprog_17_method_2_code_22 : decode prog_17_method_2_code 22 = .ok (.lmul, 1) := by decide +kernel
theorem own_dprog_17_method_2_code_23 : decode prog_17_method_2_code 23 = .ok (.lstore_n 2, 1) := by decide +kernel
theorem own_dprog_17_method_2_code_24 : decode prog_17_method_2_code 24 = .ok (.lload_n 2, 1) := by decide +kernel
theorem own_dprog_17_method_2_code_25 : decode prog_17_method_2_code 25 = .ok (.lload_n 2, 1) := by decide +kernel
theorem own_dprog_17_method_2_code_26 : decode prog_17_method_2_code 26 = .ok (.bipush 33, 2) := by decide +kernel
theorem own_dprog_17_method_2_code_28 : decode prog_17_method_2_code 28 = .ok (.lushr, 1) := by decide +kernel
theorem own_dprog_17_method_2_code_29 : decode prog_17_method_2_code 29 = .ok (.lxor, 1) := by decide +kernel
theorem own_dprog_17_method_2_code_30 : decode prog_17_method_2_code 30 = .ok (.lreturn, 1) := by decide +kernel
theorem own_efS (m : MethodId) (q1 : Int64) : entryFrame m #[(.long q1)] 4 = mkF m 0 #[.val (.long q1), .second, .unset, .unset] [] := by first | (simp [entryFrame, mkF, argsToLocals, Value.category]; done) | rfl
def own_QS (Z : State) (q1 : Int64) (h0 : Heap) (n0 : Nat) (v_ : Option Value) (h : Heap) (L_ : List Loc) : Prop := v_ = some (.long (own_spread q1)) ∧ Fr n0 L_ ∧ h = h0
abbrev own_RS : Room := { frames := 0, cells := 0, slots := 0, locals := 0 }
set_option maxRecDepth 65536 in
set_option maxHeartbeats 40000000 in
theorem own_rmS (l : Launch) (Z : State) (a0 : Array Value) (hw : ∀ d ∈ tables_1, d.before a0 Z = true) (ws : List Jvm.Cond) (q1 : Int64) (h0 : Heap) (n0 : Nat) (Z0 : n0 ≤ h0.size)  :
    MetFree l (⟨"com/example/nesiph/nesiph/Hashing", "spread", "(J)J"⟩ : MethodName) (head1 (Jvm.Cond.code (⟨"com/example/nesiph/nesiph/Hashing", "spread", "(J)J"⟩ : MethodName) prog_17_method_2_code 4 (some .long) :: ws) own_RS) (fun a U => a = #[(.long q1)] ∧ Z.Warmed39 U.vm ∧ U.heap = h0) (fun _ _ _ _ _ => True) (fun _ U oc_ U' => ∃ v_ L_, oc_ = .returned v_ ∧ own_QS Z q1 h0 n0 v_ U'.heap L_ ∧ FrameEnd U oc_ U' L_ own_RS.cells own_RS.slots) := by
  refine MetFree.of_bodySF (plainFor_of_name own_pn_com_example_nesiph_nesiph_Hashing) hisR ?_
  intro p e s m args below meth c s₁ Bd hml0 hP hK
  obtain ⟨rfl, hZ, hh⟩ := hP
  have hx := Bd.exec
  have hby := Bd.bytes
  have hml : c.maxLocals = 4 := hml0
  have hown : s.vm.findClass "com/example/nesiph/nesiph/Hashing" = some m.cls := findClass_of_methodNamed Bd.named
  have hnm := (name_of_methodNamed Bd.named Bd.method).1
  have X0 : Stand p l e own_RS s m #[(.long q1)] below meth c s₁ [] 0 0 := Stand.of_body Bd
  have e0 : s₁.heap = h0 := by rw [← hh, Bd.state]; rfl
  have N0 := Fr.nil n0
  refine own_in (fun _ k => castTop (own_efS m q1) k) ?_
  intro RR hRR
  show own_Go p.tables e below RR (s₁.setTop (mkF m 0 #[.val (.long q1), .second, .unset, .unset] []))
  refine own_st (fun _ k => XS.lloadN X0.here hx rfl (hb hby own_dprog_17_method_2_code_0) rfl (XS.lstoreN X0.here hx rfl (hb hby own_dprog_17_method_2_code_1) rfl (l' := #[.val (.long q1), .second, .val (.long q1), .second]) rfl (XS.lloadN X0.here hx rfl (hb hby own_dprog_17_method_2_code_2) rfl (XS.lloadN X0.here hx rfl (hb hby own_dprog_17_method_2_code_3) rfl (XS.bipush X0.here hx rfl (hb hby own_dprog_17_method_2_code_4) (XS.lushr X0.here hx rfl (hb hby own_dprog_17_method_2_code_6) rfl k)))))) ?_
  show own_Go p.tables e below RR (s₁.setTop (mkF m 7 #[.val (.long q1), .second, .val (.long q1), .second] [(.long ((q1.toUInt64 >>> ((33 : Int32) &&& 0x3f).toInt64.toUInt64).toInt64)), (.long q1)]))
  generalize gv1 : ((q1.toUInt64 >>> ((33 : Int32) &&& 0x3f).toInt64.toUInt64).toInt64) = v1
  show own_Go p.tables e below RR (s₁.setTop (mkF m 7 #[.val (.long q1), .second, .val (.long q1), .second] [(.long v1), (.long q1)]))
  refine own_st (fun _ k => XS.lxor X0.here hx rfl (hb hby own_dprog_17_method_2_code_7) rfl (X0.ldc2Long hx hown (mvT hZ (hw _ (List.mem_of_getElem? (i := 4) rfl))) (g := (mkF m 8 #[.val (.long q1), .second, .val (.long q1), .second] [(.long (q1 ^^^ v1))])) rfl (hb hby own_dprog_17_method_2_code_8) _ (XS.lmul X0.here hx rfl (hb hby own_dprog_17_method_2_code_11) rfl k))) ?_
  show own_Go p.tables e below RR (s₁.setTop (mkF m 12 #[.val (.long q1), .second, .val (.long q1), .second] [(.long ((q1 ^^^ v1) * (-49064778989728563 : Int64)))]))
  generalize gv2 : ((q1 ^^^ v1) * (-49064778989728563 : Int64)) = v2
  show own_Go p.tables e below RR (s₁.setTop (mkF m 12 #[.val (.long q1), .second, .val (.long q1), .second] [(.long v2)]))
  refine own_st (fun _ k => XS.lstoreN X0.here hx rfl (hb hby own_dprog_17_method_2_code_12) rfl (l' := #[.val (.long q1), .second, .val (.long v2), .second]) rfl (XS.lloadN X0.here hx rfl (hb hby own_dprog_17_method_2_code_13) rfl (XS.lloadN X0.here hx rfl (hb hby own_dprog_17_method_2_code_14) rfl (XS.bipush X0.here hx rfl (hb hby own_dprog_17_method_2_code_15) (XS.lushr X0.here hx rfl (hb hby own_dprog_17_method_2_code_17) rfl k))))) ?_
  show own_Go p.tables e below RR (s₁.setTop (mkF m 18 #[.val (.long q1), .second, .val (.long v2), .second] [(.long ((v2.toUInt64 >>> ((33 : Int32) &&& 0x3f).toInt64.toUInt64).toInt64)), (.long v2)]))
  generalize gv3 : ((v2.toUInt64 >>> ((33 : Int32) &&& 0x3f).toInt64.toUInt64).toInt64) = v3
  show own_Go p.tables e below RR (s₁.setTop (mkF m 18 #[.val (.long q1), .second, .val (.long v2), .second] [(.long v3), (.long v2)]))
  refine own_st (fun _ k => XS.lxor X0.here hx rfl (hb hby own_dprog_17_method_2_code_18) rfl (X0.ldc2Long hx hown (mvT hZ (hw _ (List.mem_of_getElem? (i := 5) rfl))) (g := (mkF m 19 #[.val (.long q1), .second, .val (.long v2), .second] [(.long (v2 ^^^ v3))])) rfl (hb hby own_dprog_17_method_2_code_19) _ (XS.lmul X0.here hx rfl (hb hby own_dprog_17_method_2_code_22) rfl k))) ?_
  show own_Go p.tables e below RR (s₁.setTop (mkF m 23 #[.val (.long q1), .second, .val (.long v2), .second] [(.long ((v2 ^^^ v3) * (-4265267296055464877 : Int64)))]))
  generalize gv4 : ((v2 ^^^ v3) * (-4265267296055464877 : Int64)) = v4
  show own_Go p.tables e below RR (s₁.setTop (mkF m 23 #[.val (.long q1), .second, .val (.long v2), .second] [(.long v4)]))
  refine own_st (fun _ k => XS.lstoreN X0.here hx rfl (hb hby own_dprog_17_method_2_code_23) rfl (l' := #[.val (.long q1), .second, .val (.long v4), .second]) rfl (XS.lloadN X0.here hx rfl (hb hby own_dprog_17_method_2_code_24) rfl (XS.lloadN X0.here hx rfl (hb hby own_dprog_17_method_2_code_25) rfl (XS.bipush X0.here hx rfl (hb hby own_dprog_17_method_2_code_26) (XS.lushr X0.here hx rfl (hb hby own_dprog_17_method_2_code_28) rfl k))))) ?_
  show own_Go p.tables e below RR (s₁.setTop (mkF m 29 #[.val (.long q1), .second, .val (.long v4), .second] [(.long ((v4.toUInt64 >>> ((33 : Int32) &&& 0x3f).toInt64.toUInt64).toInt64)), (.long v4)]))
  generalize gv5 : ((v4.toUInt64 >>> ((33 : Int32) &&& 0x3f).toInt64.toUInt64).toInt64) = v5
  show own_Go p.tables e below RR (s₁.setTop (mkF m 29 #[.val (.long q1), .second, .val (.long v4), .second] [(.long v5), (.long v4)]))
  refine own_st (fun _ k => XS.lxor X0.here hx rfl (hb hby own_dprog_17_method_2_code_29) rfl k) ?_
  show own_Go p.tables e below RR (s₁.setTop (mkF m 30 #[.val (.long q1), .second, .val (.long v4), .second] [(.long (v4 ^^^ v5))]))
  obtain ⟨fs, hrt_, hrun, hended, hW, hsame⟩ := X0.leave (v := some (.long (v4 ^^^ v5))) (fun h => by rw [Bd.returns] at h; cases h)
  refine own_fin (retOut X0 hx Bd.returns rfl (Or.inr (Or.inl ⟨rfl, rfl, _, rfl⟩)) (hb hby own_dprog_17_method_2_code_30) hrt_) (hRR _ ⟨_, hrun, hended, _, _, rfl, ?_, ⟨_, rfl⟩, hW, hsame.mono (by decide) (by decide)⟩)
  show own_QS Z q1 h0 n0 _ s₁.heap _
  rw [e0]
  exact ⟨own_rj (by subst_vars; rfl), N0, rfl⟩
theorem own_pn_com_example_nesiph_nesiph_HashingSpreadPinLaw : plainName "com/example/nesiph/nesiph/HashingSpreadPinLaw" = true := by first | (simp [plainName, overriddenIn]; done) | decide +kernel
theorem own_dmethod_2_code_0 : decode method_2_code 0 = .ok (.lload_n 0, 1) := by decide +kernel
theorem own_dmethod_2_code_1 : decode method_2_code 1 = .ok (.lstore_n 2, 1) := by decide +kernel
theorem own_dmethod_2_code_2 : decode method_2_code 2 = .ok (.lload_n 2, 1) := by decide +kernel
theorem own_dmethod_2_code_3 : decode method_2_code 3 = .ok (.ldc2_w 7, 3) := by decide +kernel
theorem own_dmethod_2_code_6 : decode method_2_code 6 = .ok (.lload_n 0, 1) := by decide +kernel
theorem own_dmethod_2_code_7 : decode method_2_code 7 = .ok (.lload_n 2, 1) := by decide +kernel
theorem own_dmethod_2_code_8 : decode method_2_code 8 = .ok (.lmul, 1) := by decide +kernel
theorem own_dmethod_2_code_9 : decode method_2_code 9 = .ok (.lsub, 1) := by decide +kernel
theorem own_dmethod_2_code_10 : decode method_2_code 10 = .ok (.lmul, 1) := by decide +kernel
theorem own_dmethod_2_code_11 : decode method_2_code 11 = .ok (.lstore_n 2, 1) := by decide +kernel
theorem own_dmethod_2_code_12 : decode method_2_code 12 = .ok (.lload_n 2, 1) := by decide +kernel
theorem own_dmethod_2_code_13 : decode method_2_code 13 = .ok (.ldc2_w 7, 3) := by decide +kernel
theorem own_dmethod_2_code_16 : decode method_2_code 16 = .ok (.lload_n 0, 1) := by decide +kernel
theorem own_dmethod_2_code_17 : decode method_2_code 17 = .ok (.lload_n 2, 1) := by decide +kernel
theorem own_dmethod_2_code_18 : decode method_2_code 18 = .ok (.lmul, 1) := by decide +kernel
theorem own_dmethod_2_code_19 : decode method_2_code 19 = .ok (.lsub, 1) := by decide +kernel
theorem own_dmethod_2_code_20 : decode method_2_code 20 = .ok (.lmul, 1) := by decide +kernel
theorem own_dmethod_2_code_21 : decode method_2_code 21 = .ok (.lstore_n 2, 1) := by decide +kernel
theorem own_dmethod_2_code_22 : decode method_2_code 22 = .ok (.lload_n 2, 1) := by decide +kernel
theorem own_dmethod_2_code_23 : decode method_2_code 23 = .ok (.ldc2_w 7, 3) := by decide +kernel
theorem own_dmethod_2_code_26 : decode method_2_code 26 = .ok (.lload_n 0, 1) := by decide +kernel
theorem own_dmethod_2_code_27 : decode method_2_code 27 = .ok (.lload_n 2, 1) := by decide +kernel
theorem own_dmethod_2_code_28 : decode method_2_code 28 = .ok (.lmul, 1) := by decide +kernel
theorem own_dmethod_2_code_29 : decode method_2_code 29 = .ok (.lsub, 1) := by decide +kernel
theorem own_dmethod_2_code_30 : decode method_2_code 30 = .ok (.lmul, 1) := by decide +kernel
theorem own_dmethod_2_code_31 : decode method_2_code 31 = .ok (.lstore_n 2, 1) := by decide +kernel
theorem own_dmethod_2_code_32 : decode method_2_code 32 = .ok (.lload_n 2, 1) := by decide +kernel
theorem own_dmethod_2_code_33 : decode method_2_code 33 = .ok (.ldc2_w 7, 3) := by decide +kernel
theorem own_dmethod_2_code_36 : decode method_2_code 36 = .ok (.lload_n 0, 1) := by decide +kernel
theorem own_dmethod_2_code_37 : decode method_2_code 37 = .ok (.lload_n 2, 1) := by decide +kernel
theorem own_dmethod_2_code_38 : decode method_2_code 38 = .ok (.lmul, 1) := by decide +kernel
theorem own_dmethod_2_code_39 : decode method_2_code 39 = .ok (.lsub, 1) := by decide +kernel
theorem own_dmethod_2_code_40 : decode method_2_code 40 = .ok (.lmul, 1) := by decide +kernel
theorem own_dmethod_2_code_41 : decode method_2_code 41 = .ok (.lstore_n 2, 1) := by decide +kernel
theorem own_dmethod_2_code_42 : decode method_2_code 42 = .ok (.lload_n 2, 1) := by decide +kernel
theorem own_dmethod_2_code_43 : decode method_2_code 43 = .ok (.ldc2_w 7, 3) := by decide +kernel
theorem own_dmethod_2_code_46 : decode method_2_code 46 = .ok (.lload_n 0, 1) := by decide +kernel
theorem own_dmethod_2_code_47 : decode method_2_code 47 = .ok (.lload_n 2, 1) := by decide +kernel
theorem own_dmethod_2_code_48 : decode method_2_code 48 = .ok (.lmul, 1) := by decide +kernel
theorem own_dmethod_2_code_49 : decode method_2_code 49 = .ok (.lsub, 1) := by decide +kernel
theorem own_dmethod_2_code_50 : decode method_2_code 50 = .ok (.lmul, 1) := by decide +kernel
theorem own_dmethod_2_code_51 : decode method_2_code 51 = .ok (.lstore_n 2, 1) := by decide +kernel
theorem own_dmethod_2_code_52 : decode method_2_code 52 = .ok (.lload_n 2, 1) := by decide +kernel
theorem own_dmethod_2_code_53 : decode method_2_code 53 = .ok (.lreturn, 1) := by decide +kernel
theorem own_efI (m : MethodId) (q1 : Int64) : entryFrame m #[(.long q1)] 4 = mkF m 0 #[.val (.long q1), .second, .unset, .unset] [] := by first | (simp [entryFrame, mkF, argsToLocals, Value.category]; done) | rfl
def own_QI (Z : State) (q1 : Int64) (h0 : Heap) (n0 : Nat) (v_ : Option Value) (h : Heap) (L_ : List Loc) : Prop := v_ = some (.long (own_inv q1)) ∧ Fr n0 L_ ∧ h = h0
abbrev own_RI : Room := { frames := 0, cells := 0, slots := 0, locals := 0 }
set_option maxRecDepth 65536 in
set_option maxHeartbeats 40000000 in
theorem own_rmI (l : Launch) (Z : State) (a0 : Array Value) (hw : ∀ d ∈ tables_1, d.before a0 Z = true) (ws : List Jvm.Cond) (q1 : Int64) (h0 : Heap) (n0 : Nat) (Z0 : n0 ≤ h0.size)  :
    MetFree l (⟨"com/example/nesiph/nesiph/HashingSpreadPinLaw", "inverse", "(J)J"⟩ : MethodName) (head1 (Jvm.Cond.code (⟨"com/example/nesiph/nesiph/HashingSpreadPinLaw", "inverse", "(J)J"⟩ : MethodName) method_2_code 4 (some .long) :: ws) own_RI) (fun a U => a = #[(.long q1)] ∧ Z.Warmed39 U.vm ∧ U.heap = h0) (fun _ _ _ _ _ => True) (fun _ U oc_ U' => ∃ v_ L_, oc_ = .returned v_ ∧ own_QI Z q1 h0 n0 v_ U'.heap L_ ∧ FrameEnd U oc_ U' L_ own_RI.cells own_RI.slots) := by
  refine MetFree.of_bodySF (plainFor_of_name own_pn_com_example_nesiph_nesiph_HashingSpreadPinLaw) hisR ?_
  intro p e s m args below meth c s₁ Bd hml0 hP hK
  obtain ⟨rfl, hZ, hh⟩ := hP
  have hx := Bd.exec
  have hby := Bd.bytes
  have hml : c.maxLocals = 4 := hml0
  have hown : s.vm.findClass "com/example/nesiph/nesiph/HashingSpreadPinLaw" = some m.cls := findClass_of_methodNamed Bd.named
  have hnm := (name_of_methodNamed Bd.named Bd.method).1
  have X0 : Stand p l e own_RI s m #[(.long q1)] below meth c s₁ [] 0 0 := Stand.of_body Bd
  have e0 : s₁.heap = h0 := by rw [← hh, Bd.state]; rfl
  have N0 := Fr.nil n0
  refine own_in (fun _ k => castTop (own_efI m q1) k) ?_
  intro RR hRR
  show own_Go p.tables e below RR (s₁.setTop (mkF m 0 #[.val (.long q1), .second, .unset, .unset] []))
  refine own_st (fun _ k => XS.lloadN X0.here hx rfl (hb hby own_dmethod_2_code_0) rfl (XS.lstoreN X0.here hx rfl (hb hby own_dmethod_2_code_1) rfl (l' := #[.val (.long q1), .second, .val (.long q1), .second]) rfl (XS.lloadN X0.here hx rfl (hb hby own_dmethod_2_code_2) rfl (X0.ldc2Long hx hown (mvT hZ (hw _ (List.mem_of_getElem? (i := 11) rfl))) (g := (mkF m 3 #[.val (.long q1), .second, .val (.long q1), .second] [(.long q1)])) rfl (hb hby own_dmethod_2_code_3) _ (XS.lloadN X0.here hx rfl (hb hby own_dmethod_2_code_6) rfl (XS.lloadN X0.here hx rfl (hb hby own_dmethod_2_code_7) rfl (XS.lmul X0.here hx rfl (hb hby own_dmethod_2_code_8) rfl (XS.lsub X0.here hx rfl (hb hby own_dmethod_2_code_9) rfl k)))))))) ?_
  show own_Go p.tables e below RR (s₁.setTop (mkF m 10 #[.val (.long q1), .second, .val (.long q1), .second] [(.long ((2 : Int64) - (q1 * q1))), (.long q1)]))
  refine own_st (fun _ k => XS.lmul X0.here hx rfl (hb hby own_dmethod_2_code_10) rfl (XS.lstoreN X0.here hx rfl (hb hby own_dmethod_2_code_11) rfl (l' := #[.val (.long q1), .second, .val (.long (q1 * ((2 : Int64) - (q1 * q1)))), .second]) rfl (XS.lloadN X0.here hx rfl (hb hby own_dmethod_2_code_12) rfl (X0.ldc2Long hx hown (mvT hZ (hw _ (List.mem_of_getElem? (i := 11) rfl))) (g := (mkF m 13 #[.val (.long q1), .second, .val (.long (q1 * ((2 : Int64) - (q1 * q1)))), .second] [(.long (q1 * ((2 : Int64) - (q1 * q1))))])) rfl (hb hby own_dmethod_2_code_13) _ (XS.lloadN X0.here hx rfl (hb hby own_dmethod_2_code_16) rfl (XS.lloadN X0.here hx rfl (hb hby own_dmethod_2_code_17) rfl (XS.lmul X0.here hx rfl (hb hby own_dmethod_2_code_18) rfl (XS.lsub X0.here hx rfl (hb hby own_dmethod_2_code_19) rfl k)))))))) ?_
  show own_Go p.tables e below RR (s₁.setTop (mkF m 20 #[.val (.long q1), .second, .val (.long (q1 * ((2 : Int64) - (q1 * q1)))), .second] [(.long ((2 : Int64) - (q1 * (q1 * ((2 : Int64) - (q1 * q1)))))), (.long (q1 * ((2 : Int64) - (q1 * q1))))]))
  generalize gv1 : ((2 : Int64) - (q1 * (q1 * ((2 : Int64) - (q1 * q1))))) = v1
  show own_Go p.tables e below RR (s₁.setTop (mkF m 20 #[.val (.long q1), .second, .val (.long (q1 * ((2 : Int64) - (q1 * q1)))), .second] [(.long v1), (.long (q1 * ((2 : Int64) - (q1 * q1))))]))
  refine own_st (fun _ k => XS.lmul X0.here hx rfl (hb hby own_dmethod_2_code_20) rfl (XS.lstoreN X0.here hx rfl (hb hby own_dmethod_2_code_21) rfl (l' := #[.val (.long q1), .second, .val (.long ((q1 * ((2 : Int64) - (q1 * q1))) * v1)), .second]) rfl (XS.lloadN X0.here hx rfl (hb hby own_dmethod_2_code_22) rfl (X0.ldc2Long hx hown (mvT hZ (hw _ (List.mem_of_getElem? (i := 11) rfl))) (g := (mkF m 23 #[.val (.long q1), .second, .val (.long ((q1 * ((2 : Int64) - (q1 * q1))) * v1)), .second] [(.long ((q1 * ((2 : Int64) - (q1 * q1))) * v1))])) rfl (hb hby own_dmethod_2_code_23) _ (XS.lloadN X0.here hx rfl (hb hby own_dmethod_2_code_26) rfl (XS.lloadN X0.here hx rfl (hb hby own_dmethod_2_code_27) rfl (XS.lmul X0.here hx rfl (hb hby own_dmethod_2_code_28) rfl k))))))) ?_
  show own_Go p.tables e below RR (s₁.setTop (mkF m 29 #[.val (.long q1), .second, .val (.long ((q1 * ((2 : Int64) - (q1 * q1))) * v1)), .second] [(.long (q1 * ((q1 * ((2 : Int64) - (q1 * q1))) * v1))), (.long (2 : Int64)), (.long ((q1 * ((2 : Int64) - (q1 * q1))) * v1))]))
  generalize gv2 : (q1 * ((q1 * ((2 : Int64) - (q1 * q1))) * v1)) = v2
  show own_Go p.tables e below RR (s₁.setTop (mkF m 29 #[.val (.long q1), .second, .val (.long ((q1 * ((2 : Int64) - (q1 * q1))) * v1)), .second] [(.long v2), (.long (2 : Int64)), (.long ((q1 * ((2 : Int64) - (q1 * q1))) * v1))]))
  refine own_st (fun _ k => XS.lsub X0.here hx rfl (hb hby own_dmethod_2_code_29) rfl (XS.lmul X0.here hx rfl (hb hby own_dmethod_2_code_30) rfl k)) ?_
  show own_Go p.tables e below RR (s₁.setTop (mkF m 31 #[.val (.long q1), .second, .val (.long ((q1 * ((2 : Int64) - (q1 * q1))) * v1)), .second] [(.long (((q1 * ((2 : Int64) - (q1 * q1))) * v1) * ((2 : Int64) - v2)))]))
  generalize gv3 : (((q1 * ((2 : Int64) - (q1 * q1))) * v1) * ((2 : Int64) - v2)) = v3
  show own_Go p.tables e below RR (s₁.setTop (mkF m 31 #[.val (.long q1), .second, .val (.long ((q1 * ((2 : Int64) - (q1 * q1))) * v1)), .second] [(.long v3)]))
  refine own_st (fun _ k => XS.lstoreN X0.here hx rfl (hb hby own_dmethod_2_code_31) rfl (l' := #[.val (.long q1), .second, .val (.long v3), .second]) rfl (XS.lloadN X0.here hx rfl (hb hby own_dmethod_2_code_32) rfl (X0.ldc2Long hx hown (mvT hZ (hw _ (List.mem_of_getElem? (i := 11) rfl))) (g := (mkF m 33 #[.val (.long q1), .second, .val (.long v3), .second] [(.long v3)])) rfl (hb hby own_dmethod_2_code_33) _ (XS.lloadN X0.here hx rfl (hb hby own_dmethod_2_code_36) rfl (XS.lloadN X0.here hx rfl (hb hby own_dmethod_2_code_37) rfl (XS.lmul X0.here hx rfl (hb hby own_dmethod_2_code_38) rfl (XS.lsub X0.here hx rfl (hb hby own_dmethod_2_code_39) rfl (XS.lmul X0.here hx rfl (hb hby own_dmethod_2_code_40) rfl k)))))))) ?_
  show own_Go p.tables e below RR (s₁.setTop (mkF m 41 #[.val (.long q1), .second, .val (.long v3), .second] [(.long (v3 * ((2 : Int64) - (q1 * v3))))]))
  refine own_st (fun _ k => XS.lstoreN X0.here hx rfl (hb hby own_dmethod_2_code_41) rfl (l' := #[.val (.long q1), .second, .val (.long (v3 * ((2 : Int64) - (q1 * v3)))), .second]) rfl (XS.lloadN X0.here hx rfl (hb hby own_dmethod_2_code_42) rfl (X0.ldc2Long hx hown (mvT hZ (hw _ (List.mem_of_getElem? (i := 11) rfl))) (g := (mkF m 43 #[.val (.long q1), .second, .val (.long (v3 * ((2 : Int64) - (q1 * v3)))), .second] [(.long (v3 * ((2 : Int64) - (q1 * v3))))])) rfl (hb hby own_dmethod_2_code_43) _ (XS.lloadN X0.here hx rfl (hb hby own_dmethod_2_code_46) rfl (XS.lloadN X0.here hx rfl (hb hby own_dmethod_2_code_47) rfl (XS.lmul X0.here hx rfl (hb hby own_dmethod_2_code_48) rfl (XS.lsub X0.here hx rfl (hb hby own_dmethod_2_code_49) rfl k))))))) ?_
  show own_Go p.tables e below RR (s₁.setTop (mkF m 50 #[.val (.long q1), .second, .val (.long (v3 * ((2 : Int64) - (q1 * v3)))), .second] [(.long ((2 : Int64) - (q1 * (v3 * ((2 : Int64) - (q1 * v3)))))), (.long (v3 * ((2 : Int64) - (q1 * v3))))]))
  generalize gv4 : ((2 : Int64) - (q1 * (v3 * ((2 : Int64) - (q1 * v3))))) = v4
  show own_Go p.tables e below RR (s₁.setTop (mkF m 50 #[.val (.long q1), .second, .val (.long (v3 * ((2 : Int64) - (q1 * v3)))), .second] [(.long v4), (.long (v3 * ((2 : Int64) - (q1 * v3))))]))
  refine own_st (fun _ k => XS.lmul X0.here hx rfl (hb hby own_dmethod_2_code_50) rfl (XS.lstoreN X0.here hx rfl (hb hby own_dmethod_2_code_51) rfl (l' := #[.val (.long q1), .second, .val (.long ((v3 * ((2 : Int64) - (q1 * v3))) * v4)), .second]) rfl (XS.lloadN X0.here hx rfl (hb hby own_dmethod_2_code_52) rfl k))) ?_
  show own_Go p.tables e below RR (s₁.setTop (mkF m 53 #[.val (.long q1), .second, .val (.long ((v3 * ((2 : Int64) - (q1 * v3))) * v4)), .second] [(.long ((v3 * ((2 : Int64) - (q1 * v3))) * v4))]))
  obtain ⟨fs, hrt_, hrun, hended, hW, hsame⟩ := X0.leave (v := some (.long ((v3 * ((2 : Int64) - (q1 * v3))) * v4))) (fun h => by rw [Bd.returns] at h; cases h)
  refine own_fin (retOut X0 hx Bd.returns rfl (Or.inr (Or.inl ⟨rfl, rfl, _, rfl⟩)) (hb hby own_dmethod_2_code_53) hrt_) (hRR _ ⟨_, hrun, hended, _, _, rfl, ?_, ⟨_, rfl⟩, hW, hsame.mono (by decide) (by decide)⟩)
  show own_QI Z q1 h0 n0 _ s₁.heap _
  rw [e0]
  exact ⟨own_rj (by subst_vars; rfl), N0, rfl⟩
theorem own_dmethod_3_code_0 : decode method_3_code 0 = .ok (.lload_n 0, 1) := by decide +kernel
theorem own_dmethod_3_code_1 : decode method_3_code 1 = .ok (.lload_n 0, 1) := by decide +kernel
theorem own_dmethod_3_code_2 : decode method_3_code 2 = .ok (.bipush 33, 2) := by decide +kernel
theorem own_dmethod_3_code_4 : decode method_3_code 4 = .ok (.lushr, 1) := by decide +kernel
theorem own_dmethod_3_code_5 : decode method_3_code 5 = .ok (.lxor, 1) := by decide +kernel
theorem own_dmethod_3_code_6 : decode method_3_code 6 = .ok (.lreturn, 1) := by decide +kernel
theorem own_efU (m : MethodId) (q1 : Int64) : entryFrame m #[(.long q1)] 2 = mkF m 0 #[.val (.long q1), .second] [] := by first | (simp [entryFrame, mkF, argsToLocals, Value.category]; done) | rfl
def own_QU (Z : State) (q1 : Int64) (h0 : Heap) (n0 : Nat) (v_ : Option Value) (h : Heap) (L_ : List Loc) : Prop := v_ = some (.long (own_us q1)) ∧ Fr n0 L_ ∧ h = h0
abbrev own_RU : Room := { frames := 0, cells := 0, slots := 0, locals := 0 }
set_option maxRecDepth 65536 in
set_option maxHeartbeats 40000000 in
theorem own_rmU (l : Launch) (Z : State) (a0 : Array Value) (hw : ∀ d ∈ tables_1, d.before a0 Z = true) (ws : List Jvm.Cond) (q1 : Int64) (h0 : Heap) (n0 : Nat) (Z0 : n0 ≤ h0.size)  :
    MetFree l (⟨"com/example/nesiph/nesiph/HashingSpreadPinLaw", "unshift", "(J)J"⟩ : MethodName) (head1 (Jvm.Cond.code (⟨"com/example/nesiph/nesiph/HashingSpreadPinLaw", "unshift", "(J)J"⟩ : MethodName) method_3_code 2 (some .long) :: ws) own_RU) (fun a U => a = #[(.long q1)] ∧ Z.Warmed39 U.vm ∧ U.heap = h0) (fun _ _ _ _ _ => True) (fun _ U oc_ U' => ∃ v_ L_, oc_ = .returned v_ ∧ own_QU Z q1 h0 n0 v_ U'.heap L_ ∧ FrameEnd U oc_ U' L_ own_RU.cells own_RU.slots) := by
  refine MetFree.of_bodySF (plainFor_of_name own_pn_com_example_nesiph_nesiph_HashingSpreadPinLaw) hisR ?_
  intro p e s m args below meth c s₁ Bd hml0 hP hK
  obtain ⟨rfl, hZ, hh⟩ := hP
  have hx := Bd.exec
  have hby := Bd.bytes
  have hml : c.maxLocals = 2 := hml0
  have hown : s.vm.findClass "com/example/nesiph/nesiph/HashingSpreadPinLaw" = some m.cls := findClass_of_methodNamed Bd.named
  have hnm := (name_of_methodNamed Bd.named Bd.method).1
  have X0 : Stand p l e own_RU s m #[(.long q1)] below meth c s₁ [] 0 0 := Stand.of_body Bd
  have e0 : s₁.heap = h0 := by rw [← hh, Bd.state]; rfl
  have N0 := Fr.nil n0
  refine own_in (fun _ k => castTop (own_efU m q1) k) ?_
  intro RR hRR
  show own_Go p.tables e below RR (s₁.setTop (mkF m 0 #[.val (.long q1), .second] []))
  refine own_st (fun _ k => XS.lloadN X0.here hx rfl (hb hby own_dmethod_3_code_0) rfl (XS.lloadN X0.here hx rfl (hb hby own_dmethod_3_code_1) rfl (XS.bipush X0.here hx rfl (hb hby own_dmethod_3_code_2) (XS.lushr X0.here hx rfl (hb hby own_dmethod_3_code_4) rfl k)))) ?_
  show own_Go p.tables e below RR (s₁.setTop (mkF m 5 #[.val (.long q1), .second] [(.long ((q1.toUInt64 >>> ((33 : Int32) &&& 0x3f).toInt64.toUInt64).toInt64)), (.long q1)]))
  generalize gv1 : ((q1.toUInt64 >>> ((33 : Int32) &&& 0x3f).toInt64.toUInt64).toInt64) = v1
  show own_Go p.tables e below RR (s₁.setTop (mkF m 5 #[.val (.long q1), .second] [(.long v1), (.long q1)]))
  refine own_st (fun _ k => XS.lxor X0.here hx rfl (hb hby own_dmethod_3_code_5) rfl k) ?_
  show own_Go p.tables e below RR (s₁.setTop (mkF m 6 #[.val (.long q1), .second] [(.long (q1 ^^^ v1))]))
  obtain ⟨fs, hrt_, hrun, hended, hW, hsame⟩ := X0.leave (v := some (.long (q1 ^^^ v1))) (fun h => by rw [Bd.returns] at h; cases h)
  refine own_fin (retOut X0 hx Bd.returns rfl (Or.inr (Or.inl ⟨rfl, rfl, _, rfl⟩)) (hb hby own_dmethod_3_code_6) hrt_) (hRR _ ⟨_, hrun, hended, _, _, rfl, ?_, ⟨_, rfl⟩, hW, hsame.mono (by decide) (by decide)⟩)
  show own_QU Z q1 h0 n0 _ s₁.heap _
  rw [e0]
  exact ⟨own_rj (by subst_vars; rfl), N0, rfl⟩
theorem own_pd__J_J : parseMethodDescriptor "(J)J" = some ⟨[.long], some .long⟩ := by decide +kernel
theorem own_ef0 (m : MethodId) (q1 : Int64) : entryFrame m #[(.long q1)] maxLocals = mkF m 0 #[.val (.long q1), .second, .unset, .unset, .unset, .unset, .unset, .unset, .unset, .unset, .unset, .unset, .unset, .unset, .unset, .unset, .unset, .unset, .unset] [] := by first | (simp [entryFrame, mkF, argsToLocals, Value.category, maxLocals]; done) | rfl
def own_Q0 (Z : State) (q1 : Int64) (h0 : Heap) (n0 : Nat) (v_ : Option Value) (h : Heap) (L_ : List Loc) : Prop := v_ = some (.int 1) ∧ Fr n0 L_
set_option maxRecDepth 65536 in
set_option maxHeartbeats 40000000 in
theorem own_rm0 (l : Launch) (Z : State) (a0 : Array Value) (hw : ∀ d ∈ tables_1, d.before a0 Z = true) (ws : List Jvm.Cond) (q1 : Int64) (h0 : Heap) (n0 : Nat) (Z0 : n0 ≤ h0.size)  :
    MetFree l x (head1 (Jvm.Cond.code x code maxLocals ret :: ws) room_1) (fun a U => a = #[(.long q1)] ∧ Z.Warmed39 U.vm ∧ U.heap = h0) (fun _ _ _ _ _ => True) (fun _ U oc_ U' => ∃ v_ L_, oc_ = .returned v_ ∧ own_Q0 Z q1 h0 n0 v_ U'.heap L_ ∧ FrameEnd U oc_ U' L_ room_1.cells room_1.slots) := by
  refine MetFree.of_bodySF (plainFor_of_name own_pn_com_example_nesiph_nesiph_HashingSpreadPinLaw) hisR ?_
  intro p e s m args below meth c s₁ Bd hml0 hP hK
  obtain ⟨rfl, hZ, hh⟩ := hP
  have hx := Bd.exec
  have hby := Bd.bytes
  have hml : c.maxLocals = 19 := hml0
  have hown : s.vm.findClass "com/example/nesiph/nesiph/HashingSpreadPinLaw" = some m.cls := findClass_of_methodNamed Bd.named
  have hnm := (name_of_methodNamed Bd.named Bd.method).1
  have X0 : Stand p l e room_1 s m #[(.long q1)] below meth c s₁ [] 0 0 := Stand.of_body Bd
  have e0 : s₁.heap = h0 := by rw [← hh, Bd.state]; rfl
  have N0 := Fr.nil n0
  refine own_in (fun _ k => castTop (own_ef0 m q1) k) ?_
  intro RR hRR
  show own_Go p.tables e below RR (s₁.setTop (mkF m 0 #[.val (.long q1), .second, .unset, .unset, .unset, .unset, .unset, .unset, .unset, .unset, .unset, .unset, .unset, .unset, .unset, .unset, .unset, .unset, .unset] []))
  refine own_st (fun _ k => XS.lloadN X0.here hx rfl (hb hby at_0) rfl k) ?_
  show own_Go p.tables e below RR (s₁.setTop (mkF m 1 #[.val (.long q1), .second, .unset, .unset, .unset, .unset, .unset, .unset, .unset, .unset, .unset, .unset, .unset, .unset, .unset, .unset, .unset, .unset, .unset] [(.long q1)]))
  obtain ⟨_, _, ⟨T1, L1, k1, n1⟩, -, X1, ⟨Lc1, hQ1, l1, y1, z1⟩, st1⟩ := Jvm.LawKit.callS X0 hx (y := (⟨"com/example/nesiph/nesiph/Hashing", "spread", "(J)J"⟩ : MethodName)) hown (mvT hZ (hw _ (List.mem_of_getElem? (i := 0) rfl))) (mvT hZ (hw _ (List.mem_of_getElem? (i := 1) rfl))) (mvT hZ (hw _ (List.mem_of_getElem? (i := 2) rfl))) (mvT hZ (hw _ (List.mem_of_getElem? (i := 3) rfl))) (by decide) (backOf (W := 0) (own_rmS l Z a0 hw [] q1 h0 n0 Z0 ) hZ (hw _ (List.mem_of_getElem? (i := 3) rfl)) (hw _ (List.mem_of_getElem? (i := 2) rfl)) (by decide) (by decide)) (g := (mkF m 1 #[.val (.long q1), .second, .unset, .unset, .unset, .unset, .unset, .unset, .unset, .unset, .unset, .unset, .unset, .unset, .unset, .unset, .unset, .unset, .unset] [(.long q1)])) rfl (by rw [hml]; rfl) (argsL := [(.long q1)]) (rest := []) (lenOf own_pd__J_J rfl) rfl (by show 2 * 0 + _ ≤ _; exact Nat.le_of_eq rfl) (hb hby at_1) (fun _ _ => ⟨rfl, e0, (by decide : 0 + 0 ≤ _), (by decide : 0 + 0 ≤ _)⟩)
  dsimp only [Pt.U, Pt.locs, Pt.cells, Pt.slots] at X1 l1 y1 z1 st1 hQ1
  subst l1 y1 z1
  obtain ⟨rfl, Nq1, eq1⟩ := hQ1
  have N1 := Fr.app N0 Nq1
  refine own_st st1 ?_
  show own_Go p.tables e below RR (T1.setTop (mkF m 4 #[.val (.long q1), .second, .unset, .unset, .unset, .unset, .unset, .unset, .unset, .unset, .unset, .unset, .unset, .unset, .unset, .unset, .unset, .unset, .unset] [(.long (own_spread q1))]))
  refine own_st (fun _ k => XS.lstoreN X1.here hx rfl (hb hby at_4) rfl (l' := #[.val (.long q1), .second, .val (.long (own_spread q1)), .second, .unset, .unset, .unset, .unset, .unset, .unset, .unset, .unset, .unset, .unset, .unset, .unset, .unset, .unset, .unset]) rfl (X1.ldc2Long hx hown (mvT hZ (hw _ (List.mem_of_getElem? (i := 6) rfl))) (g := (mkF m 5 #[.val (.long q1), .second, .val (.long (own_spread q1)), .second, .unset, .unset, .unset, .unset, .unset, .unset, .unset, .unset, .unset, .unset, .unset, .unset, .unset, .unset, .unset] [])) rfl (hb hby at_5) _ k)) ?_
  show own_Go p.tables e below RR (T1.setTop (mkF m 8 #[.val (.long q1), .second, .val (.long (own_spread q1)), .second, .unset, .unset, .unset, .unset, .unset, .unset, .unset, .unset, .unset, .unset, .unset, .unset, .unset, .unset, .unset] [(.long (-49064778989728563 : Int64))]))
  obtain ⟨_, _, ⟨T2, L2, k2, n2⟩, -, X2, ⟨Lc2, hQ2, l2, y2, z2⟩, st2⟩ := Jvm.LawKit.callS X1 hx (y := (⟨"com/example/nesiph/nesiph/HashingSpreadPinLaw", "inverse", "(J)J"⟩ : MethodName)) hown (mvT hZ (hw _ (List.mem_of_getElem? (i := 7) rfl))) (mvT hZ (hw _ (List.mem_of_getElem? (i := 8) rfl))) (mvT hZ (hw _ (List.mem_of_getElem? (i := 9) rfl))) (mvT hZ (hw _ (List.mem_of_getElem? (i := 10) rfl))) (by decide) (backOf (W := 0) (own_rmI l Z a0 hw [] (-49064778989728563 : Int64) h0 n0 Z0 ) hZ (hw _ (List.mem_of_getElem? (i := 10) rfl)) (hw _ (List.mem_of_getElem? (i := 9) rfl)) (by decide) (by decide)) (g := (mkF m 8 #[.val (.long q1), .second, .val (.long (own_spread q1)), .second, .unset, .unset, .unset, .unset, .unset, .unset, .unset, .unset, .unset, .unset, .unset, .unset, .unset, .unset, .unset] [(.long (-49064778989728563 : Int64))])) rfl (by rw [hml]; rfl) (argsL := [(.long (-49064778989728563 : Int64))]) (rest := []) (lenOf own_pd__J_J rfl) rfl (by show 2 * 0 + _ ≤ _; exact Nat.le_of_eq rfl) (hb hby at_8) (fun _ _ => ⟨rfl, eq1, (by decide : 0 + 0 ≤ _), (by decide : 0 + 0 ≤ _)⟩)
  dsimp only [Pt.U, Pt.locs, Pt.cells, Pt.slots] at X2 l2 y2 z2 st2 hQ2
  subst l2 y2 z2
  obtain ⟨rfl, Nq2, eq2⟩ := hQ2
  have N2 := Fr.app N1 Nq2
  refine own_st st2 ?_
  show own_Go p.tables e below RR (T2.setTop (mkF m 11 #[.val (.long q1), .second, .val (.long (own_spread q1)), .second, .unset, .unset, .unset, .unset, .unset, .unset, .unset, .unset, .unset, .unset, .unset, .unset, .unset, .unset, .unset] [(.long (own_inv (-49064778989728563 : Int64)))]))
  refine own_st (fun _ k => XS.lstore X2.here hx rfl (hb hby at_11) rfl (l' := #[.val (.long q1), .second, .val (.long (own_spread q1)), .second, .val (.long (own_inv (-49064778989728563 : Int64))), .second, .unset, .unset, .unset, .unset, .unset, .unset, .unset, .unset, .unset, .unset, .unset, .unset, .unset]) rfl (X2.ldc2Long hx hown (mvT hZ (hw _ (List.mem_of_getElem? (i := 12) rfl))) (g := (mkF m 13 #[.val (.long q1), .second, .val (.long (own_spread q1)), .second, .val (.long (own_inv (-49064778989728563 : Int64))), .second, .unset, .unset, .unset, .unset, .unset, .unset, .unset, .unset, .unset, .unset, .unset, .unset, .unset] [])) rfl (hb hby at_13) _ k)) ?_
  show own_Go p.tables e below RR (T2.setTop (mkF m 16 #[.val (.long q1), .second, .val (.long (own_spread q1)), .second, .val (.long (own_inv (-49064778989728563 : Int64))), .second, .unset, .unset, .unset, .unset, .unset, .unset, .unset, .unset, .unset, .unset, .unset, .unset, .unset] [(.long (-4265267296055464877 : Int64))]))
  obtain ⟨_, _, ⟨T3, L3, k3, n3⟩, -, X3, ⟨Lc3, hQ3, l3, y3, z3⟩, st3⟩ := Jvm.LawKit.callS X2 hx (y := (⟨"com/example/nesiph/nesiph/HashingSpreadPinLaw", "inverse", "(J)J"⟩ : MethodName)) hown (mvT hZ (hw _ (List.mem_of_getElem? (i := 7) rfl))) (mvT hZ (hw _ (List.mem_of_getElem? (i := 8) rfl))) (mvT hZ (hw _ (List.mem_of_getElem? (i := 9) rfl))) (mvT hZ (hw _ (List.mem_of_getElem? (i := 10) rfl))) (by decide) (backOf (W := 0) (own_rmI l Z a0 hw [] (-4265267296055464877 : Int64) h0 n0 Z0 ) hZ (hw _ (List.mem_of_getElem? (i := 10) rfl)) (hw _ (List.mem_of_getElem? (i := 9) rfl)) (by decide) (by decide)) (g := (mkF m 16 #[.val (.long q1), .second, .val (.long (own_spread q1)), .second, .val (.long (own_inv (-49064778989728563 : Int64))), .second, .unset, .unset, .unset, .unset, .unset, .unset, .unset, .unset, .unset, .unset, .unset, .unset, .unset] [(.long (-4265267296055464877 : Int64))])) rfl (by rw [hml]; rfl) (argsL := [(.long (-4265267296055464877 : Int64))]) (rest := []) (lenOf own_pd__J_J rfl) rfl (by show 2 * 0 + _ ≤ _; exact Nat.le_of_eq rfl) (hb hby at_16) (fun _ _ => ⟨rfl, eq2, (by decide : 0 + 0 ≤ _), (by decide : 0 + 0 ≤ _)⟩)
  dsimp only [Pt.U, Pt.locs, Pt.cells, Pt.slots] at X3 l3 y3 z3 st3 hQ3
  subst l3 y3 z3
  obtain ⟨rfl, Nq3, eq3⟩ := hQ3
  have N3 := Fr.app N2 Nq3
  refine own_st st3 ?_
  show own_Go p.tables e below RR (T3.setTop (mkF m 19 #[.val (.long q1), .second, .val (.long (own_spread q1)), .second, .val (.long (own_inv (-49064778989728563 : Int64))), .second, .unset, .unset, .unset, .unset, .unset, .unset, .unset, .unset, .unset, .unset, .unset, .unset, .unset] [(.long (own_inv (-4265267296055464877 : Int64)))]))
  refine own_st (fun _ k => XS.lstore X3.here hx rfl (hb hby at_19) rfl (l' := #[.val (.long q1), .second, .val (.long (own_spread q1)), .second, .val (.long (own_inv (-49064778989728563 : Int64))), .second, .val (.long (own_inv (-4265267296055464877 : Int64))), .second, .unset, .unset, .unset, .unset, .unset, .unset, .unset, .unset, .unset, .unset, .unset]) rfl (XS.lloadN X3.here hx rfl (hb hby at_21) rfl k)) ?_
  show own_Go p.tables e below RR (T3.setTop (mkF m 22 #[.val (.long q1), .second, .val (.long (own_spread q1)), .second, .val (.long (own_inv (-49064778989728563 : Int64))), .second, .val (.long (own_inv (-4265267296055464877 : Int64))), .second, .unset, .unset, .unset, .unset, .unset, .unset, .unset, .unset, .unset, .unset, .unset] [(.long (own_spread q1))]))
  obtain ⟨_, _, ⟨T4, L4, k4, n4⟩, -, X4, ⟨Lc4, hQ4, l4, y4, z4⟩, st4⟩ := Jvm.LawKit.callS X3 hx (y := (⟨"com/example/nesiph/nesiph/HashingSpreadPinLaw", "unshift", "(J)J"⟩ : MethodName)) hown (mvT hZ (hw _ (List.mem_of_getElem? (i := 13) rfl))) (mvT hZ (hw _ (List.mem_of_getElem? (i := 14) rfl))) (mvT hZ (hw _ (List.mem_of_getElem? (i := 9) rfl))) (mvT hZ (hw _ (List.mem_of_getElem? (i := 15) rfl))) (by decide) (backOf (W := 0) (own_rmU l Z a0 hw [] (own_spread q1) h0 n0 Z0 ) hZ (hw _ (List.mem_of_getElem? (i := 15) rfl)) (hw _ (List.mem_of_getElem? (i := 9) rfl)) (by decide) (by decide)) (g := (mkF m 22 #[.val (.long q1), .second, .val (.long (own_spread q1)), .second, .val (.long (own_inv (-49064778989728563 : Int64))), .second, .val (.long (own_inv (-4265267296055464877 : Int64))), .second, .unset, .unset, .unset, .unset, .unset, .unset, .unset, .unset, .unset, .unset, .unset] [(.long (own_spread q1))])) rfl (by rw [hml]; rfl) (argsL := [(.long (own_spread q1))]) (rest := []) (lenOf own_pd__J_J rfl) rfl (by show 2 * 0 + _ ≤ _; exact Nat.le_of_eq rfl) (hb hby at_22) (fun _ _ => ⟨rfl, eq3, (by decide : 0 + 0 ≤ _), (by decide : 0 + 0 ≤ _)⟩)
  dsimp only [Pt.U, Pt.locs, Pt.cells, Pt.slots] at X4 l4 y4 z4 st4 hQ4
  subst l4 y4 z4
  obtain ⟨rfl, Nq4, eq4⟩ := hQ4
  have N4 := Fr.app N3 Nq4
  refine own_st st4 ?_
  show own_Go p.tables e below RR (T4.setTop (mkF m 25 #[.val (.long q1), .second, .val (.long (own_spread q1)), .second, .val (.long (own_inv (-49064778989728563 : Int64))), .second, .val (.long (own_inv (-4265267296055464877 : Int64))), .second, .unset, .unset, .unset, .unset, .unset, .unset, .unset, .unset, .unset, .unset, .unset] [(.long (own_us (own_spread q1)))]))
  refine own_st (fun _ k => XS.lstore X4.here hx rfl (hb hby at_25) rfl (l' := #[.val (.long q1), .second, .val (.long (own_spread q1)), .second, .val (.long (own_inv (-49064778989728563 : Int64))), .second, .val (.long (own_inv (-4265267296055464877 : Int64))), .second, .val (.long (own_us (own_spread q1))), .second, .unset, .unset, .unset, .unset, .unset, .unset, .unset, .unset, .unset]) rfl (XS.lload X4.here hx rfl (hb hby at_27) rfl (XS.lload X4.here hx rfl (hb hby at_29) rfl (XS.lmul X4.here hx rfl (hb hby at_31) rfl (XS.lstore X4.here hx rfl (hb hby at_32) rfl (l' := #[.val (.long q1), .second, .val (.long (own_spread q1)), .second, .val (.long (own_inv (-49064778989728563 : Int64))), .second, .val (.long (own_inv (-4265267296055464877 : Int64))), .second, .val (.long (own_us (own_spread q1))), .second, .val (.long ((own_us (own_spread q1)) * (own_inv (-4265267296055464877 : Int64)))), .second, .unset, .unset, .unset, .unset, .unset, .unset, .unset]) rfl (XS.lload X4.here hx rfl (hb hby at_34) rfl k)))))) ?_
  show own_Go p.tables e below RR (T4.setTop (mkF m 36 #[.val (.long q1), .second, .val (.long (own_spread q1)), .second, .val (.long (own_inv (-49064778989728563 : Int64))), .second, .val (.long (own_inv (-4265267296055464877 : Int64))), .second, .val (.long (own_us (own_spread q1))), .second, .val (.long ((own_us (own_spread q1)) * (own_inv (-4265267296055464877 : Int64)))), .second, .unset, .unset, .unset, .unset, .unset, .unset, .unset] [(.long ((own_us (own_spread q1)) * (own_inv (-4265267296055464877 : Int64))))]))
  obtain ⟨_, _, ⟨T5, L5, k5, n5⟩, -, X5, ⟨Lc5, hQ5, l5, y5, z5⟩, st5⟩ := Jvm.LawKit.callS X4 hx (y := (⟨"com/example/nesiph/nesiph/HashingSpreadPinLaw", "unshift", "(J)J"⟩ : MethodName)) hown (mvT hZ (hw _ (List.mem_of_getElem? (i := 13) rfl))) (mvT hZ (hw _ (List.mem_of_getElem? (i := 14) rfl))) (mvT hZ (hw _ (List.mem_of_getElem? (i := 9) rfl))) (mvT hZ (hw _ (List.mem_of_getElem? (i := 15) rfl))) (by decide) (backOf (W := 0) (own_rmU l Z a0 hw [] ((own_us (own_spread q1)) * (own_inv (-4265267296055464877 : Int64))) h0 n0 Z0 ) hZ (hw _ (List.mem_of_getElem? (i := 15) rfl)) (hw _ (List.mem_of_getElem? (i := 9) rfl)) (by decide) (by decide)) (g := (mkF m 36 #[.val (.long q1), .second, .val (.long (own_spread q1)), .second, .val (.long (own_inv (-49064778989728563 : Int64))), .second, .val (.long (own_inv (-4265267296055464877 : Int64))), .second, .val (.long (own_us (own_spread q1))), .second, .val (.long ((own_us (own_spread q1)) * (own_inv (-4265267296055464877 : Int64)))), .second, .unset, .unset, .unset, .unset, .unset, .unset, .unset] [(.long ((own_us (own_spread q1)) * (own_inv (-4265267296055464877 : Int64))))])) rfl (by rw [hml]; rfl) (argsL := [(.long ((own_us (own_spread q1)) * (own_inv (-4265267296055464877 : Int64))))]) (rest := []) (lenOf own_pd__J_J rfl) rfl (by show 2 * 0 + _ ≤ _; exact Nat.le_of_eq rfl) (hb hby at_36) (fun _ _ => ⟨rfl, eq4, (by decide : 0 + 0 ≤ _), (by decide : 0 + 0 ≤ _)⟩)
  dsimp only [Pt.U, Pt.locs, Pt.cells, Pt.slots] at X5 l5 y5 z5 st5 hQ5
  subst l5 y5 z5
  obtain ⟨rfl, Nq5, eq5⟩ := hQ5
  have N5 := Fr.app N4 Nq5
  refine own_st st5 ?_
  show own_Go p.tables e below RR (T5.setTop (mkF m 39 #[.val (.long q1), .second, .val (.long (own_spread q1)), .second, .val (.long (own_inv (-49064778989728563 : Int64))), .second, .val (.long (own_inv (-4265267296055464877 : Int64))), .second, .val (.long (own_us (own_spread q1))), .second, .val (.long ((own_us (own_spread q1)) * (own_inv (-4265267296055464877 : Int64)))), .second, .unset, .unset, .unset, .unset, .unset, .unset, .unset] [(.long (own_us ((own_us (own_spread q1)) * (own_inv (-4265267296055464877 : Int64)))))]))
  refine own_st (fun _ k => XS.lstore X5.here hx rfl (hb hby at_39) rfl (l' := #[.val (.long q1), .second, .val (.long (own_spread q1)), .second, .val (.long (own_inv (-49064778989728563 : Int64))), .second, .val (.long (own_inv (-4265267296055464877 : Int64))), .second, .val (.long (own_us (own_spread q1))), .second, .val (.long ((own_us (own_spread q1)) * (own_inv (-4265267296055464877 : Int64)))), .second, .val (.long (own_us ((own_us (own_spread q1)) * (own_inv (-4265267296055464877 : Int64))))), .second, .unset, .unset, .unset, .unset, .unset]) rfl (XS.lload X5.here hx rfl (hb hby at_41) rfl (XS.lload X5.here hx rfl (hb hby at_43) rfl (XS.lmul X5.here hx rfl (hb hby at_45) rfl (XS.lstore X5.here hx rfl (hb hby at_46) rfl (l' := #[.val (.long q1), .second, .val (.long (own_spread q1)), .second, .val (.long (own_inv (-49064778989728563 : Int64))), .second, .val (.long (own_inv (-4265267296055464877 : Int64))), .second, .val (.long (own_us (own_spread q1))), .second, .val (.long ((own_us (own_spread q1)) * (own_inv (-4265267296055464877 : Int64)))), .second, .val (.long (own_us ((own_us (own_spread q1)) * (own_inv (-4265267296055464877 : Int64))))), .second, .val (.long ((own_us ((own_us (own_spread q1)) * (own_inv (-4265267296055464877 : Int64)))) * (own_inv (-49064778989728563 : Int64)))), .second, .unset, .unset, .unset]) rfl (XS.lload X5.here hx rfl (hb hby at_48) rfl k)))))) ?_
  show own_Go p.tables e below RR (T5.setTop (mkF m 50 #[.val (.long q1), .second, .val (.long (own_spread q1)), .second, .val (.long (own_inv (-49064778989728563 : Int64))), .second, .val (.long (own_inv (-4265267296055464877 : Int64))), .second, .val (.long (own_us (own_spread q1))), .second, .val (.long ((own_us (own_spread q1)) * (own_inv (-4265267296055464877 : Int64)))), .second, .val (.long (own_us ((own_us (own_spread q1)) * (own_inv (-4265267296055464877 : Int64))))), .second, .val (.long ((own_us ((own_us (own_spread q1)) * (own_inv (-4265267296055464877 : Int64)))) * (own_inv (-49064778989728563 : Int64)))), .second, .unset, .unset, .unset] [(.long ((own_us ((own_us (own_spread q1)) * (own_inv (-4265267296055464877 : Int64)))) * (own_inv (-49064778989728563 : Int64))))]))
  obtain ⟨_, _, ⟨T6, L6, k6, n6⟩, -, X6, ⟨Lc6, hQ6, l6, y6, z6⟩, st6⟩ := Jvm.LawKit.callS X5 hx (y := (⟨"com/example/nesiph/nesiph/HashingSpreadPinLaw", "unshift", "(J)J"⟩ : MethodName)) hown (mvT hZ (hw _ (List.mem_of_getElem? (i := 13) rfl))) (mvT hZ (hw _ (List.mem_of_getElem? (i := 14) rfl))) (mvT hZ (hw _ (List.mem_of_getElem? (i := 9) rfl))) (mvT hZ (hw _ (List.mem_of_getElem? (i := 15) rfl))) (by decide) (backOf (W := 0) (own_rmU l Z a0 hw [] ((own_us ((own_us (own_spread q1)) * (own_inv (-4265267296055464877 : Int64)))) * (own_inv (-49064778989728563 : Int64))) h0 n0 Z0 ) hZ (hw _ (List.mem_of_getElem? (i := 15) rfl)) (hw _ (List.mem_of_getElem? (i := 9) rfl)) (by decide) (by decide)) (g := (mkF m 50 #[.val (.long q1), .second, .val (.long (own_spread q1)), .second, .val (.long (own_inv (-49064778989728563 : Int64))), .second, .val (.long (own_inv (-4265267296055464877 : Int64))), .second, .val (.long (own_us (own_spread q1))), .second, .val (.long ((own_us (own_spread q1)) * (own_inv (-4265267296055464877 : Int64)))), .second, .val (.long (own_us ((own_us (own_spread q1)) * (own_inv (-4265267296055464877 : Int64))))), .second, .val (.long ((own_us ((own_us (own_spread q1)) * (own_inv (-4265267296055464877 : Int64)))) * (own_inv (-49064778989728563 : Int64)))), .second, .unset, .unset, .unset] [(.long ((own_us ((own_us (own_spread q1)) * (own_inv (-4265267296055464877 : Int64)))) * (own_inv (-49064778989728563 : Int64))))])) rfl (by rw [hml]; rfl) (argsL := [(.long ((own_us ((own_us (own_spread q1)) * (own_inv (-4265267296055464877 : Int64)))) * (own_inv (-49064778989728563 : Int64))))]) (rest := []) (lenOf own_pd__J_J rfl) rfl (by show 2 * 0 + _ ≤ _; exact Nat.le_of_eq rfl) (hb hby at_50) (fun _ _ => ⟨rfl, eq5, (by decide : 0 + 0 ≤ _), (by decide : 0 + 0 ≤ _)⟩)
  dsimp only [Pt.U, Pt.locs, Pt.cells, Pt.slots] at X6 l6 y6 z6 st6 hQ6
  subst l6 y6 z6
  obtain ⟨rfl, Nq6, eq6⟩ := hQ6
  have N6 := Fr.app N5 Nq6
  refine own_st st6 ?_
  show own_Go p.tables e below RR (T6.setTop (mkF m 53 #[.val (.long q1), .second, .val (.long (own_spread q1)), .second, .val (.long (own_inv (-49064778989728563 : Int64))), .second, .val (.long (own_inv (-4265267296055464877 : Int64))), .second, .val (.long (own_us (own_spread q1))), .second, .val (.long ((own_us (own_spread q1)) * (own_inv (-4265267296055464877 : Int64)))), .second, .val (.long (own_us ((own_us (own_spread q1)) * (own_inv (-4265267296055464877 : Int64))))), .second, .val (.long ((own_us ((own_us (own_spread q1)) * (own_inv (-4265267296055464877 : Int64)))) * (own_inv (-49064778989728563 : Int64)))), .second, .unset, .unset, .unset] [(.long (own_us ((own_us ((own_us (own_spread q1)) * (own_inv (-4265267296055464877 : Int64)))) * (own_inv (-49064778989728563 : Int64)))))]))
  refine own_st (fun _ k => XS.lstore X6.here hx rfl (hb hby at_53) rfl (l' := #[.val (.long q1), .second, .val (.long (own_spread q1)), .second, .val (.long (own_inv (-49064778989728563 : Int64))), .second, .val (.long (own_inv (-4265267296055464877 : Int64))), .second, .val (.long (own_us (own_spread q1))), .second, .val (.long ((own_us (own_spread q1)) * (own_inv (-4265267296055464877 : Int64)))), .second, .val (.long (own_us ((own_us (own_spread q1)) * (own_inv (-4265267296055464877 : Int64))))), .second, .val (.long ((own_us ((own_us (own_spread q1)) * (own_inv (-4265267296055464877 : Int64)))) * (own_inv (-49064778989728563 : Int64)))), .second, .val (.long (own_us ((own_us ((own_us (own_spread q1)) * (own_inv (-4265267296055464877 : Int64)))) * (own_inv (-49064778989728563 : Int64))))), .second, .unset]) rfl (XS.lload X6.here hx rfl (hb hby at_55) rfl (X6.ldc2Long hx hown (mvT hZ (hw _ (List.mem_of_getElem? (i := 6) rfl))) (g := (mkF m 57 #[.val (.long q1), .second, .val (.long (own_spread q1)), .second, .val (.long (own_inv (-49064778989728563 : Int64))), .second, .val (.long (own_inv (-4265267296055464877 : Int64))), .second, .val (.long (own_us (own_spread q1))), .second, .val (.long ((own_us (own_spread q1)) * (own_inv (-4265267296055464877 : Int64)))), .second, .val (.long (own_us ((own_us (own_spread q1)) * (own_inv (-4265267296055464877 : Int64))))), .second, .val (.long ((own_us ((own_us (own_spread q1)) * (own_inv (-4265267296055464877 : Int64)))) * (own_inv (-49064778989728563 : Int64)))), .second, .val (.long (own_us ((own_us ((own_us (own_spread q1)) * (own_inv (-4265267296055464877 : Int64)))) * (own_inv (-49064778989728563 : Int64))))), .second, .unset] [(.long (own_inv (-49064778989728563 : Int64)))])) rfl (hb hby at_57) _ (XS.lmul X6.here hx rfl (hb hby at_60) rfl (XS.lconst X6.here hx rfl (hb hby at_61) (XS.lcmp X6.here hx rfl (hb hby at_62) rfl k)))))) ?_
  show own_Go p.tables e below RR (T6.setTop (mkF m 63 #[.val (.long q1), .second, .val (.long (own_spread q1)), .second, .val (.long (own_inv (-49064778989728563 : Int64))), .second, .val (.long (own_inv (-4265267296055464877 : Int64))), .second, .val (.long (own_us (own_spread q1))), .second, .val (.long ((own_us (own_spread q1)) * (own_inv (-4265267296055464877 : Int64)))), .second, .val (.long (own_us ((own_us (own_spread q1)) * (own_inv (-4265267296055464877 : Int64))))), .second, .val (.long ((own_us ((own_us (own_spread q1)) * (own_inv (-4265267296055464877 : Int64)))) * (own_inv (-49064778989728563 : Int64)))), .second, .val (.long (own_us ((own_us ((own_us (own_spread q1)) * (own_inv (-4265267296055464877 : Int64)))) * (own_inv (-49064778989728563 : Int64))))), .second, .unset] [(.int (lcmpW ((own_inv (-49064778989728563 : Int64)) * (-49064778989728563 : Int64)) (1 : Int64)))]))
  have hc63_7 : ((own_inv (-49064778989728563 : Int64)) * (-49064778989728563 : Int64)) = (1 : Int64) := by first | exact own_i1 | exact own_i2 | exact own_all _
  refine own_st (fun _ k => XS.ifNo X6.here hx rfl (hb hby at_63) rfl ((if0 _ _).trans (teq ((lw_eq _ _).mpr hc63_7)).2) (XS.lload X6.here hx rfl (hb hby at_66) rfl (X6.ldc2Long hx hown (mvT hZ (hw _ (List.mem_of_getElem? (i := 12) rfl))) (g := (mkF m 68 #[.val (.long q1), .second, .val (.long (own_spread q1)), .second, .val (.long (own_inv (-49064778989728563 : Int64))), .second, .val (.long (own_inv (-4265267296055464877 : Int64))), .second, .val (.long (own_us (own_spread q1))), .second, .val (.long ((own_us (own_spread q1)) * (own_inv (-4265267296055464877 : Int64)))), .second, .val (.long (own_us ((own_us (own_spread q1)) * (own_inv (-4265267296055464877 : Int64))))), .second, .val (.long ((own_us ((own_us (own_spread q1)) * (own_inv (-4265267296055464877 : Int64)))) * (own_inv (-49064778989728563 : Int64)))), .second, .val (.long (own_us ((own_us ((own_us (own_spread q1)) * (own_inv (-4265267296055464877 : Int64)))) * (own_inv (-49064778989728563 : Int64))))), .second, .unset] [(.long (own_inv (-4265267296055464877 : Int64)))])) rfl (hb hby at_68) _ (XS.lmul X6.here hx rfl (hb hby at_71) rfl (XS.lconst X6.here hx rfl (hb hby at_72) (XS.lcmp X6.here hx rfl (hb hby at_73) rfl k)))))) ?_
  show own_Go p.tables e below RR (T6.setTop (mkF m 74 #[.val (.long q1), .second, .val (.long (own_spread q1)), .second, .val (.long (own_inv (-49064778989728563 : Int64))), .second, .val (.long (own_inv (-4265267296055464877 : Int64))), .second, .val (.long (own_us (own_spread q1))), .second, .val (.long ((own_us (own_spread q1)) * (own_inv (-4265267296055464877 : Int64)))), .second, .val (.long (own_us ((own_us (own_spread q1)) * (own_inv (-4265267296055464877 : Int64))))), .second, .val (.long ((own_us ((own_us (own_spread q1)) * (own_inv (-4265267296055464877 : Int64)))) * (own_inv (-49064778989728563 : Int64)))), .second, .val (.long (own_us ((own_us ((own_us (own_spread q1)) * (own_inv (-4265267296055464877 : Int64)))) * (own_inv (-49064778989728563 : Int64))))), .second, .unset] [(.int (lcmpW ((own_inv (-4265267296055464877 : Int64)) * (-4265267296055464877 : Int64)) (1 : Int64)))]))
  have hc74_8 : ((own_inv (-4265267296055464877 : Int64)) * (-4265267296055464877 : Int64)) = (1 : Int64) := by first | exact own_i1 | exact own_i2 | exact own_all _
  refine own_st (fun _ k => XS.ifNo X6.here hx rfl (hb hby at_74) rfl ((if0 _ _).trans (teq ((lw_eq _ _).mpr hc74_8)).2) (XS.iconst X6.here hx rfl (hb hby at_77) (XS.goto X6.here hx rfl (pc0 := 78) (pc' := 82) rfl (hb hby at_78) (by decide) (by decide) (XS.istore X6.here hx rfl (hb hby at_82) rfl (l' := #[.val (.long q1), .second, .val (.long (own_spread q1)), .second, .val (.long (own_inv (-49064778989728563 : Int64))), .second, .val (.long (own_inv (-4265267296055464877 : Int64))), .second, .val (.long (own_us (own_spread q1))), .second, .val (.long ((own_us (own_spread q1)) * (own_inv (-4265267296055464877 : Int64)))), .second, .val (.long (own_us ((own_us (own_spread q1)) * (own_inv (-4265267296055464877 : Int64))))), .second, .val (.long ((own_us ((own_us (own_spread q1)) * (own_inv (-4265267296055464877 : Int64)))) * (own_inv (-49064778989728563 : Int64)))), .second, .val (.long (own_us ((own_us ((own_us (own_spread q1)) * (own_inv (-4265267296055464877 : Int64)))) * (own_inv (-49064778989728563 : Int64))))), .second, .val (.int (1 : Int32))]) rfl (XS.iload X6.here hx rfl (hb hby at_84) rfl k))))) ?_
  show own_Go p.tables e below RR (T6.setTop (mkF m 86 #[.val (.long q1), .second, .val (.long (own_spread q1)), .second, .val (.long (own_inv (-49064778989728563 : Int64))), .second, .val (.long (own_inv (-4265267296055464877 : Int64))), .second, .val (.long (own_us (own_spread q1))), .second, .val (.long ((own_us (own_spread q1)) * (own_inv (-4265267296055464877 : Int64)))), .second, .val (.long (own_us ((own_us (own_spread q1)) * (own_inv (-4265267296055464877 : Int64))))), .second, .val (.long ((own_us ((own_us (own_spread q1)) * (own_inv (-4265267296055464877 : Int64)))) * (own_inv (-49064778989728563 : Int64)))), .second, .val (.long (own_us ((own_us ((own_us (own_spread q1)) * (own_inv (-4265267296055464877 : Int64)))) * (own_inv (-49064778989728563 : Int64))))), .second, .val (.int (1 : Int32))] [(.int (1 : Int32))]))
  refine own_st (fun _ k => XS.ifNo X6.here hx rfl (hb hby at_86) rfl ((if0 _ _).trans (feq (by decide)).1) (XS.lload X6.here hx rfl (hb hby at_89) rfl (XS.lloadN X6.here hx rfl (hb hby at_91) rfl (XS.lcmp X6.here hx rfl (hb hby at_92) rfl k)))) ?_
  show own_Go p.tables e below RR (T6.setTop (mkF m 93 #[.val (.long q1), .second, .val (.long (own_spread q1)), .second, .val (.long (own_inv (-49064778989728563 : Int64))), .second, .val (.long (own_inv (-4265267296055464877 : Int64))), .second, .val (.long (own_us (own_spread q1))), .second, .val (.long ((own_us (own_spread q1)) * (own_inv (-4265267296055464877 : Int64)))), .second, .val (.long (own_us ((own_us (own_spread q1)) * (own_inv (-4265267296055464877 : Int64))))), .second, .val (.long ((own_us ((own_us (own_spread q1)) * (own_inv (-4265267296055464877 : Int64)))) * (own_inv (-49064778989728563 : Int64)))), .second, .val (.long (own_us ((own_us ((own_us (own_spread q1)) * (own_inv (-4265267296055464877 : Int64)))) * (own_inv (-49064778989728563 : Int64))))), .second, .val (.int (1 : Int32))] [(.int (lcmpW (own_us ((own_us ((own_us (own_spread q1)) * (own_inv (-4265267296055464877 : Int64)))) * (own_inv (-49064778989728563 : Int64)))) q1))]))
  have hc93_9 : (own_us ((own_us ((own_us (own_spread q1)) * (own_inv (-4265267296055464877 : Int64)))) * (own_inv (-49064778989728563 : Int64)))) = q1 := by first | exact own_i1 | exact own_i2 | exact own_all _
  refine own_st (fun _ k => XS.ifNo X6.here hx rfl (hb hby at_93) rfl ((if0 _ _).trans (teq ((lw_eq _ _).mpr hc93_9)).2) (XS.iconst X6.here hx rfl (hb hby at_96) (XS.goto X6.here hx rfl (pc0 := 97) (pc' := 101) rfl (hb hby at_97) (by decide) (by decide) k))) ?_
  show own_Go p.tables e below RR (T6.setTop (mkF m 101 #[.val (.long q1), .second, .val (.long (own_spread q1)), .second, .val (.long (own_inv (-49064778989728563 : Int64))), .second, .val (.long (own_inv (-4265267296055464877 : Int64))), .second, .val (.long (own_us (own_spread q1))), .second, .val (.long ((own_us (own_spread q1)) * (own_inv (-4265267296055464877 : Int64)))), .second, .val (.long (own_us ((own_us (own_spread q1)) * (own_inv (-4265267296055464877 : Int64))))), .second, .val (.long ((own_us ((own_us (own_spread q1)) * (own_inv (-4265267296055464877 : Int64)))) * (own_inv (-49064778989728563 : Int64)))), .second, .val (.long (own_us ((own_us ((own_us (own_spread q1)) * (own_inv (-4265267296055464877 : Int64)))) * (own_inv (-49064778989728563 : Int64))))), .second, .val (.int (1 : Int32))] [(.int (1 : Int32))]))
  obtain ⟨fs, hrt_, hrun, hended, hW, hsame⟩ := X6.leave (v := some (.int (1 : Int32))) (fun h => by rw [Bd.returns] at h; cases h)
  refine own_fin (retN X6 hx (t := .boolean) Bd.returns (by simp) (hb hby at_101) hrt_) (hRR _ ⟨_, hrun, hended, _, _, rfl, ?_, ⟨_, rfl⟩, hW, hsame.mono (by decide) (by decide)⟩)
  show own_Q0 Z q1 h0 n0 _ T6.heap _
  rw [eq6]
  exact ⟨rfl, N6⟩
set_option maxRecDepth 65536 in
set_option maxHeartbeats 40000000 in
theorem own_comes {Post : Tables → Env → Array Value → State → Outcome → State → Prop} (hpost : ∀ tb e args s v u, (limb_1_1.after args s (.returned v) u = true ∧ limb_1_2.after args s (.returned v) u = true ∧ True) → FrameEnd s (.returned v) u (Jvm.fieldLocs frame_1_writes args s ++ Jvm.arrayLocs frame_1_arrays args s ++ Jvm.staticLocs frame_1_statics s) 0 0 → Post tb e args s (.returned v) u) :
    ArmFor flags0 classFile x code maxLocals ret World_1 tables_1 room_1 Calls_1 rest_1 Pre_1 Post := by
  intro l hfl _ _ p e ha hc hk s m args below hf hA hF happ hP
  obtain ⟨hcalls, hrest, hpre⟩ := hP
  obtain ⟨-, -, -, hnamed, -, -, -, hat⟩ := (Spec.applies_iff hf).mp happ
  obtain ⟨hg, hn⟩ := and_e (Cond.before_iff.mp (show (Jvm.Cond.and given_1 narrow_1).before args s = true from hpre))
  obtain ⟨u1a, u1b⟩ := and_e hg
  obtain ⟨w0, rfl⟩ : ∃ w0 : Value, args = #[w0] := by
    have hs : args.size = 1 := by simpa [Cond.value, given_1] using u1a
    obtain ⟨L⟩ := args
    match L, hs with
    | [w0], _ => exact ⟨w0, rfl⟩
  have hw := fun d (hd : d ∈ tables_1) => atoms_spec (ws := Jvm.Cond.code x code maxLocals ret :: tables_1) hat d (List.mem_cons_of_mem _ hd)
  have hfit : Fit s := fun {y c} hc i hi => by
    obtain ⟨ha, rfl⟩ := Array.getElem?_eq_some_iff.mp hc
    have q := List.all_eq_true.mp ((Array.all_eq_true_iff_forall_mem.mp hF) _ (Array.getElem_mem ha)) i (List.mem_range.mpr hi)
    simpa [Array.getElem?_eq_getElem hi] using q
  obtain ⟨i0, ei0⟩ := isL_v u1b
  obtain rfl : w0 = (.long i0) := Option.some.inj ei0
  obtain ⟨n, o, h1, h2, h3, _, L, rfl, ⟨rfl, N⟩, hq⟩ := own_rm0 l s _ hw tables_1 i0 s.heap s.heap.size (Nat.le_refl _)  p e ha hc hk s m _ below hf ((Spec.applies_iff_loose hf).mp happ).1 ⟨rfl, State.Warmed39.refl s, rfl⟩ trivial
  refine ⟨n, _, h1, h2, h3, hpost _ _ _ _ _ _ ⟨Cond.after_iff.mpr rfl, Cond.after_iff.mpr (eq_i res_at (Term.int_eval (1)) rfl), trivial⟩ ⟨hq.1, hq.2.1, (hq.2.2.sift fun y hy => Or.inr (N y hy)).mono (by decide) (by decide)⟩⟩
theorem main_1_1 : Claimed_1_1 := own_comes fun _ _ _ _ _ _ h hF => ⟨h.1, hF⟩
theorem main_1_2 : Claimed_1_2 := own_comes fun _ _ _ _ _ _ h hF => ⟨h.2.1, hF⟩
end Jvm.Pilot.@@N@@
namespace Jvm.Pilot.@@N@@
open Jvm Jvm.ClassFile Sem Op Lib Jvm.Free Jvm.Stand Jvm.Pilot.@@N@@.Jvm.D
/-! MADE BY PROGRAM (witnessworld.py) out of the Statement's table words and the real class files: 7 classes; the members and pool entries that the words name. The judged class is class 1, her method 3. -/
namespace start1
open Jvm.ClassFile
def u (s : String) : CpInfo := .utf8 (stringToUtf16 s)
/-- a pool by its gaps: so many unusable entries, then the entry; so many at the end -/
def gap : Nat → List CpInfo → List CpInfo
  | 0, r => r
  | n + 1, r => .unusable :: gap n r
def poolList (es : List (Nat × CpInfo)) (last : Nat) : List CpInfo := es.foldr (fun e r => gap e.1 (e.2 :: r)) (gap last [])
def pool (es : List (Nat × CpInfo)) (last : Nat) : Array CpInfo := ⟨poolList es last⟩
def fileOf (pool : Array CpInfo) (this : Nat) (attrs : Array Attribute := #[]) (ms : Array MethodInfo := #[]) (fl : Nat := 33) (sup : Nat := 0) (ifs : Array Nat := #[]) (fds : Array FieldInfo := #[]) : ClassFile where
  minorVersion := 0
  majorVersion := 65
  constantPool := pool
  accessFlags := fl
  thisClass := this
  superClass := sup
  interfaces := ifs
  fields := fds
  methods := ms
  attributes := attrs
def plain (name : String) (sup : Option ClassId) : Class where
  name := name
  kind := .ordinary
  loader := none
  accessFlags := 33
  super := sup
  interfaces := #[]
  cf := none
  fields := #[]
  methods := #[]
  instanceTypes := #[]
  staticTypes := #[]
  resolved := #[]
  callSites := []
  init := .initialized
  statics := none
  mirror := none

def pool0 : Array CpInfo := pool [(5, u "<init>"), (0, u "()V"), (1, .class_ 10), (1, u "java/lang/Object")] 113

def k0m0 : Method := { name := "<init>", desc := "()V", sig := { parameters := [], returnType := none }, accessFlags := 1, code := none }
/-- java/lang/Object -/
def k0 : Class := { plain "java/lang/Object" none with
  accessFlags := 33
  interfaces := #[]
  cf := some (fileOf pool0 8 #[] #[{ accessFlags := 1, nameIndex := 5, descriptorIndex := 6, attributes := #[] }] 33 0 #[] #[])
  fields := #[]
  methods := #[k0m0]
  instanceTypes := #[]
  staticTypes := #[]
  resolved := Array.replicate 124 none
  statics := none }

def pool1 : Array CpInfo := pool [(2, .class_ 4), (1, u "java/lang/Object"), (0, u "<init>"), (0, u "()V"), (0, .long 2), (1, .methodref 10 11), (0, .class_ 12), (0, .nameAndType 13 14), (0, u "com/example/nesiph/nesiph/Hashing"), (0, u "spread"), (0, u "(J)J"), (0, .long 18397679294719823053), (1, .methodref 18 19), (0, .class_ 20), (0, .nameAndType 21 14), (0, u "com/example/nesiph/nesiph/HashingSpreadPinLaw"), (0, u "inverse"), (0, .long 14181476777654086739), (1, .methodref 18 25), (0, .nameAndType 26 14), (0, u "unshift"), (2, u "law"), (0, u "(J)Z")] 3

def k1m0 : Method := { name := "<init>", desc := "()V", sig := { parameters := [], returnType := none }, accessFlags := 2, code := none }
def k1c1 : Code := { maxStack := 8, maxLocals := 4, code := method_2_code, exceptionTable := #[], attributes := #[] }
def k1m1 : Method := { name := "inverse", desc := "(J)J", sig := { parameters := [.long], returnType := some .long }, accessFlags := 10, code := some k1c1 }
def k1c2 : Code := { maxStack := 5, maxLocals := 2, code := method_3_code, exceptionTable := #[], attributes := #[] }
def k1m2 : Method := { name := "unshift", desc := "(J)J", sig := { parameters := [.long], returnType := some .long }, accessFlags := 10, code := some k1c2 }
def k1c3 : Code := { maxStack := 4, maxLocals := 19, code := code, exceptionTable := #[], attributes := #[] }
def k1m3 : Method := { name := "law", desc := "(J)Z", sig := { parameters := [.long], returnType := some .boolean }, accessFlags := 9, code := some k1c3 }
/-- com/example/nesiph/nesiph/HashingSpreadPinLaw -/
def k1 : Class := { plain "com/example/nesiph/nesiph/HashingSpreadPinLaw" (some 0) with
  accessFlags := 49
  interfaces := #[]
  cf := some (fileOf pool1 18 #[] #[{ accessFlags := 2, nameIndex := 5, descriptorIndex := 6, attributes := #[] }, { accessFlags := 10, nameIndex := 21, descriptorIndex := 14, attributes := #[] }, { accessFlags := 10, nameIndex := 26, descriptorIndex := 14, attributes := #[] }, { accessFlags := 9, nameIndex := 29, descriptorIndex := 30, attributes := #[] }] 49 2 #[] #[])
  fields := #[]
  methods := #[k1m0, k1m1, k1m2, k1m3]
  instanceTypes := #[]
  staticTypes := #[]
  resolved := Array.replicate 34 none
  statics := none }

def pool2 : Array CpInfo := pool [(2, .class_ 4), (1, u "java/lang/Object"), (0, u "<init>"), (0, u "()V"), (0, .long 18397679294719823053), (1, .long 14181476777654086739), (1, .class_ 12), (0, u "com/example/nesiph/nesiph/Hashing"), (2, u "spread"), (0, u "(J)J")] 2

def k2m0 : Method := { name := "<init>", desc := "()V", sig := { parameters := [], returnType := none }, accessFlags := 2, code := none }
def k2c1 : Code := { maxStack := 5, maxLocals := 4, code := prog_17_method_2_code, exceptionTable := #[], attributes := #[] }
def k2m1 : Method := { name := "spread", desc := "(J)J", sig := { parameters := [.long], returnType := some .long }, accessFlags := 8, code := some k2c1 }
/-- com/example/nesiph/nesiph/Hashing -/
def k2 : Class := { plain "com/example/nesiph/nesiph/Hashing" (some 0) with
  accessFlags := 48
  interfaces := #[]
  cf := some (fileOf pool2 11 #[] #[{ accessFlags := 2, nameIndex := 5, descriptorIndex := 6, attributes := #[] }, { accessFlags := 8, nameIndex := 15, descriptorIndex := 16, attributes := #[] }] 48 2 #[] #[])
  fields := #[]
  methods := #[k2m0, k2m1]
  instanceTypes := #[]
  staticTypes := #[]
  resolved := Array.replicate 19 none
  statics := none }

def pool3 : Array CpInfo := pool [(1, u "java/lang/Cloneable"), (0, .class_ 1), (0, u "java/lang/Object"), (0, .class_ 3)] 3

/-- java/lang/Cloneable -/
def k3 : Class := { plain "java/lang/Cloneable" (some 0) with
  accessFlags := 1537
  interfaces := #[]
  cf := some (fileOf pool3 2 #[] #[] 1537 4 #[] #[])
  fields := #[]
  methods := #[]
  instanceTypes := #[]
  staticTypes := #[]
  resolved := Array.replicate 8 none
  statics := none }

def pool4 : Array CpInfo := pool [(1, u "java/io/Serializable"), (0, .class_ 1), (0, u "java/lang/Object"), (0, .class_ 3)] 3

/-- java/io/Serializable -/
def k4 : Class := { plain "java/io/Serializable" (some 0) with
  accessFlags := 1537
  interfaces := #[]
  cf := some (fileOf pool4 2 #[] #[] 1537 4 #[] #[])
  fields := #[]
  methods := #[]
  instanceTypes := #[]
  staticTypes := #[]
  resolved := Array.replicate 8 none
  statics := none }

/-- the primitive byte -/
def k5 : Class := { plain "byte" none with kind := .primitive 'B', accessFlags := 0x411 }
/-- [B -/
def k6 : Class := { plain "[B" (some 0) with kind := .array 5 .byte, interfaces := #[3, 4], accessFlags := 1041 }

def heap : Heap := #[]
def classes : Array Class := #[k0, k1, k2, k3, k4, k5, k6]
def interned : List (Array UInt16 × Addr) := []
def slotsUsed : Nat := 0
def theMethod : MethodId := ⟨1, 3⟩
def args0 : Array Value := #[.long 5]
def aboutOver (below : List Frame) : State where
  vm := { classes := classes, interned := interned.toArray }
  heap := heap
  slotsUsed := slotsUsed
  threads := #[{ frames := .invoking theMethod args0 :: below }]
def below0 : List Frame := [.native { method := ⟨0, 0⟩, args := #[] }]
def about1 : State := aboutOver below0
def p0 : Program := .bare "" "" ""
def e0 : Env := launch0.env 0 0 0
theorem w_frames : about1.frames = Frame.invoking theMethod args0 :: below0 := rfl
set_option maxRecDepth 65536 in
theorem w_args : argsFit about1.vm theMethod args0 = true := by decide +kernel
set_option maxRecDepth 65536 in
theorem w_heap : heapFits about1 = true := by decide +kernel
set_option maxRecDepth 65536 in
theorem w_runnable : about1.curStatus? = some .runnable := by decide +kernel
set_option maxRecDepth 65536 in
theorem w_alone : about1.alone = true := by decide +kernel
set_option maxRecDepth 65536 in
theorem w_named : about1.methodNamed? x = some theMethod := by decide +kernel
set_option maxRecDepth 65536 in
theorem w_hears : about1.hears theMethod below0 = true := by decide +kernel
set_option maxRecDepth 65536 in
theorem w_ripe : about1.ripe theMethod args0 below0 = true := by decide +kernel
theorem w_running : about1.status = .running := rfl
set_option maxRecDepth 65536 in
theorem w_room : about1.hasRoom e0.platform room_1 = true :=
  launch0.hasRoom_least _ room_1 (by decide +kernel) (by decide +kernel) (by decide +kernel) (by decide +kernel) (by decide +kernel) (by decide +kernel)
theorem allAtoms_all (ts : List Jvm.Cond) (a : Array Jvm.Value) (st : Jvm.State) : (allAtoms ts).before a st = ts.all (fun c => c.before a st) := by
  induction ts with
  | nil => rfl
  | cons c t ih =>
    show (Jvm.Cond.and c (allAtoms t)).before a st = _
    rw [Jvm.Cond.before_and, ih, List.all_cons]
def words1 : List Jvm.Cond := Jvm.Cond.code x code maxLocals ret :: tables_1
/-- a 'code' word, met by the world's own term for the bytes: nothing is compared byte by byte -/
theorem code_word {y : MethodName} {bytes : ByteArray} {mx : Nat} {rt : Option FieldType} {a : Array Value} {s : State} {m : MethodId} {meth : Method} {c : Code} (h1 : s.methodNamed? y = some m) (h2 : s.vm.method? m = some meth) (h3 : meth.code = some c) (h4 : c.code = bytes)
    (h5 : (c.maxLocals == mx && c.exceptionTable.isEmpty && decide (c.maxStack ≤ mostOperands) && decide (meth.sig.returnType = rt) && !meth.locks && decide (parseMethodDescriptor y.desc = some meth.sig)) = true) : (Jvm.Cond.code y bytes mx rt).before a s = true := by
  simp only [Bool.and_eq_true, beq_iff_eq, Bool.not_eq_true', decide_eq_true_eq] at h5
  obtain ⟨⟨⟨⟨⟨g1, g2⟩, g3⟩, g4⟩, g5⟩, g6⟩ := h5
  simp [Cond.before, Cond.holds, Cond.value, h1, h2, h3, h4, g1, g2, g3, g4, g5, g6]
def isCode : Jvm.Cond → Bool
  | .code _ _ _ _ => true
  | _ => false
theorem all_split {L : List Jvm.Cond} {P : Jvm.Cond → Bool} (h1 : L.all (fun c => isCode c || P c) = true) (h2 : ∀ c ∈ L.filter isCode, P c = true) : L.all P = true := by
  refine List.all_eq_true.mpr fun c hc => ?_
  have h := List.all_eq_true.mp h1 c hc
  rcases Bool.eq_false_or_eq_true (isCode c) with hi | hi
  · exact h2 c (List.mem_filter.mpr ⟨hc, hi⟩)
  · simpa [hi] using h
set_option maxRecDepth 65536 in
theorem w_c0 : (Jvm.Cond.code x code maxLocals ret).before args0 about1 = true := code_word (m := ⟨1, 3⟩) (meth := k1m3) (c := k1c3) (by decide +kernel) rfl rfl rfl (by decide +kernel)
set_option maxRecDepth 65536 in
theorem w_c1 : (Jvm.Cond.code ({ cls := "com/example/nesiph/nesiph/Hashing", name := "spread", desc := "(J)J" } : Jvm.MethodName) prog_17_method_2_code (4 : Nat) (Option.some Jvm.ClassFile.FieldType.long)).before args0 about1 = true := code_word (m := ⟨2, 1⟩) (meth := k2m1) (c := k2c1) (by decide +kernel) rfl rfl rfl (by decide +kernel)
set_option maxRecDepth 65536 in
theorem w_c2 : (Jvm.Cond.code ({ cls := "com/example/nesiph/nesiph/HashingSpreadPinLaw", name := "inverse", desc := "(J)J" } : Jvm.MethodName) method_2_code (4 : Nat) (Option.some Jvm.ClassFile.FieldType.long)).before args0 about1 = true := code_word (m := ⟨1, 1⟩) (meth := k1m1) (c := k1c1) (by decide +kernel) rfl rfl rfl (by decide +kernel)
set_option maxRecDepth 65536 in
theorem w_c3 : (Jvm.Cond.code ({ cls := "com/example/nesiph/nesiph/HashingSpreadPinLaw", name := "unshift", desc := "(J)J" } : Jvm.MethodName) method_3_code (2 : Nat) (Option.some Jvm.ClassFile.FieldType.long)).before args0 about1 = true := code_word (m := ⟨1, 2⟩) (meth := k1m2) (c := k1c2) (by decide +kernel) rfl rfl rfl (by decide +kernel)
def codes1 : List Jvm.Cond := [Jvm.Cond.code x code maxLocals ret, Jvm.Cond.code ({ cls := "com/example/nesiph/nesiph/Hashing", name := "spread", desc := "(J)J" } : Jvm.MethodName) prog_17_method_2_code (4 : Nat) (Option.some Jvm.ClassFile.FieldType.long), Jvm.Cond.code ({ cls := "com/example/nesiph/nesiph/HashingSpreadPinLaw", name := "inverse", desc := "(J)J" } : Jvm.MethodName) method_2_code (4 : Nat) (Option.some Jvm.ClassFile.FieldType.long), Jvm.Cond.code ({ cls := "com/example/nesiph/nesiph/HashingSpreadPinLaw", name := "unshift", desc := "(J)J" } : Jvm.MethodName) method_3_code (2 : Nat) (Option.some Jvm.ClassFile.FieldType.long)]
set_option maxRecDepth 65536 in
theorem codes_eq : words1.filter isCode = codes1 := rfl
theorem w_codes : ∀ c ∈ words1.filter isCode, c.before args0 about1 = true := by
  rw [codes_eq]
  intro c hc
  simp only [codes1, List.mem_cons, List.not_mem_nil, or_false] at hc
  rcases hc with rfl | rfl | rfl | rfl
  · exact w_c0
  · exact w_c1
  · exact w_c2
  · exact w_c3
set_option maxRecDepth 65536 in
theorem w_t1 : words1.all (fun c => isCode c || c.before args0 about1) = true := by decide +kernel
theorem w_tables : (allAtoms (Jvm.Cond.code x code maxLocals ret :: tables_1)).before args0 about1 = true := by
  rw [allAtoms_all]
  show words1.all (fun c => c.before args0 about1) = true
  refine all_split ?_ w_codes
  rw [w_t1]
set_option maxRecDepth 65536 in
theorem w_case : (Jvm.Cond.and given_1 narrow_1).before args0 about1 = true := by decide +kernel
theorem w_applies : (headSpec (Jvm.Cond.code x code maxLocals ret :: tables_1) room_1).applies x e0.platform about1 = true :=
  (Spec.applies_iff w_frames).mpr ⟨w_running, w_runnable, w_alone, w_named, w_hears, w_ripe, w_room, w_tables⟩
theorem atStart : AtStart classFile x code maxLocals ret World_1 tables_1 room_1 Calls_1 rest_1 Pre_1 launch0 p0 e0 about1 theMethod args0 below0 :=
  ⟨lists_1, trivial, launch0.admits_env _ _ _, launch0.least_env, fairChoices_fair.cas, fairChoices_fair.clock, w_frames, w_args, w_heap, w_applies, trivial, trivial, w_case⟩
end start1
theorem witness_1 : WitnessClaimed_1 := ⟨start1.p0, start1.e0, start1.about1, start1.theMethod, start1.args0, start1.below0, start1.atStart⟩
end Jvm.Pilot.@@N@@
