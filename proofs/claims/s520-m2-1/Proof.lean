import JvmDerived
import JvmDerived.Pilot.@@N@@Statement
import JvmDerived.Pilot.@@N@@Code
set_option linter.unusedVariables false
set_option linter.unusedSimpArgs false
namespace Jvm.RoadKit
open Sem ClassFile Op Lib Jvm.Stand Jvm.Free Jvm.LawKit
section Own
/-- from u a state is reached where R holds -/
def own_Go (tb : Tables) (e : Env) (below : List Frame) (R : State → Prop) (u : State) : Prop := ∃ t, Steps tb e below u t ∧ R t
theorem own_st {tb : Tables} {e : Env} {below : List Frame} {R : State → Prop} {u v : State} (h : ∀ t, Steps tb e below v t → Steps tb e below u t) (g : own_Go tb e below R v) : own_Go tb e below R u := by
  obtain ⟨t, h1, h2⟩ := g
  exact ⟨t, h t h1, h2⟩
theorem own_fin {tb : Tables} {e : Env} {below : List Frame} {R : State → Prop} {u t : State} (h : Steps tb e below u t) (r : R t) : own_Go tb e below R u := ⟨t, h, r⟩
theorem own_in {tb : Tables} {e : Env} {below : List Frame} {u v : State} {P : State → Outcome → Prop} (h : ∀ t, Steps tb e below v t → Steps tb e below u t)
    (g : ∀ RR : State → Prop, (∀ t, (∃ o, t.status = .running ∧ P t o) → RR t) → own_Go tb e below RR v) : ∃ t o, Steps tb e below u t ∧ t.status = .running ∧ P t o := by
  obtain ⟨t, h1, o, h2, h3⟩ := g (fun t => ∃ o, t.status = .running ∧ P t o) fun _ q => q
  exact ⟨t, o, h t h1, h2, h3⟩
theorem own_ri {x y : Int32} (h : x = y) : some (Value.int x) = some (Value.int y) := h ▸ rfl
theorem own_rj {x y : Int64} (h : x = y) : some (Value.long x) = some (Value.long y) := h ▸ rfl
theorem own_rr {x y : Addr} (h : x = y) : some (Value.ref x) = some (Value.ref y) := h ▸ rfl
theorem own_eq_int {args : Array Value} {first s : State} {o : Option Outcome} {idx : List Nat} {a : Term} {k : Int32} (h : (Cond.eq a (.int k)).value args first o s idx = some true) : a.eval args first o idx s = some (.int k) := by
  simp only [Cond.value, Term.eval] at h
  cases ht : a.eval args first o idx s with
  | none => simp [ht] at h
  | some x => cases x <;> simp [ht] at h ⊢; exact h
theorem own_eq_long {args : Array Value} {first s : State} {o : Option Outcome} {idx : List Nat} {a : Term} {k : Int64} (h : (Cond.eq a (.long k)).value args first o s idx = some true) : a.eval args first o idx s = some (.long k) := by
  simp only [Cond.value, Term.eval] at h
  cases ht : a.eval args first o idx s with
  | none => simp [ht] at h
  | some x => cases x <;> simp [ht] at h ⊢; exact h
theorem own_selP {s : State} {args : Array Value} {y : MethodName} {n : Nat} (wi : (Cond.instantiable y.cls n).before args s = true) (hp : s.PrivateAt y) (hi : (Cond.instanceMethod y).before args s = true) (hy : y.cls ≠ "java/lang/invoke/MethodHandle" ∧ y.cls ≠ "java/lang/invoke/VarHandle") : (Cond.selects y.cls y y).before args s = true := by
  obtain ⟨c, k, h1, h2, -, h4, -⟩ := Cond.instantiable_spec wi
  exact selects_self_of_private h1 h2 (Bool.or_eq_false_iff.mp h4).1 hp hi hy
variable {p : Program} {l : Launch} {e : Env} {R : Room} {s : State} {m : MethodId} {args : Array Value} {below : List Frame} {meth : Method} {c : Code} {T : State} {locs : List Loc} {cells slots : Nat} {Z : State} {h : Heap}
theorem retI (X : Stand p l e R s m args below meth c T locs cells slots) (hx : p.tables.exec = Jvm.exec) {pc : Nat} {Ls : Array Slot} {z : Int32} {rest : List Value} (hret : meth.sig.returnType = some .int) (hd : decode c.code pc = .ok (.ireturn, 1)) {fs : List Frame}
    (hl : ∀ (f : JFrame) (acts : List Action), f.method = m → f.locked = none → f.entered = [] → (doReturn e (T.setTop f) acts (some (.int z))).1 = T.setFrames fs) : Steps p.tables e below (T.setTop (mkF m pc Ls (.int z :: rest))) (T.setFrames fs) :=
  retOut X hx hret rfl (Or.inl ⟨rfl, Or.inl rfl, z, rfl⟩) hd hl
theorem own_len (X : Stand p l e R s m args below meth c T locs cells slots) (hx : p.tables.exec = Jvm.exec) (hZ : Z.Warmed39 s.vm) (eT : T.heap = h) {a : Addr} {cl : Cell} {ty : FieldType} (A : Arr Z h a cl ty) {z : Int32} (S : cl.slots.size = z.toNatClampNeg) (N : ¬ z < 0)
    {g : JFrame} (hg : g.method = m) {rest : List Value} (hs : g.stack = .ref a :: rest) (hd : decode c.code g.pc = .ok (.arraylength, 1)) {target : State}
    (k : Steps p.tables e below (T.setTop { g with pc := g.pc + 1, stack := .int z :: rest }) target) : Steps p.tables e below (T.setTop g) target :=
  X.arraylength hx (by rw [eT]; exact A.1) (State.isArrayOf_alike hZ.alike A.2.1) hg hs hd target (by rw [len_of S N]; exact k)
end Own
end Jvm.RoadKit
namespace Jvm.Pilot.@@N@@
open Jvm Jvm.ClassFile Sem Op Lib Jvm.Free Jvm.Stand Jvm.LawKit Jvm.RoadKit Bundle Jvm.Pilot.@@N@@.Jvm.D
def own_mv (vs : List Value) (F T N : Nat) : List Value := vs.take T ++ ((List.range N).map fun i => vs.getD (F + i) (.int (0 : Int32))) ++ vs.drop (T + N)
def own_mn (vs : List Nat) (F T N : Nat) : List Nat := vs.take T ++ ((List.range N).map fun i => vs.getD (F + i) 0) ++ vs.drop (T + N)
theorem own_mv_len {vs : List Value} {F T N : Nat} (h : vs.length = 9) (h2 : T + N ≤ 9) : (own_mv vs F T N).length = 9 := by
  simp only [own_mv, List.length_append, List.length_take, List.length_map, List.length_range, List.length_drop, h]
  omega
theorem own_mn_len {vs : List Nat} {F T N : Nat} (h : vs.length = 9) (h2 : T + N ≤ 9) : (own_mn vs F T N).length = 9 := by
  simp only [own_mn, List.length_append, List.length_take, List.length_map, List.length_range, List.length_drop, h]
  omega
theorem own_mv_map (f : Nat → Value) {vs : List Nat} {F T N : Nat} (h : vs.length = 9) (h1 : F + N ≤ 9) : own_mv (vs.map f) F T N = (own_mn vs F T N).map f := by
  unfold own_mv own_mn
  rw [List.map_append, List.map_append, List.map_take, List.map_drop, List.map_map]
  congr 2
  apply List.map_congr_left
  intro i hi
  have hi' : F + i < vs.length := by
    have := List.mem_range.mp hi
    omega
  simp [List.getD, hi']
def own_sn (k fo n2 la : Nat) : Nat := if k < fo then k else if k < fo + n2 then la + k - fo else 2 * la + k - fo - n2
theorem own_idx : ∀ la < 4, ∀ fo < la + 1, ∀ n2 < la + 1, ∀ n3 < 10 - 2 * la, ∀ k < fo + n2 + n3, (own_mn (own_mn (List.range 9) la fo n2) (2 * la) (fo + n2) n3).getD k 0 = own_sn k fo n2 la := by decide +kernel
def own_fe (a : Int32) (i : Nat) : Value := .int (a + Int32.ofNat i)
def own_fr (b : Int32) (i : Nat) : Value := .int (b - Int32.ofNat (3 * i))
def own_lst (f : Nat → Value) (la fo n2 n3 : Nat) : List Value := own_mv (own_mv ((List.range 9).map f) la fo n2) (2 * la) (fo + n2) n3
theorem own_lst_eq (f : Nat → Value) {la fo n2 n3 k : Nat} (h1 : la ≤ 3) (h2 : fo ≤ la) (h3 : n2 ≤ la) (h4 : 2 * la + n3 ≤ 9) (hk : k < fo + n2 + n3) : (own_lst f la fo n2 n3).getD k (.int (0 : Int32)) = f (own_sn k fo n2 la) := by
  unfold own_lst
  rw [own_mv_map f (List.length_range) (by omega), own_mv_map f (own_mn_len List.length_range (by omega)) (by omega)]
  have hl : (own_mn (own_mn (List.range 9) la fo n2) (2 * la) (fo + n2) n3).length = 9 := own_mn_len (own_mn_len List.length_range (by omega)) (by omega)
  have hi := own_idx la (by omega) fo (by omega) n2 (by omega) n3 (by omega) k hk
  have hk9 : k < 9 := by omega
  rw [List.getD_eq_getElem?_getD] at hi ⊢
  rw [List.getElem?_map]
  rw [List.getElem?_eq_getElem (by omega)] at hi ⊢
  simp only [Option.map_some, Option.getD_some] at hi ⊢
  rw [hi]
theorem own_nc {p : Int32} {n : Nat} (h : p.toInt = (n : Int)) : p.toNatClampNeg = n := by
  show p.toInt.toNat = n
  rw [h]
  rfl
theorem own_nn {p : Int32} {n : Nat} (h : p.toInt = (n : Int)) : ¬ p < (0 : Int32) := by
  rw [Int32.lt_iff_toInt_lt, h]
  have : (0 : Int32).toInt = 0 := by decide
  omega
theorem own_sub {a b v : Int32} {F N : Nat} (ha : a.toInt = (F : Int)) (hb : b.toInt = ((F + N : Nat) : Int)) (h : F + N ≤ 9) (hv : b - a = v) : v.toInt = (N : Int) := by
  have h1 := c_isub b a
  rw [hv] at h1
  have := rng32 v
  omega
theorem own_two {a : Int32} {n : Nat} (ha : a.toInt = (n : Int)) (h : n ≤ 3) : ((2 : Int32) * a).toInt = ((2 * n : Nat) : Int) := by
  have h1 := c_imul 2 a
  have e : (2 : Int32).toInt = 2 := by decide
  rw [e] at h1
  have := rng32 ((2 : Int32) * a)
  omega
theorem own_ret {a b c : Int32} {F N T : Nat} (ha : a.toInt = (F : Int)) (hb : b.toInt = ((F + N : Nat) : Int)) (hc : c.toInt = (T : Int)) (h : F + N ≤ 9) (h2 : T + N ≤ 9) : ((c + b) - a).toInt = ((T + N : Nat) : Int) := by
  have h1 := c_iadd c b
  have h3 := c_isub (c + b) a
  have := rng32 (c + b)
  have := rng32 ((c + b) - a)
  omega
theorem own_lane {x l : Int32} (h : x &&& (3 : Int32) = l) : 0 ≤ l.toInt ∧ l.toInt ≤ 3 := by
  have h1 := c_mask x 3 2 (by decide) (by decide)
  rw [h] at h1
  omega
theorem own_l1 {l : Int32} (h : 0 ≤ l.toInt ∧ l.toInt ≤ 3) : (l + (1 : Int32)).toInt = l.toInt + 1 := by
  have h1 := c_iadd l 1
  have e : (1 : Int32).toInt = 1 := by decide
  rw [e] at h1
  have := rng32 (l + 1)
  omega
theorem own_l2 {l : Int32} (h : 0 ≤ l.toInt ∧ l.toInt ≤ 3) : (((9 : Int32) - (2 : Int32) * l) + (1 : Int32)).toInt = 10 - 2 * l.toInt := by
  have h0 := own_two (Int.toNat_of_nonneg h.1).symm (by omega)
  have h1 := c_isub 9 ((2 : Int32) * l)
  have h2 := c_iadd ((9 : Int32) - (2 : Int32) * l) 1
  have e : (1 : Int32).toInt = 1 := by decide
  have e9 : (9 : Int32).toInt = 9 := by decide
  rw [e] at h2
  rw [e9] at h1
  have := rng32 ((9 : Int32) - (2 : Int32) * l)
  have := rng32 (((9 : Int32) - (2 : Int32) * l) + (1 : Int32))
  omega
theorem own_nz {y : Int32} (h : 0 < y.toInt) : y ≠ 0 := by
  rintro rfl
  exact absurd h (by decide)
theorem own_msk (x : Int32) : 0 ≤ (x &&& (2147483647 : Int32)).toInt := by
  have h1 := c_mask x 2147483647 31 (by decide) (by decide)
  omega
theorem own_nums {x1 x2 x3 x4 l f s t : Int32} (gl : x1 &&& (3 : Int32) = l) (gf : (x2 &&& (2147483647 : Int32)) % (l + (1 : Int32)) = f) (gs : l + (x3 &&& (2147483647 : Int32)) % (l + (1 : Int32)) = s) (gt : (2 : Int32) * l + (x4 &&& (2147483647 : Int32)) % (((9 : Int32) - (2 : Int32) * l) + (1 : Int32)) = t) :
    ∃ la fo n2 n3 : Nat, la ≤ 3 ∧ fo ≤ la ∧ n2 ≤ la ∧ 2 * la + n3 ≤ 9 ∧ l.toInt = (la : Int) ∧ f.toInt = (fo : Int) ∧ s.toInt = ((la + n2 : Nat) : Int) ∧ t.toInt = ((2 * la + n3 : Nat) : Int) := by
  have hl := own_lane gl
  have h1 := own_l1 hl
  have h2 := own_l2 hl
  have h0 := own_two (Int.toNat_of_nonneg hl.1).symm (by omega)
  have f1 := (c_iremV (x2 &&& 2147483647) (l + 1)).1 (own_msk x2) (by omega)
  have f2 := (c_iremV (x3 &&& 2147483647) (l + 1)).1 (own_msk x3) (by omega)
  have f3 := (c_iremV (x4 &&& 2147483647) (((9 : Int32) - (2 : Int32) * l) + (1 : Int32))).1 (own_msk x4) (by omega)
  rw [gf] at f1
  have s1 := c_iadd l ((x3 &&& (2147483647 : Int32)) % (l + (1 : Int32)))
  have t1 := c_iadd ((2 : Int32) * l) ((x4 &&& (2147483647 : Int32)) % (((9 : Int32) - (2 : Int32) * l) + (1 : Int32)))
  rw [gs] at s1
  rw [gt] at t1
  generalize ((x3 &&& (2147483647 : Int32)) % (l + (1 : Int32))).toInt = A at *
  generalize ((x4 &&& (2147483647 : Int32)) % (((9 : Int32) - (2 : Int32) * l) + (1 : Int32))).toInt = B at *
  have := rng32 s
  have := rng32 t
  exact ⟨l.toInt.toNat, f.toInt.toNat, A.toNat, B.toNat, by omega, by omega, by omega, by omega, by omega, by omega, by omega, by omega⟩
def own_src (k f n l : Int32) : Int32 := if k < f then k else if k < f + n then l + k - f else (2 : Int32) * l + k - f - n
theorem own_src_eq {k f n l : Int32} {K fo n2 la : Nat} (hk : k.toInt = (K : Int)) (hK : K < 9) (hf : f.toInt = (fo : Int)) (hn : n.toInt = (n2 : Int)) (hl : l.toInt = (la : Int)) (h1 : la ≤ 3) (h2 : fo ≤ la) (h3 : n2 ≤ la) : (own_src k f n l).toInt = ((own_sn K fo n2 la : Nat) : Int) ∧ own_sn K fo n2 la ≤ 15 := by
  have a0 := own_two hl h1
  have s1 : (f + n).toInt = ((fo + n2 : Nat) : Int) := by
    have a1 := c_iadd f n
    have := rng32 (f + n)
    omega
  have s2 : (l + k).toInt = ((la + K : Nat) : Int) := by
    have a1 := c_iadd l k
    have := rng32 (l + k)
    omega
  have s3 : (l + k - f).toInt = ((la + K - fo : Nat) : Int) := by
    have a1 := c_isub (l + k) f
    have := rng32 (l + k - f)
    omega
  have s4 : ((2 : Int32) * l + k).toInt = ((2 * la + K : Nat) : Int) := by
    have a1 := c_iadd ((2 : Int32) * l) k
    have := rng32 ((2 : Int32) * l + k)
    omega
  have s5 : ((2 : Int32) * l + k - f).toInt = ((2 * la + K - fo : Nat) : Int) := by
    have a1 := c_isub ((2 : Int32) * l + k) f
    have := rng32 ((2 : Int32) * l + k - f)
    omega
  have s6 : ((2 : Int32) * l + k - f - n).toInt = ((2 * la + K - fo - n2 : Nat) : Int) := by
    have a1 := c_isub ((2 : Int32) * l + k - f) n
    have := rng32 ((2 : Int32) * l + k - f - n)
    omega
  unfold own_src own_sn
  simp only [Int32.lt_iff_toInt_lt]
  by_cases c1 : k.toInt < f.toInt
  · rw [if_pos c1, if_pos (show K < fo by omega)]
    omega
  · rw [if_neg c1, if_neg (show ¬ K < fo by omega)]
    by_cases c2 : k.toInt < (f + n).toInt
    · rw [if_pos c2, if_pos (show K < fo + n2 by omega), s3]
      omega
    · rw [if_neg c2, if_neg (show ¬ K < fo + n2 by omega), s6]
      omega
theorem own_i32 {x : Int32} {n : Nat} (h : x.toInt = (n : Int)) (hn : n ≤ 1000) : x = Int32.ofNat n := by
  apply Int32.toInt_inj.mp
  rw [Int32.toInt_ofNat_of_lt (by omega)]
  exact h
theorem own_three {x : Int32} {n : Nat} (h : x.toInt = (n : Int)) (hn : n ≤ 15) : (3 : Int32) * x = Int32.ofNat (3 * n) := by
  apply own_i32 (n := 3 * n) _ (by omega)
  have h1 := c_imul 3 x
  have e : (3 : Int32).toInt = 3 := by decide
  rw [e] at h1
  have := rng32 ((3 : Int32) * x)
  omega
theorem own_tot {l f s t n m : Int32} {la fo n2 n3 : Nat} (h1 : la ≤ 3) (h2 : fo ≤ la) (h3 : n2 ≤ la) (h4 : 2 * la + n3 ≤ 9) (hl : l.toInt = (la : Int)) (hf : f.toInt = (fo : Int)) (hs : s.toInt = ((la + n2 : Nat) : Int)) (ht : t.toInt = ((2 * la + n3 : Nat) : Int))
    (gn : s - l = n) (gm : t - (2 : Int32) * l = m) : n.toInt = (n2 : Int) ∧ (f + n + m).toInt = ((fo + n2 + n3 : Nat) : Int) := by
  have a0 := own_two hl h1
  have a1 := c_isub s l
  have a2 := c_isub t ((2 : Int32) * l)
  rw [gn] at a1
  rw [gm] at a2
  have a3 := c_iadd f n
  have a4 := c_iadd (f + n) m
  have := rng32 n
  have := rng32 m
  have := rng32 (f + n)
  have := rng32 (f + n + m)
  omega
/-- what a check finds at place k -/
theorem own_chk {k f n l a b : Int32} {la fo n2 n3 K : Nat} (h1 : la ≤ 3) (h2 : fo ≤ la) (h3 : n2 ≤ la) (h4 : 2 * la + n3 ≤ 9) (hk : k.toInt = (K : Int)) (hK : K < 9) (hl : l.toInt = (la : Int)) (hf : f.toInt = (fo : Int)) (hn : n.toInt = (n2 : Int)) (hlt : K < fo + n2 + n3) :
    (own_lst (own_fe a) la fo n2 n3).getD K (.int (0 : Int32)) = .int (a + own_src k f n l) ∧ (own_lst (own_fr b) la fo n2 n3).getD K (.int (0 : Int32)) = .int (b - (3 : Int32) * own_src k f n l) := by
  obtain ⟨e1, e2⟩ := own_src_eq hk hK hf hn hl h1 h2 h3
  rw [own_lst_eq _ h1 h2 h3 h4 hlt, own_lst_eq _ h1 h2 h3 h4 hlt, own_three e1 e2, own_i32 e1 (by omega)]
  exact ⟨rfl, rfl⟩
theorem own_lst_int (g : Nat → Int32) {la fo n2 n3 K : Nat} (h1 : la ≤ 3) (h2 : fo ≤ la) (h3 : n2 ≤ la) (h4 : 2 * la + n3 ≤ 9) : ∃ z, (own_lst (fun i => .int (g i)) la fo n2 n3).getD K (.int (0 : Int32)) = .int z := by
  unfold own_lst
  rw [own_mv_map _ (List.length_range) (by omega), own_mv_map _ (own_mn_len List.length_range (by omega)) (by omega)]
  rw [List.getD_eq_getElem?_getD, List.getElem?_map]
  cases (own_mn (own_mn (List.range 9) la fo n2) (2 * la) (fo + n2) n3)[K]? with
  | none => exact ⟨0, rfl⟩
  | some i => exact ⟨g i, rfl⟩
theorem own_pn_com_example_shiftwise_shiftwise_search_ScanBlock : plainName "com/example/shiftwise/shiftwise/search/ScanBlock" = true := by first | (simp [plainName, overriddenIn]; done) | decide +kernel
theorem own_dprog_50_method_1_code_0 : decode prog_50_method_1_code 0 = .ok (.aload_n 0, 1) := by decide +kernel
theorem own_dprog_50_method_1_code_1 : decode prog_50_method_1_code 1 = .ok (.invokespecial 1, 3) := by decide +kernel
theorem own_dprog_50_method_1_code_4 : decode prog_50_method_1_code 4 = .ok (.aload_n 0, 1) := by decide +kernel
theorem own_dprog_50_method_1_code_5 : decode prog_50_method_1_code 5 = .ok (.iload_n 1, 1) := by decide +kernel
theorem own_dprog_50_method_1_code_6 : decode prog_50_method_1_code 6 = .ok (.newarray .int, 2) := by decide +kernel
theorem own_dprog_50_method_1_code_8 : decode prog_50_method_1_code 8 = .ok (.putfield 7, 3) := by decide +kernel
theorem own_dprog_50_method_1_code_11 : decode prog_50_method_1_code 11 = .ok (.aload_n 0, 1) := by decide +kernel
theorem own_dprog_50_method_1_code_12 : decode prog_50_method_1_code 12 = .ok (.iload_n 1, 1) := by decide +kernel
theorem own_dprog_50_method_1_code_13 : decode prog_50_method_1_code 13 = .ok (.newarray .int, 2) := by decide +kernel
theorem own_dprog_50_method_1_code_15 : decode prog_50_method_1_code 15 = .ok (.putfield 13, 3) := by decide +kernel
theorem own_dprog_50_method_1_code_18 : decode prog_50_method_1_code 18 = .ok (.aload_n 0, 1) := by decide +kernel
theorem own_dprog_50_method_1_code_19 : decode prog_50_method_1_code 19 = .ok (.iload_n 1, 1) := by decide +kernel
theorem own_dprog_50_method_1_code_20 : decode prog_50_method_1_code 20 = .ok (.newarray .int, 2) := by decide +kernel
theorem own_dprog_50_method_1_code_22 : decode prog_50_method_1_code 22 = .ok (.putfield 16, 3) := by decide +kernel
theorem own_dprog_50_method_1_code_25 : decode prog_50_method_1_code 25 = .ok (.return_, 1) := by decide +kernel
theorem own_efI (m : MethodId) (o : Addr) : entryFrame m #[(.ref o), (.int (9 : Int32))] 2 = mkF m 0 #[.val (.ref o), .val (.int (9 : Int32))] [] := by first | (simp [entryFrame, mkF, argsToLocals, Value.category]; done) | rfl
def own_QI (Z : State) (o : Addr) (h0 : Heap) (n0 : Nat) (v_ : Option Value) (h : Heap) (L_ : List Loc) : Prop := v_ = none ∧ Fr n0 L_ ∧ Keep h0 h [o] ∧ Exa Z h o "com/example/shiftwise/shiftwise/search/ScanBlock" ∧ Fld Z h o "com/example/shiftwise/shiftwise/search/ScanBlock" "found" "I" (.int (0 : Int32)) ∧ ∃ (ae ar : Addr) (ke kr : ClassId), h0.size ≤ ae ∧ h0.size ≤ ar ∧ ae ≠ ar ∧ Fld Z h o "com/example/shiftwise/shiftwise/search/ScanBlock" "ends" "[I" (.ref ae) ∧ Fld Z h o "com/example/shiftwise/shiftwise/search/ScanBlock" "reports" "[I" (.ref ar) ∧ Arv Z h ae ke .int (9 : Int32) [(.int (0 : Int32)), (.int (0 : Int32)), (.int (0 : Int32)), (.int (0 : Int32)), (.int (0 : Int32)), (.int (0 : Int32)), (.int (0 : Int32)), (.int (0 : Int32)), (.int (0 : Int32))] (.int (0 : Int32)) ∧ Arv Z h ar kr .int (9 : Int32) [(.int (0 : Int32)), (.int (0 : Int32)), (.int (0 : Int32)), (.int (0 : Int32)), (.int (0 : Int32)), (.int (0 : Int32)), (.int (0 : Int32)), (.int (0 : Int32)), (.int (0 : Int32))] (.int (0 : Int32))
abbrev own_RI : Room := { frames := 1, cells := 3, slots := 27, locals := 12 }
set_option maxRecDepth 65536 in
set_option maxHeartbeats 40000000 in
theorem own_rmI (l : Launch) (Z : State) (a0 : Array Value) (hw : ∀ d ∈ tables_1, d.before a0 Z = true) (ws : List Jvm.Cond) (o : Addr) (h0 : Heap) (n0 : Nat) (Z0 : n0 ≤ h0.size) (g_o : n0 ≤ o) (E : Exa Z h0 o "com/example/shiftwise/shiftwise/search/ScanBlock") (F_classes : Fld Z h0 o "com/example/shiftwise/shiftwise/search/ScanBlock" "classes" "[I" .null) (F_ends : Fld Z h0 o "com/example/shiftwise/shiftwise/search/ScanBlock" "ends" "[I" .null) (F_reports : Fld Z h0 o "com/example/shiftwise/shiftwise/search/ScanBlock" "reports" "[I" .null) (F_found : Fld Z h0 o "com/example/shiftwise/shiftwise/search/ScanBlock" "found" "I" (.int (0 : Int32))) :
    MetFree l (⟨"com/example/shiftwise/shiftwise/search/ScanBlock", "<init>", "(I)V"⟩ : MethodName) (head1 (Jvm.Cond.code (⟨"com/example/shiftwise/shiftwise/search/ScanBlock", "<init>", "(I)V"⟩ : MethodName) prog_50_method_1_code 2 none :: ws) own_RI) (fun a U => a = #[(.ref o), (.int (9 : Int32))] ∧ Z.Warmed39 U.vm ∧ U.heap = h0) (fun _ _ _ _ _ => True) (fun _ U oc_ U' => ∃ v_ L_, oc_ = .returned v_ ∧ own_QI Z o h0 n0 v_ U'.heap L_ ∧ FrameEnd U oc_ U' L_ own_RI.cells own_RI.slots) := by
  refine MetFree.of_bodySF (plainFor_of_name own_pn_com_example_shiftwise_shiftwise_search_ScanBlock) hisR ?_
  intro p e s m args below meth c s₁ Bd hml0 hP hK
  obtain ⟨rfl, hZ, hh⟩ := hP
  have hx := Bd.exec
  have hby := Bd.bytes
  have hml : c.maxLocals = 2 := hml0
  have hown : s.vm.findClass "com/example/shiftwise/shiftwise/search/ScanBlock" = some m.cls := findClass_of_methodNamed Bd.named
  have hnm := (name_of_methodNamed Bd.named Bd.method).1
  have X0 : Stand p l e own_RI s m #[(.ref o), (.int (9 : Int32))] below meth c s₁ [] 0 0 := Stand.of_body Bd
  have e0 : s₁.heap = h0 := by rw [← hh, Bd.state]; rfl
  have N0 := Fr.nil n0
  refine own_in (fun _ k => castTop (own_efI m o) k) ?_
  intro RR hRR
  show own_Go p.tables e below RR (s₁.setTop (mkF m 0 #[.val (.ref o), .val (.int (9 : Int32))] []))
  refine own_st (fun _ k => XS.aloadN X0.here hx rfl (hb hby own_dprog_50_method_1_code_0) rfl rfl k) ?_
  show own_Go p.tables e below RR (s₁.setTop (mkF m 1 #[.val (.ref o), .val (.int (9 : Int32))] [(.ref o)]))
  obtain ⟨T1, X1, e1, st1⟩ := initO X0 hx hZ hown (hw _ (List.mem_of_getElem? (i := 7) rfl)) (hw _ (List.mem_of_getElem? (i := 8) rfl)) (hw _ (List.mem_of_getElem? (i := 9) rfl)) e0 (g := (mkF m 1 #[.val (.ref o), .val (.int (9 : Int32))] [(.ref o)])) rfl (by rw [hml]; rfl) rfl (hb hby own_dprog_50_method_1_code_1) (by decide) (W := 0) (by show 2 * 0 + _ ≤ _; exact Nat.le_of_eq rfl) (by decide)
  refine own_st st1 ?_
  show own_Go p.tables e below RR (T1.setTop (mkF m 4 #[.val (.ref o), .val (.int (9 : Int32))] []))
  refine own_st (fun _ k => XS.aloadN X1.here hx rfl (hb hby own_dprog_50_method_1_code_4) rfl rfl (XS.iloadN X1.here hx rfl (hb hby own_dprog_50_method_1_code_5) rfl k)) ?_
  show own_Go p.tables e below RR (T1.setTop (mkF m 6 #[.val (.ref o), .val (.int (9 : Int32))] [(.int (9 : Int32)), (.ref o)]))
  obtain ⟨T2, h2, k2, X2, e2, E2, A2, st2⟩ := newP X1 hx hZ (hw _ (List.mem_of_getElem? (i := 10) rfl)) e1 (g := (mkF m 6 #[.val (.ref o), .val (.int (9 : Int32))] [(.int (9 : Int32)), (.ref o)])) rfl (hb hby own_dprog_50_method_1_code_6) rfl (by decide) (cap := 9) (by decide) (by decide) (by decide) (by decide)
  obtain ⟨b2, gb2⟩ : ∃ z, z = h0.size := ⟨_, rfl⟩
  rw [← gb2] at A2 st2
  have ge2 : n0 ≤ b2 := Nat.le_trans Z0 (Nat.le_of_eq gb2.symm)
  have sz2 : h0.size ≤ b2 := Nat.le_trans (Keep.refl h0 [o]).1 (Nat.le_of_eq gb2.symm)
  refine own_st st2 ?_
  have z3 : n0 ≤ h2.size := Nat.le_trans Z0 E2.1
  have kk4 : Keep h0 h2 [o] := (Keep.refl h0 [o]).ext E2
  have V2 : Arv Z h2 b2 k2 .int (9 : Int32) [(.int (0 : Int32)), (.int (0 : Int32)), (.int (0 : Int32)), (.int (0 : Int32)), (.int (0 : Int32)), (.int (0 : Int32)), (.int (0 : Int32)), (.int (0 : Int32)), (.int (0 : Int32))] (.int (0 : Int32)) := (Arv.new A2 (by decide)).pad (pad_rep [] (.int (0 : Int32)) 9)
  show own_Go p.tables e below RR (T2.setTop (mkF m 8 #[.val (.ref o), .val (.int (9 : Int32))] [(.ref b2), (.ref o)]))
  have f5 := (F_classes.ext E2)
  have f6 := (E.ext E2)
  obtain ⟨T7, h7, X7, e7, W7, st7⟩ := putF X2 hx hZ hown (host := "") (Or.inl (hw _ (List.mem_of_getElem? (i := 11) rfl))) Via.refl e2 f5 f6 (Or.inr ⟨(hw _ (List.mem_of_getElem? (i := 12) rfl)), rfl, hnm⟩) (hw _ (List.mem_of_getElem? (i := 2) rfl)) (ty := (.array .int)) (by decide) rfl rfl (g := (mkF m 8 #[.val (.ref o), .val (.int (9 : Int32))] [(.ref b2), (.ref o)])) rfl rfl (hb hby own_dprog_50_method_1_code_8)
  have Fw7 := f5.same W7
  have N7 := Fr.snoc X7 N0 g_o
  refine own_st st7 ?_
  have z8 : n0 ≤ h7.size := Nat.le_trans z3 (Keep.of_wr W7).1
  have kk9 : Keep h0 h7 [o] := kk4.wr W7 (Or.inl (List.mem_of_getElem? (i := 0) rfl))
  show own_Go p.tables e below RR (T7.setTop (mkF m 11 #[.val (.ref o), .val (.int (9 : Int32))] []))
  refine own_st (fun _ k => XS.aloadN X7.here hx rfl (hb hby own_dprog_50_method_1_code_11) rfl rfl (XS.iloadN X7.here hx rfl (hb hby own_dprog_50_method_1_code_12) rfl k)) ?_
  show own_Go p.tables e below RR (T7.setTop (mkF m 13 #[.val (.ref o), .val (.int (9 : Int32))] [(.int (9 : Int32)), (.ref o)]))
  obtain ⟨T10, h10, k10, X10, e10, E10, A10, st10⟩ := newP X7 hx hZ (hw _ (List.mem_of_getElem? (i := 10) rfl)) e7 (g := (mkF m 13 #[.val (.ref o), .val (.int (9 : Int32))] [(.int (9 : Int32)), (.ref o)])) rfl (hb hby own_dprog_50_method_1_code_13) rfl (by decide) (cap := 9) (by decide) (by decide) (by decide) (by decide)
  obtain ⟨b10, gb10⟩ : ∃ z, z = h7.size := ⟨_, rfl⟩
  rw [← gb10] at A10 st10
  have ge10 : n0 ≤ b10 := Nat.le_trans z8 (Nat.le_of_eq gb10.symm)
  have sz10 : h0.size ≤ b10 := Nat.le_trans kk9.1 (Nat.le_of_eq gb10.symm)
  refine own_st st10 ?_
  have z11 : n0 ≤ h10.size := Nat.le_trans z8 E10.1
  have kk12 : Keep h0 h10 [o] := kk9.ext E10
  have V10 : Arv Z h10 b10 k10 .int (9 : Int32) [(.int (0 : Int32)), (.int (0 : Int32)), (.int (0 : Int32)), (.int (0 : Int32)), (.int (0 : Int32)), (.int (0 : Int32)), (.int (0 : Int32)), (.int (0 : Int32)), (.int (0 : Int32))] (.int (0 : Int32)) := (Arv.new A10 (by decide)).pad (pad_rep [] (.int (0 : Int32)) 9)
  show own_Go p.tables e below RR (T10.setTop (mkF m 15 #[.val (.ref o), .val (.int (9 : Int32))] [(.ref b10), (.ref o)]))
  have f13 := (((F_ends.ext E2).other W7 (Or.inr (slot_ne (Or.inr (hw _ (List.mem_of_getElem? (i := 14) rfl))) (Or.inr (hw _ (List.mem_of_getElem? (i := 12) rfl))) (by decide) (t := (.array .int)) (t' := (.array .int)) (by decide) (by decide)))).ext E10)
  have f14 := ((f6.wr W7).ext E10)
  obtain ⟨T15, h15, X15, e15, W15, st15⟩ := putF X10 hx hZ hown (host := "") (Or.inl (hw _ (List.mem_of_getElem? (i := 13) rfl))) Via.refl e10 f13 f14 (Or.inr ⟨(hw _ (List.mem_of_getElem? (i := 14) rfl)), rfl, hnm⟩) (hw _ (List.mem_of_getElem? (i := 2) rfl)) (ty := (.array .int)) (by decide) rfl rfl (g := (mkF m 15 #[.val (.ref o), .val (.int (9 : Int32))] [(.ref b10), (.ref o)])) rfl rfl (hb hby own_dprog_50_method_1_code_15)
  have Fw15 := f13.same W15
  have N15 := Fr.snoc X15 N7 g_o
  refine own_st st15 ?_
  have z16 : n0 ≤ h15.size := Nat.le_trans z11 (Keep.of_wr W15).1
  have kk17 : Keep h0 h15 [o] := kk12.wr W15 (Or.inl (List.mem_of_getElem? (i := 0) rfl))
  show own_Go p.tables e below RR (T15.setTop (mkF m 18 #[.val (.ref o), .val (.int (9 : Int32))] []))
  refine own_st (fun _ k => XS.aloadN X15.here hx rfl (hb hby own_dprog_50_method_1_code_18) rfl rfl (XS.iloadN X15.here hx rfl (hb hby own_dprog_50_method_1_code_19) rfl k)) ?_
  show own_Go p.tables e below RR (T15.setTop (mkF m 20 #[.val (.ref o), .val (.int (9 : Int32))] [(.int (9 : Int32)), (.ref o)]))
  obtain ⟨T18, h18, k18, X18, e18, E18, A18, st18⟩ := newP X15 hx hZ (hw _ (List.mem_of_getElem? (i := 10) rfl)) e15 (g := (mkF m 20 #[.val (.ref o), .val (.int (9 : Int32))] [(.int (9 : Int32)), (.ref o)])) rfl (hb hby own_dprog_50_method_1_code_20) rfl (by decide) (cap := 9) (by decide) (by decide) (by decide) (by decide)
  obtain ⟨b18, gb18⟩ : ∃ z, z = h15.size := ⟨_, rfl⟩
  rw [← gb18] at A18 st18
  have ge18 : n0 ≤ b18 := Nat.le_trans z16 (Nat.le_of_eq gb18.symm)
  have sz18 : h0.size ≤ b18 := Nat.le_trans kk17.1 (Nat.le_of_eq gb18.symm)
  refine own_st st18 ?_
  have z19 : n0 ≤ h18.size := Nat.le_trans z16 E18.1
  have kk20 : Keep h0 h18 [o] := kk17.ext E18
  have V18 : Arv Z h18 b18 k18 .int (9 : Int32) [(.int (0 : Int32)), (.int (0 : Int32)), (.int (0 : Int32)), (.int (0 : Int32)), (.int (0 : Int32)), (.int (0 : Int32)), (.int (0 : Int32)), (.int (0 : Int32)), (.int (0 : Int32))] (.int (0 : Int32)) := (Arv.new A18 (by decide)).pad (pad_rep [] (.int (0 : Int32)) 9)
  show own_Go p.tables e below RR (T18.setTop (mkF m 22 #[.val (.ref o), .val (.int (9 : Int32))] [(.ref b18), (.ref o)]))
  have f21 := (((((F_reports.ext E2).other W7 (Or.inr (slot_ne (Or.inr (hw _ (List.mem_of_getElem? (i := 16) rfl))) (Or.inr (hw _ (List.mem_of_getElem? (i := 12) rfl))) (by decide) (t := (.array .int)) (t' := (.array .int)) (by decide) (by decide)))).ext E10).other W15 (Or.inr (slot_ne (Or.inr (hw _ (List.mem_of_getElem? (i := 16) rfl))) (Or.inr (hw _ (List.mem_of_getElem? (i := 14) rfl))) (by decide) (t := (.array .int)) (t' := (.array .int)) (by decide) (by decide)))).ext E18)
  have f22 := ((f14.wr W15).ext E18)
  obtain ⟨T23, h23, X23, e23, W23, st23⟩ := putF X18 hx hZ hown (host := "") (Or.inl (hw _ (List.mem_of_getElem? (i := 15) rfl))) Via.refl e18 f21 f22 (Or.inr ⟨(hw _ (List.mem_of_getElem? (i := 16) rfl)), rfl, hnm⟩) (hw _ (List.mem_of_getElem? (i := 2) rfl)) (ty := (.array .int)) (by decide) rfl rfl (g := (mkF m 22 #[.val (.ref o), .val (.int (9 : Int32))] [(.ref b18), (.ref o)])) rfl rfl (hb hby own_dprog_50_method_1_code_22)
  have Fw23 := f21.same W23
  have N23 := Fr.snoc X23 N15 g_o
  refine own_st st23 ?_
  have z24 : n0 ≤ h23.size := Nat.le_trans z19 (Keep.of_wr W23).1
  have kk25 : Keep h0 h23 [o] := kk20.wr W23 (Or.inl (List.mem_of_getElem? (i := 0) rfl))
  show own_Go p.tables e below RR (T23.setTop (mkF m 25 #[.val (.ref o), .val (.int (9 : Int32))] []))
  obtain ⟨fs, hrt_, hrun, hended, hW, hsame⟩ := X23.leave (v := none) (fun _ => rfl)
  refine own_fin (X23.returnOut hx Bd.returns (hb hby own_dprog_50_method_1_code_25) hrt_) (hRR _ ⟨_, hrun, hended, _, _, rfl, ?_, ⟨_, rfl⟩, hW, hsame.mono (by decide) (by decide)⟩)
  show own_QI Z o h0 n0 _ T23.heap _
  rw [e23]
  have f26 := ((Fw15.ext E18).other W23 (Or.inr (slot_ne (Or.inr (hw _ (List.mem_of_getElem? (i := 14) rfl))) (Or.inr (hw _ (List.mem_of_getElem? (i := 16) rfl))) (by decide) (t := (.array .int)) (t' := (.array .int)) (by decide) (by decide))))
  have f27 := (f22.wr W23)
  have f28 := ((((((F_found.ext E2).other W7 (Or.inr (slot_ne (Or.inl (hw _ (List.mem_of_getElem? (i := 37) rfl))) (Or.inr (hw _ (List.mem_of_getElem? (i := 12) rfl))) (by decide) (t := .int) (t' := (.array .int)) (by decide) (by decide)))).ext E10).other W15 (Or.inr (slot_ne (Or.inl (hw _ (List.mem_of_getElem? (i := 37) rfl))) (Or.inr (hw _ (List.mem_of_getElem? (i := 14) rfl))) (by decide) (t := .int) (t' := (.array .int)) (by decide) (by decide)))).ext E18).other W23 (Or.inr (slot_ne (Or.inl (hw _ (List.mem_of_getElem? (i := 37) rfl))) (Or.inr (hw _ (List.mem_of_getElem? (i := 16) rfl))) (by decide) (t := .int) (t' := (.array .int)) (by decide) (by decide))))
  have ne29 : o ≠ b10 := (Nat.ne_of_lt (Nat.lt_of_lt_of_le (f6.wr W7).lt (Nat.le_of_eq gb10.symm)))
  have ne30 : b10 ≠ b18 := (Nat.ne_of_lt (Nat.lt_of_lt_of_le (V10.other W15 (Ne.symm ne29)).lt (Nat.le_of_eq gb18.symm)))
  have f31 := (((V10.other W15 (Ne.symm ne29)).ext E18).other W23 (Ne.symm ne29))
  have ne32 : o ≠ b18 := (Nat.ne_of_lt (Nat.lt_of_lt_of_le (f14.wr W15).lt (Nat.le_of_eq gb18.symm)))
  have f33 := (V18.other W23 (Ne.symm ne32))
  exact ⟨rfl, N23, kk25, f27, f28, b10, b18, _, _, sz10, sz18, ne30, f26, Fw23, f31, f33⟩
theorem own_pn_com_example_shiftwise_shiftwise_search_AutomatonMovesJoinLanesPinLaw : plainName "com/example/shiftwise/shiftwise/search/AutomatonMovesJoinLanesPinLaw" = true := by first | (simp [plainName, overriddenIn]; done) | decide +kernel
theorem own_dmethod_3_code_0 : decode method_3_code 0 = .ok (.aload_n 0, 1) := by decide +kernel
theorem own_dmethod_3_code_1 : decode method_3_code 1 = .ok (.getfield 33, 3) := by decide +kernel
theorem own_dmethod_3_code_4 : decode method_3_code 4 = .ok (.iload_n 1, 1) := by decide +kernel
theorem own_dmethod_3_code_5 : decode method_3_code 5 = .ok (.iload_n 2, 1) := by decide +kernel
theorem own_dmethod_3_code_6 : decode method_3_code 6 = .ok (.iload_n 1, 1) := by decide +kernel
theorem own_dmethod_3_code_7 : decode method_3_code 7 = .ok (.iadd, 1) := by decide +kernel
theorem own_dmethod_3_code_8 : decode method_3_code 8 = .ok (.iastore, 1) := by decide +kernel
theorem own_dmethod_3_code_9 : decode method_3_code 9 = .ok (.aload_n 0, 1) := by decide +kernel
theorem own_dmethod_3_code_10 : decode method_3_code 10 = .ok (.getfield 37, 3) := by decide +kernel
theorem own_dmethod_3_code_13 : decode method_3_code 13 = .ok (.iload_n 1, 1) := by decide +kernel
theorem own_dmethod_3_code_14 : decode method_3_code 14 = .ok (.iload_n 3, 1) := by decide +kernel
theorem own_dmethod_3_code_15 : decode method_3_code 15 = .ok (.iconst 3, 1) := by decide +kernel
theorem own_dmethod_3_code_16 : decode method_3_code 16 = .ok (.iload_n 1, 1) := by decide +kernel
theorem own_dmethod_3_code_17 : decode method_3_code 17 = .ok (.imul, 1) := by decide +kernel
theorem own_dmethod_3_code_18 : decode method_3_code 18 = .ok (.isub, 1) := by decide +kernel
theorem own_dmethod_3_code_19 : decode method_3_code 19 = .ok (.iastore, 1) := by decide +kernel
theorem own_dmethod_3_code_20 : decode method_3_code 20 = .ok (.return_, 1) := by decide +kernel
theorem own_efF0 (m : MethodId) (o : Addr) (pa : Int32) (pb : Int32) : entryFrame m #[(.ref o), (.int (0 : Int32)), (.int pa), (.int pb)] 4 = mkF m 0 #[.val (.ref o), .val (.int (0 : Int32)), .val (.int pa), .val (.int pb)] [] := by first | (simp [entryFrame, mkF, argsToLocals, Value.category]; done) | rfl
def own_QF0 (Z : State) (o : Addr) (pa : Int32) (pb : Int32) (ae : Addr) (ar : Addr) (ke : ClassId) (kr : ClassId) (ve0 : Value) (ve1 : Value) (ve2 : Value) (ve3 : Value) (ve4 : Value) (ve5 : Value) (ve6 : Value) (ve7 : Value) (ve8 : Value) (vr0 : Value) (vr1 : Value) (vr2 : Value) (vr3 : Value) (vr4 : Value) (vr5 : Value) (vr6 : Value) (vr7 : Value) (vr8 : Value) (h0 : Heap) (n0 : Nat) (v_ : Option Value) (h : Heap) (L_ : List Loc) : Prop := v_ = none ∧ Fr n0 L_ ∧ Keep h0 h [ae, ar] ∧ Arv Z h ae ke .int (9 : Int32) [(.int (pa + (0 : Int32))), ve1, ve2, ve3, ve4, ve5, ve6, ve7, ve8] (.int (0 : Int32)) ∧ Arv Z h ar kr .int (9 : Int32) [(.int (pb - (0 : Int32))), vr1, vr2, vr3, vr4, vr5, vr6, vr7, vr8] (.int (0 : Int32))
abbrev own_RF0 : Room := { frames := 0, cells := 0, slots := 0, locals := 0 }
set_option maxRecDepth 65536 in
set_option maxHeartbeats 40000000 in
theorem own_rmF0 (l : Launch) (Z : State) (a0 : Array Value) (hw : ∀ d ∈ tables_1, d.before a0 Z = true) (ws : List Jvm.Cond) (o : Addr) (pa : Int32) (pb : Int32) (ae : Addr) (ar : Addr) (ke : ClassId) (kr : ClassId) (ve0 : Value) (ve1 : Value) (ve2 : Value) (ve3 : Value) (ve4 : Value) (ve5 : Value) (ve6 : Value) (ve7 : Value) (ve8 : Value) (vr0 : Value) (vr1 : Value) (vr2 : Value) (vr3 : Value) (vr4 : Value) (vr5 : Value) (vr6 : Value) (vr7 : Value) (vr8 : Value) (h0 : Heap) (n0 : Nat) (Z0 : n0 ≤ h0.size) (Fe : Fld Z h0 o "com/example/shiftwise/shiftwise/search/ScanBlock" "ends" "[I" (.ref ae)) (Frr : Fld Z h0 o "com/example/shiftwise/shiftwise/search/ScanBlock" "reports" "[I" (.ref ar)) (Ve : Arv Z h0 ae ke .int (9 : Int32) [ve0, ve1, ve2, ve3, ve4, ve5, ve6, ve7, ve8] (.int (0 : Int32))) (Vr : Arv Z h0 ar kr .int (9 : Int32) [vr0, vr1, vr2, vr3, vr4, vr5, vr6, vr7, vr8] (.int (0 : Int32))) (ne1 : o ≠ ae) (ne2 : o ≠ ar) (ne3 : ae ≠ ar) (ge1 : n0 ≤ ae) (ge2 : n0 ≤ ar) :
    MetFree l (⟨"com/example/shiftwise/shiftwise/search/AutomatonMovesJoinLanesPinLaw", "fill", "(Lcom/example/shiftwise/shiftwise/search/ScanBlock;III)V"⟩ : MethodName) (head1 (Jvm.Cond.code (⟨"com/example/shiftwise/shiftwise/search/AutomatonMovesJoinLanesPinLaw", "fill", "(Lcom/example/shiftwise/shiftwise/search/ScanBlock;III)V"⟩ : MethodName) method_3_code 4 none :: ws) own_RF0) (fun a U => a = #[(.ref o), (.int (0 : Int32)), (.int pa), (.int pb)] ∧ Z.Warmed39 U.vm ∧ U.heap = h0) (fun _ _ _ _ _ => True) (fun _ U oc_ U' => ∃ v_ L_, oc_ = .returned v_ ∧ own_QF0 Z o pa pb ae ar ke kr ve0 ve1 ve2 ve3 ve4 ve5 ve6 ve7 ve8 vr0 vr1 vr2 vr3 vr4 vr5 vr6 vr7 vr8 h0 n0 v_ U'.heap L_ ∧ FrameEnd U oc_ U' L_ own_RF0.cells own_RF0.slots) := by
  refine MetFree.of_bodySF (plainFor_of_name own_pn_com_example_shiftwise_shiftwise_search_AutomatonMovesJoinLanesPinLaw) hisR ?_
  intro p e s m args below meth c s₁ Bd hml0 hP hK
  obtain ⟨rfl, hZ, hh⟩ := hP
  have hx := Bd.exec
  have hby := Bd.bytes
  have hml : c.maxLocals = 4 := hml0
  have hown : s.vm.findClass "com/example/shiftwise/shiftwise/search/AutomatonMovesJoinLanesPinLaw" = some m.cls := findClass_of_methodNamed Bd.named
  have hnm := (name_of_methodNamed Bd.named Bd.method).1
  have X0 : Stand p l e own_RF0 s m #[(.ref o), (.int (0 : Int32)), (.int pa), (.int pb)] below meth c s₁ [] 0 0 := Stand.of_body Bd
  have e0 : s₁.heap = h0 := by rw [← hh, Bd.state]; rfl
  have N0 := Fr.nil n0
  refine own_in (fun _ k => castTop (own_efF0 m o pa pb) k) ?_
  intro RR hRR
  show own_Go p.tables e below RR (s₁.setTop (mkF m 0 #[.val (.ref o), .val (.int (0 : Int32)), .val (.int pa), .val (.int pb)] []))
  refine own_st (fun _ k => XS.aloadN X0.here hx rfl (hb hby own_dmethod_3_code_0) rfl rfl k) ?_
  show own_Go p.tables e below RR (s₁.setTop (mkF m 1 #[.val (.ref o), .val (.int (0 : Int32)), .val (.int pa), .val (.int pb)] [(.ref o)]))
  obtain ⟨T1, X1, e1, st1⟩ := getF X0 hx hZ hown (host := "") (Or.inl (hw _ (List.mem_of_getElem? (i := 21) rfl))) Via.refl e0 Fe (g := (mkF m 1 #[.val (.ref o), .val (.int (0 : Int32)), .val (.int pa), .val (.int pb)] [(.ref o)])) rfl rfl (hb hby own_dmethod_3_code_1)
  refine own_st st1 ?_
  show own_Go p.tables e below RR (T1.setTop (mkF m 4 #[.val (.ref o), .val (.int (0 : Int32)), .val (.int pa), .val (.int pb)] [(.ref ae)]))
  refine own_st (fun _ k => XS.iloadN X1.here hx rfl (hb hby own_dmethod_3_code_4) rfl (XS.iloadN X1.here hx rfl (hb hby own_dmethod_3_code_5) rfl (XS.iloadN X1.here hx rfl (hb hby own_dmethod_3_code_6) rfl (XS.iadd X1.here hx rfl (hb hby own_dmethod_3_code_7) rfl k)))) ?_
  show own_Go p.tables e below RR (T1.setTop (mkF m 8 #[.val (.ref o), .val (.int (0 : Int32)), .val (.int pa), .val (.int pb)] [(.int (pa + (0 : Int32))), (.int (0 : Int32)), (.ref ae)]))
  obtain ⟨c2, A2, q2, s2, m2, H2, G2⟩ := id Ve
  obtain ⟨T3, h3, X3, e3, W3, st3⟩ := stI X1 hx hZ e1 A2 (j := (0 : Int32)) (inb_of s2 ⟨by decide, by decide⟩) (g := (mkF m 8 #[.val (.ref o), .val (.int (0 : Int32)), .val (.int pa), .val (.int pb)] [(.int (pa + (0 : Int32))), (.int (0 : Int32)), (.ref ae)])) rfl rfl (hb hby own_dmethod_3_code_8)
  have V3 := Arv.set A2 q2 s2 m2 H2 G2 rfl W3 0 rfl (Nat.le_of_ble_eq_true rfl)
  have V3 : Arv Z h3 ae ke .int (9 : Int32) [(.int (pa + (0 : Int32))), ve1, ve2, ve3, ve4, ve5, ve6, ve7, ve8] (.int (0 : Int32)) := V3
  have N3 := Fr.snoc X3 N0 ge1
  refine own_st st3 ?_
  have z4 : n0 ≤ h3.size := Nat.le_trans Z0 (Keep.of_wr W3).1
  have kk5 : Keep h0 h3 [ae, ar] := (Keep.refl h0 [ae, ar]).wr W3 (Or.inl (List.mem_of_getElem? (i := 0) rfl))
  show own_Go p.tables e below RR (T3.setTop (mkF m 9 #[.val (.ref o), .val (.int (0 : Int32)), .val (.int pa), .val (.int pb)] []))
  refine own_st (fun _ k => XS.aloadN X3.here hx rfl (hb hby own_dmethod_3_code_9) rfl rfl k) ?_
  show own_Go p.tables e below RR (T3.setTop (mkF m 10 #[.val (.ref o), .val (.int (0 : Int32)), .val (.int pa), .val (.int pb)] [(.ref o)]))
  have f6 := (Frr.other W3 (Or.inl ne1))
  obtain ⟨T7, X7, e7, st7⟩ := getF X3 hx hZ hown (host := "") (Or.inl (hw _ (List.mem_of_getElem? (i := 22) rfl))) Via.refl e3 f6 (g := (mkF m 10 #[.val (.ref o), .val (.int (0 : Int32)), .val (.int pa), .val (.int pb)] [(.ref o)])) rfl rfl (hb hby own_dmethod_3_code_10)
  refine own_st st7 ?_
  show own_Go p.tables e below RR (T7.setTop (mkF m 13 #[.val (.ref o), .val (.int (0 : Int32)), .val (.int pa), .val (.int pb)] [(.ref ar)]))
  refine own_st (fun _ k => XS.iloadN X7.here hx rfl (hb hby own_dmethod_3_code_13) rfl (XS.iloadN X7.here hx rfl (hb hby own_dmethod_3_code_14) rfl (XS.iconst X7.here hx rfl (hb hby own_dmethod_3_code_15) (XS.iloadN X7.here hx rfl (hb hby own_dmethod_3_code_16) rfl (XS.imul X7.here hx rfl (hb hby own_dmethod_3_code_17) rfl (XS.isub X7.here hx rfl (hb hby own_dmethod_3_code_18) rfl k)))))) ?_
  show own_Go p.tables e below RR (T7.setTop (mkF m 19 #[.val (.ref o), .val (.int (0 : Int32)), .val (.int pa), .val (.int pb)] [(.int (pb - (0 : Int32))), (.int (0 : Int32)), (.ref ar)]))
  have f8 := (Vr.other W3 (Ne.symm ne3))
  obtain ⟨c9, A9, q9, s9, m9, H9, G9⟩ := id f8
  obtain ⟨T10, h10, X10, e10, W10, st10⟩ := stI X7 hx hZ e7 A9 (j := (0 : Int32)) (inb_of s9 ⟨by decide, by decide⟩) (g := (mkF m 19 #[.val (.ref o), .val (.int (0 : Int32)), .val (.int pa), .val (.int pb)] [(.int (pb - (0 : Int32))), (.int (0 : Int32)), (.ref ar)])) rfl rfl (hb hby own_dmethod_3_code_19)
  have V10 := Arv.set A9 q9 s9 m9 H9 G9 rfl W10 0 rfl (Nat.le_of_ble_eq_true rfl)
  have V10 : Arv Z h10 ar kr .int (9 : Int32) [(.int (pb - (0 : Int32))), vr1, vr2, vr3, vr4, vr5, vr6, vr7, vr8] (.int (0 : Int32)) := V10
  have N10 := Fr.snoc X10 N3 ge2
  refine own_st st10 ?_
  have z11 : n0 ≤ h10.size := Nat.le_trans z4 (Keep.of_wr W10).1
  have kk12 : Keep h0 h10 [ae, ar] := kk5.wr W10 (Or.inl (List.mem_of_getElem? (i := 1) rfl))
  show own_Go p.tables e below RR (T10.setTop (mkF m 20 #[.val (.ref o), .val (.int (0 : Int32)), .val (.int pa), .val (.int pb)] []))
  obtain ⟨fs, hrt_, hrun, hended, hW, hsame⟩ := X10.leave (v := none) (fun _ => rfl)
  refine own_fin (X10.returnOut hx Bd.returns (hb hby own_dmethod_3_code_20) hrt_) (hRR _ ⟨_, hrun, hended, _, _, rfl, ?_, ⟨_, rfl⟩, hW, hsame.mono (by decide) (by decide)⟩)
  show own_QF0 Z o pa pb ae ar ke kr ve0 ve1 ve2 ve3 ve4 ve5 ve6 ve7 ve8 vr0 vr1 vr2 vr3 vr4 vr5 vr6 vr7 vr8 h0 n0 _ T10.heap _
  rw [e10]
  have f13 := (V3.other W10 ne3)
  exact ⟨rfl, N10, kk12, f13, V10⟩
theorem own_efF1 (m : MethodId) (o : Addr) (pa : Int32) (pb : Int32) : entryFrame m #[(.ref o), (.int (1 : Int32)), (.int pa), (.int pb)] 4 = mkF m 0 #[.val (.ref o), .val (.int (1 : Int32)), .val (.int pa), .val (.int pb)] [] := by first | (simp [entryFrame, mkF, argsToLocals, Value.category]; done) | rfl
def own_QF1 (Z : State) (o : Addr) (pa : Int32) (pb : Int32) (ae : Addr) (ar : Addr) (ke : ClassId) (kr : ClassId) (ve0 : Value) (ve1 : Value) (ve2 : Value) (ve3 : Value) (ve4 : Value) (ve5 : Value) (ve6 : Value) (ve7 : Value) (ve8 : Value) (vr0 : Value) (vr1 : Value) (vr2 : Value) (vr3 : Value) (vr4 : Value) (vr5 : Value) (vr6 : Value) (vr7 : Value) (vr8 : Value) (h0 : Heap) (n0 : Nat) (v_ : Option Value) (h : Heap) (L_ : List Loc) : Prop := v_ = none ∧ Fr n0 L_ ∧ Keep h0 h [ae, ar] ∧ Arv Z h ae ke .int (9 : Int32) [ve0, (.int (pa + (1 : Int32))), ve2, ve3, ve4, ve5, ve6, ve7, ve8] (.int (0 : Int32)) ∧ Arv Z h ar kr .int (9 : Int32) [vr0, (.int (pb - (3 : Int32))), vr2, vr3, vr4, vr5, vr6, vr7, vr8] (.int (0 : Int32))
abbrev own_RF1 : Room := { frames := 0, cells := 0, slots := 0, locals := 0 }
set_option maxRecDepth 65536 in
set_option maxHeartbeats 40000000 in
theorem own_rmF1 (l : Launch) (Z : State) (a0 : Array Value) (hw : ∀ d ∈ tables_1, d.before a0 Z = true) (ws : List Jvm.Cond) (o : Addr) (pa : Int32) (pb : Int32) (ae : Addr) (ar : Addr) (ke : ClassId) (kr : ClassId) (ve0 : Value) (ve1 : Value) (ve2 : Value) (ve3 : Value) (ve4 : Value) (ve5 : Value) (ve6 : Value) (ve7 : Value) (ve8 : Value) (vr0 : Value) (vr1 : Value) (vr2 : Value) (vr3 : Value) (vr4 : Value) (vr5 : Value) (vr6 : Value) (vr7 : Value) (vr8 : Value) (h0 : Heap) (n0 : Nat) (Z0 : n0 ≤ h0.size) (Fe : Fld Z h0 o "com/example/shiftwise/shiftwise/search/ScanBlock" "ends" "[I" (.ref ae)) (Frr : Fld Z h0 o "com/example/shiftwise/shiftwise/search/ScanBlock" "reports" "[I" (.ref ar)) (Ve : Arv Z h0 ae ke .int (9 : Int32) [ve0, ve1, ve2, ve3, ve4, ve5, ve6, ve7, ve8] (.int (0 : Int32))) (Vr : Arv Z h0 ar kr .int (9 : Int32) [vr0, vr1, vr2, vr3, vr4, vr5, vr6, vr7, vr8] (.int (0 : Int32))) (ne1 : o ≠ ae) (ne2 : o ≠ ar) (ne3 : ae ≠ ar) (ge1 : n0 ≤ ae) (ge2 : n0 ≤ ar) :
    MetFree l (⟨"com/example/shiftwise/shiftwise/search/AutomatonMovesJoinLanesPinLaw", "fill", "(Lcom/example/shiftwise/shiftwise/search/ScanBlock;III)V"⟩ : MethodName) (head1 (Jvm.Cond.code (⟨"com/example/shiftwise/shiftwise/search/AutomatonMovesJoinLanesPinLaw", "fill", "(Lcom/example/shiftwise/shiftwise/search/ScanBlock;III)V"⟩ : MethodName) method_3_code 4 none :: ws) own_RF1) (fun a U => a = #[(.ref o), (.int (1 : Int32)), (.int pa), (.int pb)] ∧ Z.Warmed39 U.vm ∧ U.heap = h0) (fun _ _ _ _ _ => True) (fun _ U oc_ U' => ∃ v_ L_, oc_ = .returned v_ ∧ own_QF1 Z o pa pb ae ar ke kr ve0 ve1 ve2 ve3 ve4 ve5 ve6 ve7 ve8 vr0 vr1 vr2 vr3 vr4 vr5 vr6 vr7 vr8 h0 n0 v_ U'.heap L_ ∧ FrameEnd U oc_ U' L_ own_RF1.cells own_RF1.slots) := by
  refine MetFree.of_bodySF (plainFor_of_name own_pn_com_example_shiftwise_shiftwise_search_AutomatonMovesJoinLanesPinLaw) hisR ?_
  intro p e s m args below meth c s₁ Bd hml0 hP hK
  obtain ⟨rfl, hZ, hh⟩ := hP
  have hx := Bd.exec
  have hby := Bd.bytes
  have hml : c.maxLocals = 4 := hml0
  have hown : s.vm.findClass "com/example/shiftwise/shiftwise/search/AutomatonMovesJoinLanesPinLaw" = some m.cls := findClass_of_methodNamed Bd.named
  have hnm := (name_of_methodNamed Bd.named Bd.method).1
  have X0 : Stand p l e own_RF1 s m #[(.ref o), (.int (1 : Int32)), (.int pa), (.int pb)] below meth c s₁ [] 0 0 := Stand.of_body Bd
  have e0 : s₁.heap = h0 := by rw [← hh, Bd.state]; rfl
  have N0 := Fr.nil n0
  refine own_in (fun _ k => castTop (own_efF1 m o pa pb) k) ?_
  intro RR hRR
  show own_Go p.tables e below RR (s₁.setTop (mkF m 0 #[.val (.ref o), .val (.int (1 : Int32)), .val (.int pa), .val (.int pb)] []))
  refine own_st (fun _ k => XS.aloadN X0.here hx rfl (hb hby own_dmethod_3_code_0) rfl rfl k) ?_
  show own_Go p.tables e below RR (s₁.setTop (mkF m 1 #[.val (.ref o), .val (.int (1 : Int32)), .val (.int pa), .val (.int pb)] [(.ref o)]))
  obtain ⟨T1, X1, e1, st1⟩ := getF X0 hx hZ hown (host := "") (Or.inl (hw _ (List.mem_of_getElem? (i := 21) rfl))) Via.refl e0 Fe (g := (mkF m 1 #[.val (.ref o), .val (.int (1 : Int32)), .val (.int pa), .val (.int pb)] [(.ref o)])) rfl rfl (hb hby own_dmethod_3_code_1)
  refine own_st st1 ?_
  show own_Go p.tables e below RR (T1.setTop (mkF m 4 #[.val (.ref o), .val (.int (1 : Int32)), .val (.int pa), .val (.int pb)] [(.ref ae)]))
  refine own_st (fun _ k => XS.iloadN X1.here hx rfl (hb hby own_dmethod_3_code_4) rfl (XS.iloadN X1.here hx rfl (hb hby own_dmethod_3_code_5) rfl (XS.iloadN X1.here hx rfl (hb hby own_dmethod_3_code_6) rfl (XS.iadd X1.here hx rfl (hb hby own_dmethod_3_code_7) rfl k)))) ?_
  show own_Go p.tables e below RR (T1.setTop (mkF m 8 #[.val (.ref o), .val (.int (1 : Int32)), .val (.int pa), .val (.int pb)] [(.int (pa + (1 : Int32))), (.int (1 : Int32)), (.ref ae)]))
  obtain ⟨c2, A2, q2, s2, m2, H2, G2⟩ := id Ve
  obtain ⟨T3, h3, X3, e3, W3, st3⟩ := stI X1 hx hZ e1 A2 (j := (1 : Int32)) (inb_of s2 ⟨by decide, by decide⟩) (g := (mkF m 8 #[.val (.ref o), .val (.int (1 : Int32)), .val (.int pa), .val (.int pb)] [(.int (pa + (1 : Int32))), (.int (1 : Int32)), (.ref ae)])) rfl rfl (hb hby own_dmethod_3_code_8)
  have V3 := Arv.set A2 q2 s2 m2 H2 G2 rfl W3 1 rfl (Nat.le_of_ble_eq_true rfl)
  have V3 : Arv Z h3 ae ke .int (9 : Int32) [ve0, (.int (pa + (1 : Int32))), ve2, ve3, ve4, ve5, ve6, ve7, ve8] (.int (0 : Int32)) := V3
  have N3 := Fr.snoc X3 N0 ge1
  refine own_st st3 ?_
  have z4 : n0 ≤ h3.size := Nat.le_trans Z0 (Keep.of_wr W3).1
  have kk5 : Keep h0 h3 [ae, ar] := (Keep.refl h0 [ae, ar]).wr W3 (Or.inl (List.mem_of_getElem? (i := 0) rfl))
  show own_Go p.tables e below RR (T3.setTop (mkF m 9 #[.val (.ref o), .val (.int (1 : Int32)), .val (.int pa), .val (.int pb)] []))
  refine own_st (fun _ k => XS.aloadN X3.here hx rfl (hb hby own_dmethod_3_code_9) rfl rfl k) ?_
  show own_Go p.tables e below RR (T3.setTop (mkF m 10 #[.val (.ref o), .val (.int (1 : Int32)), .val (.int pa), .val (.int pb)] [(.ref o)]))
  have f6 := (Frr.other W3 (Or.inl ne1))
  obtain ⟨T7, X7, e7, st7⟩ := getF X3 hx hZ hown (host := "") (Or.inl (hw _ (List.mem_of_getElem? (i := 22) rfl))) Via.refl e3 f6 (g := (mkF m 10 #[.val (.ref o), .val (.int (1 : Int32)), .val (.int pa), .val (.int pb)] [(.ref o)])) rfl rfl (hb hby own_dmethod_3_code_10)
  refine own_st st7 ?_
  show own_Go p.tables e below RR (T7.setTop (mkF m 13 #[.val (.ref o), .val (.int (1 : Int32)), .val (.int pa), .val (.int pb)] [(.ref ar)]))
  refine own_st (fun _ k => XS.iloadN X7.here hx rfl (hb hby own_dmethod_3_code_13) rfl (XS.iloadN X7.here hx rfl (hb hby own_dmethod_3_code_14) rfl (XS.iconst X7.here hx rfl (hb hby own_dmethod_3_code_15) (XS.iloadN X7.here hx rfl (hb hby own_dmethod_3_code_16) rfl (XS.imul X7.here hx rfl (hb hby own_dmethod_3_code_17) rfl (XS.isub X7.here hx rfl (hb hby own_dmethod_3_code_18) rfl k)))))) ?_
  show own_Go p.tables e below RR (T7.setTop (mkF m 19 #[.val (.ref o), .val (.int (1 : Int32)), .val (.int pa), .val (.int pb)] [(.int (pb - (3 : Int32))), (.int (1 : Int32)), (.ref ar)]))
  have f8 := (Vr.other W3 (Ne.symm ne3))
  obtain ⟨c9, A9, q9, s9, m9, H9, G9⟩ := id f8
  obtain ⟨T10, h10, X10, e10, W10, st10⟩ := stI X7 hx hZ e7 A9 (j := (1 : Int32)) (inb_of s9 ⟨by decide, by decide⟩) (g := (mkF m 19 #[.val (.ref o), .val (.int (1 : Int32)), .val (.int pa), .val (.int pb)] [(.int (pb - (3 : Int32))), (.int (1 : Int32)), (.ref ar)])) rfl rfl (hb hby own_dmethod_3_code_19)
  have V10 := Arv.set A9 q9 s9 m9 H9 G9 rfl W10 1 rfl (Nat.le_of_ble_eq_true rfl)
  have V10 : Arv Z h10 ar kr .int (9 : Int32) [vr0, (.int (pb - (3 : Int32))), vr2, vr3, vr4, vr5, vr6, vr7, vr8] (.int (0 : Int32)) := V10
  have N10 := Fr.snoc X10 N3 ge2
  refine own_st st10 ?_
  have z11 : n0 ≤ h10.size := Nat.le_trans z4 (Keep.of_wr W10).1
  have kk12 : Keep h0 h10 [ae, ar] := kk5.wr W10 (Or.inl (List.mem_of_getElem? (i := 1) rfl))
  show own_Go p.tables e below RR (T10.setTop (mkF m 20 #[.val (.ref o), .val (.int (1 : Int32)), .val (.int pa), .val (.int pb)] []))
  obtain ⟨fs, hrt_, hrun, hended, hW, hsame⟩ := X10.leave (v := none) (fun _ => rfl)
  refine own_fin (X10.returnOut hx Bd.returns (hb hby own_dmethod_3_code_20) hrt_) (hRR _ ⟨_, hrun, hended, _, _, rfl, ?_, ⟨_, rfl⟩, hW, hsame.mono (by decide) (by decide)⟩)
  show own_QF1 Z o pa pb ae ar ke kr ve0 ve1 ve2 ve3 ve4 ve5 ve6 ve7 ve8 vr0 vr1 vr2 vr3 vr4 vr5 vr6 vr7 vr8 h0 n0 _ T10.heap _
  rw [e10]
  have f13 := (V3.other W10 ne3)
  exact ⟨rfl, N10, kk12, f13, V10⟩
theorem own_efF2 (m : MethodId) (o : Addr) (pa : Int32) (pb : Int32) : entryFrame m #[(.ref o), (.int (2 : Int32)), (.int pa), (.int pb)] 4 = mkF m 0 #[.val (.ref o), .val (.int (2 : Int32)), .val (.int pa), .val (.int pb)] [] := by first | (simp [entryFrame, mkF, argsToLocals, Value.category]; done) | rfl
def own_QF2 (Z : State) (o : Addr) (pa : Int32) (pb : Int32) (ae : Addr) (ar : Addr) (ke : ClassId) (kr : ClassId) (ve0 : Value) (ve1 : Value) (ve2 : Value) (ve3 : Value) (ve4 : Value) (ve5 : Value) (ve6 : Value) (ve7 : Value) (ve8 : Value) (vr0 : Value) (vr1 : Value) (vr2 : Value) (vr3 : Value) (vr4 : Value) (vr5 : Value) (vr6 : Value) (vr7 : Value) (vr8 : Value) (h0 : Heap) (n0 : Nat) (v_ : Option Value) (h : Heap) (L_ : List Loc) : Prop := v_ = none ∧ Fr n0 L_ ∧ Keep h0 h [ae, ar] ∧ Arv Z h ae ke .int (9 : Int32) [ve0, ve1, (.int (pa + (2 : Int32))), ve3, ve4, ve5, ve6, ve7, ve8] (.int (0 : Int32)) ∧ Arv Z h ar kr .int (9 : Int32) [vr0, vr1, (.int (pb - (6 : Int32))), vr3, vr4, vr5, vr6, vr7, vr8] (.int (0 : Int32))
abbrev own_RF2 : Room := { frames := 0, cells := 0, slots := 0, locals := 0 }
set_option maxRecDepth 65536 in
set_option maxHeartbeats 40000000 in
theorem own_rmF2 (l : Launch) (Z : State) (a0 : Array Value) (hw : ∀ d ∈ tables_1, d.before a0 Z = true) (ws : List Jvm.Cond) (o : Addr) (pa : Int32) (pb : Int32) (ae : Addr) (ar : Addr) (ke : ClassId) (kr : ClassId) (ve0 : Value) (ve1 : Value) (ve2 : Value) (ve3 : Value) (ve4 : Value) (ve5 : Value) (ve6 : Value) (ve7 : Value) (ve8 : Value) (vr0 : Value) (vr1 : Value) (vr2 : Value) (vr3 : Value) (vr4 : Value) (vr5 : Value) (vr6 : Value) (vr7 : Value) (vr8 : Value) (h0 : Heap) (n0 : Nat) (Z0 : n0 ≤ h0.size) (Fe : Fld Z h0 o "com/example/shiftwise/shiftwise/search/ScanBlock" "ends" "[I" (.ref ae)) (Frr : Fld Z h0 o "com/example/shiftwise/shiftwise/search/ScanBlock" "reports" "[I" (.ref ar)) (Ve : Arv Z h0 ae ke .int (9 : Int32) [ve0, ve1, ve2, ve3, ve4, ve5, ve6, ve7, ve8] (.int (0 : Int32))) (Vr : Arv Z h0 ar kr .int (9 : Int32) [vr0, vr1, vr2, vr3, vr4, vr5, vr6, vr7, vr8] (.int (0 : Int32))) (ne1 : o ≠ ae) (ne2 : o ≠ ar) (ne3 : ae ≠ ar) (ge1 : n0 ≤ ae) (ge2 : n0 ≤ ar) :
    MetFree l (⟨"com/example/shiftwise/shiftwise/search/AutomatonMovesJoinLanesPinLaw", "fill", "(Lcom/example/shiftwise/shiftwise/search/ScanBlock;III)V"⟩ : MethodName) (head1 (Jvm.Cond.code (⟨"com/example/shiftwise/shiftwise/search/AutomatonMovesJoinLanesPinLaw", "fill", "(Lcom/example/shiftwise/shiftwise/search/ScanBlock;III)V"⟩ : MethodName) method_3_code 4 none :: ws) own_RF2) (fun a U => a = #[(.ref o), (.int (2 : Int32)), (.int pa), (.int pb)] ∧ Z.Warmed39 U.vm ∧ U.heap = h0) (fun _ _ _ _ _ => True) (fun _ U oc_ U' => ∃ v_ L_, oc_ = .returned v_ ∧ own_QF2 Z o pa pb ae ar ke kr ve0 ve1 ve2 ve3 ve4 ve5 ve6 ve7 ve8 vr0 vr1 vr2 vr3 vr4 vr5 vr6 vr7 vr8 h0 n0 v_ U'.heap L_ ∧ FrameEnd U oc_ U' L_ own_RF2.cells own_RF2.slots) := by
  refine MetFree.of_bodySF (plainFor_of_name own_pn_com_example_shiftwise_shiftwise_search_AutomatonMovesJoinLanesPinLaw) hisR ?_
  intro p e s m args below meth c s₁ Bd hml0 hP hK
  obtain ⟨rfl, hZ, hh⟩ := hP
  have hx := Bd.exec
  have hby := Bd.bytes
  have hml : c.maxLocals = 4 := hml0
  have hown : s.vm.findClass "com/example/shiftwise/shiftwise/search/AutomatonMovesJoinLanesPinLaw" = some m.cls := findClass_of_methodNamed Bd.named
  have hnm := (name_of_methodNamed Bd.named Bd.method).1
  have X0 : Stand p l e own_RF2 s m #[(.ref o), (.int (2 : Int32)), (.int pa), (.int pb)] below meth c s₁ [] 0 0 := Stand.of_body Bd
  have e0 : s₁.heap = h0 := by rw [← hh, Bd.state]; rfl
  have N0 := Fr.nil n0
  refine own_in (fun _ k => castTop (own_efF2 m o pa pb) k) ?_
  intro RR hRR
  show own_Go p.tables e below RR (s₁.setTop (mkF m 0 #[.val (.ref o), .val (.int (2 : Int32)), .val (.int pa), .val (.int pb)] []))
  refine own_st (fun _ k => XS.aloadN X0.here hx rfl (hb hby own_dmethod_3_code_0) rfl rfl k) ?_
  show own_Go p.tables e below RR (s₁.setTop (mkF m 1 #[.val (.ref o), .val (.int (2 : Int32)), .val (.int pa), .val (.int pb)] [(.ref o)]))
  obtain ⟨T1, X1, e1, st1⟩ := getF X0 hx hZ hown (host := "") (Or.inl (hw _ (List.mem_of_getElem? (i := 21) rfl))) Via.refl e0 Fe (g := (mkF m 1 #[.val (.ref o), .val (.int (2 : Int32)), .val (.int pa), .val (.int pb)] [(.ref o)])) rfl rfl (hb hby own_dmethod_3_code_1)
  refine own_st st1 ?_
  show own_Go p.tables e below RR (T1.setTop (mkF m 4 #[.val (.ref o), .val (.int (2 : Int32)), .val (.int pa), .val (.int pb)] [(.ref ae)]))
  refine own_st (fun _ k => XS.iloadN X1.here hx rfl (hb hby own_dmethod_3_code_4) rfl (XS.iloadN X1.here hx rfl (hb hby own_dmethod_3_code_5) rfl (XS.iloadN X1.here hx rfl (hb hby own_dmethod_3_code_6) rfl (XS.iadd X1.here hx rfl (hb hby own_dmethod_3_code_7) rfl k)))) ?_
  show own_Go p.tables e below RR (T1.setTop (mkF m 8 #[.val (.ref o), .val (.int (2 : Int32)), .val (.int pa), .val (.int pb)] [(.int (pa + (2 : Int32))), (.int (2 : Int32)), (.ref ae)]))
  obtain ⟨c2, A2, q2, s2, m2, H2, G2⟩ := id Ve
  obtain ⟨T3, h3, X3, e3, W3, st3⟩ := stI X1 hx hZ e1 A2 (j := (2 : Int32)) (inb_of s2 ⟨by decide, by decide⟩) (g := (mkF m 8 #[.val (.ref o), .val (.int (2 : Int32)), .val (.int pa), .val (.int pb)] [(.int (pa + (2 : Int32))), (.int (2 : Int32)), (.ref ae)])) rfl rfl (hb hby own_dmethod_3_code_8)
  have V3 := Arv.set A2 q2 s2 m2 H2 G2 rfl W3 2 rfl (Nat.le_of_ble_eq_true rfl)
  have V3 : Arv Z h3 ae ke .int (9 : Int32) [ve0, ve1, (.int (pa + (2 : Int32))), ve3, ve4, ve5, ve6, ve7, ve8] (.int (0 : Int32)) := V3
  have N3 := Fr.snoc X3 N0 ge1
  refine own_st st3 ?_
  have z4 : n0 ≤ h3.size := Nat.le_trans Z0 (Keep.of_wr W3).1
  have kk5 : Keep h0 h3 [ae, ar] := (Keep.refl h0 [ae, ar]).wr W3 (Or.inl (List.mem_of_getElem? (i := 0) rfl))
  show own_Go p.tables e below RR (T3.setTop (mkF m 9 #[.val (.ref o), .val (.int (2 : Int32)), .val (.int pa), .val (.int pb)] []))
  refine own_st (fun _ k => XS.aloadN X3.here hx rfl (hb hby own_dmethod_3_code_9) rfl rfl k) ?_
  show own_Go p.tables e below RR (T3.setTop (mkF m 10 #[.val (.ref o), .val (.int (2 : Int32)), .val (.int pa), .val (.int pb)] [(.ref o)]))
  have f6 := (Frr.other W3 (Or.inl ne1))
  obtain ⟨T7, X7, e7, st7⟩ := getF X3 hx hZ hown (host := "") (Or.inl (hw _ (List.mem_of_getElem? (i := 22) rfl))) Via.refl e3 f6 (g := (mkF m 10 #[.val (.ref o), .val (.int (2 : Int32)), .val (.int pa), .val (.int pb)] [(.ref o)])) rfl rfl (hb hby own_dmethod_3_code_10)
  refine own_st st7 ?_
  show own_Go p.tables e below RR (T7.setTop (mkF m 13 #[.val (.ref o), .val (.int (2 : Int32)), .val (.int pa), .val (.int pb)] [(.ref ar)]))
  refine own_st (fun _ k => XS.iloadN X7.here hx rfl (hb hby own_dmethod_3_code_13) rfl (XS.iloadN X7.here hx rfl (hb hby own_dmethod_3_code_14) rfl (XS.iconst X7.here hx rfl (hb hby own_dmethod_3_code_15) (XS.iloadN X7.here hx rfl (hb hby own_dmethod_3_code_16) rfl (XS.imul X7.here hx rfl (hb hby own_dmethod_3_code_17) rfl (XS.isub X7.here hx rfl (hb hby own_dmethod_3_code_18) rfl k)))))) ?_
  show own_Go p.tables e below RR (T7.setTop (mkF m 19 #[.val (.ref o), .val (.int (2 : Int32)), .val (.int pa), .val (.int pb)] [(.int (pb - (6 : Int32))), (.int (2 : Int32)), (.ref ar)]))
  have f8 := (Vr.other W3 (Ne.symm ne3))
  obtain ⟨c9, A9, q9, s9, m9, H9, G9⟩ := id f8
  obtain ⟨T10, h10, X10, e10, W10, st10⟩ := stI X7 hx hZ e7 A9 (j := (2 : Int32)) (inb_of s9 ⟨by decide, by decide⟩) (g := (mkF m 19 #[.val (.ref o), .val (.int (2 : Int32)), .val (.int pa), .val (.int pb)] [(.int (pb - (6 : Int32))), (.int (2 : Int32)), (.ref ar)])) rfl rfl (hb hby own_dmethod_3_code_19)
  have V10 := Arv.set A9 q9 s9 m9 H9 G9 rfl W10 2 rfl (Nat.le_of_ble_eq_true rfl)
  have V10 : Arv Z h10 ar kr .int (9 : Int32) [vr0, vr1, (.int (pb - (6 : Int32))), vr3, vr4, vr5, vr6, vr7, vr8] (.int (0 : Int32)) := V10
  have N10 := Fr.snoc X10 N3 ge2
  refine own_st st10 ?_
  have z11 : n0 ≤ h10.size := Nat.le_trans z4 (Keep.of_wr W10).1
  have kk12 : Keep h0 h10 [ae, ar] := kk5.wr W10 (Or.inl (List.mem_of_getElem? (i := 1) rfl))
  show own_Go p.tables e below RR (T10.setTop (mkF m 20 #[.val (.ref o), .val (.int (2 : Int32)), .val (.int pa), .val (.int pb)] []))
  obtain ⟨fs, hrt_, hrun, hended, hW, hsame⟩ := X10.leave (v := none) (fun _ => rfl)
  refine own_fin (X10.returnOut hx Bd.returns (hb hby own_dmethod_3_code_20) hrt_) (hRR _ ⟨_, hrun, hended, _, _, rfl, ?_, ⟨_, rfl⟩, hW, hsame.mono (by decide) (by decide)⟩)
  show own_QF2 Z o pa pb ae ar ke kr ve0 ve1 ve2 ve3 ve4 ve5 ve6 ve7 ve8 vr0 vr1 vr2 vr3 vr4 vr5 vr6 vr7 vr8 h0 n0 _ T10.heap _
  rw [e10]
  have f13 := (V3.other W10 ne3)
  exact ⟨rfl, N10, kk12, f13, V10⟩
theorem own_efF3 (m : MethodId) (o : Addr) (pa : Int32) (pb : Int32) : entryFrame m #[(.ref o), (.int (3 : Int32)), (.int pa), (.int pb)] 4 = mkF m 0 #[.val (.ref o), .val (.int (3 : Int32)), .val (.int pa), .val (.int pb)] [] := by first | (simp [entryFrame, mkF, argsToLocals, Value.category]; done) | rfl
def own_QF3 (Z : State) (o : Addr) (pa : Int32) (pb : Int32) (ae : Addr) (ar : Addr) (ke : ClassId) (kr : ClassId) (ve0 : Value) (ve1 : Value) (ve2 : Value) (ve3 : Value) (ve4 : Value) (ve5 : Value) (ve6 : Value) (ve7 : Value) (ve8 : Value) (vr0 : Value) (vr1 : Value) (vr2 : Value) (vr3 : Value) (vr4 : Value) (vr5 : Value) (vr6 : Value) (vr7 : Value) (vr8 : Value) (h0 : Heap) (n0 : Nat) (v_ : Option Value) (h : Heap) (L_ : List Loc) : Prop := v_ = none ∧ Fr n0 L_ ∧ Keep h0 h [ae, ar] ∧ Arv Z h ae ke .int (9 : Int32) [ve0, ve1, ve2, (.int (pa + (3 : Int32))), ve4, ve5, ve6, ve7, ve8] (.int (0 : Int32)) ∧ Arv Z h ar kr .int (9 : Int32) [vr0, vr1, vr2, (.int (pb - (9 : Int32))), vr4, vr5, vr6, vr7, vr8] (.int (0 : Int32))
abbrev own_RF3 : Room := { frames := 0, cells := 0, slots := 0, locals := 0 }
set_option maxRecDepth 65536 in
set_option maxHeartbeats 40000000 in
theorem own_rmF3 (l : Launch) (Z : State) (a0 : Array Value) (hw : ∀ d ∈ tables_1, d.before a0 Z = true) (ws : List Jvm.Cond) (o : Addr) (pa : Int32) (pb : Int32) (ae : Addr) (ar : Addr) (ke : ClassId) (kr : ClassId) (ve0 : Value) (ve1 : Value) (ve2 : Value) (ve3 : Value) (ve4 : Value) (ve5 : Value) (ve6 : Value) (ve7 : Value) (ve8 : Value) (vr0 : Value) (vr1 : Value) (vr2 : Value) (vr3 : Value) (vr4 : Value) (vr5 : Value) (vr6 : Value) (vr7 : Value) (vr8 : Value) (h0 : Heap) (n0 : Nat) (Z0 : n0 ≤ h0.size) (Fe : Fld Z h0 o "com/example/shiftwise/shiftwise/search/ScanBlock" "ends" "[I" (.ref ae)) (Frr : Fld Z h0 o "com/example/shiftwise/shiftwise/search/ScanBlock" "reports" "[I" (.ref ar)) (Ve : Arv Z h0 ae ke .int (9 : Int32) [ve0, ve1, ve2, ve3, ve4, ve5, ve6, ve7, ve8] (.int (0 : Int32))) (Vr : Arv Z h0 ar kr .int (9 : Int32) [vr0, vr1, vr2, vr3, vr4, vr5, vr6, vr7, vr8] (.int (0 : Int32))) (ne1 : o ≠ ae) (ne2 : o ≠ ar) (ne3 : ae ≠ ar) (ge1 : n0 ≤ ae) (ge2 : n0 ≤ ar) :
    MetFree l (⟨"com/example/shiftwise/shiftwise/search/AutomatonMovesJoinLanesPinLaw", "fill", "(Lcom/example/shiftwise/shiftwise/search/ScanBlock;III)V"⟩ : MethodName) (head1 (Jvm.Cond.code (⟨"com/example/shiftwise/shiftwise/search/AutomatonMovesJoinLanesPinLaw", "fill", "(Lcom/example/shiftwise/shiftwise/search/ScanBlock;III)V"⟩ : MethodName) method_3_code 4 none :: ws) own_RF3) (fun a U => a = #[(.ref o), (.int (3 : Int32)), (.int pa), (.int pb)] ∧ Z.Warmed39 U.vm ∧ U.heap = h0) (fun _ _ _ _ _ => True) (fun _ U oc_ U' => ∃ v_ L_, oc_ = .returned v_ ∧ own_QF3 Z o pa pb ae ar ke kr ve0 ve1 ve2 ve3 ve4 ve5 ve6 ve7 ve8 vr0 vr1 vr2 vr3 vr4 vr5 vr6 vr7 vr8 h0 n0 v_ U'.heap L_ ∧ FrameEnd U oc_ U' L_ own_RF3.cells own_RF3.slots) := by
  refine MetFree.of_bodySF (plainFor_of_name own_pn_com_example_shiftwise_shiftwise_search_AutomatonMovesJoinLanesPinLaw) hisR ?_
  intro p e s m args below meth c s₁ Bd hml0 hP hK
  obtain ⟨rfl, hZ, hh⟩ := hP
  have hx := Bd.exec
  have hby := Bd.bytes
  have hml : c.maxLocals = 4 := hml0
  have hown : s.vm.findClass "com/example/shiftwise/shiftwise/search/AutomatonMovesJoinLanesPinLaw" = some m.cls := findClass_of_methodNamed Bd.named
  have hnm := (name_of_methodNamed Bd.named Bd.method).1
  have X0 : Stand p l e own_RF3 s m #[(.ref o), (.int (3 : Int32)), (.int pa), (.int pb)] below meth c s₁ [] 0 0 := Stand.of_body Bd
  have e0 : s₁.heap = h0 := by rw [← hh, Bd.state]; rfl
  have N0 := Fr.nil n0
  refine own_in (fun _ k => castTop (own_efF3 m o pa pb) k) ?_
  intro RR hRR
  show own_Go p.tables e below RR (s₁.setTop (mkF m 0 #[.val (.ref o), .val (.int (3 : Int32)), .val (.int pa), .val (.int pb)] []))
  refine own_st (fun _ k => XS.aloadN X0.here hx rfl (hb hby own_dmethod_3_code_0) rfl rfl k) ?_
  show own_Go p.tables e below RR (s₁.setTop (mkF m 1 #[.val (.ref o), .val (.int (3 : Int32)), .val (.int pa), .val (.int pb)] [(.ref o)]))
  obtain ⟨T1, X1, e1, st1⟩ := getF X0 hx hZ hown (host := "") (Or.inl (hw _ (List.mem_of_getElem? (i := 21) rfl))) Via.refl e0 Fe (g := (mkF m 1 #[.val (.ref o), .val (.int (3 : Int32)), .val (.int pa), .val (.int pb)] [(.ref o)])) rfl rfl (hb hby own_dmethod_3_code_1)
  refine own_st st1 ?_
  show own_Go p.tables e below RR (T1.setTop (mkF m 4 #[.val (.ref o), .val (.int (3 : Int32)), .val (.int pa), .val (.int pb)] [(.ref ae)]))
  refine own_st (fun _ k => XS.iloadN X1.here hx rfl (hb hby own_dmethod_3_code_4) rfl (XS.iloadN X1.here hx rfl (hb hby own_dmethod_3_code_5) rfl (XS.iloadN X1.here hx rfl (hb hby own_dmethod_3_code_6) rfl (XS.iadd X1.here hx rfl (hb hby own_dmethod_3_code_7) rfl k)))) ?_
  show own_Go p.tables e below RR (T1.setTop (mkF m 8 #[.val (.ref o), .val (.int (3 : Int32)), .val (.int pa), .val (.int pb)] [(.int (pa + (3 : Int32))), (.int (3 : Int32)), (.ref ae)]))
  obtain ⟨c2, A2, q2, s2, m2, H2, G2⟩ := id Ve
  obtain ⟨T3, h3, X3, e3, W3, st3⟩ := stI X1 hx hZ e1 A2 (j := (3 : Int32)) (inb_of s2 ⟨by decide, by decide⟩) (g := (mkF m 8 #[.val (.ref o), .val (.int (3 : Int32)), .val (.int pa), .val (.int pb)] [(.int (pa + (3 : Int32))), (.int (3 : Int32)), (.ref ae)])) rfl rfl (hb hby own_dmethod_3_code_8)
  have V3 := Arv.set A2 q2 s2 m2 H2 G2 rfl W3 3 rfl (Nat.le_of_ble_eq_true rfl)
  have V3 : Arv Z h3 ae ke .int (9 : Int32) [ve0, ve1, ve2, (.int (pa + (3 : Int32))), ve4, ve5, ve6, ve7, ve8] (.int (0 : Int32)) := V3
  have N3 := Fr.snoc X3 N0 ge1
  refine own_st st3 ?_
  have z4 : n0 ≤ h3.size := Nat.le_trans Z0 (Keep.of_wr W3).1
  have kk5 : Keep h0 h3 [ae, ar] := (Keep.refl h0 [ae, ar]).wr W3 (Or.inl (List.mem_of_getElem? (i := 0) rfl))
  show own_Go p.tables e below RR (T3.setTop (mkF m 9 #[.val (.ref o), .val (.int (3 : Int32)), .val (.int pa), .val (.int pb)] []))
  refine own_st (fun _ k => XS.aloadN X3.here hx rfl (hb hby own_dmethod_3_code_9) rfl rfl k) ?_
  show own_Go p.tables e below RR (T3.setTop (mkF m 10 #[.val (.ref o), .val (.int (3 : Int32)), .val (.int pa), .val (.int pb)] [(.ref o)]))
  have f6 := (Frr.other W3 (Or.inl ne1))
  obtain ⟨T7, X7, e7, st7⟩ := getF X3 hx hZ hown (host := "") (Or.inl (hw _ (List.mem_of_getElem? (i := 22) rfl))) Via.refl e3 f6 (g := (mkF m 10 #[.val (.ref o), .val (.int (3 : Int32)), .val (.int pa), .val (.int pb)] [(.ref o)])) rfl rfl (hb hby own_dmethod_3_code_10)
  refine own_st st7 ?_
  show own_Go p.tables e below RR (T7.setTop (mkF m 13 #[.val (.ref o), .val (.int (3 : Int32)), .val (.int pa), .val (.int pb)] [(.ref ar)]))
  refine own_st (fun _ k => XS.iloadN X7.here hx rfl (hb hby own_dmethod_3_code_13) rfl (XS.iloadN X7.here hx rfl (hb hby own_dmethod_3_code_14) rfl (XS.iconst X7.here hx rfl (hb hby own_dmethod_3_code_15) (XS.iloadN X7.here hx rfl (hb hby own_dmethod_3_code_16) rfl (XS.imul X7.here hx rfl (hb hby own_dmethod_3_code_17) rfl (XS.isub X7.here hx rfl (hb hby own_dmethod_3_code_18) rfl k)))))) ?_
  show own_Go p.tables e below RR (T7.setTop (mkF m 19 #[.val (.ref o), .val (.int (3 : Int32)), .val (.int pa), .val (.int pb)] [(.int (pb - (9 : Int32))), (.int (3 : Int32)), (.ref ar)]))
  have f8 := (Vr.other W3 (Ne.symm ne3))
  obtain ⟨c9, A9, q9, s9, m9, H9, G9⟩ := id f8
  obtain ⟨T10, h10, X10, e10, W10, st10⟩ := stI X7 hx hZ e7 A9 (j := (3 : Int32)) (inb_of s9 ⟨by decide, by decide⟩) (g := (mkF m 19 #[.val (.ref o), .val (.int (3 : Int32)), .val (.int pa), .val (.int pb)] [(.int (pb - (9 : Int32))), (.int (3 : Int32)), (.ref ar)])) rfl rfl (hb hby own_dmethod_3_code_19)
  have V10 := Arv.set A9 q9 s9 m9 H9 G9 rfl W10 3 rfl (Nat.le_of_ble_eq_true rfl)
  have V10 : Arv Z h10 ar kr .int (9 : Int32) [vr0, vr1, vr2, (.int (pb - (9 : Int32))), vr4, vr5, vr6, vr7, vr8] (.int (0 : Int32)) := V10
  have N10 := Fr.snoc X10 N3 ge2
  refine own_st st10 ?_
  have z11 : n0 ≤ h10.size := Nat.le_trans z4 (Keep.of_wr W10).1
  have kk12 : Keep h0 h10 [ae, ar] := kk5.wr W10 (Or.inl (List.mem_of_getElem? (i := 1) rfl))
  show own_Go p.tables e below RR (T10.setTop (mkF m 20 #[.val (.ref o), .val (.int (3 : Int32)), .val (.int pa), .val (.int pb)] []))
  obtain ⟨fs, hrt_, hrun, hended, hW, hsame⟩ := X10.leave (v := none) (fun _ => rfl)
  refine own_fin (X10.returnOut hx Bd.returns (hb hby own_dmethod_3_code_20) hrt_) (hRR _ ⟨_, hrun, hended, _, _, rfl, ?_, ⟨_, rfl⟩, hW, hsame.mono (by decide) (by decide)⟩)
  show own_QF3 Z o pa pb ae ar ke kr ve0 ve1 ve2 ve3 ve4 ve5 ve6 ve7 ve8 vr0 vr1 vr2 vr3 vr4 vr5 vr6 vr7 vr8 h0 n0 _ T10.heap _
  rw [e10]
  have f13 := (V3.other W10 ne3)
  exact ⟨rfl, N10, kk12, f13, V10⟩
theorem own_efF4 (m : MethodId) (o : Addr) (pa : Int32) (pb : Int32) : entryFrame m #[(.ref o), (.int (4 : Int32)), (.int pa), (.int pb)] 4 = mkF m 0 #[.val (.ref o), .val (.int (4 : Int32)), .val (.int pa), .val (.int pb)] [] := by first | (simp [entryFrame, mkF, argsToLocals, Value.category]; done) | rfl
def own_QF4 (Z : State) (o : Addr) (pa : Int32) (pb : Int32) (ae : Addr) (ar : Addr) (ke : ClassId) (kr : ClassId) (ve0 : Value) (ve1 : Value) (ve2 : Value) (ve3 : Value) (ve4 : Value) (ve5 : Value) (ve6 : Value) (ve7 : Value) (ve8 : Value) (vr0 : Value) (vr1 : Value) (vr2 : Value) (vr3 : Value) (vr4 : Value) (vr5 : Value) (vr6 : Value) (vr7 : Value) (vr8 : Value) (h0 : Heap) (n0 : Nat) (v_ : Option Value) (h : Heap) (L_ : List Loc) : Prop := v_ = none ∧ Fr n0 L_ ∧ Keep h0 h [ae, ar] ∧ Arv Z h ae ke .int (9 : Int32) [ve0, ve1, ve2, ve3, (.int (pa + (4 : Int32))), ve5, ve6, ve7, ve8] (.int (0 : Int32)) ∧ Arv Z h ar kr .int (9 : Int32) [vr0, vr1, vr2, vr3, (.int (pb - (12 : Int32))), vr5, vr6, vr7, vr8] (.int (0 : Int32))
abbrev own_RF4 : Room := { frames := 0, cells := 0, slots := 0, locals := 0 }
set_option maxRecDepth 65536 in
set_option maxHeartbeats 40000000 in
theorem own_rmF4 (l : Launch) (Z : State) (a0 : Array Value) (hw : ∀ d ∈ tables_1, d.before a0 Z = true) (ws : List Jvm.Cond) (o : Addr) (pa : Int32) (pb : Int32) (ae : Addr) (ar : Addr) (ke : ClassId) (kr : ClassId) (ve0 : Value) (ve1 : Value) (ve2 : Value) (ve3 : Value) (ve4 : Value) (ve5 : Value) (ve6 : Value) (ve7 : Value) (ve8 : Value) (vr0 : Value) (vr1 : Value) (vr2 : Value) (vr3 : Value) (vr4 : Value) (vr5 : Value) (vr6 : Value) (vr7 : Value) (vr8 : Value) (h0 : Heap) (n0 : Nat) (Z0 : n0 ≤ h0.size) (Fe : Fld Z h0 o "com/example/shiftwise/shiftwise/search/ScanBlock" "ends" "[I" (.ref ae)) (Frr : Fld Z h0 o "com/example/shiftwise/shiftwise/search/ScanBlock" "reports" "[I" (.ref ar)) (Ve : Arv Z h0 ae ke .int (9 : Int32) [ve0, ve1, ve2, ve3, ve4, ve5, ve6, ve7, ve8] (.int (0 : Int32))) (Vr : Arv Z h0 ar kr .int (9 : Int32) [vr0, vr1, vr2, vr3, vr4, vr5, vr6, vr7, vr8] (.int (0 : Int32))) (ne1 : o ≠ ae) (ne2 : o ≠ ar) (ne3 : ae ≠ ar) (ge1 : n0 ≤ ae) (ge2 : n0 ≤ ar) :
    MetFree l (⟨"com/example/shiftwise/shiftwise/search/AutomatonMovesJoinLanesPinLaw", "fill", "(Lcom/example/shiftwise/shiftwise/search/ScanBlock;III)V"⟩ : MethodName) (head1 (Jvm.Cond.code (⟨"com/example/shiftwise/shiftwise/search/AutomatonMovesJoinLanesPinLaw", "fill", "(Lcom/example/shiftwise/shiftwise/search/ScanBlock;III)V"⟩ : MethodName) method_3_code 4 none :: ws) own_RF4) (fun a U => a = #[(.ref o), (.int (4 : Int32)), (.int pa), (.int pb)] ∧ Z.Warmed39 U.vm ∧ U.heap = h0) (fun _ _ _ _ _ => True) (fun _ U oc_ U' => ∃ v_ L_, oc_ = .returned v_ ∧ own_QF4 Z o pa pb ae ar ke kr ve0 ve1 ve2 ve3 ve4 ve5 ve6 ve7 ve8 vr0 vr1 vr2 vr3 vr4 vr5 vr6 vr7 vr8 h0 n0 v_ U'.heap L_ ∧ FrameEnd U oc_ U' L_ own_RF4.cells own_RF4.slots) := by
  refine MetFree.of_bodySF (plainFor_of_name own_pn_com_example_shiftwise_shiftwise_search_AutomatonMovesJoinLanesPinLaw) hisR ?_
  intro p e s m args below meth c s₁ Bd hml0 hP hK
  obtain ⟨rfl, hZ, hh⟩ := hP
  have hx := Bd.exec
  have hby := Bd.bytes
  have hml : c.maxLocals = 4 := hml0
  have hown : s.vm.findClass "com/example/shiftwise/shiftwise/search/AutomatonMovesJoinLanesPinLaw" = some m.cls := findClass_of_methodNamed Bd.named
  have hnm := (name_of_methodNamed Bd.named Bd.method).1
  have X0 : Stand p l e own_RF4 s m #[(.ref o), (.int (4 : Int32)), (.int pa), (.int pb)] below meth c s₁ [] 0 0 := Stand.of_body Bd
  have e0 : s₁.heap = h0 := by rw [← hh, Bd.state]; rfl
  have N0 := Fr.nil n0
  refine own_in (fun _ k => castTop (own_efF4 m o pa pb) k) ?_
  intro RR hRR
  show own_Go p.tables e below RR (s₁.setTop (mkF m 0 #[.val (.ref o), .val (.int (4 : Int32)), .val (.int pa), .val (.int pb)] []))
  refine own_st (fun _ k => XS.aloadN X0.here hx rfl (hb hby own_dmethod_3_code_0) rfl rfl k) ?_
  show own_Go p.tables e below RR (s₁.setTop (mkF m 1 #[.val (.ref o), .val (.int (4 : Int32)), .val (.int pa), .val (.int pb)] [(.ref o)]))
  obtain ⟨T1, X1, e1, st1⟩ := getF X0 hx hZ hown (host := "") (Or.inl (hw _ (List.mem_of_getElem? (i := 21) rfl))) Via.refl e0 Fe (g := (mkF m 1 #[.val (.ref o), .val (.int (4 : Int32)), .val (.int pa), .val (.int pb)] [(.ref o)])) rfl rfl (hb hby own_dmethod_3_code_1)
  refine own_st st1 ?_
  show own_Go p.tables e below RR (T1.setTop (mkF m 4 #[.val (.ref o), .val (.int (4 : Int32)), .val (.int pa), .val (.int pb)] [(.ref ae)]))
  refine own_st (fun _ k => XS.iloadN X1.here hx rfl (hb hby own_dmethod_3_code_4) rfl (XS.iloadN X1.here hx rfl (hb hby own_dmethod_3_code_5) rfl (XS.iloadN X1.here hx rfl (hb hby own_dmethod_3_code_6) rfl (XS.iadd X1.here hx rfl (hb hby own_dmethod_3_code_7) rfl k)))) ?_
  show own_Go p.tables e below RR (T1.setTop (mkF m 8 #[.val (.ref o), .val (.int (4 : Int32)), .val (.int pa), .val (.int pb)] [(.int (pa + (4 : Int32))), (.int (4 : Int32)), (.ref ae)]))
  obtain ⟨c2, A2, q2, s2, m2, H2, G2⟩ := id Ve
  obtain ⟨T3, h3, X3, e3, W3, st3⟩ := stI X1 hx hZ e1 A2 (j := (4 : Int32)) (inb_of s2 ⟨by decide, by decide⟩) (g := (mkF m 8 #[.val (.ref o), .val (.int (4 : Int32)), .val (.int pa), .val (.int pb)] [(.int (pa + (4 : Int32))), (.int (4 : Int32)), (.ref ae)])) rfl rfl (hb hby own_dmethod_3_code_8)
  have V3 := Arv.set A2 q2 s2 m2 H2 G2 rfl W3 4 rfl (Nat.le_of_ble_eq_true rfl)
  have V3 : Arv Z h3 ae ke .int (9 : Int32) [ve0, ve1, ve2, ve3, (.int (pa + (4 : Int32))), ve5, ve6, ve7, ve8] (.int (0 : Int32)) := V3
  have N3 := Fr.snoc X3 N0 ge1
  refine own_st st3 ?_
  have z4 : n0 ≤ h3.size := Nat.le_trans Z0 (Keep.of_wr W3).1
  have kk5 : Keep h0 h3 [ae, ar] := (Keep.refl h0 [ae, ar]).wr W3 (Or.inl (List.mem_of_getElem? (i := 0) rfl))
  show own_Go p.tables e below RR (T3.setTop (mkF m 9 #[.val (.ref o), .val (.int (4 : Int32)), .val (.int pa), .val (.int pb)] []))
  refine own_st (fun _ k => XS.aloadN X3.here hx rfl (hb hby own_dmethod_3_code_9) rfl rfl k) ?_
  show own_Go p.tables e below RR (T3.setTop (mkF m 10 #[.val (.ref o), .val (.int (4 : Int32)), .val (.int pa), .val (.int pb)] [(.ref o)]))
  have f6 := (Frr.other W3 (Or.inl ne1))
  obtain ⟨T7, X7, e7, st7⟩ := getF X3 hx hZ hown (host := "") (Or.inl (hw _ (List.mem_of_getElem? (i := 22) rfl))) Via.refl e3 f6 (g := (mkF m 10 #[.val (.ref o), .val (.int (4 : Int32)), .val (.int pa), .val (.int pb)] [(.ref o)])) rfl rfl (hb hby own_dmethod_3_code_10)
  refine own_st st7 ?_
  show own_Go p.tables e below RR (T7.setTop (mkF m 13 #[.val (.ref o), .val (.int (4 : Int32)), .val (.int pa), .val (.int pb)] [(.ref ar)]))
  refine own_st (fun _ k => XS.iloadN X7.here hx rfl (hb hby own_dmethod_3_code_13) rfl (XS.iloadN X7.here hx rfl (hb hby own_dmethod_3_code_14) rfl (XS.iconst X7.here hx rfl (hb hby own_dmethod_3_code_15) (XS.iloadN X7.here hx rfl (hb hby own_dmethod_3_code_16) rfl (XS.imul X7.here hx rfl (hb hby own_dmethod_3_code_17) rfl (XS.isub X7.here hx rfl (hb hby own_dmethod_3_code_18) rfl k)))))) ?_
  show own_Go p.tables e below RR (T7.setTop (mkF m 19 #[.val (.ref o), .val (.int (4 : Int32)), .val (.int pa), .val (.int pb)] [(.int (pb - (12 : Int32))), (.int (4 : Int32)), (.ref ar)]))
  have f8 := (Vr.other W3 (Ne.symm ne3))
  obtain ⟨c9, A9, q9, s9, m9, H9, G9⟩ := id f8
  obtain ⟨T10, h10, X10, e10, W10, st10⟩ := stI X7 hx hZ e7 A9 (j := (4 : Int32)) (inb_of s9 ⟨by decide, by decide⟩) (g := (mkF m 19 #[.val (.ref o), .val (.int (4 : Int32)), .val (.int pa), .val (.int pb)] [(.int (pb - (12 : Int32))), (.int (4 : Int32)), (.ref ar)])) rfl rfl (hb hby own_dmethod_3_code_19)
  have V10 := Arv.set A9 q9 s9 m9 H9 G9 rfl W10 4 rfl (Nat.le_of_ble_eq_true rfl)
  have V10 : Arv Z h10 ar kr .int (9 : Int32) [vr0, vr1, vr2, vr3, (.int (pb - (12 : Int32))), vr5, vr6, vr7, vr8] (.int (0 : Int32)) := V10
  have N10 := Fr.snoc X10 N3 ge2
  refine own_st st10 ?_
  have z11 : n0 ≤ h10.size := Nat.le_trans z4 (Keep.of_wr W10).1
  have kk12 : Keep h0 h10 [ae, ar] := kk5.wr W10 (Or.inl (List.mem_of_getElem? (i := 1) rfl))
  show own_Go p.tables e below RR (T10.setTop (mkF m 20 #[.val (.ref o), .val (.int (4 : Int32)), .val (.int pa), .val (.int pb)] []))
  obtain ⟨fs, hrt_, hrun, hended, hW, hsame⟩ := X10.leave (v := none) (fun _ => rfl)
  refine own_fin (X10.returnOut hx Bd.returns (hb hby own_dmethod_3_code_20) hrt_) (hRR _ ⟨_, hrun, hended, _, _, rfl, ?_, ⟨_, rfl⟩, hW, hsame.mono (by decide) (by decide)⟩)
  show own_QF4 Z o pa pb ae ar ke kr ve0 ve1 ve2 ve3 ve4 ve5 ve6 ve7 ve8 vr0 vr1 vr2 vr3 vr4 vr5 vr6 vr7 vr8 h0 n0 _ T10.heap _
  rw [e10]
  have f13 := (V3.other W10 ne3)
  exact ⟨rfl, N10, kk12, f13, V10⟩
theorem own_efF5 (m : MethodId) (o : Addr) (pa : Int32) (pb : Int32) : entryFrame m #[(.ref o), (.int (5 : Int32)), (.int pa), (.int pb)] 4 = mkF m 0 #[.val (.ref o), .val (.int (5 : Int32)), .val (.int pa), .val (.int pb)] [] := by first | (simp [entryFrame, mkF, argsToLocals, Value.category]; done) | rfl
def own_QF5 (Z : State) (o : Addr) (pa : Int32) (pb : Int32) (ae : Addr) (ar : Addr) (ke : ClassId) (kr : ClassId) (ve0 : Value) (ve1 : Value) (ve2 : Value) (ve3 : Value) (ve4 : Value) (ve5 : Value) (ve6 : Value) (ve7 : Value) (ve8 : Value) (vr0 : Value) (vr1 : Value) (vr2 : Value) (vr3 : Value) (vr4 : Value) (vr5 : Value) (vr6 : Value) (vr7 : Value) (vr8 : Value) (h0 : Heap) (n0 : Nat) (v_ : Option Value) (h : Heap) (L_ : List Loc) : Prop := v_ = none ∧ Fr n0 L_ ∧ Keep h0 h [ae, ar] ∧ Arv Z h ae ke .int (9 : Int32) [ve0, ve1, ve2, ve3, ve4, (.int (pa + (5 : Int32))), ve6, ve7, ve8] (.int (0 : Int32)) ∧ Arv Z h ar kr .int (9 : Int32) [vr0, vr1, vr2, vr3, vr4, (.int (pb - (15 : Int32))), vr6, vr7, vr8] (.int (0 : Int32))
abbrev own_RF5 : Room := { frames := 0, cells := 0, slots := 0, locals := 0 }
set_option maxRecDepth 65536 in
set_option maxHeartbeats 40000000 in
theorem own_rmF5 (l : Launch) (Z : State) (a0 : Array Value) (hw : ∀ d ∈ tables_1, d.before a0 Z = true) (ws : List Jvm.Cond) (o : Addr) (pa : Int32) (pb : Int32) (ae : Addr) (ar : Addr) (ke : ClassId) (kr : ClassId) (ve0 : Value) (ve1 : Value) (ve2 : Value) (ve3 : Value) (ve4 : Value) (ve5 : Value) (ve6 : Value) (ve7 : Value) (ve8 : Value) (vr0 : Value) (vr1 : Value) (vr2 : Value) (vr3 : Value) (vr4 : Value) (vr5 : Value) (vr6 : Value) (vr7 : Value) (vr8 : Value) (h0 : Heap) (n0 : Nat) (Z0 : n0 ≤ h0.size) (Fe : Fld Z h0 o "com/example/shiftwise/shiftwise/search/ScanBlock" "ends" "[I" (.ref ae)) (Frr : Fld Z h0 o "com/example/shiftwise/shiftwise/search/ScanBlock" "reports" "[I" (.ref ar)) (Ve : Arv Z h0 ae ke .int (9 : Int32) [ve0, ve1, ve2, ve3, ve4, ve5, ve6, ve7, ve8] (.int (0 : Int32))) (Vr : Arv Z h0 ar kr .int (9 : Int32) [vr0, vr1, vr2, vr3, vr4, vr5, vr6, vr7, vr8] (.int (0 : Int32))) (ne1 : o ≠ ae) (ne2 : o ≠ ar) (ne3 : ae ≠ ar) (ge1 : n0 ≤ ae) (ge2 : n0 ≤ ar) :
    MetFree l (⟨"com/example/shiftwise/shiftwise/search/AutomatonMovesJoinLanesPinLaw", "fill", "(Lcom/example/shiftwise/shiftwise/search/ScanBlock;III)V"⟩ : MethodName) (head1 (Jvm.Cond.code (⟨"com/example/shiftwise/shiftwise/search/AutomatonMovesJoinLanesPinLaw", "fill", "(Lcom/example/shiftwise/shiftwise/search/ScanBlock;III)V"⟩ : MethodName) method_3_code 4 none :: ws) own_RF5) (fun a U => a = #[(.ref o), (.int (5 : Int32)), (.int pa), (.int pb)] ∧ Z.Warmed39 U.vm ∧ U.heap = h0) (fun _ _ _ _ _ => True) (fun _ U oc_ U' => ∃ v_ L_, oc_ = .returned v_ ∧ own_QF5 Z o pa pb ae ar ke kr ve0 ve1 ve2 ve3 ve4 ve5 ve6 ve7 ve8 vr0 vr1 vr2 vr3 vr4 vr5 vr6 vr7 vr8 h0 n0 v_ U'.heap L_ ∧ FrameEnd U oc_ U' L_ own_RF5.cells own_RF5.slots) := by
  refine MetFree.of_bodySF (plainFor_of_name own_pn_com_example_shiftwise_shiftwise_search_AutomatonMovesJoinLanesPinLaw) hisR ?_
  intro p e s m args below meth c s₁ Bd hml0 hP hK
  obtain ⟨rfl, hZ, hh⟩ := hP
  have hx := Bd.exec
  have hby := Bd.bytes
  have hml : c.maxLocals = 4 := hml0
  have hown : s.vm.findClass "com/example/shiftwise/shiftwise/search/AutomatonMovesJoinLanesPinLaw" = some m.cls := findClass_of_methodNamed Bd.named
  have hnm := (name_of_methodNamed Bd.named Bd.method).1
  have X0 : Stand p l e own_RF5 s m #[(.ref o), (.int (5 : Int32)), (.int pa), (.int pb)] below meth c s₁ [] 0 0 := Stand.of_body Bd
  have e0 : s₁.heap = h0 := by rw [← hh, Bd.state]; rfl
  have N0 := Fr.nil n0
  refine own_in (fun _ k => castTop (own_efF5 m o pa pb) k) ?_
  intro RR hRR
  show own_Go p.tables e below RR (s₁.setTop (mkF m 0 #[.val (.ref o), .val (.int (5 : Int32)), .val (.int pa), .val (.int pb)] []))
  refine own_st (fun _ k => XS.aloadN X0.here hx rfl (hb hby own_dmethod_3_code_0) rfl rfl k) ?_
  show own_Go p.tables e below RR (s₁.setTop (mkF m 1 #[.val (.ref o), .val (.int (5 : Int32)), .val (.int pa), .val (.int pb)] [(.ref o)]))
  obtain ⟨T1, X1, e1, st1⟩ := getF X0 hx hZ hown (host := "") (Or.inl (hw _ (List.mem_of_getElem? (i := 21) rfl))) Via.refl e0 Fe (g := (mkF m 1 #[.val (.ref o), .val (.int (5 : Int32)), .val (.int pa), .val (.int pb)] [(.ref o)])) rfl rfl (hb hby own_dmethod_3_code_1)
  refine own_st st1 ?_
  show own_Go p.tables e below RR (T1.setTop (mkF m 4 #[.val (.ref o), .val (.int (5 : Int32)), .val (.int pa), .val (.int pb)] [(.ref ae)]))
  refine own_st (fun _ k => XS.iloadN X1.here hx rfl (hb hby own_dmethod_3_code_4) rfl (XS.iloadN X1.here hx rfl (hb hby own_dmethod_3_code_5) rfl (XS.iloadN X1.here hx rfl (hb hby own_dmethod_3_code_6) rfl (XS.iadd X1.here hx rfl (hb hby own_dmethod_3_code_7) rfl k)))) ?_
  show own_Go p.tables e below RR (T1.setTop (mkF m 8 #[.val (.ref o), .val (.int (5 : Int32)), .val (.int pa), .val (.int pb)] [(.int (pa + (5 : Int32))), (.int (5 : Int32)), (.ref ae)]))
  obtain ⟨c2, A2, q2, s2, m2, H2, G2⟩ := id Ve
  obtain ⟨T3, h3, X3, e3, W3, st3⟩ := stI X1 hx hZ e1 A2 (j := (5 : Int32)) (inb_of s2 ⟨by decide, by decide⟩) (g := (mkF m 8 #[.val (.ref o), .val (.int (5 : Int32)), .val (.int pa), .val (.int pb)] [(.int (pa + (5 : Int32))), (.int (5 : Int32)), (.ref ae)])) rfl rfl (hb hby own_dmethod_3_code_8)
  have V3 := Arv.set A2 q2 s2 m2 H2 G2 rfl W3 5 rfl (Nat.le_of_ble_eq_true rfl)
  have V3 : Arv Z h3 ae ke .int (9 : Int32) [ve0, ve1, ve2, ve3, ve4, (.int (pa + (5 : Int32))), ve6, ve7, ve8] (.int (0 : Int32)) := V3
  have N3 := Fr.snoc X3 N0 ge1
  refine own_st st3 ?_
  have z4 : n0 ≤ h3.size := Nat.le_trans Z0 (Keep.of_wr W3).1
  have kk5 : Keep h0 h3 [ae, ar] := (Keep.refl h0 [ae, ar]).wr W3 (Or.inl (List.mem_of_getElem? (i := 0) rfl))
  show own_Go p.tables e below RR (T3.setTop (mkF m 9 #[.val (.ref o), .val (.int (5 : Int32)), .val (.int pa), .val (.int pb)] []))
  refine own_st (fun _ k => XS.aloadN X3.here hx rfl (hb hby own_dmethod_3_code_9) rfl rfl k) ?_
  show own_Go p.tables e below RR (T3.setTop (mkF m 10 #[.val (.ref o), .val (.int (5 : Int32)), .val (.int pa), .val (.int pb)] [(.ref o)]))
  have f6 := (Frr.other W3 (Or.inl ne1))
  obtain ⟨T7, X7, e7, st7⟩ := getF X3 hx hZ hown (host := "") (Or.inl (hw _ (List.mem_of_getElem? (i := 22) rfl))) Via.refl e3 f6 (g := (mkF m 10 #[.val (.ref o), .val (.int (5 : Int32)), .val (.int pa), .val (.int pb)] [(.ref o)])) rfl rfl (hb hby own_dmethod_3_code_10)
  refine own_st st7 ?_
  show own_Go p.tables e below RR (T7.setTop (mkF m 13 #[.val (.ref o), .val (.int (5 : Int32)), .val (.int pa), .val (.int pb)] [(.ref ar)]))
  refine own_st (fun _ k => XS.iloadN X7.here hx rfl (hb hby own_dmethod_3_code_13) rfl (XS.iloadN X7.here hx rfl (hb hby own_dmethod_3_code_14) rfl (XS.iconst X7.here hx rfl (hb hby own_dmethod_3_code_15) (XS.iloadN X7.here hx rfl (hb hby own_dmethod_3_code_16) rfl (XS.imul X7.here hx rfl (hb hby own_dmethod_3_code_17) rfl (XS.isub X7.here hx rfl (hb hby own_dmethod_3_code_18) rfl k)))))) ?_
  show own_Go p.tables e below RR (T7.setTop (mkF m 19 #[.val (.ref o), .val (.int (5 : Int32)), .val (.int pa), .val (.int pb)] [(.int (pb - (15 : Int32))), (.int (5 : Int32)), (.ref ar)]))
  have f8 := (Vr.other W3 (Ne.symm ne3))
  obtain ⟨c9, A9, q9, s9, m9, H9, G9⟩ := id f8
  obtain ⟨T10, h10, X10, e10, W10, st10⟩ := stI X7 hx hZ e7 A9 (j := (5 : Int32)) (inb_of s9 ⟨by decide, by decide⟩) (g := (mkF m 19 #[.val (.ref o), .val (.int (5 : Int32)), .val (.int pa), .val (.int pb)] [(.int (pb - (15 : Int32))), (.int (5 : Int32)), (.ref ar)])) rfl rfl (hb hby own_dmethod_3_code_19)
  have V10 := Arv.set A9 q9 s9 m9 H9 G9 rfl W10 5 rfl (Nat.le_of_ble_eq_true rfl)
  have V10 : Arv Z h10 ar kr .int (9 : Int32) [vr0, vr1, vr2, vr3, vr4, (.int (pb - (15 : Int32))), vr6, vr7, vr8] (.int (0 : Int32)) := V10
  have N10 := Fr.snoc X10 N3 ge2
  refine own_st st10 ?_
  have z11 : n0 ≤ h10.size := Nat.le_trans z4 (Keep.of_wr W10).1
  have kk12 : Keep h0 h10 [ae, ar] := kk5.wr W10 (Or.inl (List.mem_of_getElem? (i := 1) rfl))
  show own_Go p.tables e below RR (T10.setTop (mkF m 20 #[.val (.ref o), .val (.int (5 : Int32)), .val (.int pa), .val (.int pb)] []))
  obtain ⟨fs, hrt_, hrun, hended, hW, hsame⟩ := X10.leave (v := none) (fun _ => rfl)
  refine own_fin (X10.returnOut hx Bd.returns (hb hby own_dmethod_3_code_20) hrt_) (hRR _ ⟨_, hrun, hended, _, _, rfl, ?_, ⟨_, rfl⟩, hW, hsame.mono (by decide) (by decide)⟩)
  show own_QF5 Z o pa pb ae ar ke kr ve0 ve1 ve2 ve3 ve4 ve5 ve6 ve7 ve8 vr0 vr1 vr2 vr3 vr4 vr5 vr6 vr7 vr8 h0 n0 _ T10.heap _
  rw [e10]
  have f13 := (V3.other W10 ne3)
  exact ⟨rfl, N10, kk12, f13, V10⟩
theorem own_efF6 (m : MethodId) (o : Addr) (pa : Int32) (pb : Int32) : entryFrame m #[(.ref o), (.int (6 : Int32)), (.int pa), (.int pb)] 4 = mkF m 0 #[.val (.ref o), .val (.int (6 : Int32)), .val (.int pa), .val (.int pb)] [] := by first | (simp [entryFrame, mkF, argsToLocals, Value.category]; done) | rfl
def own_QF6 (Z : State) (o : Addr) (pa : Int32) (pb : Int32) (ae : Addr) (ar : Addr) (ke : ClassId) (kr : ClassId) (ve0 : Value) (ve1 : Value) (ve2 : Value) (ve3 : Value) (ve4 : Value) (ve5 : Value) (ve6 : Value) (ve7 : Value) (ve8 : Value) (vr0 : Value) (vr1 : Value) (vr2 : Value) (vr3 : Value) (vr4 : Value) (vr5 : Value) (vr6 : Value) (vr7 : Value) (vr8 : Value) (h0 : Heap) (n0 : Nat) (v_ : Option Value) (h : Heap) (L_ : List Loc) : Prop := v_ = none ∧ Fr n0 L_ ∧ Keep h0 h [ae, ar] ∧ Arv Z h ae ke .int (9 : Int32) [ve0, ve1, ve2, ve3, ve4, ve5, (.int (pa + (6 : Int32))), ve7, ve8] (.int (0 : Int32)) ∧ Arv Z h ar kr .int (9 : Int32) [vr0, vr1, vr2, vr3, vr4, vr5, (.int (pb - (18 : Int32))), vr7, vr8] (.int (0 : Int32))
abbrev own_RF6 : Room := { frames := 0, cells := 0, slots := 0, locals := 0 }
set_option maxRecDepth 65536 in
set_option maxHeartbeats 40000000 in
theorem own_rmF6 (l : Launch) (Z : State) (a0 : Array Value) (hw : ∀ d ∈ tables_1, d.before a0 Z = true) (ws : List Jvm.Cond) (o : Addr) (pa : Int32) (pb : Int32) (ae : Addr) (ar : Addr) (ke : ClassId) (kr : ClassId) (ve0 : Value) (ve1 : Value) (ve2 : Value) (ve3 : Value) (ve4 : Value) (ve5 : Value) (ve6 : Value) (ve7 : Value) (ve8 : Value) (vr0 : Value) (vr1 : Value) (vr2 : Value) (vr3 : Value) (vr4 : Value) (vr5 : Value) (vr6 : Value) (vr7 : Value) (vr8 : Value) (h0 : Heap) (n0 : Nat) (Z0 : n0 ≤ h0.size) (Fe : Fld Z h0 o "com/example/shiftwise/shiftwise/search/ScanBlock" "ends" "[I" (.ref ae)) (Frr : Fld Z h0 o "com/example/shiftwise/shiftwise/search/ScanBlock" "reports" "[I" (.ref ar)) (Ve : Arv Z h0 ae ke .int (9 : Int32) [ve0, ve1, ve2, ve3, ve4, ve5, ve6, ve7, ve8] (.int (0 : Int32))) (Vr : Arv Z h0 ar kr .int (9 : Int32) [vr0, vr1, vr2, vr3, vr4, vr5, vr6, vr7, vr8] (.int (0 : Int32))) (ne1 : o ≠ ae) (ne2 : o ≠ ar) (ne3 : ae ≠ ar) (ge1 : n0 ≤ ae) (ge2 : n0 ≤ ar) :
    MetFree l (⟨"com/example/shiftwise/shiftwise/search/AutomatonMovesJoinLanesPinLaw", "fill", "(Lcom/example/shiftwise/shiftwise/search/ScanBlock;III)V"⟩ : MethodName) (head1 (Jvm.Cond.code (⟨"com/example/shiftwise/shiftwise/search/AutomatonMovesJoinLanesPinLaw", "fill", "(Lcom/example/shiftwise/shiftwise/search/ScanBlock;III)V"⟩ : MethodName) method_3_code 4 none :: ws) own_RF6) (fun a U => a = #[(.ref o), (.int (6 : Int32)), (.int pa), (.int pb)] ∧ Z.Warmed39 U.vm ∧ U.heap = h0) (fun _ _ _ _ _ => True) (fun _ U oc_ U' => ∃ v_ L_, oc_ = .returned v_ ∧ own_QF6 Z o pa pb ae ar ke kr ve0 ve1 ve2 ve3 ve4 ve5 ve6 ve7 ve8 vr0 vr1 vr2 vr3 vr4 vr5 vr6 vr7 vr8 h0 n0 v_ U'.heap L_ ∧ FrameEnd U oc_ U' L_ own_RF6.cells own_RF6.slots) := by
  refine MetFree.of_bodySF (plainFor_of_name own_pn_com_example_shiftwise_shiftwise_search_AutomatonMovesJoinLanesPinLaw) hisR ?_
  intro p e s m args below meth c s₁ Bd hml0 hP hK
  obtain ⟨rfl, hZ, hh⟩ := hP
  have hx := Bd.exec
  have hby := Bd.bytes
  have hml : c.maxLocals = 4 := hml0
  have hown : s.vm.findClass "com/example/shiftwise/shiftwise/search/AutomatonMovesJoinLanesPinLaw" = some m.cls := findClass_of_methodNamed Bd.named
  have hnm := (name_of_methodNamed Bd.named Bd.method).1
  have X0 : Stand p l e own_RF6 s m #[(.ref o), (.int (6 : Int32)), (.int pa), (.int pb)] below meth c s₁ [] 0 0 := Stand.of_body Bd
  have e0 : s₁.heap = h0 := by rw [← hh, Bd.state]; rfl
  have N0 := Fr.nil n0
  refine own_in (fun _ k => castTop (own_efF6 m o pa pb) k) ?_
  intro RR hRR
  show own_Go p.tables e below RR (s₁.setTop (mkF m 0 #[.val (.ref o), .val (.int (6 : Int32)), .val (.int pa), .val (.int pb)] []))
  refine own_st (fun _ k => XS.aloadN X0.here hx rfl (hb hby own_dmethod_3_code_0) rfl rfl k) ?_
  show own_Go p.tables e below RR (s₁.setTop (mkF m 1 #[.val (.ref o), .val (.int (6 : Int32)), .val (.int pa), .val (.int pb)] [(.ref o)]))
  obtain ⟨T1, X1, e1, st1⟩ := getF X0 hx hZ hown (host := "") (Or.inl (hw _ (List.mem_of_getElem? (i := 21) rfl))) Via.refl e0 Fe (g := (mkF m 1 #[.val (.ref o), .val (.int (6 : Int32)), .val (.int pa), .val (.int pb)] [(.ref o)])) rfl rfl (hb hby own_dmethod_3_code_1)
  refine own_st st1 ?_
  show own_Go p.tables e below RR (T1.setTop (mkF m 4 #[.val (.ref o), .val (.int (6 : Int32)), .val (.int pa), .val (.int pb)] [(.ref ae)]))
  refine own_st (fun _ k => XS.iloadN X1.here hx rfl (hb hby own_dmethod_3_code_4) rfl (XS.iloadN X1.here hx rfl (hb hby own_dmethod_3_code_5) rfl (XS.iloadN X1.here hx rfl (hb hby own_dmethod_3_code_6) rfl (XS.iadd X1.here hx rfl (hb hby own_dmethod_3_code_7) rfl k)))) ?_
  show own_Go p.tables e below RR (T1.setTop (mkF m 8 #[.val (.ref o), .val (.int (6 : Int32)), .val (.int pa), .val (.int pb)] [(.int (pa + (6 : Int32))), (.int (6 : Int32)), (.ref ae)]))
  obtain ⟨c2, A2, q2, s2, m2, H2, G2⟩ := id Ve
  obtain ⟨T3, h3, X3, e3, W3, st3⟩ := stI X1 hx hZ e1 A2 (j := (6 : Int32)) (inb_of s2 ⟨by decide, by decide⟩) (g := (mkF m 8 #[.val (.ref o), .val (.int (6 : Int32)), .val (.int pa), .val (.int pb)] [(.int (pa + (6 : Int32))), (.int (6 : Int32)), (.ref ae)])) rfl rfl (hb hby own_dmethod_3_code_8)
  have V3 := Arv.set A2 q2 s2 m2 H2 G2 rfl W3 6 rfl (Nat.le_of_ble_eq_true rfl)
  have V3 : Arv Z h3 ae ke .int (9 : Int32) [ve0, ve1, ve2, ve3, ve4, ve5, (.int (pa + (6 : Int32))), ve7, ve8] (.int (0 : Int32)) := V3
  have N3 := Fr.snoc X3 N0 ge1
  refine own_st st3 ?_
  have z4 : n0 ≤ h3.size := Nat.le_trans Z0 (Keep.of_wr W3).1
  have kk5 : Keep h0 h3 [ae, ar] := (Keep.refl h0 [ae, ar]).wr W3 (Or.inl (List.mem_of_getElem? (i := 0) rfl))
  show own_Go p.tables e below RR (T3.setTop (mkF m 9 #[.val (.ref o), .val (.int (6 : Int32)), .val (.int pa), .val (.int pb)] []))
  refine own_st (fun _ k => XS.aloadN X3.here hx rfl (hb hby own_dmethod_3_code_9) rfl rfl k) ?_
  show own_Go p.tables e below RR (T3.setTop (mkF m 10 #[.val (.ref o), .val (.int (6 : Int32)), .val (.int pa), .val (.int pb)] [(.ref o)]))
  have f6 := (Frr.other W3 (Or.inl ne1))
  obtain ⟨T7, X7, e7, st7⟩ := getF X3 hx hZ hown (host := "") (Or.inl (hw _ (List.mem_of_getElem? (i := 22) rfl))) Via.refl e3 f6 (g := (mkF m 10 #[.val (.ref o), .val (.int (6 : Int32)), .val (.int pa), .val (.int pb)] [(.ref o)])) rfl rfl (hb hby own_dmethod_3_code_10)
  refine own_st st7 ?_
  show own_Go p.tables e below RR (T7.setTop (mkF m 13 #[.val (.ref o), .val (.int (6 : Int32)), .val (.int pa), .val (.int pb)] [(.ref ar)]))
  refine own_st (fun _ k => XS.iloadN X7.here hx rfl (hb hby own_dmethod_3_code_13) rfl (XS.iloadN X7.here hx rfl (hb hby own_dmethod_3_code_14) rfl (XS.iconst X7.here hx rfl (hb hby own_dmethod_3_code_15) (XS.iloadN X7.here hx rfl (hb hby own_dmethod_3_code_16) rfl (XS.imul X7.here hx rfl (hb hby own_dmethod_3_code_17) rfl (XS.isub X7.here hx rfl (hb hby own_dmethod_3_code_18) rfl k)))))) ?_
  show own_Go p.tables e below RR (T7.setTop (mkF m 19 #[.val (.ref o), .val (.int (6 : Int32)), .val (.int pa), .val (.int pb)] [(.int (pb - (18 : Int32))), (.int (6 : Int32)), (.ref ar)]))
  have f8 := (Vr.other W3 (Ne.symm ne3))
  obtain ⟨c9, A9, q9, s9, m9, H9, G9⟩ := id f8
  obtain ⟨T10, h10, X10, e10, W10, st10⟩ := stI X7 hx hZ e7 A9 (j := (6 : Int32)) (inb_of s9 ⟨by decide, by decide⟩) (g := (mkF m 19 #[.val (.ref o), .val (.int (6 : Int32)), .val (.int pa), .val (.int pb)] [(.int (pb - (18 : Int32))), (.int (6 : Int32)), (.ref ar)])) rfl rfl (hb hby own_dmethod_3_code_19)
  have V10 := Arv.set A9 q9 s9 m9 H9 G9 rfl W10 6 rfl (Nat.le_of_ble_eq_true rfl)
  have V10 : Arv Z h10 ar kr .int (9 : Int32) [vr0, vr1, vr2, vr3, vr4, vr5, (.int (pb - (18 : Int32))), vr7, vr8] (.int (0 : Int32)) := V10
  have N10 := Fr.snoc X10 N3 ge2
  refine own_st st10 ?_
  have z11 : n0 ≤ h10.size := Nat.le_trans z4 (Keep.of_wr W10).1
  have kk12 : Keep h0 h10 [ae, ar] := kk5.wr W10 (Or.inl (List.mem_of_getElem? (i := 1) rfl))
  show own_Go p.tables e below RR (T10.setTop (mkF m 20 #[.val (.ref o), .val (.int (6 : Int32)), .val (.int pa), .val (.int pb)] []))
  obtain ⟨fs, hrt_, hrun, hended, hW, hsame⟩ := X10.leave (v := none) (fun _ => rfl)
  refine own_fin (X10.returnOut hx Bd.returns (hb hby own_dmethod_3_code_20) hrt_) (hRR _ ⟨_, hrun, hended, _, _, rfl, ?_, ⟨_, rfl⟩, hW, hsame.mono (by decide) (by decide)⟩)
  show own_QF6 Z o pa pb ae ar ke kr ve0 ve1 ve2 ve3 ve4 ve5 ve6 ve7 ve8 vr0 vr1 vr2 vr3 vr4 vr5 vr6 vr7 vr8 h0 n0 _ T10.heap _
  rw [e10]
  have f13 := (V3.other W10 ne3)
  exact ⟨rfl, N10, kk12, f13, V10⟩
theorem own_efF7 (m : MethodId) (o : Addr) (pa : Int32) (pb : Int32) : entryFrame m #[(.ref o), (.int (7 : Int32)), (.int pa), (.int pb)] 4 = mkF m 0 #[.val (.ref o), .val (.int (7 : Int32)), .val (.int pa), .val (.int pb)] [] := by first | (simp [entryFrame, mkF, argsToLocals, Value.category]; done) | rfl
def own_QF7 (Z : State) (o : Addr) (pa : Int32) (pb : Int32) (ae : Addr) (ar : Addr) (ke : ClassId) (kr : ClassId) (ve0 : Value) (ve1 : Value) (ve2 : Value) (ve3 : Value) (ve4 : Value) (ve5 : Value) (ve6 : Value) (ve7 : Value) (ve8 : Value) (vr0 : Value) (vr1 : Value) (vr2 : Value) (vr3 : Value) (vr4 : Value) (vr5 : Value) (vr6 : Value) (vr7 : Value) (vr8 : Value) (h0 : Heap) (n0 : Nat) (v_ : Option Value) (h : Heap) (L_ : List Loc) : Prop := v_ = none ∧ Fr n0 L_ ∧ Keep h0 h [ae, ar] ∧ Arv Z h ae ke .int (9 : Int32) [ve0, ve1, ve2, ve3, ve4, ve5, ve6, (.int (pa + (7 : Int32))), ve8] (.int (0 : Int32)) ∧ Arv Z h ar kr .int (9 : Int32) [vr0, vr1, vr2, vr3, vr4, vr5, vr6, (.int (pb - (21 : Int32))), vr8] (.int (0 : Int32))
abbrev own_RF7 : Room := { frames := 0, cells := 0, slots := 0, locals := 0 }
set_option maxRecDepth 65536 in
set_option maxHeartbeats 40000000 in
theorem own_rmF7 (l : Launch) (Z : State) (a0 : Array Value) (hw : ∀ d ∈ tables_1, d.before a0 Z = true) (ws : List Jvm.Cond) (o : Addr) (pa : Int32) (pb : Int32) (ae : Addr) (ar : Addr) (ke : ClassId) (kr : ClassId) (ve0 : Value) (ve1 : Value) (ve2 : Value) (ve3 : Value) (ve4 : Value) (ve5 : Value) (ve6 : Value) (ve7 : Value) (ve8 : Value) (vr0 : Value) (vr1 : Value) (vr2 : Value) (vr3 : Value) (vr4 : Value) (vr5 : Value) (vr6 : Value) (vr7 : Value) (vr8 : Value) (h0 : Heap) (n0 : Nat) (Z0 : n0 ≤ h0.size) (Fe : Fld Z h0 o "com/example/shiftwise/shiftwise/search/ScanBlock" "ends" "[I" (.ref ae)) (Frr : Fld Z h0 o "com/example/shiftwise/shiftwise/search/ScanBlock" "reports" "[I" (.ref ar)) (Ve : Arv Z h0 ae ke .int (9 : Int32) [ve0, ve1, ve2, ve3, ve4, ve5, ve6, ve7, ve8] (.int (0 : Int32))) (Vr : Arv Z h0 ar kr .int (9 : Int32) [vr0, vr1, vr2, vr3, vr4, vr5, vr6, vr7, vr8] (.int (0 : Int32))) (ne1 : o ≠ ae) (ne2 : o ≠ ar) (ne3 : ae ≠ ar) (ge1 : n0 ≤ ae) (ge2 : n0 ≤ ar) :
    MetFree l (⟨"com/example/shiftwise/shiftwise/search/AutomatonMovesJoinLanesPinLaw", "fill", "(Lcom/example/shiftwise/shiftwise/search/ScanBlock;III)V"⟩ : MethodName) (head1 (Jvm.Cond.code (⟨"com/example/shiftwise/shiftwise/search/AutomatonMovesJoinLanesPinLaw", "fill", "(Lcom/example/shiftwise/shiftwise/search/ScanBlock;III)V"⟩ : MethodName) method_3_code 4 none :: ws) own_RF7) (fun a U => a = #[(.ref o), (.int (7 : Int32)), (.int pa), (.int pb)] ∧ Z.Warmed39 U.vm ∧ U.heap = h0) (fun _ _ _ _ _ => True) (fun _ U oc_ U' => ∃ v_ L_, oc_ = .returned v_ ∧ own_QF7 Z o pa pb ae ar ke kr ve0 ve1 ve2 ve3 ve4 ve5 ve6 ve7 ve8 vr0 vr1 vr2 vr3 vr4 vr5 vr6 vr7 vr8 h0 n0 v_ U'.heap L_ ∧ FrameEnd U oc_ U' L_ own_RF7.cells own_RF7.slots) := by
  refine MetFree.of_bodySF (plainFor_of_name own_pn_com_example_shiftwise_shiftwise_search_AutomatonMovesJoinLanesPinLaw) hisR ?_
  intro p e s m args below meth c s₁ Bd hml0 hP hK
  obtain ⟨rfl, hZ, hh⟩ := hP
  have hx := Bd.exec
  have hby := Bd.bytes
  have hml : c.maxLocals = 4 := hml0
  have hown : s.vm.findClass "com/example/shiftwise/shiftwise/search/AutomatonMovesJoinLanesPinLaw" = some m.cls := findClass_of_methodNamed Bd.named
  have hnm := (name_of_methodNamed Bd.named Bd.method).1
  have X0 : Stand p l e own_RF7 s m #[(.ref o), (.int (7 : Int32)), (.int pa), (.int pb)] below meth c s₁ [] 0 0 := Stand.of_body Bd
  have e0 : s₁.heap = h0 := by rw [← hh, Bd.state]; rfl
  have N0 := Fr.nil n0
  refine own_in (fun _ k => castTop (own_efF7 m o pa pb) k) ?_
  intro RR hRR
  show own_Go p.tables e below RR (s₁.setTop (mkF m 0 #[.val (.ref o), .val (.int (7 : Int32)), .val (.int pa), .val (.int pb)] []))
  refine own_st (fun _ k => XS.aloadN X0.here hx rfl (hb hby own_dmethod_3_code_0) rfl rfl k) ?_
  show own_Go p.tables e below RR (s₁.setTop (mkF m 1 #[.val (.ref o), .val (.int (7 : Int32)), .val (.int pa), .val (.int pb)] [(.ref o)]))
  obtain ⟨T1, X1, e1, st1⟩ := getF X0 hx hZ hown (host := "") (Or.inl (hw _ (List.mem_of_getElem? (i := 21) rfl))) Via.refl e0 Fe (g := (mkF m 1 #[.val (.ref o), .val (.int (7 : Int32)), .val (.int pa), .val (.int pb)] [(.ref o)])) rfl rfl (hb hby own_dmethod_3_code_1)
  refine own_st st1 ?_
  show own_Go p.tables e below RR (T1.setTop (mkF m 4 #[.val (.ref o), .val (.int (7 : Int32)), .val (.int pa), .val (.int pb)] [(.ref ae)]))
  refine own_st (fun _ k => XS.iloadN X1.here hx rfl (hb hby own_dmethod_3_code_4) rfl (XS.iloadN X1.here hx rfl (hb hby own_dmethod_3_code_5) rfl (XS.iloadN X1.here hx rfl (hb hby own_dmethod_3_code_6) rfl (XS.iadd X1.here hx rfl (hb hby own_dmethod_3_code_7) rfl k)))) ?_
  show own_Go p.tables e below RR (T1.setTop (mkF m 8 #[.val (.ref o), .val (.int (7 : Int32)), .val (.int pa), .val (.int pb)] [(.int (pa + (7 : Int32))), (.int (7 : Int32)), (.ref ae)]))
  obtain ⟨c2, A2, q2, s2, m2, H2, G2⟩ := id Ve
  obtain ⟨T3, h3, X3, e3, W3, st3⟩ := stI X1 hx hZ e1 A2 (j := (7 : Int32)) (inb_of s2 ⟨by decide, by decide⟩) (g := (mkF m 8 #[.val (.ref o), .val (.int (7 : Int32)), .val (.int pa), .val (.int pb)] [(.int (pa + (7 : Int32))), (.int (7 : Int32)), (.ref ae)])) rfl rfl (hb hby own_dmethod_3_code_8)
  have V3 := Arv.set A2 q2 s2 m2 H2 G2 rfl W3 7 rfl (Nat.le_of_ble_eq_true rfl)
  have V3 : Arv Z h3 ae ke .int (9 : Int32) [ve0, ve1, ve2, ve3, ve4, ve5, ve6, (.int (pa + (7 : Int32))), ve8] (.int (0 : Int32)) := V3
  have N3 := Fr.snoc X3 N0 ge1
  refine own_st st3 ?_
  have z4 : n0 ≤ h3.size := Nat.le_trans Z0 (Keep.of_wr W3).1
  have kk5 : Keep h0 h3 [ae, ar] := (Keep.refl h0 [ae, ar]).wr W3 (Or.inl (List.mem_of_getElem? (i := 0) rfl))
  show own_Go p.tables e below RR (T3.setTop (mkF m 9 #[.val (.ref o), .val (.int (7 : Int32)), .val (.int pa), .val (.int pb)] []))
  refine own_st (fun _ k => XS.aloadN X3.here hx rfl (hb hby own_dmethod_3_code_9) rfl rfl k) ?_
  show own_Go p.tables e below RR (T3.setTop (mkF m 10 #[.val (.ref o), .val (.int (7 : Int32)), .val (.int pa), .val (.int pb)] [(.ref o)]))
  have f6 := (Frr.other W3 (Or.inl ne1))
  obtain ⟨T7, X7, e7, st7⟩ := getF X3 hx hZ hown (host := "") (Or.inl (hw _ (List.mem_of_getElem? (i := 22) rfl))) Via.refl e3 f6 (g := (mkF m 10 #[.val (.ref o), .val (.int (7 : Int32)), .val (.int pa), .val (.int pb)] [(.ref o)])) rfl rfl (hb hby own_dmethod_3_code_10)
  refine own_st st7 ?_
  show own_Go p.tables e below RR (T7.setTop (mkF m 13 #[.val (.ref o), .val (.int (7 : Int32)), .val (.int pa), .val (.int pb)] [(.ref ar)]))
  refine own_st (fun _ k => XS.iloadN X7.here hx rfl (hb hby own_dmethod_3_code_13) rfl (XS.iloadN X7.here hx rfl (hb hby own_dmethod_3_code_14) rfl (XS.iconst X7.here hx rfl (hb hby own_dmethod_3_code_15) (XS.iloadN X7.here hx rfl (hb hby own_dmethod_3_code_16) rfl (XS.imul X7.here hx rfl (hb hby own_dmethod_3_code_17) rfl (XS.isub X7.here hx rfl (hb hby own_dmethod_3_code_18) rfl k)))))) ?_
  show own_Go p.tables e below RR (T7.setTop (mkF m 19 #[.val (.ref o), .val (.int (7 : Int32)), .val (.int pa), .val (.int pb)] [(.int (pb - (21 : Int32))), (.int (7 : Int32)), (.ref ar)]))
  have f8 := (Vr.other W3 (Ne.symm ne3))
  obtain ⟨c9, A9, q9, s9, m9, H9, G9⟩ := id f8
  obtain ⟨T10, h10, X10, e10, W10, st10⟩ := stI X7 hx hZ e7 A9 (j := (7 : Int32)) (inb_of s9 ⟨by decide, by decide⟩) (g := (mkF m 19 #[.val (.ref o), .val (.int (7 : Int32)), .val (.int pa), .val (.int pb)] [(.int (pb - (21 : Int32))), (.int (7 : Int32)), (.ref ar)])) rfl rfl (hb hby own_dmethod_3_code_19)
  have V10 := Arv.set A9 q9 s9 m9 H9 G9 rfl W10 7 rfl (Nat.le_of_ble_eq_true rfl)
  have V10 : Arv Z h10 ar kr .int (9 : Int32) [vr0, vr1, vr2, vr3, vr4, vr5, vr6, (.int (pb - (21 : Int32))), vr8] (.int (0 : Int32)) := V10
  have N10 := Fr.snoc X10 N3 ge2
  refine own_st st10 ?_
  have z11 : n0 ≤ h10.size := Nat.le_trans z4 (Keep.of_wr W10).1
  have kk12 : Keep h0 h10 [ae, ar] := kk5.wr W10 (Or.inl (List.mem_of_getElem? (i := 1) rfl))
  show own_Go p.tables e below RR (T10.setTop (mkF m 20 #[.val (.ref o), .val (.int (7 : Int32)), .val (.int pa), .val (.int pb)] []))
  obtain ⟨fs, hrt_, hrun, hended, hW, hsame⟩ := X10.leave (v := none) (fun _ => rfl)
  refine own_fin (X10.returnOut hx Bd.returns (hb hby own_dmethod_3_code_20) hrt_) (hRR _ ⟨_, hrun, hended, _, _, rfl, ?_, ⟨_, rfl⟩, hW, hsame.mono (by decide) (by decide)⟩)
  show own_QF7 Z o pa pb ae ar ke kr ve0 ve1 ve2 ve3 ve4 ve5 ve6 ve7 ve8 vr0 vr1 vr2 vr3 vr4 vr5 vr6 vr7 vr8 h0 n0 _ T10.heap _
  rw [e10]
  have f13 := (V3.other W10 ne3)
  exact ⟨rfl, N10, kk12, f13, V10⟩
theorem own_efF8 (m : MethodId) (o : Addr) (pa : Int32) (pb : Int32) : entryFrame m #[(.ref o), (.int (8 : Int32)), (.int pa), (.int pb)] 4 = mkF m 0 #[.val (.ref o), .val (.int (8 : Int32)), .val (.int pa), .val (.int pb)] [] := by first | (simp [entryFrame, mkF, argsToLocals, Value.category]; done) | rfl
def own_QF8 (Z : State) (o : Addr) (pa : Int32) (pb : Int32) (ae : Addr) (ar : Addr) (ke : ClassId) (kr : ClassId) (ve0 : Value) (ve1 : Value) (ve2 : Value) (ve3 : Value) (ve4 : Value) (ve5 : Value) (ve6 : Value) (ve7 : Value) (ve8 : Value) (vr0 : Value) (vr1 : Value) (vr2 : Value) (vr3 : Value) (vr4 : Value) (vr5 : Value) (vr6 : Value) (vr7 : Value) (vr8 : Value) (h0 : Heap) (n0 : Nat) (v_ : Option Value) (h : Heap) (L_ : List Loc) : Prop := v_ = none ∧ Fr n0 L_ ∧ Keep h0 h [ae, ar] ∧ Arv Z h ae ke .int (9 : Int32) [ve0, ve1, ve2, ve3, ve4, ve5, ve6, ve7, (.int (pa + (8 : Int32)))] (.int (0 : Int32)) ∧ Arv Z h ar kr .int (9 : Int32) [vr0, vr1, vr2, vr3, vr4, vr5, vr6, vr7, (.int (pb - (24 : Int32)))] (.int (0 : Int32))
abbrev own_RF8 : Room := { frames := 0, cells := 0, slots := 0, locals := 0 }
set_option maxRecDepth 65536 in
set_option maxHeartbeats 40000000 in
theorem own_rmF8 (l : Launch) (Z : State) (a0 : Array Value) (hw : ∀ d ∈ tables_1, d.before a0 Z = true) (ws : List Jvm.Cond) (o : Addr) (pa : Int32) (pb : Int32) (ae : Addr) (ar : Addr) (ke : ClassId) (kr : ClassId) (ve0 : Value) (ve1 : Value) (ve2 : Value) (ve3 : Value) (ve4 : Value) (ve5 : Value) (ve6 : Value) (ve7 : Value) (ve8 : Value) (vr0 : Value) (vr1 : Value) (vr2 : Value) (vr3 : Value) (vr4 : Value) (vr5 : Value) (vr6 : Value) (vr7 : Value) (vr8 : Value) (h0 : Heap) (n0 : Nat) (Z0 : n0 ≤ h0.size) (Fe : Fld Z h0 o "com/example/shiftwise/shiftwise/search/ScanBlock" "ends" "[I" (.ref ae)) (Frr : Fld Z h0 o "com/example/shiftwise/shiftwise/search/ScanBlock" "reports" "[I" (.ref ar)) (Ve : Arv Z h0 ae ke .int (9 : Int32) [ve0, ve1, ve2, ve3, ve4, ve5, ve6, ve7, ve8] (.int (0 : Int32))) (Vr : Arv Z h0 ar kr .int (9 : Int32) [vr0, vr1, vr2, vr3, vr4, vr5, vr6, vr7, vr8] (.int (0 : Int32))) (ne1 : o ≠ ae) (ne2 : o ≠ ar) (ne3 : ae ≠ ar) (ge1 : n0 ≤ ae) (ge2 : n0 ≤ ar) :
    MetFree l (⟨"com/example/shiftwise/shiftwise/search/AutomatonMovesJoinLanesPinLaw", "fill", "(Lcom/example/shiftwise/shiftwise/search/ScanBlock;III)V"⟩ : MethodName) (head1 (Jvm.Cond.code (⟨"com/example/shiftwise/shiftwise/search/AutomatonMovesJoinLanesPinLaw", "fill", "(Lcom/example/shiftwise/shiftwise/search/ScanBlock;III)V"⟩ : MethodName) method_3_code 4 none :: ws) own_RF8) (fun a U => a = #[(.ref o), (.int (8 : Int32)), (.int pa), (.int pb)] ∧ Z.Warmed39 U.vm ∧ U.heap = h0) (fun _ _ _ _ _ => True) (fun _ U oc_ U' => ∃ v_ L_, oc_ = .returned v_ ∧ own_QF8 Z o pa pb ae ar ke kr ve0 ve1 ve2 ve3 ve4 ve5 ve6 ve7 ve8 vr0 vr1 vr2 vr3 vr4 vr5 vr6 vr7 vr8 h0 n0 v_ U'.heap L_ ∧ FrameEnd U oc_ U' L_ own_RF8.cells own_RF8.slots) := by
  refine MetFree.of_bodySF (plainFor_of_name own_pn_com_example_shiftwise_shiftwise_search_AutomatonMovesJoinLanesPinLaw) hisR ?_
  intro p e s m args below meth c s₁ Bd hml0 hP hK
  obtain ⟨rfl, hZ, hh⟩ := hP
  have hx := Bd.exec
  have hby := Bd.bytes
  have hml : c.maxLocals = 4 := hml0
  have hown : s.vm.findClass "com/example/shiftwise/shiftwise/search/AutomatonMovesJoinLanesPinLaw" = some m.cls := findClass_of_methodNamed Bd.named
  have hnm := (name_of_methodNamed Bd.named Bd.method).1
  have X0 : Stand p l e own_RF8 s m #[(.ref o), (.int (8 : Int32)), (.int pa), (.int pb)] below meth c s₁ [] 0 0 := Stand.of_body Bd
  have e0 : s₁.heap = h0 := by rw [← hh, Bd.state]; rfl
  have N0 := Fr.nil n0
  refine own_in (fun _ k => castTop (own_efF8 m o pa pb) k) ?_
  intro RR hRR
  show own_Go p.tables e below RR (s₁.setTop (mkF m 0 #[.val (.ref o), .val (.int (8 : Int32)), .val (.int pa), .val (.int pb)] []))
  refine own_st (fun _ k => XS.aloadN X0.here hx rfl (hb hby own_dmethod_3_code_0) rfl rfl k) ?_
  show own_Go p.tables e below RR (s₁.setTop (mkF m 1 #[.val (.ref o), .val (.int (8 : Int32)), .val (.int pa), .val (.int pb)] [(.ref o)]))
  obtain ⟨T1, X1, e1, st1⟩ := getF X0 hx hZ hown (host := "") (Or.inl (hw _ (List.mem_of_getElem? (i := 21) rfl))) Via.refl e0 Fe (g := (mkF m 1 #[.val (.ref o), .val (.int (8 : Int32)), .val (.int pa), .val (.int pb)] [(.ref o)])) rfl rfl (hb hby own_dmethod_3_code_1)
  refine own_st st1 ?_
  show own_Go p.tables e below RR (T1.setTop (mkF m 4 #[.val (.ref o), .val (.int (8 : Int32)), .val (.int pa), .val (.int pb)] [(.ref ae)]))
  refine own_st (fun _ k => XS.iloadN X1.here hx rfl (hb hby own_dmethod_3_code_4) rfl (XS.iloadN X1.here hx rfl (hb hby own_dmethod_3_code_5) rfl (XS.iloadN X1.here hx rfl (hb hby own_dmethod_3_code_6) rfl (XS.iadd X1.here hx rfl (hb hby own_dmethod_3_code_7) rfl k)))) ?_
  show own_Go p.tables e below RR (T1.setTop (mkF m 8 #[.val (.ref o), .val (.int (8 : Int32)), .val (.int pa), .val (.int pb)] [(.int (pa + (8 : Int32))), (.int (8 : Int32)), (.ref ae)]))
  obtain ⟨c2, A2, q2, s2, m2, H2, G2⟩ := id Ve
  obtain ⟨T3, h3, X3, e3, W3, st3⟩ := stI X1 hx hZ e1 A2 (j := (8 : Int32)) (inb_of s2 ⟨by decide, by decide⟩) (g := (mkF m 8 #[.val (.ref o), .val (.int (8 : Int32)), .val (.int pa), .val (.int pb)] [(.int (pa + (8 : Int32))), (.int (8 : Int32)), (.ref ae)])) rfl rfl (hb hby own_dmethod_3_code_8)
  have V3 := Arv.set A2 q2 s2 m2 H2 G2 rfl W3 8 rfl (Nat.le_of_ble_eq_true rfl)
  have V3 : Arv Z h3 ae ke .int (9 : Int32) [ve0, ve1, ve2, ve3, ve4, ve5, ve6, ve7, (.int (pa + (8 : Int32)))] (.int (0 : Int32)) := V3
  have N3 := Fr.snoc X3 N0 ge1
  refine own_st st3 ?_
  have z4 : n0 ≤ h3.size := Nat.le_trans Z0 (Keep.of_wr W3).1
  have kk5 : Keep h0 h3 [ae, ar] := (Keep.refl h0 [ae, ar]).wr W3 (Or.inl (List.mem_of_getElem? (i := 0) rfl))
  show own_Go p.tables e below RR (T3.setTop (mkF m 9 #[.val (.ref o), .val (.int (8 : Int32)), .val (.int pa), .val (.int pb)] []))
  refine own_st (fun _ k => XS.aloadN X3.here hx rfl (hb hby own_dmethod_3_code_9) rfl rfl k) ?_
  show own_Go p.tables e below RR (T3.setTop (mkF m 10 #[.val (.ref o), .val (.int (8 : Int32)), .val (.int pa), .val (.int pb)] [(.ref o)]))
  have f6 := (Frr.other W3 (Or.inl ne1))
  obtain ⟨T7, X7, e7, st7⟩ := getF X3 hx hZ hown (host := "") (Or.inl (hw _ (List.mem_of_getElem? (i := 22) rfl))) Via.refl e3 f6 (g := (mkF m 10 #[.val (.ref o), .val (.int (8 : Int32)), .val (.int pa), .val (.int pb)] [(.ref o)])) rfl rfl (hb hby own_dmethod_3_code_10)
  refine own_st st7 ?_
  show own_Go p.tables e below RR (T7.setTop (mkF m 13 #[.val (.ref o), .val (.int (8 : Int32)), .val (.int pa), .val (.int pb)] [(.ref ar)]))
  refine own_st (fun _ k => XS.iloadN X7.here hx rfl (hb hby own_dmethod_3_code_13) rfl (XS.iloadN X7.here hx rfl (hb hby own_dmethod_3_code_14) rfl (XS.iconst X7.here hx rfl (hb hby own_dmethod_3_code_15) (XS.iloadN X7.here hx rfl (hb hby own_dmethod_3_code_16) rfl (XS.imul X7.here hx rfl (hb hby own_dmethod_3_code_17) rfl (XS.isub X7.here hx rfl (hb hby own_dmethod_3_code_18) rfl k)))))) ?_
  show own_Go p.tables e below RR (T7.setTop (mkF m 19 #[.val (.ref o), .val (.int (8 : Int32)), .val (.int pa), .val (.int pb)] [(.int (pb - (24 : Int32))), (.int (8 : Int32)), (.ref ar)]))
  have f8 := (Vr.other W3 (Ne.symm ne3))
  obtain ⟨c9, A9, q9, s9, m9, H9, G9⟩ := id f8
  obtain ⟨T10, h10, X10, e10, W10, st10⟩ := stI X7 hx hZ e7 A9 (j := (8 : Int32)) (inb_of s9 ⟨by decide, by decide⟩) (g := (mkF m 19 #[.val (.ref o), .val (.int (8 : Int32)), .val (.int pa), .val (.int pb)] [(.int (pb - (24 : Int32))), (.int (8 : Int32)), (.ref ar)])) rfl rfl (hb hby own_dmethod_3_code_19)
  have V10 := Arv.set A9 q9 s9 m9 H9 G9 rfl W10 8 rfl (Nat.le_of_ble_eq_true rfl)
  have V10 : Arv Z h10 ar kr .int (9 : Int32) [vr0, vr1, vr2, vr3, vr4, vr5, vr6, vr7, (.int (pb - (24 : Int32)))] (.int (0 : Int32)) := V10
  have N10 := Fr.snoc X10 N3 ge2
  refine own_st st10 ?_
  have z11 : n0 ≤ h10.size := Nat.le_trans z4 (Keep.of_wr W10).1
  have kk12 : Keep h0 h10 [ae, ar] := kk5.wr W10 (Or.inl (List.mem_of_getElem? (i := 1) rfl))
  show own_Go p.tables e below RR (T10.setTop (mkF m 20 #[.val (.ref o), .val (.int (8 : Int32)), .val (.int pa), .val (.int pb)] []))
  obtain ⟨fs, hrt_, hrun, hended, hW, hsame⟩ := X10.leave (v := none) (fun _ => rfl)
  refine own_fin (X10.returnOut hx Bd.returns (hb hby own_dmethod_3_code_20) hrt_) (hRR _ ⟨_, hrun, hended, _, _, rfl, ?_, ⟨_, rfl⟩, hW, hsame.mono (by decide) (by decide)⟩)
  show own_QF8 Z o pa pb ae ar ke kr ve0 ve1 ve2 ve3 ve4 ve5 ve6 ve7 ve8 vr0 vr1 vr2 vr3 vr4 vr5 vr6 vr7 vr8 h0 n0 _ T10.heap _
  rw [e10]
  have f13 := (V3.other W10 ne3)
  exact ⟨rfl, N10, kk12, f13, V10⟩
theorem own_pn_com_example_shiftwise_shiftwise_search_AutomatonMoves : plainName "com/example/shiftwise/shiftwise/search/AutomatonMoves" = true := by first | (simp [plainName, overriddenIn]; done) | decide +kernel
theorem own_dprog_27_method_9_code_0 : decode prog_27_method_9_code 0 = .ok (.aload_n 0, 1) := by decide +kernel
theorem own_dprog_27_method_9_code_1 : decode prog_27_method_9_code 1 = .ok (.getfield 37, 3) := by decide +kernel
theorem own_dprog_27_method_9_code_4 : decode prog_27_method_9_code 4 = .ok (.iload_n 1, 1) := by decide +kernel
theorem own_dprog_27_method_9_code_5 : decode prog_27_method_9_code 5 = .ok (.aload_n 0, 1) := by decide +kernel
theorem own_dprog_27_method_9_code_6 : decode prog_27_method_9_code 6 = .ok (.getfield 37, 3) := by decide +kernel
theorem own_dprog_27_method_9_code_9 : decode prog_27_method_9_code 9 = .ok (.iload_n 3, 1) := by decide +kernel
theorem own_dprog_27_method_9_code_10 : decode prog_27_method_9_code 10 = .ok (.iload_n 2, 1) := by decide +kernel
theorem own_dprog_27_method_9_code_11 : decode prog_27_method_9_code 11 = .ok (.iload_n 1, 1) := by decide +kernel
theorem own_dprog_27_method_9_code_12 : decode prog_27_method_9_code 12 = .ok (.isub, 1) := by decide +kernel
theorem own_dprog_27_method_9_code_13 : decode prog_27_method_9_code 13 = .ok (.invokestatic 41, 3) := by decide +kernel
theorem own_dprog_27_method_9_code_16 : decode prog_27_method_9_code 16 = .ok (.aload_n 0, 1) := by decide +kernel
theorem own_dprog_27_method_9_code_17 : decode prog_27_method_9_code 17 = .ok (.getfield 47, 3) := by decide +kernel
theorem own_dprog_27_method_9_code_20 : decode prog_27_method_9_code 20 = .ok (.iload_n 1, 1) := by decide +kernel
theorem own_dprog_27_method_9_code_21 : decode prog_27_method_9_code 21 = .ok (.aload_n 0, 1) := by decide +kernel
theorem own_dprog_27_method_9_code_22 : decode prog_27_method_9_code 22 = .ok (.getfield 47, 3) := by decide +kernel
theorem own_dprog_27_method_9_code_25 : decode prog_27_method_9_code 25 = .ok (.iload_n 3, 1) := by decide +kernel
theorem own_dprog_27_method_9_code_26 : decode prog_27_method_9_code 26 = .ok (.iload_n 2, 1) := by decide +kernel
theorem own_dprog_27_method_9_code_27 : decode prog_27_method_9_code 27 = .ok (.iload_n 1, 1) := by decide +kernel
theorem own_dprog_27_method_9_code_28 : decode prog_27_method_9_code 28 = .ok (.isub, 1) := by decide +kernel
theorem own_dprog_27_method_9_code_29 : decode prog_27_method_9_code 29 = .ok (.invokestatic 41, 3) := by decide +kernel
theorem own_dprog_27_method_9_code_32 : decode prog_27_method_9_code 32 = .ok (.iload_n 3, 1) := by decide +kernel
theorem own_dprog_27_method_9_code_33 : decode prog_27_method_9_code 33 = .ok (.iload_n 2, 1) := by decide +kernel
theorem own_dprog_27_method_9_code_34 : decode prog_27_method_9_code 34 = .ok (.iadd, 1) := by decide +kernel
theorem own_dprog_27_method_9_code_35 : decode prog_27_method_9_code 35 = .ok (.iload_n 1, 1) := by decide +kernel
theorem own_dprog_27_method_9_code_36 : decode prog_27_method_9_code 36 = .ok (.isub, 1) := by decide +kernel
theorem own_dprog_27_method_9_code_37 : decode prog_27_method_9_code 37 = .ok (.ireturn, 1) := by decide +kernel
theorem own_efM (m : MethodId) (o : Addr) (p1 : Int32) (p2 : Int32) (p3 : Int32) : entryFrame m #[(.ref o), (.int p1), (.int p2), (.int p3)] 4 = mkF m 0 #[.val (.ref o), .val (.int p1), .val (.int p2), .val (.int p3)] [] := by first | (simp [entryFrame, mkF, argsToLocals, Value.category]; done) | rfl
def own_QM (Z : State) (o : Addr) (p1 : Int32) (p2 : Int32) (p3 : Int32) (ae : Addr) (ar : Addr) (ke : ClassId) (kr : ClassId) (vs : List Value) (ws_ : List Value) (F : Nat) (N : Nat) (T : Nat) (h0 : Heap) (n0 : Nat) (v_ : Option Value) (h : Heap) (L_ : List Loc) : Prop := v_ = some (.int ((p3 + p2) - p1)) ∧ Fr n0 L_ ∧ Keep h0 h [ae, ar] ∧ Arv Z h ae ke .int (9 : Int32) (own_mv vs F T N) (.int (0 : Int32)) ∧ Arv Z h ar kr .int (9 : Int32) (own_mv ws_ F T N) (.int (0 : Int32))
abbrev own_RM : Room := { frames := 1, cells := 0, slots := 0, locals := 18 }
set_option maxRecDepth 65536 in
set_option maxHeartbeats 40000000 in
theorem own_rmM (l : Launch) (Z : State) (a0 : Array Value) (hw : ∀ d ∈ tables_1, d.before a0 Z = true) (ws : List Jvm.Cond) (o : Addr) (p1 : Int32) (p2 : Int32) (p3 : Int32) (ae : Addr) (ar : Addr) (ke : ClassId) (kr : ClassId) (vs : List Value) (ws_ : List Value) (F : Nat) (N : Nat) (T : Nat) (h0 : Heap) (n0 : Nat) (Z0 : n0 ≤ h0.size) (Fe : Fld Z h0 o "com/example/shiftwise/shiftwise/search/ScanBlock" "ends" "[I" (.ref ae)) (Frr : Fld Z h0 o "com/example/shiftwise/shiftwise/search/ScanBlock" "reports" "[I" (.ref ar)) (Ve : Arv Z h0 ae ke .int (9 : Int32) vs (.int (0 : Int32))) (Vr : Arv Z h0 ar kr .int (9 : Int32) ws_ (.int (0 : Int32))) (ne1 : o ≠ ae) (ne2 : o ≠ ar) (ne3 : ae ≠ ar) (ge1 : n0 ≤ ae) (ge2 : n0 ≤ ar) (hvl : vs.length = 9) (hwl : ws_.length = 9) (hF : p1.toInt = (F : Int)) (hN : p2.toInt = ((F + N : Nat) : Int)) (hT : p3.toInt = (T : Int)) (hb1 : F + N ≤ 9) (hb2 : T + N ≤ 9) :
    MetFree l (⟨"com/example/shiftwise/shiftwise/search/AutomatonMoves", "moveFound", "(Lcom/example/shiftwise/shiftwise/search/ScanBlock;III)I"⟩ : MethodName) (head1 (Jvm.Cond.code (⟨"com/example/shiftwise/shiftwise/search/AutomatonMoves", "moveFound", "(Lcom/example/shiftwise/shiftwise/search/ScanBlock;III)I"⟩ : MethodName) prog_27_method_9_code 4 (some .int) :: ws) own_RM) (fun a U => a = #[(.ref o), (.int p1), (.int p2), (.int p3)] ∧ Z.Warmed39 U.vm ∧ U.heap = h0) (fun _ _ _ _ _ => True) (fun _ U oc_ U' => ∃ v_ L_, oc_ = .returned v_ ∧ own_QM Z o p1 p2 p3 ae ar ke kr vs ws_ F N T h0 n0 v_ U'.heap L_ ∧ FrameEnd U oc_ U' L_ own_RM.cells own_RM.slots) := by
  refine MetFree.of_bodySF (plainFor_of_name own_pn_com_example_shiftwise_shiftwise_search_AutomatonMoves) hisR ?_
  intro p e s m args below meth c s₁ Bd hml0 hP hK
  obtain ⟨rfl, hZ, hh⟩ := hP
  have hx := Bd.exec
  have hby := Bd.bytes
  have hml : c.maxLocals = 4 := hml0
  have hown : s.vm.findClass "com/example/shiftwise/shiftwise/search/AutomatonMoves" = some m.cls := findClass_of_methodNamed Bd.named
  have hnm := (name_of_methodNamed Bd.named Bd.method).1
  have X0 : Stand p l e own_RM s m #[(.ref o), (.int p1), (.int p2), (.int p3)] below meth c s₁ [] 0 0 := Stand.of_body Bd
  have e0 : s₁.heap = h0 := by rw [← hh, Bd.state]; rfl
  have N0 := Fr.nil n0
  refine own_in (fun _ k => castTop (own_efM m o p1 p2 p3) k) ?_
  intro RR hRR
  show own_Go p.tables e below RR (s₁.setTop (mkF m 0 #[.val (.ref o), .val (.int p1), .val (.int p2), .val (.int p3)] []))
  refine own_st (fun _ k => XS.aloadN X0.here hx rfl (hb hby own_dprog_27_method_9_code_0) rfl rfl k) ?_
  show own_Go p.tables e below RR (s₁.setTop (mkF m 1 #[.val (.ref o), .val (.int p1), .val (.int p2), .val (.int p3)] [(.ref o)]))
  obtain ⟨T1, X1, e1, st1⟩ := getF X0 hx hZ hown (host := "") (Or.inl (hw _ (List.mem_of_getElem? (i := 30) rfl))) Via.refl e0 Fe (g := (mkF m 1 #[.val (.ref o), .val (.int p1), .val (.int p2), .val (.int p3)] [(.ref o)])) rfl rfl (hb hby own_dprog_27_method_9_code_1)
  refine own_st st1 ?_
  show own_Go p.tables e below RR (T1.setTop (mkF m 4 #[.val (.ref o), .val (.int p1), .val (.int p2), .val (.int p3)] [(.ref ae)]))
  refine own_st (fun _ k => XS.iloadN X1.here hx rfl (hb hby own_dprog_27_method_9_code_4) rfl (XS.aloadN X1.here hx rfl (hb hby own_dprog_27_method_9_code_5) rfl rfl k)) ?_
  show own_Go p.tables e below RR (T1.setTop (mkF m 6 #[.val (.ref o), .val (.int p1), .val (.int p2), .val (.int p3)] [(.ref o), (.int p1), (.ref ae)]))
  obtain ⟨T2, X2, e2, st2⟩ := getF X1 hx hZ hown (host := "") (Or.inl (hw _ (List.mem_of_getElem? (i := 30) rfl))) Via.refl e1 Fe (g := (mkF m 6 #[.val (.ref o), .val (.int p1), .val (.int p2), .val (.int p3)] [(.ref o), (.int p1), (.ref ae)])) rfl rfl (hb hby own_dprog_27_method_9_code_6)
  refine own_st st2 ?_
  show own_Go p.tables e below RR (T2.setTop (mkF m 9 #[.val (.ref o), .val (.int p1), .val (.int p2), .val (.int p3)] [(.ref ae), (.int p1), (.ref ae)]))
  refine own_st (fun _ k => XS.iloadN X2.here hx rfl (hb hby own_dprog_27_method_9_code_9) rfl (XS.iloadN X2.here hx rfl (hb hby own_dprog_27_method_9_code_10) rfl (XS.iloadN X2.here hx rfl (hb hby own_dprog_27_method_9_code_11) rfl (XS.isub X2.here hx rfl (hb hby own_dprog_27_method_9_code_12) rfl k)))) ?_
  show own_Go p.tables e below RR (T2.setTop (mkF m 13 #[.val (.ref o), .val (.int p1), .val (.int p2), .val (.int p3)] [(.int (p2 - p1)), (.int p3), (.ref ae), (.int p1), (.ref ae)]))
  generalize gv3 : (p2 - p1) = v3
  show own_Go p.tables e below RR (T2.setTop (mkF m 13 #[.val (.ref o), .val (.int p1), .val (.int p2), .val (.int p3)] [(.int v3), (.int p3), (.ref ae), (.int p1), (.ref ae)]))
  obtain ⟨T4, h4, L4, X4, e4, N4, K4, V4, st4⟩ := cpA X2 hx hZ hown (hw _ (List.mem_of_getElem? (i := 31) rfl)) (hw _ (List.mem_of_getElem? (i := 34) rfl)) (hw _ (List.mem_of_getElem? (i := 32) rfl)) (hw _ (List.mem_of_getElem? (i := 33) rfl)) e2 Ve Ve (us := ((List.range N).map fun i => vs.getD (F + i) (.int (0 : Int32)))) (Or.inl ⟨rfl, rfl⟩) (own_nn hF) (own_nn hT) (own_nn (own_sub hF hN hb1 gv3)) (by rw [own_nc hF, own_nc (own_sub hF hN hb1 gv3)]; exact Nat.le_trans hb1 (by decide)) (by rw [own_nc hT, own_nc (own_sub hF hN hb1 gv3)]; exact Nat.le_trans hb2 (by decide)) (by rw [own_nc hF, own_nc (own_sub hF hN hb1 gv3)]) (by rw [own_nc hT, own_nc (own_sub hF hN hb1 gv3), hvl]; exact hb2) N0 ge1 (g := (mkF m 13 #[.val (.ref o), .val (.int p1), .val (.int p2), .val (.int p3)] [(.int v3), (.int p3), (.ref ae), (.int p1), (.ref ae)])) rfl (by rw [hml]; rfl) rfl (hb hby own_dprog_27_method_9_code_13) (by decide) (W := 0) (by show 2 * 0 + _ ≤ _; exact Nat.le_of_eq rfl) (by decide)
  have V4 : Arv Z h4 ae ke .int (9 : Int32) (own_mv vs F T N) (.int (0 : Int32)) := (by have q := V4; rw [own_nc hT, own_nc (own_sub hF hN hb1 gv3)] at q; exact q)
  refine own_st st4 ?_
  have z5 : n0 ≤ h4.size := Nat.le_trans Z0 K4.1
  have kk6 : Keep h0 h4 [ae, ar] := (Keep.refl h0 [ae, ar]).trans K4 (allS (Or.inl (List.mem_of_getElem? (i := 0) rfl)) all0)
  show own_Go p.tables e below RR (T4.setTop (mkF m 16 #[.val (.ref o), .val (.int p1), .val (.int p2), .val (.int p3)] []))
  refine own_st (fun _ k => XS.aloadN X4.here hx rfl (hb hby own_dprog_27_method_9_code_16) rfl rfl k) ?_
  show own_Go p.tables e below RR (T4.setTop (mkF m 17 #[.val (.ref o), .val (.int p1), .val (.int p2), .val (.int p3)] [(.ref o)]))
  have f7 := (Frr.keep K4 (ninS ne1 nin0))
  obtain ⟨T8, X8, e8, st8⟩ := getF X4 hx hZ hown (host := "") (Or.inl (hw _ (List.mem_of_getElem? (i := 35) rfl))) Via.refl e4 f7 (g := (mkF m 17 #[.val (.ref o), .val (.int p1), .val (.int p2), .val (.int p3)] [(.ref o)])) rfl rfl (hb hby own_dprog_27_method_9_code_17)
  refine own_st st8 ?_
  show own_Go p.tables e below RR (T8.setTop (mkF m 20 #[.val (.ref o), .val (.int p1), .val (.int p2), .val (.int p3)] [(.ref ar)]))
  refine own_st (fun _ k => XS.iloadN X8.here hx rfl (hb hby own_dprog_27_method_9_code_20) rfl (XS.aloadN X8.here hx rfl (hb hby own_dprog_27_method_9_code_21) rfl rfl k)) ?_
  show own_Go p.tables e below RR (T8.setTop (mkF m 22 #[.val (.ref o), .val (.int p1), .val (.int p2), .val (.int p3)] [(.ref o), (.int p1), (.ref ar)]))
  obtain ⟨T9, X9, e9, st9⟩ := getF X8 hx hZ hown (host := "") (Or.inl (hw _ (List.mem_of_getElem? (i := 35) rfl))) Via.refl e8 f7 (g := (mkF m 22 #[.val (.ref o), .val (.int p1), .val (.int p2), .val (.int p3)] [(.ref o), (.int p1), (.ref ar)])) rfl rfl (hb hby own_dprog_27_method_9_code_22)
  refine own_st st9 ?_
  show own_Go p.tables e below RR (T9.setTop (mkF m 25 #[.val (.ref o), .val (.int p1), .val (.int p2), .val (.int p3)] [(.ref ar), (.int p1), (.ref ar)]))
  refine own_st (fun _ k => XS.iloadN X9.here hx rfl (hb hby own_dprog_27_method_9_code_25) rfl (XS.iloadN X9.here hx rfl (hb hby own_dprog_27_method_9_code_26) rfl (XS.iloadN X9.here hx rfl (hb hby own_dprog_27_method_9_code_27) rfl (XS.isub X9.here hx rfl (hb hby own_dprog_27_method_9_code_28) rfl k)))) ?_
  show own_Go p.tables e below RR (T9.setTop (mkF m 29 #[.val (.ref o), .val (.int p1), .val (.int p2), .val (.int p3)] [(.int (p2 - p1)), (.int p3), (.ref ar), (.int p1), (.ref ar)]))
  generalize gv10 : (p2 - p1) = v10
  show own_Go p.tables e below RR (T9.setTop (mkF m 29 #[.val (.ref o), .val (.int p1), .val (.int p2), .val (.int p3)] [(.int v10), (.int p3), (.ref ar), (.int p1), (.ref ar)]))
  have f11 := (Vr.keep K4 (ninS (Ne.symm ne3) nin0))
  obtain ⟨T12, h12, L12, X12, e12, N12, K12, V12, st12⟩ := cpA X9 hx hZ hown (hw _ (List.mem_of_getElem? (i := 31) rfl)) (hw _ (List.mem_of_getElem? (i := 34) rfl)) (hw _ (List.mem_of_getElem? (i := 32) rfl)) (hw _ (List.mem_of_getElem? (i := 33) rfl)) e9 f11 f11 (us := ((List.range N).map fun i => ws_.getD (F + i) (.int (0 : Int32)))) (Or.inl ⟨rfl, rfl⟩) (own_nn hF) (own_nn hT) (own_nn (own_sub hF hN hb1 gv10)) (by rw [own_nc hF, own_nc (own_sub hF hN hb1 gv10)]; exact Nat.le_trans hb1 (by decide)) (by rw [own_nc hT, own_nc (own_sub hF hN hb1 gv10)]; exact Nat.le_trans hb2 (by decide)) (by rw [own_nc hF, own_nc (own_sub hF hN hb1 gv10)]) (by rw [own_nc hT, own_nc (own_sub hF hN hb1 gv10), hwl]; exact hb2) N4 ge2 (g := (mkF m 29 #[.val (.ref o), .val (.int p1), .val (.int p2), .val (.int p3)] [(.int v10), (.int p3), (.ref ar), (.int p1), (.ref ar)])) rfl (by rw [hml]; rfl) rfl (hb hby own_dprog_27_method_9_code_29) (by decide) (W := 0) (by show 2 * 0 + _ ≤ _; exact Nat.le_of_eq rfl) (by decide)
  have V12 : Arv Z h12 ar kr .int (9 : Int32) (own_mv ws_ F T N) (.int (0 : Int32)) := (by have q := V12; rw [own_nc hT, own_nc (own_sub hF hN hb1 gv10)] at q; exact q)
  refine own_st st12 ?_
  have z13 : n0 ≤ h12.size := Nat.le_trans z5 K12.1
  have kk14 : Keep h0 h12 [ae, ar] := kk6.trans K12 (allS (Or.inl (List.mem_of_getElem? (i := 1) rfl)) all0)
  show own_Go p.tables e below RR (T12.setTop (mkF m 32 #[.val (.ref o), .val (.int p1), .val (.int p2), .val (.int p3)] []))
  refine own_st (fun _ k => XS.iloadN X12.here hx rfl (hb hby own_dprog_27_method_9_code_32) rfl (XS.iloadN X12.here hx rfl (hb hby own_dprog_27_method_9_code_33) rfl (XS.iadd X12.here hx rfl (hb hby own_dprog_27_method_9_code_34) rfl (XS.iloadN X12.here hx rfl (hb hby own_dprog_27_method_9_code_35) rfl (XS.isub X12.here hx rfl (hb hby own_dprog_27_method_9_code_36) rfl k))))) ?_
  show own_Go p.tables e below RR (T12.setTop (mkF m 37 #[.val (.ref o), .val (.int p1), .val (.int p2), .val (.int p3)] [(.int ((p3 + p2) - p1))]))
  obtain ⟨fs, hrt_, hrun, hended, hW, hsame⟩ := X12.leave (v := some (.int ((p3 + p2) - p1))) (fun h => by rw [Bd.returns] at h; cases h)
  refine own_fin (retI X12 hx Bd.returns (hb hby own_dprog_27_method_9_code_37) hrt_) (hRR _ ⟨_, hrun, hended, _, _, rfl, ?_, ⟨_, rfl⟩, hW, hsame.mono (by decide) (by decide)⟩)
  show own_QM Z o p1 p2 p3 ae ar ke kr vs ws_ F N T h0 n0 _ T12.heap _
  rw [e12]
  have f15 := (V4.keep K12 (ninS ne3 nin0))
  exact ⟨rfl, N12, kk14, f15, V12⟩
theorem own_dprog_27_method_7_code_0 : decode prog_27_method_7_code 0 = .ok (.aload_n 0, 1) := by decide +kernel
theorem own_dprog_27_method_7_code_1 : decode prog_27_method_7_code 1 = .ok (.iload_n 1, 1) := by decide +kernel
theorem own_dprog_27_method_7_code_2 : decode prog_27_method_7_code 2 = .ok (.iload_n 3, 1) := by decide +kernel
theorem own_dprog_27_method_7_code_3 : decode prog_27_method_7_code 3 = .ok (.iload_n 2, 1) := by decide +kernel
theorem own_pd__Lcom_example_shiftwise_shiftwise_search_ScanBlock_III_I : parseMethodDescriptor "(Lcom/example/shiftwise/shiftwise/search/ScanBlock;III)I" = some ⟨[(.object "com/example/shiftwise/shiftwise/search/ScanBlock"), .int, .int, .int], some .int⟩ := by decide +kernel
theorem own_dprog_27_method_7_code_4 : decode prog_27_method_7_code 4 = .ok (.invokestatic 25, 3) := by decide +kernel
theorem own_dprog_27_method_7_code_7 : decode prog_27_method_7_code 7 = .ok (.istore 5, 2) := by decide +kernel
theorem own_dprog_27_method_7_code_9 : decode prog_27_method_7_code 9 = .ok (.aload_n 0, 1) := by decide +kernel
theorem own_dprog_27_method_7_code_10 : decode prog_27_method_7_code 10 = .ok (.aload_n 0, 1) := by decide +kernel
theorem own_dprog_27_method_7_code_11 : decode prog_27_method_7_code 11 = .ok (.iconst 2, 1) := by decide +kernel
theorem own_dprog_27_method_7_code_12 : decode prog_27_method_7_code 12 = .ok (.iload_n 1, 1) := by decide +kernel
theorem own_dprog_27_method_7_code_13 : decode prog_27_method_7_code 13 = .ok (.imul, 1) := by decide +kernel
theorem own_dprog_27_method_7_code_14 : decode prog_27_method_7_code 14 = .ok (.iload 4, 2) := by decide +kernel
theorem own_dprog_27_method_7_code_16 : decode prog_27_method_7_code 16 = .ok (.iload 5, 2) := by decide +kernel
theorem own_dprog_27_method_7_code_18 : decode prog_27_method_7_code 18 = .ok (.invokestatic 25, 3) := by decide +kernel
theorem own_dprog_27_method_7_code_21 : decode prog_27_method_7_code 21 = .ok (.putfield 28, 3) := by decide +kernel
theorem own_dprog_27_method_7_code_24 : decode prog_27_method_7_code 24 = .ok (.return_, 1) := by decide +kernel
theorem own_efJ (m : MethodId) (o : Addr) (p1 : Int32) (p2 : Int32) (p3 : Int32) (p4 : Int32) : entryFrame m #[(.ref o), (.int p1), (.int p2), (.int p3), (.int p4)] 6 = mkF m 0 #[.val (.ref o), .val (.int p1), .val (.int p2), .val (.int p3), .val (.int p4), .unset] [] := by first | (simp [entryFrame, mkF, argsToLocals, Value.category]; done) | rfl
def own_QJ (Z : State) (o : Addr) (p1 : Int32) (p2 : Int32) (p3 : Int32) (p4 : Int32) (ae : Addr) (ar : Addr) (ke : ClassId) (kr : ClassId) (vs : List Value) (ws_ : List Value) (la : Nat) (fo : Nat) (n2 : Nat) (n3 : Nat) (h0 : Heap) (n0 : Nat) (v_ : Option Value) (h : Heap) (L_ : List Loc) : Prop := v_ = none ∧ Fr n0 L_ ∧ Keep h0 h [ae, ar, o] ∧ Exa Z h o "com/example/shiftwise/shiftwise/search/ScanBlock" ∧ (∃ f : Int32, f.toInt = ((fo + n2 + n3 : Nat) : Int) ∧ Fld Z h o "com/example/shiftwise/shiftwise/search/ScanBlock" "found" "I" (.int f)) ∧ Fld Z h o "com/example/shiftwise/shiftwise/search/ScanBlock" "ends" "[I" (.ref ae) ∧ Fld Z h o "com/example/shiftwise/shiftwise/search/ScanBlock" "reports" "[I" (.ref ar) ∧ Arv Z h ae ke .int (9 : Int32) (own_mv (own_mv vs la fo n2) (2 * la) (fo + n2) n3) (.int (0 : Int32)) ∧ Arv Z h ar kr .int (9 : Int32) (own_mv (own_mv ws_ la fo n2) (2 * la) (fo + n2) n3) (.int (0 : Int32))
abbrev own_RJ : Room := { frames := 2, cells := 0, slots := 0, locals := 34 }
set_option maxRecDepth 65536 in
set_option maxHeartbeats 40000000 in
theorem own_rmJ (l : Launch) (Z : State) (a0 : Array Value) (hw : ∀ d ∈ tables_1, d.before a0 Z = true) (ws : List Jvm.Cond) (o : Addr) (p1 : Int32) (p2 : Int32) (p3 : Int32) (p4 : Int32) (ae : Addr) (ar : Addr) (ke : ClassId) (kr : ClassId) (vs : List Value) (ws_ : List Value) (la : Nat) (fo : Nat) (n2 : Nat) (n3 : Nat) (h0 : Heap) (n0 : Nat) (Z0 : n0 ≤ h0.size) (E : Exa Z h0 o "com/example/shiftwise/shiftwise/search/ScanBlock") (Ff : Fld Z h0 o "com/example/shiftwise/shiftwise/search/ScanBlock" "found" "I" (.int (0 : Int32))) (g_o : n0 ≤ o) (Fe : Fld Z h0 o "com/example/shiftwise/shiftwise/search/ScanBlock" "ends" "[I" (.ref ae)) (Frr : Fld Z h0 o "com/example/shiftwise/shiftwise/search/ScanBlock" "reports" "[I" (.ref ar)) (Ve : Arv Z h0 ae ke .int (9 : Int32) vs (.int (0 : Int32))) (Vr : Arv Z h0 ar kr .int (9 : Int32) ws_ (.int (0 : Int32))) (ne1 : o ≠ ae) (ne2 : o ≠ ar) (ne3 : ae ≠ ar) (ge1 : n0 ≤ ae) (ge2 : n0 ≤ ar) (hvl : vs.length = 9) (hwl : ws_.length = 9) (b1 : la ≤ 3) (b2 : fo ≤ la) (b3 : n2 ≤ la) (b4 : 2 * la + n3 ≤ 9) (c1 : p1.toInt = (la : Int)) (c2 : p2.toInt = (fo : Int)) (c3 : p3.toInt = ((la + n2 : Nat) : Int)) (c4 : p4.toInt = ((2 * la + n3 : Nat) : Int)) :
    MetFree l (⟨"com/example/shiftwise/shiftwise/search/AutomatonMoves", "joinLanes", "(Lcom/example/shiftwise/shiftwise/search/ScanBlock;IIII)V"⟩ : MethodName) (head1 (Jvm.Cond.code (⟨"com/example/shiftwise/shiftwise/search/AutomatonMoves", "joinLanes", "(Lcom/example/shiftwise/shiftwise/search/ScanBlock;IIII)V"⟩ : MethodName) prog_27_method_7_code 6 none :: ws) own_RJ) (fun a U => a = #[(.ref o), (.int p1), (.int p2), (.int p3), (.int p4)] ∧ Z.Warmed39 U.vm ∧ U.heap = h0) (fun _ _ _ _ _ => True) (fun _ U oc_ U' => ∃ v_ L_, oc_ = .returned v_ ∧ own_QJ Z o p1 p2 p3 p4 ae ar ke kr vs ws_ la fo n2 n3 h0 n0 v_ U'.heap L_ ∧ FrameEnd U oc_ U' L_ own_RJ.cells own_RJ.slots) := by
  refine MetFree.of_bodySF (plainFor_of_name own_pn_com_example_shiftwise_shiftwise_search_AutomatonMoves) hisR ?_
  intro p e s m args below meth c s₁ Bd hml0 hP hK
  obtain ⟨rfl, hZ, hh⟩ := hP
  have hx := Bd.exec
  have hby := Bd.bytes
  have hml : c.maxLocals = 6 := hml0
  have hown : s.vm.findClass "com/example/shiftwise/shiftwise/search/AutomatonMoves" = some m.cls := findClass_of_methodNamed Bd.named
  have hnm := (name_of_methodNamed Bd.named Bd.method).1
  have X0 : Stand p l e own_RJ s m #[(.ref o), (.int p1), (.int p2), (.int p3), (.int p4)] below meth c s₁ [] 0 0 := Stand.of_body Bd
  have e0 : s₁.heap = h0 := by rw [← hh, Bd.state]; rfl
  have N0 := Fr.nil n0
  refine own_in (fun _ k => castTop (own_efJ m o p1 p2 p3 p4) k) ?_
  intro RR hRR
  show own_Go p.tables e below RR (s₁.setTop (mkF m 0 #[.val (.ref o), .val (.int p1), .val (.int p2), .val (.int p3), .val (.int p4), .unset] []))
  refine own_st (fun _ k => XS.aloadN X0.here hx rfl (hb hby own_dprog_27_method_7_code_0) rfl rfl (XS.iloadN X0.here hx rfl (hb hby own_dprog_27_method_7_code_1) rfl (XS.iloadN X0.here hx rfl (hb hby own_dprog_27_method_7_code_2) rfl (XS.iloadN X0.here hx rfl (hb hby own_dprog_27_method_7_code_3) rfl k)))) ?_
  show own_Go p.tables e below RR (s₁.setTop (mkF m 4 #[.val (.ref o), .val (.int p1), .val (.int p2), .val (.int p3), .val (.int p4), .unset] [(.int p2), (.int p3), (.int p1), (.ref o)]))
  obtain ⟨_, _, ⟨T1, L1, k1, n1⟩, -, X1, ⟨Lc1, hQ1, l1, y1, z1⟩, st1⟩ := Jvm.LawKit.callS X0 hx (y := (⟨"com/example/shiftwise/shiftwise/search/AutomatonMoves", "moveFound", "(Lcom/example/shiftwise/shiftwise/search/ScanBlock;III)I"⟩ : MethodName)) hown (mvT hZ (hw _ (List.mem_of_getElem? (i := 27) rfl))) (mvT hZ (hw _ (List.mem_of_getElem? (i := 28) rfl))) (mvT hZ (hw _ (List.mem_of_getElem? (i := 25) rfl))) (mvT hZ (hw _ (List.mem_of_getElem? (i := 29) rfl))) (by decide) (backOf (W := 0) (own_rmM l Z a0 hw [] o p1 p3 p2 ae ar ke kr vs ws_ la n2 fo h0 n0 Z0 Fe Frr Ve Vr ne1 ne2 ne3 ge1 ge2 hvl hwl c1 c3 c2 (by omega) (by omega)) hZ (hw _ (List.mem_of_getElem? (i := 29) rfl)) (hw _ (List.mem_of_getElem? (i := 25) rfl)) (by decide) (by decide)) (g := (mkF m 4 #[.val (.ref o), .val (.int p1), .val (.int p2), .val (.int p3), .val (.int p4), .unset] [(.int p2), (.int p3), (.int p1), (.ref o)])) rfl (by rw [hml]; rfl) (argsL := [(.ref o), (.int p1), (.int p3), (.int p2)]) (rest := []) (lenOf own_pd__Lcom_example_shiftwise_shiftwise_search_ScanBlock_III_I rfl) rfl (by show 2 * 0 + _ ≤ _; exact Nat.le_of_eq rfl) (hb hby own_dprog_27_method_7_code_4) (fun _ _ => ⟨rfl, e0, (by decide : 0 + 0 ≤ _), (by decide : 0 + 0 ≤ _)⟩)
  dsimp only [Pt.U, Pt.locs, Pt.cells, Pt.slots] at X1 l1 y1 z1 st1 hQ1
  subst l1 y1 z1
  obtain ⟨rfl, Nq1, Kq1, Ve1, Vr1⟩ := hQ1
  have N1 := Fr.app N0 Nq1
  refine own_st st1 ?_
  have z2 : n0 ≤ T1.heap.size := Nat.le_trans Z0 Kq1.1
  have kk3 : Keep h0 T1.heap [ae, ar, o] := (Keep.refl h0 [ae, ar, o]).trans Kq1 (allS (Or.inl (List.mem_of_getElem? (i := 0) rfl)) (allS (Or.inl (List.mem_of_getElem? (i := 1) rfl)) all0))
  show own_Go p.tables e below RR (T1.setTop (mkF m 7 #[.val (.ref o), .val (.int p1), .val (.int p2), .val (.int p3), .val (.int p4), .unset] [(.int ((p2 + p3) - p1))]))
  refine own_st (fun _ k => XS.istore X1.here hx rfl (hb hby own_dprog_27_method_7_code_7) rfl (l' := #[.val (.ref o), .val (.int p1), .val (.int p2), .val (.int p3), .val (.int p4), .val (.int ((p2 + p3) - p1))]) rfl (XS.aloadN X1.here hx rfl (hb hby own_dprog_27_method_7_code_9) rfl rfl (XS.aloadN X1.here hx rfl (hb hby own_dprog_27_method_7_code_10) rfl rfl (XS.iconst X1.here hx rfl (hb hby own_dprog_27_method_7_code_11) (XS.iloadN X1.here hx rfl (hb hby own_dprog_27_method_7_code_12) rfl (XS.imul X1.here hx rfl (hb hby own_dprog_27_method_7_code_13) rfl (XS.iload X1.here hx rfl (hb hby own_dprog_27_method_7_code_14) rfl (XS.iload X1.here hx rfl (hb hby own_dprog_27_method_7_code_16) rfl k)))))))) ?_
  show own_Go p.tables e below RR (T1.setTop (mkF m 18 #[.val (.ref o), .val (.int p1), .val (.int p2), .val (.int p3), .val (.int p4), .val (.int ((p2 + p3) - p1))] [(.int ((p2 + p3) - p1)), (.int p4), (.int ((2 : Int32) * p1)), (.ref o), (.ref o)]))
  have f4 := (Fe.keep Kq1 (ninS ne1 (ninS ne2 nin0)))
  have f5 := (Frr.keep Kq1 (ninS ne1 (ninS ne2 nin0)))
  obtain ⟨_, _, ⟨T6, L6, k6, n6⟩, -, X6, ⟨Lc6, hQ6, l6, y6, z6⟩, st6⟩ := Jvm.LawKit.callS X1 hx (y := (⟨"com/example/shiftwise/shiftwise/search/AutomatonMoves", "moveFound", "(Lcom/example/shiftwise/shiftwise/search/ScanBlock;III)I"⟩ : MethodName)) hown (mvT hZ (hw _ (List.mem_of_getElem? (i := 27) rfl))) (mvT hZ (hw _ (List.mem_of_getElem? (i := 28) rfl))) (mvT hZ (hw _ (List.mem_of_getElem? (i := 25) rfl))) (mvT hZ (hw _ (List.mem_of_getElem? (i := 29) rfl))) (by decide) (backOf (W := 1) (own_rmM l Z a0 hw [] o ((2 : Int32) * p1) p4 ((p2 + p3) - p1) ae ar ke kr (own_mv vs la fo n2) (own_mv ws_ la fo n2) (2 * la) n3 (fo + n2) T1.heap n0 z2 f4 f5 Ve1 Vr1 ne1 ne2 ne3 ge1 ge2 (own_mv_len hvl (by omega)) (own_mv_len hwl (by omega)) (own_two c1 b1) c4 (own_ret c1 c3 c2 (by omega) (by omega)) (by omega) (by omega)) hZ (hw _ (List.mem_of_getElem? (i := 29) rfl)) (hw _ (List.mem_of_getElem? (i := 25) rfl)) (by decide) (by decide)) (g := (mkF m 18 #[.val (.ref o), .val (.int p1), .val (.int p2), .val (.int p3), .val (.int p4), .val (.int ((p2 + p3) - p1))] [(.int ((p2 + p3) - p1)), (.int p4), (.int ((2 : Int32) * p1)), (.ref o), (.ref o)])) rfl (by rw [hml]; rfl) (argsL := [(.ref o), (.int ((2 : Int32) * p1)), (.int p4), (.int ((p2 + p3) - p1))]) (rest := [(.ref o)]) (lenOf own_pd__Lcom_example_shiftwise_shiftwise_search_ScanBlock_III_I rfl) rfl (by show 2 * 0 + _ ≤ _; exact Nat.le_of_eq rfl) (hb hby own_dprog_27_method_7_code_18) (fun _ _ => ⟨rfl, rfl, (by decide : 0 + 0 ≤ _), (by decide : 0 + 0 ≤ _)⟩)
  dsimp only [Pt.U, Pt.locs, Pt.cells, Pt.slots] at X6 l6 y6 z6 st6 hQ6
  subst l6 y6 z6
  obtain ⟨rfl, Nq6, Kq6, Ve6, Vr6⟩ := hQ6
  have N6 := Fr.app N1 Nq6
  refine own_st st6 ?_
  have z7 : n0 ≤ T6.heap.size := Nat.le_trans z2 Kq6.1
  have kk8 : Keep h0 T6.heap [ae, ar, o] := kk3.trans Kq6 (allS (Or.inl (List.mem_of_getElem? (i := 0) rfl)) (allS (Or.inl (List.mem_of_getElem? (i := 1) rfl)) all0))
  show own_Go p.tables e below RR (T6.setTop (mkF m 21 #[.val (.ref o), .val (.int p1), .val (.int p2), .val (.int p3), .val (.int p4), .val (.int ((p2 + p3) - p1))] [(.int ((((p2 + p3) - p1) + p4) - ((2 : Int32) * p1))), (.ref o)]))
  have f9 := ((Ff.keep Kq1 (ninS ne1 (ninS ne2 nin0))).keep Kq6 (ninS ne1 (ninS ne2 nin0)))
  have f10 := ((E.keep Kq1).keep Kq6)
  obtain ⟨T11, h11, X11, e11, W11, st11⟩ := putF X6 hx hZ hown (host := "") (Or.inl (hw _ (List.mem_of_getElem? (i := 36) rfl))) Via.refl rfl f9 f10 (Or.inl (hw _ (List.mem_of_getElem? (i := 37) rfl))) (hw _ (List.mem_of_getElem? (i := 2) rfl)) (ty := .int) (by decide) rfl rfl (g := (mkF m 21 #[.val (.ref o), .val (.int p1), .val (.int p2), .val (.int p3), .val (.int p4), .val (.int ((p2 + p3) - p1))] [(.int ((((p2 + p3) - p1) + p4) - ((2 : Int32) * p1))), (.ref o)])) rfl rfl (hb hby own_dprog_27_method_7_code_21)
  have Fw11 := f9.same W11
  have N11 := Fr.snoc X11 N6 g_o
  refine own_st st11 ?_
  have z12 : n0 ≤ h11.size := Nat.le_trans z7 (Keep.of_wr W11).1
  have kk13 : Keep h0 h11 [ae, ar, o] := kk8.wr W11 (Or.inl (List.mem_of_getElem? (i := 2) rfl))
  show own_Go p.tables e below RR (T11.setTop (mkF m 24 #[.val (.ref o), .val (.int p1), .val (.int p2), .val (.int p3), .val (.int p4), .val (.int ((p2 + p3) - p1))] []))
  obtain ⟨fs, hrt_, hrun, hended, hW, hsame⟩ := X11.leave (v := none) (fun _ => rfl)
  refine own_fin (X11.returnOut hx Bd.returns (hb hby own_dprog_27_method_7_code_24) hrt_) (hRR _ ⟨_, hrun, hended, _, _, rfl, ?_, ⟨_, rfl⟩, hW, hsame.mono (by decide) (by decide)⟩)
  show own_QJ Z o p1 p2 p3 p4 ae ar ke kr vs ws_ la fo n2 n3 h0 n0 _ T11.heap _
  rw [e11]
  have f14 := (f10.wr W11)
  have f15 := ((f4.keep Kq6 (ninS ne1 (ninS ne2 nin0))).other W11 (Or.inr (slot_ne (Or.inr (hw _ (List.mem_of_getElem? (i := 14) rfl))) (Or.inl (hw _ (List.mem_of_getElem? (i := 37) rfl))) (by decide) (t := (.array .int)) (t' := .int) (by decide) (by decide))))
  have f16 := ((f5.keep Kq6 (ninS ne1 (ninS ne2 nin0))).other W11 (Or.inr (slot_ne (Or.inr (hw _ (List.mem_of_getElem? (i := 16) rfl))) (Or.inl (hw _ (List.mem_of_getElem? (i := 37) rfl))) (by decide) (t := (.array .int)) (t' := .int) (by decide) (by decide))))
  have f17 := (Ve6.other W11 (Ne.symm ne1))
  have f18 := (Vr6.other W11 (Ne.symm ne2))
  exact ⟨rfl, N11, kk13, f14, ⟨_, own_ret (own_two c1 b1) c4 (own_ret c1 c3 c2 (by omega) (by omega)) (by omega) (by omega), Fw11⟩, f15, f16, f17, f18⟩
theorem own_dmethod_4_code_0 : decode method_4_code 0 = .ok (.iload_n 1, 1) := by decide +kernel
theorem own_dmethod_4_code_1 : decode method_4_code 1 = .ok (.iload 5, 2) := by decide +kernel
theorem own_dmethod_4_code_3 : decode method_4_code 3 = .ok (.if_icmp .lt 5, 3) := by decide +kernel
theorem own_dmethod_4_code_8 : decode method_4_code 8 = .ok (.iload_n 1, 1) := by decide +kernel
theorem own_dmethod_4_code_9 : decode method_4_code 9 = .ok (.iload_n 2, 1) := by decide +kernel
theorem own_dmethod_4_code_10 : decode method_4_code 10 = .ok (.if_icmp .ge 9, 3) := by decide +kernel
theorem own_dmethod_4_code_13 : decode method_4_code 13 = .ok (.iload_n 1, 1) := by decide +kernel
theorem own_dmethod_4_code_14 : decode method_4_code 14 = .ok (.istore 8, 2) := by decide +kernel
theorem own_dmethod_4_code_16 : decode method_4_code 16 = .ok (.goto 33, 3) := by decide +kernel
theorem own_dmethod_4_code_49 : decode method_4_code 49 = .ok (.aload_n 0, 1) := by decide +kernel
theorem own_dmethod_4_code_50 : decode method_4_code 50 = .ok (.getfield 33, 3) := by decide +kernel
theorem own_dmethod_4_code_53 : decode method_4_code 53 = .ok (.iload_n 1, 1) := by decide +kernel
theorem own_dmethod_4_code_54 : decode method_4_code 54 = .ok (.iaload, 1) := by decide +kernel
theorem own_dmethod_4_code_55 : decode method_4_code 55 = .ok (.iload 6, 2) := by decide +kernel
theorem own_dmethod_4_code_57 : decode method_4_code 57 = .ok (.iload 8, 2) := by decide +kernel
theorem own_dmethod_4_code_59 : decode method_4_code 59 = .ok (.iadd, 1) := by decide +kernel
theorem own_dmethod_4_code_60 : decode method_4_code 60 = .ok (.if_icmp .ne 23, 3) := by decide +kernel
theorem own_dmethod_4_code_63 : decode method_4_code 63 = .ok (.aload_n 0, 1) := by decide +kernel
theorem own_dmethod_4_code_64 : decode method_4_code 64 = .ok (.getfield 37, 3) := by decide +kernel
theorem own_dmethod_4_code_67 : decode method_4_code 67 = .ok (.iload_n 1, 1) := by decide +kernel
theorem own_dmethod_4_code_68 : decode method_4_code 68 = .ok (.iaload, 1) := by decide +kernel
theorem own_dmethod_4_code_69 : decode method_4_code 69 = .ok (.iload 7, 2) := by decide +kernel
theorem own_dmethod_4_code_71 : decode method_4_code 71 = .ok (.iconst 3, 1) := by decide +kernel
theorem own_dmethod_4_code_72 : decode method_4_code 72 = .ok (.iload 8, 2) := by decide +kernel
theorem own_dmethod_4_code_74 : decode method_4_code 74 = .ok (.imul, 1) := by decide +kernel
theorem own_dmethod_4_code_75 : decode method_4_code 75 = .ok (.isub, 1) := by decide +kernel
theorem own_dmethod_4_code_76 : decode method_4_code 76 = .ok (.if_icmp .ne 7, 3) := by decide +kernel
theorem own_dmethod_4_code_79 : decode method_4_code 79 = .ok (.iconst 1, 1) := by decide +kernel
theorem own_dmethod_4_code_80 : decode method_4_code 80 = .ok (.goto 4, 3) := by decide +kernel
theorem own_dmethod_4_code_84 : decode method_4_code 84 = .ok (.ireturn, 1) := by decide +kernel
theorem own_dmethod_4_code_19 : decode method_4_code 19 = .ok (.iload_n 1, 1) := by decide +kernel
theorem own_dmethod_4_code_20 : decode method_4_code 20 = .ok (.iload_n 2, 1) := by decide +kernel
theorem own_dmethod_4_code_21 : decode method_4_code 21 = .ok (.iload_n 3, 1) := by decide +kernel
theorem own_dmethod_4_code_22 : decode method_4_code 22 = .ok (.iadd, 1) := by decide +kernel
theorem own_dmethod_4_code_23 : decode method_4_code 23 = .ok (.if_icmp .ge 14, 3) := by decide +kernel
theorem own_dmethod_4_code_26 : decode method_4_code 26 = .ok (.iload 4, 2) := by decide +kernel
theorem own_dmethod_4_code_28 : decode method_4_code 28 = .ok (.iload_n 1, 1) := by decide +kernel
theorem own_dmethod_4_code_29 : decode method_4_code 29 = .ok (.iadd, 1) := by decide +kernel
theorem own_dmethod_4_code_30 : decode method_4_code 30 = .ok (.iload_n 2, 1) := by decide +kernel
theorem own_dmethod_4_code_31 : decode method_4_code 31 = .ok (.isub, 1) := by decide +kernel
theorem own_dmethod_4_code_32 : decode method_4_code 32 = .ok (.istore 8, 2) := by decide +kernel
theorem own_dmethod_4_code_34 : decode method_4_code 34 = .ok (.goto 15, 3) := by decide +kernel
theorem own_dmethod_4_code_37 : decode method_4_code 37 = .ok (.iconst 2, 1) := by decide +kernel
theorem own_dmethod_4_code_38 : decode method_4_code 38 = .ok (.iload 4, 2) := by decide +kernel
theorem own_dmethod_4_code_40 : decode method_4_code 40 = .ok (.imul, 1) := by decide +kernel
theorem own_dmethod_4_code_41 : decode method_4_code 41 = .ok (.iload_n 1, 1) := by decide +kernel
theorem own_dmethod_4_code_42 : decode method_4_code 42 = .ok (.iadd, 1) := by decide +kernel
theorem own_dmethod_4_code_43 : decode method_4_code 43 = .ok (.iload_n 2, 1) := by decide +kernel
theorem own_dmethod_4_code_44 : decode method_4_code 44 = .ok (.isub, 1) := by decide +kernel
theorem own_dmethod_4_code_45 : decode method_4_code 45 = .ok (.iload_n 3, 1) := by decide +kernel
theorem own_dmethod_4_code_46 : decode method_4_code 46 = .ok (.isub, 1) := by decide +kernel
theorem own_dmethod_4_code_47 : decode method_4_code 47 = .ok (.istore 8, 2) := by decide +kernel
theorem own_dmethod_4_code_6 : decode method_4_code 6 = .ok (.iconst 1, 1) := by decide +kernel
theorem own_dmethod_4_code_7 : decode method_4_code 7 = .ok (.ireturn, 1) := by decide +kernel
theorem own_efC (m : MethodId) (o : Addr) (pk : Int32) (pf : Int32) (pn : Int32) (pl : Int32) (pt : Int32) (pa : Int32) (pb : Int32) : entryFrame m #[(.ref o), (.int pk), (.int pf), (.int pn), (.int pl), (.int pt), (.int pa), (.int pb)] 9 = mkF m 0 #[.val (.ref o), .val (.int pk), .val (.int pf), .val (.int pn), .val (.int pl), .val (.int pt), .val (.int pa), .val (.int pb), .unset] [] := by first | (simp [entryFrame, mkF, argsToLocals, Value.category]; done) | rfl
def own_QC (Z : State) (o : Addr) (pk : Int32) (pf : Int32) (pn : Int32) (pl : Int32) (pt : Int32) (pa : Int32) (pb : Int32) (ae : Addr) (ar : Addr) (ke : ClassId) (kr : ClassId) (vs : List Value) (ws_ : List Value) (K : Nat) (xe : Int32) (xr : Int32) (h0 : Heap) (n0 : Nat) (v_ : Option Value) (h : Heap) (L_ : List Loc) : Prop := v_ = some (.int 1) ∧ Fr n0 L_ ∧ h = h0
abbrev own_RC : Room := { frames := 0, cells := 0, slots := 0, locals := 0 }
set_option maxRecDepth 65536 in
set_option maxHeartbeats 40000000 in
theorem own_rmC (l : Launch) (Z : State) (a0 : Array Value) (hw : ∀ d ∈ tables_1, d.before a0 Z = true) (ws : List Jvm.Cond) (o : Addr) (pk : Int32) (pf : Int32) (pn : Int32) (pl : Int32) (pt : Int32) (pa : Int32) (pb : Int32) (ae : Addr) (ar : Addr) (ke : ClassId) (kr : ClassId) (vs : List Value) (ws_ : List Value) (K : Nat) (xe : Int32) (xr : Int32) (h0 : Heap) (n0 : Nat) (Z0 : n0 ≤ h0.size) (Fe : Fld Z h0 o "com/example/shiftwise/shiftwise/search/ScanBlock" "ends" "[I" (.ref ae)) (Frr : Fld Z h0 o "com/example/shiftwise/shiftwise/search/ScanBlock" "reports" "[I" (.ref ar)) (Ve : Arv Z h0 ae ke .int (9 : Int32) vs (.int (0 : Int32))) (Vr : Arv Z h0 ar kr .int (9 : Int32) ws_ (.int (0 : Int32))) (hk : pk.toInt = (K : Int)) (hK : K < 9) (he : vs.getD K (.int (0 : Int32)) = .int xe) (hr : ws_.getD K (.int (0 : Int32)) = .int xr) (hv : pk < pt → xe = pa + own_src pk pf pn pl ∧ xr = pb - (3 : Int32) * own_src pk pf pn pl) :
    MetFree l (⟨"com/example/shiftwise/shiftwise/search/AutomatonMovesJoinLanesPinLaw", "check", "(Lcom/example/shiftwise/shiftwise/search/ScanBlock;IIIIIII)Z"⟩ : MethodName) (head1 (Jvm.Cond.code (⟨"com/example/shiftwise/shiftwise/search/AutomatonMovesJoinLanesPinLaw", "check", "(Lcom/example/shiftwise/shiftwise/search/ScanBlock;IIIIIII)Z"⟩ : MethodName) method_4_code 9 (some .boolean) :: ws) own_RC) (fun a U => a = #[(.ref o), (.int pk), (.int pf), (.int pn), (.int pl), (.int pt), (.int pa), (.int pb)] ∧ Z.Warmed39 U.vm ∧ U.heap = h0) (fun _ _ _ _ _ => True) (fun _ U oc_ U' => ∃ v_ L_, oc_ = .returned v_ ∧ own_QC Z o pk pf pn pl pt pa pb ae ar ke kr vs ws_ K xe xr h0 n0 v_ U'.heap L_ ∧ FrameEnd U oc_ U' L_ own_RC.cells own_RC.slots) := by
  refine MetFree.of_bodySF (plainFor_of_name own_pn_com_example_shiftwise_shiftwise_search_AutomatonMovesJoinLanesPinLaw) hisR ?_
  intro p e s m args below meth c s₁ Bd hml0 hP hK
  obtain ⟨rfl, hZ, hh⟩ := hP
  have hx := Bd.exec
  have hby := Bd.bytes
  have hml : c.maxLocals = 9 := hml0
  have hown : s.vm.findClass "com/example/shiftwise/shiftwise/search/AutomatonMovesJoinLanesPinLaw" = some m.cls := findClass_of_methodNamed Bd.named
  have hnm := (name_of_methodNamed Bd.named Bd.method).1
  have X0 : Stand p l e own_RC s m #[(.ref o), (.int pk), (.int pf), (.int pn), (.int pl), (.int pt), (.int pa), (.int pb)] below meth c s₁ [] 0 0 := Stand.of_body Bd
  have e0 : s₁.heap = h0 := by rw [← hh, Bd.state]; rfl
  have N0 := Fr.nil n0
  refine own_in (fun _ k => castTop (own_efC m o pk pf pn pl pt pa pb) k) ?_
  intro RR hRR
  show own_Go p.tables e below RR (s₁.setTop (mkF m 0 #[.val (.ref o), .val (.int pk), .val (.int pf), .val (.int pn), .val (.int pl), .val (.int pt), .val (.int pa), .val (.int pb), .unset] []))
  refine own_st (fun _ k => XS.iloadN X0.here hx rfl (hb hby own_dmethod_4_code_0) rfl (XS.iload X0.here hx rfl (hb hby own_dmethod_4_code_1) rfl k)) ?_
  show own_Go p.tables e below RR (s₁.setTop (mkF m 3 #[.val (.ref o), .val (.int pk), .val (.int pf), .val (.int pn), .val (.int pl), .val (.int pt), .val (.int pa), .val (.int pb), .unset] [(.int pt), (.int pk)]))
  by_cases hc3_1 : pk < pt
  · refine own_st (fun _ k => XS.icmpYes X0.here hx rfl (pc0 := 3) (pc' := 8) rfl (hb hby own_dmethod_4_code_3) rfl (tlt hc3_1).1 (by decide) (by decide) (XS.iloadN X0.here hx rfl (hb hby own_dmethod_4_code_8) rfl (XS.iloadN X0.here hx rfl (hb hby own_dmethod_4_code_9) rfl k))) ?_
    show own_Go p.tables e below RR (s₁.setTop (mkF m 10 #[.val (.ref o), .val (.int pk), .val (.int pf), .val (.int pn), .val (.int pl), .val (.int pt), .val (.int pa), .val (.int pb), .unset] [(.int pf), (.int pk)]))
    by_cases hc10_2 : pk < pf
    · refine own_st (fun _ k => XS.icmpNo X0.here hx rfl (hb hby own_dmethod_4_code_10) rfl (tlt hc10_2).2.1 (XS.iloadN X0.here hx rfl (hb hby own_dmethod_4_code_13) rfl (XS.istore X0.here hx rfl (hb hby own_dmethod_4_code_14) rfl (l' := #[.val (.ref o), .val (.int pk), .val (.int pf), .val (.int pn), .val (.int pl), .val (.int pt), .val (.int pa), .val (.int pb), .val (.int pk)]) rfl (XS.goto X0.here hx rfl (pc0 := 16) (pc' := 49) rfl (hb hby own_dmethod_4_code_16) (by decide) (by decide) (XS.aloadN X0.here hx rfl (hb hby own_dmethod_4_code_49) rfl rfl k))))) ?_
      show own_Go p.tables e below RR (s₁.setTop (mkF m 50 #[.val (.ref o), .val (.int pk), .val (.int pf), .val (.int pn), .val (.int pl), .val (.int pt), .val (.int pa), .val (.int pb), .val (.int pk)] [(.ref o)]))
      obtain ⟨T3, X3, e3, st3⟩ := getF X0 hx hZ hown (host := "") (Or.inl (hw _ (List.mem_of_getElem? (i := 21) rfl))) Via.refl e0 Fe (g := (mkF m 50 #[.val (.ref o), .val (.int pk), .val (.int pf), .val (.int pn), .val (.int pl), .val (.int pt), .val (.int pa), .val (.int pb), .val (.int pk)] [(.ref o)])) rfl rfl (hb hby own_dmethod_4_code_50)
      refine own_st st3 ?_
      show own_Go p.tables e below RR (T3.setTop (mkF m 53 #[.val (.ref o), .val (.int pk), .val (.int pf), .val (.int pn), .val (.int pl), .val (.int pt), .val (.int pa), .val (.int pb), .val (.int pk)] [(.ref ae)]))
      refine own_st (fun _ k => XS.iloadN X3.here hx rfl (hb hby own_dmethod_4_code_53) rfl k) ?_
      show own_Go p.tables e below RR (T3.setTop (mkF m 54 #[.val (.ref o), .val (.int pk), .val (.int pf), .val (.int pn), .val (.int pl), .val (.int pt), .val (.int pa), .val (.int pb), .val (.int pk)] [(.int pk), (.ref ae)]))
      obtain ⟨c4, A4, q4, s4, m4, H4, G4⟩ := id Ve
      have b4 := inb_of (j := pk) s4 ⟨own_nn hk, by rw [Int32.lt_iff_toInt_lt, hk]; have : (9 : Int32).toInt = 9 := (by decide); omega⟩
      refine own_st (fun _ k => X3.iaload hx (j := pk) (v := (.int xe)) (by rw [e3]; exact A4.1) (State.isArrayOf_alike hZ.alike A4.2.1) A4.2.2 b4 (Has.at H4 b4 (by rw [own_nc hk]; exact he)) (g := (mkF m 54 #[.val (.ref o), .val (.int pk), .val (.int pf), .val (.int pn), .val (.int pl), .val (.int pt), .val (.int pa), .val (.int pb), .val (.int pk)] [(.int pk), (.ref ae)])) rfl rfl (hb hby own_dmethod_4_code_54) _ (XS.iload X3.here hx rfl (hb hby own_dmethod_4_code_55) rfl (XS.iload X3.here hx rfl (hb hby own_dmethod_4_code_57) rfl (XS.iadd X3.here hx rfl (hb hby own_dmethod_4_code_59) rfl k)))) ?_
      show own_Go p.tables e below RR (T3.setTop (mkF m 60 #[.val (.ref o), .val (.int pk), .val (.int pf), .val (.int pn), .val (.int pl), .val (.int pt), .val (.int pa), .val (.int pb), .val (.int pk)] [(.int (pa + pk)), (.int xe)]))
      have hc60_5 : xe = (pa + pk) := by have q := (hv hc3_1).1; simpa only [own_src, hc3_1, hc10_2, if_true, if_false] using q
      refine own_st (fun _ k => XS.icmpNo X3.here hx rfl (hb hby own_dmethod_4_code_60) rfl (teq hc60_5).2 (XS.aloadN X3.here hx rfl (hb hby own_dmethod_4_code_63) rfl rfl k)) ?_
      show own_Go p.tables e below RR (T3.setTop (mkF m 64 #[.val (.ref o), .val (.int pk), .val (.int pf), .val (.int pn), .val (.int pl), .val (.int pt), .val (.int pa), .val (.int pb), .val (.int pk)] [(.ref o)]))
      obtain ⟨T6, X6, e6, st6⟩ := getF X3 hx hZ hown (host := "") (Or.inl (hw _ (List.mem_of_getElem? (i := 22) rfl))) Via.refl e3 Frr (g := (mkF m 64 #[.val (.ref o), .val (.int pk), .val (.int pf), .val (.int pn), .val (.int pl), .val (.int pt), .val (.int pa), .val (.int pb), .val (.int pk)] [(.ref o)])) rfl rfl (hb hby own_dmethod_4_code_64)
      refine own_st st6 ?_
      show own_Go p.tables e below RR (T6.setTop (mkF m 67 #[.val (.ref o), .val (.int pk), .val (.int pf), .val (.int pn), .val (.int pl), .val (.int pt), .val (.int pa), .val (.int pb), .val (.int pk)] [(.ref ar)]))
      refine own_st (fun _ k => XS.iloadN X6.here hx rfl (hb hby own_dmethod_4_code_67) rfl k) ?_
      show own_Go p.tables e below RR (T6.setTop (mkF m 68 #[.val (.ref o), .val (.int pk), .val (.int pf), .val (.int pn), .val (.int pl), .val (.int pt), .val (.int pa), .val (.int pb), .val (.int pk)] [(.int pk), (.ref ar)]))
      obtain ⟨c7, A7, q7, s7, m7, H7, G7⟩ := id Vr
      have b7 := inb_of (j := pk) s7 ⟨own_nn hk, by rw [Int32.lt_iff_toInt_lt, hk]; have : (9 : Int32).toInt = 9 := (by decide); omega⟩
      refine own_st (fun _ k => X6.iaload hx (j := pk) (v := (.int xr)) (by rw [e6]; exact A7.1) (State.isArrayOf_alike hZ.alike A7.2.1) A7.2.2 b7 (Has.at H7 b7 (by rw [own_nc hk]; exact hr)) (g := (mkF m 68 #[.val (.ref o), .val (.int pk), .val (.int pf), .val (.int pn), .val (.int pl), .val (.int pt), .val (.int pa), .val (.int pb), .val (.int pk)] [(.int pk), (.ref ar)])) rfl rfl (hb hby own_dmethod_4_code_68) _ (XS.iload X6.here hx rfl (hb hby own_dmethod_4_code_69) rfl (XS.iconst X6.here hx rfl (hb hby own_dmethod_4_code_71) (XS.iload X6.here hx rfl (hb hby own_dmethod_4_code_72) rfl (XS.imul X6.here hx rfl (hb hby own_dmethod_4_code_74) rfl (XS.isub X6.here hx rfl (hb hby own_dmethod_4_code_75) rfl k)))))) ?_
      show own_Go p.tables e below RR (T6.setTop (mkF m 76 #[.val (.ref o), .val (.int pk), .val (.int pf), .val (.int pn), .val (.int pl), .val (.int pt), .val (.int pa), .val (.int pb), .val (.int pk)] [(.int (pb - ((3 : Int32) * pk))), (.int xr)]))
      have hc76_8 : xr = (pb - ((3 : Int32) * pk)) := by have q := (hv hc3_1).2; simpa only [own_src, hc3_1, hc10_2, if_true, if_false] using q
      refine own_st (fun _ k => XS.icmpNo X6.here hx rfl (hb hby own_dmethod_4_code_76) rfl (teq hc76_8).2 (XS.iconst X6.here hx rfl (hb hby own_dmethod_4_code_79) (XS.goto X6.here hx rfl (pc0 := 80) (pc' := 84) rfl (hb hby own_dmethod_4_code_80) (by decide) (by decide) k))) ?_
      show own_Go p.tables e below RR (T6.setTop (mkF m 84 #[.val (.ref o), .val (.int pk), .val (.int pf), .val (.int pn), .val (.int pl), .val (.int pt), .val (.int pa), .val (.int pb), .val (.int pk)] [(.int (1 : Int32))]))
      obtain ⟨fs, hrt_, hrun, hended, hW, hsame⟩ := X6.leave (v := some (.int (1 : Int32))) (fun h => by rw [Bd.returns] at h; cases h)
      refine own_fin (retN X6 hx (t := .boolean) Bd.returns (by simp) (hb hby own_dmethod_4_code_84) hrt_) (hRR _ ⟨_, hrun, hended, _, _, rfl, ?_, ⟨_, rfl⟩, hW, hsame.mono (by decide) (by decide)⟩)
      show own_QC Z o pk pf pn pl pt pa pb ae ar ke kr vs ws_ K xe xr h0 n0 _ T6.heap _
      rw [e6]
      exact ⟨rfl, N0, rfl⟩
    · refine own_st (fun _ k => XS.icmpYes X0.here hx rfl (pc0 := 10) (pc' := 19) rfl (hb hby own_dmethod_4_code_10) rfl (flt hc10_2).2.1 (by decide) (by decide) (XS.iloadN X0.here hx rfl (hb hby own_dmethod_4_code_19) rfl (XS.iloadN X0.here hx rfl (hb hby own_dmethod_4_code_20) rfl (XS.iloadN X0.here hx rfl (hb hby own_dmethod_4_code_21) rfl (XS.iadd X0.here hx rfl (hb hby own_dmethod_4_code_22) rfl k))))) ?_
      show own_Go p.tables e below RR (s₁.setTop (mkF m 23 #[.val (.ref o), .val (.int pk), .val (.int pf), .val (.int pn), .val (.int pl), .val (.int pt), .val (.int pa), .val (.int pb), .unset] [(.int (pf + pn)), (.int pk)]))
      by_cases hc23_9 : pk < (pf + pn)
      · refine own_st (fun _ k => XS.icmpNo X0.here hx rfl (hb hby own_dmethod_4_code_23) rfl (tlt hc23_9).2.1 (XS.iload X0.here hx rfl (hb hby own_dmethod_4_code_26) rfl (XS.iloadN X0.here hx rfl (hb hby own_dmethod_4_code_28) rfl (XS.iadd X0.here hx rfl (hb hby own_dmethod_4_code_29) rfl (XS.iloadN X0.here hx rfl (hb hby own_dmethod_4_code_30) rfl (XS.isub X0.here hx rfl (hb hby own_dmethod_4_code_31) rfl (XS.istore X0.here hx rfl (hb hby own_dmethod_4_code_32) rfl (l' := #[.val (.ref o), .val (.int pk), .val (.int pf), .val (.int pn), .val (.int pl), .val (.int pt), .val (.int pa), .val (.int pb), .val (.int ((pl + pk) - pf))]) rfl (XS.goto X0.here hx rfl (pc0 := 34) (pc' := 49) rfl (hb hby own_dmethod_4_code_34) (by decide) (by decide) k)))))))) ?_
        show own_Go p.tables e below RR (s₁.setTop (mkF m 49 #[.val (.ref o), .val (.int pk), .val (.int pf), .val (.int pn), .val (.int pl), .val (.int pt), .val (.int pa), .val (.int pb), .val (.int ((pl + pk) - pf))] []))
        refine own_st (fun _ k => XS.aloadN X0.here hx rfl (hb hby own_dmethod_4_code_49) rfl rfl k) ?_
        show own_Go p.tables e below RR (s₁.setTop (mkF m 50 #[.val (.ref o), .val (.int pk), .val (.int pf), .val (.int pn), .val (.int pl), .val (.int pt), .val (.int pa), .val (.int pb), .val (.int ((pl + pk) - pf))] [(.ref o)]))
        obtain ⟨T10, X10, e10, st10⟩ := getF X0 hx hZ hown (host := "") (Or.inl (hw _ (List.mem_of_getElem? (i := 21) rfl))) Via.refl e0 Fe (g := (mkF m 50 #[.val (.ref o), .val (.int pk), .val (.int pf), .val (.int pn), .val (.int pl), .val (.int pt), .val (.int pa), .val (.int pb), .val (.int ((pl + pk) - pf))] [(.ref o)])) rfl rfl (hb hby own_dmethod_4_code_50)
        refine own_st st10 ?_
        show own_Go p.tables e below RR (T10.setTop (mkF m 53 #[.val (.ref o), .val (.int pk), .val (.int pf), .val (.int pn), .val (.int pl), .val (.int pt), .val (.int pa), .val (.int pb), .val (.int ((pl + pk) - pf))] [(.ref ae)]))
        refine own_st (fun _ k => XS.iloadN X10.here hx rfl (hb hby own_dmethod_4_code_53) rfl k) ?_
        show own_Go p.tables e below RR (T10.setTop (mkF m 54 #[.val (.ref o), .val (.int pk), .val (.int pf), .val (.int pn), .val (.int pl), .val (.int pt), .val (.int pa), .val (.int pb), .val (.int ((pl + pk) - pf))] [(.int pk), (.ref ae)]))
        obtain ⟨c11, A11, q11, s11, m11, H11, G11⟩ := id Ve
        have b11 := inb_of (j := pk) s11 ⟨own_nn hk, by rw [Int32.lt_iff_toInt_lt, hk]; have : (9 : Int32).toInt = 9 := (by decide); omega⟩
        refine own_st (fun _ k => X10.iaload hx (j := pk) (v := (.int xe)) (by rw [e10]; exact A11.1) (State.isArrayOf_alike hZ.alike A11.2.1) A11.2.2 b11 (Has.at H11 b11 (by rw [own_nc hk]; exact he)) (g := (mkF m 54 #[.val (.ref o), .val (.int pk), .val (.int pf), .val (.int pn), .val (.int pl), .val (.int pt), .val (.int pa), .val (.int pb), .val (.int ((pl + pk) - pf))] [(.int pk), (.ref ae)])) rfl rfl (hb hby own_dmethod_4_code_54) _ (XS.iload X10.here hx rfl (hb hby own_dmethod_4_code_55) rfl (XS.iload X10.here hx rfl (hb hby own_dmethod_4_code_57) rfl (XS.iadd X10.here hx rfl (hb hby own_dmethod_4_code_59) rfl k)))) ?_
        show own_Go p.tables e below RR (T10.setTop (mkF m 60 #[.val (.ref o), .val (.int pk), .val (.int pf), .val (.int pn), .val (.int pl), .val (.int pt), .val (.int pa), .val (.int pb), .val (.int ((pl + pk) - pf))] [(.int (pa + ((pl + pk) - pf))), (.int xe)]))
        have hc60_12 : xe = (pa + ((pl + pk) - pf)) := by have q := (hv hc3_1).1; simpa only [own_src, hc3_1, hc10_2, hc23_9, if_true, if_false] using q
        refine own_st (fun _ k => XS.icmpNo X10.here hx rfl (hb hby own_dmethod_4_code_60) rfl (teq hc60_12).2 (XS.aloadN X10.here hx rfl (hb hby own_dmethod_4_code_63) rfl rfl k)) ?_
        show own_Go p.tables e below RR (T10.setTop (mkF m 64 #[.val (.ref o), .val (.int pk), .val (.int pf), .val (.int pn), .val (.int pl), .val (.int pt), .val (.int pa), .val (.int pb), .val (.int ((pl + pk) - pf))] [(.ref o)]))
        obtain ⟨T13, X13, e13, st13⟩ := getF X10 hx hZ hown (host := "") (Or.inl (hw _ (List.mem_of_getElem? (i := 22) rfl))) Via.refl e10 Frr (g := (mkF m 64 #[.val (.ref o), .val (.int pk), .val (.int pf), .val (.int pn), .val (.int pl), .val (.int pt), .val (.int pa), .val (.int pb), .val (.int ((pl + pk) - pf))] [(.ref o)])) rfl rfl (hb hby own_dmethod_4_code_64)
        refine own_st st13 ?_
        show own_Go p.tables e below RR (T13.setTop (mkF m 67 #[.val (.ref o), .val (.int pk), .val (.int pf), .val (.int pn), .val (.int pl), .val (.int pt), .val (.int pa), .val (.int pb), .val (.int ((pl + pk) - pf))] [(.ref ar)]))
        refine own_st (fun _ k => XS.iloadN X13.here hx rfl (hb hby own_dmethod_4_code_67) rfl k) ?_
        show own_Go p.tables e below RR (T13.setTop (mkF m 68 #[.val (.ref o), .val (.int pk), .val (.int pf), .val (.int pn), .val (.int pl), .val (.int pt), .val (.int pa), .val (.int pb), .val (.int ((pl + pk) - pf))] [(.int pk), (.ref ar)]))
        obtain ⟨c14, A14, q14, s14, m14, H14, G14⟩ := id Vr
        have b14 := inb_of (j := pk) s14 ⟨own_nn hk, by rw [Int32.lt_iff_toInt_lt, hk]; have : (9 : Int32).toInt = 9 := (by decide); omega⟩
        refine own_st (fun _ k => X13.iaload hx (j := pk) (v := (.int xr)) (by rw [e13]; exact A14.1) (State.isArrayOf_alike hZ.alike A14.2.1) A14.2.2 b14 (Has.at H14 b14 (by rw [own_nc hk]; exact hr)) (g := (mkF m 68 #[.val (.ref o), .val (.int pk), .val (.int pf), .val (.int pn), .val (.int pl), .val (.int pt), .val (.int pa), .val (.int pb), .val (.int ((pl + pk) - pf))] [(.int pk), (.ref ar)])) rfl rfl (hb hby own_dmethod_4_code_68) _ (XS.iload X13.here hx rfl (hb hby own_dmethod_4_code_69) rfl (XS.iconst X13.here hx rfl (hb hby own_dmethod_4_code_71) (XS.iload X13.here hx rfl (hb hby own_dmethod_4_code_72) rfl (XS.imul X13.here hx rfl (hb hby own_dmethod_4_code_74) rfl (XS.isub X13.here hx rfl (hb hby own_dmethod_4_code_75) rfl k)))))) ?_
        show own_Go p.tables e below RR (T13.setTop (mkF m 76 #[.val (.ref o), .val (.int pk), .val (.int pf), .val (.int pn), .val (.int pl), .val (.int pt), .val (.int pa), .val (.int pb), .val (.int ((pl + pk) - pf))] [(.int (pb - ((3 : Int32) * ((pl + pk) - pf)))), (.int xr)]))
        have hc76_15 : xr = (pb - ((3 : Int32) * ((pl + pk) - pf))) := by have q := (hv hc3_1).2; simpa only [own_src, hc3_1, hc10_2, hc23_9, if_true, if_false] using q
        refine own_st (fun _ k => XS.icmpNo X13.here hx rfl (hb hby own_dmethod_4_code_76) rfl (teq hc76_15).2 (XS.iconst X13.here hx rfl (hb hby own_dmethod_4_code_79) (XS.goto X13.here hx rfl (pc0 := 80) (pc' := 84) rfl (hb hby own_dmethod_4_code_80) (by decide) (by decide) k))) ?_
        show own_Go p.tables e below RR (T13.setTop (mkF m 84 #[.val (.ref o), .val (.int pk), .val (.int pf), .val (.int pn), .val (.int pl), .val (.int pt), .val (.int pa), .val (.int pb), .val (.int ((pl + pk) - pf))] [(.int (1 : Int32))]))
        obtain ⟨fs, hrt_, hrun, hended, hW, hsame⟩ := X13.leave (v := some (.int (1 : Int32))) (fun h => by rw [Bd.returns] at h; cases h)
        refine own_fin (retN X13 hx (t := .boolean) Bd.returns (by simp) (hb hby own_dmethod_4_code_84) hrt_) (hRR _ ⟨_, hrun, hended, _, _, rfl, ?_, ⟨_, rfl⟩, hW, hsame.mono (by decide) (by decide)⟩)
        show own_QC Z o pk pf pn pl pt pa pb ae ar ke kr vs ws_ K xe xr h0 n0 _ T13.heap _
        rw [e13]
        exact ⟨rfl, N0, rfl⟩
      · refine own_st (fun _ k => XS.icmpYes X0.here hx rfl (pc0 := 23) (pc' := 37) rfl (hb hby own_dmethod_4_code_23) rfl (flt hc23_9).2.1 (by decide) (by decide) (XS.iconst X0.here hx rfl (hb hby own_dmethod_4_code_37) (XS.iload X0.here hx rfl (hb hby own_dmethod_4_code_38) rfl (XS.imul X0.here hx rfl (hb hby own_dmethod_4_code_40) rfl (XS.iloadN X0.here hx rfl (hb hby own_dmethod_4_code_41) rfl (XS.iadd X0.here hx rfl (hb hby own_dmethod_4_code_42) rfl (XS.iloadN X0.here hx rfl (hb hby own_dmethod_4_code_43) rfl (XS.isub X0.here hx rfl (hb hby own_dmethod_4_code_44) rfl k)))))))) ?_
        show own_Go p.tables e below RR (s₁.setTop (mkF m 45 #[.val (.ref o), .val (.int pk), .val (.int pf), .val (.int pn), .val (.int pl), .val (.int pt), .val (.int pa), .val (.int pb), .unset] [(.int ((((2 : Int32) * pl) + pk) - pf))]))
        refine own_st (fun _ k => XS.iloadN X0.here hx rfl (hb hby own_dmethod_4_code_45) rfl (XS.isub X0.here hx rfl (hb hby own_dmethod_4_code_46) rfl (XS.istore X0.here hx rfl (hb hby own_dmethod_4_code_47) rfl (l' := #[.val (.ref o), .val (.int pk), .val (.int pf), .val (.int pn), .val (.int pl), .val (.int pt), .val (.int pa), .val (.int pb), .val (.int (((((2 : Int32) * pl) + pk) - pf) - pn))]) rfl (XS.aloadN X0.here hx rfl (hb hby own_dmethod_4_code_49) rfl rfl k)))) ?_
        show own_Go p.tables e below RR (s₁.setTop (mkF m 50 #[.val (.ref o), .val (.int pk), .val (.int pf), .val (.int pn), .val (.int pl), .val (.int pt), .val (.int pa), .val (.int pb), .val (.int (((((2 : Int32) * pl) + pk) - pf) - pn))] [(.ref o)]))
        obtain ⟨T16, X16, e16, st16⟩ := getF X0 hx hZ hown (host := "") (Or.inl (hw _ (List.mem_of_getElem? (i := 21) rfl))) Via.refl e0 Fe (g := (mkF m 50 #[.val (.ref o), .val (.int pk), .val (.int pf), .val (.int pn), .val (.int pl), .val (.int pt), .val (.int pa), .val (.int pb), .val (.int (((((2 : Int32) * pl) + pk) - pf) - pn))] [(.ref o)])) rfl rfl (hb hby own_dmethod_4_code_50)
        refine own_st st16 ?_
        show own_Go p.tables e below RR (T16.setTop (mkF m 53 #[.val (.ref o), .val (.int pk), .val (.int pf), .val (.int pn), .val (.int pl), .val (.int pt), .val (.int pa), .val (.int pb), .val (.int (((((2 : Int32) * pl) + pk) - pf) - pn))] [(.ref ae)]))
        refine own_st (fun _ k => XS.iloadN X16.here hx rfl (hb hby own_dmethod_4_code_53) rfl k) ?_
        show own_Go p.tables e below RR (T16.setTop (mkF m 54 #[.val (.ref o), .val (.int pk), .val (.int pf), .val (.int pn), .val (.int pl), .val (.int pt), .val (.int pa), .val (.int pb), .val (.int (((((2 : Int32) * pl) + pk) - pf) - pn))] [(.int pk), (.ref ae)]))
        obtain ⟨c17, A17, q17, s17, m17, H17, G17⟩ := id Ve
        have b17 := inb_of (j := pk) s17 ⟨own_nn hk, by rw [Int32.lt_iff_toInt_lt, hk]; have : (9 : Int32).toInt = 9 := (by decide); omega⟩
        refine own_st (fun _ k => X16.iaload hx (j := pk) (v := (.int xe)) (by rw [e16]; exact A17.1) (State.isArrayOf_alike hZ.alike A17.2.1) A17.2.2 b17 (Has.at H17 b17 (by rw [own_nc hk]; exact he)) (g := (mkF m 54 #[.val (.ref o), .val (.int pk), .val (.int pf), .val (.int pn), .val (.int pl), .val (.int pt), .val (.int pa), .val (.int pb), .val (.int (((((2 : Int32) * pl) + pk) - pf) - pn))] [(.int pk), (.ref ae)])) rfl rfl (hb hby own_dmethod_4_code_54) _ (XS.iload X16.here hx rfl (hb hby own_dmethod_4_code_55) rfl (XS.iload X16.here hx rfl (hb hby own_dmethod_4_code_57) rfl (XS.iadd X16.here hx rfl (hb hby own_dmethod_4_code_59) rfl k)))) ?_
        show own_Go p.tables e below RR (T16.setTop (mkF m 60 #[.val (.ref o), .val (.int pk), .val (.int pf), .val (.int pn), .val (.int pl), .val (.int pt), .val (.int pa), .val (.int pb), .val (.int (((((2 : Int32) * pl) + pk) - pf) - pn))] [(.int (pa + (((((2 : Int32) * pl) + pk) - pf) - pn))), (.int xe)]))
        have hc60_18 : xe = (pa + (((((2 : Int32) * pl) + pk) - pf) - pn)) := by have q := (hv hc3_1).1; simpa only [own_src, hc3_1, hc10_2, hc23_9, if_true, if_false] using q
        refine own_st (fun _ k => XS.icmpNo X16.here hx rfl (hb hby own_dmethod_4_code_60) rfl (teq hc60_18).2 (XS.aloadN X16.here hx rfl (hb hby own_dmethod_4_code_63) rfl rfl k)) ?_
        show own_Go p.tables e below RR (T16.setTop (mkF m 64 #[.val (.ref o), .val (.int pk), .val (.int pf), .val (.int pn), .val (.int pl), .val (.int pt), .val (.int pa), .val (.int pb), .val (.int (((((2 : Int32) * pl) + pk) - pf) - pn))] [(.ref o)]))
        obtain ⟨T19, X19, e19, st19⟩ := getF X16 hx hZ hown (host := "") (Or.inl (hw _ (List.mem_of_getElem? (i := 22) rfl))) Via.refl e16 Frr (g := (mkF m 64 #[.val (.ref o), .val (.int pk), .val (.int pf), .val (.int pn), .val (.int pl), .val (.int pt), .val (.int pa), .val (.int pb), .val (.int (((((2 : Int32) * pl) + pk) - pf) - pn))] [(.ref o)])) rfl rfl (hb hby own_dmethod_4_code_64)
        refine own_st st19 ?_
        show own_Go p.tables e below RR (T19.setTop (mkF m 67 #[.val (.ref o), .val (.int pk), .val (.int pf), .val (.int pn), .val (.int pl), .val (.int pt), .val (.int pa), .val (.int pb), .val (.int (((((2 : Int32) * pl) + pk) - pf) - pn))] [(.ref ar)]))
        refine own_st (fun _ k => XS.iloadN X19.here hx rfl (hb hby own_dmethod_4_code_67) rfl k) ?_
        show own_Go p.tables e below RR (T19.setTop (mkF m 68 #[.val (.ref o), .val (.int pk), .val (.int pf), .val (.int pn), .val (.int pl), .val (.int pt), .val (.int pa), .val (.int pb), .val (.int (((((2 : Int32) * pl) + pk) - pf) - pn))] [(.int pk), (.ref ar)]))
        obtain ⟨c20, A20, q20, s20, m20, H20, G20⟩ := id Vr
        have b20 := inb_of (j := pk) s20 ⟨own_nn hk, by rw [Int32.lt_iff_toInt_lt, hk]; have : (9 : Int32).toInt = 9 := (by decide); omega⟩
        refine own_st (fun _ k => X19.iaload hx (j := pk) (v := (.int xr)) (by rw [e19]; exact A20.1) (State.isArrayOf_alike hZ.alike A20.2.1) A20.2.2 b20 (Has.at H20 b20 (by rw [own_nc hk]; exact hr)) (g := (mkF m 68 #[.val (.ref o), .val (.int pk), .val (.int pf), .val (.int pn), .val (.int pl), .val (.int pt), .val (.int pa), .val (.int pb), .val (.int (((((2 : Int32) * pl) + pk) - pf) - pn))] [(.int pk), (.ref ar)])) rfl rfl (hb hby own_dmethod_4_code_68) _ (XS.iload X19.here hx rfl (hb hby own_dmethod_4_code_69) rfl (XS.iconst X19.here hx rfl (hb hby own_dmethod_4_code_71) (XS.iload X19.here hx rfl (hb hby own_dmethod_4_code_72) rfl (XS.imul X19.here hx rfl (hb hby own_dmethod_4_code_74) rfl (XS.isub X19.here hx rfl (hb hby own_dmethod_4_code_75) rfl k)))))) ?_
        show own_Go p.tables e below RR (T19.setTop (mkF m 76 #[.val (.ref o), .val (.int pk), .val (.int pf), .val (.int pn), .val (.int pl), .val (.int pt), .val (.int pa), .val (.int pb), .val (.int (((((2 : Int32) * pl) + pk) - pf) - pn))] [(.int (pb - ((3 : Int32) * (((((2 : Int32) * pl) + pk) - pf) - pn)))), (.int xr)]))
        have hc76_21 : xr = (pb - ((3 : Int32) * (((((2 : Int32) * pl) + pk) - pf) - pn))) := by have q := (hv hc3_1).2; simpa only [own_src, hc3_1, hc10_2, hc23_9, if_true, if_false] using q
        refine own_st (fun _ k => XS.icmpNo X19.here hx rfl (hb hby own_dmethod_4_code_76) rfl (teq hc76_21).2 (XS.iconst X19.here hx rfl (hb hby own_dmethod_4_code_79) (XS.goto X19.here hx rfl (pc0 := 80) (pc' := 84) rfl (hb hby own_dmethod_4_code_80) (by decide) (by decide) k))) ?_
        show own_Go p.tables e below RR (T19.setTop (mkF m 84 #[.val (.ref o), .val (.int pk), .val (.int pf), .val (.int pn), .val (.int pl), .val (.int pt), .val (.int pa), .val (.int pb), .val (.int (((((2 : Int32) * pl) + pk) - pf) - pn))] [(.int (1 : Int32))]))
        obtain ⟨fs, hrt_, hrun, hended, hW, hsame⟩ := X19.leave (v := some (.int (1 : Int32))) (fun h => by rw [Bd.returns] at h; cases h)
        refine own_fin (retN X19 hx (t := .boolean) Bd.returns (by simp) (hb hby own_dmethod_4_code_84) hrt_) (hRR _ ⟨_, hrun, hended, _, _, rfl, ?_, ⟨_, rfl⟩, hW, hsame.mono (by decide) (by decide)⟩)
        show own_QC Z o pk pf pn pl pt pa pb ae ar ke kr vs ws_ K xe xr h0 n0 _ T19.heap _
        rw [e19]
        exact ⟨rfl, N0, rfl⟩
  · refine own_st (fun _ k => XS.icmpNo X0.here hx rfl (hb hby own_dmethod_4_code_3) rfl (flt hc3_1).1 (XS.iconst X0.here hx rfl (hb hby own_dmethod_4_code_6) k)) ?_
    show own_Go p.tables e below RR (s₁.setTop (mkF m 7 #[.val (.ref o), .val (.int pk), .val (.int pf), .val (.int pn), .val (.int pl), .val (.int pt), .val (.int pa), .val (.int pb), .unset] [(.int (1 : Int32))]))
    obtain ⟨fs, hrt_, hrun, hended, hW, hsame⟩ := X0.leave (v := some (.int (1 : Int32))) (fun h => by rw [Bd.returns] at h; cases h)
    refine own_fin (retN X0 hx (t := .boolean) Bd.returns (by simp) (hb hby own_dmethod_4_code_7) hrt_) (hRR _ ⟨_, hrun, hended, _, _, rfl, ?_, ⟨_, rfl⟩, hW, hsame.mono (by decide) (by decide)⟩)
    show own_QC Z o pk pf pn pl pt pa pb ae ar ke kr vs ws_ K xe xr h0 n0 _ s₁.heap _
    rw [e0]
    exact ⟨rfl, N0, rfl⟩
theorem own_pd__I_V : parseMethodDescriptor "(I)V" = some ⟨[.int], none⟩ := by decide +kernel
theorem own_pd__Lcom_example_shiftwise_shiftwise_search_ScanBlock_III_V : parseMethodDescriptor "(Lcom/example/shiftwise/shiftwise/search/ScanBlock;III)V" = some ⟨[(.object "com/example/shiftwise/shiftwise/search/ScanBlock"), .int, .int, .int], none⟩ := by decide +kernel
theorem own_pd__Lcom_example_shiftwise_shiftwise_search_ScanBlock_IIII_V : parseMethodDescriptor "(Lcom/example/shiftwise/shiftwise/search/ScanBlock;IIII)V" = some ⟨[(.object "com/example/shiftwise/shiftwise/search/ScanBlock"), .int, .int, .int, .int], none⟩ := by decide +kernel
theorem own_pd__Lcom_example_shiftwise_shiftwise_search_ScanBlock_IIIIIII_Z : parseMethodDescriptor "(Lcom/example/shiftwise/shiftwise/search/ScanBlock;IIIIIII)Z" = some ⟨[(.object "com/example/shiftwise/shiftwise/search/ScanBlock"), .int, .int, .int, .int, .int, .int, .int], some .boolean⟩ := by decide +kernel
theorem own_ef0 (m : MethodId) (p1 : Int32) (p2 : Int32) (p3 : Int32) (p4 : Int32) (p5 : Int32) (p6 : Int32) : entryFrame m #[(.int p1), (.int p2), (.int p3), (.int p4), (.int p5), (.int p6)] maxLocals = mkF m 0 #[.val (.int p1), .val (.int p2), .val (.int p3), .val (.int p4), .val (.int p5), .val (.int p6), .unset, .unset, .unset, .unset, .unset, .unset, .unset, .unset] [] := by first | (simp [entryFrame, mkF, argsToLocals, Value.category, maxLocals]; done) | rfl
def own_Q0 (Z : State) (p1 : Int32) (p2 : Int32) (p3 : Int32) (p4 : Int32) (p5 : Int32) (p6 : Int32) (h0 : Heap) (n0 : Nat) (v_ : Option Value) (h : Heap) (L_ : List Loc) : Prop := v_ = some (.int 1) ∧ Fr n0 L_
set_option maxRecDepth 65536 in
set_option maxHeartbeats 40000000 in
theorem own_rm0 (l : Launch) (Z : State) (a0 : Array Value) (hw : ∀ d ∈ tables_1, d.before a0 Z = true) (ws : List Jvm.Cond) (p1 : Int32) (p2 : Int32) (p3 : Int32) (p4 : Int32) (p5 : Int32) (p6 : Int32) (h0 : Heap) (n0 : Nat) (Z0 : n0 ≤ h0.size)  :
    MetFree l x (head1 (Jvm.Cond.code x code maxLocals ret :: ws) room_1) (fun a U => a = #[(.int p1), (.int p2), (.int p3), (.int p4), (.int p5), (.int p6)] ∧ Z.Warmed39 U.vm ∧ U.heap = h0) (fun _ _ _ _ _ => True) (fun _ U oc_ U' => ∃ v_ L_, oc_ = .returned v_ ∧ own_Q0 Z p1 p2 p3 p4 p5 p6 h0 n0 v_ U'.heap L_ ∧ FrameEnd U oc_ U' L_ room_1.cells room_1.slots) := by
  refine MetFree.of_bodySF (plainFor_of_name own_pn_com_example_shiftwise_shiftwise_search_AutomatonMovesJoinLanesPinLaw) hisR ?_
  intro p e s m args below meth c s₁ Bd hml0 hP hK
  obtain ⟨rfl, hZ, hh⟩ := hP
  have hx := Bd.exec
  have hby := Bd.bytes
  have hml : c.maxLocals = 14 := hml0
  have hown : s.vm.findClass "com/example/shiftwise/shiftwise/search/AutomatonMovesJoinLanesPinLaw" = some m.cls := findClass_of_methodNamed Bd.named
  have hnm := (name_of_methodNamed Bd.named Bd.method).1
  have X0 : Stand p l e room_1 s m #[(.int p1), (.int p2), (.int p3), (.int p4), (.int p5), (.int p6)] below meth c s₁ [] 0 0 := Stand.of_body Bd
  have e0 : s₁.heap = h0 := by rw [← hh, Bd.state]; rfl
  have N0 := Fr.nil n0
  refine own_in (fun _ k => castTop (own_ef0 m p1 p2 p3 p4 p5 p6) k) ?_
  intro RR hRR
  show own_Go p.tables e below RR (s₁.setTop (mkF m 0 #[.val (.int p1), .val (.int p2), .val (.int p3), .val (.int p4), .val (.int p5), .val (.int p6), .unset, .unset, .unset, .unset, .unset, .unset, .unset, .unset] []))
  refine own_st (fun _ k => XS.iloadN X0.here hx rfl (hb hby at_0) rfl (XS.iconst X0.here hx rfl (hb hby at_1) (XS.iand X0.here hx rfl (hb hby at_2) rfl k))) ?_
  show own_Go p.tables e below RR (s₁.setTop (mkF m 3 #[.val (.int p1), .val (.int p2), .val (.int p3), .val (.int p4), .val (.int p5), .val (.int p6), .unset, .unset, .unset, .unset, .unset, .unset, .unset, .unset] [(.int (p1 &&& (3 : Int32)))]))
  generalize gv1 : (p1 &&& (3 : Int32)) = v1
  show own_Go p.tables e below RR (s₁.setTop (mkF m 3 #[.val (.int p1), .val (.int p2), .val (.int p3), .val (.int p4), .val (.int p5), .val (.int p6), .unset, .unset, .unset, .unset, .unset, .unset, .unset, .unset] [(.int v1)]))
  refine own_st (fun _ k => XS.istore X0.here hx rfl (hb hby at_3) rfl (l' := #[.val (.int p1), .val (.int p2), .val (.int p3), .val (.int p4), .val (.int p5), .val (.int p6), .val (.int v1), .unset, .unset, .unset, .unset, .unset, .unset, .unset]) rfl (XS.iloadN X0.here hx rfl (hb hby at_5) rfl (X0.ldcInt hx hown (mvT hZ (hw _ (List.mem_of_getElem? (i := 0) rfl))) (g := (mkF m 6 #[.val (.int p1), .val (.int p2), .val (.int p3), .val (.int p4), .val (.int p5), .val (.int p6), .val (.int v1), .unset, .unset, .unset, .unset, .unset, .unset, .unset] [(.int p2)])) rfl (hb hby at_6) _ (XS.iand X0.here hx rfl (hb hby at_8) rfl (XS.iload X0.here hx rfl (hb hby at_9) rfl (XS.iconst X0.here hx rfl (hb hby at_11) (XS.iadd X0.here hx rfl (hb hby at_12) rfl k))))))) ?_
  show own_Go p.tables e below RR (s₁.setTop (mkF m 13 #[.val (.int p1), .val (.int p2), .val (.int p3), .val (.int p4), .val (.int p5), .val (.int p6), .val (.int v1), .unset, .unset, .unset, .unset, .unset, .unset, .unset] [(.int (v1 + (1 : Int32))), (.int (p2 &&& (2147483647 : Int32)))]))
  refine own_st (fun _ k => XS.irem X0.here hx rfl (hb hby at_13) rfl (own_nz (by rw [own_l1 (own_lane gv1)]; have := own_lane gv1; omega)) k) ?_
  show own_Go p.tables e below RR (s₁.setTop (mkF m 14 #[.val (.int p1), .val (.int p2), .val (.int p3), .val (.int p4), .val (.int p5), .val (.int p6), .val (.int v1), .unset, .unset, .unset, .unset, .unset, .unset, .unset] [(.int ((p2 &&& (2147483647 : Int32)) - ((p2 &&& (2147483647 : Int32)) / (v1 + (1 : Int32))) * (v1 + (1 : Int32))))]))
  rw [irem_eq_mod (p2 &&& (2147483647 : Int32)) (v1 + (1 : Int32))]
  show own_Go p.tables e below RR (s₁.setTop (mkF m 14 #[.val (.int p1), .val (.int p2), .val (.int p3), .val (.int p4), .val (.int p5), .val (.int p6), .val (.int v1), .unset, .unset, .unset, .unset, .unset, .unset, .unset] [(.int ((p2 &&& (2147483647 : Int32)) % (v1 + (1 : Int32))))]))
  generalize gv2 : ((p2 &&& (2147483647 : Int32)) % (v1 + (1 : Int32))) = v2
  show own_Go p.tables e below RR (s₁.setTop (mkF m 14 #[.val (.int p1), .val (.int p2), .val (.int p3), .val (.int p4), .val (.int p5), .val (.int p6), .val (.int v1), .unset, .unset, .unset, .unset, .unset, .unset, .unset] [(.int v2)]))
  refine own_st (fun _ k => XS.istore X0.here hx rfl (hb hby at_14) rfl (l' := #[.val (.int p1), .val (.int p2), .val (.int p3), .val (.int p4), .val (.int p5), .val (.int p6), .val (.int v1), .val (.int v2), .unset, .unset, .unset, .unset, .unset, .unset]) rfl (XS.iload X0.here hx rfl (hb hby at_16) rfl (XS.iloadN X0.here hx rfl (hb hby at_18) rfl (X0.ldcInt hx hown (mvT hZ (hw _ (List.mem_of_getElem? (i := 0) rfl))) (g := (mkF m 19 #[.val (.int p1), .val (.int p2), .val (.int p3), .val (.int p4), .val (.int p5), .val (.int p6), .val (.int v1), .val (.int v2), .unset, .unset, .unset, .unset, .unset, .unset] [(.int p3), (.int v1)])) rfl (hb hby at_19) _ (XS.iand X0.here hx rfl (hb hby at_21) rfl (XS.iload X0.here hx rfl (hb hby at_22) rfl (XS.iconst X0.here hx rfl (hb hby at_24) (XS.iadd X0.here hx rfl (hb hby at_25) rfl k)))))))) ?_
  show own_Go p.tables e below RR (s₁.setTop (mkF m 26 #[.val (.int p1), .val (.int p2), .val (.int p3), .val (.int p4), .val (.int p5), .val (.int p6), .val (.int v1), .val (.int v2), .unset, .unset, .unset, .unset, .unset, .unset] [(.int (v1 + (1 : Int32))), (.int (p3 &&& (2147483647 : Int32))), (.int v1)]))
  refine own_st (fun _ k => XS.irem X0.here hx rfl (hb hby at_26) rfl (own_nz (by rw [own_l1 (own_lane gv1)]; have := own_lane gv1; omega)) k) ?_
  show own_Go p.tables e below RR (s₁.setTop (mkF m 27 #[.val (.int p1), .val (.int p2), .val (.int p3), .val (.int p4), .val (.int p5), .val (.int p6), .val (.int v1), .val (.int v2), .unset, .unset, .unset, .unset, .unset, .unset] [(.int ((p3 &&& (2147483647 : Int32)) - ((p3 &&& (2147483647 : Int32)) / (v1 + (1 : Int32))) * (v1 + (1 : Int32)))), (.int v1)]))
  rw [irem_eq_mod (p3 &&& (2147483647 : Int32)) (v1 + (1 : Int32))]
  show own_Go p.tables e below RR (s₁.setTop (mkF m 27 #[.val (.int p1), .val (.int p2), .val (.int p3), .val (.int p4), .val (.int p5), .val (.int p6), .val (.int v1), .val (.int v2), .unset, .unset, .unset, .unset, .unset, .unset] [(.int ((p3 &&& (2147483647 : Int32)) % (v1 + (1 : Int32)))), (.int v1)]))
  refine own_st (fun _ k => XS.iadd X0.here hx rfl (hb hby at_27) rfl k) ?_
  show own_Go p.tables e below RR (s₁.setTop (mkF m 28 #[.val (.int p1), .val (.int p2), .val (.int p3), .val (.int p4), .val (.int p5), .val (.int p6), .val (.int v1), .val (.int v2), .unset, .unset, .unset, .unset, .unset, .unset] [(.int (v1 + ((p3 &&& (2147483647 : Int32)) % (v1 + (1 : Int32)))))]))
  generalize gv3 : (v1 + ((p3 &&& (2147483647 : Int32)) % (v1 + (1 : Int32)))) = v3
  show own_Go p.tables e below RR (s₁.setTop (mkF m 28 #[.val (.int p1), .val (.int p2), .val (.int p3), .val (.int p4), .val (.int p5), .val (.int p6), .val (.int v1), .val (.int v2), .unset, .unset, .unset, .unset, .unset, .unset] [(.int v3)]))
  refine own_st (fun _ k => XS.istore X0.here hx rfl (hb hby at_28) rfl (l' := #[.val (.int p1), .val (.int p2), .val (.int p3), .val (.int p4), .val (.int p5), .val (.int p6), .val (.int v1), .val (.int v2), .val (.int v3), .unset, .unset, .unset, .unset, .unset]) rfl (XS.iconst X0.here hx rfl (hb hby at_30) (XS.iload X0.here hx rfl (hb hby at_31) rfl (XS.imul X0.here hx rfl (hb hby at_33) rfl (XS.iloadN X0.here hx rfl (hb hby at_34) rfl (X0.ldcInt hx hown (mvT hZ (hw _ (List.mem_of_getElem? (i := 0) rfl))) (g := (mkF m 35 #[.val (.int p1), .val (.int p2), .val (.int p3), .val (.int p4), .val (.int p5), .val (.int p6), .val (.int v1), .val (.int v2), .val (.int v3), .unset, .unset, .unset, .unset, .unset] [(.int p4), (.int ((2 : Int32) * v1))])) rfl (hb hby at_35) _ (XS.iand X0.here hx rfl (hb hby at_37) rfl (XS.bipush X0.here hx rfl (hb hby at_38) k)))))))) ?_
  show own_Go p.tables e below RR (s₁.setTop (mkF m 40 #[.val (.int p1), .val (.int p2), .val (.int p3), .val (.int p4), .val (.int p5), .val (.int p6), .val (.int v1), .val (.int v2), .val (.int v3), .unset, .unset, .unset, .unset, .unset] [(.int (9 : Int32)), (.int (p4 &&& (2147483647 : Int32))), (.int ((2 : Int32) * v1))]))
  refine own_st (fun _ k => XS.iconst X0.here hx rfl (hb hby at_40) (XS.iload X0.here hx rfl (hb hby at_41) rfl (XS.imul X0.here hx rfl (hb hby at_43) rfl (XS.isub X0.here hx rfl (hb hby at_44) rfl (XS.iconst X0.here hx rfl (hb hby at_45) (XS.iadd X0.here hx rfl (hb hby at_46) rfl k)))))) ?_
  show own_Go p.tables e below RR (s₁.setTop (mkF m 47 #[.val (.int p1), .val (.int p2), .val (.int p3), .val (.int p4), .val (.int p5), .val (.int p6), .val (.int v1), .val (.int v2), .val (.int v3), .unset, .unset, .unset, .unset, .unset] [(.int (((9 : Int32) - ((2 : Int32) * v1)) + (1 : Int32))), (.int (p4 &&& (2147483647 : Int32))), (.int ((2 : Int32) * v1))]))
  refine own_st (fun _ k => XS.irem X0.here hx rfl (hb hby at_47) rfl (own_nz (by rw [own_l2 (own_lane gv1)]; have := own_lane gv1; omega)) k) ?_
  show own_Go p.tables e below RR (s₁.setTop (mkF m 48 #[.val (.int p1), .val (.int p2), .val (.int p3), .val (.int p4), .val (.int p5), .val (.int p6), .val (.int v1), .val (.int v2), .val (.int v3), .unset, .unset, .unset, .unset, .unset] [(.int ((p4 &&& (2147483647 : Int32)) - ((p4 &&& (2147483647 : Int32)) / (((9 : Int32) - ((2 : Int32) * v1)) + (1 : Int32))) * (((9 : Int32) - ((2 : Int32) * v1)) + (1 : Int32)))), (.int ((2 : Int32) * v1))]))
  rw [irem_eq_mod (p4 &&& (2147483647 : Int32)) (((9 : Int32) - ((2 : Int32) * v1)) + (1 : Int32))]
  show own_Go p.tables e below RR (s₁.setTop (mkF m 48 #[.val (.int p1), .val (.int p2), .val (.int p3), .val (.int p4), .val (.int p5), .val (.int p6), .val (.int v1), .val (.int v2), .val (.int v3), .unset, .unset, .unset, .unset, .unset] [(.int ((p4 &&& (2147483647 : Int32)) % (((9 : Int32) - ((2 : Int32) * v1)) + (1 : Int32)))), (.int ((2 : Int32) * v1))]))
  refine own_st (fun _ k => XS.iadd X0.here hx rfl (hb hby at_48) rfl k) ?_
  show own_Go p.tables e below RR (s₁.setTop (mkF m 49 #[.val (.int p1), .val (.int p2), .val (.int p3), .val (.int p4), .val (.int p5), .val (.int p6), .val (.int v1), .val (.int v2), .val (.int v3), .unset, .unset, .unset, .unset, .unset] [(.int (((2 : Int32) * v1) + ((p4 &&& (2147483647 : Int32)) % (((9 : Int32) - ((2 : Int32) * v1)) + (1 : Int32)))))]))
  generalize gv4 : (((2 : Int32) * v1) + ((p4 &&& (2147483647 : Int32)) % (((9 : Int32) - ((2 : Int32) * v1)) + (1 : Int32)))) = v4
  show own_Go p.tables e below RR (s₁.setTop (mkF m 49 #[.val (.int p1), .val (.int p2), .val (.int p3), .val (.int p4), .val (.int p5), .val (.int p6), .val (.int v1), .val (.int v2), .val (.int v3), .unset, .unset, .unset, .unset, .unset] [(.int v4)]))
  refine own_st (fun _ k => XS.istore X0.here hx rfl (hb hby at_49) rfl (l' := #[.val (.int p1), .val (.int p2), .val (.int p3), .val (.int p4), .val (.int p5), .val (.int p6), .val (.int v1), .val (.int v2), .val (.int v3), .val (.int v4), .unset, .unset, .unset, .unset]) rfl k) ?_
  show own_Go p.tables e below RR (s₁.setTop (mkF m 51 #[.val (.int p1), .val (.int p2), .val (.int p3), .val (.int p4), .val (.int p5), .val (.int p6), .val (.int v1), .val (.int v2), .val (.int v3), .val (.int v4), .unset, .unset, .unset, .unset] []))
  obtain ⟨T5, h5, X5, e5, E5, A5, D5, -, st5⟩ := newO X0 hx hZ hown (hw _ (List.mem_of_getElem? (i := 1) rfl)) (hw _ (List.mem_of_getElem? (i := 2) rfl)) (hw _ (List.mem_of_getElem? (i := 3) rfl)) e0 (g := (mkF m 51 #[.val (.int p1), .val (.int p2), .val (.int p3), .val (.int p4), .val (.int p5), .val (.int p6), .val (.int v1), .val (.int v2), .val (.int v3), .val (.int v4), .unset, .unset, .unset, .unset] [])) rfl (hb hby at_51) (by decide) (by decide)
  obtain ⟨b5, gb5⟩ : ∃ z, z = h0.size := ⟨_, rfl⟩
  rw [← gb5] at A5 D5 st5
  have ge5 : n0 ≤ b5 := Nat.le_trans Z0 (Nat.le_of_eq gb5.symm)
  refine own_st st5 ?_
  have z6 : n0 ≤ h5.size := Nat.le_trans Z0 E5.1
  have F5_12 : Fld Z h5 b5 "com/example/shiftwise/shiftwise/search/ScanBlock" "classes" "[I" .null := D5 (Or.inr (hw _ (List.mem_of_getElem? (i := 12) rfl))) (ty := (.array .int)) (by decide)
  have F5_14 : Fld Z h5 b5 "com/example/shiftwise/shiftwise/search/ScanBlock" "ends" "[I" .null := D5 (Or.inr (hw _ (List.mem_of_getElem? (i := 14) rfl))) (ty := (.array .int)) (by decide)
  have F5_16 : Fld Z h5 b5 "com/example/shiftwise/shiftwise/search/ScanBlock" "reports" "[I" .null := D5 (Or.inr (hw _ (List.mem_of_getElem? (i := 16) rfl))) (ty := (.array .int)) (by decide)
  have F5_37 : Fld Z h5 b5 "com/example/shiftwise/shiftwise/search/ScanBlock" "found" "I" (.int (0 : Int32)) := D5 (Or.inl (hw _ (List.mem_of_getElem? (i := 37) rfl))) (ty := .int) (by decide)
  show own_Go p.tables e below RR (T5.setTop (mkF m 54 #[.val (.int p1), .val (.int p2), .val (.int p3), .val (.int p4), .val (.int p5), .val (.int p6), .val (.int v1), .val (.int v2), .val (.int v3), .val (.int v4), .unset, .unset, .unset, .unset] [(.ref b5)]))
  refine own_st (fun _ k => XS.dup X5.here hx rfl (hb hby at_54) rfl rfl (XS.bipush X5.here hx rfl (hb hby at_55) k)) ?_
  show own_Go p.tables e below RR (T5.setTop (mkF m 57 #[.val (.int p1), .val (.int p2), .val (.int p3), .val (.int p4), .val (.int p5), .val (.int p6), .val (.int v1), .val (.int v2), .val (.int v3), .val (.int v4), .unset, .unset, .unset, .unset] [(.int (9 : Int32)), (.ref b5), (.ref b5)]))
  obtain ⟨_, _, ⟨T7, L7, k7, n7⟩, -, X7, ⟨Lc7, hQ7, l7, y7, z7⟩, st7⟩ := X5.specialBack hx (y := (⟨"com/example/shiftwise/shiftwise/search/ScanBlock", "<init>", "(I)V"⟩ : MethodName)) rfl hown (mvT hZ (hw _ (List.mem_of_getElem? (i := 4) rfl))) (mvT hZ (hw _ (List.mem_of_getElem? (i := 5) rfl))) (mvT hZ (hw _ (List.mem_of_getElem? (i := 6) rfl))) (by decide) (backOf (W := 1) (own_rmI l Z a0 hw [] b5 h5 n0 z6 ge5 A5 F5_12 F5_14 F5_16 F5_37) hZ (hw _ (List.mem_of_getElem? (i := 6) rfl)) (hw _ (List.mem_of_getElem? (i := 3) rfl)) (by decide) (by decide)) (g := (mkF m 57 #[.val (.int p1), .val (.int p2), .val (.int p3), .val (.int p4), .val (.int p5), .val (.int p6), .val (.int v1), .val (.int v2), .val (.int v3), .val (.int v4), .unset, .unset, .unset, .unset] [(.int (9 : Int32)), (.ref b5), (.ref b5)])) rfl (by rw [hml]; rfl) (Steps.refl _) (a := b5) (argsL := [(.int (9 : Int32))]) (rest := [(.ref b5)]) (lenOf own_pd__I_V rfl) rfl (by show 2 * 0 + _ ≤ _; exact Nat.le_of_eq rfl) (hb hby at_57) (fun _ _ => ⟨rfl, e5, (by decide : 1 + 3 ≤ _), (by decide : 5 + 27 ≤ _)⟩)
  dsimp only [Pt.U, Pt.locs, Pt.cells, Pt.slots] at X7 l7 y7 z7 st7 hQ7
  subst l7 y7 z7
  obtain ⟨rfl, Nq7, Kq7, Eq7, Ff7, ae, ar, ke, kr, s1, s2, ne3, Fe7, Fr7, Ve7, Vr7⟩ := hQ7
  have N7 := Fr.app N0 Nq7
  refine own_st (fun _ k => st7.trans k) ?_
  have z8 : n0 ≤ T7.heap.size := Nat.le_trans z6 Kq7.1
  have ne1 : b5 ≠ ae := Nat.ne_of_lt (Nat.lt_of_lt_of_le A5.lt s1)
  have ne2 : b5 ≠ ar := Nat.ne_of_lt (Nat.lt_of_lt_of_le A5.lt s2)
  have ge1 : n0 ≤ ae := Nat.le_trans z6 s1
  have ge2 : n0 ≤ ar := Nat.le_trans z6 s2
  show own_Go p.tables e below RR (T7.setTop (mkF m 60 #[.val (.int p1), .val (.int p2), .val (.int p3), .val (.int p4), .val (.int p5), .val (.int p6), .val (.int v1), .val (.int v2), .val (.int v3), .val (.int v4), .unset, .unset, .unset, .unset] [(.ref b5)]))
  refine own_st (fun _ k => XS.astore X7.here hx rfl (hb hby at_60) rfl rfl (l' := #[.val (.int p1), .val (.int p2), .val (.int p3), .val (.int p4), .val (.int p5), .val (.int p6), .val (.int v1), .val (.int v2), .val (.int v3), .val (.int v4), .val (.ref b5), .unset, .unset, .unset]) rfl (XS.aload X7.here hx rfl (hb hby at_62) rfl rfl (XS.iconst X7.here hx rfl (hb hby at_64) (XS.iload X7.here hx rfl (hb hby at_65) rfl (XS.iload X7.here hx rfl (hb hby at_67) rfl k))))) ?_
  show own_Go p.tables e below RR (T7.setTop (mkF m 69 #[.val (.int p1), .val (.int p2), .val (.int p3), .val (.int p4), .val (.int p5), .val (.int p6), .val (.int v1), .val (.int v2), .val (.int v3), .val (.int v4), .val (.ref b5), .unset, .unset, .unset] [(.int p6), (.int p5), (.int (0 : Int32)), (.ref b5)]))
  obtain ⟨_, _, ⟨T9, L9, k9, n9⟩, -, X9, ⟨Lc9, hQ9, l9, y9, z9⟩, st9⟩ := Jvm.LawKit.callS X7 hx (y := (⟨"com/example/shiftwise/shiftwise/search/AutomatonMovesJoinLanesPinLaw", "fill", "(Lcom/example/shiftwise/shiftwise/search/ScanBlock;III)V"⟩ : MethodName)) hown (mvT hZ (hw _ (List.mem_of_getElem? (i := 17) rfl))) (mvT hZ (hw _ (List.mem_of_getElem? (i := 18) rfl))) (mvT hZ (hw _ (List.mem_of_getElem? (i := 19) rfl))) (mvT hZ (hw _ (List.mem_of_getElem? (i := 20) rfl))) (by decide) (backOf (W := 0) (own_rmF0 l Z a0 hw [] b5 p5 p6 ae ar ke kr (.int (0 : Int32)) (.int (0 : Int32)) (.int (0 : Int32)) (.int (0 : Int32)) (.int (0 : Int32)) (.int (0 : Int32)) (.int (0 : Int32)) (.int (0 : Int32)) (.int (0 : Int32)) (.int (0 : Int32)) (.int (0 : Int32)) (.int (0 : Int32)) (.int (0 : Int32)) (.int (0 : Int32)) (.int (0 : Int32)) (.int (0 : Int32)) (.int (0 : Int32)) (.int (0 : Int32)) T7.heap n0 z8 Fe7 Fr7 Ve7 Vr7 ne1 ne2 ne3 ge1 ge2) hZ (hw _ (List.mem_of_getElem? (i := 20) rfl)) (hw _ (List.mem_of_getElem? (i := 19) rfl)) (by decide) (by decide)) (g := (mkF m 69 #[.val (.int p1), .val (.int p2), .val (.int p3), .val (.int p4), .val (.int p5), .val (.int p6), .val (.int v1), .val (.int v2), .val (.int v3), .val (.int v4), .val (.ref b5), .unset, .unset, .unset] [(.int p6), (.int p5), (.int (0 : Int32)), (.ref b5)])) rfl (by rw [hml]; rfl) (argsL := [(.ref b5), (.int (0 : Int32)), (.int p5), (.int p6)]) (rest := []) (lenOf own_pd__Lcom_example_shiftwise_shiftwise_search_ScanBlock_III_V rfl) rfl (by show 2 * 0 + _ ≤ _; exact Nat.le_of_eq rfl) (hb hby at_69) (fun _ _ => ⟨rfl, rfl, (by decide : 4 + 0 ≤ _), (by decide : 32 + 0 ≤ _)⟩)
  dsimp only [Pt.U, Pt.locs, Pt.cells, Pt.slots] at X9 l9 y9 z9 st9 hQ9
  subst l9 y9 z9
  obtain ⟨rfl, Nq9, Kq9, Ve9, Vr9⟩ := hQ9
  have N9 := Fr.app N7 Nq9
  refine own_st st9 ?_
  have z10 : n0 ≤ T9.heap.size := Nat.le_trans z8 Kq9.1
  show own_Go p.tables e below RR (T9.setTop (mkF m 72 #[.val (.int p1), .val (.int p2), .val (.int p3), .val (.int p4), .val (.int p5), .val (.int p6), .val (.int v1), .val (.int v2), .val (.int v3), .val (.int v4), .val (.ref b5), .unset, .unset, .unset] []))
  refine own_st (fun _ k => XS.aload X9.here hx rfl (hb hby at_72) rfl rfl (XS.iconst X9.here hx rfl (hb hby at_74) (XS.iload X9.here hx rfl (hb hby at_75) rfl (XS.iload X9.here hx rfl (hb hby at_77) rfl k)))) ?_
  show own_Go p.tables e below RR (T9.setTop (mkF m 79 #[.val (.int p1), .val (.int p2), .val (.int p3), .val (.int p4), .val (.int p5), .val (.int p6), .val (.int v1), .val (.int v2), .val (.int v3), .val (.int v4), .val (.ref b5), .unset, .unset, .unset] [(.int p6), (.int p5), (.int (1 : Int32)), (.ref b5)]))
  have f11 := (Fe7.keep Kq9 (ninS ne1 (ninS ne2 nin0)))
  have f12 := (Fr7.keep Kq9 (ninS ne1 (ninS ne2 nin0)))
  obtain ⟨_, _, ⟨T13, L13, k13, n13⟩, -, X13, ⟨Lc13, hQ13, l13, y13, z13⟩, st13⟩ := Jvm.LawKit.callS X9 hx (y := (⟨"com/example/shiftwise/shiftwise/search/AutomatonMovesJoinLanesPinLaw", "fill", "(Lcom/example/shiftwise/shiftwise/search/ScanBlock;III)V"⟩ : MethodName)) hown (mvT hZ (hw _ (List.mem_of_getElem? (i := 17) rfl))) (mvT hZ (hw _ (List.mem_of_getElem? (i := 18) rfl))) (mvT hZ (hw _ (List.mem_of_getElem? (i := 19) rfl))) (mvT hZ (hw _ (List.mem_of_getElem? (i := 20) rfl))) (by decide) (backOf (W := 0) (own_rmF1 l Z a0 hw [] b5 p5 p6 ae ar ke kr (.int (p5 + (0 : Int32))) (.int (0 : Int32)) (.int (0 : Int32)) (.int (0 : Int32)) (.int (0 : Int32)) (.int (0 : Int32)) (.int (0 : Int32)) (.int (0 : Int32)) (.int (0 : Int32)) (.int (p6 - (0 : Int32))) (.int (0 : Int32)) (.int (0 : Int32)) (.int (0 : Int32)) (.int (0 : Int32)) (.int (0 : Int32)) (.int (0 : Int32)) (.int (0 : Int32)) (.int (0 : Int32)) T9.heap n0 z10 f11 f12 Ve9 Vr9 ne1 ne2 ne3 ge1 ge2) hZ (hw _ (List.mem_of_getElem? (i := 20) rfl)) (hw _ (List.mem_of_getElem? (i := 19) rfl)) (by decide) (by decide)) (g := (mkF m 79 #[.val (.int p1), .val (.int p2), .val (.int p3), .val (.int p4), .val (.int p5), .val (.int p6), .val (.int v1), .val (.int v2), .val (.int v3), .val (.int v4), .val (.ref b5), .unset, .unset, .unset] [(.int p6), (.int p5), (.int (1 : Int32)), (.ref b5)])) rfl (by rw [hml]; rfl) (argsL := [(.ref b5), (.int (1 : Int32)), (.int p5), (.int p6)]) (rest := []) (lenOf own_pd__Lcom_example_shiftwise_shiftwise_search_ScanBlock_III_V rfl) rfl (by show 2 * 0 + _ ≤ _; exact Nat.le_of_eq rfl) (hb hby at_79) (fun _ _ => ⟨rfl, rfl, (by decide : 4 + 0 ≤ _), (by decide : 32 + 0 ≤ _)⟩)
  dsimp only [Pt.U, Pt.locs, Pt.cells, Pt.slots] at X13 l13 y13 z13 st13 hQ13
  subst l13 y13 z13
  obtain ⟨rfl, Nq13, Kq13, Ve13, Vr13⟩ := hQ13
  have N13 := Fr.app N9 Nq13
  refine own_st st13 ?_
  have z14 : n0 ≤ T13.heap.size := Nat.le_trans z10 Kq13.1
  show own_Go p.tables e below RR (T13.setTop (mkF m 82 #[.val (.int p1), .val (.int p2), .val (.int p3), .val (.int p4), .val (.int p5), .val (.int p6), .val (.int v1), .val (.int v2), .val (.int v3), .val (.int v4), .val (.ref b5), .unset, .unset, .unset] []))
  refine own_st (fun _ k => XS.aload X13.here hx rfl (hb hby at_82) rfl rfl (XS.iconst X13.here hx rfl (hb hby at_84) (XS.iload X13.here hx rfl (hb hby at_85) rfl (XS.iload X13.here hx rfl (hb hby at_87) rfl k)))) ?_
  show own_Go p.tables e below RR (T13.setTop (mkF m 89 #[.val (.int p1), .val (.int p2), .val (.int p3), .val (.int p4), .val (.int p5), .val (.int p6), .val (.int v1), .val (.int v2), .val (.int v3), .val (.int v4), .val (.ref b5), .unset, .unset, .unset] [(.int p6), (.int p5), (.int (2 : Int32)), (.ref b5)]))
  have f15 := (f11.keep Kq13 (ninS ne1 (ninS ne2 nin0)))
  have f16 := (f12.keep Kq13 (ninS ne1 (ninS ne2 nin0)))
  obtain ⟨_, _, ⟨T17, L17, k17, n17⟩, -, X17, ⟨Lc17, hQ17, l17, y17, z17⟩, st17⟩ := Jvm.LawKit.callS X13 hx (y := (⟨"com/example/shiftwise/shiftwise/search/AutomatonMovesJoinLanesPinLaw", "fill", "(Lcom/example/shiftwise/shiftwise/search/ScanBlock;III)V"⟩ : MethodName)) hown (mvT hZ (hw _ (List.mem_of_getElem? (i := 17) rfl))) (mvT hZ (hw _ (List.mem_of_getElem? (i := 18) rfl))) (mvT hZ (hw _ (List.mem_of_getElem? (i := 19) rfl))) (mvT hZ (hw _ (List.mem_of_getElem? (i := 20) rfl))) (by decide) (backOf (W := 0) (own_rmF2 l Z a0 hw [] b5 p5 p6 ae ar ke kr (.int (p5 + (0 : Int32))) (.int (p5 + (1 : Int32))) (.int (0 : Int32)) (.int (0 : Int32)) (.int (0 : Int32)) (.int (0 : Int32)) (.int (0 : Int32)) (.int (0 : Int32)) (.int (0 : Int32)) (.int (p6 - (0 : Int32))) (.int (p6 - (3 : Int32))) (.int (0 : Int32)) (.int (0 : Int32)) (.int (0 : Int32)) (.int (0 : Int32)) (.int (0 : Int32)) (.int (0 : Int32)) (.int (0 : Int32)) T13.heap n0 z14 f15 f16 Ve13 Vr13 ne1 ne2 ne3 ge1 ge2) hZ (hw _ (List.mem_of_getElem? (i := 20) rfl)) (hw _ (List.mem_of_getElem? (i := 19) rfl)) (by decide) (by decide)) (g := (mkF m 89 #[.val (.int p1), .val (.int p2), .val (.int p3), .val (.int p4), .val (.int p5), .val (.int p6), .val (.int v1), .val (.int v2), .val (.int v3), .val (.int v4), .val (.ref b5), .unset, .unset, .unset] [(.int p6), (.int p5), (.int (2 : Int32)), (.ref b5)])) rfl (by rw [hml]; rfl) (argsL := [(.ref b5), (.int (2 : Int32)), (.int p5), (.int p6)]) (rest := []) (lenOf own_pd__Lcom_example_shiftwise_shiftwise_search_ScanBlock_III_V rfl) rfl (by show 2 * 0 + _ ≤ _; exact Nat.le_of_eq rfl) (hb hby at_89) (fun _ _ => ⟨rfl, rfl, (by decide : 4 + 0 ≤ _), (by decide : 32 + 0 ≤ _)⟩)
  dsimp only [Pt.U, Pt.locs, Pt.cells, Pt.slots] at X17 l17 y17 z17 st17 hQ17
  subst l17 y17 z17
  obtain ⟨rfl, Nq17, Kq17, Ve17, Vr17⟩ := hQ17
  have N17 := Fr.app N13 Nq17
  refine own_st st17 ?_
  have z18 : n0 ≤ T17.heap.size := Nat.le_trans z14 Kq17.1
  show own_Go p.tables e below RR (T17.setTop (mkF m 92 #[.val (.int p1), .val (.int p2), .val (.int p3), .val (.int p4), .val (.int p5), .val (.int p6), .val (.int v1), .val (.int v2), .val (.int v3), .val (.int v4), .val (.ref b5), .unset, .unset, .unset] []))
  refine own_st (fun _ k => XS.aload X17.here hx rfl (hb hby at_92) rfl rfl (XS.iconst X17.here hx rfl (hb hby at_94) (XS.iload X17.here hx rfl (hb hby at_95) rfl (XS.iload X17.here hx rfl (hb hby at_97) rfl k)))) ?_
  show own_Go p.tables e below RR (T17.setTop (mkF m 99 #[.val (.int p1), .val (.int p2), .val (.int p3), .val (.int p4), .val (.int p5), .val (.int p6), .val (.int v1), .val (.int v2), .val (.int v3), .val (.int v4), .val (.ref b5), .unset, .unset, .unset] [(.int p6), (.int p5), (.int (3 : Int32)), (.ref b5)]))
  have f19 := (f15.keep Kq17 (ninS ne1 (ninS ne2 nin0)))
  have f20 := (f16.keep Kq17 (ninS ne1 (ninS ne2 nin0)))
  obtain ⟨_, _, ⟨T21, L21, k21, n21⟩, -, X21, ⟨Lc21, hQ21, l21, y21, z21⟩, st21⟩ := Jvm.LawKit.callS X17 hx (y := (⟨"com/example/shiftwise/shiftwise/search/AutomatonMovesJoinLanesPinLaw", "fill", "(Lcom/example/shiftwise/shiftwise/search/ScanBlock;III)V"⟩ : MethodName)) hown (mvT hZ (hw _ (List.mem_of_getElem? (i := 17) rfl))) (mvT hZ (hw _ (List.mem_of_getElem? (i := 18) rfl))) (mvT hZ (hw _ (List.mem_of_getElem? (i := 19) rfl))) (mvT hZ (hw _ (List.mem_of_getElem? (i := 20) rfl))) (by decide) (backOf (W := 0) (own_rmF3 l Z a0 hw [] b5 p5 p6 ae ar ke kr (.int (p5 + (0 : Int32))) (.int (p5 + (1 : Int32))) (.int (p5 + (2 : Int32))) (.int (0 : Int32)) (.int (0 : Int32)) (.int (0 : Int32)) (.int (0 : Int32)) (.int (0 : Int32)) (.int (0 : Int32)) (.int (p6 - (0 : Int32))) (.int (p6 - (3 : Int32))) (.int (p6 - (6 : Int32))) (.int (0 : Int32)) (.int (0 : Int32)) (.int (0 : Int32)) (.int (0 : Int32)) (.int (0 : Int32)) (.int (0 : Int32)) T17.heap n0 z18 f19 f20 Ve17 Vr17 ne1 ne2 ne3 ge1 ge2) hZ (hw _ (List.mem_of_getElem? (i := 20) rfl)) (hw _ (List.mem_of_getElem? (i := 19) rfl)) (by decide) (by decide)) (g := (mkF m 99 #[.val (.int p1), .val (.int p2), .val (.int p3), .val (.int p4), .val (.int p5), .val (.int p6), .val (.int v1), .val (.int v2), .val (.int v3), .val (.int v4), .val (.ref b5), .unset, .unset, .unset] [(.int p6), (.int p5), (.int (3 : Int32)), (.ref b5)])) rfl (by rw [hml]; rfl) (argsL := [(.ref b5), (.int (3 : Int32)), (.int p5), (.int p6)]) (rest := []) (lenOf own_pd__Lcom_example_shiftwise_shiftwise_search_ScanBlock_III_V rfl) rfl (by show 2 * 0 + _ ≤ _; exact Nat.le_of_eq rfl) (hb hby at_99) (fun _ _ => ⟨rfl, rfl, (by decide : 4 + 0 ≤ _), (by decide : 32 + 0 ≤ _)⟩)
  dsimp only [Pt.U, Pt.locs, Pt.cells, Pt.slots] at X21 l21 y21 z21 st21 hQ21
  subst l21 y21 z21
  obtain ⟨rfl, Nq21, Kq21, Ve21, Vr21⟩ := hQ21
  have N21 := Fr.app N17 Nq21
  refine own_st st21 ?_
  have z22 : n0 ≤ T21.heap.size := Nat.le_trans z18 Kq21.1
  show own_Go p.tables e below RR (T21.setTop (mkF m 102 #[.val (.int p1), .val (.int p2), .val (.int p3), .val (.int p4), .val (.int p5), .val (.int p6), .val (.int v1), .val (.int v2), .val (.int v3), .val (.int v4), .val (.ref b5), .unset, .unset, .unset] []))
  refine own_st (fun _ k => XS.aload X21.here hx rfl (hb hby at_102) rfl rfl (XS.iconst X21.here hx rfl (hb hby at_104) (XS.iload X21.here hx rfl (hb hby at_105) rfl (XS.iload X21.here hx rfl (hb hby at_107) rfl k)))) ?_
  show own_Go p.tables e below RR (T21.setTop (mkF m 109 #[.val (.int p1), .val (.int p2), .val (.int p3), .val (.int p4), .val (.int p5), .val (.int p6), .val (.int v1), .val (.int v2), .val (.int v3), .val (.int v4), .val (.ref b5), .unset, .unset, .unset] [(.int p6), (.int p5), (.int (4 : Int32)), (.ref b5)]))
  have f23 := (f19.keep Kq21 (ninS ne1 (ninS ne2 nin0)))
  have f24 := (f20.keep Kq21 (ninS ne1 (ninS ne2 nin0)))
  obtain ⟨_, _, ⟨T25, L25, k25, n25⟩, -, X25, ⟨Lc25, hQ25, l25, y25, z25⟩, st25⟩ := Jvm.LawKit.callS X21 hx (y := (⟨"com/example/shiftwise/shiftwise/search/AutomatonMovesJoinLanesPinLaw", "fill", "(Lcom/example/shiftwise/shiftwise/search/ScanBlock;III)V"⟩ : MethodName)) hown (mvT hZ (hw _ (List.mem_of_getElem? (i := 17) rfl))) (mvT hZ (hw _ (List.mem_of_getElem? (i := 18) rfl))) (mvT hZ (hw _ (List.mem_of_getElem? (i := 19) rfl))) (mvT hZ (hw _ (List.mem_of_getElem? (i := 20) rfl))) (by decide) (backOf (W := 0) (own_rmF4 l Z a0 hw [] b5 p5 p6 ae ar ke kr (.int (p5 + (0 : Int32))) (.int (p5 + (1 : Int32))) (.int (p5 + (2 : Int32))) (.int (p5 + (3 : Int32))) (.int (0 : Int32)) (.int (0 : Int32)) (.int (0 : Int32)) (.int (0 : Int32)) (.int (0 : Int32)) (.int (p6 - (0 : Int32))) (.int (p6 - (3 : Int32))) (.int (p6 - (6 : Int32))) (.int (p6 - (9 : Int32))) (.int (0 : Int32)) (.int (0 : Int32)) (.int (0 : Int32)) (.int (0 : Int32)) (.int (0 : Int32)) T21.heap n0 z22 f23 f24 Ve21 Vr21 ne1 ne2 ne3 ge1 ge2) hZ (hw _ (List.mem_of_getElem? (i := 20) rfl)) (hw _ (List.mem_of_getElem? (i := 19) rfl)) (by decide) (by decide)) (g := (mkF m 109 #[.val (.int p1), .val (.int p2), .val (.int p3), .val (.int p4), .val (.int p5), .val (.int p6), .val (.int v1), .val (.int v2), .val (.int v3), .val (.int v4), .val (.ref b5), .unset, .unset, .unset] [(.int p6), (.int p5), (.int (4 : Int32)), (.ref b5)])) rfl (by rw [hml]; rfl) (argsL := [(.ref b5), (.int (4 : Int32)), (.int p5), (.int p6)]) (rest := []) (lenOf own_pd__Lcom_example_shiftwise_shiftwise_search_ScanBlock_III_V rfl) rfl (by show 2 * 0 + _ ≤ _; exact Nat.le_of_eq rfl) (hb hby at_109) (fun _ _ => ⟨rfl, rfl, (by decide : 4 + 0 ≤ _), (by decide : 32 + 0 ≤ _)⟩)
  dsimp only [Pt.U, Pt.locs, Pt.cells, Pt.slots] at X25 l25 y25 z25 st25 hQ25
  subst l25 y25 z25
  obtain ⟨rfl, Nq25, Kq25, Ve25, Vr25⟩ := hQ25
  have N25 := Fr.app N21 Nq25
  refine own_st st25 ?_
  have z26 : n0 ≤ T25.heap.size := Nat.le_trans z22 Kq25.1
  show own_Go p.tables e below RR (T25.setTop (mkF m 112 #[.val (.int p1), .val (.int p2), .val (.int p3), .val (.int p4), .val (.int p5), .val (.int p6), .val (.int v1), .val (.int v2), .val (.int v3), .val (.int v4), .val (.ref b5), .unset, .unset, .unset] []))
  refine own_st (fun _ k => XS.aload X25.here hx rfl (hb hby at_112) rfl rfl (XS.iconst X25.here hx rfl (hb hby at_114) (XS.iload X25.here hx rfl (hb hby at_115) rfl (XS.iload X25.here hx rfl (hb hby at_117) rfl k)))) ?_
  show own_Go p.tables e below RR (T25.setTop (mkF m 119 #[.val (.int p1), .val (.int p2), .val (.int p3), .val (.int p4), .val (.int p5), .val (.int p6), .val (.int v1), .val (.int v2), .val (.int v3), .val (.int v4), .val (.ref b5), .unset, .unset, .unset] [(.int p6), (.int p5), (.int (5 : Int32)), (.ref b5)]))
  have f27 := (f23.keep Kq25 (ninS ne1 (ninS ne2 nin0)))
  have f28 := (f24.keep Kq25 (ninS ne1 (ninS ne2 nin0)))
  obtain ⟨_, _, ⟨T29, L29, k29, n29⟩, -, X29, ⟨Lc29, hQ29, l29, y29, z29⟩, st29⟩ := Jvm.LawKit.callS X25 hx (y := (⟨"com/example/shiftwise/shiftwise/search/AutomatonMovesJoinLanesPinLaw", "fill", "(Lcom/example/shiftwise/shiftwise/search/ScanBlock;III)V"⟩ : MethodName)) hown (mvT hZ (hw _ (List.mem_of_getElem? (i := 17) rfl))) (mvT hZ (hw _ (List.mem_of_getElem? (i := 18) rfl))) (mvT hZ (hw _ (List.mem_of_getElem? (i := 19) rfl))) (mvT hZ (hw _ (List.mem_of_getElem? (i := 20) rfl))) (by decide) (backOf (W := 0) (own_rmF5 l Z a0 hw [] b5 p5 p6 ae ar ke kr (.int (p5 + (0 : Int32))) (.int (p5 + (1 : Int32))) (.int (p5 + (2 : Int32))) (.int (p5 + (3 : Int32))) (.int (p5 + (4 : Int32))) (.int (0 : Int32)) (.int (0 : Int32)) (.int (0 : Int32)) (.int (0 : Int32)) (.int (p6 - (0 : Int32))) (.int (p6 - (3 : Int32))) (.int (p6 - (6 : Int32))) (.int (p6 - (9 : Int32))) (.int (p6 - (12 : Int32))) (.int (0 : Int32)) (.int (0 : Int32)) (.int (0 : Int32)) (.int (0 : Int32)) T25.heap n0 z26 f27 f28 Ve25 Vr25 ne1 ne2 ne3 ge1 ge2) hZ (hw _ (List.mem_of_getElem? (i := 20) rfl)) (hw _ (List.mem_of_getElem? (i := 19) rfl)) (by decide) (by decide)) (g := (mkF m 119 #[.val (.int p1), .val (.int p2), .val (.int p3), .val (.int p4), .val (.int p5), .val (.int p6), .val (.int v1), .val (.int v2), .val (.int v3), .val (.int v4), .val (.ref b5), .unset, .unset, .unset] [(.int p6), (.int p5), (.int (5 : Int32)), (.ref b5)])) rfl (by rw [hml]; rfl) (argsL := [(.ref b5), (.int (5 : Int32)), (.int p5), (.int p6)]) (rest := []) (lenOf own_pd__Lcom_example_shiftwise_shiftwise_search_ScanBlock_III_V rfl) rfl (by show 2 * 0 + _ ≤ _; exact Nat.le_of_eq rfl) (hb hby at_119) (fun _ _ => ⟨rfl, rfl, (by decide : 4 + 0 ≤ _), (by decide : 32 + 0 ≤ _)⟩)
  dsimp only [Pt.U, Pt.locs, Pt.cells, Pt.slots] at X29 l29 y29 z29 st29 hQ29
  subst l29 y29 z29
  obtain ⟨rfl, Nq29, Kq29, Ve29, Vr29⟩ := hQ29
  have N29 := Fr.app N25 Nq29
  refine own_st st29 ?_
  have z30 : n0 ≤ T29.heap.size := Nat.le_trans z26 Kq29.1
  show own_Go p.tables e below RR (T29.setTop (mkF m 122 #[.val (.int p1), .val (.int p2), .val (.int p3), .val (.int p4), .val (.int p5), .val (.int p6), .val (.int v1), .val (.int v2), .val (.int v3), .val (.int v4), .val (.ref b5), .unset, .unset, .unset] []))
  refine own_st (fun _ k => XS.aload X29.here hx rfl (hb hby at_122) rfl rfl (XS.bipush X29.here hx rfl (hb hby at_124) (XS.iload X29.here hx rfl (hb hby at_126) rfl (XS.iload X29.here hx rfl (hb hby at_128) rfl k)))) ?_
  show own_Go p.tables e below RR (T29.setTop (mkF m 130 #[.val (.int p1), .val (.int p2), .val (.int p3), .val (.int p4), .val (.int p5), .val (.int p6), .val (.int v1), .val (.int v2), .val (.int v3), .val (.int v4), .val (.ref b5), .unset, .unset, .unset] [(.int p6), (.int p5), (.int (6 : Int32)), (.ref b5)]))
  have f31 := (f27.keep Kq29 (ninS ne1 (ninS ne2 nin0)))
  have f32 := (f28.keep Kq29 (ninS ne1 (ninS ne2 nin0)))
  obtain ⟨_, _, ⟨T33, L33, k33, n33⟩, -, X33, ⟨Lc33, hQ33, l33, y33, z33⟩, st33⟩ := Jvm.LawKit.callS X29 hx (y := (⟨"com/example/shiftwise/shiftwise/search/AutomatonMovesJoinLanesPinLaw", "fill", "(Lcom/example/shiftwise/shiftwise/search/ScanBlock;III)V"⟩ : MethodName)) hown (mvT hZ (hw _ (List.mem_of_getElem? (i := 17) rfl))) (mvT hZ (hw _ (List.mem_of_getElem? (i := 18) rfl))) (mvT hZ (hw _ (List.mem_of_getElem? (i := 19) rfl))) (mvT hZ (hw _ (List.mem_of_getElem? (i := 20) rfl))) (by decide) (backOf (W := 0) (own_rmF6 l Z a0 hw [] b5 p5 p6 ae ar ke kr (.int (p5 + (0 : Int32))) (.int (p5 + (1 : Int32))) (.int (p5 + (2 : Int32))) (.int (p5 + (3 : Int32))) (.int (p5 + (4 : Int32))) (.int (p5 + (5 : Int32))) (.int (0 : Int32)) (.int (0 : Int32)) (.int (0 : Int32)) (.int (p6 - (0 : Int32))) (.int (p6 - (3 : Int32))) (.int (p6 - (6 : Int32))) (.int (p6 - (9 : Int32))) (.int (p6 - (12 : Int32))) (.int (p6 - (15 : Int32))) (.int (0 : Int32)) (.int (0 : Int32)) (.int (0 : Int32)) T29.heap n0 z30 f31 f32 Ve29 Vr29 ne1 ne2 ne3 ge1 ge2) hZ (hw _ (List.mem_of_getElem? (i := 20) rfl)) (hw _ (List.mem_of_getElem? (i := 19) rfl)) (by decide) (by decide)) (g := (mkF m 130 #[.val (.int p1), .val (.int p2), .val (.int p3), .val (.int p4), .val (.int p5), .val (.int p6), .val (.int v1), .val (.int v2), .val (.int v3), .val (.int v4), .val (.ref b5), .unset, .unset, .unset] [(.int p6), (.int p5), (.int (6 : Int32)), (.ref b5)])) rfl (by rw [hml]; rfl) (argsL := [(.ref b5), (.int (6 : Int32)), (.int p5), (.int p6)]) (rest := []) (lenOf own_pd__Lcom_example_shiftwise_shiftwise_search_ScanBlock_III_V rfl) rfl (by show 2 * 0 + _ ≤ _; exact Nat.le_of_eq rfl) (hb hby at_130) (fun _ _ => ⟨rfl, rfl, (by decide : 4 + 0 ≤ _), (by decide : 32 + 0 ≤ _)⟩)
  dsimp only [Pt.U, Pt.locs, Pt.cells, Pt.slots] at X33 l33 y33 z33 st33 hQ33
  subst l33 y33 z33
  obtain ⟨rfl, Nq33, Kq33, Ve33, Vr33⟩ := hQ33
  have N33 := Fr.app N29 Nq33
  refine own_st st33 ?_
  have z34 : n0 ≤ T33.heap.size := Nat.le_trans z30 Kq33.1
  show own_Go p.tables e below RR (T33.setTop (mkF m 133 #[.val (.int p1), .val (.int p2), .val (.int p3), .val (.int p4), .val (.int p5), .val (.int p6), .val (.int v1), .val (.int v2), .val (.int v3), .val (.int v4), .val (.ref b5), .unset, .unset, .unset] []))
  refine own_st (fun _ k => XS.aload X33.here hx rfl (hb hby at_133) rfl rfl (XS.bipush X33.here hx rfl (hb hby at_135) (XS.iload X33.here hx rfl (hb hby at_137) rfl (XS.iload X33.here hx rfl (hb hby at_139) rfl k)))) ?_
  show own_Go p.tables e below RR (T33.setTop (mkF m 141 #[.val (.int p1), .val (.int p2), .val (.int p3), .val (.int p4), .val (.int p5), .val (.int p6), .val (.int v1), .val (.int v2), .val (.int v3), .val (.int v4), .val (.ref b5), .unset, .unset, .unset] [(.int p6), (.int p5), (.int (7 : Int32)), (.ref b5)]))
  have f35 := (f31.keep Kq33 (ninS ne1 (ninS ne2 nin0)))
  have f36 := (f32.keep Kq33 (ninS ne1 (ninS ne2 nin0)))
  obtain ⟨_, _, ⟨T37, L37, k37, n37⟩, -, X37, ⟨Lc37, hQ37, l37, y37, z37⟩, st37⟩ := Jvm.LawKit.callS X33 hx (y := (⟨"com/example/shiftwise/shiftwise/search/AutomatonMovesJoinLanesPinLaw", "fill", "(Lcom/example/shiftwise/shiftwise/search/ScanBlock;III)V"⟩ : MethodName)) hown (mvT hZ (hw _ (List.mem_of_getElem? (i := 17) rfl))) (mvT hZ (hw _ (List.mem_of_getElem? (i := 18) rfl))) (mvT hZ (hw _ (List.mem_of_getElem? (i := 19) rfl))) (mvT hZ (hw _ (List.mem_of_getElem? (i := 20) rfl))) (by decide) (backOf (W := 0) (own_rmF7 l Z a0 hw [] b5 p5 p6 ae ar ke kr (.int (p5 + (0 : Int32))) (.int (p5 + (1 : Int32))) (.int (p5 + (2 : Int32))) (.int (p5 + (3 : Int32))) (.int (p5 + (4 : Int32))) (.int (p5 + (5 : Int32))) (.int (p5 + (6 : Int32))) (.int (0 : Int32)) (.int (0 : Int32)) (.int (p6 - (0 : Int32))) (.int (p6 - (3 : Int32))) (.int (p6 - (6 : Int32))) (.int (p6 - (9 : Int32))) (.int (p6 - (12 : Int32))) (.int (p6 - (15 : Int32))) (.int (p6 - (18 : Int32))) (.int (0 : Int32)) (.int (0 : Int32)) T33.heap n0 z34 f35 f36 Ve33 Vr33 ne1 ne2 ne3 ge1 ge2) hZ (hw _ (List.mem_of_getElem? (i := 20) rfl)) (hw _ (List.mem_of_getElem? (i := 19) rfl)) (by decide) (by decide)) (g := (mkF m 141 #[.val (.int p1), .val (.int p2), .val (.int p3), .val (.int p4), .val (.int p5), .val (.int p6), .val (.int v1), .val (.int v2), .val (.int v3), .val (.int v4), .val (.ref b5), .unset, .unset, .unset] [(.int p6), (.int p5), (.int (7 : Int32)), (.ref b5)])) rfl (by rw [hml]; rfl) (argsL := [(.ref b5), (.int (7 : Int32)), (.int p5), (.int p6)]) (rest := []) (lenOf own_pd__Lcom_example_shiftwise_shiftwise_search_ScanBlock_III_V rfl) rfl (by show 2 * 0 + _ ≤ _; exact Nat.le_of_eq rfl) (hb hby at_141) (fun _ _ => ⟨rfl, rfl, (by decide : 4 + 0 ≤ _), (by decide : 32 + 0 ≤ _)⟩)
  dsimp only [Pt.U, Pt.locs, Pt.cells, Pt.slots] at X37 l37 y37 z37 st37 hQ37
  subst l37 y37 z37
  obtain ⟨rfl, Nq37, Kq37, Ve37, Vr37⟩ := hQ37
  have N37 := Fr.app N33 Nq37
  refine own_st st37 ?_
  have z38 : n0 ≤ T37.heap.size := Nat.le_trans z34 Kq37.1
  show own_Go p.tables e below RR (T37.setTop (mkF m 144 #[.val (.int p1), .val (.int p2), .val (.int p3), .val (.int p4), .val (.int p5), .val (.int p6), .val (.int v1), .val (.int v2), .val (.int v3), .val (.int v4), .val (.ref b5), .unset, .unset, .unset] []))
  refine own_st (fun _ k => XS.aload X37.here hx rfl (hb hby at_144) rfl rfl (XS.bipush X37.here hx rfl (hb hby at_146) (XS.iload X37.here hx rfl (hb hby at_148) rfl (XS.iload X37.here hx rfl (hb hby at_150) rfl k)))) ?_
  show own_Go p.tables e below RR (T37.setTop (mkF m 152 #[.val (.int p1), .val (.int p2), .val (.int p3), .val (.int p4), .val (.int p5), .val (.int p6), .val (.int v1), .val (.int v2), .val (.int v3), .val (.int v4), .val (.ref b5), .unset, .unset, .unset] [(.int p6), (.int p5), (.int (8 : Int32)), (.ref b5)]))
  have f39 := (f35.keep Kq37 (ninS ne1 (ninS ne2 nin0)))
  have f40 := (f36.keep Kq37 (ninS ne1 (ninS ne2 nin0)))
  obtain ⟨_, _, ⟨T41, L41, k41, n41⟩, -, X41, ⟨Lc41, hQ41, l41, y41, z41⟩, st41⟩ := Jvm.LawKit.callS X37 hx (y := (⟨"com/example/shiftwise/shiftwise/search/AutomatonMovesJoinLanesPinLaw", "fill", "(Lcom/example/shiftwise/shiftwise/search/ScanBlock;III)V"⟩ : MethodName)) hown (mvT hZ (hw _ (List.mem_of_getElem? (i := 17) rfl))) (mvT hZ (hw _ (List.mem_of_getElem? (i := 18) rfl))) (mvT hZ (hw _ (List.mem_of_getElem? (i := 19) rfl))) (mvT hZ (hw _ (List.mem_of_getElem? (i := 20) rfl))) (by decide) (backOf (W := 0) (own_rmF8 l Z a0 hw [] b5 p5 p6 ae ar ke kr (.int (p5 + (0 : Int32))) (.int (p5 + (1 : Int32))) (.int (p5 + (2 : Int32))) (.int (p5 + (3 : Int32))) (.int (p5 + (4 : Int32))) (.int (p5 + (5 : Int32))) (.int (p5 + (6 : Int32))) (.int (p5 + (7 : Int32))) (.int (0 : Int32)) (.int (p6 - (0 : Int32))) (.int (p6 - (3 : Int32))) (.int (p6 - (6 : Int32))) (.int (p6 - (9 : Int32))) (.int (p6 - (12 : Int32))) (.int (p6 - (15 : Int32))) (.int (p6 - (18 : Int32))) (.int (p6 - (21 : Int32))) (.int (0 : Int32)) T37.heap n0 z38 f39 f40 Ve37 Vr37 ne1 ne2 ne3 ge1 ge2) hZ (hw _ (List.mem_of_getElem? (i := 20) rfl)) (hw _ (List.mem_of_getElem? (i := 19) rfl)) (by decide) (by decide)) (g := (mkF m 152 #[.val (.int p1), .val (.int p2), .val (.int p3), .val (.int p4), .val (.int p5), .val (.int p6), .val (.int v1), .val (.int v2), .val (.int v3), .val (.int v4), .val (.ref b5), .unset, .unset, .unset] [(.int p6), (.int p5), (.int (8 : Int32)), (.ref b5)])) rfl (by rw [hml]; rfl) (argsL := [(.ref b5), (.int (8 : Int32)), (.int p5), (.int p6)]) (rest := []) (lenOf own_pd__Lcom_example_shiftwise_shiftwise_search_ScanBlock_III_V rfl) rfl (by show 2 * 0 + _ ≤ _; exact Nat.le_of_eq rfl) (hb hby at_152) (fun _ _ => ⟨rfl, rfl, (by decide : 4 + 0 ≤ _), (by decide : 32 + 0 ≤ _)⟩)
  dsimp only [Pt.U, Pt.locs, Pt.cells, Pt.slots] at X41 l41 y41 z41 st41 hQ41
  subst l41 y41 z41
  obtain ⟨rfl, Nq41, Kq41, Ve41, Vr41⟩ := hQ41
  have N41 := Fr.app N37 Nq41
  refine own_st st41 ?_
  have z42 : n0 ≤ T41.heap.size := Nat.le_trans z38 Kq41.1
  show own_Go p.tables e below RR (T41.setTop (mkF m 155 #[.val (.int p1), .val (.int p2), .val (.int p3), .val (.int p4), .val (.int p5), .val (.int p6), .val (.int v1), .val (.int v2), .val (.int v3), .val (.int v4), .val (.ref b5), .unset, .unset, .unset] []))
  refine own_st (fun _ k => XS.aload X41.here hx rfl (hb hby at_155) rfl rfl (XS.iload X41.here hx rfl (hb hby at_157) rfl (XS.iload X41.here hx rfl (hb hby at_159) rfl (XS.iload X41.here hx rfl (hb hby at_161) rfl (XS.iload X41.here hx rfl (hb hby at_163) rfl k))))) ?_
  show own_Go p.tables e below RR (T41.setTop (mkF m 165 #[.val (.int p1), .val (.int p2), .val (.int p3), .val (.int p4), .val (.int p5), .val (.int p6), .val (.int v1), .val (.int v2), .val (.int v3), .val (.int v4), .val (.ref b5), .unset, .unset, .unset] [(.int v4), (.int v3), (.int v2), (.int v1), (.ref b5)]))
  obtain ⟨la, fo, n2, n3, b1, b2, b3, b4, c1, c2, c3, c4⟩ := own_nums gv1 gv2 gv3 gv4
  have Ve' : Arv Z T41.heap ae ke .int (9 : Int32) ((List.range 9).map (own_fe p5)) (.int (0 : Int32)) := Ve41
  have Vr' : Arv Z T41.heap ar kr .int (9 : Int32) ((List.range 9).map (own_fr p6)) (.int (0 : Int32)) := Vr41
  have f43 := (((((((((Eq7.keep Kq9).keep Kq13).keep Kq17).keep Kq21).keep Kq25).keep Kq29).keep Kq33).keep Kq37).keep Kq41)
  have f44 := (((((((((Ff7.keep Kq9 (ninS ne1 (ninS ne2 nin0))).keep Kq13 (ninS ne1 (ninS ne2 nin0))).keep Kq17 (ninS ne1 (ninS ne2 nin0))).keep Kq21 (ninS ne1 (ninS ne2 nin0))).keep Kq25 (ninS ne1 (ninS ne2 nin0))).keep Kq29 (ninS ne1 (ninS ne2 nin0))).keep Kq33 (ninS ne1 (ninS ne2 nin0))).keep Kq37 (ninS ne1 (ninS ne2 nin0))).keep Kq41 (ninS ne1 (ninS ne2 nin0)))
  have f45 := (f39.keep Kq41 (ninS ne1 (ninS ne2 nin0)))
  have f46 := (f40.keep Kq41 (ninS ne1 (ninS ne2 nin0)))
  obtain ⟨_, _, ⟨T47, L47, k47, n47⟩, -, X47, ⟨Lc47, hQ47, l47, y47, z47⟩, st47⟩ := Jvm.LawKit.callS X41 hx (y := (⟨"com/example/shiftwise/shiftwise/search/AutomatonMoves", "joinLanes", "(Lcom/example/shiftwise/shiftwise/search/ScanBlock;IIII)V"⟩ : MethodName)) hown (mvT hZ (hw _ (List.mem_of_getElem? (i := 23) rfl))) (mvT hZ (hw _ (List.mem_of_getElem? (i := 24) rfl))) (mvT hZ (hw _ (List.mem_of_getElem? (i := 25) rfl))) (mvT hZ (hw _ (List.mem_of_getElem? (i := 26) rfl))) (by decide) (backOf (W := 0) (own_rmJ l Z a0 hw [] b5 v1 v2 v3 v4 ae ar ke kr ((List.range 9).map (own_fe p5)) ((List.range 9).map (own_fr p6)) la fo n2 n3 T41.heap n0 z42 f43 f44 ge5 f45 f46 Ve' Vr' ne1 ne2 ne3 ge1 ge2 rfl rfl b1 b2 b3 b4 c1 c2 c3 c4) hZ (hw _ (List.mem_of_getElem? (i := 26) rfl)) (hw _ (List.mem_of_getElem? (i := 25) rfl)) (by decide) (by decide)) (g := (mkF m 165 #[.val (.int p1), .val (.int p2), .val (.int p3), .val (.int p4), .val (.int p5), .val (.int p6), .val (.int v1), .val (.int v2), .val (.int v3), .val (.int v4), .val (.ref b5), .unset, .unset, .unset] [(.int v4), (.int v3), (.int v2), (.int v1), (.ref b5)])) rfl (by rw [hml]; rfl) (argsL := [(.ref b5), (.int v1), (.int v2), (.int v3), (.int v4)]) (rest := []) (lenOf own_pd__Lcom_example_shiftwise_shiftwise_search_ScanBlock_IIII_V rfl) rfl (by show 2 * 0 + _ ≤ _; exact Nat.le_of_eq rfl) (hb hby at_165) (fun _ _ => ⟨rfl, rfl, (by decide : 4 + 0 ≤ _), (by decide : 32 + 0 ≤ _)⟩)
  dsimp only [Pt.U, Pt.locs, Pt.cells, Pt.slots] at X47 l47 y47 z47 st47 hQ47
  subst l47 y47 z47
  obtain ⟨rfl, Nq47, Kq47, Eq47, ⟨ff, hff, Ff47⟩, Fe47, Fr47, Ve47, Vr47⟩ := hQ47
  have N47 := Fr.app N41 Nq47
  refine own_st st47 ?_
  have z48 : n0 ≤ T47.heap.size := Nat.le_trans z42 Kq47.1
  show own_Go p.tables e below RR (T47.setTop (mkF m 168 #[.val (.int p1), .val (.int p2), .val (.int p3), .val (.int p4), .val (.int p5), .val (.int p6), .val (.int v1), .val (.int v2), .val (.int v3), .val (.int v4), .val (.ref b5), .unset, .unset, .unset] []))
  refine own_st (fun _ k => XS.iload X47.here hx rfl (hb hby at_168) rfl (XS.iload X47.here hx rfl (hb hby at_170) rfl (XS.isub X47.here hx rfl (hb hby at_172) rfl k))) ?_
  show own_Go p.tables e below RR (T47.setTop (mkF m 173 #[.val (.int p1), .val (.int p2), .val (.int p3), .val (.int p4), .val (.int p5), .val (.int p6), .val (.int v1), .val (.int v2), .val (.int v3), .val (.int v4), .val (.ref b5), .unset, .unset, .unset] [(.int (v3 - v1))]))
  generalize gv49 : (v3 - v1) = v49
  show own_Go p.tables e below RR (T47.setTop (mkF m 173 #[.val (.int p1), .val (.int p2), .val (.int p3), .val (.int p4), .val (.int p5), .val (.int p6), .val (.int v1), .val (.int v2), .val (.int v3), .val (.int v4), .val (.ref b5), .unset, .unset, .unset] [(.int v49)]))
  refine own_st (fun _ k => XS.istore X47.here hx rfl (hb hby at_173) rfl (l' := #[.val (.int p1), .val (.int p2), .val (.int p3), .val (.int p4), .val (.int p5), .val (.int p6), .val (.int v1), .val (.int v2), .val (.int v3), .val (.int v4), .val (.ref b5), .val (.int v49), .unset, .unset]) rfl (XS.iload X47.here hx rfl (hb hby at_175) rfl (XS.iconst X47.here hx rfl (hb hby at_177) (XS.iload X47.here hx rfl (hb hby at_178) rfl (XS.imul X47.here hx rfl (hb hby at_180) rfl (XS.isub X47.here hx rfl (hb hby at_181) rfl k)))))) ?_
  show own_Go p.tables e below RR (T47.setTop (mkF m 182 #[.val (.int p1), .val (.int p2), .val (.int p3), .val (.int p4), .val (.int p5), .val (.int p6), .val (.int v1), .val (.int v2), .val (.int v3), .val (.int v4), .val (.ref b5), .val (.int v49), .unset, .unset] [(.int (v4 - ((2 : Int32) * v1)))]))
  generalize gv50 : (v4 - ((2 : Int32) * v1)) = v50
  show own_Go p.tables e below RR (T47.setTop (mkF m 182 #[.val (.int p1), .val (.int p2), .val (.int p3), .val (.int p4), .val (.int p5), .val (.int p6), .val (.int v1), .val (.int v2), .val (.int v3), .val (.int v4), .val (.ref b5), .val (.int v49), .unset, .unset] [(.int v50)]))
  refine own_st (fun _ k => XS.istore X47.here hx rfl (hb hby at_182) rfl (l' := #[.val (.int p1), .val (.int p2), .val (.int p3), .val (.int p4), .val (.int p5), .val (.int p6), .val (.int v1), .val (.int v2), .val (.int v3), .val (.int v4), .val (.ref b5), .val (.int v49), .val (.int v50), .unset]) rfl (XS.iload X47.here hx rfl (hb hby at_184) rfl (XS.iload X47.here hx rfl (hb hby at_186) rfl (XS.iadd X47.here hx rfl (hb hby at_188) rfl (XS.iload X47.here hx rfl (hb hby at_189) rfl (XS.iadd X47.here hx rfl (hb hby at_191) rfl (XS.istore X47.here hx rfl (hb hby at_192) rfl (l' := #[.val (.int p1), .val (.int p2), .val (.int p3), .val (.int p4), .val (.int p5), .val (.int p6), .val (.int v1), .val (.int v2), .val (.int v3), .val (.int v4), .val (.ref b5), .val (.int v49), .val (.int v50), .val (.int ((v2 + v49) + v50))]) rfl k))))))) ?_
  show own_Go p.tables e below RR (T47.setTop (mkF m 194 #[.val (.int p1), .val (.int p2), .val (.int p3), .val (.int p4), .val (.int p5), .val (.int p6), .val (.int v1), .val (.int v2), .val (.int v3), .val (.int v4), .val (.ref b5), .val (.int v49), .val (.int v50), .val (.int ((v2 + v49) + v50))] []))
  show own_Go p.tables e below RR (T47.setTop (mkF m 194 #[.val (.int p1), .val (.int p2), .val (.int p3), .val (.int p4), .val (.int p5), .val (.int p6), .val (.int v1), .val (.int v2), .val (.int v3), .val (.int v4), .val (.ref b5), .val (.int v49), .val (.int v50), .val (.int ((v2 + v49) + v50))] []))
  have htot := own_tot b1 b2 b3 b4 c1 c2 c3 c4 gv49 gv50
  show own_Go p.tables e below RR (T47.setTop (mkF m 194 #[.val (.int p1), .val (.int p2), .val (.int p3), .val (.int p4), .val (.int p5), .val (.int p6), .val (.int v1), .val (.int v2), .val (.int v3), .val (.int v4), .val (.ref b5), .val (.int v49), .val (.int v50), .val (.int ((v2 + v49) + v50))] []))
  refine own_st (fun _ k => XS.aload X47.here hx rfl (hb hby at_194) rfl rfl k) ?_
  show own_Go p.tables e below RR (T47.setTop (mkF m 196 #[.val (.int p1), .val (.int p2), .val (.int p3), .val (.int p4), .val (.int p5), .val (.int p6), .val (.int v1), .val (.int v2), .val (.int v3), .val (.int v4), .val (.ref b5), .val (.int v49), .val (.int v50), .val (.int ((v2 + v49) + v50))] [(.ref b5)]))
  obtain ⟨T51, X51, e51, st51⟩ := getF X47 hx hZ hown (host := "") (Or.inl (hw _ (List.mem_of_getElem? (i := 38) rfl))) Via.refl rfl Ff47 (g := (mkF m 196 #[.val (.int p1), .val (.int p2), .val (.int p3), .val (.int p4), .val (.int p5), .val (.int p6), .val (.int v1), .val (.int v2), .val (.int v3), .val (.int v4), .val (.ref b5), .val (.int v49), .val (.int v50), .val (.int ((v2 + v49) + v50))] [(.ref b5)])) rfl rfl (hb hby at_196)
  refine own_st st51 ?_
  show own_Go p.tables e below RR (T51.setTop (mkF m 199 #[.val (.int p1), .val (.int p2), .val (.int p3), .val (.int p4), .val (.int p5), .val (.int p6), .val (.int v1), .val (.int v2), .val (.int v3), .val (.int v4), .val (.ref b5), .val (.int v49), .val (.int v50), .val (.int ((v2 + v49) + v50))] [(.int ff)]))
  refine own_st (fun _ k => XS.iload X51.here hx rfl (hb hby at_199) rfl k) ?_
  show own_Go p.tables e below RR (T51.setTop (mkF m 201 #[.val (.int p1), .val (.int p2), .val (.int p3), .val (.int p4), .val (.int p5), .val (.int p6), .val (.int v1), .val (.int v2), .val (.int v3), .val (.int v4), .val (.ref b5), .val (.int v49), .val (.int v50), .val (.int ((v2 + v49) + v50))] [(.int ((v2 + v49) + v50)), (.int ff)]))
  have hc201_52 : ff = ((v2 + v49) + v50) := Int32.toInt_inj.mp (hff.trans htot.2.symm)
  refine own_st (fun _ k => XS.icmpYes X51.here hx rfl (pc0 := 201) (pc' := 206) rfl (hb hby at_201) rfl (teq hc201_52).1 (by decide) (by decide) (XS.aload X51.here hx rfl (hb hby at_206) rfl rfl (XS.iconst X51.here hx rfl (hb hby at_208) (XS.iload X51.here hx rfl (hb hby at_209) rfl (XS.iload X51.here hx rfl (hb hby at_211) rfl (XS.iload X51.here hx rfl (hb hby at_213) rfl (XS.iload X51.here hx rfl (hb hby at_215) rfl (XS.iload X51.here hx rfl (hb hby at_217) rfl k)))))))) ?_
  show own_Go p.tables e below RR (T51.setTop (mkF m 219 #[.val (.int p1), .val (.int p2), .val (.int p3), .val (.int p4), .val (.int p5), .val (.int p6), .val (.int v1), .val (.int v2), .val (.int v3), .val (.int v4), .val (.ref b5), .val (.int v49), .val (.int v50), .val (.int ((v2 + v49) + v50))] [(.int p5), (.int ((v2 + v49) + v50)), (.int v1), (.int v49), (.int v2), (.int (0 : Int32)), (.ref b5)]))
  refine own_st (fun _ k => XS.iload X51.here hx rfl (hb hby at_219) rfl k) ?_
  show own_Go p.tables e below RR (T51.setTop (mkF m 221 #[.val (.int p1), .val (.int p2), .val (.int p3), .val (.int p4), .val (.int p5), .val (.int p6), .val (.int v1), .val (.int v2), .val (.int v3), .val (.int v4), .val (.ref b5), .val (.int v49), .val (.int v50), .val (.int ((v2 + v49) + v50))] [(.int p6), (.int p5), (.int ((v2 + v49) + v50)), (.int v1), (.int v49), (.int v2), (.int (0 : Int32)), (.ref b5)]))
  obtain ⟨xe53, he53⟩ := own_lst_int (fun i => p5 + Int32.ofNat i) (K := 0) b1 b2 b3 b4
  obtain ⟨xr53, hr53⟩ := own_lst_int (fun i => p6 - Int32.ofNat (3 * i)) (K := 0) b1 b2 b3 b4
  obtain ⟨_, _, ⟨T54, L54, k54, n54⟩, -, X54, ⟨Lc54, hQ54, l54, y54, z54⟩, st54⟩ := Jvm.LawKit.callS X51 hx (y := (⟨"com/example/shiftwise/shiftwise/search/AutomatonMovesJoinLanesPinLaw", "check", "(Lcom/example/shiftwise/shiftwise/search/ScanBlock;IIIIIII)Z"⟩ : MethodName)) hown (mvT hZ (hw _ (List.mem_of_getElem? (i := 39) rfl))) (mvT hZ (hw _ (List.mem_of_getElem? (i := 40) rfl))) (mvT hZ (hw _ (List.mem_of_getElem? (i := 19) rfl))) (mvT hZ (hw _ (List.mem_of_getElem? (i := 41) rfl))) (by decide) (backOf (W := 0) (own_rmC l Z a0 hw [] b5 (0 : Int32) v2 v49 v1 ((v2 + v49) + v50) p5 p6 ae ar ke kr (own_lst (own_fe p5) la fo n2 n3) (own_lst (own_fr p6) la fo n2 n3) 0 xe53 xr53 T47.heap n0 z48 Fe47 Fr47 Ve47 Vr47 (by decide) (by decide) he53 hr53 (fun q => by have hlt : 0 < fo + n2 + n3 := (by rw [Int32.lt_iff_toInt_lt, htot.2] at q; have e : (0 : Int32).toInt = 0 := (by decide); omega); have c := own_chk (k := (0 : Int32)) (a := p5) (b := p6) b1 b2 b3 b4 (by decide) (by decide) c1 c2 htot.1 hlt; exact ⟨Value.int.inj (he53.symm.trans c.1), Value.int.inj (hr53.symm.trans c.2)⟩)) hZ (hw _ (List.mem_of_getElem? (i := 41) rfl)) (hw _ (List.mem_of_getElem? (i := 19) rfl)) (by decide) (by decide)) (g := (mkF m 221 #[.val (.int p1), .val (.int p2), .val (.int p3), .val (.int p4), .val (.int p5), .val (.int p6), .val (.int v1), .val (.int v2), .val (.int v3), .val (.int v4), .val (.ref b5), .val (.int v49), .val (.int v50), .val (.int ((v2 + v49) + v50))] [(.int p6), (.int p5), (.int ((v2 + v49) + v50)), (.int v1), (.int v49), (.int v2), (.int (0 : Int32)), (.ref b5)])) rfl (by rw [hml]; rfl) (argsL := [(.ref b5), (.int (0 : Int32)), (.int v2), (.int v49), (.int v1), (.int ((v2 + v49) + v50)), (.int p5), (.int p6)]) (rest := []) (lenOf own_pd__Lcom_example_shiftwise_shiftwise_search_ScanBlock_IIIIIII_Z rfl) rfl (by show 2 * 0 + _ ≤ _; exact Nat.le_of_eq rfl) (hb hby at_221) (fun _ _ => ⟨rfl, e51, (by decide : 4 + 0 ≤ _), (by decide : 32 + 0 ≤ _)⟩)
  dsimp only [Pt.U, Pt.locs, Pt.cells, Pt.slots] at X54 l54 y54 z54 st54 hQ54
  subst l54 y54 z54
  obtain ⟨rfl, Nq54, eq54⟩ := hQ54
  have N54 := Fr.app N47 Nq54
  refine own_st st54 ?_
  show own_Go p.tables e below RR (T54.setTop (mkF m 224 #[.val (.int p1), .val (.int p2), .val (.int p3), .val (.int p4), .val (.int p5), .val (.int p6), .val (.int v1), .val (.int v2), .val (.int v3), .val (.int v4), .val (.ref b5), .val (.int v49), .val (.int v50), .val (.int ((v2 + v49) + v50))] [(.int (1 : Int32))]))
  refine own_st (fun _ k => XS.ifNo X54.here hx rfl (hb hby at_224) rfl ((if0 _ _).trans (feq (by decide)).1) (XS.aload X54.here hx rfl (hb hby at_227) rfl rfl (XS.iconst X54.here hx rfl (hb hby at_229) (XS.iload X54.here hx rfl (hb hby at_230) rfl (XS.iload X54.here hx rfl (hb hby at_232) rfl (XS.iload X54.here hx rfl (hb hby at_234) rfl (XS.iload X54.here hx rfl (hb hby at_236) rfl (XS.iload X54.here hx rfl (hb hby at_238) rfl k)))))))) ?_
  show own_Go p.tables e below RR (T54.setTop (mkF m 240 #[.val (.int p1), .val (.int p2), .val (.int p3), .val (.int p4), .val (.int p5), .val (.int p6), .val (.int v1), .val (.int v2), .val (.int v3), .val (.int v4), .val (.ref b5), .val (.int v49), .val (.int v50), .val (.int ((v2 + v49) + v50))] [(.int p5), (.int ((v2 + v49) + v50)), (.int v1), (.int v49), (.int v2), (.int (1 : Int32)), (.ref b5)]))
  refine own_st (fun _ k => XS.iload X54.here hx rfl (hb hby at_240) rfl k) ?_
  show own_Go p.tables e below RR (T54.setTop (mkF m 242 #[.val (.int p1), .val (.int p2), .val (.int p3), .val (.int p4), .val (.int p5), .val (.int p6), .val (.int v1), .val (.int v2), .val (.int v3), .val (.int v4), .val (.ref b5), .val (.int v49), .val (.int v50), .val (.int ((v2 + v49) + v50))] [(.int p6), (.int p5), (.int ((v2 + v49) + v50)), (.int v1), (.int v49), (.int v2), (.int (1 : Int32)), (.ref b5)]))
  obtain ⟨xe55, he55⟩ := own_lst_int (fun i => p5 + Int32.ofNat i) (K := 1) b1 b2 b3 b4
  obtain ⟨xr55, hr55⟩ := own_lst_int (fun i => p6 - Int32.ofNat (3 * i)) (K := 1) b1 b2 b3 b4
  obtain ⟨_, _, ⟨T56, L56, k56, n56⟩, -, X56, ⟨Lc56, hQ56, l56, y56, z56⟩, st56⟩ := Jvm.LawKit.callS X54 hx (y := (⟨"com/example/shiftwise/shiftwise/search/AutomatonMovesJoinLanesPinLaw", "check", "(Lcom/example/shiftwise/shiftwise/search/ScanBlock;IIIIIII)Z"⟩ : MethodName)) hown (mvT hZ (hw _ (List.mem_of_getElem? (i := 39) rfl))) (mvT hZ (hw _ (List.mem_of_getElem? (i := 40) rfl))) (mvT hZ (hw _ (List.mem_of_getElem? (i := 19) rfl))) (mvT hZ (hw _ (List.mem_of_getElem? (i := 41) rfl))) (by decide) (backOf (W := 0) (own_rmC l Z a0 hw [] b5 (1 : Int32) v2 v49 v1 ((v2 + v49) + v50) p5 p6 ae ar ke kr (own_lst (own_fe p5) la fo n2 n3) (own_lst (own_fr p6) la fo n2 n3) 1 xe55 xr55 T47.heap n0 z48 Fe47 Fr47 Ve47 Vr47 (by decide) (by decide) he55 hr55 (fun q => by have hlt : 1 < fo + n2 + n3 := (by rw [Int32.lt_iff_toInt_lt, htot.2] at q; have e : (1 : Int32).toInt = 1 := (by decide); omega); have c := own_chk (k := (1 : Int32)) (a := p5) (b := p6) b1 b2 b3 b4 (by decide) (by decide) c1 c2 htot.1 hlt; exact ⟨Value.int.inj (he55.symm.trans c.1), Value.int.inj (hr55.symm.trans c.2)⟩)) hZ (hw _ (List.mem_of_getElem? (i := 41) rfl)) (hw _ (List.mem_of_getElem? (i := 19) rfl)) (by decide) (by decide)) (g := (mkF m 242 #[.val (.int p1), .val (.int p2), .val (.int p3), .val (.int p4), .val (.int p5), .val (.int p6), .val (.int v1), .val (.int v2), .val (.int v3), .val (.int v4), .val (.ref b5), .val (.int v49), .val (.int v50), .val (.int ((v2 + v49) + v50))] [(.int p6), (.int p5), (.int ((v2 + v49) + v50)), (.int v1), (.int v49), (.int v2), (.int (1 : Int32)), (.ref b5)])) rfl (by rw [hml]; rfl) (argsL := [(.ref b5), (.int (1 : Int32)), (.int v2), (.int v49), (.int v1), (.int ((v2 + v49) + v50)), (.int p5), (.int p6)]) (rest := []) (lenOf own_pd__Lcom_example_shiftwise_shiftwise_search_ScanBlock_IIIIIII_Z rfl) rfl (by show 2 * 0 + _ ≤ _; exact Nat.le_of_eq rfl) (hb hby at_242) (fun _ _ => ⟨rfl, eq54, (by decide : 4 + 0 ≤ _), (by decide : 32 + 0 ≤ _)⟩)
  dsimp only [Pt.U, Pt.locs, Pt.cells, Pt.slots] at X56 l56 y56 z56 st56 hQ56
  subst l56 y56 z56
  obtain ⟨rfl, Nq56, eq56⟩ := hQ56
  have N56 := Fr.app N54 Nq56
  refine own_st st56 ?_
  show own_Go p.tables e below RR (T56.setTop (mkF m 245 #[.val (.int p1), .val (.int p2), .val (.int p3), .val (.int p4), .val (.int p5), .val (.int p6), .val (.int v1), .val (.int v2), .val (.int v3), .val (.int v4), .val (.ref b5), .val (.int v49), .val (.int v50), .val (.int ((v2 + v49) + v50))] [(.int (1 : Int32))]))
  refine own_st (fun _ k => XS.ifNo X56.here hx rfl (hb hby at_245) rfl ((if0 _ _).trans (feq (by decide)).1) (XS.aload X56.here hx rfl (hb hby at_248) rfl rfl (XS.iconst X56.here hx rfl (hb hby at_250) (XS.iload X56.here hx rfl (hb hby at_251) rfl (XS.iload X56.here hx rfl (hb hby at_253) rfl (XS.iload X56.here hx rfl (hb hby at_255) rfl (XS.iload X56.here hx rfl (hb hby at_257) rfl (XS.iload X56.here hx rfl (hb hby at_259) rfl k)))))))) ?_
  show own_Go p.tables e below RR (T56.setTop (mkF m 261 #[.val (.int p1), .val (.int p2), .val (.int p3), .val (.int p4), .val (.int p5), .val (.int p6), .val (.int v1), .val (.int v2), .val (.int v3), .val (.int v4), .val (.ref b5), .val (.int v49), .val (.int v50), .val (.int ((v2 + v49) + v50))] [(.int p5), (.int ((v2 + v49) + v50)), (.int v1), (.int v49), (.int v2), (.int (2 : Int32)), (.ref b5)]))
  refine own_st (fun _ k => XS.iload X56.here hx rfl (hb hby at_261) rfl k) ?_
  show own_Go p.tables e below RR (T56.setTop (mkF m 263 #[.val (.int p1), .val (.int p2), .val (.int p3), .val (.int p4), .val (.int p5), .val (.int p6), .val (.int v1), .val (.int v2), .val (.int v3), .val (.int v4), .val (.ref b5), .val (.int v49), .val (.int v50), .val (.int ((v2 + v49) + v50))] [(.int p6), (.int p5), (.int ((v2 + v49) + v50)), (.int v1), (.int v49), (.int v2), (.int (2 : Int32)), (.ref b5)]))
  obtain ⟨xe57, he57⟩ := own_lst_int (fun i => p5 + Int32.ofNat i) (K := 2) b1 b2 b3 b4
  obtain ⟨xr57, hr57⟩ := own_lst_int (fun i => p6 - Int32.ofNat (3 * i)) (K := 2) b1 b2 b3 b4
  obtain ⟨_, _, ⟨T58, L58, k58, n58⟩, -, X58, ⟨Lc58, hQ58, l58, y58, z58⟩, st58⟩ := Jvm.LawKit.callS X56 hx (y := (⟨"com/example/shiftwise/shiftwise/search/AutomatonMovesJoinLanesPinLaw", "check", "(Lcom/example/shiftwise/shiftwise/search/ScanBlock;IIIIIII)Z"⟩ : MethodName)) hown (mvT hZ (hw _ (List.mem_of_getElem? (i := 39) rfl))) (mvT hZ (hw _ (List.mem_of_getElem? (i := 40) rfl))) (mvT hZ (hw _ (List.mem_of_getElem? (i := 19) rfl))) (mvT hZ (hw _ (List.mem_of_getElem? (i := 41) rfl))) (by decide) (backOf (W := 0) (own_rmC l Z a0 hw [] b5 (2 : Int32) v2 v49 v1 ((v2 + v49) + v50) p5 p6 ae ar ke kr (own_lst (own_fe p5) la fo n2 n3) (own_lst (own_fr p6) la fo n2 n3) 2 xe57 xr57 T47.heap n0 z48 Fe47 Fr47 Ve47 Vr47 (by decide) (by decide) he57 hr57 (fun q => by have hlt : 2 < fo + n2 + n3 := (by rw [Int32.lt_iff_toInt_lt, htot.2] at q; have e : (2 : Int32).toInt = 2 := (by decide); omega); have c := own_chk (k := (2 : Int32)) (a := p5) (b := p6) b1 b2 b3 b4 (by decide) (by decide) c1 c2 htot.1 hlt; exact ⟨Value.int.inj (he57.symm.trans c.1), Value.int.inj (hr57.symm.trans c.2)⟩)) hZ (hw _ (List.mem_of_getElem? (i := 41) rfl)) (hw _ (List.mem_of_getElem? (i := 19) rfl)) (by decide) (by decide)) (g := (mkF m 263 #[.val (.int p1), .val (.int p2), .val (.int p3), .val (.int p4), .val (.int p5), .val (.int p6), .val (.int v1), .val (.int v2), .val (.int v3), .val (.int v4), .val (.ref b5), .val (.int v49), .val (.int v50), .val (.int ((v2 + v49) + v50))] [(.int p6), (.int p5), (.int ((v2 + v49) + v50)), (.int v1), (.int v49), (.int v2), (.int (2 : Int32)), (.ref b5)])) rfl (by rw [hml]; rfl) (argsL := [(.ref b5), (.int (2 : Int32)), (.int v2), (.int v49), (.int v1), (.int ((v2 + v49) + v50)), (.int p5), (.int p6)]) (rest := []) (lenOf own_pd__Lcom_example_shiftwise_shiftwise_search_ScanBlock_IIIIIII_Z rfl) rfl (by show 2 * 0 + _ ≤ _; exact Nat.le_of_eq rfl) (hb hby at_263) (fun _ _ => ⟨rfl, eq56, (by decide : 4 + 0 ≤ _), (by decide : 32 + 0 ≤ _)⟩)
  dsimp only [Pt.U, Pt.locs, Pt.cells, Pt.slots] at X58 l58 y58 z58 st58 hQ58
  subst l58 y58 z58
  obtain ⟨rfl, Nq58, eq58⟩ := hQ58
  have N58 := Fr.app N56 Nq58
  refine own_st st58 ?_
  show own_Go p.tables e below RR (T58.setTop (mkF m 266 #[.val (.int p1), .val (.int p2), .val (.int p3), .val (.int p4), .val (.int p5), .val (.int p6), .val (.int v1), .val (.int v2), .val (.int v3), .val (.int v4), .val (.ref b5), .val (.int v49), .val (.int v50), .val (.int ((v2 + v49) + v50))] [(.int (1 : Int32))]))
  refine own_st (fun _ k => XS.ifNo X58.here hx rfl (hb hby at_266) rfl ((if0 _ _).trans (feq (by decide)).1) (XS.aload X58.here hx rfl (hb hby at_269) rfl rfl (XS.iconst X58.here hx rfl (hb hby at_271) (XS.iload X58.here hx rfl (hb hby at_272) rfl (XS.iload X58.here hx rfl (hb hby at_274) rfl (XS.iload X58.here hx rfl (hb hby at_276) rfl (XS.iload X58.here hx rfl (hb hby at_278) rfl (XS.iload X58.here hx rfl (hb hby at_280) rfl k)))))))) ?_
  show own_Go p.tables e below RR (T58.setTop (mkF m 282 #[.val (.int p1), .val (.int p2), .val (.int p3), .val (.int p4), .val (.int p5), .val (.int p6), .val (.int v1), .val (.int v2), .val (.int v3), .val (.int v4), .val (.ref b5), .val (.int v49), .val (.int v50), .val (.int ((v2 + v49) + v50))] [(.int p5), (.int ((v2 + v49) + v50)), (.int v1), (.int v49), (.int v2), (.int (3 : Int32)), (.ref b5)]))
  refine own_st (fun _ k => XS.iload X58.here hx rfl (hb hby at_282) rfl k) ?_
  show own_Go p.tables e below RR (T58.setTop (mkF m 284 #[.val (.int p1), .val (.int p2), .val (.int p3), .val (.int p4), .val (.int p5), .val (.int p6), .val (.int v1), .val (.int v2), .val (.int v3), .val (.int v4), .val (.ref b5), .val (.int v49), .val (.int v50), .val (.int ((v2 + v49) + v50))] [(.int p6), (.int p5), (.int ((v2 + v49) + v50)), (.int v1), (.int v49), (.int v2), (.int (3 : Int32)), (.ref b5)]))
  obtain ⟨xe59, he59⟩ := own_lst_int (fun i => p5 + Int32.ofNat i) (K := 3) b1 b2 b3 b4
  obtain ⟨xr59, hr59⟩ := own_lst_int (fun i => p6 - Int32.ofNat (3 * i)) (K := 3) b1 b2 b3 b4
  obtain ⟨_, _, ⟨T60, L60, k60, n60⟩, -, X60, ⟨Lc60, hQ60, l60, y60, z60⟩, st60⟩ := Jvm.LawKit.callS X58 hx (y := (⟨"com/example/shiftwise/shiftwise/search/AutomatonMovesJoinLanesPinLaw", "check", "(Lcom/example/shiftwise/shiftwise/search/ScanBlock;IIIIIII)Z"⟩ : MethodName)) hown (mvT hZ (hw _ (List.mem_of_getElem? (i := 39) rfl))) (mvT hZ (hw _ (List.mem_of_getElem? (i := 40) rfl))) (mvT hZ (hw _ (List.mem_of_getElem? (i := 19) rfl))) (mvT hZ (hw _ (List.mem_of_getElem? (i := 41) rfl))) (by decide) (backOf (W := 0) (own_rmC l Z a0 hw [] b5 (3 : Int32) v2 v49 v1 ((v2 + v49) + v50) p5 p6 ae ar ke kr (own_lst (own_fe p5) la fo n2 n3) (own_lst (own_fr p6) la fo n2 n3) 3 xe59 xr59 T47.heap n0 z48 Fe47 Fr47 Ve47 Vr47 (by decide) (by decide) he59 hr59 (fun q => by have hlt : 3 < fo + n2 + n3 := (by rw [Int32.lt_iff_toInt_lt, htot.2] at q; have e : (3 : Int32).toInt = 3 := (by decide); omega); have c := own_chk (k := (3 : Int32)) (a := p5) (b := p6) b1 b2 b3 b4 (by decide) (by decide) c1 c2 htot.1 hlt; exact ⟨Value.int.inj (he59.symm.trans c.1), Value.int.inj (hr59.symm.trans c.2)⟩)) hZ (hw _ (List.mem_of_getElem? (i := 41) rfl)) (hw _ (List.mem_of_getElem? (i := 19) rfl)) (by decide) (by decide)) (g := (mkF m 284 #[.val (.int p1), .val (.int p2), .val (.int p3), .val (.int p4), .val (.int p5), .val (.int p6), .val (.int v1), .val (.int v2), .val (.int v3), .val (.int v4), .val (.ref b5), .val (.int v49), .val (.int v50), .val (.int ((v2 + v49) + v50))] [(.int p6), (.int p5), (.int ((v2 + v49) + v50)), (.int v1), (.int v49), (.int v2), (.int (3 : Int32)), (.ref b5)])) rfl (by rw [hml]; rfl) (argsL := [(.ref b5), (.int (3 : Int32)), (.int v2), (.int v49), (.int v1), (.int ((v2 + v49) + v50)), (.int p5), (.int p6)]) (rest := []) (lenOf own_pd__Lcom_example_shiftwise_shiftwise_search_ScanBlock_IIIIIII_Z rfl) rfl (by show 2 * 0 + _ ≤ _; exact Nat.le_of_eq rfl) (hb hby at_284) (fun _ _ => ⟨rfl, eq58, (by decide : 4 + 0 ≤ _), (by decide : 32 + 0 ≤ _)⟩)
  dsimp only [Pt.U, Pt.locs, Pt.cells, Pt.slots] at X60 l60 y60 z60 st60 hQ60
  subst l60 y60 z60
  obtain ⟨rfl, Nq60, eq60⟩ := hQ60
  have N60 := Fr.app N58 Nq60
  refine own_st st60 ?_
  show own_Go p.tables e below RR (T60.setTop (mkF m 287 #[.val (.int p1), .val (.int p2), .val (.int p3), .val (.int p4), .val (.int p5), .val (.int p6), .val (.int v1), .val (.int v2), .val (.int v3), .val (.int v4), .val (.ref b5), .val (.int v49), .val (.int v50), .val (.int ((v2 + v49) + v50))] [(.int (1 : Int32))]))
  refine own_st (fun _ k => XS.ifNo X60.here hx rfl (hb hby at_287) rfl ((if0 _ _).trans (feq (by decide)).1) (XS.aload X60.here hx rfl (hb hby at_290) rfl rfl (XS.iconst X60.here hx rfl (hb hby at_292) (XS.iload X60.here hx rfl (hb hby at_293) rfl (XS.iload X60.here hx rfl (hb hby at_295) rfl (XS.iload X60.here hx rfl (hb hby at_297) rfl (XS.iload X60.here hx rfl (hb hby at_299) rfl (XS.iload X60.here hx rfl (hb hby at_301) rfl k)))))))) ?_
  show own_Go p.tables e below RR (T60.setTop (mkF m 303 #[.val (.int p1), .val (.int p2), .val (.int p3), .val (.int p4), .val (.int p5), .val (.int p6), .val (.int v1), .val (.int v2), .val (.int v3), .val (.int v4), .val (.ref b5), .val (.int v49), .val (.int v50), .val (.int ((v2 + v49) + v50))] [(.int p5), (.int ((v2 + v49) + v50)), (.int v1), (.int v49), (.int v2), (.int (4 : Int32)), (.ref b5)]))
  refine own_st (fun _ k => XS.iload X60.here hx rfl (hb hby at_303) rfl k) ?_
  show own_Go p.tables e below RR (T60.setTop (mkF m 305 #[.val (.int p1), .val (.int p2), .val (.int p3), .val (.int p4), .val (.int p5), .val (.int p6), .val (.int v1), .val (.int v2), .val (.int v3), .val (.int v4), .val (.ref b5), .val (.int v49), .val (.int v50), .val (.int ((v2 + v49) + v50))] [(.int p6), (.int p5), (.int ((v2 + v49) + v50)), (.int v1), (.int v49), (.int v2), (.int (4 : Int32)), (.ref b5)]))
  obtain ⟨xe61, he61⟩ := own_lst_int (fun i => p5 + Int32.ofNat i) (K := 4) b1 b2 b3 b4
  obtain ⟨xr61, hr61⟩ := own_lst_int (fun i => p6 - Int32.ofNat (3 * i)) (K := 4) b1 b2 b3 b4
  obtain ⟨_, _, ⟨T62, L62, k62, n62⟩, -, X62, ⟨Lc62, hQ62, l62, y62, z62⟩, st62⟩ := Jvm.LawKit.callS X60 hx (y := (⟨"com/example/shiftwise/shiftwise/search/AutomatonMovesJoinLanesPinLaw", "check", "(Lcom/example/shiftwise/shiftwise/search/ScanBlock;IIIIIII)Z"⟩ : MethodName)) hown (mvT hZ (hw _ (List.mem_of_getElem? (i := 39) rfl))) (mvT hZ (hw _ (List.mem_of_getElem? (i := 40) rfl))) (mvT hZ (hw _ (List.mem_of_getElem? (i := 19) rfl))) (mvT hZ (hw _ (List.mem_of_getElem? (i := 41) rfl))) (by decide) (backOf (W := 0) (own_rmC l Z a0 hw [] b5 (4 : Int32) v2 v49 v1 ((v2 + v49) + v50) p5 p6 ae ar ke kr (own_lst (own_fe p5) la fo n2 n3) (own_lst (own_fr p6) la fo n2 n3) 4 xe61 xr61 T47.heap n0 z48 Fe47 Fr47 Ve47 Vr47 (by decide) (by decide) he61 hr61 (fun q => by have hlt : 4 < fo + n2 + n3 := (by rw [Int32.lt_iff_toInt_lt, htot.2] at q; have e : (4 : Int32).toInt = 4 := (by decide); omega); have c := own_chk (k := (4 : Int32)) (a := p5) (b := p6) b1 b2 b3 b4 (by decide) (by decide) c1 c2 htot.1 hlt; exact ⟨Value.int.inj (he61.symm.trans c.1), Value.int.inj (hr61.symm.trans c.2)⟩)) hZ (hw _ (List.mem_of_getElem? (i := 41) rfl)) (hw _ (List.mem_of_getElem? (i := 19) rfl)) (by decide) (by decide)) (g := (mkF m 305 #[.val (.int p1), .val (.int p2), .val (.int p3), .val (.int p4), .val (.int p5), .val (.int p6), .val (.int v1), .val (.int v2), .val (.int v3), .val (.int v4), .val (.ref b5), .val (.int v49), .val (.int v50), .val (.int ((v2 + v49) + v50))] [(.int p6), (.int p5), (.int ((v2 + v49) + v50)), (.int v1), (.int v49), (.int v2), (.int (4 : Int32)), (.ref b5)])) rfl (by rw [hml]; rfl) (argsL := [(.ref b5), (.int (4 : Int32)), (.int v2), (.int v49), (.int v1), (.int ((v2 + v49) + v50)), (.int p5), (.int p6)]) (rest := []) (lenOf own_pd__Lcom_example_shiftwise_shiftwise_search_ScanBlock_IIIIIII_Z rfl) rfl (by show 2 * 0 + _ ≤ _; exact Nat.le_of_eq rfl) (hb hby at_305) (fun _ _ => ⟨rfl, eq60, (by decide : 4 + 0 ≤ _), (by decide : 32 + 0 ≤ _)⟩)
  dsimp only [Pt.U, Pt.locs, Pt.cells, Pt.slots] at X62 l62 y62 z62 st62 hQ62
  subst l62 y62 z62
  obtain ⟨rfl, Nq62, eq62⟩ := hQ62
  have N62 := Fr.app N60 Nq62
  refine own_st st62 ?_
  show own_Go p.tables e below RR (T62.setTop (mkF m 308 #[.val (.int p1), .val (.int p2), .val (.int p3), .val (.int p4), .val (.int p5), .val (.int p6), .val (.int v1), .val (.int v2), .val (.int v3), .val (.int v4), .val (.ref b5), .val (.int v49), .val (.int v50), .val (.int ((v2 + v49) + v50))] [(.int (1 : Int32))]))
  refine own_st (fun _ k => XS.ifNo X62.here hx rfl (hb hby at_308) rfl ((if0 _ _).trans (feq (by decide)).1) (XS.aload X62.here hx rfl (hb hby at_311) rfl rfl (XS.iconst X62.here hx rfl (hb hby at_313) (XS.iload X62.here hx rfl (hb hby at_314) rfl (XS.iload X62.here hx rfl (hb hby at_316) rfl (XS.iload X62.here hx rfl (hb hby at_318) rfl (XS.iload X62.here hx rfl (hb hby at_320) rfl (XS.iload X62.here hx rfl (hb hby at_322) rfl k)))))))) ?_
  show own_Go p.tables e below RR (T62.setTop (mkF m 324 #[.val (.int p1), .val (.int p2), .val (.int p3), .val (.int p4), .val (.int p5), .val (.int p6), .val (.int v1), .val (.int v2), .val (.int v3), .val (.int v4), .val (.ref b5), .val (.int v49), .val (.int v50), .val (.int ((v2 + v49) + v50))] [(.int p5), (.int ((v2 + v49) + v50)), (.int v1), (.int v49), (.int v2), (.int (5 : Int32)), (.ref b5)]))
  refine own_st (fun _ k => XS.iload X62.here hx rfl (hb hby at_324) rfl k) ?_
  show own_Go p.tables e below RR (T62.setTop (mkF m 326 #[.val (.int p1), .val (.int p2), .val (.int p3), .val (.int p4), .val (.int p5), .val (.int p6), .val (.int v1), .val (.int v2), .val (.int v3), .val (.int v4), .val (.ref b5), .val (.int v49), .val (.int v50), .val (.int ((v2 + v49) + v50))] [(.int p6), (.int p5), (.int ((v2 + v49) + v50)), (.int v1), (.int v49), (.int v2), (.int (5 : Int32)), (.ref b5)]))
  obtain ⟨xe63, he63⟩ := own_lst_int (fun i => p5 + Int32.ofNat i) (K := 5) b1 b2 b3 b4
  obtain ⟨xr63, hr63⟩ := own_lst_int (fun i => p6 - Int32.ofNat (3 * i)) (K := 5) b1 b2 b3 b4
  obtain ⟨_, _, ⟨T64, L64, k64, n64⟩, -, X64, ⟨Lc64, hQ64, l64, y64, z64⟩, st64⟩ := Jvm.LawKit.callS X62 hx (y := (⟨"com/example/shiftwise/shiftwise/search/AutomatonMovesJoinLanesPinLaw", "check", "(Lcom/example/shiftwise/shiftwise/search/ScanBlock;IIIIIII)Z"⟩ : MethodName)) hown (mvT hZ (hw _ (List.mem_of_getElem? (i := 39) rfl))) (mvT hZ (hw _ (List.mem_of_getElem? (i := 40) rfl))) (mvT hZ (hw _ (List.mem_of_getElem? (i := 19) rfl))) (mvT hZ (hw _ (List.mem_of_getElem? (i := 41) rfl))) (by decide) (backOf (W := 0) (own_rmC l Z a0 hw [] b5 (5 : Int32) v2 v49 v1 ((v2 + v49) + v50) p5 p6 ae ar ke kr (own_lst (own_fe p5) la fo n2 n3) (own_lst (own_fr p6) la fo n2 n3) 5 xe63 xr63 T47.heap n0 z48 Fe47 Fr47 Ve47 Vr47 (by decide) (by decide) he63 hr63 (fun q => by have hlt : 5 < fo + n2 + n3 := (by rw [Int32.lt_iff_toInt_lt, htot.2] at q; have e : (5 : Int32).toInt = 5 := (by decide); omega); have c := own_chk (k := (5 : Int32)) (a := p5) (b := p6) b1 b2 b3 b4 (by decide) (by decide) c1 c2 htot.1 hlt; exact ⟨Value.int.inj (he63.symm.trans c.1), Value.int.inj (hr63.symm.trans c.2)⟩)) hZ (hw _ (List.mem_of_getElem? (i := 41) rfl)) (hw _ (List.mem_of_getElem? (i := 19) rfl)) (by decide) (by decide)) (g := (mkF m 326 #[.val (.int p1), .val (.int p2), .val (.int p3), .val (.int p4), .val (.int p5), .val (.int p6), .val (.int v1), .val (.int v2), .val (.int v3), .val (.int v4), .val (.ref b5), .val (.int v49), .val (.int v50), .val (.int ((v2 + v49) + v50))] [(.int p6), (.int p5), (.int ((v2 + v49) + v50)), (.int v1), (.int v49), (.int v2), (.int (5 : Int32)), (.ref b5)])) rfl (by rw [hml]; rfl) (argsL := [(.ref b5), (.int (5 : Int32)), (.int v2), (.int v49), (.int v1), (.int ((v2 + v49) + v50)), (.int p5), (.int p6)]) (rest := []) (lenOf own_pd__Lcom_example_shiftwise_shiftwise_search_ScanBlock_IIIIIII_Z rfl) rfl (by show 2 * 0 + _ ≤ _; exact Nat.le_of_eq rfl) (hb hby at_326) (fun _ _ => ⟨rfl, eq62, (by decide : 4 + 0 ≤ _), (by decide : 32 + 0 ≤ _)⟩)
  dsimp only [Pt.U, Pt.locs, Pt.cells, Pt.slots] at X64 l64 y64 z64 st64 hQ64
  subst l64 y64 z64
  obtain ⟨rfl, Nq64, eq64⟩ := hQ64
  have N64 := Fr.app N62 Nq64
  refine own_st st64 ?_
  show own_Go p.tables e below RR (T64.setTop (mkF m 329 #[.val (.int p1), .val (.int p2), .val (.int p3), .val (.int p4), .val (.int p5), .val (.int p6), .val (.int v1), .val (.int v2), .val (.int v3), .val (.int v4), .val (.ref b5), .val (.int v49), .val (.int v50), .val (.int ((v2 + v49) + v50))] [(.int (1 : Int32))]))
  refine own_st (fun _ k => XS.ifNo X64.here hx rfl (hb hby at_329) rfl ((if0 _ _).trans (feq (by decide)).1) (XS.aload X64.here hx rfl (hb hby at_332) rfl rfl (XS.bipush X64.here hx rfl (hb hby at_334) (XS.iload X64.here hx rfl (hb hby at_336) rfl (XS.iload X64.here hx rfl (hb hby at_338) rfl (XS.iload X64.here hx rfl (hb hby at_340) rfl (XS.iload X64.here hx rfl (hb hby at_342) rfl (XS.iload X64.here hx rfl (hb hby at_344) rfl k)))))))) ?_
  show own_Go p.tables e below RR (T64.setTop (mkF m 346 #[.val (.int p1), .val (.int p2), .val (.int p3), .val (.int p4), .val (.int p5), .val (.int p6), .val (.int v1), .val (.int v2), .val (.int v3), .val (.int v4), .val (.ref b5), .val (.int v49), .val (.int v50), .val (.int ((v2 + v49) + v50))] [(.int p5), (.int ((v2 + v49) + v50)), (.int v1), (.int v49), (.int v2), (.int (6 : Int32)), (.ref b5)]))
  refine own_st (fun _ k => XS.iload X64.here hx rfl (hb hby at_346) rfl k) ?_
  show own_Go p.tables e below RR (T64.setTop (mkF m 348 #[.val (.int p1), .val (.int p2), .val (.int p3), .val (.int p4), .val (.int p5), .val (.int p6), .val (.int v1), .val (.int v2), .val (.int v3), .val (.int v4), .val (.ref b5), .val (.int v49), .val (.int v50), .val (.int ((v2 + v49) + v50))] [(.int p6), (.int p5), (.int ((v2 + v49) + v50)), (.int v1), (.int v49), (.int v2), (.int (6 : Int32)), (.ref b5)]))
  obtain ⟨xe65, he65⟩ := own_lst_int (fun i => p5 + Int32.ofNat i) (K := 6) b1 b2 b3 b4
  obtain ⟨xr65, hr65⟩ := own_lst_int (fun i => p6 - Int32.ofNat (3 * i)) (K := 6) b1 b2 b3 b4
  obtain ⟨_, _, ⟨T66, L66, k66, n66⟩, -, X66, ⟨Lc66, hQ66, l66, y66, z66⟩, st66⟩ := Jvm.LawKit.callS X64 hx (y := (⟨"com/example/shiftwise/shiftwise/search/AutomatonMovesJoinLanesPinLaw", "check", "(Lcom/example/shiftwise/shiftwise/search/ScanBlock;IIIIIII)Z"⟩ : MethodName)) hown (mvT hZ (hw _ (List.mem_of_getElem? (i := 39) rfl))) (mvT hZ (hw _ (List.mem_of_getElem? (i := 40) rfl))) (mvT hZ (hw _ (List.mem_of_getElem? (i := 19) rfl))) (mvT hZ (hw _ (List.mem_of_getElem? (i := 41) rfl))) (by decide) (backOf (W := 0) (own_rmC l Z a0 hw [] b5 (6 : Int32) v2 v49 v1 ((v2 + v49) + v50) p5 p6 ae ar ke kr (own_lst (own_fe p5) la fo n2 n3) (own_lst (own_fr p6) la fo n2 n3) 6 xe65 xr65 T47.heap n0 z48 Fe47 Fr47 Ve47 Vr47 (by decide) (by decide) he65 hr65 (fun q => by have hlt : 6 < fo + n2 + n3 := (by rw [Int32.lt_iff_toInt_lt, htot.2] at q; have e : (6 : Int32).toInt = 6 := (by decide); omega); have c := own_chk (k := (6 : Int32)) (a := p5) (b := p6) b1 b2 b3 b4 (by decide) (by decide) c1 c2 htot.1 hlt; exact ⟨Value.int.inj (he65.symm.trans c.1), Value.int.inj (hr65.symm.trans c.2)⟩)) hZ (hw _ (List.mem_of_getElem? (i := 41) rfl)) (hw _ (List.mem_of_getElem? (i := 19) rfl)) (by decide) (by decide)) (g := (mkF m 348 #[.val (.int p1), .val (.int p2), .val (.int p3), .val (.int p4), .val (.int p5), .val (.int p6), .val (.int v1), .val (.int v2), .val (.int v3), .val (.int v4), .val (.ref b5), .val (.int v49), .val (.int v50), .val (.int ((v2 + v49) + v50))] [(.int p6), (.int p5), (.int ((v2 + v49) + v50)), (.int v1), (.int v49), (.int v2), (.int (6 : Int32)), (.ref b5)])) rfl (by rw [hml]; rfl) (argsL := [(.ref b5), (.int (6 : Int32)), (.int v2), (.int v49), (.int v1), (.int ((v2 + v49) + v50)), (.int p5), (.int p6)]) (rest := []) (lenOf own_pd__Lcom_example_shiftwise_shiftwise_search_ScanBlock_IIIIIII_Z rfl) rfl (by show 2 * 0 + _ ≤ _; exact Nat.le_of_eq rfl) (hb hby at_348) (fun _ _ => ⟨rfl, eq64, (by decide : 4 + 0 ≤ _), (by decide : 32 + 0 ≤ _)⟩)
  dsimp only [Pt.U, Pt.locs, Pt.cells, Pt.slots] at X66 l66 y66 z66 st66 hQ66
  subst l66 y66 z66
  obtain ⟨rfl, Nq66, eq66⟩ := hQ66
  have N66 := Fr.app N64 Nq66
  refine own_st st66 ?_
  show own_Go p.tables e below RR (T66.setTop (mkF m 351 #[.val (.int p1), .val (.int p2), .val (.int p3), .val (.int p4), .val (.int p5), .val (.int p6), .val (.int v1), .val (.int v2), .val (.int v3), .val (.int v4), .val (.ref b5), .val (.int v49), .val (.int v50), .val (.int ((v2 + v49) + v50))] [(.int (1 : Int32))]))
  refine own_st (fun _ k => XS.ifNo X66.here hx rfl (hb hby at_351) rfl ((if0 _ _).trans (feq (by decide)).1) (XS.aload X66.here hx rfl (hb hby at_354) rfl rfl (XS.bipush X66.here hx rfl (hb hby at_356) (XS.iload X66.here hx rfl (hb hby at_358) rfl (XS.iload X66.here hx rfl (hb hby at_360) rfl (XS.iload X66.here hx rfl (hb hby at_362) rfl (XS.iload X66.here hx rfl (hb hby at_364) rfl (XS.iload X66.here hx rfl (hb hby at_366) rfl k)))))))) ?_
  show own_Go p.tables e below RR (T66.setTop (mkF m 368 #[.val (.int p1), .val (.int p2), .val (.int p3), .val (.int p4), .val (.int p5), .val (.int p6), .val (.int v1), .val (.int v2), .val (.int v3), .val (.int v4), .val (.ref b5), .val (.int v49), .val (.int v50), .val (.int ((v2 + v49) + v50))] [(.int p5), (.int ((v2 + v49) + v50)), (.int v1), (.int v49), (.int v2), (.int (7 : Int32)), (.ref b5)]))
  refine own_st (fun _ k => XS.iload X66.here hx rfl (hb hby at_368) rfl k) ?_
  show own_Go p.tables e below RR (T66.setTop (mkF m 370 #[.val (.int p1), .val (.int p2), .val (.int p3), .val (.int p4), .val (.int p5), .val (.int p6), .val (.int v1), .val (.int v2), .val (.int v3), .val (.int v4), .val (.ref b5), .val (.int v49), .val (.int v50), .val (.int ((v2 + v49) + v50))] [(.int p6), (.int p5), (.int ((v2 + v49) + v50)), (.int v1), (.int v49), (.int v2), (.int (7 : Int32)), (.ref b5)]))
  obtain ⟨xe67, he67⟩ := own_lst_int (fun i => p5 + Int32.ofNat i) (K := 7) b1 b2 b3 b4
  obtain ⟨xr67, hr67⟩ := own_lst_int (fun i => p6 - Int32.ofNat (3 * i)) (K := 7) b1 b2 b3 b4
  obtain ⟨_, _, ⟨T68, L68, k68, n68⟩, -, X68, ⟨Lc68, hQ68, l68, y68, z68⟩, st68⟩ := Jvm.LawKit.callS X66 hx (y := (⟨"com/example/shiftwise/shiftwise/search/AutomatonMovesJoinLanesPinLaw", "check", "(Lcom/example/shiftwise/shiftwise/search/ScanBlock;IIIIIII)Z"⟩ : MethodName)) hown (mvT hZ (hw _ (List.mem_of_getElem? (i := 39) rfl))) (mvT hZ (hw _ (List.mem_of_getElem? (i := 40) rfl))) (mvT hZ (hw _ (List.mem_of_getElem? (i := 19) rfl))) (mvT hZ (hw _ (List.mem_of_getElem? (i := 41) rfl))) (by decide) (backOf (W := 0) (own_rmC l Z a0 hw [] b5 (7 : Int32) v2 v49 v1 ((v2 + v49) + v50) p5 p6 ae ar ke kr (own_lst (own_fe p5) la fo n2 n3) (own_lst (own_fr p6) la fo n2 n3) 7 xe67 xr67 T47.heap n0 z48 Fe47 Fr47 Ve47 Vr47 (by decide) (by decide) he67 hr67 (fun q => by have hlt : 7 < fo + n2 + n3 := (by rw [Int32.lt_iff_toInt_lt, htot.2] at q; have e : (7 : Int32).toInt = 7 := (by decide); omega); have c := own_chk (k := (7 : Int32)) (a := p5) (b := p6) b1 b2 b3 b4 (by decide) (by decide) c1 c2 htot.1 hlt; exact ⟨Value.int.inj (he67.symm.trans c.1), Value.int.inj (hr67.symm.trans c.2)⟩)) hZ (hw _ (List.mem_of_getElem? (i := 41) rfl)) (hw _ (List.mem_of_getElem? (i := 19) rfl)) (by decide) (by decide)) (g := (mkF m 370 #[.val (.int p1), .val (.int p2), .val (.int p3), .val (.int p4), .val (.int p5), .val (.int p6), .val (.int v1), .val (.int v2), .val (.int v3), .val (.int v4), .val (.ref b5), .val (.int v49), .val (.int v50), .val (.int ((v2 + v49) + v50))] [(.int p6), (.int p5), (.int ((v2 + v49) + v50)), (.int v1), (.int v49), (.int v2), (.int (7 : Int32)), (.ref b5)])) rfl (by rw [hml]; rfl) (argsL := [(.ref b5), (.int (7 : Int32)), (.int v2), (.int v49), (.int v1), (.int ((v2 + v49) + v50)), (.int p5), (.int p6)]) (rest := []) (lenOf own_pd__Lcom_example_shiftwise_shiftwise_search_ScanBlock_IIIIIII_Z rfl) rfl (by show 2 * 0 + _ ≤ _; exact Nat.le_of_eq rfl) (hb hby at_370) (fun _ _ => ⟨rfl, eq66, (by decide : 4 + 0 ≤ _), (by decide : 32 + 0 ≤ _)⟩)
  dsimp only [Pt.U, Pt.locs, Pt.cells, Pt.slots] at X68 l68 y68 z68 st68 hQ68
  subst l68 y68 z68
  obtain ⟨rfl, Nq68, eq68⟩ := hQ68
  have N68 := Fr.app N66 Nq68
  refine own_st st68 ?_
  show own_Go p.tables e below RR (T68.setTop (mkF m 373 #[.val (.int p1), .val (.int p2), .val (.int p3), .val (.int p4), .val (.int p5), .val (.int p6), .val (.int v1), .val (.int v2), .val (.int v3), .val (.int v4), .val (.ref b5), .val (.int v49), .val (.int v50), .val (.int ((v2 + v49) + v50))] [(.int (1 : Int32))]))
  refine own_st (fun _ k => XS.ifNo X68.here hx rfl (hb hby at_373) rfl ((if0 _ _).trans (feq (by decide)).1) (XS.aload X68.here hx rfl (hb hby at_376) rfl rfl (XS.bipush X68.here hx rfl (hb hby at_378) (XS.iload X68.here hx rfl (hb hby at_380) rfl (XS.iload X68.here hx rfl (hb hby at_382) rfl (XS.iload X68.here hx rfl (hb hby at_384) rfl (XS.iload X68.here hx rfl (hb hby at_386) rfl (XS.iload X68.here hx rfl (hb hby at_388) rfl k)))))))) ?_
  show own_Go p.tables e below RR (T68.setTop (mkF m 390 #[.val (.int p1), .val (.int p2), .val (.int p3), .val (.int p4), .val (.int p5), .val (.int p6), .val (.int v1), .val (.int v2), .val (.int v3), .val (.int v4), .val (.ref b5), .val (.int v49), .val (.int v50), .val (.int ((v2 + v49) + v50))] [(.int p5), (.int ((v2 + v49) + v50)), (.int v1), (.int v49), (.int v2), (.int (8 : Int32)), (.ref b5)]))
  refine own_st (fun _ k => XS.iload X68.here hx rfl (hb hby at_390) rfl k) ?_
  show own_Go p.tables e below RR (T68.setTop (mkF m 392 #[.val (.int p1), .val (.int p2), .val (.int p3), .val (.int p4), .val (.int p5), .val (.int p6), .val (.int v1), .val (.int v2), .val (.int v3), .val (.int v4), .val (.ref b5), .val (.int v49), .val (.int v50), .val (.int ((v2 + v49) + v50))] [(.int p6), (.int p5), (.int ((v2 + v49) + v50)), (.int v1), (.int v49), (.int v2), (.int (8 : Int32)), (.ref b5)]))
  obtain ⟨xe69, he69⟩ := own_lst_int (fun i => p5 + Int32.ofNat i) (K := 8) b1 b2 b3 b4
  obtain ⟨xr69, hr69⟩ := own_lst_int (fun i => p6 - Int32.ofNat (3 * i)) (K := 8) b1 b2 b3 b4
  obtain ⟨_, _, ⟨T70, L70, k70, n70⟩, -, X70, ⟨Lc70, hQ70, l70, y70, z70⟩, st70⟩ := Jvm.LawKit.callS X68 hx (y := (⟨"com/example/shiftwise/shiftwise/search/AutomatonMovesJoinLanesPinLaw", "check", "(Lcom/example/shiftwise/shiftwise/search/ScanBlock;IIIIIII)Z"⟩ : MethodName)) hown (mvT hZ (hw _ (List.mem_of_getElem? (i := 39) rfl))) (mvT hZ (hw _ (List.mem_of_getElem? (i := 40) rfl))) (mvT hZ (hw _ (List.mem_of_getElem? (i := 19) rfl))) (mvT hZ (hw _ (List.mem_of_getElem? (i := 41) rfl))) (by decide) (backOf (W := 0) (own_rmC l Z a0 hw [] b5 (8 : Int32) v2 v49 v1 ((v2 + v49) + v50) p5 p6 ae ar ke kr (own_lst (own_fe p5) la fo n2 n3) (own_lst (own_fr p6) la fo n2 n3) 8 xe69 xr69 T47.heap n0 z48 Fe47 Fr47 Ve47 Vr47 (by decide) (by decide) he69 hr69 (fun q => by have hlt : 8 < fo + n2 + n3 := (by rw [Int32.lt_iff_toInt_lt, htot.2] at q; have e : (8 : Int32).toInt = 8 := (by decide); omega); have c := own_chk (k := (8 : Int32)) (a := p5) (b := p6) b1 b2 b3 b4 (by decide) (by decide) c1 c2 htot.1 hlt; exact ⟨Value.int.inj (he69.symm.trans c.1), Value.int.inj (hr69.symm.trans c.2)⟩)) hZ (hw _ (List.mem_of_getElem? (i := 41) rfl)) (hw _ (List.mem_of_getElem? (i := 19) rfl)) (by decide) (by decide)) (g := (mkF m 392 #[.val (.int p1), .val (.int p2), .val (.int p3), .val (.int p4), .val (.int p5), .val (.int p6), .val (.int v1), .val (.int v2), .val (.int v3), .val (.int v4), .val (.ref b5), .val (.int v49), .val (.int v50), .val (.int ((v2 + v49) + v50))] [(.int p6), (.int p5), (.int ((v2 + v49) + v50)), (.int v1), (.int v49), (.int v2), (.int (8 : Int32)), (.ref b5)])) rfl (by rw [hml]; rfl) (argsL := [(.ref b5), (.int (8 : Int32)), (.int v2), (.int v49), (.int v1), (.int ((v2 + v49) + v50)), (.int p5), (.int p6)]) (rest := []) (lenOf own_pd__Lcom_example_shiftwise_shiftwise_search_ScanBlock_IIIIIII_Z rfl) rfl (by show 2 * 0 + _ ≤ _; exact Nat.le_of_eq rfl) (hb hby at_392) (fun _ _ => ⟨rfl, eq68, (by decide : 4 + 0 ≤ _), (by decide : 32 + 0 ≤ _)⟩)
  dsimp only [Pt.U, Pt.locs, Pt.cells, Pt.slots] at X70 l70 y70 z70 st70 hQ70
  subst l70 y70 z70
  obtain ⟨rfl, Nq70, eq70⟩ := hQ70
  have N70 := Fr.app N68 Nq70
  refine own_st st70 ?_
  show own_Go p.tables e below RR (T70.setTop (mkF m 395 #[.val (.int p1), .val (.int p2), .val (.int p3), .val (.int p4), .val (.int p5), .val (.int p6), .val (.int v1), .val (.int v2), .val (.int v3), .val (.int v4), .val (.ref b5), .val (.int v49), .val (.int v50), .val (.int ((v2 + v49) + v50))] [(.int (1 : Int32))]))
  refine own_st (fun _ k => XS.ifNo X70.here hx rfl (hb hby at_395) rfl ((if0 _ _).trans (feq (by decide)).1) (XS.iconst X70.here hx rfl (hb hby at_398) (XS.goto X70.here hx rfl (pc0 := 399) (pc' := 403) rfl (hb hby at_399) (by decide) (by decide) k))) ?_
  show own_Go p.tables e below RR (T70.setTop (mkF m 403 #[.val (.int p1), .val (.int p2), .val (.int p3), .val (.int p4), .val (.int p5), .val (.int p6), .val (.int v1), .val (.int v2), .val (.int v3), .val (.int v4), .val (.ref b5), .val (.int v49), .val (.int v50), .val (.int ((v2 + v49) + v50))] [(.int (1 : Int32))]))
  obtain ⟨fs, hrt_, hrun, hended, hW, hsame⟩ := X70.leave (v := some (.int (1 : Int32))) (fun h => by rw [Bd.returns] at h; cases h)
  refine own_fin (retN X70 hx (t := .boolean) Bd.returns (by simp) (hb hby at_403) hrt_) (hRR _ ⟨_, hrun, hended, _, _, rfl, ?_, ⟨_, rfl⟩, hW, hsame.mono (by decide) (by decide)⟩)
  show own_Q0 Z p1 p2 p3 p4 p5 p6 h0 n0 _ T70.heap _
  rw [eq70]
  exact ⟨rfl, N70⟩
set_option maxRecDepth 65536 in
set_option maxHeartbeats 40000000 in
theorem own_comes {Post : Tables → Env → Array Value → State → Outcome → State → Prop} (hpost : ∀ tb e args s v u, (limb_1_1.after args s (.returned v) u = true ∧ limb_1_2.after args s (.returned v) u = true ∧ True) → FrameEnd s (.returned v) u (Jvm.fieldLocs frame_1_writes args s ++ Jvm.arrayLocs frame_1_arrays args s ++ Jvm.staticLocs frame_1_statics s) 16 128 → Post tb e args s (.returned v) u) :
    ArmFor flags0 classFile x code maxLocals ret World_1 tables_1 room_1 Calls_1 rest_1 Pre_1 Post := by
  intro l hfl _ _ p e ha hc hk s m args below hf hA hF happ hP
  obtain ⟨hcalls, hrest, hpre⟩ := hP
  obtain ⟨-, -, -, hnamed, -, -, -, hat⟩ := (Spec.applies_iff hf).mp happ
  obtain ⟨hg, hn⟩ := and_e (Cond.before_iff.mp (show (Jvm.Cond.and given_1 narrow_1).before args s = true from hpre))
  obtain ⟨u1a, u1b⟩ := and_e hg
  obtain ⟨u2a, u2b⟩ := and_e u1b
  obtain ⟨u3a, u3b⟩ := and_e u2b
  obtain ⟨u4a, u4b⟩ := and_e u3b
  obtain ⟨u5a, u5b⟩ := and_e u4b
  obtain ⟨u6a, u6b⟩ := and_e u5b
  obtain ⟨w0, w1, w2, w3, w4, w5, rfl⟩ : ∃ w0 w1 w2 w3 w4 w5 : Value, args = #[w0, w1, w2, w3, w4, w5] := by
    have hs : args.size = 6 := by simpa [Cond.value, given_1] using u1a
    obtain ⟨L⟩ := args
    match L, hs with
    | [w0, w1, w2, w3, w4, w5], _ => exact ⟨w0, w1, w2, w3, w4, w5, rfl⟩
  have hw := fun d (hd : d ∈ tables_1) => atoms_spec (ws := Jvm.Cond.code x code maxLocals ret :: tables_1) hat d (List.mem_cons_of_mem _ hd)
  have hfit : Fit s := fun {y c} hc i hi => by
    obtain ⟨ha, rfl⟩ := Array.getElem?_eq_some_iff.mp hc
    have q := List.all_eq_true.mp ((Array.all_eq_true_iff_forall_mem.mp hF) _ (Array.getElem_mem ha)) i (List.mem_range.mpr hi)
    simpa [Array.getElem?_eq_getElem hi] using q
  obtain ⟨i0, ei0⟩ := is_v u2a
  obtain rfl : w0 = (.int i0) := Option.some.inj ei0
  obtain ⟨i1, ei1⟩ := is_v u3a
  obtain rfl : w1 = (.int i1) := Option.some.inj ei1
  obtain ⟨i2, ei2⟩ := is_v u4a
  obtain rfl : w2 = (.int i2) := Option.some.inj ei2
  obtain ⟨i3, ei3⟩ := is_v u5a
  obtain rfl : w3 = (.int i3) := Option.some.inj ei3
  obtain ⟨i4, ei4⟩ := is_v u6a
  obtain rfl : w4 = (.int i4) := Option.some.inj ei4
  obtain ⟨i5, ei5⟩ := is_v u6b
  obtain rfl : w5 = (.int i5) := Option.some.inj ei5
  obtain ⟨n, o, h1, h2, h3, _, L, rfl, ⟨rfl, N⟩, hq⟩ := own_rm0 l s _ hw tables_1 i0 i1 i2 i3 i4 i5 s.heap s.heap.size (Nat.le_refl _)  p e ha hc hk s m _ below hf ((Spec.applies_iff_loose hf).mp happ).1 ⟨rfl, State.Warmed39.refl s, rfl⟩ trivial
  refine ⟨n, _, h1, h2, h3, hpost _ _ _ _ _ _ ⟨Cond.after_iff.mpr rfl, Cond.after_iff.mpr (eq_i res_at (Term.int_eval (1)) rfl), trivial⟩ ⟨hq.1, hq.2.1, (hq.2.2.sift fun y hy => Or.inr (N y hy)).mono (by decide) (by decide)⟩⟩
theorem main_1_1 : Claimed_1_1 := own_comes fun _ _ _ _ _ _ h hF => ⟨h.1, hF⟩
theorem main_1_2 : Claimed_1_2 := own_comes fun _ _ _ _ _ _ h hF => ⟨h.2.1, hF⟩
end Jvm.Pilot.@@N@@
namespace Jvm.Pilot.@@N@@
open Jvm Jvm.ClassFile Sem Op Lib Jvm.Free Jvm.Stand Jvm.Pilot.@@N@@.Jvm.D
/-! MADE BY PROGRAM (witnessworld.py) out of the Statement's table words and the real class files: 11 classes; the members and pool entries that the words name. The judged class is class 1, her method 1. -/
namespace start1
open Jvm.ClassFile
def u (s : String) : CpInfo := .utf8 (stringToUtf16 s)
/-- a pool by its gaps: so many unusable entries, then the entry; so many at the end -/
def gap : Nat → List CpInfo → List CpInfo
  | 0, r => r
  | n + 1, r => .unusable :: gap n r
def poolList (es : List (Nat × CpInfo)) (last : Nat) : List CpInfo := es.foldr (fun e r => gap e.1 (e.2 :: r)) (gap last [])
def pool (es : List (Nat × CpInfo)) (last : Nat) : Array CpInfo := ⟨poolList es last⟩
def fileOf (pool : Array CpInfo) (this : Nat) (attrs : Array Attribute := #[]) (ms : Array MethodInfo := #[]) (fl : Nat := 33) (sup : Nat := 0) (ifs : Array Nat := #[]) (fds : Array FieldInfo := #[]) : ClassFile where
  minorVersion := 0
  majorVersion := 65
  constantPool := pool
  accessFlags := fl
  thisClass := this
  superClass := sup
  interfaces := ifs
  fields := fds
  methods := ms
  attributes := attrs
def plain (name : String) (sup : Option ClassId) : Class where
  name := name
  kind := .ordinary
  loader := none
  accessFlags := 33
  super := sup
  interfaces := #[]
  cf := none
  fields := #[]
  methods := #[]
  instanceTypes := #[]
  staticTypes := #[]
  resolved := #[]
  callSites := []
  init := .initialized
  statics := none
  mirror := none

def pool0 : Array CpInfo := pool [(5, u "<init>"), (0, u "()V"), (1, .class_ 10), (1, u "java/lang/Object")] 113

def k0c0 : Code := { maxStack := 0, maxLocals := 1, code := object_method_1_code, exceptionTable := #[], attributes := #[] }
def k0m0 : Method := { name := "<init>", desc := "()V", sig := { parameters := [], returnType := none }, accessFlags := 1, code := some k0c0 }
/-- java/lang/Object -/
def k0 : Class := { plain "java/lang/Object" none with
  accessFlags := 33
  interfaces := #[]
  cf := some (fileOf pool0 8 #[] #[{ accessFlags := 1, nameIndex := 5, descriptorIndex := 6, attributes := #[] }] 33 0 #[] #[])
  fields := #[]
  methods := #[k0m0]
  instanceTypes := #[]
  staticTypes := #[]
  resolved := Array.replicate 124 none
  statics := none }

def pool1 : Array CpInfo := pool [(2, .class_ 4), (1, u "java/lang/Object"), (0, u "<init>"), (0, u "()V"), (0, .integer 2147483647), (0, .class_ 9), (0, u "com/example/shiftwise/shiftwise/search/ScanBlock"), (0, .methodref 8 11), (0, .nameAndType 5 12), (0, u "(I)V"), (0, .methodref 14 15), (0, .class_ 16), (0, .nameAndType 17 18), (0, u "com/example/shiftwise/shiftwise/search/AutomatonMovesJoinLanesPinLaw"), (0, u "fill"), (0, u "(Lcom/example/shiftwise/shiftwise/search/ScanBlock;III)V"), (0, .methodref 20 21), (0, .class_ 22), (0, .nameAndType 23 24), (0, u "com/example/shiftwise/shiftwise/search/AutomatonMoves"), (0, u "joinLanes"), (0, u "(Lcom/example/shiftwise/shiftwise/search/ScanBlock;IIII)V"), (0, .fieldref 8 26), (0, .nameAndType 27 28), (0, u "found"), (0, u "I"), (0, .methodref 14 30), (0, .nameAndType 31 32), (0, u "check"), (0, u "(Lcom/example/shiftwise/shiftwise/search/ScanBlock;IIIIIII)Z"), (0, .fieldref 8 34), (0, .nameAndType 35 36), (0, u "ends"), (0, u "[I"), (0, .fieldref 8 38), (0, .nameAndType 39 36), (0, u "reports"), (2, u "law"), (0, u "(IIIIII)Z")] 3

def k1m0 : Method := { name := "<init>", desc := "()V", sig := { parameters := [], returnType := none }, accessFlags := 2, code := none }
def k1c1 : Code := { maxStack := 8, maxLocals := 14, code := code, exceptionTable := #[], attributes := #[] }
def k1m1 : Method := { name := "law", desc := "(IIIIII)Z", sig := { parameters := [.int, .int, .int, .int, .int, .int], returnType := some .boolean }, accessFlags := 9, code := some k1c1 }
def k1c2 : Code := { maxStack := 5, maxLocals := 4, code := method_3_code, exceptionTable := #[], attributes := #[] }
def k1m2 : Method := { name := "fill", desc := "(Lcom/example/shiftwise/shiftwise/search/ScanBlock;III)V", sig := { parameters := [(.object "com/example/shiftwise/shiftwise/search/ScanBlock"), .int, .int, .int], returnType := none }, accessFlags := 10, code := some k1c2 }
def k1c3 : Code := { maxStack := 4, maxLocals := 9, code := method_4_code, exceptionTable := #[], attributes := #[] }
def k1m3 : Method := { name := "check", desc := "(Lcom/example/shiftwise/shiftwise/search/ScanBlock;IIIIIII)Z", sig := { parameters := [(.object "com/example/shiftwise/shiftwise/search/ScanBlock"), .int, .int, .int, .int, .int, .int, .int], returnType := some .boolean }, accessFlags := 10, code := some k1c3 }
/-- com/example/shiftwise/shiftwise/search/AutomatonMovesJoinLanesPinLaw -/
def k1 : Class := { plain "com/example/shiftwise/shiftwise/search/AutomatonMovesJoinLanesPinLaw" (some 0) with
  accessFlags := 49
  interfaces := #[]
  cf := some (fileOf pool1 14 #[] #[{ accessFlags := 2, nameIndex := 5, descriptorIndex := 6, attributes := #[] }, { accessFlags := 9, nameIndex := 42, descriptorIndex := 43, attributes := #[] }, { accessFlags := 10, nameIndex := 17, descriptorIndex := 18, attributes := #[] }, { accessFlags := 10, nameIndex := 31, descriptorIndex := 32, attributes := #[] }] 49 2 #[] #[])
  fields := #[]
  methods := #[k1m0, k1m1, k1m2, k1m3]
  instanceTypes := #[]
  staticTypes := #[]
  resolved := Array.replicate 47 none
  statics := none }

def pool2 : Array CpInfo := pool [(1, .methodref 2 3), (0, .class_ 4), (0, .nameAndType 5 6), (0, u "java/lang/Object"), (0, u "<init>"), (0, u "()V"), (0, .fieldref 8 9), (0, .class_ 10), (0, .nameAndType 11 12), (0, u "com/example/shiftwise/shiftwise/search/ScanBlock"), (0, u "classes"), (0, u "[I"), (0, .fieldref 8 14), (0, .nameAndType 15 12), (0, u "ends"), (0, .fieldref 8 17), (0, .nameAndType 18 12), (0, u "reports"), (0, u "found"), (0, u "I"), (0, u "links"), (0, u "J"), (0, u "(I)V")] 6

def k2c0 : Code := { maxStack := 2, maxLocals := 2, code := prog_50_method_1_code, exceptionTable := #[], attributes := #[] }
def k2m0 : Method := { name := "<init>", desc := "(I)V", sig := { parameters := [.int], returnType := none }, accessFlags := 0, code := some k2c0 }
/-- com/example/shiftwise/shiftwise/search/ScanBlock -/
def k2 : Class := { plain "com/example/shiftwise/shiftwise/search/ScanBlock" (some 0) with
  accessFlags := 48
  interfaces := #[]
  cf := some (fileOf pool2 8 #[] #[{ accessFlags := 0, nameIndex := 5, descriptorIndex := 23, attributes := #[] }] 48 2 #[] #[{ accessFlags := 16, nameIndex := 11, descriptorIndex := 12, attributes := #[] }, { accessFlags := 16, nameIndex := 15, descriptorIndex := 12, attributes := #[] }, { accessFlags := 16, nameIndex := 18, descriptorIndex := 12, attributes := #[] }, { accessFlags := 0, nameIndex := 19, descriptorIndex := 20, attributes := #[] }, { accessFlags := 0, nameIndex := 21, descriptorIndex := 22, attributes := #[] }])
  fields := #[{ name := "classes", type := (.array .int), accessFlags := 16, slot := 0, constantValue := 0 }, { name := "ends", type := (.array .int), accessFlags := 16, slot := 1, constantValue := 0 }, { name := "reports", type := (.array .int), accessFlags := 16, slot := 2, constantValue := 0 }, { name := "found", type := .int, accessFlags := 0, slot := 3, constantValue := 0 }, { name := "links", type := .long, accessFlags := 0, slot := 4, constantValue := 0 }]
  methods := #[k2m0]
  instanceTypes := #[(.array .int), (.array .int), (.array .int), .int, .long]
  staticTypes := #[]
  resolved := Array.replicate 30 none
  statics := none }

def pool3 : Array CpInfo := pool [(2, .class_ 4), (1, u "java/lang/Object"), (3, .class_ 10), (1, u "com/example/shiftwise/shiftwise/search/AutomatonMoves"), (0, u "warmUp"), (0, u "I"), (2, u "readsLanes"), (0, u "Z"), (3, u "(Lcom/example/shiftwise/shiftwise/search/ScanBlock;III)I"), (4, .methodref 8 26), (0, .nameAndType 27 20), (0, u "moveFound"), (0, .fieldref 29 30), (0, .class_ 31), (0, .nameAndType 32 12), (0, u "com/example/shiftwise/shiftwise/search/ScanBlock"), (0, u "found"), (4, .fieldref 29 38), (0, .nameAndType 39 40), (0, u "ends"), (0, u "[I"), (0, .methodref 42 43), (0, .class_ 44), (0, .nameAndType 45 46), (0, u "java/lang/System"), (0, u "arraycopy"), (0, u "(Ljava/lang/Object;ILjava/lang/Object;II)V"), (0, .fieldref 29 48), (0, .nameAndType 49 40), (0, u "reports"), (0, u "START"), (2, u "NONE"), (1, u "LANES"), (1, u "LANES_FROM"), (1, u "LANES_PER_WARM_UP"), (8, u "joinLanes"), (0, u "(Lcom/example/shiftwise/shiftwise/search/ScanBlock;IIII)V")] 4

def k3c0 : Code := { maxStack := 5, maxLocals := 6, code := prog_27_method_7_code, exceptionTable := #[], attributes := #[] }
def k3m0 : Method := { name := "joinLanes", desc := "(Lcom/example/shiftwise/shiftwise/search/ScanBlock;IIII)V", sig := { parameters := [(.object "com/example/shiftwise/shiftwise/search/ScanBlock"), .int, .int, .int, .int], returnType := none }, accessFlags := 8, code := some k3c0 }
def k3c1 : Code := { maxStack := 6, maxLocals := 4, code := prog_27_method_9_code, exceptionTable := #[], attributes := #[] }
def k3m1 : Method := { name := "moveFound", desc := "(Lcom/example/shiftwise/shiftwise/search/ScanBlock;III)I", sig := { parameters := [(.object "com/example/shiftwise/shiftwise/search/ScanBlock"), .int, .int, .int], returnType := some .int }, accessFlags := 10, code := some k3c1 }
/-- com/example/shiftwise/shiftwise/search/AutomatonMoves -/
def k3 : Class := { plain "com/example/shiftwise/shiftwise/search/AutomatonMoves" (some 0) with
  accessFlags := 1056
  interfaces := #[]
  cf := some (fileOf pool3 8 #[] #[{ accessFlags := 8, nameIndex := 68, descriptorIndex := 69, attributes := #[] }, { accessFlags := 10, nameIndex := 27, descriptorIndex := 20, attributes := #[] }] 1056 2 #[] #[{ accessFlags := 24, nameIndex := 50, descriptorIndex := 12, attributes := #[] }, { accessFlags := 24, nameIndex := 53, descriptorIndex := 12, attributes := #[] }, { accessFlags := 26, nameIndex := 55, descriptorIndex := 12, attributes := #[] }, { accessFlags := 26, nameIndex := 57, descriptorIndex := 12, attributes := #[] }, { accessFlags := 26, nameIndex := 59, descriptorIndex := 12, attributes := #[] }, { accessFlags := 18, nameIndex := 11, descriptorIndex := 12, attributes := #[] }, { accessFlags := 18, nameIndex := 15, descriptorIndex := 16, attributes := #[] }])
  fields := #[{ name := "START", type := .int, accessFlags := 24, slot := 0, constantValue := 0 }, { name := "NONE", type := .int, accessFlags := 24, slot := 1, constantValue := 0 }, { name := "LANES", type := .int, accessFlags := 26, slot := 2, constantValue := 0 }, { name := "LANES_FROM", type := .int, accessFlags := 26, slot := 3, constantValue := 0 }, { name := "LANES_PER_WARM_UP", type := .int, accessFlags := 26, slot := 4, constantValue := 0 }, { name := "warmUp", type := .int, accessFlags := 18, slot := 0, constantValue := 0 }, { name := "readsLanes", type := .boolean, accessFlags := 18, slot := 1, constantValue := 0 }]
  methods := #[k3m0, k3m1]
  instanceTypes := #[.int, .boolean]
  staticTypes := #[.int, .int, .int, .int, .int]
  resolved := Array.replicate 74 none
  statics := none }

def pool4 : Array CpInfo := pool [(2, .class_ 4), (1, u "java/lang/Object"), (0, u "<init>"), (0, u "()V"), (1, .class_ 10), (1, u "java/lang/System"), (0, u "allowSecurityManager"), (0, u "I"), (16, u "cons"), (0, u "Ljava/io/Console;"), (77, .class_ 110), (1, u "java/lang/System$CallersHolder"), (43, u "initialErrStream"), (0, u "Ljava/io/PrintStream;"), (19, u "security"), (0, u "Ljava/lang/SecurityManager;"), (31, .class_ 209), (0, u "java/lang/System$1"), (7, u "props"), (0, u "Ljava/util/Properties;"), (2, u "lineSeparator"), (0, u "Ljava/lang/String;"), (96, .class_ 321), (1, u "java/lang/System$LoggerFinder"), (5, .class_ 328), (0, u "java/lang/System$Logger"), (67, u "err"), (2, u "out"), (91, u "notSupportedJnuEncoding"), (15, u "in"), (17, u "initialIn"), (0, u "Ljava/io/InputStream;"), (35, u "bootLayer"), (0, u "Ljava/lang/ModuleLayer;"), (99, .class_ 664), (0, u "java/lang/System$2"), (9, u "NEVER"), (2, u "MAYBE"), (49, u "arraycopy"), (0, u "(Ljava/lang/Object;ILjava/lang/Object;II)V"), (72, .class_ 802), (0, u "java/lang/System$Logger$Level")] 31

def k4m0 : Method := { name := "<init>", desc := "()V", sig := { parameters := [], returnType := none }, accessFlags := 2, code := none }
def k4m1 : Method := { name := "arraycopy", desc := "(Ljava/lang/Object;ILjava/lang/Object;II)V", sig := { parameters := [(.object "java/lang/Object"), .int, (.object "java/lang/Object"), .int, .int], returnType := none }, accessFlags := 265, code := none }
/-- java/lang/System -/
def k4 : Class := { plain "java/lang/System" (some 0) with
  accessFlags := 49
  interfaces := #[]
  cf := some (fileOf pool4 8 #[.nestMembers #[319, 327, 801, 108, 663, 208]] #[{ accessFlags := 2, nameIndex := 5, descriptorIndex := 6, attributes := #[] }, { accessFlags := 265, nameIndex := 727, descriptorIndex := 728, attributes := #[] }] 49 2 #[] #[{ accessFlags := 25, nameIndex := 507, descriptorIndex := 526, attributes := #[] }, { accessFlags := 25, nameIndex := 399, descriptorIndex := 155, attributes := #[] }, { accessFlags := 25, nameIndex := 396, descriptorIndex := 155, attributes := #[] }, { accessFlags := 10, nameIndex := 525, descriptorIndex := 526, attributes := #[] }, { accessFlags := 26, nameIndex := 674, descriptorIndex := 12, attributes := #[] }, { accessFlags := 26, nameIndex := 677, descriptorIndex := 12, attributes := #[] }, { accessFlags := 10, nameIndex := 11, descriptorIndex := 12, attributes := #[] }, { accessFlags := 74, nameIndex := 175, descriptorIndex := 176, attributes := #[] }, { accessFlags := 10, nameIndex := 491, descriptorIndex := 222, attributes := #[] }, { accessFlags := 74, nameIndex := 29, descriptorIndex := 30, attributes := #[] }, { accessFlags := 74, nameIndex := 154, descriptorIndex := 155, attributes := #[] }, { accessFlags := 10, nameIndex := 217, descriptorIndex := 218, attributes := #[] }, { accessFlags := 10, nameIndex := 221, descriptorIndex := 222, attributes := #[] }, { accessFlags := 8, nameIndex := 562, descriptorIndex := 563, attributes := #[] }])
  fields := #[{ name := "in", type := (.object "java/io/InputStream"), accessFlags := 25, slot := 0, constantValue := 0 }, { name := "out", type := (.object "java/io/PrintStream"), accessFlags := 25, slot := 1, constantValue := 0 }, { name := "err", type := (.object "java/io/PrintStream"), accessFlags := 25, slot := 2, constantValue := 0 }, { name := "initialIn", type := (.object "java/io/InputStream"), accessFlags := 10, slot := 3, constantValue := 0 }, { name := "NEVER", type := .int, accessFlags := 26, slot := 4, constantValue := 0 }, { name := "MAYBE", type := .int, accessFlags := 26, slot := 5, constantValue := 0 }, { name := "allowSecurityManager", type := .int, accessFlags := 10, slot := 6, constantValue := 0 }, { name := "security", type := (.object "java/lang/SecurityManager"), accessFlags := 74, slot := 7, constantValue := 0 }, { name := "notSupportedJnuEncoding", type := (.object "java/lang/String"), accessFlags := 10, slot := 8, constantValue := 0 }, { name := "cons", type := (.object "java/io/Console"), accessFlags := 74, slot := 9, constantValue := 0 }, { name := "initialErrStream", type := (.object "java/io/PrintStream"), accessFlags := 74, slot := 10, constantValue := 0 }, { name := "props", type := (.object "java/util/Properties"), accessFlags := 10, slot := 11, constantValue := 0 }, { name := "lineSeparator", type := (.object "java/lang/String"), accessFlags := 10, slot := 12, constantValue := 0 }, { name := "bootLayer", type := (.object "java/lang/ModuleLayer"), accessFlags := 8, slot := 13, constantValue := 0 }]
  methods := #[k4m0, k4m1]
  instanceTypes := #[]
  staticTypes := #[(.object "java/io/InputStream"), (.object "java/io/PrintStream"), (.object "java/io/PrintStream"), (.object "java/io/InputStream"), .int, .int, .int, (.object "java/lang/SecurityManager"), (.object "java/lang/String"), (.object "java/io/Console"), (.object "java/io/PrintStream"), (.object "java/util/Properties"), (.object "java/lang/String"), (.object "java/lang/ModuleLayer")]
  resolved := Array.replicate 834 none
  statics := none }

def pool5 : Array CpInfo := pool [(1, u "java/lang/Cloneable"), (0, .class_ 1), (0, u "java/lang/Object"), (0, .class_ 3)] 3

/-- java/lang/Cloneable -/
def k5 : Class := { plain "java/lang/Cloneable" (some 0) with
  accessFlags := 1537
  interfaces := #[]
  cf := some (fileOf pool5 2 #[] #[] 1537 4 #[] #[])
  fields := #[]
  methods := #[]
  instanceTypes := #[]
  staticTypes := #[]
  resolved := Array.replicate 8 none
  statics := none }

def pool6 : Array CpInfo := pool [(1, u "java/io/Serializable"), (0, .class_ 1), (0, u "java/lang/Object"), (0, .class_ 3)] 3

/-- java/io/Serializable -/
def k6 : Class := { plain "java/io/Serializable" (some 0) with
  accessFlags := 1537
  interfaces := #[]
  cf := some (fileOf pool6 2 #[] #[] 1537 4 #[] #[])
  fields := #[]
  methods := #[]
  instanceTypes := #[]
  staticTypes := #[]
  resolved := Array.replicate 8 none
  statics := none }

/-- the primitive byte -/
def k7 : Class := { plain "byte" none with kind := .primitive 'B', accessFlags := 0x411 }
/-- [B -/
def k8 : Class := { plain "[B" (some 0) with kind := .array 7 .byte, interfaces := #[5, 6], accessFlags := 1041 }

/-- the primitive int -/
def k9 : Class := { plain "int" none with kind := .primitive 'I', accessFlags := 0x411 }
/-- [I -/
def k10 : Class := { plain "[I" (some 0) with kind := .array 9 .int, interfaces := #[5, 6], accessFlags := 1041 }

def heap : Heap := #[]
def classes : Array Class := #[k0, k1, k2, k3, k4, k5, k6, k7, k8, k9, k10]
def interned : List (Array UInt16 × Addr) := []
def slotsUsed : Nat := 0
def theMethod : MethodId := ⟨1, 1⟩
def args0 : Array Value := #[.int 2, .int 3, .int 1, .int 1, .int 2, .int 3]
def aboutOver (below : List Frame) : State where
  vm := { classes := classes, interned := interned.toArray }
  heap := heap
  slotsUsed := slotsUsed
  threads := #[{ frames := .invoking theMethod args0 :: below }]
def below0 : List Frame := [.native { method := ⟨0, 0⟩, args := #[] }]
def about1 : State := aboutOver below0
def p0 : Program := .bare "" "" ""
def e0 : Env := launch0.env 0 0 0
theorem w_frames : about1.frames = Frame.invoking theMethod args0 :: below0 := rfl
set_option maxRecDepth 65536 in
theorem w_args : argsFit about1.vm theMethod args0 = true := by decide +kernel
set_option maxRecDepth 65536 in
theorem w_heap : heapFits about1 = true := by decide +kernel
set_option maxRecDepth 65536 in
theorem w_runnable : about1.curStatus? = some .runnable := by decide +kernel
set_option maxRecDepth 65536 in
theorem w_alone : about1.alone = true := by decide +kernel
set_option maxRecDepth 65536 in
theorem w_named : about1.methodNamed? x = some theMethod := by decide +kernel
set_option maxRecDepth 65536 in
theorem w_hears : about1.hears theMethod below0 = true := by decide +kernel
set_option maxRecDepth 65536 in
theorem w_ripe : about1.ripe theMethod args0 below0 = true := by decide +kernel
theorem w_running : about1.status = .running := rfl
set_option maxRecDepth 65536 in
theorem w_room : about1.hasRoom e0.platform room_1 = true :=
  launch0.hasRoom_least _ room_1 (by decide +kernel) (by decide +kernel) (by decide +kernel) (by decide +kernel) (by decide +kernel) (by decide +kernel)
theorem allAtoms_all (ts : List Jvm.Cond) (a : Array Jvm.Value) (st : Jvm.State) : (allAtoms ts).before a st = ts.all (fun c => c.before a st) := by
  induction ts with
  | nil => rfl
  | cons c t ih =>
    show (Jvm.Cond.and c (allAtoms t)).before a st = _
    rw [Jvm.Cond.before_and, ih, List.all_cons]
def words1 : List Jvm.Cond := Jvm.Cond.code x code maxLocals ret :: tables_1
/-- a 'code' word, met by the world's own term for the bytes: nothing is compared byte by byte -/
theorem code_word {y : MethodName} {bytes : ByteArray} {mx : Nat} {rt : Option FieldType} {a : Array Value} {s : State} {m : MethodId} {meth : Method} {c : Code} (h1 : s.methodNamed? y = some m) (h2 : s.vm.method? m = some meth) (h3 : meth.code = some c) (h4 : c.code = bytes)
    (h5 : (c.maxLocals == mx && c.exceptionTable.isEmpty && decide (c.maxStack ≤ mostOperands) && decide (meth.sig.returnType = rt) && !meth.locks && decide (parseMethodDescriptor y.desc = some meth.sig)) = true) : (Jvm.Cond.code y bytes mx rt).before a s = true := by
  simp only [Bool.and_eq_true, beq_iff_eq, Bool.not_eq_true', decide_eq_true_eq] at h5
  obtain ⟨⟨⟨⟨⟨g1, g2⟩, g3⟩, g4⟩, g5⟩, g6⟩ := h5
  simp [Cond.before, Cond.holds, Cond.value, h1, h2, h3, h4, g1, g2, g3, g4, g5, g6]
def isCode : Jvm.Cond → Bool
  | .code _ _ _ _ => true
  | _ => false
theorem all_split {L : List Jvm.Cond} {P : Jvm.Cond → Bool} (h1 : L.all (fun c => isCode c || P c) = true) (h2 : ∀ c ∈ L.filter isCode, P c = true) : L.all P = true := by
  refine List.all_eq_true.mpr fun c hc => ?_
  have h := List.all_eq_true.mp h1 c hc
  rcases Bool.eq_false_or_eq_true (isCode c) with hi | hi
  · exact h2 c (List.mem_filter.mpr ⟨hc, hi⟩)
  · simpa [hi] using h
set_option maxRecDepth 65536 in
theorem w_c0 : (Jvm.Cond.code x code maxLocals ret).before args0 about1 = true := code_word (m := ⟨1, 1⟩) (meth := k1m1) (c := k1c1) (by decide +kernel) rfl rfl rfl (by decide +kernel)
set_option maxRecDepth 65536 in
theorem w_c1 : (Jvm.Cond.code ({ cls := "com/example/shiftwise/shiftwise/search/ScanBlock", name := "<init>", desc := "(I)V" } : Jvm.MethodName) prog_50_method_1_code (2 : Nat) (Option.none : Option Jvm.ClassFile.FieldType)).before args0 about1 = true := code_word (m := ⟨2, 0⟩) (meth := k2m0) (c := k2c0) (by decide +kernel) rfl rfl rfl (by decide +kernel)
set_option maxRecDepth 65536 in
theorem w_c2 : (Jvm.Cond.code ({ cls := "java/lang/Object", name := "<init>", desc := "()V" } : Jvm.MethodName) object_method_1_code (1 : Nat) (Option.none : Option Jvm.ClassFile.FieldType)).before args0 about1 = true := code_word (m := ⟨0, 0⟩) (meth := k0m0) (c := k0c0) (by decide +kernel) rfl rfl rfl (by decide +kernel)
set_option maxRecDepth 65536 in
theorem w_c3 : (Jvm.Cond.code ({ cls := "com/example/shiftwise/shiftwise/search/AutomatonMovesJoinLanesPinLaw", name := "fill", desc := "(Lcom/example/shiftwise/shiftwise/search/ScanBlock;III)V" } : Jvm.MethodName) method_3_code (4 : Nat) (Option.none : Option Jvm.ClassFile.FieldType)).before args0 about1 = true := code_word (m := ⟨1, 2⟩) (meth := k1m2) (c := k1c2) (by decide +kernel) rfl rfl rfl (by decide +kernel)
set_option maxRecDepth 65536 in
theorem w_c4 : (Jvm.Cond.code ({ cls := "com/example/shiftwise/shiftwise/search/AutomatonMoves", name := "joinLanes", desc := "(Lcom/example/shiftwise/shiftwise/search/ScanBlock;IIII)V" } : Jvm.MethodName) prog_27_method_7_code (6 : Nat) (Option.none : Option Jvm.ClassFile.FieldType)).before args0 about1 = true := code_word (m := ⟨3, 0⟩) (meth := k3m0) (c := k3c0) (by decide +kernel) rfl rfl rfl (by decide +kernel)
set_option maxRecDepth 65536 in
theorem w_c5 : (Jvm.Cond.code ({ cls := "com/example/shiftwise/shiftwise/search/AutomatonMoves", name := "moveFound", desc := "(Lcom/example/shiftwise/shiftwise/search/ScanBlock;III)I" } : Jvm.MethodName) prog_27_method_9_code (4 : Nat) (Option.some Jvm.ClassFile.FieldType.int)).before args0 about1 = true := code_word (m := ⟨3, 1⟩) (meth := k3m1) (c := k3c1) (by decide +kernel) rfl rfl rfl (by decide +kernel)
set_option maxRecDepth 65536 in
theorem w_c6 : (Jvm.Cond.code ({ cls := "com/example/shiftwise/shiftwise/search/AutomatonMovesJoinLanesPinLaw", name := "check", desc := "(Lcom/example/shiftwise/shiftwise/search/ScanBlock;IIIIIII)Z" } : Jvm.MethodName) method_4_code (9 : Nat) (Option.some Jvm.ClassFile.FieldType.boolean)).before args0 about1 = true := code_word (m := ⟨1, 3⟩) (meth := k1m3) (c := k1c3) (by decide +kernel) rfl rfl rfl (by decide +kernel)
def codes1 : List Jvm.Cond := [Jvm.Cond.code x code maxLocals ret, Jvm.Cond.code ({ cls := "com/example/shiftwise/shiftwise/search/ScanBlock", name := "<init>", desc := "(I)V" } : Jvm.MethodName) prog_50_method_1_code (2 : Nat) (Option.none : Option Jvm.ClassFile.FieldType), Jvm.Cond.code ({ cls := "java/lang/Object", name := "<init>", desc := "()V" } : Jvm.MethodName) object_method_1_code (1 : Nat) (Option.none : Option Jvm.ClassFile.FieldType), Jvm.Cond.code ({ cls := "com/example/shiftwise/shiftwise/search/AutomatonMovesJoinLanesPinLaw", name := "fill", desc := "(Lcom/example/shiftwise/shiftwise/search/ScanBlock;III)V" } : Jvm.MethodName) method_3_code (4 : Nat) (Option.none : Option Jvm.ClassFile.FieldType), Jvm.Cond.code ({ cls := "com/example/shiftwise/shiftwise/search/AutomatonMoves", name := "joinLanes", desc := "(Lcom/example/shiftwise/shiftwise/search/ScanBlock;IIII)V" } : Jvm.MethodName) prog_27_method_7_code (6 : Nat) (Option.none : Option Jvm.ClassFile.FieldType), Jvm.Cond.code ({ cls := "com/example/shiftwise/shiftwise/search/AutomatonMoves", name := "moveFound", desc := "(Lcom/example/shiftwise/shiftwise/search/ScanBlock;III)I" } : Jvm.MethodName) prog_27_method_9_code (4 : Nat) (Option.some Jvm.ClassFile.FieldType.int), Jvm.Cond.code ({ cls := "com/example/shiftwise/shiftwise/search/AutomatonMovesJoinLanesPinLaw", name := "check", desc := "(Lcom/example/shiftwise/shiftwise/search/ScanBlock;IIIIIII)Z" } : Jvm.MethodName) method_4_code (9 : Nat) (Option.some Jvm.ClassFile.FieldType.boolean)]
set_option maxRecDepth 65536 in
theorem codes_eq : words1.filter isCode = codes1 := rfl
theorem w_codes : ∀ c ∈ words1.filter isCode, c.before args0 about1 = true := by
  rw [codes_eq]
  intro c hc
  simp only [codes1, List.mem_cons, List.not_mem_nil, or_false] at hc
  rcases hc with rfl | rfl | rfl | rfl | rfl | rfl | rfl
  · exact w_c0
  · exact w_c1
  · exact w_c2
  · exact w_c3
  · exact w_c4
  · exact w_c5
  · exact w_c6
set_option maxRecDepth 65536 in
theorem w_t1 : (words1.take 24).all (fun c => isCode c || c.before args0 about1) = true := by decide +kernel
set_option maxRecDepth 65536 in
theorem w_t2 : (words1.drop 24).all (fun c => isCode c || c.before args0 about1) = true := by decide +kernel
theorem w_tables : (allAtoms (Jvm.Cond.code x code maxLocals ret :: tables_1)).before args0 about1 = true := by
  rw [allAtoms_all]
  show words1.all (fun c => c.before args0 about1) = true
  refine all_split ?_ w_codes
  rw [← List.take_append_drop 24 words1, List.all_append, w_t1, w_t2]
  rfl
set_option maxRecDepth 65536 in
theorem w_case : (Jvm.Cond.and given_1 narrow_1).before args0 about1 = true := by decide +kernel
theorem w_applies : (headSpec (Jvm.Cond.code x code maxLocals ret :: tables_1) room_1).applies x e0.platform about1 = true :=
  (Spec.applies_iff w_frames).mpr ⟨w_running, w_runnable, w_alone, w_named, w_hears, w_ripe, w_room, w_tables⟩
theorem atStart : AtStart classFile x code maxLocals ret World_1 tables_1 room_1 Calls_1 rest_1 Pre_1 launch0 p0 e0 about1 theMethod args0 below0 :=
  ⟨lists_1, trivial, launch0.admits_env _ _ _, launch0.least_env, fairChoices_fair.cas, fairChoices_fair.clock, w_frames, w_args, w_heap, w_applies, trivial, trivial, w_case⟩
end start1
theorem witness_1 : WitnessClaimed_1 := ⟨start1.p0, start1.e0, start1.about1, start1.theMethod, start1.args0, start1.below0, start1.atStart⟩
end Jvm.Pilot.@@N@@
