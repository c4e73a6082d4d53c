import JvmDerived
import JvmDerived.Pilot.@@N@@Statement
import JvmDerived.Pilot.@@N@@Code
set_option linter.unusedVariables false
set_option linter.unusedSimpArgs false
namespace Jvm.RoadKit
open Sem ClassFile Op Lib Jvm.Stand Jvm.Free Jvm.LawKit
section New
variable {p : Program} {l : Launch} {e : Env} {R : Room} {s : State} {m : MethodId} {args : Array Value} {below : List Frame} {meth : Method} {c : Code} {T : State} {locs : List Loc} {cells slots : Nat}
theorem retI (X : Stand p l e R s m args below meth c T locs cells slots) (hx : p.tables.exec = Jvm.exec) {pc : Nat} {Ls : Array Slot} {z : Int32} {rest : List Value} (hret : meth.sig.returnType = some .int) (hd : decode c.code pc = .ok (.ireturn, 1)) {fs : List Frame}
    (hl : ∀ (f : JFrame) (acts : List Action), f.method = m → f.locked = none → f.entered = [] → (doReturn e (T.setTop f) acts (some (.int z))).1 = T.setFrames fs) : Steps p.tables e below (T.setTop (mkF m pc Ls (.int z :: rest))) (T.setFrames fs) := by
  have hm' : T.vm.method? m = some meth := X.method'
  have hn : narrow .int (.int z) = .int z := rfl
  show Steps p.tables e below (T.setTop { method := m, pc := pc, locals := Ls, stack := _ :: rest, locked := none }) _
  jvm_step X.here [X.here.top, hx, hd, hm', hret, hn]
  first | (intro acts; rw [hl _ acts rfl rfl rfl]) | rw [hl _ _ rfl rfl rfl]
  exact Steps.refl _
theorem eqv_r {Z : State} {args : Array Value} {X F : Term} {idx : List Nat} {y : Addr} (hF : F.eval args Z none idx Z = some (.ref y)) (h : (Cond.eq X F).value args Z none Z idx = some true) : X.eval args Z none idx Z = some (.ref y) := by
  obtain ⟨x, y', e1, e2, k1, k2⟩ := cmp_v (Or.inl h)
  cases hF.symm.trans e2
  have hx : x.isRef = true := k2.2
  have q : x = .ref y := gotT (eq_R e1 hF hx rfl) h
  rw [e1, q]
end New
end Jvm.RoadKit
namespace Jvm.Pilot.@@N@@
open Jvm Jvm.ClassFile Sem Op Lib Jvm.Free Jvm.Stand Jvm.LawKit Jvm.RoadKit Bundle Jvm.Pilot.@@N@@.Jvm.D
theorem own_eT {Z T : State} {h : Heap} {a : Addr} {c : Cell} {ty : FieldType} (e : T.heap = h) (A : Arr Z h a c ty) : T.heap[a]? = some c := by rw [e]; exact A.1
def Go (p : Program) (e : Env) (below : List Frame) (Qf : Outcome → State → Prop) (W : State) : Prop := ∃ s₂ o, Steps p.tables e below W s₂ ∧ s₂.status = .running ∧ Ended s₂ below o ∧ Qf o s₂
theorem Go.st {p : Program} {e : Env} {below : List Frame} {Qf : Outcome → State → Prop} {W V' : State} (h : ∀ t, Steps p.tables e below V' t → Steps p.tables e below W t) (g : Go p e below Qf V') : Go p e below Qf W := by
  obtain ⟨s₂, o, g1, g2⟩ := g
  exact ⟨s₂, o, h _ g1, g2⟩
theorem Go.out {p : Program} {e : Env} {below : List Frame} {Qf : Outcome → State → Prop} {W : State} (g : Go p e below Qf W) : ∃ s₂ o, Steps p.tables e below W s₂ ∧ s₂.status = .running ∧ Ended s₂ below o ∧ Qf o s₂ := g
theorem Go.mk' {p : Program} {e : Env} {below : List Frame} {Qf : Outcome → State → Prop} {W : State} (g : ∃ s₂ o, Steps p.tables e below W s₂ ∧ s₂.status = .running ∧ Ended s₂ below o ∧ Qf o s₂) : Go p e below Qf W := g
theorem Go.dia {p : Program} {e : Env} {below : List Frame} {Qf : Outcome → State → Prop} {W VJ : State} {c : Prop} [Decidable c] (h1 : c → ∀ t, Steps p.tables e below VJ t → Steps p.tables e below W t) (h2 : ¬ c → ∀ t, Steps p.tables e below VJ t → Steps p.tables e below W t) (g : Go p e below Qf VJ) : Go p e below Qf W :=
  if hc : c then g.st (h1 hc) else g.st (h2 hc)
theorem own_rng (x d : Int32) (D : Int) (hd : d.toInt = D) (h0 : 0 < D) : 0 ≤ ((x &&& (2147483647 : Int32)) % d).toInt ∧ ((x &&& (2147483647 : Int32)) % d).toInt < D := by
  have a := c_and x 2147483647 (by decide)
  have b := (c_irem (x &&& 2147483647) d D hd).1 a.1
  rw [b]
  exact ⟨Int.emod_nonneg _ (by omega), Int.emod_lt_of_pos _ h0⟩
theorem own_len {s : State} {args : Array Value} {t : Term} {a : Addr} {cl : Cell} {ty : FieldType} {n : Int32} (et : t.eval args s none [] s = some (.ref a)) (A : Arr s s.heap a cl ty) (h : (Jvm.Cond.eq (.length t) (.int n)).value args s none s [] = some true) : cl.slots.size < 2 ^ 31 ∧ cl.slots.size.toInt32 = n := by
  have q := eqv_i (Term.int_eval n) h
  have f := A.fin (U := s) (Vm.Alike.refl _)
  simp only [Term.eval, et, f, Option.bind_eq_bind, Option.bind_some] at q
  split at q
  · rename_i hs
    exact ⟨hs, by simpa using q⟩
  · simp at q
theorem own_elr {s : State} {args : Array Value} {t F : Term} {a y : Addr} {cl : Cell} {ty : FieldType} {j : Int32} {i : Nat} (et : t.eval args s none [] s = some (.ref a)) (A : Arr s s.heap a cl ty) (eX : F.eval args s none [] s = some (.ref y)) (h : (Jvm.Cond.eq (.elem t (.int j)) F).value args s none s [] = some true) (hj : ¬ j < 0) (hi : j.toNatClampNeg = i) : cl.slots[i]? = some (.ref y) :=
  hi ▸ (elem_f et (Term.int_eval j) (A.fin (Vm.Alike.refl _)) hj).symm.trans (eqv_r eX h)
theorem own_ns_root {Z : State} {a0 : Array Value} {O K : String} {n : Nat} (w : (Jvm.Cond.noSuperclass O).before a0 Z = true) (wk : (Jvm.Cond.instantiable K n).before a0 Z = true) (hn : O ≠ K) : NS Z O K := by
  obtain ⟨c, k, h1, h2, h3, -, -⟩ := Cond.noSuperclass_spec w
  obtain ⟨t, k', g1, -⟩ := Cond.instantiable_spec wk
  have ne := ids_ne h1 g1 hn
  refine ⟨c, t, h1, g1, fun fuel => ?_⟩
  cases fuel with
  | zero => rfl
  | succ f => simp [Vm.isSubclassAux, ne, h2, h3]
theorem own_ns_no {Z : State} {a0 : Array Value} {C S K : String} {n : Nat} (w : (Jvm.Cond.superclass C S).before a0 Z = true) (wk : (Jvm.Cond.instantiable K n).before a0 Z = true) (h : NS Z C K) (hn : C ≠ K) : ∃ c t, Z.vm.findClass C = some c ∧ Z.vm.findClass K = some t ∧ Z.vm.assignable c t = false := by
  obtain ⟨c, t, h0, g0, n3⟩ := h
  obtain ⟨p, k, kp, h1, h2, h3, h4, h5, -, h7⟩ := Cond.superclass_spec h0 w
  obtain ⟨t', k', g1, g2, g5, g6, -⟩ := Cond.instantiable_spec wk
  cases g0.symm.trans g1
  have g7 : k'.isInterface = false := by simp only [Bool.or_eq_false_iff] at g6; exact g6.1
  have ne := ids_ne h0 g0 hn
  refine ⟨c, t, h0, g0, ?_⟩
  show Z.vm.assignableAux (255 + 1) c t = false
  simp [Vm.assignableAux, ne, h2, g2, h5, g5, g7, Vm.isSubclass, n3]
theorem own_sub128 {Z : State} {args : Array Value} {X : Term} {j : Int32} (hj : ¬ j < 0) (h : (Jvm.Cond.eq X (.sub (.index 0) (.int 128))).value args Z none Z [j.toNatClampNeg] = some true) : X.eval args Z none [j.toNatClampNeg] Z = some (.int (j - 128)) := by
  refine eqv_i ?_ h
  simp [Term.eval, (back32 hj).1]
theorem own_sub128L {Z : State} {args : Array Value} {X : Term} {j : Int32} (hj : ¬ j < 0) (h : (Jvm.Cond.eq X (.op1 .i2l (.sub (.index 0) (.int 128)))).value args Z none Z [j.toNatClampNeg] = some true) : X.eval args Z none [j.toNatClampNeg] Z = some (.long (j - 128).toInt64) := by
  refine eqv_l (i2l_at ?_) h
  simp [Term.eval, (back32 hj).1]
theorem own_100 {k : Int32} (h : 0 ≤ k.toInt ∧ k.toInt < 101) : ¬ k < (0 : Int32) ∧ ¬ (100 : Int32) < k := by
  have e1 : (0 : Int32).toInt = 0 := by decide
  have e2 : (100 : Int32).toInt = 100 := by decide
  rw [Int32.lt_iff_toInt_lt, Int32.lt_iff_toInt_lt]
  omega
theorem own_i1 {p : Int32} (h : ¬ p < (0 : Int32) ∧ ¬ (100 : Int32) < p) : ¬ p < (-128 : Int32) ∧ ¬ (127 : Int32) < p ∧ (¬ (p + (128 : Int32)) < 0 ∧ (p + (128 : Int32)) < (256 : Int32)) := by
  obtain ⟨h1, h2⟩ := h
  have c := c_iadd p 128
  have r := rng32 (p + 128)
  have e1 : (-128 : Int32).toInt = -128 := by decide
  have e2 : (127 : Int32).toInt = 127 := by decide
  have e3 : (128 : Int32).toInt = 128 := by decide
  have e4 : (256 : Int32).toInt = 256 := by decide
  have e5 : (0 : Int32).toInt = 0 := by decide
  have e6 : (100 : Int32).toInt = 100 := by decide
  simp only [Int32.lt_iff_toInt_lt] at *
  omega
theorem own_l0 {k : Int32} (h : ¬ k < (0 : Int32) ∧ ¬ (100 : Int32) < k) : ¬ k.toInt64 < (0 : Int64) ∧ ¬ (100 : Int64) < k.toInt64 := by
  have e1 : (0 : Int32).toInt = 0 := by decide
  have e2 : (100 : Int32).toInt = 100 := by decide
  have e3 : (0 : Int64).toInt = 0 := by decide
  have e4 : (100 : Int64).toInt = 100 := by decide
  have c := c_i2l k
  simp only [Int32.lt_iff_toInt_lt, Int64.lt_iff_toInt_lt] at *
  omega
theorem own_l1 {q : Int64} (h : ¬ q < (0 : Int64) ∧ ¬ (100 : Int64) < q) : ¬ q < (-128 : Int64) ∧ ¬ (127 : Int64) < q ∧ (¬ (q.toInt32 + (128 : Int32)) < 0 ∧ (q.toInt32 + (128 : Int32)) < (256 : Int32)) := by
  obtain ⟨h1, h2⟩ := h
  have c := c_iadd q.toInt32 128
  have c2 := c_l2i q
  have r := rng32 (q.toInt32 + 128)
  have r2 := rng32 q.toInt32
  have e1 : (-128 : Int64).toInt = -128 := by decide
  have e2 : (127 : Int64).toInt = 127 := by decide
  have e3 : (128 : Int32).toInt = 128 := by decide
  have e4 : (256 : Int32).toInt = 256 := by decide
  have e5 : (0 : Int64).toInt = 0 := by decide
  have e6 : (100 : Int64).toInt = 100 := by decide
  have e7 : (0 : Int32).toInt = 0 := by decide
  simp only [Int32.lt_iff_toInt_lt, Int64.lt_iff_toInt_lt] at *
  omega
theorem own_c1 {k : Int32} (h : ¬ k < (0 : Int32) ∧ ¬ (100 : Int32) < k) : ¬ (255 : Int32) < k.toUInt32.toUInt16.toUInt32.toInt32 := by
  have c := c_i2c k
  have e1 : (0 : Int32).toInt = 0 := by decide
  have e2 : (100 : Int32).toInt = 100 := by decide
  have e3 : (255 : Int32).toInt = 255 := by decide
  simp only [Int32.lt_iff_toInt_lt] at *
  omega
def W0 (Z : State) (s_icache : Addr) (cl_icache : Cell) (s_lcache : Addr) (cl_lcache : Cell) (c_compact : Int32) : Prop :=
  (Sta Z Z.heap "java/lang/Integer$IntegerCache" "high" "I" (.int (127 : Int32))) ∧
  (Bxs Z s_icache cl_icache "java/lang/Integer" "I" (256 : Int32) (fun j => .int (j - 128))) ∧
  (Sta Z Z.heap "java/lang/Integer$IntegerCache" "cache" "[Ljava/lang/Integer;" (.ref s_icache)) ∧
  (Bxs Z s_lcache cl_lcache "java/lang/Long" "J" (256 : Int32) (fun j => .long (j - 128).toInt64)) ∧
  (Sta Z Z.heap "java/lang/Long$LongCache" "cache" "[Ljava/lang/Long;" (.ref s_lcache)) ∧
  (Sta Z Z.heap "java/lang/String" "COMPACT_STRINGS" "Z" (.int c_compact)) ∧
  (¬ c_compact = (0 : Int32))
theorem own_d1_0 : decode prog_44_method_1_code 0 = .ok (.aload_n 0, 1) := by decide +kernel
theorem own_d1_1 : decode prog_44_method_1_code 1 = .ok (.invokespecial 1, 3) := by decide +kernel
theorem own_d1_4 : decode prog_44_method_1_code 4 = .ok (.iload_n 1, 1) := by decide +kernel
theorem own_d1_5 : decode prog_44_method_1_code 5 = .ok (.ifCond .lt 9, 3) := by decide +kernel
theorem own_d1_8 : decode prog_44_method_1_code 8 = .ok (.iload_n 1, 1) := by decide +kernel
theorem own_d1_9 : decode prog_44_method_1_code 9 = .ok (.bipush 100, 2) := by decide +kernel
theorem own_d1_11 : decode prog_44_method_1_code 11 = .ok (.if_icmp .le 17, 3) := by decide +kernel
theorem own_d1_28 : decode prog_44_method_1_code 28 = .ok (.aload_n 0, 1) := by decide +kernel
theorem own_d1_29 : decode prog_44_method_1_code 29 = .ok (.iload_n 1, 1) := by decide +kernel
theorem own_d1_30 : decode prog_44_method_1_code 30 = .ok (.putfield 18, 3) := by decide +kernel
theorem own_d1_33 : decode prog_44_method_1_code 33 = .ok (.return_, 1) := by decide +kernel
theorem own_pn0 : plainName "com/example/rooted_kinds/rootedkinds/model/Rating" = true := by first | (simp [plainName, overriddenIn]; done) | decide +kernel
theorem ef1 (m : MethodId) (r0 : Addr) (p1 : Int32) : entryFrame m #[(.ref r0), (.int p1)] 2 = mkF m 0 #[.val (.ref r0), .val (.int p1)] [] := by first | (simp [entryFrame, mkF, argsToLocals, Value.category]; done) | rfl
def Q1 (Z : State) (s_icache : Addr) (cl_icache : Cell) (s_lcache : Addr) (cl_lcache : Cell) (c_compact : Int32) (r0 : Addr) (p1 : Int32) (u_rating_r0 : Value) (h0 : Heap) (n0 : Nat) (v : Option Value) (h : Heap) (L : List Loc) : Prop := v = none ∧ Fr n0 L ∧ Keep h0 h [r0] ∧ Fld Z h r0 "com/example/rooted_kinds/rootedkinds/model/Rating" "rating" "I" (.int p1) ∧ Exa Z h r0 "com/example/rooted_kinds/rootedkinds/model/Rating"
set_option maxRecDepth 65536 in
set_option maxHeartbeats 40000000 in
theorem rm1 (l : Launch) (Z : State) (a0 : Array Value) (hw : ∀ d ∈ tables_1, d.before a0 Z = true) (ws : List Jvm.Cond) (s_icache : Addr) (cl_icache : Cell) (s_lcache : Addr) (cl_lcache : Cell) (c_compact : Int32) (HW : W0 Z s_icache cl_icache s_lcache cl_lcache c_compact) (r0 : Addr) (p1 : Int32) (u_rating_r0 : Value) (h0 : Heap) (n0 : Nat) (O0 : Old Z n0 h0) (hrg : ¬ p1 < (0 : Int32) ∧ ¬ (100 : Int32) < p1) (E_r0 : Exa Z h0 r0 "com/example/rooted_kinds/rootedkinds/model/Rating") (F_rating_r0 : Fld Z h0 r0 "com/example/rooted_kinds/rootedkinds/model/Rating" "rating" "I" u_rating_r0) (g_r0 : n0 ≤ r0) :
    MetFree l (⟨"com/example/rooted_kinds/rootedkinds/model/Rating", "<init>", "(I)V"⟩ : MethodName) (head1 (Jvm.Cond.code (⟨"com/example/rooted_kinds/rootedkinds/model/Rating", "<init>", "(I)V"⟩ : MethodName) prog_44_method_1_code 2 none :: ws) ({ frames := 1, cells := 0, slots := 0, locals := 12 } : Room)) (fun a U => a = #[(.ref r0), (.int p1)] ∧ Z.Warmed39 U.vm ∧ U.heap = h0) (fun _ _ _ _ _ => True) (fun _ U o U' => ∃ v L, o = .returned v ∧ Q1 Z s_icache cl_icache s_lcache cl_lcache c_compact r0 p1 u_rating_r0 h0 n0 v U'.heap L ∧ FrameEnd U o U' L ({ frames := 1, cells := 0, slots := 0, locals := 12 } : Room).cells ({ frames := 1, cells := 0, slots := 0, locals := 12 } : Room).slots) := by
  refine MetFree.of_bodySF (plainFor_of_name own_pn0) hisR ?_
  intro p e s m args below meth c s₁ Bd hml0 hP hK
  obtain ⟨rfl, hZ, hh⟩ := hP
  obtain ⟨S_ihigh, B_icache, S_icache, B_lcache, S_lcache, S_compact, N_compact⟩ := id HW
  have hx := Bd.exec
  have hby := Bd.bytes
  have hml : c.maxLocals = 2 := hml0
  have hown : s.vm.findClass "com/example/rooted_kinds/rootedkinds/model/Rating" = some m.cls := findClass_of_methodNamed Bd.named
  have hnm := (name_of_methodNamed Bd.named Bd.method).1
  have X0 : Stand p l e ({ frames := 1, cells := 0, slots := 0, locals := 12 } : Room) s m #[(.ref r0), (.int p1)] below meth c s₁ [] 0 0 := Stand.of_body Bd
  have e0 : s₁.heap = h0 := by rw [← hh, Bd.state]; rfl
  have N0 := Fr.nil n0
  have K0 := Keep.refl h0 [r0]
  refine Go.out ?_
  refine Go.st (V' := s₁.setTop (mkF m 0 #[.val (.ref r0), .val (.int p1)] [])) (fun t k => castTop (ef1 m r0 p1) k) ?_
  refine Go.st (V' := s₁.setTop (mkF m 1 #[.val (.ref r0), .val (.int p1)] [(.ref r0)])) (fun t k => ?_) ?_
  · refine XS.aloadN X0.here hx rfl (hb hby own_d1_0) rfl rfl ?_
    show Steps p.tables e below (s₁.setTop (mkF m 1 #[.val (.ref r0), .val (.int p1)] [(.ref r0)])) _
    exact k
  obtain ⟨T1, X1, e1, st1⟩ := initO X0 hx hZ hown (hw _ (List.mem_of_getElem? (i := 7) rfl)) (hw _ (List.mem_of_getElem? (i := 8) rfl)) (hw _ (List.mem_of_getElem? (i := 9) rfl)) e0 (g := (mkF m 1 #[.val (.ref r0), .val (.int p1)] [(.ref r0)])) rfl (by rw [hml]; rfl) rfl (hb hby own_d1_1) (by decide) (W := 0) (by show 2 * 0 + _ ≤ _; exact Nat.le_of_eq rfl) (by decide)
  refine Go.st (V' := T1.setTop (mkF m 4 #[.val (.ref r0), .val (.int p1)] [])) (fun t k => st1 t k) ?_
  refine Go.st (V' := T1.setTop (mkF m 30 #[.val (.ref r0), .val (.int p1)] [(.int p1), (.ref r0)])) (fun t k => ?_) ?_
  · refine XS.iloadN X1.here hx rfl (hb hby own_d1_4) rfl  ?_
    show Steps p.tables e below (T1.setTop (mkF m 5 #[.val (.ref r0), .val (.int p1)] [(.int p1)])) _
    refine XS.ifNo X1.here hx rfl (hb hby own_d1_5) rfl ((if0 _ _).trans (flt hrg.1).1) ?_
    show Steps p.tables e below (T1.setTop (mkF m 8 #[.val (.ref r0), .val (.int p1)] [])) _
    refine XS.iloadN X1.here hx rfl (hb hby own_d1_8) rfl  ?_
    show Steps p.tables e below (T1.setTop (mkF m 9 #[.val (.ref r0), .val (.int p1)] [(.int p1)])) _
    refine XS.bipush X1.here hx rfl (hb hby own_d1_9) ?_
    show Steps p.tables e below (T1.setTop (mkF m 11 #[.val (.ref r0), .val (.int p1)] [(.int (100 : Int32)), (.int p1)])) _
    refine XS.icmpYes X1.here hx rfl (pc0 := 11) (pc' := 28) rfl (hb hby own_d1_11) rfl (flt hrg.2).2.2.2 (by decide) (by decide) ?_
    show Steps p.tables e below (T1.setTop (mkF m 28 #[.val (.ref r0), .val (.int p1)] [])) _
    refine XS.aloadN X1.here hx rfl (hb hby own_d1_28) rfl rfl ?_
    show Steps p.tables e below (T1.setTop (mkF m 29 #[.val (.ref r0), .val (.int p1)] [(.ref r0)])) _
    refine XS.iloadN X1.here hx rfl (hb hby own_d1_29) rfl  ?_
    show Steps p.tables e below (T1.setTop (mkF m 30 #[.val (.ref r0), .val (.int p1)] [(.int p1), (.ref r0)])) _
    exact k
  obtain ⟨T2, h2, X2, e2, W2, st2⟩ := putF X1 hx hZ hown (host := "") (Or.inl (hw _ (List.mem_of_getElem? (i := 10) rfl))) Via.refl e1 F_rating_r0 E_r0 (Or.inr ⟨(hw _ (List.mem_of_getElem? (i := 11) rfl)), rfl, hnm⟩) (hw _ (List.mem_of_getElem? (i := 2) rfl)) (ty := .int) (by decide) rfl rfl (g := (mkF m 30 #[.val (.ref r0), .val (.int p1)] [(.int p1), (.ref r0)])) rfl rfl (hb hby own_d1_30)
  have O2 := O0.wr W2 g_r0
  have F2 := F_rating_r0.same W2
  have N2 := Fr.snoc X2 N0 g_r0
  have K2 := K0.wr W2 (Or.inl (List.mem_of_getElem? (i := 0) rfl))
  refine Go.st (V' := T2.setTop (mkF m 33 #[.val (.ref r0), .val (.int p1)] [])) (fun t k => st2 t k) ?_
  obtain ⟨fs, hr, hrun, hended, hW, hsame⟩ := X2.leave (v := none) (fun _ => rfl)
  refine Go.mk' ⟨_, _, X2.returnOut hx Bd.returns (hb hby own_d1_33) hr, hrun, hended, _, _, rfl, ?_, ⟨_, rfl⟩, hW, hsame.mono (by decide) (by decide)⟩
  show Q1 Z s_icache cl_icache s_lcache cl_lcache c_compact r0 p1 u_rating_r0 h0 n0 _ T2.heap _
  rw [e2]
  exact ⟨rfl, N2, K2, F2, (E_r0.wr W2)⟩
theorem own_d3_0 : decode jdk_33_method_22_code 0 = .ok (.iload_n 0, 1) := by decide +kernel
theorem own_d3_1 : decode jdk_33_method_22_code 1 = .ok (.bipush (-128), 2) := by decide +kernel
theorem own_d3_3 : decode jdk_33_method_22_code 3 = .ok (.if_icmp .lt 20, 3) := by decide +kernel
theorem own_d3_6 : decode jdk_33_method_22_code 6 = .ok (.iload_n 0, 1) := by decide +kernel
theorem own_d3_7 : decode jdk_33_method_22_code 7 = .ok (.getstatic 191, 3) := by decide +kernel
theorem own_d3_10 : decode jdk_33_method_22_code 10 = .ok (.if_icmp .gt 13, 3) := by decide +kernel
theorem own_d3_13 : decode jdk_33_method_22_code 13 = .ok (.getstatic 195, 3) := by decide +kernel
theorem own_d3_16 : decode jdk_33_method_22_code 16 = .ok (.iload_n 0, 1) := by decide +kernel
theorem own_d3_17 : decode jdk_33_method_22_code 17 = .ok (.sipush 128, 3) := by decide +kernel
theorem own_d3_20 : decode jdk_33_method_22_code 20 = .ok (.iadd, 1) := by decide +kernel
theorem own_d3_21 : decode jdk_33_method_22_code 21 = .ok (.aaload, 1) := by decide +kernel
theorem own_d3_22 : decode jdk_33_method_22_code 22 = .ok (.areturn, 1) := by decide +kernel
theorem own_pn1 : plainName "java/lang/Integer" = true := by first | (simp [plainName, overriddenIn]; done) | decide +kernel
theorem ef3 (m : MethodId) (p0 : Int32) : entryFrame m #[(.int p0)] 1 = mkF m 0 #[.val (.int p0)] [] := by first | (simp [entryFrame, mkF, argsToLocals, Value.category]; done) | rfl
def Q3 (Z : State) (s_icache : Addr) (cl_icache : Cell) (s_lcache : Addr) (cl_lcache : Cell) (c_compact : Int32) (p0 : Int32) (h0 : Heap) (n0 : Nat) (v : Option Value) (h : Heap) (L : List Loc) : Prop := ∃ y0 : Addr, v = some (.ref y0) ∧ Fr n0 L ∧ Keep h0 h [] ∧ Exa Z h y0 "java/lang/Integer"
set_option maxRecDepth 65536 in
set_option maxHeartbeats 40000000 in
theorem rm3 (l : Launch) (Z : State) (a0 : Array Value) (hw : ∀ d ∈ tables_1, d.before a0 Z = true) (ws : List Jvm.Cond) (s_icache : Addr) (cl_icache : Cell) (s_lcache : Addr) (cl_lcache : Cell) (c_compact : Int32) (HW : W0 Z s_icache cl_icache s_lcache cl_lcache c_compact) (p0 : Int32) (h0 : Heap) (n0 : Nat) (O0 : Old Z n0 h0) (hrg : ¬ p0 < (0 : Int32) ∧ ¬ (100 : Int32) < p0) :
    MetFree l (⟨"java/lang/Integer", "valueOf", "(I)Ljava/lang/Integer;"⟩ : MethodName) (head1 (Jvm.Cond.code (⟨"java/lang/Integer", "valueOf", "(I)Ljava/lang/Integer;"⟩ : MethodName) jdk_33_method_22_code 1 (some (.object "java/lang/Integer")) :: ws) ({ frames := 0, cells := 0, slots := 0, locals := 0 } : Room)) (fun a U => a = #[(.int p0)] ∧ Z.Warmed39 U.vm ∧ U.heap = h0) (fun _ _ _ _ _ => True) (fun _ U o U' => ∃ v L, o = .returned v ∧ Q3 Z s_icache cl_icache s_lcache cl_lcache c_compact p0 h0 n0 v U'.heap L ∧ FrameEnd U o U' L ({ frames := 0, cells := 0, slots := 0, locals := 0 } : Room).cells ({ frames := 0, cells := 0, slots := 0, locals := 0 } : Room).slots) := by
  refine MetFree.of_bodySF (plainFor_of_name own_pn1) hisR ?_
  intro p e s m args below meth c s₁ Bd hml0 hP hK
  obtain ⟨rfl, hZ, hh⟩ := hP
  obtain ⟨S_ihigh, B_icache, S_icache, B_lcache, S_lcache, S_compact, N_compact⟩ := id HW
  have hx := Bd.exec
  have hby := Bd.bytes
  have hml : c.maxLocals = 1 := hml0
  have hown : s.vm.findClass "java/lang/Integer" = some m.cls := findClass_of_methodNamed Bd.named
  have hnm := (name_of_methodNamed Bd.named Bd.method).1
  have X0 : Stand p l e ({ frames := 0, cells := 0, slots := 0, locals := 0 } : Room) s m #[(.int p0)] below meth c s₁ [] 0 0 := Stand.of_body Bd
  have e0 : s₁.heap = h0 := by rw [← hh, Bd.state]; rfl
  have N0 := Fr.nil n0
  have K0 := Keep.refl h0 []
  refine Go.out ?_
  refine Go.st (V' := s₁.setTop (mkF m 0 #[.val (.int p0)] [])) (fun t k => castTop (ef3 m p0) k) ?_
  refine Go.st (V' := s₁.setTop (mkF m 7 #[.val (.int p0)] [(.int p0)])) (fun t k => ?_) ?_
  · refine XS.iloadN X0.here hx rfl (hb hby own_d3_0) rfl  ?_
    show Steps p.tables e below (s₁.setTop (mkF m 1 #[.val (.int p0)] [(.int p0)])) _
    refine XS.bipush X0.here hx rfl (hb hby own_d3_1) ?_
    show Steps p.tables e below (s₁.setTop (mkF m 3 #[.val (.int p0)] [(.int (-128 : Int32)), (.int p0)])) _
    refine XS.icmpNo X0.here hx rfl (hb hby own_d3_3) rfl (flt (own_i1 hrg).1).1 ?_
    show Steps p.tables e below (s₁.setTop (mkF m 6 #[.val (.int p0)] [])) _
    refine XS.iloadN X0.here hx rfl (hb hby own_d3_6) rfl  ?_
    show Steps p.tables e below (s₁.setTop (mkF m 7 #[.val (.int p0)] [(.int p0)])) _
    exact k
  obtain ⟨T3, X3, e3, st3⟩ := getS2 X0 hx hZ hown (host := "") (Or.inl (hw _ (List.mem_of_getElem? (i := 16) rfl))) Via.refl e0 (S_ihigh.ext O0.2) (g := (mkF m 7 #[.val (.int p0)] [(.int p0)])) rfl (hb hby own_d3_7)
  refine Go.st (V' := T3.setTop (mkF m 10 #[.val (.int p0)] [(.int (127 : Int32)), (.int p0)])) (fun t k => st3 t k) ?_
  refine Go.st (V' := T3.setTop (mkF m 13 #[.val (.int p0)] [])) (fun t k => ?_) ?_
  · refine XS.icmpNo X3.here hx rfl (hb hby own_d3_10) rfl (flt (own_i1 hrg).2.1).2.2.1 ?_
    show Steps p.tables e below (T3.setTop (mkF m 13 #[.val (.int p0)] [])) _
    exact k
  obtain ⟨T4, X4, e4, st4⟩ := getS2 X3 hx hZ hown (host := "") (Or.inl (hw _ (List.mem_of_getElem? (i := 18) rfl))) Via.refl e3 (S_icache.ext O0.2) (g := (mkF m 13 #[.val (.int p0)] [])) rfl (hb hby own_d3_13)
  refine Go.st (V' := T4.setTop (mkF m 16 #[.val (.int p0)] [(.ref s_icache)])) (fun t k => st4 t k) ?_
  refine Go.st (V' := T4.setTop (mkF m 21 #[.val (.int p0)] [(.int (p0 + (128 : Int32))), (.ref s_icache)])) (fun t k => ?_) ?_
  · refine XS.iloadN X4.here hx rfl (hb hby own_d3_16) rfl  ?_
    show Steps p.tables e below (T4.setTop (mkF m 17 #[.val (.int p0)] [(.int p0), (.ref s_icache)])) _
    refine XS.sipush X4.here hx rfl (hb hby own_d3_17) ?_
    show Steps p.tables e below (T4.setTop (mkF m 20 #[.val (.int p0)] [(.int (128 : Int32)), (.int p0), (.ref s_icache)])) _
    refine XS.iadd X4.here hx rfl (hb hby own_d3_20) rfl ?_
    show Steps p.tables e below (T4.setTop (mkF m 21 #[.val (.int p0)] [(.int (p0 + (128 : Int32))), (.ref s_icache)])) _
    exact k
  have hin5 : ¬ ((p0 + (128 : Int32)) < 0 ∨ cl_icache.slots.size ≤ ((p0 + (128 : Int32))).toNatClampNeg) := inb_of B_icache.2.1 (own_i1 hrg).2.2
  obtain ⟨bx5, hat5, Eb5, -⟩ := B_icache.2.2.2 _ hin5
  have Ar5 := B_icache.1.ext O0.2
  refine Go.st (V' := T4.setTop (mkF m 22 #[.val (.int p0)] [(.ref bx5)])) (fun t k => ?_) ?_
  · show Steps p.tables e below (T4.setTop (mkF m 21 #[.val (.int p0)] [(.int (p0 + (128 : Int32))), (.ref s_icache)])) _
    refine X4.aaload hx (j := (p0 + (128 : Int32))) (v := (.ref bx5)) (own_eT e4 Ar5) (State.isArrayOf_alike hZ.alike Ar5.2.1) rfl Ar5.2.2 hin5 hat5 (g := (mkF m 21 #[.val (.int p0)] [(.int (p0 + (128 : Int32))), (.ref s_icache)])) rfl rfl (hb hby own_d3_21) _ ?_
    show Steps p.tables e below (T4.setTop (mkF m 22 #[.val (.int p0)] [(.ref bx5)])) _
    exact k
  obtain ⟨fs, hr, hrun, hended, hW, hsame⟩ := X4.leave (v := some (.ref bx5)) (fun h => by rw [Bd.returns] at h; cases h)
  refine Go.mk' ⟨_, _, retOut X4 hx Bd.returns rfl (Or.inr (Or.inr (Or.inr (Or.inr ⟨rfl, rfl, rfl⟩)))) (hb hby own_d3_22) hr, hrun, hended, _, _, rfl, ?_, ⟨_, rfl⟩, hW, hsame.mono (by decide) (by decide)⟩
  show Q3 Z s_icache cl_icache s_lcache cl_lcache c_compact p0 h0 n0 _ T4.heap _
  rw [e4]
  exact ⟨bx5, rfl, N0, K0, (Eb5.ext O0.2)⟩
theorem own_d9_0 : decode jdk_35_method_24_code 0 = .ok (.sipush 128, 3) := by decide +kernel
theorem own_d9_3 : decode jdk_35_method_24_code 3 = .ok (.istore_n 2, 1) := by decide +kernel
theorem own_d9_4 : decode jdk_35_method_24_code 4 = .ok (.lload_n 0, 1) := by decide +kernel
theorem own_d9_5 : decode jdk_35_method_24_code 5 = .ok (.ldc2_w 230, 3) := by decide +kernel
theorem own_d9_8 : decode jdk_35_method_24_code 8 = .ok (.lcmp, 1) := by decide +kernel
theorem own_d9_9 : decode jdk_35_method_24_code 9 = .ok (.ifCond .lt 22, 3) := by decide +kernel
theorem own_d9_12 : decode jdk_35_method_24_code 12 = .ok (.lload_n 0, 1) := by decide +kernel
theorem own_d9_13 : decode jdk_35_method_24_code 13 = .ok (.ldc2_w 232, 3) := by decide +kernel
theorem own_d9_16 : decode jdk_35_method_24_code 16 = .ok (.lcmp, 1) := by decide +kernel
theorem own_d9_17 : decode jdk_35_method_24_code 17 = .ok (.ifCond .gt 14, 3) := by decide +kernel
theorem own_d9_20 : decode jdk_35_method_24_code 20 = .ok (.getstatic 234, 3) := by decide +kernel
theorem own_d9_23 : decode jdk_35_method_24_code 23 = .ok (.lload_n 0, 1) := by decide +kernel
theorem own_d9_24 : decode jdk_35_method_24_code 24 = .ok (.l2i, 1) := by decide +kernel
theorem own_d9_25 : decode jdk_35_method_24_code 25 = .ok (.sipush 128, 3) := by decide +kernel
theorem own_d9_28 : decode jdk_35_method_24_code 28 = .ok (.iadd, 1) := by decide +kernel
theorem own_d9_29 : decode jdk_35_method_24_code 29 = .ok (.aaload, 1) := by decide +kernel
theorem own_d9_30 : decode jdk_35_method_24_code 30 = .ok (.areturn, 1) := by decide +kernel
theorem own_pn2 : plainName "java/lang/Long" = true := by first | (simp [plainName, overriddenIn]; done) | decide +kernel
theorem ef9 (m : MethodId) (q0 : Int64) : entryFrame m #[(.long q0)] 3 = mkF m 0 #[.val (.long q0), .second, .unset] [] := by first | (simp [entryFrame, mkF, argsToLocals, Value.category]; done) | rfl
def Q9 (Z : State) (s_icache : Addr) (cl_icache : Cell) (s_lcache : Addr) (cl_lcache : Cell) (c_compact : Int32) (q0 : Int64) (h0 : Heap) (n0 : Nat) (v : Option Value) (h : Heap) (L : List Loc) : Prop := ∃ y0 : Addr, v = some (.ref y0) ∧ Fr n0 L ∧ Keep h0 h [] ∧ Exa Z h y0 "java/lang/Long"
set_option maxRecDepth 65536 in
set_option maxHeartbeats 40000000 in
theorem rm9 (l : Launch) (Z : State) (a0 : Array Value) (hw : ∀ d ∈ tables_1, d.before a0 Z = true) (ws : List Jvm.Cond) (s_icache : Addr) (cl_icache : Cell) (s_lcache : Addr) (cl_lcache : Cell) (c_compact : Int32) (HW : W0 Z s_icache cl_icache s_lcache cl_lcache c_compact) (q0 : Int64) (h0 : Heap) (n0 : Nat) (O0 : Old Z n0 h0) (hrg : ¬ q0 < (0 : Int64) ∧ ¬ (100 : Int64) < q0) :
    MetFree l (⟨"java/lang/Long", "valueOf", "(J)Ljava/lang/Long;"⟩ : MethodName) (head1 (Jvm.Cond.code (⟨"java/lang/Long", "valueOf", "(J)Ljava/lang/Long;"⟩ : MethodName) jdk_35_method_24_code 3 (some (.object "java/lang/Long")) :: ws) ({ frames := 0, cells := 0, slots := 0, locals := 0 } : Room)) (fun a U => a = #[(.long q0)] ∧ Z.Warmed39 U.vm ∧ U.heap = h0) (fun _ _ _ _ _ => True) (fun _ U o U' => ∃ v L, o = .returned v ∧ Q9 Z s_icache cl_icache s_lcache cl_lcache c_compact q0 h0 n0 v U'.heap L ∧ FrameEnd U o U' L ({ frames := 0, cells := 0, slots := 0, locals := 0 } : Room).cells ({ frames := 0, cells := 0, slots := 0, locals := 0 } : Room).slots) := by
  refine MetFree.of_bodySF (plainFor_of_name own_pn2) hisR ?_
  intro p e s m args below meth c s₁ Bd hml0 hP hK
  obtain ⟨rfl, hZ, hh⟩ := hP
  obtain ⟨S_ihigh, B_icache, S_icache, B_lcache, S_lcache, S_compact, N_compact⟩ := id HW
  have hx := Bd.exec
  have hby := Bd.bytes
  have hml : c.maxLocals = 3 := hml0
  have hown : s.vm.findClass "java/lang/Long" = some m.cls := findClass_of_methodNamed Bd.named
  have hnm := (name_of_methodNamed Bd.named Bd.method).1
  have X0 : Stand p l e ({ frames := 0, cells := 0, slots := 0, locals := 0 } : Room) s m #[(.long q0)] below meth c s₁ [] 0 0 := Stand.of_body Bd
  have e0 : s₁.heap = h0 := by rw [← hh, Bd.state]; rfl
  have N0 := Fr.nil n0
  have K0 := Keep.refl h0 []
  refine Go.out ?_
  refine Go.st (V' := s₁.setTop (mkF m 0 #[.val (.long q0), .second, .unset] [])) (fun t k => castTop (ef9 m q0) k) ?_
  refine Go.st (V' := s₁.setTop (mkF m 20 #[.val (.long q0), .second, .val (.int (128 : Int32))] [])) (fun t k => ?_) ?_
  · refine XS.sipush X0.here hx rfl (hb hby own_d9_0) ?_
    show Steps p.tables e below (s₁.setTop (mkF m 3 #[.val (.long q0), .second, .unset] [(.int (128 : Int32))])) _
    refine XS.istoreN X0.here hx rfl (hb hby own_d9_3) rfl (l' := #[.val (.long q0), .second, .val (.int (128 : Int32))]) rfl ?_
    show Steps p.tables e below (s₁.setTop (mkF m 4 #[.val (.long q0), .second, .val (.int (128 : Int32))] [])) _
    refine XS.lloadN X0.here hx rfl (hb hby own_d9_4) rfl  ?_
    show Steps p.tables e below (s₁.setTop (mkF m 5 #[.val (.long q0), .second, .val (.int (128 : Int32))] [(.long q0)])) _
    refine X0.ldc2Long hx hown (mvT hZ (hw _ (List.mem_of_getElem? (i := 58) rfl))) (g := (mkF m 5 #[.val (.long q0), .second, .val (.int (128 : Int32))] [(.long q0)])) rfl (hb hby own_d9_5) _ ?_
    show Steps p.tables e below (s₁.setTop (mkF m 8 #[.val (.long q0), .second, .val (.int (128 : Int32))] [(.long (-128 : Int64)), (.long q0)])) _
    refine XS.lcmp X0.here hx rfl (hb hby own_d9_8) rfl ?_
    show Steps p.tables e below (s₁.setTop (mkF m 9 #[.val (.long q0), .second, .val (.int (128 : Int32))] [(.int (lcmpW q0 (-128 : Int64)))])) _
    refine XS.ifNo X0.here hx rfl (hb hby own_d9_9) rfl ((if0 _ _).trans (flt (fun q => (own_l1 hrg).1 ((lw_lt _ _).mp q))).1) ?_
    show Steps p.tables e below (s₁.setTop (mkF m 12 #[.val (.long q0), .second, .val (.int (128 : Int32))] [])) _
    refine XS.lloadN X0.here hx rfl (hb hby own_d9_12) rfl  ?_
    show Steps p.tables e below (s₁.setTop (mkF m 13 #[.val (.long q0), .second, .val (.int (128 : Int32))] [(.long q0)])) _
    refine X0.ldc2Long hx hown (mvT hZ (hw _ (List.mem_of_getElem? (i := 59) rfl))) (g := (mkF m 13 #[.val (.long q0), .second, .val (.int (128 : Int32))] [(.long q0)])) rfl (hb hby own_d9_13) _ ?_
    show Steps p.tables e below (s₁.setTop (mkF m 16 #[.val (.long q0), .second, .val (.int (128 : Int32))] [(.long (127 : Int64)), (.long q0)])) _
    refine XS.lcmp X0.here hx rfl (hb hby own_d9_16) rfl ?_
    show Steps p.tables e below (s₁.setTop (mkF m 17 #[.val (.long q0), .second, .val (.int (128 : Int32))] [(.int (lcmpW q0 (127 : Int64)))])) _
    refine XS.ifNo X0.here hx rfl (hb hby own_d9_17) rfl ((if0 _ _).trans (flt (fun q => (own_l1 hrg).2.1 ((lw_gt _ _).mp q))).2.2.1) ?_
    show Steps p.tables e below (s₁.setTop (mkF m 20 #[.val (.long q0), .second, .val (.int (128 : Int32))] [])) _
    exact k
  obtain ⟨T6, X6, e6, st6⟩ := getS2 X0 hx hZ hown (host := "") (Or.inl (hw _ (List.mem_of_getElem? (i := 60) rfl))) Via.refl e0 (S_lcache.ext O0.2) (g := (mkF m 20 #[.val (.long q0), .second, .val (.int (128 : Int32))] [])) rfl (hb hby own_d9_20)
  refine Go.st (V' := T6.setTop (mkF m 23 #[.val (.long q0), .second, .val (.int (128 : Int32))] [(.ref s_lcache)])) (fun t k => st6 t k) ?_
  refine Go.st (V' := T6.setTop (mkF m 29 #[.val (.long q0), .second, .val (.int (128 : Int32))] [(.int ((q0.toInt32) + (128 : Int32))), (.ref s_lcache)])) (fun t k => ?_) ?_
  · refine XS.lloadN X6.here hx rfl (hb hby own_d9_23) rfl  ?_
    show Steps p.tables e below (T6.setTop (mkF m 24 #[.val (.long q0), .second, .val (.int (128 : Int32))] [(.long q0), (.ref s_lcache)])) _
    refine XS.l2i X6.here hx rfl (hb hby own_d9_24) rfl ?_
    show Steps p.tables e below (T6.setTop (mkF m 25 #[.val (.long q0), .second, .val (.int (128 : Int32))] [(.int (q0.toInt32)), (.ref s_lcache)])) _
    refine XS.sipush X6.here hx rfl (hb hby own_d9_25) ?_
    show Steps p.tables e below (T6.setTop (mkF m 28 #[.val (.long q0), .second, .val (.int (128 : Int32))] [(.int (128 : Int32)), (.int (q0.toInt32)), (.ref s_lcache)])) _
    refine XS.iadd X6.here hx rfl (hb hby own_d9_28) rfl ?_
    show Steps p.tables e below (T6.setTop (mkF m 29 #[.val (.long q0), .second, .val (.int (128 : Int32))] [(.int ((q0.toInt32) + (128 : Int32))), (.ref s_lcache)])) _
    exact k
  have hin7 : ¬ (((q0.toInt32) + (128 : Int32)) < 0 ∨ cl_lcache.slots.size ≤ (((q0.toInt32) + (128 : Int32))).toNatClampNeg) := inb_of B_lcache.2.1 (own_l1 hrg).2.2
  obtain ⟨bx7, hat7, Eb7, -⟩ := B_lcache.2.2.2 _ hin7
  have Ar7 := B_lcache.1.ext O0.2
  refine Go.st (V' := T6.setTop (mkF m 30 #[.val (.long q0), .second, .val (.int (128 : Int32))] [(.ref bx7)])) (fun t k => ?_) ?_
  · show Steps p.tables e below (T6.setTop (mkF m 29 #[.val (.long q0), .second, .val (.int (128 : Int32))] [(.int ((q0.toInt32) + (128 : Int32))), (.ref s_lcache)])) _
    refine X6.aaload hx (j := ((q0.toInt32) + (128 : Int32))) (v := (.ref bx7)) (own_eT e6 Ar7) (State.isArrayOf_alike hZ.alike Ar7.2.1) rfl Ar7.2.2 hin7 hat7 (g := (mkF m 29 #[.val (.long q0), .second, .val (.int (128 : Int32))] [(.int ((q0.toInt32) + (128 : Int32))), (.ref s_lcache)])) rfl rfl (hb hby own_d9_29) _ ?_
    show Steps p.tables e below (T6.setTop (mkF m 30 #[.val (.long q0), .second, .val (.int (128 : Int32))] [(.ref bx7)])) _
    exact k
  obtain ⟨fs, hr, hrun, hended, hW, hsame⟩ := X6.leave (v := some (.ref bx7)) (fun h => by rw [Bd.returns] at h; cases h)
  refine Go.mk' ⟨_, _, retOut X6 hx Bd.returns rfl (Or.inr (Or.inr (Or.inr (Or.inr ⟨rfl, rfl, rfl⟩)))) (hb hby own_d9_30) hr, hrun, hended, _, _, rfl, ?_, ⟨_, rfl⟩, hW, hsame.mono (by decide) (by decide)⟩
  show Q9 Z s_icache cl_icache s_lcache cl_lcache c_compact q0 h0 n0 _ T6.heap _
  rw [e6]
  exact ⟨bx7, rfl, N0, K0, (Eb7.ext O0.2)⟩
theorem own_d6_0 : decode jdk_43_method_3_code 0 = .ok (.iload_n 0, 1) := by decide +kernel
theorem own_d6_1 : decode jdk_43_method_3_code 1 = .ok (.sipush 255, 3) := by decide +kernel
theorem own_d6_4 : decode jdk_43_method_3_code 4 = .ok (.if_icmp .gt 7, 3) := by decide +kernel
theorem own_d6_11 : decode jdk_43_method_3_code 11 = .ok (.iconst 0, 1) := by decide +kernel
theorem own_d6_12 : decode jdk_43_method_3_code 12 = .ok (.ireturn, 1) := by decide +kernel
theorem own_d6_7 : decode jdk_43_method_3_code 7 = .ok (.iconst 1, 1) := by decide +kernel
theorem own_d6_8 : decode jdk_43_method_3_code 8 = .ok (.goto 4, 3) := by decide +kernel
theorem own_pn3 : plainName "java/lang/StringLatin1" = true := by first | (simp [plainName, overriddenIn]; done) | decide +kernel
theorem ef6 (m : MethodId) (p0 : Int32) : entryFrame m #[(.int p0)] 1 = mkF m 0 #[.val (.int p0)] [] := by first | (simp [entryFrame, mkF, argsToLocals, Value.category]; done) | rfl
def f6 (p0 : Int32) : Int32 := (if (255 : Int32) < p0 then (0 : Int32) else (1 : Int32))
def Q6 (Z : State) (p0 : Int32) (h0 : Heap) (n0 : Nat) (v : Option Value) (h : Heap) (L : List Loc) : Prop := v = some (.int (f6 p0)) ∧ Fr n0 L ∧ h = h0
set_option maxRecDepth 65536 in
set_option maxHeartbeats 40000000 in
theorem rm6 (l : Launch) (Z : State) (a0 : Array Value) (hw : ∀ d ∈ tables_1, d.before a0 Z = true) (ws : List Jvm.Cond) (s_icache : Addr) (cl_icache : Cell) (s_lcache : Addr) (cl_lcache : Cell) (c_compact : Int32) (HW : W0 Z s_icache cl_icache s_lcache cl_lcache c_compact) (p0 : Int32) (h0 : Heap) (n0 : Nat) (O0 : Old Z n0 h0) :
    MetFree l (⟨"java/lang/StringLatin1", "canEncode", "(C)Z"⟩ : MethodName) (head1 (Jvm.Cond.code (⟨"java/lang/StringLatin1", "canEncode", "(C)Z"⟩ : MethodName) jdk_43_method_3_code 1 (some .boolean) :: ws) ({ frames := 0, cells := 0, slots := 0, locals := 0 } : Room)) (fun a U => a = #[(.int p0)] ∧ Z.Warmed39 U.vm ∧ U.heap = h0) (fun _ _ _ _ _ => True) (fun _ U o U' => ∃ v L, o = .returned v ∧ Q6 Z p0 h0 n0 v U'.heap L ∧ FrameEnd U o U' L ({ frames := 0, cells := 0, slots := 0, locals := 0 } : Room).cells ({ frames := 0, cells := 0, slots := 0, locals := 0 } : Room).slots) := by
  refine MetFree.of_bodySF (plainFor_of_name own_pn3) hisR ?_
  intro p e s m args below meth c s₁ Bd hml0 hP hK
  obtain ⟨rfl, hZ, hh⟩ := hP
  obtain ⟨S_ihigh, B_icache, S_icache, B_lcache, S_lcache, S_compact, N_compact⟩ := id HW
  have hx := Bd.exec
  have hby := Bd.bytes
  have hml : c.maxLocals = 1 := hml0
  have hown : s.vm.findClass "java/lang/StringLatin1" = some m.cls := findClass_of_methodNamed Bd.named
  have hnm := (name_of_methodNamed Bd.named Bd.method).1
  have X0 : Stand p l e ({ frames := 0, cells := 0, slots := 0, locals := 0 } : Room) s m #[(.int p0)] below meth c s₁ [] 0 0 := Stand.of_body Bd
  have e0 : s₁.heap = h0 := by rw [← hh, Bd.state]; rfl
  have N0 := Fr.nil n0
  have K0 := Keep.refl h0 []
  refine Go.out ?_
  refine Go.st (V' := s₁.setTop (mkF m 0 #[.val (.int p0)] [])) (fun t k => castTop (ef6 m p0) k) ?_
  refine Go.st (V' := s₁.setTop (mkF m 4 #[.val (.int p0)] [(.int (255 : Int32)), (.int p0)])) (fun t k => ?_) ?_
  · refine XS.iloadN X0.here hx rfl (hb hby own_d6_0) rfl  ?_
    show Steps p.tables e below (s₁.setTop (mkF m 1 #[.val (.int p0)] [(.int p0)])) _
    refine XS.sipush X0.here hx rfl (hb hby own_d6_1) ?_
    show Steps p.tables e below (s₁.setTop (mkF m 4 #[.val (.int p0)] [(.int (255 : Int32)), (.int p0)])) _
    exact k
  by_cases hc8 : (255 : Int32) < p0
  · refine Go.st (V' := s₁.setTop (mkF m 12 #[.val (.int p0)] [(.int (0 : Int32))])) (fun t k => ?_) ?_
    · refine XS.icmpYes X0.here hx rfl (pc0 := 4) (pc' := 11) rfl (hb hby own_d6_4) rfl (tlt hc8).2.2.1 (by decide) (by decide) ?_
      show Steps p.tables e below (s₁.setTop (mkF m 11 #[.val (.int p0)] [])) _
      refine XS.iconst X0.here hx rfl (hb hby own_d6_11) ?_
      show Steps p.tables e below (s₁.setTop (mkF m 12 #[.val (.int p0)] [(.int (0 : Int32))])) _
      exact k
    obtain ⟨fs, hr, hrun, hended, hW, hsame⟩ := X0.leave (v := some (.int (0 : Int32))) (fun h => by rw [Bd.returns] at h; cases h)
    refine Go.mk' ⟨_, _, retN X0 hx (t := .boolean) Bd.returns (by simp) (hb hby own_d6_12) hr, hrun, hended, _, _, rfl, ?_, ⟨_, rfl⟩, hW, hsame.mono (by decide) (by decide)⟩
    show Q6 Z p0 h0 n0 _ s₁.heap _
    rw [e0]
    exact ⟨(by rw [f6, if_pos hc8]), N0, rfl⟩
  · refine Go.st (V' := s₁.setTop (mkF m 12 #[.val (.int p0)] [(.int (1 : Int32))])) (fun t k => ?_) ?_
    · refine XS.icmpNo X0.here hx rfl (hb hby own_d6_4) rfl (flt hc8).2.2.1 ?_
      show Steps p.tables e below (s₁.setTop (mkF m 7 #[.val (.int p0)] [])) _
      refine XS.iconst X0.here hx rfl (hb hby own_d6_7) ?_
      show Steps p.tables e below (s₁.setTop (mkF m 8 #[.val (.int p0)] [(.int (1 : Int32))])) _
      refine XS.goto X0.here hx rfl (pc0 := 8) (pc' := 12) rfl (hb hby own_d6_8) (by decide) (by decide) ?_
      show Steps p.tables e below (s₁.setTop (mkF m 12 #[.val (.int p0)] [(.int (1 : Int32))])) _
      exact k
    obtain ⟨fs, hr, hrun, hended, hW, hsame⟩ := X0.leave (v := some (.int (1 : Int32))) (fun h => by rw [Bd.returns] at h; cases h)
    refine Go.mk' ⟨_, _, retN X0 hx (t := .boolean) Bd.returns (by simp) (hb hby own_d6_12) hr, hrun, hended, _, _, rfl, ?_, ⟨_, rfl⟩, hW, hsame.mono (by decide) (by decide)⟩
    show Q6 Z p0 h0 n0 _ s₁.heap _
    rw [e0]
    exact ⟨(by rw [f6, if_neg hc8]), N0, rfl⟩
theorem own_d7_0 : decode jdk_43_method_46_code 0 = .ok (.iconst 1, 1) := by decide +kernel
theorem own_d7_1 : decode jdk_43_method_46_code 1 = .ok (.newarray .byte, 2) := by decide +kernel
theorem own_d7_3 : decode jdk_43_method_46_code 3 = .ok (.dup, 1) := by decide +kernel
theorem own_d7_4 : decode jdk_43_method_46_code 4 = .ok (.iconst 0, 1) := by decide +kernel
theorem own_d7_5 : decode jdk_43_method_46_code 5 = .ok (.iload_n 0, 1) := by decide +kernel
theorem own_d7_6 : decode jdk_43_method_46_code 6 = .ok (.i2b, 1) := by decide +kernel
theorem own_d7_7 : decode jdk_43_method_46_code 7 = .ok (.bastore, 1) := by decide +kernel
theorem own_d7_8 : decode jdk_43_method_46_code 8 = .ok (.areturn, 1) := by decide +kernel
theorem ef7 (m : MethodId) (p0 : Int32) : entryFrame m #[(.int p0)] 1 = mkF m 0 #[.val (.int p0)] [] := by first | (simp [entryFrame, mkF, argsToLocals, Value.category]; done) | rfl
def Q7 (Z : State) (s_icache : Addr) (cl_icache : Cell) (s_lcache : Addr) (cl_lcache : Cell) (c_compact : Int32) (p0 : Int32) (h0 : Heap) (n0 : Nat) (v : Option Value) (h : Heap) (L : List Loc) : Prop := ∃ y0 : Addr, ∃ z0 : ClassId, v = some (.ref y0) ∧ Fr n0 L ∧ Keep h0 h [] ∧ h0.size ≤ y0 ∧ Arv Z h y0 z0 .byte (1 : Int32) [(.int (nar .byte (p0.toInt8.toInt32)))] (.int (0 : Int32)) ∧ Exa Z h y0 "[B"
set_option maxRecDepth 65536 in
set_option maxHeartbeats 40000000 in
theorem rm7 (l : Launch) (Z : State) (a0 : Array Value) (hw : ∀ d ∈ tables_1, d.before a0 Z = true) (ws : List Jvm.Cond) (s_icache : Addr) (cl_icache : Cell) (s_lcache : Addr) (cl_lcache : Cell) (c_compact : Int32) (HW : W0 Z s_icache cl_icache s_lcache cl_lcache c_compact) (p0 : Int32) (h0 : Heap) (n0 : Nat) (O0 : Old Z n0 h0) :
    MetFree l (⟨"java/lang/StringLatin1", "toBytes", "(C)[B"⟩ : MethodName) (head1 (Jvm.Cond.code (⟨"java/lang/StringLatin1", "toBytes", "(C)[B"⟩ : MethodName) jdk_43_method_46_code 1 (some (.array .byte)) :: ws) ({ frames := 0, cells := 1, slots := 1, locals := 0 } : Room)) (fun a U => a = #[(.int p0)] ∧ Z.Warmed39 U.vm ∧ U.heap = h0) (fun _ _ _ _ _ => True) (fun _ U o U' => ∃ v L, o = .returned v ∧ Q7 Z s_icache cl_icache s_lcache cl_lcache c_compact p0 h0 n0 v U'.heap L ∧ FrameEnd U o U' L ({ frames := 0, cells := 1, slots := 1, locals := 0 } : Room).cells ({ frames := 0, cells := 1, slots := 1, locals := 0 } : Room).slots) := by
  refine MetFree.of_bodySF (plainFor_of_name own_pn3) hisR ?_
  intro p e s m args below meth c s₁ Bd hml0 hP hK
  obtain ⟨rfl, hZ, hh⟩ := hP
  obtain ⟨S_ihigh, B_icache, S_icache, B_lcache, S_lcache, S_compact, N_compact⟩ := id HW
  have hx := Bd.exec
  have hby := Bd.bytes
  have hml : c.maxLocals = 1 := hml0
  have hown : s.vm.findClass "java/lang/StringLatin1" = some m.cls := findClass_of_methodNamed Bd.named
  have hnm := (name_of_methodNamed Bd.named Bd.method).1
  have X0 : Stand p l e ({ frames := 0, cells := 1, slots := 1, locals := 0 } : Room) s m #[(.int p0)] below meth c s₁ [] 0 0 := Stand.of_body Bd
  have e0 : s₁.heap = h0 := by rw [← hh, Bd.state]; rfl
  have N0 := Fr.nil n0
  have K0 := Keep.refl h0 []
  refine Go.out ?_
  refine Go.st (V' := s₁.setTop (mkF m 0 #[.val (.int p0)] [])) (fun t k => castTop (ef7 m p0) k) ?_
  refine Go.st (V' := s₁.setTop (mkF m 1 #[.val (.int p0)] [(.int (1 : Int32))])) (fun t k => ?_) ?_
  · refine XS.iconst X0.here hx rfl (hb hby own_d7_0) ?_
    show Steps p.tables e below (s₁.setTop (mkF m 1 #[.val (.int p0)] [(.int (1 : Int32))])) _
    exact k
  obtain ⟨T9, h9, k9, X9, e9, E9, A9, XA9, st9⟩ := newPE X0 hx hZ (hw _ (List.mem_of_getElem? (i := 43) rfl)) e0 (g := (mkF m 1 #[.val (.int p0)] [(.int (1 : Int32))])) rfl (hb hby own_d7_1) rfl (by decide) (cap := 1) (by decide) (by decide) (by decide) (by decide) (ad := "[B") (by decide)
  obtain ⟨b9, g9⟩ : ∃ z, z = h0.size := ⟨_, rfl⟩
  rw [← g9] at A9 XA9 st9
  have g_b9 : n0 ≤ b9 := Nat.le_trans (Nat.le_trans (Nat.le_of_eq O0.1.symm) O0.2.1) (Nat.le_of_eq g9.symm)
  have sz_b9 : h0.size ≤ b9 := Nat.le_trans K0.1 (Nat.le_of_eq g9.symm)
  have K9 := K0.ext E9
  have O9 := O0.ext E9
  have V9 : Arv Z h9 b9 k9 .byte (1 : Int32) [(.int (0 : Int32))] (.int (0 : Int32)) := (Arv.new A9 (by decide)).pad (pad_rep [] (.int (0 : Int32)) 1)
  refine Go.st (V' := T9.setTop (mkF m 3 #[.val (.int p0)] [(.ref b9)])) (fun t k => st9 t k) ?_
  refine Go.st (V' := T9.setTop (mkF m 7 #[.val (.int p0)] [(.int (p0.toInt8.toInt32)), (.int (0 : Int32)), (.ref b9), (.ref b9)])) (fun t k => ?_) ?_
  · refine XS.dup X9.here hx rfl (hb hby own_d7_3) rfl rfl ?_
    show Steps p.tables e below (T9.setTop (mkF m 4 #[.val (.int p0)] [(.ref b9), (.ref b9)])) _
    refine XS.iconst X9.here hx rfl (hb hby own_d7_4) ?_
    show Steps p.tables e below (T9.setTop (mkF m 5 #[.val (.int p0)] [(.int (0 : Int32)), (.ref b9), (.ref b9)])) _
    refine XS.iloadN X9.here hx rfl (hb hby own_d7_5) rfl  ?_
    show Steps p.tables e below (T9.setTop (mkF m 6 #[.val (.int p0)] [(.int p0), (.int (0 : Int32)), (.ref b9), (.ref b9)])) _
    refine XS.i2b X9.here hx rfl (hb hby own_d7_6) rfl ?_
    show Steps p.tables e below (T9.setTop (mkF m 7 #[.val (.int p0)] [(.int (p0.toInt8.toInt32)), (.int (0 : Int32)), (.ref b9), (.ref b9)])) _
    exact k
  obtain ⟨cl10, Ar10, q10, Sz10, Nn10, Ha10, Ga10⟩ := id (V9)
  obtain ⟨T11, h11, X11, e11, W11, st11⟩ := stB X9 hx hZ e9 Ar10 (j := (0 : Int32)) (inb_of Sz10 ⟨by decide, by decide⟩) (g := (mkF m 7 #[.val (.int p0)] [(.int (p0.toInt8.toInt32)), (.int (0 : Int32)), (.ref b9), (.ref b9)])) rfl rfl (hb hby own_d7_7)
  have V11 : Arv Z h11 b9 k9 .byte (1 : Int32) [(.int (nar .byte (p0.toInt8.toInt32)))] (.int (0 : Int32)) := Arv.set Ar10 q10 Sz10 Nn10 Ha10 Ga10 (fits_nar_byte _) W11 0 rfl (Nat.le_of_ble_eq_true rfl)
  have O11 := O9.wr W11 g_b9
  have N11 := Fr.snoc X11 N0 g_b9
  have K11 := K9.wr W11 (Or.inr sz_b9)
  refine Go.st (V' := T11.setTop (mkF m 8 #[.val (.int p0)] [(.ref b9)])) (fun t k => st11 t k) ?_
  obtain ⟨fs, hr, hrun, hended, hW, hsame⟩ := X11.leave (v := some (.ref b9)) (fun h => by rw [Bd.returns] at h; cases h)
  refine Go.mk' ⟨_, _, retOut X11 hx Bd.returns rfl (Or.inr (Or.inr (Or.inr (Or.inr ⟨rfl, rfl, rfl⟩)))) (hb hby own_d7_8) hr, hrun, hended, _, _, rfl, ?_, ⟨_, rfl⟩, hW, hsame.mono (by decide) (by decide)⟩
  show Q7 Z s_icache cl_icache s_lcache cl_lcache c_compact p0 h0 n0 _ T11.heap _
  rw [e11]
  exact ⟨b9, k9, rfl, N11, K11, sz_b9, V11, (XA9.wr W11)⟩
theorem own_d8_0 : decode jdk_42_method_151_code 0 = .ok (.aload_n 0, 1) := by decide +kernel
theorem own_d8_1 : decode jdk_42_method_151_code 1 = .ok (.invokespecial 1, 3) := by decide +kernel
theorem own_d8_4 : decode jdk_42_method_151_code 4 = .ok (.aload_n 0, 1) := by decide +kernel
theorem own_d8_5 : decode jdk_42_method_151_code 5 = .ok (.aload_n 1, 1) := by decide +kernel
theorem own_d8_6 : decode jdk_42_method_151_code 6 = .ok (.putfield 9, 3) := by decide +kernel
theorem own_d8_9 : decode jdk_42_method_151_code 9 = .ok (.aload_n 0, 1) := by decide +kernel
theorem own_d8_10 : decode jdk_42_method_151_code 10 = .ok (.iload_n 2, 1) := by decide +kernel
theorem own_d8_11 : decode jdk_42_method_151_code 11 = .ok (.putfield 15, 3) := by decide +kernel
theorem own_d8_14 : decode jdk_42_method_151_code 14 = .ok (.return_, 1) := by decide +kernel
theorem own_pn4 : plainName "java/lang/String" = true := by first | (simp [plainName, overriddenIn]; done) | decide +kernel
theorem ef8 (m : MethodId) (r0 : Addr) (r1 : Addr) : entryFrame m #[(.ref r0), (.ref r1), (.int (0 : Int32))] 3 = mkF m 0 #[.val (.ref r0), .val (.ref r1), .val (.int (0 : Int32))] [] := by first | (simp [entryFrame, mkF, argsToLocals, Value.category]; done) | rfl
def Q8 (Z : State) (s_icache : Addr) (cl_icache : Cell) (s_lcache : Addr) (cl_lcache : Cell) (c_compact : Int32) (r0 : Addr) (r1 : Addr) (u_value_r0 : Value) (u_coder_r0 : Value) (h0 : Heap) (n0 : Nat) (v : Option Value) (h : Heap) (L : List Loc) : Prop := v = none ∧ Fr n0 L ∧ Keep h0 h [r0] ∧ Fld Z h r0 "java/lang/String" "value" "[B" (.ref r1) ∧ Fld Z h r0 "java/lang/String" "coder" "B" (.int (0 : Int32)) ∧ Exa Z h r0 "java/lang/String"
set_option maxRecDepth 65536 in
set_option maxHeartbeats 40000000 in
theorem rm8 (l : Launch) (Z : State) (a0 : Array Value) (hw : ∀ d ∈ tables_1, d.before a0 Z = true) (ws : List Jvm.Cond) (s_icache : Addr) (cl_icache : Cell) (s_lcache : Addr) (cl_lcache : Cell) (c_compact : Int32) (HW : W0 Z s_icache cl_icache s_lcache cl_lcache c_compact) (r0 : Addr) (r1 : Addr) (u_value_r0 : Value) (u_coder_r0 : Value) (h0 : Heap) (n0 : Nat) (O0 : Old Z n0 h0) (E_r0 : Exa Z h0 r0 "java/lang/String") (F_value_r0 : Fld Z h0 r0 "java/lang/String" "value" "[B" u_value_r0) (g_r0 : n0 ≤ r0) (F_coder_r0 : Fld Z h0 r0 "java/lang/String" "coder" "B" u_coder_r0) :
    MetFree l (⟨"java/lang/String", "<init>", "([BB)V"⟩ : MethodName) (head1 (Jvm.Cond.code (⟨"java/lang/String", "<init>", "([BB)V"⟩ : MethodName) jdk_42_method_151_code 3 none :: ws) ({ frames := 1, cells := 0, slots := 0, locals := 12 } : Room)) (fun a U => a = #[(.ref r0), (.ref r1), (.int (0 : Int32))] ∧ Z.Warmed39 U.vm ∧ U.heap = h0) (fun _ _ _ _ _ => True) (fun _ U o U' => ∃ v L, o = .returned v ∧ Q8 Z s_icache cl_icache s_lcache cl_lcache c_compact r0 r1 u_value_r0 u_coder_r0 h0 n0 v U'.heap L ∧ FrameEnd U o U' L ({ frames := 1, cells := 0, slots := 0, locals := 12 } : Room).cells ({ frames := 1, cells := 0, slots := 0, locals := 12 } : Room).slots) := by
  refine MetFree.of_bodySF (plainFor_of_name own_pn4) hisR ?_
  intro p e s m args below meth c s₁ Bd hml0 hP hK
  obtain ⟨rfl, hZ, hh⟩ := hP
  obtain ⟨S_ihigh, B_icache, S_icache, B_lcache, S_lcache, S_compact, N_compact⟩ := id HW
  have hx := Bd.exec
  have hby := Bd.bytes
  have hml : c.maxLocals = 3 := hml0
  have hown : s.vm.findClass "java/lang/String" = some m.cls := findClass_of_methodNamed Bd.named
  have hnm := (name_of_methodNamed Bd.named Bd.method).1
  have X0 : Stand p l e ({ frames := 1, cells := 0, slots := 0, locals := 12 } : Room) s m #[(.ref r0), (.ref r1), (.int (0 : Int32))] below meth c s₁ [] 0 0 := Stand.of_body Bd
  have e0 : s₁.heap = h0 := by rw [← hh, Bd.state]; rfl
  have N0 := Fr.nil n0
  have K0 := Keep.refl h0 [r0]
  refine Go.out ?_
  refine Go.st (V' := s₁.setTop (mkF m 0 #[.val (.ref r0), .val (.ref r1), .val (.int (0 : Int32))] [])) (fun t k => castTop (ef8 m r0 r1) k) ?_
  refine Go.st (V' := s₁.setTop (mkF m 1 #[.val (.ref r0), .val (.ref r1), .val (.int (0 : Int32))] [(.ref r0)])) (fun t k => ?_) ?_
  · refine XS.aloadN X0.here hx rfl (hb hby own_d8_0) rfl rfl ?_
    show Steps p.tables e below (s₁.setTop (mkF m 1 #[.val (.ref r0), .val (.ref r1), .val (.int (0 : Int32))] [(.ref r0)])) _
    exact k
  obtain ⟨T12, X12, e12, st12⟩ := initO X0 hx hZ hown (hw _ (List.mem_of_getElem? (i := 48) rfl)) (hw _ (List.mem_of_getElem? (i := 8) rfl)) (hw _ (List.mem_of_getElem? (i := 9) rfl)) e0 (g := (mkF m 1 #[.val (.ref r0), .val (.ref r1), .val (.int (0 : Int32))] [(.ref r0)])) rfl (by rw [hml]; rfl) rfl (hb hby own_d8_1) (by decide) (W := 0) (by show 2 * 0 + _ ≤ _; exact Nat.le_of_eq rfl) (by decide)
  refine Go.st (V' := T12.setTop (mkF m 4 #[.val (.ref r0), .val (.ref r1), .val (.int (0 : Int32))] [])) (fun t k => st12 t k) ?_
  refine Go.st (V' := T12.setTop (mkF m 6 #[.val (.ref r0), .val (.ref r1), .val (.int (0 : Int32))] [(.ref r1), (.ref r0)])) (fun t k => ?_) ?_
  · refine XS.aloadN X12.here hx rfl (hb hby own_d8_4) rfl rfl ?_
    show Steps p.tables e below (T12.setTop (mkF m 5 #[.val (.ref r0), .val (.ref r1), .val (.int (0 : Int32))] [(.ref r0)])) _
    refine XS.aloadN X12.here hx rfl (hb hby own_d8_5) rfl rfl ?_
    show Steps p.tables e below (T12.setTop (mkF m 6 #[.val (.ref r0), .val (.ref r1), .val (.int (0 : Int32))] [(.ref r1), (.ref r0)])) _
    exact k
  obtain ⟨T13, h13, X13, e13, W13, st13⟩ := putF X12 hx hZ hown (host := "") (Or.inl (hw _ (List.mem_of_getElem? (i := 49) rfl))) Via.refl e12 F_value_r0 E_r0 (Or.inr ⟨(hw _ (List.mem_of_getElem? (i := 50) rfl)), rfl, hnm⟩) (hw _ (List.mem_of_getElem? (i := 39) rfl)) (ty := (.array .byte)) (by decide) rfl rfl (g := (mkF m 6 #[.val (.ref r0), .val (.ref r1), .val (.int (0 : Int32))] [(.ref r1), (.ref r0)])) rfl rfl (hb hby own_d8_6)
  have O13 := O0.wr W13 g_r0
  have F13 := F_value_r0.same W13
  have N13 := Fr.snoc X13 N0 g_r0
  have K13 := K0.wr W13 (Or.inl (List.mem_of_getElem? (i := 0) rfl))
  refine Go.st (V' := T13.setTop (mkF m 9 #[.val (.ref r0), .val (.ref r1), .val (.int (0 : Int32))] [])) (fun t k => st13 t k) ?_
  refine Go.st (V' := T13.setTop (mkF m 11 #[.val (.ref r0), .val (.ref r1), .val (.int (0 : Int32))] [(.int (0 : Int32)), (.ref r0)])) (fun t k => ?_) ?_
  · refine XS.aloadN X13.here hx rfl (hb hby own_d8_9) rfl rfl ?_
    show Steps p.tables e below (T13.setTop (mkF m 10 #[.val (.ref r0), .val (.ref r1), .val (.int (0 : Int32))] [(.ref r0)])) _
    refine XS.iloadN X13.here hx rfl (hb hby own_d8_10) rfl  ?_
    show Steps p.tables e below (T13.setTop (mkF m 11 #[.val (.ref r0), .val (.ref r1), .val (.int (0 : Int32))] [(.int (0 : Int32)), (.ref r0)])) _
    exact k
  obtain ⟨T14, h14, X14, e14, W14, st14⟩ := putFN X13 hx hZ hown (hw _ (List.mem_of_getElem? (i := 51) rfl)) Via.refl e13 (F_coder_r0.other W13 (Or.inr (slot_ne (Or.inr (hw _ (List.mem_of_getElem? (i := 52) rfl))) (Or.inr (hw _ (List.mem_of_getElem? (i := 50) rfl))) (by decide) (t := .byte) (t' := (.array .byte)) (by decide) (by decide)))) (E_r0.wr W13) (Or.inr ⟨(hw _ (List.mem_of_getElem? (i := 52) rfl)), rfl, hnm⟩) (hw _ (List.mem_of_getElem? (i := 39) rfl)) (ty := .byte) (v' := (.int (0 : Int32))) (by decide) rfl (by decide) (g := (mkF m 11 #[.val (.ref r0), .val (.ref r1), .val (.int (0 : Int32))] [(.int (0 : Int32)), (.ref r0)])) rfl rfl (hb hby own_d8_11)
  have O14 := O13.wr W14 g_r0
  have F14 := (F_coder_r0.other W13 (Or.inr (slot_ne (Or.inr (hw _ (List.mem_of_getElem? (i := 52) rfl))) (Or.inr (hw _ (List.mem_of_getElem? (i := 50) rfl))) (by decide) (t := .byte) (t' := (.array .byte)) (by decide) (by decide)))).same W14
  have N14 := Fr.snoc X14 N13 g_r0
  have K14 := K13.wr W14 (Or.inl (List.mem_of_getElem? (i := 0) rfl))
  refine Go.st (V' := T14.setTop (mkF m 14 #[.val (.ref r0), .val (.ref r1), .val (.int (0 : Int32))] [])) (fun t k => st14 t k) ?_
  obtain ⟨fs, hr, hrun, hended, hW, hsame⟩ := X14.leave (v := none) (fun _ => rfl)
  refine Go.mk' ⟨_, _, X14.returnOut hx Bd.returns (hb hby own_d8_14) hr, hrun, hended, _, _, rfl, ?_, ⟨_, rfl⟩, hW, hsame.mono (by decide) (by decide)⟩
  show Q8 Z s_icache cl_icache s_lcache cl_lcache c_compact r0 r1 u_value_r0 u_coder_r0 h0 n0 _ T14.heap _
  rw [e14]
  exact ⟨rfl, N14, K14, (F13.other W14 (Or.inr (slot_ne (Or.inr (hw _ (List.mem_of_getElem? (i := 50) rfl))) (Or.inr (hw _ (List.mem_of_getElem? (i := 52) rfl))) (by decide) (t := (.array .byte)) (t' := .byte) (by decide) (by decide)))), F14, ((E_r0.wr W13).wr W14)⟩
theorem own_d5_0 : decode jdk_42_method_139_code 0 = .ok (.getstatic 38, 3) := by decide +kernel
theorem own_d5_3 : decode jdk_42_method_139_code 3 = .ok (.ifCond .eq 23, 3) := by decide +kernel
theorem own_d5_6 : decode jdk_42_method_139_code 6 = .ok (.iload_n 0, 1) := by decide +kernel
theorem own_d5_7 : decode jdk_42_method_139_code 7 = .ok (.invokestatic 1015, 3) := by decide +kernel
theorem own_pd68 : parseMethodDescriptor "(C)Z" = some ⟨[.char], some .boolean⟩ := by decide +kernel
theorem own_d5_10 : decode jdk_42_method_139_code 10 = .ok (.ifCond .eq 16, 3) := by decide +kernel
theorem own_d5_13 : decode jdk_42_method_139_code 13 = .ok (.new 10, 3) := by decide +kernel
theorem own_d5_16 : decode jdk_42_method_139_code 16 = .ok (.dup, 1) := by decide +kernel
theorem own_d5_17 : decode jdk_42_method_139_code 17 = .ok (.iload_n 0, 1) := by decide +kernel
theorem own_d5_18 : decode jdk_42_method_139_code 18 = .ok (.invokestatic 1018, 3) := by decide +kernel
theorem own_pd74 : parseMethodDescriptor "(C)[B" = some ⟨[.char], some (.array .byte)⟩ := by decide +kernel
theorem own_d5_21 : decode jdk_42_method_139_code 21 = .ok (.iconst 0, 1) := by decide +kernel
theorem own_d5_22 : decode jdk_42_method_139_code 22 = .ok (.invokespecial 209, 3) := by decide +kernel
theorem own_pd77 : parseMethodDescriptor "([BB)V" = some ⟨[(.array .byte), .byte], none⟩ := by decide +kernel
theorem own_d5_25 : decode jdk_42_method_139_code 25 = .ok (.areturn, 1) := by decide +kernel
theorem ef5 (m : MethodId) (p0 : Int32) : entryFrame m #[(.int p0)] 1 = mkF m 0 #[.val (.int p0)] [] := by first | (simp [entryFrame, mkF, argsToLocals, Value.category]; done) | rfl
def Q5 (Z : State) (s_icache : Addr) (cl_icache : Cell) (s_lcache : Addr) (cl_lcache : Cell) (c_compact : Int32) (p0 : Int32) (h0 : Heap) (n0 : Nat) (v : Option Value) (h : Heap) (L : List Loc) : Prop := ∃ y0 : Addr, v = some (.ref y0) ∧ Fr n0 L ∧ Keep h0 h [] ∧ h0.size ≤ y0 ∧ Exa Z h y0 "java/lang/String"
set_option maxRecDepth 65536 in
set_option maxHeartbeats 40000000 in
theorem rm5 (l : Launch) (Z : State) (a0 : Array Value) (hw : ∀ d ∈ tables_1, d.before a0 Z = true) (ws : List Jvm.Cond) (s_icache : Addr) (cl_icache : Cell) (s_lcache : Addr) (cl_lcache : Cell) (c_compact : Int32) (HW : W0 Z s_icache cl_icache s_lcache cl_lcache c_compact) (p0 : Int32) (h0 : Heap) (n0 : Nat) (O0 : Old Z n0 h0) (hch : ¬ (255 : Int32) < p0) :
    MetFree l (⟨"java/lang/String", "valueOf", "(C)Ljava/lang/String;"⟩ : MethodName) (head1 (Jvm.Cond.code (⟨"java/lang/String", "valueOf", "(C)Ljava/lang/String;"⟩ : MethodName) jdk_42_method_139_code 1 (some (.object "java/lang/String")) :: ws) ({ frames := 2, cells := 2, slots := 5, locals := 27 } : Room)) (fun a U => a = #[(.int p0)] ∧ Z.Warmed39 U.vm ∧ U.heap = h0) (fun _ _ _ _ _ => True) (fun _ U o U' => ∃ v L, o = .returned v ∧ Q5 Z s_icache cl_icache s_lcache cl_lcache c_compact p0 h0 n0 v U'.heap L ∧ FrameEnd U o U' L ({ frames := 2, cells := 2, slots := 5, locals := 27 } : Room).cells ({ frames := 2, cells := 2, slots := 5, locals := 27 } : Room).slots) := by
  refine MetFree.of_bodySF (plainFor_of_name own_pn4) hisR ?_
  intro p e s m args below meth c s₁ Bd hml0 hP hK
  obtain ⟨rfl, hZ, hh⟩ := hP
  obtain ⟨S_ihigh, B_icache, S_icache, B_lcache, S_lcache, S_compact, N_compact⟩ := id HW
  have hx := Bd.exec
  have hby := Bd.bytes
  have hml : c.maxLocals = 1 := hml0
  have hown : s.vm.findClass "java/lang/String" = some m.cls := findClass_of_methodNamed Bd.named
  have hnm := (name_of_methodNamed Bd.named Bd.method).1
  have X0 : Stand p l e ({ frames := 2, cells := 2, slots := 5, locals := 27 } : Room) s m #[(.int p0)] below meth c s₁ [] 0 0 := Stand.of_body Bd
  have e0 : s₁.heap = h0 := by rw [← hh, Bd.state]; rfl
  have N0 := Fr.nil n0
  have K0 := Keep.refl h0 []
  refine Go.out ?_
  refine Go.st (V' := s₁.setTop (mkF m 0 #[.val (.int p0)] [])) (fun t k => castTop (ef5 m p0) k) ?_
  obtain ⟨T15, X15, e15, st15⟩ := getS2 X0 hx hZ hown (host := "") (Or.inl (hw _ (List.mem_of_getElem? (i := 33) rfl))) Via.refl e0 (S_compact.ext O0.2) (g := (mkF m 0 #[.val (.int p0)] [])) rfl (hb hby own_d5_0)
  refine Go.st (V' := T15.setTop (mkF m 3 #[.val (.int p0)] [(.int c_compact)])) (fun t k => st15 t k) ?_
  refine Go.st (V' := T15.setTop (mkF m 7 #[.val (.int p0)] [(.int p0)])) (fun t k => ?_) ?_
  · refine XS.ifNo X15.here hx rfl (hb hby own_d5_3) rfl ((if0 _ _).trans (feq N_compact).1) ?_
    show Steps p.tables e below (T15.setTop (mkF m 6 #[.val (.int p0)] [])) _
    refine XS.iloadN X15.here hx rfl (hb hby own_d5_6) rfl  ?_
    show Steps p.tables e below (T15.setTop (mkF m 7 #[.val (.int p0)] [(.int p0)])) _
    exact k
  obtain ⟨_, _, ⟨T16, L16, k16, n16⟩, -, X16, ⟨Lc16, hQ16, l16, y16, z16⟩, st16⟩ := Jvm.LawKit.callS X15 hx (y := (⟨"java/lang/StringLatin1", "canEncode", "(C)Z"⟩ : MethodName)) hown (mvT hZ (hw _ (List.mem_of_getElem? (i := 34) rfl))) (mvT hZ (hw _ (List.mem_of_getElem? (i := 35) rfl))) (mvT hZ (hw _ (List.mem_of_getElem? (i := 36) rfl))) (mvT hZ (hw _ (List.mem_of_getElem? (i := 37) rfl))) (by decide) (backOf (W := 0) (rm6 l Z a0 hw [] s_icache cl_icache s_lcache cl_lcache c_compact HW p0 h0 n0 O0) hZ (hw _ (List.mem_of_getElem? (i := 37) rfl)) (hw _ (List.mem_of_getElem? (i := 36) rfl)) (by decide) (by decide)) (g := (mkF m 7 #[.val (.int p0)] [(.int p0)])) rfl (by rw [hml]; rfl) (argsL := [(.int p0)]) (rest := []) (lenOf own_pd68 rfl) rfl (by show 2 * 0 + _ ≤ _; exact Nat.le_of_eq rfl) (hb hby own_d5_7) (fun _ _ => ⟨rfl, e15, (by decide : 0 + 0 ≤ _), (by decide : 0 + 0 ≤ _)⟩)
  dsimp only [Pt.U, Pt.locs, Pt.cells, Pt.slots] at X16 l16 y16 z16 st16 hQ16
  subst l16 y16 z16
  obtain ⟨rfl, N16q, e16⟩ := hQ16
  have N16 := Fr.app N0 N16q
  refine Go.st (V' := T16.setTop (mkF m 10 #[.val (.int p0)] [(.int (f6 p0))])) (fun t k => st16 t k) ?_
  have r17 : (f6 p0) = (1 : Int32) := by rw [f6, if_neg hch]
  rw [r17]
  refine Go.st (V' := T16.setTop (mkF m 13 #[.val (.int p0)] [])) (fun t k => ?_) ?_
  · refine XS.ifNo X16.here hx rfl (hb hby own_d5_10) rfl ((if0 _ _).trans (feq (by decide : ¬ ((1 : Int32) = (0 : Int32)))).1) ?_
    show Steps p.tables e below (T16.setTop (mkF m 13 #[.val (.int p0)] [])) _
    exact k
  obtain ⟨T18, h18, X18, e18, E18, A18, D18, U18, st18⟩ := newO X16 hx hZ hown (hw _ (List.mem_of_getElem? (i := 38) rfl)) (hw _ (List.mem_of_getElem? (i := 39) rfl)) (hw _ (List.mem_of_getElem? (i := 31) rfl)) e16 (g := (mkF m 13 #[.val (.int p0)] [])) rfl (hb hby own_d5_13) (by decide) (by decide)
  obtain ⟨b18, g18⟩ : ∃ z, z = h0.size := ⟨_, rfl⟩
  rw [← g18] at A18 D18 U18 st18
  have g_b18 : n0 ≤ b18 := Nat.le_trans (Nat.le_trans (Nat.le_of_eq O0.1.symm) O0.2.1) (Nat.le_of_eq g18.symm)
  have sz_b18 : h0.size ≤ b18 := Nat.le_trans K0.1 (Nat.le_of_eq g18.symm)
  have K18 := K0.ext E18
  have O18 := O0.ext E18
  have F_value_b18 : Fld Z h18 b18 "java/lang/String" "value" "[B" .null := D18 (Or.inr (hw _ (List.mem_of_getElem? (i := 50) rfl))) (ty := (.array .byte)) (by decide)
  have F_coder_b18 : Fld Z h18 b18 "java/lang/String" "coder" "B" (.int (0 : Int32)) := D18 (Or.inr (hw _ (List.mem_of_getElem? (i := 52) rfl))) (ty := .byte) (by decide)
  refine Go.st (V' := T18.setTop (mkF m 16 #[.val (.int p0)] [(.ref b18)])) (fun t k => st18 t k) ?_
  refine Go.st (V' := T18.setTop (mkF m 18 #[.val (.int p0)] [(.int p0), (.ref b18), (.ref b18)])) (fun t k => ?_) ?_
  · refine XS.dup X18.here hx rfl (hb hby own_d5_16) rfl rfl ?_
    show Steps p.tables e below (T18.setTop (mkF m 17 #[.val (.int p0)] [(.ref b18), (.ref b18)])) _
    refine XS.iloadN X18.here hx rfl (hb hby own_d5_17) rfl  ?_
    show Steps p.tables e below (T18.setTop (mkF m 18 #[.val (.int p0)] [(.int p0), (.ref b18), (.ref b18)])) _
    exact k
  obtain ⟨_, _, ⟨T19, L19, k19, n19⟩, -, X19, ⟨Lc19, hQ19, l19, y19, z19⟩, st19⟩ := Jvm.LawKit.callS X18 hx (y := (⟨"java/lang/StringLatin1", "toBytes", "(C)[B"⟩ : MethodName)) hown (mvT hZ (hw _ (List.mem_of_getElem? (i := 40) rfl))) (mvT hZ (hw _ (List.mem_of_getElem? (i := 41) rfl))) (mvT hZ (hw _ (List.mem_of_getElem? (i := 36) rfl))) (mvT hZ (hw _ (List.mem_of_getElem? (i := 42) rfl))) (by decide) (backOf (W := 2) (rm7 l Z a0 hw [] s_icache cl_icache s_lcache cl_lcache c_compact HW p0 h18 n0 O18) hZ (hw _ (List.mem_of_getElem? (i := 42) rfl)) (hw _ (List.mem_of_getElem? (i := 36) rfl)) (by decide) (by decide)) (g := (mkF m 18 #[.val (.int p0)] [(.int p0), (.ref b18), (.ref b18)])) rfl (by rw [hml]; rfl) (argsL := [(.int p0)]) (rest := [(.ref b18), (.ref b18)]) (lenOf own_pd74 rfl) rfl (by show 2 * 0 + _ ≤ _; exact Nat.le_of_eq rfl) (hb hby own_d5_18) (fun _ _ => ⟨rfl, e18, (by decide : 1 + 1 ≤ _), (by decide : 4 + 1 ≤ _)⟩)
  dsimp only [Pt.U, Pt.locs, Pt.cells, Pt.slots] at X19 l19 y19 z19 st19 hQ19
  subst l19 y19 z19
  obtain ⟨b19_y0, k19_z0, rfl, N19q, K19, sz19_y0, f19_0, f19_1⟩ := hQ19
  have N19 := Fr.app N16 N19q
  have O19 := O18.keep K19 all0
  have g_b19_y0 : n0 ≤ b19_y0 := Nat.le_trans (Nat.le_trans (Nat.le_of_eq O18.1.symm) O18.2.1) sz19_y0
  have sz_b19_y0 : h0.size ≤ b19_y0 := Nat.le_trans K18.1 sz19_y0
  have KA19 := K18.trans K19 all0
  refine Go.st (V' := T19.setTop (mkF m 21 #[.val (.int p0)] [(.ref b19_y0), (.ref b18), (.ref b18)])) (fun t k => st19 t k) ?_
  refine Go.st (V' := T19.setTop (mkF m 22 #[.val (.int p0)] [(.int (0 : Int32)), (.ref b19_y0), (.ref b18), (.ref b18)])) (fun t k => ?_) ?_
  · refine XS.iconst X19.here hx rfl (hb hby own_d5_21) ?_
    show Steps p.tables e below (T19.setTop (mkF m 22 #[.val (.int p0)] [(.int (0 : Int32)), (.ref b19_y0), (.ref b18), (.ref b18)])) _
    exact k
  obtain ⟨_, _, ⟨T20, L20, k20, n20⟩, -, X20, ⟨Lc20, hQ20, l20, y20, z20⟩, st20⟩ := X19.specialBack hx (y := (⟨"java/lang/String", "<init>", "([BB)V"⟩ : MethodName)) rfl hown (mvT hZ (hw _ (List.mem_of_getElem? (i := 44) rfl))) (mvT hZ (hw _ (List.mem_of_getElem? (i := 45) rfl))) (mvT hZ (hw _ (List.mem_of_getElem? (i := 47) rfl))) (by decide) (backOf (W := 1) (rm8 l Z a0 hw [] s_icache cl_icache s_lcache cl_lcache c_compact HW b18 b19_y0 .null (.int (0 : Int32)) T19.heap n0 O19 (A18.keep K19) (F_value_b18.keep K19 nin0) g_b18 (F_coder_b18.keep K19 nin0)) hZ (hw _ (List.mem_of_getElem? (i := 47) rfl)) (hw _ (List.mem_of_getElem? (i := 31) rfl)) (by decide) (by decide)) (g := (mkF m 22 #[.val (.int p0)] [(.int (0 : Int32)), (.ref b19_y0), (.ref b18), (.ref b18)])) rfl (by rw [hml]; rfl) (Steps.refl _) (a := b18) (argsL := [(.ref b19_y0), (.int (0 : Int32))]) (rest := [(.ref b18)]) (lenOf own_pd77 rfl) rfl (by show 2 * 0 + _ ≤ _; exact Nat.le_of_eq rfl) (hb hby own_d5_22) (fun _ _ => ⟨rfl, rfl, (by decide : 2 + 0 ≤ _), (by decide : 5 + 0 ≤ _)⟩)
  dsimp only [Pt.U, Pt.locs, Pt.cells, Pt.slots] at X20 l20 y20 z20 st20 hQ20
  subst l20 y20 z20
  obtain ⟨rfl, N20q, K20, f20_0, f20_1, f20_2⟩ := hQ20
  have N20 := Fr.app N19 N20q
  have O20 := O19.keep K20 (allS g_b18 all0)
  have KA20 := KA19.trans K20 (allS (Or.inr sz_b18) all0)
  refine Go.st (V' := T20.setTop (mkF m 25 #[.val (.int p0)] [(.ref b18)])) (fun t k => st20.trans k) ?_
  obtain ⟨fs, hr, hrun, hended, hW, hsame⟩ := X20.leave (v := some (.ref b18)) (fun h => by rw [Bd.returns] at h; cases h)
  refine Go.mk' ⟨_, _, retOut X20 hx Bd.returns rfl (Or.inr (Or.inr (Or.inr (Or.inr ⟨rfl, rfl, rfl⟩)))) (hb hby own_d5_25) hr, hrun, hended, _, _, rfl, ?_, ⟨_, rfl⟩, hW, hsame.mono (by decide) (by decide)⟩
  show Q5 Z s_icache cl_icache s_lcache cl_lcache c_compact p0 h0 n0 _ T20.heap _
  exact ⟨b18, rfl, N20, KA20, sz_b18, f20_2⟩
theorem own_d4_0 : decode prog_44_method_3_code 0 = .ok (.aload_n 1, 1) := by decide +kernel
theorem own_d4_1 : decode prog_44_method_3_code 1 = .ok (.instanceof 7, 3) := by decide +kernel
theorem own_d4_4 : decode prog_44_method_3_code 4 = .ok (.ifCond .eq 23, 3) := by decide +kernel
theorem own_d4_7 : decode prog_44_method_3_code 7 = .ok (.aload_n 1, 1) := by decide +kernel
theorem own_d4_8 : decode prog_44_method_3_code 8 = .ok (.checkcast 7, 3) := by decide +kernel
theorem own_d4_11 : decode prog_44_method_3_code 11 = .ok (.astore_n 2, 1) := by decide +kernel
theorem own_d4_12 : decode prog_44_method_3_code 12 = .ok (.aload_n 0, 1) := by decide +kernel
theorem own_d4_13 : decode prog_44_method_3_code 13 = .ok (.getfield 18, 3) := by decide +kernel
theorem own_d4_16 : decode prog_44_method_3_code 16 = .ok (.aload_n 2, 1) := by decide +kernel
theorem own_d4_17 : decode prog_44_method_3_code 17 = .ok (.getfield 18, 3) := by decide +kernel
theorem own_d4_20 : decode prog_44_method_3_code 20 = .ok (.if_icmp .ne 7, 3) := by decide +kernel
theorem own_d4_23 : decode prog_44_method_3_code 23 = .ok (.iconst 1, 1) := by decide +kernel
theorem own_d4_24 : decode prog_44_method_3_code 24 = .ok (.goto 4, 3) := by decide +kernel
theorem own_d4_28 : decode prog_44_method_3_code 28 = .ok (.ireturn, 1) := by decide +kernel
theorem own_d4_27 : decode prog_44_method_3_code 27 = .ok (.iconst 0, 1) := by decide +kernel
theorem ef4 (m : MethodId) (r0 : Addr) (r1 : Addr) : entryFrame m #[(.ref r0), (.ref r1)] 3 = mkF m 0 #[.val (.ref r0), .val (.ref r1), .unset] [] := by first | (simp [entryFrame, mkF, argsToLocals, Value.category]; done) | rfl
def f4 (w_rating_r0 : Int32) (w_rating_r1 : Int32) : Int32 := (if w_rating_r0 = w_rating_r1 then (1 : Int32) else (0 : Int32))
def Q4 (Z : State) (w_rating_r0 : Int32) (w_rating_r1 : Int32) (h0 : Heap) (n0 : Nat) (v : Option Value) (h : Heap) (L : List Loc) : Prop := v = some (.int (f4 w_rating_r0 w_rating_r1)) ∧ Fr n0 L ∧ h = h0
set_option maxRecDepth 65536 in
set_option maxHeartbeats 40000000 in
theorem rm4 (l : Launch) (Z : State) (a0 : Array Value) (hw : ∀ d ∈ tables_1, d.before a0 Z = true) (ws : List Jvm.Cond) (s_icache : Addr) (cl_icache : Cell) (s_lcache : Addr) (cl_lcache : Cell) (c_compact : Int32) (HW : W0 Z s_icache cl_icache s_lcache cl_lcache c_compact) (r0 : Addr) (r1 : Addr) (w_rating_r0 : Int32) (w_rating_r1 : Int32) (h0 : Heap) (n0 : Nat) (O0 : Old Z n0 h0) (E_r1 : Exa Z h0 r1 "com/example/rooted_kinds/rootedkinds/model/Rating") (F_rating_r0 : Fld Z h0 r0 "com/example/rooted_kinds/rootedkinds/model/Rating" "rating" "I" (.int w_rating_r0)) (F_rating_r1 : Fld Z h0 r1 "com/example/rooted_kinds/rootedkinds/model/Rating" "rating" "I" (.int w_rating_r1)) :
    MetFree l (⟨"com/example/rooted_kinds/rootedkinds/model/Rating", "equals", "(Ljava/lang/Object;)Z"⟩ : MethodName) (head1 (Jvm.Cond.code (⟨"com/example/rooted_kinds/rootedkinds/model/Rating", "equals", "(Ljava/lang/Object;)Z"⟩ : MethodName) prog_44_method_3_code 3 (some .boolean) :: ws) ({ frames := 0, cells := 0, slots := 0, locals := 0 } : Room)) (fun a U => a = #[(.ref r0), (.ref r1)] ∧ Z.Warmed39 U.vm ∧ U.heap = h0) (fun _ _ _ _ _ => True) (fun _ U o U' => ∃ v L, o = .returned v ∧ Q4 Z w_rating_r0 w_rating_r1 h0 n0 v U'.heap L ∧ FrameEnd U o U' L ({ frames := 0, cells := 0, slots := 0, locals := 0 } : Room).cells ({ frames := 0, cells := 0, slots := 0, locals := 0 } : Room).slots) := by
  refine MetFree.of_bodySF (plainFor_of_name own_pn0) hisR ?_
  intro p e s m args below meth c s₁ Bd hml0 hP hK
  obtain ⟨rfl, hZ, hh⟩ := hP
  obtain ⟨S_ihigh, B_icache, S_icache, B_lcache, S_lcache, S_compact, N_compact⟩ := id HW
  have hx := Bd.exec
  have hby := Bd.bytes
  have hml : c.maxLocals = 3 := hml0
  have hown : s.vm.findClass "com/example/rooted_kinds/rootedkinds/model/Rating" = some m.cls := findClass_of_methodNamed Bd.named
  have hnm := (name_of_methodNamed Bd.named Bd.method).1
  have X0 : Stand p l e ({ frames := 0, cells := 0, slots := 0, locals := 0 } : Room) s m #[(.ref r0), (.ref r1)] below meth c s₁ [] 0 0 := Stand.of_body Bd
  have e0 : s₁.heap = h0 := by rw [← hh, Bd.state]; rfl
  have N0 := Fr.nil n0
  have K0 := Keep.refl h0 []
  refine Go.out ?_
  refine Go.st (V' := s₁.setTop (mkF m 0 #[.val (.ref r0), .val (.ref r1), .unset] [])) (fun t k => castTop (ef4 m r0 r1) k) ?_
  refine Go.st (V' := s₁.setTop (mkF m 1 #[.val (.ref r0), .val (.ref r1), .unset] [(.ref r1)])) (fun t k => ?_) ?_
  · refine XS.aloadN X0.here hx rfl (hb hby own_d4_0) rfl rfl ?_
    show Steps p.tables e below (s₁.setTop (mkF m 1 #[.val (.ref r0), .val (.ref r1), .unset] [(.ref r1)])) _
    exact k
  obtain ⟨T21, X21, e21, st21⟩ := instY X0 hx hZ hown (hw _ (List.mem_of_getElem? (i := 24) rfl)) e0 (Ins.self E_r1) (g := (mkF m 1 #[.val (.ref r0), .val (.ref r1), .unset] [(.ref r1)])) rfl rfl (hb hby own_d4_1)
  refine Go.st (V' := T21.setTop (mkF m 4 #[.val (.ref r0), .val (.ref r1), .unset] [(.int (1 : Int32))])) (fun t k => st21 t k) ?_
  refine Go.st (V' := T21.setTop (mkF m 8 #[.val (.ref r0), .val (.ref r1), .unset] [(.ref r1)])) (fun t k => ?_) ?_
  · refine XS.ifNo X21.here hx rfl (hb hby own_d4_4) rfl ((if0 _ _).trans (feq (by decide : ¬ ((1 : Int32) = (0 : Int32)))).1) ?_
    show Steps p.tables e below (T21.setTop (mkF m 7 #[.val (.ref r0), .val (.ref r1), .unset] [])) _
    refine XS.aloadN X21.here hx rfl (hb hby own_d4_7) rfl rfl ?_
    show Steps p.tables e below (T21.setTop (mkF m 8 #[.val (.ref r0), .val (.ref r1), .unset] [(.ref r1)])) _
    exact k
  obtain ⟨T22, X22, e22, st22⟩ := castY X21 hx hZ hown (hw _ (List.mem_of_getElem? (i := 24) rfl)) e21 (Ins.self E_r1) (g := (mkF m 8 #[.val (.ref r0), .val (.ref r1), .unset] [(.ref r1)])) rfl rfl (hb hby own_d4_8)
  refine Go.st (V' := T22.setTop (mkF m 11 #[.val (.ref r0), .val (.ref r1), .unset] [(.ref r1)])) (fun t k => st22 t k) ?_
  refine Go.st (V' := T22.setTop (mkF m 13 #[.val (.ref r0), .val (.ref r1), .val (.ref r1)] [(.ref r0)])) (fun t k => ?_) ?_
  · refine XS.astoreN X22.here hx rfl (hb hby own_d4_11) rfl rfl (l' := #[.val (.ref r0), .val (.ref r1), .val (.ref r1)]) rfl ?_
    show Steps p.tables e below (T22.setTop (mkF m 12 #[.val (.ref r0), .val (.ref r1), .val (.ref r1)] [])) _
    refine XS.aloadN X22.here hx rfl (hb hby own_d4_12) rfl rfl ?_
    show Steps p.tables e below (T22.setTop (mkF m 13 #[.val (.ref r0), .val (.ref r1), .val (.ref r1)] [(.ref r0)])) _
    exact k
  obtain ⟨T23, X23, e23, st23⟩ := getF X22 hx hZ hown (host := "") (Or.inl (hw _ (List.mem_of_getElem? (i := 10) rfl))) Via.refl e22 F_rating_r0 (g := (mkF m 13 #[.val (.ref r0), .val (.ref r1), .val (.ref r1)] [(.ref r0)])) rfl rfl (hb hby own_d4_13)
  refine Go.st (V' := T23.setTop (mkF m 16 #[.val (.ref r0), .val (.ref r1), .val (.ref r1)] [(.int w_rating_r0)])) (fun t k => st23 t k) ?_
  refine Go.st (V' := T23.setTop (mkF m 17 #[.val (.ref r0), .val (.ref r1), .val (.ref r1)] [(.ref r1), (.int w_rating_r0)])) (fun t k => ?_) ?_
  · refine XS.aloadN X23.here hx rfl (hb hby own_d4_16) rfl rfl ?_
    show Steps p.tables e below (T23.setTop (mkF m 17 #[.val (.ref r0), .val (.ref r1), .val (.ref r1)] [(.ref r1), (.int w_rating_r0)])) _
    exact k
  obtain ⟨T24, X24, e24, st24⟩ := getF X23 hx hZ hown (host := "") (Or.inl (hw _ (List.mem_of_getElem? (i := 10) rfl))) Via.refl e23 F_rating_r1 (g := (mkF m 17 #[.val (.ref r0), .val (.ref r1), .val (.ref r1)] [(.ref r1), (.int w_rating_r0)])) rfl rfl (hb hby own_d4_17)
  refine Go.st (V' := T24.setTop (mkF m 20 #[.val (.ref r0), .val (.ref r1), .val (.ref r1)] [(.int w_rating_r1), (.int w_rating_r0)])) (fun t k => st24 t k) ?_
  by_cases hc25 : w_rating_r0 = w_rating_r1
  · refine Go.st (V' := T24.setTop (mkF m 28 #[.val (.ref r0), .val (.ref r1), .val (.ref r1)] [(.int (1 : Int32))])) (fun t k => ?_) ?_
    · refine XS.icmpNo X24.here hx rfl (hb hby own_d4_20) rfl (teq hc25).2 ?_
      show Steps p.tables e below (T24.setTop (mkF m 23 #[.val (.ref r0), .val (.ref r1), .val (.ref r1)] [])) _
      refine XS.iconst X24.here hx rfl (hb hby own_d4_23) ?_
      show Steps p.tables e below (T24.setTop (mkF m 24 #[.val (.ref r0), .val (.ref r1), .val (.ref r1)] [(.int (1 : Int32))])) _
      refine XS.goto X24.here hx rfl (pc0 := 24) (pc' := 28) rfl (hb hby own_d4_24) (by decide) (by decide) ?_
      show Steps p.tables e below (T24.setTop (mkF m 28 #[.val (.ref r0), .val (.ref r1), .val (.ref r1)] [(.int (1 : Int32))])) _
      exact k
    obtain ⟨fs, hr, hrun, hended, hW, hsame⟩ := X24.leave (v := some (.int (1 : Int32))) (fun h => by rw [Bd.returns] at h; cases h)
    refine Go.mk' ⟨_, _, retN X24 hx (t := .boolean) Bd.returns (by simp) (hb hby own_d4_28) hr, hrun, hended, _, _, rfl, ?_, ⟨_, rfl⟩, hW, hsame.mono (by decide) (by decide)⟩
    show Q4 Z w_rating_r0 w_rating_r1 h0 n0 _ T24.heap _
    rw [e24]
    exact ⟨(by rw [f4, if_pos hc25]), N0, rfl⟩
  · refine Go.st (V' := T24.setTop (mkF m 28 #[.val (.ref r0), .val (.ref r1), .val (.ref r1)] [(.int (0 : Int32))])) (fun t k => ?_) ?_
    · refine XS.icmpYes X24.here hx rfl (pc0 := 20) (pc' := 27) rfl (hb hby own_d4_20) rfl (feq hc25).2 (by decide) (by decide) ?_
      show Steps p.tables e below (T24.setTop (mkF m 27 #[.val (.ref r0), .val (.ref r1), .val (.ref r1)] [])) _
      refine XS.iconst X24.here hx rfl (hb hby own_d4_27) ?_
      show Steps p.tables e below (T24.setTop (mkF m 28 #[.val (.ref r0), .val (.ref r1), .val (.ref r1)] [(.int (0 : Int32))])) _
      exact k
    obtain ⟨fs, hr, hrun, hended, hW, hsame⟩ := X24.leave (v := some (.int (0 : Int32))) (fun h => by rw [Bd.returns] at h; cases h)
    refine Go.mk' ⟨_, _, retN X24 hx (t := .boolean) Bd.returns (by simp) (hb hby own_d4_28) hr, hrun, hended, _, _, rfl, ?_, ⟨_, rfl⟩, hW, hsame.mono (by decide) (by decide)⟩
    show Q4 Z w_rating_r0 w_rating_r1 h0 n0 _ T24.heap _
    rw [e24]
    exact ⟨(by rw [f4, if_neg hc25]), N0, rfl⟩
theorem ef4i (m : MethodId) (r0 : Addr) (r1 : Addr) : entryFrame m #[(.ref r0), (.ref r1)] 3 = mkF m 0 #[.val (.ref r0), .val (.ref r1), .unset] [] := by first | (simp [entryFrame, mkF, argsToLocals, Value.category]; done) | rfl
def Q4i (Z : State) (h0 : Heap) (n0 : Nat) (v : Option Value) (h : Heap) (L : List Loc) : Prop := v = some (.int (0 : Int32)) ∧ Fr n0 L ∧ h = h0
set_option maxRecDepth 65536 in
set_option maxHeartbeats 40000000 in
theorem rm4i (l : Launch) (Z : State) (a0 : Array Value) (hw : ∀ d ∈ tables_1, d.before a0 Z = true) (ws : List Jvm.Cond) (s_icache : Addr) (cl_icache : Cell) (s_lcache : Addr) (cl_lcache : Cell) (c_compact : Int32) (HW : W0 Z s_icache cl_icache s_lcache cl_lcache c_compact) (r0 : Addr) (r1 : Addr) (h0 : Heap) (n0 : Nat) (O0 : Old Z n0 h0) (E_r1 : Exa Z h0 r1 "java/lang/Integer") :
    MetFree l (⟨"com/example/rooted_kinds/rootedkinds/model/Rating", "equals", "(Ljava/lang/Object;)Z"⟩ : MethodName) (head1 (Jvm.Cond.code (⟨"com/example/rooted_kinds/rootedkinds/model/Rating", "equals", "(Ljava/lang/Object;)Z"⟩ : MethodName) prog_44_method_3_code 3 (some .boolean) :: ws) ({ frames := 0, cells := 0, slots := 0, locals := 0 } : Room)) (fun a U => a = #[(.ref r0), (.ref r1)] ∧ Z.Warmed39 U.vm ∧ U.heap = h0) (fun _ _ _ _ _ => True) (fun _ U o U' => ∃ v L, o = .returned v ∧ Q4i Z h0 n0 v U'.heap L ∧ FrameEnd U o U' L ({ frames := 0, cells := 0, slots := 0, locals := 0 } : Room).cells ({ frames := 0, cells := 0, slots := 0, locals := 0 } : Room).slots) := by
  refine MetFree.of_bodySF (plainFor_of_name own_pn0) hisR ?_
  intro p e s m args below meth c s₁ Bd hml0 hP hK
  obtain ⟨rfl, hZ, hh⟩ := hP
  obtain ⟨S_ihigh, B_icache, S_icache, B_lcache, S_lcache, S_compact, N_compact⟩ := id HW
  have hx := Bd.exec
  have hby := Bd.bytes
  have hml : c.maxLocals = 3 := hml0
  have hown : s.vm.findClass "com/example/rooted_kinds/rootedkinds/model/Rating" = some m.cls := findClass_of_methodNamed Bd.named
  have hnm := (name_of_methodNamed Bd.named Bd.method).1
  have X0 : Stand p l e ({ frames := 0, cells := 0, slots := 0, locals := 0 } : Room) s m #[(.ref r0), (.ref r1)] below meth c s₁ [] 0 0 := Stand.of_body Bd
  have e0 : s₁.heap = h0 := by rw [← hh, Bd.state]; rfl
  have N0 := Fr.nil n0
  have K0 := Keep.refl h0 []
  refine Go.out ?_
  refine Go.st (V' := s₁.setTop (mkF m 0 #[.val (.ref r0), .val (.ref r1), .unset] [])) (fun t k => castTop (ef4i m r0 r1) k) ?_
  refine Go.st (V' := s₁.setTop (mkF m 1 #[.val (.ref r0), .val (.ref r1), .unset] [(.ref r1)])) (fun t k => ?_) ?_
  · refine XS.aloadN X0.here hx rfl (hb hby own_d4_0) rfl rfl ?_
    show Steps p.tables e below (s₁.setTop (mkF m 1 #[.val (.ref r0), .val (.ref r1), .unset] [(.ref r1)])) _
    exact k
  obtain ⟨T26, X26, e26, st26⟩ := instNo X0 hx hZ hown (hw _ (List.mem_of_getElem? (i := 24) rfl)) e0 E_r1 (own_ns_no (hw _ (List.mem_of_getElem? (i := 26) rfl)) (hw _ (List.mem_of_getElem? (i := 2) rfl)) (NS.step (hw _ (List.mem_of_getElem? (i := 26) rfl)) (NS.step (hw _ (List.mem_of_getElem? (i := 27) rfl)) (own_ns_root (hw _ (List.mem_of_getElem? (i := 28) rfl)) (hw _ (List.mem_of_getElem? (i := 2) rfl)) (by decide)) (by decide)) (by decide)) (by decide)) (g := (mkF m 1 #[.val (.ref r0), .val (.ref r1), .unset] [(.ref r1)])) rfl rfl (hb hby own_d4_1)
  refine Go.st (V' := T26.setTop (mkF m 4 #[.val (.ref r0), .val (.ref r1), .unset] [(.int (0 : Int32))])) (fun t k => st26 t k) ?_
  refine Go.st (V' := T26.setTop (mkF m 28 #[.val (.ref r0), .val (.ref r1), .unset] [(.int (0 : Int32))])) (fun t k => ?_) ?_
  · refine XS.ifYes X26.here hx rfl (pc0 := 4) (pc' := 27) rfl (hb hby own_d4_4) rfl ((if0 _ _).trans (teq (by decide : ((0 : Int32) = (0 : Int32)))).1) (by decide) (by decide) ?_
    show Steps p.tables e below (T26.setTop (mkF m 27 #[.val (.ref r0), .val (.ref r1), .unset] [])) _
    refine XS.iconst X26.here hx rfl (hb hby own_d4_27) ?_
    show Steps p.tables e below (T26.setTop (mkF m 28 #[.val (.ref r0), .val (.ref r1), .unset] [(.int (0 : Int32))])) _
    exact k
  obtain ⟨fs, hr, hrun, hended, hW, hsame⟩ := X26.leave (v := some (.int (0 : Int32))) (fun h => by rw [Bd.returns] at h; cases h)
  refine Go.mk' ⟨_, _, retN X26 hx (t := .boolean) Bd.returns (by simp) (hb hby own_d4_28) hr, hrun, hended, _, _, rfl, ?_, ⟨_, rfl⟩, hW, hsame.mono (by decide) (by decide)⟩
  show Q4i Z h0 n0 _ T26.heap _
  rw [e26]
  exact ⟨rfl, N0, rfl⟩
theorem ef4l (m : MethodId) (r0 : Addr) (r1 : Addr) : entryFrame m #[(.ref r0), (.ref r1)] 3 = mkF m 0 #[.val (.ref r0), .val (.ref r1), .unset] [] := by first | (simp [entryFrame, mkF, argsToLocals, Value.category]; done) | rfl
def Q4l (Z : State) (h0 : Heap) (n0 : Nat) (v : Option Value) (h : Heap) (L : List Loc) : Prop := v = some (.int (0 : Int32)) ∧ Fr n0 L ∧ h = h0
set_option maxRecDepth 65536 in
set_option maxHeartbeats 40000000 in
theorem rm4l (l : Launch) (Z : State) (a0 : Array Value) (hw : ∀ d ∈ tables_1, d.before a0 Z = true) (ws : List Jvm.Cond) (s_icache : Addr) (cl_icache : Cell) (s_lcache : Addr) (cl_lcache : Cell) (c_compact : Int32) (HW : W0 Z s_icache cl_icache s_lcache cl_lcache c_compact) (r0 : Addr) (r1 : Addr) (h0 : Heap) (n0 : Nat) (O0 : Old Z n0 h0) (E_r1 : Exa Z h0 r1 "java/lang/Long") :
    MetFree l (⟨"com/example/rooted_kinds/rootedkinds/model/Rating", "equals", "(Ljava/lang/Object;)Z"⟩ : MethodName) (head1 (Jvm.Cond.code (⟨"com/example/rooted_kinds/rootedkinds/model/Rating", "equals", "(Ljava/lang/Object;)Z"⟩ : MethodName) prog_44_method_3_code 3 (some .boolean) :: ws) ({ frames := 0, cells := 0, slots := 0, locals := 0 } : Room)) (fun a U => a = #[(.ref r0), (.ref r1)] ∧ Z.Warmed39 U.vm ∧ U.heap = h0) (fun _ _ _ _ _ => True) (fun _ U o U' => ∃ v L, o = .returned v ∧ Q4l Z h0 n0 v U'.heap L ∧ FrameEnd U o U' L ({ frames := 0, cells := 0, slots := 0, locals := 0 } : Room).cells ({ frames := 0, cells := 0, slots := 0, locals := 0 } : Room).slots) := by
  refine MetFree.of_bodySF (plainFor_of_name own_pn0) hisR ?_
  intro p e s m args below meth c s₁ Bd hml0 hP hK
  obtain ⟨rfl, hZ, hh⟩ := hP
  obtain ⟨S_ihigh, B_icache, S_icache, B_lcache, S_lcache, S_compact, N_compact⟩ := id HW
  have hx := Bd.exec
  have hby := Bd.bytes
  have hml : c.maxLocals = 3 := hml0
  have hown : s.vm.findClass "com/example/rooted_kinds/rootedkinds/model/Rating" = some m.cls := findClass_of_methodNamed Bd.named
  have hnm := (name_of_methodNamed Bd.named Bd.method).1
  have X0 : Stand p l e ({ frames := 0, cells := 0, slots := 0, locals := 0 } : Room) s m #[(.ref r0), (.ref r1)] below meth c s₁ [] 0 0 := Stand.of_body Bd
  have e0 : s₁.heap = h0 := by rw [← hh, Bd.state]; rfl
  have N0 := Fr.nil n0
  have K0 := Keep.refl h0 []
  refine Go.out ?_
  refine Go.st (V' := s₁.setTop (mkF m 0 #[.val (.ref r0), .val (.ref r1), .unset] [])) (fun t k => castTop (ef4l m r0 r1) k) ?_
  refine Go.st (V' := s₁.setTop (mkF m 1 #[.val (.ref r0), .val (.ref r1), .unset] [(.ref r1)])) (fun t k => ?_) ?_
  · refine XS.aloadN X0.here hx rfl (hb hby own_d4_0) rfl rfl ?_
    show Steps p.tables e below (s₁.setTop (mkF m 1 #[.val (.ref r0), .val (.ref r1), .unset] [(.ref r1)])) _
    exact k
  obtain ⟨T27, X27, e27, st27⟩ := instNo X0 hx hZ hown (hw _ (List.mem_of_getElem? (i := 24) rfl)) e0 E_r1 (own_ns_no (hw _ (List.mem_of_getElem? (i := 62) rfl)) (hw _ (List.mem_of_getElem? (i := 2) rfl)) (NS.step (hw _ (List.mem_of_getElem? (i := 62) rfl)) (NS.step (hw _ (List.mem_of_getElem? (i := 27) rfl)) (own_ns_root (hw _ (List.mem_of_getElem? (i := 28) rfl)) (hw _ (List.mem_of_getElem? (i := 2) rfl)) (by decide)) (by decide)) (by decide)) (by decide)) (g := (mkF m 1 #[.val (.ref r0), .val (.ref r1), .unset] [(.ref r1)])) rfl rfl (hb hby own_d4_1)
  refine Go.st (V' := T27.setTop (mkF m 4 #[.val (.ref r0), .val (.ref r1), .unset] [(.int (0 : Int32))])) (fun t k => st27 t k) ?_
  refine Go.st (V' := T27.setTop (mkF m 28 #[.val (.ref r0), .val (.ref r1), .unset] [(.int (0 : Int32))])) (fun t k => ?_) ?_
  · refine XS.ifYes X27.here hx rfl (pc0 := 4) (pc' := 27) rfl (hb hby own_d4_4) rfl ((if0 _ _).trans (teq (by decide : ((0 : Int32) = (0 : Int32)))).1) (by decide) (by decide) ?_
    show Steps p.tables e below (T27.setTop (mkF m 27 #[.val (.ref r0), .val (.ref r1), .unset] [])) _
    refine XS.iconst X27.here hx rfl (hb hby own_d4_27) ?_
    show Steps p.tables e below (T27.setTop (mkF m 28 #[.val (.ref r0), .val (.ref r1), .unset] [(.int (0 : Int32))])) _
    exact k
  obtain ⟨fs, hr, hrun, hended, hW, hsame⟩ := X27.leave (v := some (.int (0 : Int32))) (fun h => by rw [Bd.returns] at h; cases h)
  refine Go.mk' ⟨_, _, retN X27 hx (t := .boolean) Bd.returns (by simp) (hb hby own_d4_28) hr, hrun, hended, _, _, rfl, ?_, ⟨_, rfl⟩, hW, hsame.mono (by decide) (by decide)⟩
  show Q4l Z h0 n0 _ T27.heap _
  rw [e27]
  exact ⟨rfl, N0, rfl⟩
theorem ef4s (m : MethodId) (r0 : Addr) (r1 : Addr) : entryFrame m #[(.ref r0), (.ref r1)] 3 = mkF m 0 #[.val (.ref r0), .val (.ref r1), .unset] [] := by first | (simp [entryFrame, mkF, argsToLocals, Value.category]; done) | rfl
def Q4s (Z : State) (h0 : Heap) (n0 : Nat) (v : Option Value) (h : Heap) (L : List Loc) : Prop := v = some (.int (0 : Int32)) ∧ Fr n0 L ∧ h = h0
set_option maxRecDepth 65536 in
set_option maxHeartbeats 40000000 in
theorem rm4s (l : Launch) (Z : State) (a0 : Array Value) (hw : ∀ d ∈ tables_1, d.before a0 Z = true) (ws : List Jvm.Cond) (s_icache : Addr) (cl_icache : Cell) (s_lcache : Addr) (cl_lcache : Cell) (c_compact : Int32) (HW : W0 Z s_icache cl_icache s_lcache cl_lcache c_compact) (r0 : Addr) (r1 : Addr) (h0 : Heap) (n0 : Nat) (O0 : Old Z n0 h0) (E_r1 : Exa Z h0 r1 "java/lang/String") :
    MetFree l (⟨"com/example/rooted_kinds/rootedkinds/model/Rating", "equals", "(Ljava/lang/Object;)Z"⟩ : MethodName) (head1 (Jvm.Cond.code (⟨"com/example/rooted_kinds/rootedkinds/model/Rating", "equals", "(Ljava/lang/Object;)Z"⟩ : MethodName) prog_44_method_3_code 3 (some .boolean) :: ws) ({ frames := 0, cells := 0, slots := 0, locals := 0 } : Room)) (fun a U => a = #[(.ref r0), (.ref r1)] ∧ Z.Warmed39 U.vm ∧ U.heap = h0) (fun _ _ _ _ _ => True) (fun _ U o U' => ∃ v L, o = .returned v ∧ Q4s Z h0 n0 v U'.heap L ∧ FrameEnd U o U' L ({ frames := 0, cells := 0, slots := 0, locals := 0 } : Room).cells ({ frames := 0, cells := 0, slots := 0, locals := 0 } : Room).slots) := by
  refine MetFree.of_bodySF (plainFor_of_name own_pn0) hisR ?_
  intro p e s m args below meth c s₁ Bd hml0 hP hK
  obtain ⟨rfl, hZ, hh⟩ := hP
  obtain ⟨S_ihigh, B_icache, S_icache, B_lcache, S_lcache, S_compact, N_compact⟩ := id HW
  have hx := Bd.exec
  have hby := Bd.bytes
  have hml : c.maxLocals = 3 := hml0
  have hown : s.vm.findClass "com/example/rooted_kinds/rootedkinds/model/Rating" = some m.cls := findClass_of_methodNamed Bd.named
  have hnm := (name_of_methodNamed Bd.named Bd.method).1
  have X0 : Stand p l e ({ frames := 0, cells := 0, slots := 0, locals := 0 } : Room) s m #[(.ref r0), (.ref r1)] below meth c s₁ [] 0 0 := Stand.of_body Bd
  have e0 : s₁.heap = h0 := by rw [← hh, Bd.state]; rfl
  have N0 := Fr.nil n0
  have K0 := Keep.refl h0 []
  refine Go.out ?_
  refine Go.st (V' := s₁.setTop (mkF m 0 #[.val (.ref r0), .val (.ref r1), .unset] [])) (fun t k => castTop (ef4s m r0 r1) k) ?_
  refine Go.st (V' := s₁.setTop (mkF m 1 #[.val (.ref r0), .val (.ref r1), .unset] [(.ref r1)])) (fun t k => ?_) ?_
  · refine XS.aloadN X0.here hx rfl (hb hby own_d4_0) rfl rfl ?_
    show Steps p.tables e below (s₁.setTop (mkF m 1 #[.val (.ref r0), .val (.ref r1), .unset] [(.ref r1)])) _
    exact k
  obtain ⟨T28, X28, e28, st28⟩ := instNo X0 hx hZ hown (hw _ (List.mem_of_getElem? (i := 24) rfl)) e0 E_r1 (own_ns_no (hw _ (List.mem_of_getElem? (i := 53) rfl)) (hw _ (List.mem_of_getElem? (i := 2) rfl)) (NS.step (hw _ (List.mem_of_getElem? (i := 53) rfl)) (own_ns_root (hw _ (List.mem_of_getElem? (i := 28) rfl)) (hw _ (List.mem_of_getElem? (i := 2) rfl)) (by decide)) (by decide)) (by decide)) (g := (mkF m 1 #[.val (.ref r0), .val (.ref r1), .unset] [(.ref r1)])) rfl rfl (hb hby own_d4_1)
  refine Go.st (V' := T28.setTop (mkF m 4 #[.val (.ref r0), .val (.ref r1), .unset] [(.int (0 : Int32))])) (fun t k => st28 t k) ?_
  refine Go.st (V' := T28.setTop (mkF m 28 #[.val (.ref r0), .val (.ref r1), .unset] [(.int (0 : Int32))])) (fun t k => ?_) ?_
  · refine XS.ifYes X28.here hx rfl (pc0 := 4) (pc' := 27) rfl (hb hby own_d4_4) rfl ((if0 _ _).trans (teq (by decide : ((0 : Int32) = (0 : Int32)))).1) (by decide) (by decide) ?_
    show Steps p.tables e below (T28.setTop (mkF m 27 #[.val (.ref r0), .val (.ref r1), .unset] [])) _
    refine XS.iconst X28.here hx rfl (hb hby own_d4_27) ?_
    show Steps p.tables e below (T28.setTop (mkF m 28 #[.val (.ref r0), .val (.ref r1), .unset] [(.int (0 : Int32))])) _
    exact k
  obtain ⟨fs, hr, hrun, hended, hW, hsame⟩ := X28.leave (v := some (.int (0 : Int32))) (fun h => by rw [Bd.returns] at h; cases h)
  refine Go.mk' ⟨_, _, retN X28 hx (t := .boolean) Bd.returns (by simp) (hb hby own_d4_28) hr, hrun, hended, _, _, rfl, ?_, ⟨_, rfl⟩, hW, hsame.mono (by decide) (by decide)⟩
  show Q4s Z h0 n0 _ T28.heap _
  rw [e28]
  exact ⟨rfl, N0, rfl⟩
theorem ef4n (m : MethodId) (r0 : Addr) : entryFrame m #[(.ref r0), .null] 3 = mkF m 0 #[.val (.ref r0), .val .null, .unset] [] := by first | (simp [entryFrame, mkF, argsToLocals, Value.category]; done) | rfl
def Q4n (Z : State) (h0 : Heap) (n0 : Nat) (v : Option Value) (h : Heap) (L : List Loc) : Prop := v = some (.int (0 : Int32)) ∧ Fr n0 L ∧ h = h0
set_option maxRecDepth 65536 in
set_option maxHeartbeats 40000000 in
theorem rm4n (l : Launch) (Z : State) (a0 : Array Value) (hw : ∀ d ∈ tables_1, d.before a0 Z = true) (ws : List Jvm.Cond) (s_icache : Addr) (cl_icache : Cell) (s_lcache : Addr) (cl_lcache : Cell) (c_compact : Int32) (HW : W0 Z s_icache cl_icache s_lcache cl_lcache c_compact) (r0 : Addr) (h0 : Heap) (n0 : Nat) (O0 : Old Z n0 h0) :
    MetFree l (⟨"com/example/rooted_kinds/rootedkinds/model/Rating", "equals", "(Ljava/lang/Object;)Z"⟩ : MethodName) (head1 (Jvm.Cond.code (⟨"com/example/rooted_kinds/rootedkinds/model/Rating", "equals", "(Ljava/lang/Object;)Z"⟩ : MethodName) prog_44_method_3_code 3 (some .boolean) :: ws) ({ frames := 0, cells := 0, slots := 0, locals := 0 } : Room)) (fun a U => a = #[(.ref r0), .null] ∧ Z.Warmed39 U.vm ∧ U.heap = h0) (fun _ _ _ _ _ => True) (fun _ U o U' => ∃ v L, o = .returned v ∧ Q4n Z h0 n0 v U'.heap L ∧ FrameEnd U o U' L ({ frames := 0, cells := 0, slots := 0, locals := 0 } : Room).cells ({ frames := 0, cells := 0, slots := 0, locals := 0 } : Room).slots) := by
  refine MetFree.of_bodySF (plainFor_of_name own_pn0) hisR ?_
  intro p e s m args below meth c s₁ Bd hml0 hP hK
  obtain ⟨rfl, hZ, hh⟩ := hP
  obtain ⟨S_ihigh, B_icache, S_icache, B_lcache, S_lcache, S_compact, N_compact⟩ := id HW
  have hx := Bd.exec
  have hby := Bd.bytes
  have hml : c.maxLocals = 3 := hml0
  have hown : s.vm.findClass "com/example/rooted_kinds/rootedkinds/model/Rating" = some m.cls := findClass_of_methodNamed Bd.named
  have hnm := (name_of_methodNamed Bd.named Bd.method).1
  have X0 : Stand p l e ({ frames := 0, cells := 0, slots := 0, locals := 0 } : Room) s m #[(.ref r0), .null] below meth c s₁ [] 0 0 := Stand.of_body Bd
  have e0 : s₁.heap = h0 := by rw [← hh, Bd.state]; rfl
  have N0 := Fr.nil n0
  have K0 := Keep.refl h0 []
  refine Go.out ?_
  refine Go.st (V' := s₁.setTop (mkF m 0 #[.val (.ref r0), .val .null, .unset] [])) (fun t k => castTop (ef4n m r0) k) ?_
  refine Go.st (V' := s₁.setTop (mkF m 28 #[.val (.ref r0), .val .null, .unset] [(.int (0 : Int32))])) (fun t k => ?_) ?_
  · refine XS.aloadN X0.here hx rfl (hb hby own_d4_0) rfl rfl ?_
    show Steps p.tables e below (s₁.setTop (mkF m 1 #[.val (.ref r0), .val .null, .unset] [.null])) _
    refine X0.instanceofNull hx (g := (mkF m 1 #[.val (.ref r0), .val .null, .unset] [.null])) rfl rfl (hb hby own_d4_1) _ ?_
    show Steps p.tables e below (s₁.setTop (mkF m 4 #[.val (.ref r0), .val .null, .unset] [(.int (0 : Int32))])) _
    refine XS.ifYes X0.here hx rfl (pc0 := 4) (pc' := 27) rfl (hb hby own_d4_4) rfl ((if0 _ _).trans (teq (by decide : ((0 : Int32) = (0 : Int32)))).1) (by decide) (by decide) ?_
    show Steps p.tables e below (s₁.setTop (mkF m 27 #[.val (.ref r0), .val .null, .unset] [])) _
    refine XS.iconst X0.here hx rfl (hb hby own_d4_27) ?_
    show Steps p.tables e below (s₁.setTop (mkF m 28 #[.val (.ref r0), .val .null, .unset] [(.int (0 : Int32))])) _
    exact k
  obtain ⟨fs, hr, hrun, hended, hW, hsame⟩ := X0.leave (v := some (.int (0 : Int32))) (fun h => by rw [Bd.returns] at h; cases h)
  refine Go.mk' ⟨_, _, retN X0 hx (t := .boolean) Bd.returns (by simp) (hb hby own_d4_28) hr, hrun, hended, _, _, rfl, ?_, ⟨_, rfl⟩, hW, hsame.mono (by decide) (by decide)⟩
  show Q4n Z h0 n0 _ s₁.heap _
  rw [e0]
  exact ⟨rfl, N0, rfl⟩
theorem own_pd94 : parseMethodDescriptor "(I)V" = some ⟨[.int], none⟩ := by decide +kernel
theorem own_pd95 : parseMethodDescriptor "(Ljava/lang/Object;)Z" = some ⟨[(.object "java/lang/Object")], some .boolean⟩ := by decide +kernel
theorem own_pd96 : parseMethodDescriptor "(I)Ljava/lang/Integer;" = some ⟨[.int], some (.object "java/lang/Integer")⟩ := by decide +kernel
theorem own_pd97 : parseMethodDescriptor "(J)Ljava/lang/Long;" = some ⟨[.long], some (.object "java/lang/Long")⟩ := by decide +kernel
theorem own_pd98 : parseMethodDescriptor "(C)Ljava/lang/String;" = some ⟨[.char], some (.object "java/lang/String")⟩ := by decide +kernel
theorem own_pn5 : plainName "com/example/rooted_kinds/rootedkinds/model/RatingEqualsPinLaw" = true := by first | (simp [plainName, overriddenIn]; done) | decide +kernel
theorem ef0 (m : MethodId) (p0 : Int32) (p1 : Int32) (p2 : Int32) : entryFrame m #[(.int p0), (.int p1), (.int p2)] maxLocals = mkF m 0 #[.val (.int p0), .val (.int p1), .val (.int p2), .unset, .unset, .unset, .unset, .unset, .unset, .unset, .unset, .unset, .unset, .unset] [] := by first | (simp [entryFrame, mkF, argsToLocals, Value.category, maxLocals]; done) | rfl
def Q0 (Z : State) (p0 : Int32) (p1 : Int32) (p2 : Int32) (h0 : Heap) (n0 : Nat) (v : Option Value) (h : Heap) (L : List Loc) : Prop := v = some (.int 1) ∧ Fr n0 L
set_option maxRecDepth 65536 in
set_option maxHeartbeats 40000000 in
theorem rm0 (l : Launch) (Z : State) (a0 : Array Value) (hw : ∀ d ∈ tables_1, d.before a0 Z = true) (ws : List Jvm.Cond) (s_icache : Addr) (cl_icache : Cell) (s_lcache : Addr) (cl_lcache : Cell) (c_compact : Int32) (HW : W0 Z s_icache cl_icache s_lcache cl_lcache c_compact) (p0 : Int32) (p1 : Int32) (p2 : Int32) (h0 : Heap) (n0 : Nat) (O0 : Old Z n0 h0) :
    MetFree l x (head1 (Jvm.Cond.code x code maxLocals ret :: ws) room_1) (fun a U => a = #[(.int p0), (.int p1), (.int p2)] ∧ Z.Warmed39 U.vm ∧ U.heap = h0) (fun _ _ _ _ _ => True) (fun _ U o U' => ∃ v L, o = .returned v ∧ Q0 Z p0 p1 p2 h0 n0 v U'.heap L ∧ FrameEnd U o U' L room_1.cells room_1.slots) := by
  refine MetFree.of_bodySF (plainFor_of_name own_pn5) hisR ?_
  intro p e s m args below meth c s₁ Bd hml0 hP hK
  obtain ⟨rfl, hZ, hh⟩ := hP
  obtain ⟨S_ihigh, B_icache, S_icache, B_lcache, S_lcache, S_compact, N_compact⟩ := id HW
  have hx := Bd.exec
  have hby := Bd.bytes
  have hml : c.maxLocals = 14 := hml0
  have hown : s.vm.findClass "com/example/rooted_kinds/rootedkinds/model/RatingEqualsPinLaw" = some m.cls := findClass_of_methodNamed Bd.named
  have hnm := (name_of_methodNamed Bd.named Bd.method).1
  have X0 : Stand p l e room_1 s m #[(.int p0), (.int p1), (.int p2)] below meth c s₁ [] 0 0 := Stand.of_body Bd
  have e0 : s₁.heap = h0 := by rw [← hh, Bd.state]; rfl
  have N0 := Fr.nil n0
  refine Go.out ?_
  refine Go.st (V' := s₁.setTop (mkF m 0 #[.val (.int p0), .val (.int p1), .val (.int p2), .unset, .unset, .unset, .unset, .unset, .unset, .unset, .unset, .unset, .unset, .unset] [])) (fun t k => castTop (ef0 m p0 p1 p2) k) ?_
  refine Go.st (V' := s₁.setTop (mkF m 8 #[.val (.int p0), .val (.int p1), .val (.int p2), .val (.int ((p0 &&& (2147483647 : Int32)) % (101 : Int32))), .unset, .unset, .unset, .unset, .unset, .unset, .unset, .unset, .unset, .unset] [])) (fun t k => ?_) ?_
  · refine XS.iloadN X0.here hx rfl (hb hby at_0) rfl  ?_
    show Steps p.tables e below (s₁.setTop (mkF m 1 #[.val (.int p0), .val (.int p1), .val (.int p2), .unset, .unset, .unset, .unset, .unset, .unset, .unset, .unset, .unset, .unset, .unset] [(.int p0)])) _
    refine X0.ldcInt hx hown (mvT hZ (hw _ (List.mem_of_getElem? (i := 0) rfl))) (g := (mkF m 1 #[.val (.int p0), .val (.int p1), .val (.int p2), .unset, .unset, .unset, .unset, .unset, .unset, .unset, .unset, .unset, .unset, .unset] [(.int p0)])) rfl (hb hby at_1) _ ?_
    show Steps p.tables e below (s₁.setTop (mkF m 3 #[.val (.int p0), .val (.int p1), .val (.int p2), .unset, .unset, .unset, .unset, .unset, .unset, .unset, .unset, .unset, .unset, .unset] [(.int (2147483647 : Int32)), (.int p0)])) _
    refine XS.iand X0.here hx rfl (hb hby at_3) rfl ?_
    show Steps p.tables e below (s₁.setTop (mkF m 4 #[.val (.int p0), .val (.int p1), .val (.int p2), .unset, .unset, .unset, .unset, .unset, .unset, .unset, .unset, .unset, .unset, .unset] [(.int (p0 &&& (2147483647 : Int32)))])) _
    refine XS.bipush X0.here hx rfl (hb hby at_4) ?_
    show Steps p.tables e below (s₁.setTop (mkF m 6 #[.val (.int p0), .val (.int p1), .val (.int p2), .unset, .unset, .unset, .unset, .unset, .unset, .unset, .unset, .unset, .unset, .unset] [(.int (101 : Int32)), (.int (p0 &&& (2147483647 : Int32)))])) _
    refine iremM X0 hx rfl (hb hby at_6) rfl (by decide) ?_
    show Steps p.tables e below (s₁.setTop (mkF m 7 #[.val (.int p0), .val (.int p1), .val (.int p2), .unset, .unset, .unset, .unset, .unset, .unset, .unset, .unset, .unset, .unset, .unset] [(.int ((p0 &&& (2147483647 : Int32)) % (101 : Int32)))])) _
    refine XS.istoreN X0.here hx rfl (hb hby at_7) rfl (l' := #[.val (.int p0), .val (.int p1), .val (.int p2), .val (.int ((p0 &&& (2147483647 : Int32)) % (101 : Int32))), .unset, .unset, .unset, .unset, .unset, .unset, .unset, .unset, .unset, .unset]) rfl ?_
    show Steps p.tables e below (s₁.setTop (mkF m 8 #[.val (.int p0), .val (.int p1), .val (.int p2), .val (.int ((p0 &&& (2147483647 : Int32)) % (101 : Int32))), .unset, .unset, .unset, .unset, .unset, .unset, .unset, .unset, .unset, .unset] [])) _
    exact k
  obtain ⟨ra, h_ra⟩ : ∃ z, z = ((p0 &&& (2147483647 : Int32)) % (101 : Int32)) := ⟨_, rfl⟩
  rw [← h_ra]
  have hrg_ra : 0 ≤ ra.toInt ∧ ra.toInt < 101 := by rw [h_ra]; exact own_rng _ _ _ (by decide) (by decide)
  refine Go.st (V' := s₁.setTop (mkF m 11 #[.val (.int p0), .val (.int p1), .val (.int p2), .val (.int ra), .unset, .unset, .unset, .unset, .unset, .unset, .unset, .unset, .unset, .unset] [(.int (p2 &&& (1 : Int32)))])) (fun t k => ?_) ?_
  · refine XS.iloadN X0.here hx rfl (hb hby at_8) rfl  ?_
    show Steps p.tables e below (s₁.setTop (mkF m 9 #[.val (.int p0), .val (.int p1), .val (.int p2), .val (.int ra), .unset, .unset, .unset, .unset, .unset, .unset, .unset, .unset, .unset, .unset] [(.int p2)])) _
    refine XS.iconst X0.here hx rfl (hb hby at_9) ?_
    show Steps p.tables e below (s₁.setTop (mkF m 10 #[.val (.int p0), .val (.int p1), .val (.int p2), .val (.int ra), .unset, .unset, .unset, .unset, .unset, .unset, .unset, .unset, .unset, .unset] [(.int (1 : Int32)), (.int p2)])) _
    refine XS.iand X0.here hx rfl (hb hby at_10) rfl ?_
    show Steps p.tables e below (s₁.setTop (mkF m 11 #[.val (.int p0), .val (.int p1), .val (.int p2), .val (.int ra), .unset, .unset, .unset, .unset, .unset, .unset, .unset, .unset, .unset, .unset] [(.int (p2 &&& (1 : Int32)))])) _
    exact k
  refine Go.dia (c := (p2 &&& (1 : Int32)) = (0 : Int32)) (VJ := s₁.setTop (mkF m 25 #[.val (.int p0), .val (.int p1), .val (.int p2), .val (.int ra), .unset, .unset, .unset, .unset, .unset, .unset, .unset, .unset, .unset, .unset] [(.int (if (p2 &&& (1 : Int32)) = (0 : Int32) then ((p1 &&& (2147483647 : Int32)) % (101 : Int32)) else ra))])) (fun hd29 t k => ?_) (fun hd29 t k => ?_) ?_
  · rw [if_pos hd29] at k
    refine XS.ifYes X0.here hx rfl (pc0 := 11) (pc' := 18) rfl (hb hby at_11) rfl ((if0 _ _).trans (teq hd29).1) (by decide) (by decide) ?_
    show Steps p.tables e below (s₁.setTop (mkF m 18 #[.val (.int p0), .val (.int p1), .val (.int p2), .val (.int ra), .unset, .unset, .unset, .unset, .unset, .unset, .unset, .unset, .unset, .unset] [])) _
    refine XS.iloadN X0.here hx rfl (hb hby at_18) rfl  ?_
    show Steps p.tables e below (s₁.setTop (mkF m 19 #[.val (.int p0), .val (.int p1), .val (.int p2), .val (.int ra), .unset, .unset, .unset, .unset, .unset, .unset, .unset, .unset, .unset, .unset] [(.int p1)])) _
    refine X0.ldcInt hx hown (mvT hZ (hw _ (List.mem_of_getElem? (i := 0) rfl))) (g := (mkF m 19 #[.val (.int p0), .val (.int p1), .val (.int p2), .val (.int ra), .unset, .unset, .unset, .unset, .unset, .unset, .unset, .unset, .unset, .unset] [(.int p1)])) rfl (hb hby at_19) _ ?_
    show Steps p.tables e below (s₁.setTop (mkF m 21 #[.val (.int p0), .val (.int p1), .val (.int p2), .val (.int ra), .unset, .unset, .unset, .unset, .unset, .unset, .unset, .unset, .unset, .unset] [(.int (2147483647 : Int32)), (.int p1)])) _
    refine XS.iand X0.here hx rfl (hb hby at_21) rfl ?_
    show Steps p.tables e below (s₁.setTop (mkF m 22 #[.val (.int p0), .val (.int p1), .val (.int p2), .val (.int ra), .unset, .unset, .unset, .unset, .unset, .unset, .unset, .unset, .unset, .unset] [(.int (p1 &&& (2147483647 : Int32)))])) _
    refine XS.bipush X0.here hx rfl (hb hby at_22) ?_
    show Steps p.tables e below (s₁.setTop (mkF m 24 #[.val (.int p0), .val (.int p1), .val (.int p2), .val (.int ra), .unset, .unset, .unset, .unset, .unset, .unset, .unset, .unset, .unset, .unset] [(.int (101 : Int32)), (.int (p1 &&& (2147483647 : Int32)))])) _
    refine iremM X0 hx rfl (hb hby at_24) rfl (by decide) ?_
    show Steps p.tables e below (s₁.setTop (mkF m 25 #[.val (.int p0), .val (.int p1), .val (.int p2), .val (.int ra), .unset, .unset, .unset, .unset, .unset, .unset, .unset, .unset, .unset, .unset] [(.int ((p1 &&& (2147483647 : Int32)) % (101 : Int32)))])) _
    exact k
  · rw [if_neg hd29] at k
    refine XS.ifNo X0.here hx rfl (hb hby at_11) rfl ((if0 _ _).trans (feq hd29).1) ?_
    show Steps p.tables e below (s₁.setTop (mkF m 14 #[.val (.int p0), .val (.int p1), .val (.int p2), .val (.int ra), .unset, .unset, .unset, .unset, .unset, .unset, .unset, .unset, .unset, .unset] [])) _
    refine XS.iloadN X0.here hx rfl (hb hby at_14) rfl  ?_
    show Steps p.tables e below (s₁.setTop (mkF m 15 #[.val (.int p0), .val (.int p1), .val (.int p2), .val (.int ra), .unset, .unset, .unset, .unset, .unset, .unset, .unset, .unset, .unset, .unset] [(.int ra)])) _
    refine XS.goto X0.here hx rfl (pc0 := 15) (pc' := 25) rfl (hb hby at_15) (by decide) (by decide) ?_
    show Steps p.tables e below (s₁.setTop (mkF m 25 #[.val (.int p0), .val (.int p1), .val (.int p2), .val (.int ra), .unset, .unset, .unset, .unset, .unset, .unset, .unset, .unset, .unset, .unset] [(.int ra)])) _
    exact k
  refine Go.st (V' := s₁.setTop (mkF m 27 #[.val (.int p0), .val (.int p1), .val (.int p2), .val (.int ra), .val (.int (if (p2 &&& (1 : Int32)) = (0 : Int32) then ((p1 &&& (2147483647 : Int32)) % (101 : Int32)) else ra)), .unset, .unset, .unset, .unset, .unset, .unset, .unset, .unset, .unset] [])) (fun t k => ?_) ?_
  · refine XS.istore X0.here hx rfl (hb hby at_25) rfl (l' := #[.val (.int p0), .val (.int p1), .val (.int p2), .val (.int ra), .val (.int (if (p2 &&& (1 : Int32)) = (0 : Int32) then ((p1 &&& (2147483647 : Int32)) % (101 : Int32)) else ra)), .unset, .unset, .unset, .unset, .unset, .unset, .unset, .unset, .unset]) rfl ?_
    show Steps p.tables e below (s₁.setTop (mkF m 27 #[.val (.int p0), .val (.int p1), .val (.int p2), .val (.int ra), .val (.int (if (p2 &&& (1 : Int32)) = (0 : Int32) then ((p1 &&& (2147483647 : Int32)) % (101 : Int32)) else ra)), .unset, .unset, .unset, .unset, .unset, .unset, .unset, .unset, .unset] [])) _
    exact k
  obtain ⟨rb, h_rb⟩ : ∃ z, z = (if (p2 &&& (1 : Int32)) = (0 : Int32) then ((p1 &&& (2147483647 : Int32)) % (101 : Int32)) else ra) := ⟨_, rfl⟩
  rw [← h_rb]
  have hrg_rb : 0 ≤ rb.toInt ∧ rb.toInt < 101 := by
    rw [h_rb]
    split
    all_goals first | exact hrg_ra | exact own_rng _ _ _ (by decide) (by decide)
  obtain ⟨T30, h30, X30, e30, E30, A30, D30, U30, st30⟩ := newO X0 hx hZ hown (hw _ (List.mem_of_getElem? (i := 1) rfl)) (hw _ (List.mem_of_getElem? (i := 2) rfl)) (hw _ (List.mem_of_getElem? (i := 3) rfl)) e0 (g := (mkF m 27 #[.val (.int p0), .val (.int p1), .val (.int p2), .val (.int ra), .val (.int rb), .unset, .unset, .unset, .unset, .unset, .unset, .unset, .unset, .unset] [])) rfl (hb hby at_27) (by decide) (by decide)
  obtain ⟨b30, g30⟩ : ∃ z, z = h0.size := ⟨_, rfl⟩
  rw [← g30] at A30 D30 U30 st30
  have g_b30 : n0 ≤ b30 := Nat.le_trans (Nat.le_trans (Nat.le_of_eq O0.1.symm) O0.2.1) (Nat.le_of_eq g30.symm)
  have O30 := O0.ext E30
  have F_rating_b30 : Fld Z h30 b30 "com/example/rooted_kinds/rootedkinds/model/Rating" "rating" "I" (.int (0 : Int32)) := D30 (Or.inr (hw _ (List.mem_of_getElem? (i := 11) rfl))) (ty := .int) (by decide)
  refine Go.st (V' := T30.setTop (mkF m 30 #[.val (.int p0), .val (.int p1), .val (.int p2), .val (.int ra), .val (.int rb), .unset, .unset, .unset, .unset, .unset, .unset, .unset, .unset, .unset] [(.ref b30)])) (fun t k => st30 t k) ?_
  refine Go.st (V' := T30.setTop (mkF m 32 #[.val (.int p0), .val (.int p1), .val (.int p2), .val (.int ra), .val (.int rb), .unset, .unset, .unset, .unset, .unset, .unset, .unset, .unset, .unset] [(.int ra), (.ref b30), (.ref b30)])) (fun t k => ?_) ?_
  · refine XS.dup X30.here hx rfl (hb hby at_30) rfl rfl ?_
    show Steps p.tables e below (T30.setTop (mkF m 31 #[.val (.int p0), .val (.int p1), .val (.int p2), .val (.int ra), .val (.int rb), .unset, .unset, .unset, .unset, .unset, .unset, .unset, .unset, .unset] [(.ref b30), (.ref b30)])) _
    refine XS.iloadN X30.here hx rfl (hb hby at_31) rfl  ?_
    show Steps p.tables e below (T30.setTop (mkF m 32 #[.val (.int p0), .val (.int p1), .val (.int p2), .val (.int ra), .val (.int rb), .unset, .unset, .unset, .unset, .unset, .unset, .unset, .unset, .unset] [(.int ra), (.ref b30), (.ref b30)])) _
    exact k
  obtain ⟨_, _, ⟨T31, L31, k31, n31⟩, -, X31, ⟨Lc31, hQ31, l31, y31, z31⟩, st31⟩ := X30.specialBack hx (y := (⟨"com/example/rooted_kinds/rootedkinds/model/Rating", "<init>", "(I)V"⟩ : MethodName)) rfl hown (mvT hZ (hw _ (List.mem_of_getElem? (i := 4) rfl))) (mvT hZ (hw _ (List.mem_of_getElem? (i := 5) rfl))) (mvT hZ (hw _ (List.mem_of_getElem? (i := 6) rfl))) (by decide) (backOf (W := 1) (rm1 l Z a0 hw [] s_icache cl_icache s_lcache cl_lcache c_compact HW b30 ra (.int (0 : Int32)) h30 n0 O30 (own_100 hrg_ra) A30 F_rating_b30 g_b30) hZ (hw _ (List.mem_of_getElem? (i := 6) rfl)) (hw _ (List.mem_of_getElem? (i := 3) rfl)) (by decide) (by decide)) (g := (mkF m 32 #[.val (.int p0), .val (.int p1), .val (.int p2), .val (.int ra), .val (.int rb), .unset, .unset, .unset, .unset, .unset, .unset, .unset, .unset, .unset] [(.int ra), (.ref b30), (.ref b30)])) rfl (by rw [hml]; rfl) (Steps.refl _) (a := b30) (argsL := [(.int ra)]) (rest := [(.ref b30)]) (lenOf own_pd94 rfl) rfl (by show 2 * 0 + _ ≤ _; exact Nat.le_of_eq rfl) (hb hby at_32) (fun _ _ => ⟨rfl, e30, (by decide : 1 + 0 ≤ _), (by decide : 1 + 0 ≤ _)⟩)
  dsimp only [Pt.U, Pt.locs, Pt.cells, Pt.slots] at X31 l31 y31 z31 st31 hQ31
  subst l31 y31 z31
  obtain ⟨rfl, N31q, K31, f31_0, f31_1⟩ := hQ31
  have N31 := Fr.app N0 N31q
  have O31 := O30.keep K31 (allS g_b30 all0)
  refine Go.st (V' := T31.setTop (mkF m 35 #[.val (.int p0), .val (.int p1), .val (.int p2), .val (.int ra), .val (.int rb), .unset, .unset, .unset, .unset, .unset, .unset, .unset, .unset, .unset] [(.ref b30)])) (fun t k => st31.trans k) ?_
  refine Go.st (V' := T31.setTop (mkF m 37 #[.val (.int p0), .val (.int p1), .val (.int p2), .val (.int ra), .val (.int rb), .val (.ref b30), .unset, .unset, .unset, .unset, .unset, .unset, .unset, .unset] [])) (fun t k => ?_) ?_
  · refine XS.astore X31.here hx rfl (hb hby at_35) rfl rfl (l' := #[.val (.int p0), .val (.int p1), .val (.int p2), .val (.int ra), .val (.int rb), .val (.ref b30), .unset, .unset, .unset, .unset, .unset, .unset, .unset, .unset]) rfl ?_
    show Steps p.tables e below (T31.setTop (mkF m 37 #[.val (.int p0), .val (.int p1), .val (.int p2), .val (.int ra), .val (.int rb), .val (.ref b30), .unset, .unset, .unset, .unset, .unset, .unset, .unset, .unset] [])) _
    exact k
  obtain ⟨T32, h32, X32, e32, E32, A32, D32, U32, st32⟩ := newO X31 hx hZ hown (hw _ (List.mem_of_getElem? (i := 1) rfl)) (hw _ (List.mem_of_getElem? (i := 2) rfl)) (hw _ (List.mem_of_getElem? (i := 3) rfl)) rfl (g := (mkF m 37 #[.val (.int p0), .val (.int p1), .val (.int p2), .val (.int ra), .val (.int rb), .val (.ref b30), .unset, .unset, .unset, .unset, .unset, .unset, .unset, .unset] [])) rfl (hb hby at_37) (by decide) (by decide)
  obtain ⟨b32, g32⟩ : ∃ z, z = T31.heap.size := ⟨_, rfl⟩
  rw [← g32] at A32 D32 U32 st32
  have g_b32 : n0 ≤ b32 := Nat.le_trans (Nat.le_trans (Nat.le_of_eq O31.1.symm) O31.2.1) (Nat.le_of_eq g32.symm)
  have O32 := O31.ext E32
  have F_rating_b32 : Fld Z h32 b32 "com/example/rooted_kinds/rootedkinds/model/Rating" "rating" "I" (.int (0 : Int32)) := D32 (Or.inr (hw _ (List.mem_of_getElem? (i := 11) rfl))) (ty := .int) (by decide)
  refine Go.st (V' := T32.setTop (mkF m 40 #[.val (.int p0), .val (.int p1), .val (.int p2), .val (.int ra), .val (.int rb), .val (.ref b30), .unset, .unset, .unset, .unset, .unset, .unset, .unset, .unset] [(.ref b32)])) (fun t k => st32 t k) ?_
  refine Go.st (V' := T32.setTop (mkF m 43 #[.val (.int p0), .val (.int p1), .val (.int p2), .val (.int ra), .val (.int rb), .val (.ref b30), .unset, .unset, .unset, .unset, .unset, .unset, .unset, .unset] [(.int rb), (.ref b32), (.ref b32)])) (fun t k => ?_) ?_
  · refine XS.dup X32.here hx rfl (hb hby at_40) rfl rfl ?_
    show Steps p.tables e below (T32.setTop (mkF m 41 #[.val (.int p0), .val (.int p1), .val (.int p2), .val (.int ra), .val (.int rb), .val (.ref b30), .unset, .unset, .unset, .unset, .unset, .unset, .unset, .unset] [(.ref b32), (.ref b32)])) _
    refine XS.iload X32.here hx rfl (hb hby at_41) rfl  ?_
    show Steps p.tables e below (T32.setTop (mkF m 43 #[.val (.int p0), .val (.int p1), .val (.int p2), .val (.int ra), .val (.int rb), .val (.ref b30), .unset, .unset, .unset, .unset, .unset, .unset, .unset, .unset] [(.int rb), (.ref b32), (.ref b32)])) _
    exact k
  obtain ⟨_, _, ⟨T33, L33, k33, n33⟩, -, X33, ⟨Lc33, hQ33, l33, y33, z33⟩, st33⟩ := X32.specialBack hx (y := (⟨"com/example/rooted_kinds/rootedkinds/model/Rating", "<init>", "(I)V"⟩ : MethodName)) rfl hown (mvT hZ (hw _ (List.mem_of_getElem? (i := 4) rfl))) (mvT hZ (hw _ (List.mem_of_getElem? (i := 5) rfl))) (mvT hZ (hw _ (List.mem_of_getElem? (i := 6) rfl))) (by decide) (backOf (W := 1) (rm1 l Z a0 hw [] s_icache cl_icache s_lcache cl_lcache c_compact HW b32 rb (.int (0 : Int32)) h32 n0 O32 (own_100 hrg_rb) A32 F_rating_b32 g_b32) hZ (hw _ (List.mem_of_getElem? (i := 6) rfl)) (hw _ (List.mem_of_getElem? (i := 3) rfl)) (by decide) (by decide)) (g := (mkF m 43 #[.val (.int p0), .val (.int p1), .val (.int p2), .val (.int ra), .val (.int rb), .val (.ref b30), .unset, .unset, .unset, .unset, .unset, .unset, .unset, .unset] [(.int rb), (.ref b32), (.ref b32)])) rfl (by rw [hml]; rfl) (Steps.refl _) (a := b32) (argsL := [(.int rb)]) (rest := [(.ref b32)]) (lenOf own_pd94 rfl) rfl (by show 2 * 0 + _ ≤ _; exact Nat.le_of_eq rfl) (hb hby at_43) (fun _ _ => ⟨rfl, e32, (by decide : 2 + 0 ≤ _), (by decide : 2 + 0 ≤ _)⟩)
  dsimp only [Pt.U, Pt.locs, Pt.cells, Pt.slots] at X33 l33 y33 z33 st33 hQ33
  subst l33 y33 z33
  obtain ⟨rfl, N33q, K33, f33_0, f33_1⟩ := hQ33
  have N33 := Fr.app N31 N33q
  have O33 := O32.keep K33 (allS g_b32 all0)
  refine Go.st (V' := T33.setTop (mkF m 46 #[.val (.int p0), .val (.int p1), .val (.int p2), .val (.int ra), .val (.int rb), .val (.ref b30), .unset, .unset, .unset, .unset, .unset, .unset, .unset, .unset] [(.ref b32)])) (fun t k => st33.trans k) ?_
  refine Go.st (V' := T33.setTop (mkF m 55 #[.val (.int p0), .val (.int p1), .val (.int p2), .val (.int ra), .val (.int rb), .val (.ref b30), .val (.ref b32), .val (.int (((p2.toUInt32 >>> ((1 : Int32) &&& 31).toUInt32).toInt32) &&& (3 : Int32))), .unset, .unset, .unset, .unset, .unset, .unset] [])) (fun t k => ?_) ?_
  · refine XS.astore X33.here hx rfl (hb hby at_46) rfl rfl (l' := #[.val (.int p0), .val (.int p1), .val (.int p2), .val (.int ra), .val (.int rb), .val (.ref b30), .val (.ref b32), .unset, .unset, .unset, .unset, .unset, .unset, .unset]) rfl ?_
    show Steps p.tables e below (T33.setTop (mkF m 48 #[.val (.int p0), .val (.int p1), .val (.int p2), .val (.int ra), .val (.int rb), .val (.ref b30), .val (.ref b32), .unset, .unset, .unset, .unset, .unset, .unset, .unset] [])) _
    refine XS.iloadN X33.here hx rfl (hb hby at_48) rfl  ?_
    show Steps p.tables e below (T33.setTop (mkF m 49 #[.val (.int p0), .val (.int p1), .val (.int p2), .val (.int ra), .val (.int rb), .val (.ref b30), .val (.ref b32), .unset, .unset, .unset, .unset, .unset, .unset, .unset] [(.int p2)])) _
    refine XS.iconst X33.here hx rfl (hb hby at_49) ?_
    show Steps p.tables e below (T33.setTop (mkF m 50 #[.val (.int p0), .val (.int p1), .val (.int p2), .val (.int ra), .val (.int rb), .val (.ref b30), .val (.ref b32), .unset, .unset, .unset, .unset, .unset, .unset, .unset] [(.int (1 : Int32)), (.int p2)])) _
    refine XS.iushr X33.here hx rfl (hb hby at_50) rfl ?_
    show Steps p.tables e below (T33.setTop (mkF m 51 #[.val (.int p0), .val (.int p1), .val (.int p2), .val (.int ra), .val (.int rb), .val (.ref b30), .val (.ref b32), .unset, .unset, .unset, .unset, .unset, .unset, .unset] [(.int ((p2.toUInt32 >>> ((1 : Int32) &&& 31).toUInt32).toInt32))])) _
    refine XS.iconst X33.here hx rfl (hb hby at_51) ?_
    show Steps p.tables e below (T33.setTop (mkF m 52 #[.val (.int p0), .val (.int p1), .val (.int p2), .val (.int ra), .val (.int rb), .val (.ref b30), .val (.ref b32), .unset, .unset, .unset, .unset, .unset, .unset, .unset] [(.int (3 : Int32)), (.int ((p2.toUInt32 >>> ((1 : Int32) &&& 31).toUInt32).toInt32))])) _
    refine XS.iand X33.here hx rfl (hb hby at_52) rfl ?_
    show Steps p.tables e below (T33.setTop (mkF m 53 #[.val (.int p0), .val (.int p1), .val (.int p2), .val (.int ra), .val (.int rb), .val (.ref b30), .val (.ref b32), .unset, .unset, .unset, .unset, .unset, .unset, .unset] [(.int (((p2.toUInt32 >>> ((1 : Int32) &&& 31).toUInt32).toInt32) &&& (3 : Int32)))])) _
    refine XS.istore X33.here hx rfl (hb hby at_53) rfl (l' := #[.val (.int p0), .val (.int p1), .val (.int p2), .val (.int ra), .val (.int rb), .val (.ref b30), .val (.ref b32), .val (.int (((p2.toUInt32 >>> ((1 : Int32) &&& 31).toUInt32).toInt32) &&& (3 : Int32))), .unset, .unset, .unset, .unset, .unset, .unset]) rfl ?_
    show Steps p.tables e below (T33.setTop (mkF m 55 #[.val (.int p0), .val (.int p1), .val (.int p2), .val (.int ra), .val (.int rb), .val (.ref b30), .val (.ref b32), .val (.int (((p2.toUInt32 >>> ((1 : Int32) &&& 31).toUInt32).toInt32) &&& (3 : Int32))), .unset, .unset, .unset, .unset, .unset, .unset] [])) _
    exact k
  obtain ⟨kk, h_kk⟩ : ∃ z, z = (((p2.toUInt32 >>> ((1 : Int32) &&& 31).toUInt32).toInt32) &&& (3 : Int32)) := ⟨_, rfl⟩
  rw [← h_kk]
  refine Go.st (V' := T33.setTop (mkF m 57 #[.val (.int p0), .val (.int p1), .val (.int p2), .val (.int ra), .val (.int rb), .val (.ref b30), .val (.ref b32), .val (.int kk), .unset, .unset, .unset, .unset, .unset, .unset] [(.int kk)])) (fun t k => ?_) ?_
  · refine XS.iload X33.here hx rfl (hb hby at_55) rfl  ?_
    show Steps p.tables e below (T33.setTop (mkF m 57 #[.val (.int p0), .val (.int p1), .val (.int p2), .val (.int ra), .val (.int rb), .val (.ref b30), .val (.ref b32), .val (.int kk), .unset, .unset, .unset, .unset, .unset, .unset] [(.int kk)])) _
    exact k
  by_cases hc34 : kk = (0 : Int32)
  · refine Go.st (V' := T33.setTop (mkF m 107 #[.val (.int p0), .val (.int p1), .val (.int p2), .val (.int ra), .val (.int rb), .val (.ref b30), .val (.ref b32), .val (.int kk), .val .null, .unset, .unset, .unset, .unset, .unset] [(.int rb), (.int ra)])) (fun t k => ?_) ?_
    · refine XS.ifNo X33.here hx rfl (hb hby at_57) rfl ((if0 _ _).trans (teq hc34).2) ?_
      show Steps p.tables e below (T33.setTop (mkF m 60 #[.val (.int p0), .val (.int p1), .val (.int p2), .val (.int ra), .val (.int rb), .val (.ref b30), .val (.ref b32), .val (.int kk), .unset, .unset, .unset, .unset, .unset, .unset] [])) _
      refine XS.aconstNull X33.here hx rfl (hb hby at_60) ?_
      show Steps p.tables e below (T33.setTop (mkF m 61 #[.val (.int p0), .val (.int p1), .val (.int p2), .val (.int ra), .val (.int rb), .val (.ref b30), .val (.ref b32), .val (.int kk), .unset, .unset, .unset, .unset, .unset, .unset] [.null])) _
      refine XS.astore X33.here hx rfl (hb hby at_61) rfl rfl (l' := #[.val (.int p0), .val (.int p1), .val (.int p2), .val (.int ra), .val (.int rb), .val (.ref b30), .val (.ref b32), .val (.int kk), .val .null, .unset, .unset, .unset, .unset, .unset]) rfl ?_
      show Steps p.tables e below (T33.setTop (mkF m 63 #[.val (.int p0), .val (.int p1), .val (.int p2), .val (.int ra), .val (.int rb), .val (.ref b30), .val (.ref b32), .val (.int kk), .val .null, .unset, .unset, .unset, .unset, .unset] [])) _
      refine XS.goto X33.here hx rfl (pc0 := 63) (pc' := 104) rfl (hb hby at_63) (by decide) (by decide) ?_
      show Steps p.tables e below (T33.setTop (mkF m 104 #[.val (.int p0), .val (.int p1), .val (.int p2), .val (.int ra), .val (.int rb), .val (.ref b30), .val (.ref b32), .val (.int kk), .val .null, .unset, .unset, .unset, .unset, .unset] [])) _
      refine XS.iloadN X33.here hx rfl (hb hby at_104) rfl  ?_
      show Steps p.tables e below (T33.setTop (mkF m 105 #[.val (.int p0), .val (.int p1), .val (.int p2), .val (.int ra), .val (.int rb), .val (.ref b30), .val (.ref b32), .val (.int kk), .val .null, .unset, .unset, .unset, .unset, .unset] [(.int ra)])) _
      refine XS.iload X33.here hx rfl (hb hby at_105) rfl  ?_
      show Steps p.tables e below (T33.setTop (mkF m 107 #[.val (.int p0), .val (.int p1), .val (.int p2), .val (.int ra), .val (.int rb), .val (.ref b30), .val (.ref b32), .val (.int kk), .val .null, .unset, .unset, .unset, .unset, .unset] [(.int rb), (.int ra)])) _
      exact k
    by_cases hc35 : ra = rb
    · refine Go.st (V' := T33.setTop (mkF m 121 #[.val (.int p0), .val (.int p1), .val (.int p2), .val (.int ra), .val (.int rb), .val (.ref b30), .val (.ref b32), .val (.int kk), .val .null, .val (.int (1 : Int32)), .unset, .unset, .unset, .unset] [(.ref b32), (.ref b30)])) (fun t k => ?_) ?_
      · refine XS.icmpNo X33.here hx rfl (hb hby at_107) rfl (teq hc35).2 ?_
        show Steps p.tables e below (T33.setTop (mkF m 110 #[.val (.int p0), .val (.int p1), .val (.int p2), .val (.int ra), .val (.int rb), .val (.ref b30), .val (.ref b32), .val (.int kk), .val .null, .unset, .unset, .unset, .unset, .unset] [])) _
        refine XS.iconst X33.here hx rfl (hb hby at_110) ?_
        show Steps p.tables e below (T33.setTop (mkF m 111 #[.val (.int p0), .val (.int p1), .val (.int p2), .val (.int ra), .val (.int rb), .val (.ref b30), .val (.ref b32), .val (.int kk), .val .null, .unset, .unset, .unset, .unset, .unset] [(.int (1 : Int32))])) _
        refine XS.goto X33.here hx rfl (pc0 := 111) (pc' := 115) rfl (hb hby at_111) (by decide) (by decide) ?_
        show Steps p.tables e below (T33.setTop (mkF m 115 #[.val (.int p0), .val (.int p1), .val (.int p2), .val (.int ra), .val (.int rb), .val (.ref b30), .val (.ref b32), .val (.int kk), .val .null, .unset, .unset, .unset, .unset, .unset] [(.int (1 : Int32))])) _
        refine XS.istore X33.here hx rfl (hb hby at_115) rfl (l' := #[.val (.int p0), .val (.int p1), .val (.int p2), .val (.int ra), .val (.int rb), .val (.ref b30), .val (.ref b32), .val (.int kk), .val .null, .val (.int (1 : Int32)), .unset, .unset, .unset, .unset]) rfl ?_
        show Steps p.tables e below (T33.setTop (mkF m 117 #[.val (.int p0), .val (.int p1), .val (.int p2), .val (.int ra), .val (.int rb), .val (.ref b30), .val (.ref b32), .val (.int kk), .val .null, .val (.int (1 : Int32)), .unset, .unset, .unset, .unset] [])) _
        refine XS.aload X33.here hx rfl (hb hby at_117) rfl rfl ?_
        show Steps p.tables e below (T33.setTop (mkF m 119 #[.val (.int p0), .val (.int p1), .val (.int p2), .val (.int ra), .val (.int rb), .val (.ref b30), .val (.ref b32), .val (.int kk), .val .null, .val (.int (1 : Int32)), .unset, .unset, .unset, .unset] [(.ref b30)])) _
        refine XS.aload X33.here hx rfl (hb hby at_119) rfl rfl ?_
        show Steps p.tables e below (T33.setTop (mkF m 121 #[.val (.int p0), .val (.int p1), .val (.int p2), .val (.int ra), .val (.int rb), .val (.ref b30), .val (.ref b32), .val (.int kk), .val .null, .val (.int (1 : Int32)), .unset, .unset, .unset, .unset] [(.ref b32), (.ref b30)])) _
        exact k
      obtain ⟨cq36, kq36, q36a, q36b, q36c⟩ := isOf hZ rfl ((f31_1.ext E32).keep K33)
      obtain ⟨_, _, ⟨T36, L36, k36, n36⟩, -, X36, ⟨Lc36, hQ36, l36, y36, z36⟩, st36⟩ := X33.virtualBack hx (y := (⟨"com/example/rooted_kinds/rootedkinds/model/Rating", "equals", "(Ljava/lang/Object;)Z"⟩ : MethodName)) (z := (⟨"com/example/rooted_kinds/rootedkinds/model/Rating", "equals", "(Ljava/lang/Object;)Z"⟩ : MethodName)) hown (mvT hZ (hw _ (List.mem_of_getElem? (i := 19) rfl))) (mvT hZ (hw _ (List.mem_of_getElem? (i := 20) rfl))) (notFace_of_selects (args := #[]) (mvT hZ (hw _ (List.mem_of_getElem? (i := 22) rfl)))) (mvT hZ (hw _ (List.mem_of_getElem? (i := 22) rfl))) (mvT hZ (hw _ (List.mem_of_getElem? (i := 21) rfl))) (by decide) (backOf (W := 0) (rm4 l Z a0 hw [] s_icache cl_icache s_lcache cl_lcache c_compact HW b30 b32 ra rb T33.heap n0 O33 f33_1 ((f31_0.ext E32).keep K33 (ninS (Nat.ne_of_lt (Nat.lt_of_lt_of_le f31_1.lt (Nat.le_of_eq g32.symm))) nin0)) f33_0) hZ (hw _ (List.mem_of_getElem? (i := 23) rfl)) (hw _ (List.mem_of_getElem? (i := 3) rfl)) (by decide) (by decide)) q36a q36c (g := (mkF m 121 #[.val (.int p0), .val (.int p1), .val (.int p2), .val (.int ra), .val (.int rb), .val (.ref b30), .val (.ref b32), .val (.int kk), .val .null, .val (.int (1 : Int32)), .unset, .unset, .unset, .unset] [(.ref b32), (.ref b30)])) rfl (by rw [hml]; rfl) (Steps.refl _) (argsL := [(.ref b32)]) (rest := []) (lenOf own_pd95 rfl) rfl (by show 2 * 0 + _ ≤ _; exact Nat.le_of_eq rfl) (hb hby at_121) (fun _ _ => ⟨rfl, rfl, (by decide : 2 + 0 ≤ _), (by decide : 2 + 0 ≤ _)⟩)
      dsimp only [Pt.U, Pt.locs, Pt.cells, Pt.slots] at X36 l36 y36 z36 st36 hQ36
      subst l36 y36 z36
      obtain ⟨rfl, N36q, e36⟩ := hQ36
      have N36 := Fr.app N33 N36q
      refine Go.st (V' := T36.setTop (mkF m 124 #[.val (.int p0), .val (.int p1), .val (.int p2), .val (.int ra), .val (.int rb), .val (.ref b30), .val (.ref b32), .val (.int kk), .val .null, .val (.int (1 : Int32)), .unset, .unset, .unset, .unset] [(.int (f4 ra rb))])) (fun t k => st36.trans k) ?_
      have r37 : (f4 ra rb) = (1 : Int32) := by rw [f4, if_pos hc35]
      rw [r37]
      refine Go.st (V' := T36.setTop (mkF m 130 #[.val (.int p0), .val (.int p1), .val (.int p2), .val (.int ra), .val (.int rb), .val (.ref b30), .val (.ref b32), .val (.int kk), .val .null, .val (.int (1 : Int32)), .val (.int (1 : Int32)), .unset, .unset, .unset] [(.ref b30), (.ref b32)])) (fun t k => ?_) ?_
      · refine XS.istore X36.here hx rfl (hb hby at_124) rfl (l' := #[.val (.int p0), .val (.int p1), .val (.int p2), .val (.int ra), .val (.int rb), .val (.ref b30), .val (.ref b32), .val (.int kk), .val .null, .val (.int (1 : Int32)), .val (.int (1 : Int32)), .unset, .unset, .unset]) rfl ?_
        show Steps p.tables e below (T36.setTop (mkF m 126 #[.val (.int p0), .val (.int p1), .val (.int p2), .val (.int ra), .val (.int rb), .val (.ref b30), .val (.ref b32), .val (.int kk), .val .null, .val (.int (1 : Int32)), .val (.int (1 : Int32)), .unset, .unset, .unset] [])) _
        refine XS.aload X36.here hx rfl (hb hby at_126) rfl rfl ?_
        show Steps p.tables e below (T36.setTop (mkF m 128 #[.val (.int p0), .val (.int p1), .val (.int p2), .val (.int ra), .val (.int rb), .val (.ref b30), .val (.ref b32), .val (.int kk), .val .null, .val (.int (1 : Int32)), .val (.int (1 : Int32)), .unset, .unset, .unset] [(.ref b32)])) _
        refine XS.aload X36.here hx rfl (hb hby at_128) rfl rfl ?_
        show Steps p.tables e below (T36.setTop (mkF m 130 #[.val (.int p0), .val (.int p1), .val (.int p2), .val (.int ra), .val (.int rb), .val (.ref b30), .val (.ref b32), .val (.int kk), .val .null, .val (.int (1 : Int32)), .val (.int (1 : Int32)), .unset, .unset, .unset] [(.ref b30), (.ref b32)])) _
        exact k
      obtain ⟨cq38, kq38, q38a, q38b, q38c⟩ := isOf hZ e36 f33_1
      obtain ⟨_, _, ⟨T38, L38, k38, n38⟩, -, X38, ⟨Lc38, hQ38, l38, y38, z38⟩, st38⟩ := X36.virtualBack hx (y := (⟨"com/example/rooted_kinds/rootedkinds/model/Rating", "equals", "(Ljava/lang/Object;)Z"⟩ : MethodName)) (z := (⟨"com/example/rooted_kinds/rootedkinds/model/Rating", "equals", "(Ljava/lang/Object;)Z"⟩ : MethodName)) hown (mvT hZ (hw _ (List.mem_of_getElem? (i := 19) rfl))) (mvT hZ (hw _ (List.mem_of_getElem? (i := 20) rfl))) (notFace_of_selects (args := #[]) (mvT hZ (hw _ (List.mem_of_getElem? (i := 22) rfl)))) (mvT hZ (hw _ (List.mem_of_getElem? (i := 22) rfl))) (mvT hZ (hw _ (List.mem_of_getElem? (i := 21) rfl))) (by decide) (backOf (W := 0) (rm4 l Z a0 hw [] s_icache cl_icache s_lcache cl_lcache c_compact HW b32 b30 rb ra T33.heap n0 O33 ((f31_1.ext E32).keep K33) f33_0 ((f31_0.ext E32).keep K33 (ninS (Nat.ne_of_lt (Nat.lt_of_lt_of_le f31_1.lt (Nat.le_of_eq g32.symm))) nin0))) hZ (hw _ (List.mem_of_getElem? (i := 23) rfl)) (hw _ (List.mem_of_getElem? (i := 3) rfl)) (by decide) (by decide)) q38a q38c (g := (mkF m 130 #[.val (.int p0), .val (.int p1), .val (.int p2), .val (.int ra), .val (.int rb), .val (.ref b30), .val (.ref b32), .val (.int kk), .val .null, .val (.int (1 : Int32)), .val (.int (1 : Int32)), .unset, .unset, .unset] [(.ref b30), (.ref b32)])) rfl (by rw [hml]; rfl) (Steps.refl _) (argsL := [(.ref b30)]) (rest := []) (lenOf own_pd95 rfl) rfl (by show 2 * 0 + _ ≤ _; exact Nat.le_of_eq rfl) (hb hby at_130) (fun _ _ => ⟨rfl, e36, (by decide : 2 + 0 ≤ _), (by decide : 2 + 0 ≤ _)⟩)
      dsimp only [Pt.U, Pt.locs, Pt.cells, Pt.slots] at X38 l38 y38 z38 st38 hQ38
      subst l38 y38 z38
      obtain ⟨rfl, N38q, e38⟩ := hQ38
      have N38 := Fr.app N36 N38q
      refine Go.st (V' := T38.setTop (mkF m 133 #[.val (.int p0), .val (.int p1), .val (.int p2), .val (.int ra), .val (.int rb), .val (.ref b30), .val (.ref b32), .val (.int kk), .val .null, .val (.int (1 : Int32)), .val (.int (1 : Int32)), .unset, .unset, .unset] [(.int (f4 rb ra))])) (fun t k => st38.trans k) ?_
      have r39 : (f4 rb ra) = (1 : Int32) := by rw [f4, if_pos (Eq.symm hc35)]
      rw [r39]
      refine Go.st (V' := T38.setTop (mkF m 139 #[.val (.int p0), .val (.int p1), .val (.int p2), .val (.int ra), .val (.int rb), .val (.ref b30), .val (.ref b32), .val (.int kk), .val .null, .val (.int (1 : Int32)), .val (.int (1 : Int32)), .val (.int (1 : Int32)), .unset, .unset] [(.ref b30), (.ref b30)])) (fun t k => ?_) ?_
      · refine XS.istore X38.here hx rfl (hb hby at_133) rfl (l' := #[.val (.int p0), .val (.int p1), .val (.int p2), .val (.int ra), .val (.int rb), .val (.ref b30), .val (.ref b32), .val (.int kk), .val .null, .val (.int (1 : Int32)), .val (.int (1 : Int32)), .val (.int (1 : Int32)), .unset, .unset]) rfl ?_
        show Steps p.tables e below (T38.setTop (mkF m 135 #[.val (.int p0), .val (.int p1), .val (.int p2), .val (.int ra), .val (.int rb), .val (.ref b30), .val (.ref b32), .val (.int kk), .val .null, .val (.int (1 : Int32)), .val (.int (1 : Int32)), .val (.int (1 : Int32)), .unset, .unset] [])) _
        refine XS.aload X38.here hx rfl (hb hby at_135) rfl rfl ?_
        show Steps p.tables e below (T38.setTop (mkF m 137 #[.val (.int p0), .val (.int p1), .val (.int p2), .val (.int ra), .val (.int rb), .val (.ref b30), .val (.ref b32), .val (.int kk), .val .null, .val (.int (1 : Int32)), .val (.int (1 : Int32)), .val (.int (1 : Int32)), .unset, .unset] [(.ref b30)])) _
        refine XS.aload X38.here hx rfl (hb hby at_137) rfl rfl ?_
        show Steps p.tables e below (T38.setTop (mkF m 139 #[.val (.int p0), .val (.int p1), .val (.int p2), .val (.int ra), .val (.int rb), .val (.ref b30), .val (.ref b32), .val (.int kk), .val .null, .val (.int (1 : Int32)), .val (.int (1 : Int32)), .val (.int (1 : Int32)), .unset, .unset] [(.ref b30), (.ref b30)])) _
        exact k
      obtain ⟨cq40, kq40, q40a, q40b, q40c⟩ := isOf hZ e38 ((f31_1.ext E32).keep K33)
      obtain ⟨_, _, ⟨T40, L40, k40, n40⟩, -, X40, ⟨Lc40, hQ40, l40, y40, z40⟩, st40⟩ := X38.virtualBack hx (y := (⟨"com/example/rooted_kinds/rootedkinds/model/Rating", "equals", "(Ljava/lang/Object;)Z"⟩ : MethodName)) (z := (⟨"com/example/rooted_kinds/rootedkinds/model/Rating", "equals", "(Ljava/lang/Object;)Z"⟩ : MethodName)) hown (mvT hZ (hw _ (List.mem_of_getElem? (i := 19) rfl))) (mvT hZ (hw _ (List.mem_of_getElem? (i := 20) rfl))) (notFace_of_selects (args := #[]) (mvT hZ (hw _ (List.mem_of_getElem? (i := 22) rfl)))) (mvT hZ (hw _ (List.mem_of_getElem? (i := 22) rfl))) (mvT hZ (hw _ (List.mem_of_getElem? (i := 21) rfl))) (by decide) (backOf (W := 0) (rm4 l Z a0 hw [] s_icache cl_icache s_lcache cl_lcache c_compact HW b30 b30 ra ra T33.heap n0 O33 ((f31_1.ext E32).keep K33) ((f31_0.ext E32).keep K33 (ninS (Nat.ne_of_lt (Nat.lt_of_lt_of_le f31_1.lt (Nat.le_of_eq g32.symm))) nin0)) ((f31_0.ext E32).keep K33 (ninS (Nat.ne_of_lt (Nat.lt_of_lt_of_le f31_1.lt (Nat.le_of_eq g32.symm))) nin0))) hZ (hw _ (List.mem_of_getElem? (i := 23) rfl)) (hw _ (List.mem_of_getElem? (i := 3) rfl)) (by decide) (by decide)) q40a q40c (g := (mkF m 139 #[.val (.int p0), .val (.int p1), .val (.int p2), .val (.int ra), .val (.int rb), .val (.ref b30), .val (.ref b32), .val (.int kk), .val .null, .val (.int (1 : Int32)), .val (.int (1 : Int32)), .val (.int (1 : Int32)), .unset, .unset] [(.ref b30), (.ref b30)])) rfl (by rw [hml]; rfl) (Steps.refl _) (argsL := [(.ref b30)]) (rest := []) (lenOf own_pd95 rfl) rfl (by show 2 * 0 + _ ≤ _; exact Nat.le_of_eq rfl) (hb hby at_139) (fun _ _ => ⟨rfl, e38, (by decide : 2 + 0 ≤ _), (by decide : 2 + 0 ≤ _)⟩)
      dsimp only [Pt.U, Pt.locs, Pt.cells, Pt.slots] at X40 l40 y40 z40 st40 hQ40
      subst l40 y40 z40
      obtain ⟨rfl, N40q, e40⟩ := hQ40
      have N40 := Fr.app N38 N40q
      refine Go.st (V' := T40.setTop (mkF m 142 #[.val (.int p0), .val (.int p1), .val (.int p2), .val (.int ra), .val (.int rb), .val (.ref b30), .val (.ref b32), .val (.int kk), .val .null, .val (.int (1 : Int32)), .val (.int (1 : Int32)), .val (.int (1 : Int32)), .unset, .unset] [(.int (f4 ra ra))])) (fun t k => st40.trans k) ?_
      have r41 : (f4 ra ra) = (1 : Int32) := by rw [f4, if_pos (rfl : ra = ra)]
      rw [r41]
      refine Go.st (V' := T40.setTop (mkF m 148 #[.val (.int p0), .val (.int p1), .val (.int p2), .val (.int ra), .val (.int rb), .val (.ref b30), .val (.ref b32), .val (.int kk), .val .null, .val (.int (1 : Int32)), .val (.int (1 : Int32)), .val (.int (1 : Int32)), .val (.int (1 : Int32)), .unset] [.null, (.ref b30)])) (fun t k => ?_) ?_
      · refine XS.istore X40.here hx rfl (hb hby at_142) rfl (l' := #[.val (.int p0), .val (.int p1), .val (.int p2), .val (.int ra), .val (.int rb), .val (.ref b30), .val (.ref b32), .val (.int kk), .val .null, .val (.int (1 : Int32)), .val (.int (1 : Int32)), .val (.int (1 : Int32)), .val (.int (1 : Int32)), .unset]) rfl ?_
        show Steps p.tables e below (T40.setTop (mkF m 144 #[.val (.int p0), .val (.int p1), .val (.int p2), .val (.int ra), .val (.int rb), .val (.ref b30), .val (.ref b32), .val (.int kk), .val .null, .val (.int (1 : Int32)), .val (.int (1 : Int32)), .val (.int (1 : Int32)), .val (.int (1 : Int32)), .unset] [])) _
        refine XS.aload X40.here hx rfl (hb hby at_144) rfl rfl ?_
        show Steps p.tables e below (T40.setTop (mkF m 146 #[.val (.int p0), .val (.int p1), .val (.int p2), .val (.int ra), .val (.int rb), .val (.ref b30), .val (.ref b32), .val (.int kk), .val .null, .val (.int (1 : Int32)), .val (.int (1 : Int32)), .val (.int (1 : Int32)), .val (.int (1 : Int32)), .unset] [(.ref b30)])) _
        refine XS.aload X40.here hx rfl (hb hby at_146) rfl rfl ?_
        show Steps p.tables e below (T40.setTop (mkF m 148 #[.val (.int p0), .val (.int p1), .val (.int p2), .val (.int ra), .val (.int rb), .val (.ref b30), .val (.ref b32), .val (.int kk), .val .null, .val (.int (1 : Int32)), .val (.int (1 : Int32)), .val (.int (1 : Int32)), .val (.int (1 : Int32)), .unset] [.null, (.ref b30)])) _
        exact k
      obtain ⟨cq42, kq42, q42a, q42b, q42c⟩ := isOf hZ e40 ((f31_1.ext E32).keep K33)
      obtain ⟨_, _, ⟨T42, L42, k42, n42⟩, -, X42, ⟨Lc42, hQ42, l42, y42, z42⟩, st42⟩ := X40.virtualBack hx (y := (⟨"com/example/rooted_kinds/rootedkinds/model/Rating", "equals", "(Ljava/lang/Object;)Z"⟩ : MethodName)) (z := (⟨"com/example/rooted_kinds/rootedkinds/model/Rating", "equals", "(Ljava/lang/Object;)Z"⟩ : MethodName)) hown (mvT hZ (hw _ (List.mem_of_getElem? (i := 19) rfl))) (mvT hZ (hw _ (List.mem_of_getElem? (i := 20) rfl))) (notFace_of_selects (args := #[]) (mvT hZ (hw _ (List.mem_of_getElem? (i := 22) rfl)))) (mvT hZ (hw _ (List.mem_of_getElem? (i := 22) rfl))) (mvT hZ (hw _ (List.mem_of_getElem? (i := 21) rfl))) (by decide) (backOf (W := 0) (rm4n l Z a0 hw [] s_icache cl_icache s_lcache cl_lcache c_compact HW b30 T33.heap n0 O33) hZ (hw _ (List.mem_of_getElem? (i := 23) rfl)) (hw _ (List.mem_of_getElem? (i := 3) rfl)) (by decide) (by decide)) q42a q42c (g := (mkF m 148 #[.val (.int p0), .val (.int p1), .val (.int p2), .val (.int ra), .val (.int rb), .val (.ref b30), .val (.ref b32), .val (.int kk), .val .null, .val (.int (1 : Int32)), .val (.int (1 : Int32)), .val (.int (1 : Int32)), .val (.int (1 : Int32)), .unset] [.null, (.ref b30)])) rfl (by rw [hml]; rfl) (Steps.refl _) (argsL := [.null]) (rest := []) (lenOf own_pd95 rfl) rfl (by show 2 * 0 + _ ≤ _; exact Nat.le_of_eq rfl) (hb hby at_148) (fun _ _ => ⟨rfl, e40, (by decide : 2 + 0 ≤ _), (by decide : 2 + 0 ≤ _)⟩)
      dsimp only [Pt.U, Pt.locs, Pt.cells, Pt.slots] at X42 l42 y42 z42 st42 hQ42
      subst l42 y42 z42
      obtain ⟨rfl, N42q, e42⟩ := hQ42
      have N42 := Fr.app N40 N42q
      refine Go.st (V' := T42.setTop (mkF m 151 #[.val (.int p0), .val (.int p1), .val (.int p2), .val (.int ra), .val (.int rb), .val (.ref b30), .val (.ref b32), .val (.int kk), .val .null, .val (.int (1 : Int32)), .val (.int (1 : Int32)), .val (.int (1 : Int32)), .val (.int (1 : Int32)), .unset] [(.int (0 : Int32))])) (fun t k => st42.trans k) ?_
      refine Go.st (V' := T42.setTop (mkF m 182 #[.val (.int p0), .val (.int p1), .val (.int p2), .val (.int ra), .val (.int rb), .val (.ref b30), .val (.ref b32), .val (.int kk), .val .null, .val (.int (1 : Int32)), .val (.int (1 : Int32)), .val (.int (1 : Int32)), .val (.int (1 : Int32)), .val (.int (0 : Int32))] [(.int (1 : Int32))])) (fun t k => ?_) ?_
      · refine XS.istore X42.here hx rfl (hb hby at_151) rfl (l' := #[.val (.int p0), .val (.int p1), .val (.int p2), .val (.int ra), .val (.int rb), .val (.ref b30), .val (.ref b32), .val (.int kk), .val .null, .val (.int (1 : Int32)), .val (.int (1 : Int32)), .val (.int (1 : Int32)), .val (.int (1 : Int32)), .val (.int (0 : Int32))]) rfl ?_
        show Steps p.tables e below (T42.setTop (mkF m 153 #[.val (.int p0), .val (.int p1), .val (.int p2), .val (.int ra), .val (.int rb), .val (.ref b30), .val (.ref b32), .val (.int kk), .val .null, .val (.int (1 : Int32)), .val (.int (1 : Int32)), .val (.int (1 : Int32)), .val (.int (1 : Int32)), .val (.int (0 : Int32))] [])) _
        refine XS.iload X42.here hx rfl (hb hby at_153) rfl  ?_
        show Steps p.tables e below (T42.setTop (mkF m 155 #[.val (.int p0), .val (.int p1), .val (.int p2), .val (.int ra), .val (.int rb), .val (.ref b30), .val (.ref b32), .val (.int kk), .val .null, .val (.int (1 : Int32)), .val (.int (1 : Int32)), .val (.int (1 : Int32)), .val (.int (1 : Int32)), .val (.int (0 : Int32))] [(.int (1 : Int32))])) _
        refine XS.iload X42.here hx rfl (hb hby at_155) rfl  ?_
        show Steps p.tables e below (T42.setTop (mkF m 157 #[.val (.int p0), .val (.int p1), .val (.int p2), .val (.int ra), .val (.int rb), .val (.ref b30), .val (.ref b32), .val (.int kk), .val .null, .val (.int (1 : Int32)), .val (.int (1 : Int32)), .val (.int (1 : Int32)), .val (.int (1 : Int32)), .val (.int (0 : Int32))] [(.int (1 : Int32)), (.int (1 : Int32))])) _
        refine XS.icmpNo X42.here hx rfl (hb hby at_157) rfl (teq (by decide : ((1 : Int32) = (1 : Int32)))).2 ?_
        show Steps p.tables e below (T42.setTop (mkF m 160 #[.val (.int p0), .val (.int p1), .val (.int p2), .val (.int ra), .val (.int rb), .val (.ref b30), .val (.ref b32), .val (.int kk), .val .null, .val (.int (1 : Int32)), .val (.int (1 : Int32)), .val (.int (1 : Int32)), .val (.int (1 : Int32)), .val (.int (0 : Int32))] [])) _
        refine XS.iload X42.here hx rfl (hb hby at_160) rfl  ?_
        show Steps p.tables e below (T42.setTop (mkF m 162 #[.val (.int p0), .val (.int p1), .val (.int p2), .val (.int ra), .val (.int rb), .val (.ref b30), .val (.ref b32), .val (.int kk), .val .null, .val (.int (1 : Int32)), .val (.int (1 : Int32)), .val (.int (1 : Int32)), .val (.int (1 : Int32)), .val (.int (0 : Int32))] [(.int (1 : Int32))])) _
        refine XS.iload X42.here hx rfl (hb hby at_162) rfl  ?_
        show Steps p.tables e below (T42.setTop (mkF m 164 #[.val (.int p0), .val (.int p1), .val (.int p2), .val (.int ra), .val (.int rb), .val (.ref b30), .val (.ref b32), .val (.int kk), .val .null, .val (.int (1 : Int32)), .val (.int (1 : Int32)), .val (.int (1 : Int32)), .val (.int (1 : Int32)), .val (.int (0 : Int32))] [(.int (1 : Int32)), (.int (1 : Int32))])) _
        refine XS.icmpNo X42.here hx rfl (hb hby at_164) rfl (teq (by decide : ((1 : Int32) = (1 : Int32)))).2 ?_
        show Steps p.tables e below (T42.setTop (mkF m 167 #[.val (.int p0), .val (.int p1), .val (.int p2), .val (.int ra), .val (.int rb), .val (.ref b30), .val (.ref b32), .val (.int kk), .val .null, .val (.int (1 : Int32)), .val (.int (1 : Int32)), .val (.int (1 : Int32)), .val (.int (1 : Int32)), .val (.int (0 : Int32))] [])) _
        refine XS.iload X42.here hx rfl (hb hby at_167) rfl  ?_
        show Steps p.tables e below (T42.setTop (mkF m 169 #[.val (.int p0), .val (.int p1), .val (.int p2), .val (.int ra), .val (.int rb), .val (.ref b30), .val (.ref b32), .val (.int kk), .val .null, .val (.int (1 : Int32)), .val (.int (1 : Int32)), .val (.int (1 : Int32)), .val (.int (1 : Int32)), .val (.int (0 : Int32))] [(.int (1 : Int32))])) _
        refine XS.ifNo X42.here hx rfl (hb hby at_169) rfl ((if0 _ _).trans (feq (by decide : ¬ ((1 : Int32) = (0 : Int32)))).1) ?_
        show Steps p.tables e below (T42.setTop (mkF m 172 #[.val (.int p0), .val (.int p1), .val (.int p2), .val (.int ra), .val (.int rb), .val (.ref b30), .val (.ref b32), .val (.int kk), .val .null, .val (.int (1 : Int32)), .val (.int (1 : Int32)), .val (.int (1 : Int32)), .val (.int (1 : Int32)), .val (.int (0 : Int32))] [])) _
        refine XS.iload X42.here hx rfl (hb hby at_172) rfl  ?_
        show Steps p.tables e below (T42.setTop (mkF m 174 #[.val (.int p0), .val (.int p1), .val (.int p2), .val (.int ra), .val (.int rb), .val (.ref b30), .val (.ref b32), .val (.int kk), .val .null, .val (.int (1 : Int32)), .val (.int (1 : Int32)), .val (.int (1 : Int32)), .val (.int (1 : Int32)), .val (.int (0 : Int32))] [(.int (0 : Int32))])) _
        refine XS.ifNo X42.here hx rfl (hb hby at_174) rfl ((if0 _ _).trans (teq (by decide : ((0 : Int32) = (0 : Int32)))).2) ?_
        show Steps p.tables e below (T42.setTop (mkF m 177 #[.val (.int p0), .val (.int p1), .val (.int p2), .val (.int ra), .val (.int rb), .val (.ref b30), .val (.ref b32), .val (.int kk), .val .null, .val (.int (1 : Int32)), .val (.int (1 : Int32)), .val (.int (1 : Int32)), .val (.int (1 : Int32)), .val (.int (0 : Int32))] [])) _
        refine XS.iconst X42.here hx rfl (hb hby at_177) ?_
        show Steps p.tables e below (T42.setTop (mkF m 178 #[.val (.int p0), .val (.int p1), .val (.int p2), .val (.int ra), .val (.int rb), .val (.ref b30), .val (.ref b32), .val (.int kk), .val .null, .val (.int (1 : Int32)), .val (.int (1 : Int32)), .val (.int (1 : Int32)), .val (.int (1 : Int32)), .val (.int (0 : Int32))] [(.int (1 : Int32))])) _
        refine XS.goto X42.here hx rfl (pc0 := 178) (pc' := 182) rfl (hb hby at_178) (by decide) (by decide) ?_
        show Steps p.tables e below (T42.setTop (mkF m 182 #[.val (.int p0), .val (.int p1), .val (.int p2), .val (.int ra), .val (.int rb), .val (.ref b30), .val (.ref b32), .val (.int kk), .val .null, .val (.int (1 : Int32)), .val (.int (1 : Int32)), .val (.int (1 : Int32)), .val (.int (1 : Int32)), .val (.int (0 : Int32))] [(.int (1 : Int32))])) _
        exact k
      obtain ⟨fs, hr, hrun, hended, hW, hsame⟩ := X42.leave (v := some (.int (1 : Int32))) (fun h => by rw [Bd.returns] at h; cases h)
      refine Go.mk' ⟨_, _, retN X42 hx (t := .boolean) Bd.returns (by simp) (hb hby at_182) hr, hrun, hended, _, _, rfl, ?_, ⟨_, rfl⟩, hW, hsame.mono (by decide) (by decide)⟩
      show Q0 Z p0 p1 p2 h0 n0 _ T42.heap _
      rw [e42]
      exact ⟨rfl, N42⟩
    · refine Go.st (V' := T33.setTop (mkF m 121 #[.val (.int p0), .val (.int p1), .val (.int p2), .val (.int ra), .val (.int rb), .val (.ref b30), .val (.ref b32), .val (.int kk), .val .null, .val (.int (0 : Int32)), .unset, .unset, .unset, .unset] [(.ref b32), (.ref b30)])) (fun t k => ?_) ?_
      · refine XS.icmpYes X33.here hx rfl (pc0 := 107) (pc' := 114) rfl (hb hby at_107) rfl (feq hc35).2 (by decide) (by decide) ?_
        show Steps p.tables e below (T33.setTop (mkF m 114 #[.val (.int p0), .val (.int p1), .val (.int p2), .val (.int ra), .val (.int rb), .val (.ref b30), .val (.ref b32), .val (.int kk), .val .null, .unset, .unset, .unset, .unset, .unset] [])) _
        refine XS.iconst X33.here hx rfl (hb hby at_114) ?_
        show Steps p.tables e below (T33.setTop (mkF m 115 #[.val (.int p0), .val (.int p1), .val (.int p2), .val (.int ra), .val (.int rb), .val (.ref b30), .val (.ref b32), .val (.int kk), .val .null, .unset, .unset, .unset, .unset, .unset] [(.int (0 : Int32))])) _
        refine XS.istore X33.here hx rfl (hb hby at_115) rfl (l' := #[.val (.int p0), .val (.int p1), .val (.int p2), .val (.int ra), .val (.int rb), .val (.ref b30), .val (.ref b32), .val (.int kk), .val .null, .val (.int (0 : Int32)), .unset, .unset, .unset, .unset]) rfl ?_
        show Steps p.tables e below (T33.setTop (mkF m 117 #[.val (.int p0), .val (.int p1), .val (.int p2), .val (.int ra), .val (.int rb), .val (.ref b30), .val (.ref b32), .val (.int kk), .val .null, .val (.int (0 : Int32)), .unset, .unset, .unset, .unset] [])) _
        refine XS.aload X33.here hx rfl (hb hby at_117) rfl rfl ?_
        show Steps p.tables e below (T33.setTop (mkF m 119 #[.val (.int p0), .val (.int p1), .val (.int p2), .val (.int ra), .val (.int rb), .val (.ref b30), .val (.ref b32), .val (.int kk), .val .null, .val (.int (0 : Int32)), .unset, .unset, .unset, .unset] [(.ref b30)])) _
        refine XS.aload X33.here hx rfl (hb hby at_119) rfl rfl ?_
        show Steps p.tables e below (T33.setTop (mkF m 121 #[.val (.int p0), .val (.int p1), .val (.int p2), .val (.int ra), .val (.int rb), .val (.ref b30), .val (.ref b32), .val (.int kk), .val .null, .val (.int (0 : Int32)), .unset, .unset, .unset, .unset] [(.ref b32), (.ref b30)])) _
        exact k
      obtain ⟨cq43, kq43, q43a, q43b, q43c⟩ := isOf hZ rfl ((f31_1.ext E32).keep K33)
      obtain ⟨_, _, ⟨T43, L43, k43, n43⟩, -, X43, ⟨Lc43, hQ43, l43, y43, z43⟩, st43⟩ := X33.virtualBack hx (y := (⟨"com/example/rooted_kinds/rootedkinds/model/Rating", "equals", "(Ljava/lang/Object;)Z"⟩ : MethodName)) (z := (⟨"com/example/rooted_kinds/rootedkinds/model/Rating", "equals", "(Ljava/lang/Object;)Z"⟩ : MethodName)) hown (mvT hZ (hw _ (List.mem_of_getElem? (i := 19) rfl))) (mvT hZ (hw _ (List.mem_of_getElem? (i := 20) rfl))) (notFace_of_selects (args := #[]) (mvT hZ (hw _ (List.mem_of_getElem? (i := 22) rfl)))) (mvT hZ (hw _ (List.mem_of_getElem? (i := 22) rfl))) (mvT hZ (hw _ (List.mem_of_getElem? (i := 21) rfl))) (by decide) (backOf (W := 0) (rm4 l Z a0 hw [] s_icache cl_icache s_lcache cl_lcache c_compact HW b30 b32 ra rb T33.heap n0 O33 f33_1 ((f31_0.ext E32).keep K33 (ninS (Nat.ne_of_lt (Nat.lt_of_lt_of_le f31_1.lt (Nat.le_of_eq g32.symm))) nin0)) f33_0) hZ (hw _ (List.mem_of_getElem? (i := 23) rfl)) (hw _ (List.mem_of_getElem? (i := 3) rfl)) (by decide) (by decide)) q43a q43c (g := (mkF m 121 #[.val (.int p0), .val (.int p1), .val (.int p2), .val (.int ra), .val (.int rb), .val (.ref b30), .val (.ref b32), .val (.int kk), .val .null, .val (.int (0 : Int32)), .unset, .unset, .unset, .unset] [(.ref b32), (.ref b30)])) rfl (by rw [hml]; rfl) (Steps.refl _) (argsL := [(.ref b32)]) (rest := []) (lenOf own_pd95 rfl) rfl (by show 2 * 0 + _ ≤ _; exact Nat.le_of_eq rfl) (hb hby at_121) (fun _ _ => ⟨rfl, rfl, (by decide : 2 + 0 ≤ _), (by decide : 2 + 0 ≤ _)⟩)
      dsimp only [Pt.U, Pt.locs, Pt.cells, Pt.slots] at X43 l43 y43 z43 st43 hQ43
      subst l43 y43 z43
      obtain ⟨rfl, N43q, e43⟩ := hQ43
      have N43 := Fr.app N33 N43q
      refine Go.st (V' := T43.setTop (mkF m 124 #[.val (.int p0), .val (.int p1), .val (.int p2), .val (.int ra), .val (.int rb), .val (.ref b30), .val (.ref b32), .val (.int kk), .val .null, .val (.int (0 : Int32)), .unset, .unset, .unset, .unset] [(.int (f4 ra rb))])) (fun t k => st43.trans k) ?_
      have r44 : (f4 ra rb) = (0 : Int32) := by rw [f4, if_neg hc35]
      rw [r44]
      refine Go.st (V' := T43.setTop (mkF m 130 #[.val (.int p0), .val (.int p1), .val (.int p2), .val (.int ra), .val (.int rb), .val (.ref b30), .val (.ref b32), .val (.int kk), .val .null, .val (.int (0 : Int32)), .val (.int (0 : Int32)), .unset, .unset, .unset] [(.ref b30), (.ref b32)])) (fun t k => ?_) ?_
      · refine XS.istore X43.here hx rfl (hb hby at_124) rfl (l' := #[.val (.int p0), .val (.int p1), .val (.int p2), .val (.int ra), .val (.int rb), .val (.ref b30), .val (.ref b32), .val (.int kk), .val .null, .val (.int (0 : Int32)), .val (.int (0 : Int32)), .unset, .unset, .unset]) rfl ?_
        show Steps p.tables e below (T43.setTop (mkF m 126 #[.val (.int p0), .val (.int p1), .val (.int p2), .val (.int ra), .val (.int rb), .val (.ref b30), .val (.ref b32), .val (.int kk), .val .null, .val (.int (0 : Int32)), .val (.int (0 : Int32)), .unset, .unset, .unset] [])) _
        refine XS.aload X43.here hx rfl (hb hby at_126) rfl rfl ?_
        show Steps p.tables e below (T43.setTop (mkF m 128 #[.val (.int p0), .val (.int p1), .val (.int p2), .val (.int ra), .val (.int rb), .val (.ref b30), .val (.ref b32), .val (.int kk), .val .null, .val (.int (0 : Int32)), .val (.int (0 : Int32)), .unset, .unset, .unset] [(.ref b32)])) _
        refine XS.aload X43.here hx rfl (hb hby at_128) rfl rfl ?_
        show Steps p.tables e below (T43.setTop (mkF m 130 #[.val (.int p0), .val (.int p1), .val (.int p2), .val (.int ra), .val (.int rb), .val (.ref b30), .val (.ref b32), .val (.int kk), .val .null, .val (.int (0 : Int32)), .val (.int (0 : Int32)), .unset, .unset, .unset] [(.ref b30), (.ref b32)])) _
        exact k
      obtain ⟨cq45, kq45, q45a, q45b, q45c⟩ := isOf hZ e43 f33_1
      obtain ⟨_, _, ⟨T45, L45, k45, n45⟩, -, X45, ⟨Lc45, hQ45, l45, y45, z45⟩, st45⟩ := X43.virtualBack hx (y := (⟨"com/example/rooted_kinds/rootedkinds/model/Rating", "equals", "(Ljava/lang/Object;)Z"⟩ : MethodName)) (z := (⟨"com/example/rooted_kinds/rootedkinds/model/Rating", "equals", "(Ljava/lang/Object;)Z"⟩ : MethodName)) hown (mvT hZ (hw _ (List.mem_of_getElem? (i := 19) rfl))) (mvT hZ (hw _ (List.mem_of_getElem? (i := 20) rfl))) (notFace_of_selects (args := #[]) (mvT hZ (hw _ (List.mem_of_getElem? (i := 22) rfl)))) (mvT hZ (hw _ (List.mem_of_getElem? (i := 22) rfl))) (mvT hZ (hw _ (List.mem_of_getElem? (i := 21) rfl))) (by decide) (backOf (W := 0) (rm4 l Z a0 hw [] s_icache cl_icache s_lcache cl_lcache c_compact HW b32 b30 rb ra T33.heap n0 O33 ((f31_1.ext E32).keep K33) f33_0 ((f31_0.ext E32).keep K33 (ninS (Nat.ne_of_lt (Nat.lt_of_lt_of_le f31_1.lt (Nat.le_of_eq g32.symm))) nin0))) hZ (hw _ (List.mem_of_getElem? (i := 23) rfl)) (hw _ (List.mem_of_getElem? (i := 3) rfl)) (by decide) (by decide)) q45a q45c (g := (mkF m 130 #[.val (.int p0), .val (.int p1), .val (.int p2), .val (.int ra), .val (.int rb), .val (.ref b30), .val (.ref b32), .val (.int kk), .val .null, .val (.int (0 : Int32)), .val (.int (0 : Int32)), .unset, .unset, .unset] [(.ref b30), (.ref b32)])) rfl (by rw [hml]; rfl) (Steps.refl _) (argsL := [(.ref b30)]) (rest := []) (lenOf own_pd95 rfl) rfl (by show 2 * 0 + _ ≤ _; exact Nat.le_of_eq rfl) (hb hby at_130) (fun _ _ => ⟨rfl, e43, (by decide : 2 + 0 ≤ _), (by decide : 2 + 0 ≤ _)⟩)
      dsimp only [Pt.U, Pt.locs, Pt.cells, Pt.slots] at X45 l45 y45 z45 st45 hQ45
      subst l45 y45 z45
      obtain ⟨rfl, N45q, e45⟩ := hQ45
      have N45 := Fr.app N43 N45q
      refine Go.st (V' := T45.setTop (mkF m 133 #[.val (.int p0), .val (.int p1), .val (.int p2), .val (.int ra), .val (.int rb), .val (.ref b30), .val (.ref b32), .val (.int kk), .val .null, .val (.int (0 : Int32)), .val (.int (0 : Int32)), .unset, .unset, .unset] [(.int (f4 rb ra))])) (fun t k => st45.trans k) ?_
      have r46 : (f4 rb ra) = (0 : Int32) := by rw [f4, if_neg (Ne.symm hc35)]
      rw [r46]
      refine Go.st (V' := T45.setTop (mkF m 139 #[.val (.int p0), .val (.int p1), .val (.int p2), .val (.int ra), .val (.int rb), .val (.ref b30), .val (.ref b32), .val (.int kk), .val .null, .val (.int (0 : Int32)), .val (.int (0 : Int32)), .val (.int (0 : Int32)), .unset, .unset] [(.ref b30), (.ref b30)])) (fun t k => ?_) ?_
      · refine XS.istore X45.here hx rfl (hb hby at_133) rfl (l' := #[.val (.int p0), .val (.int p1), .val (.int p2), .val (.int ra), .val (.int rb), .val (.ref b30), .val (.ref b32), .val (.int kk), .val .null, .val (.int (0 : Int32)), .val (.int (0 : Int32)), .val (.int (0 : Int32)), .unset, .unset]) rfl ?_
        show Steps p.tables e below (T45.setTop (mkF m 135 #[.val (.int p0), .val (.int p1), .val (.int p2), .val (.int ra), .val (.int rb), .val (.ref b30), .val (.ref b32), .val (.int kk), .val .null, .val (.int (0 : Int32)), .val (.int (0 : Int32)), .val (.int (0 : Int32)), .unset, .unset] [])) _
        refine XS.aload X45.here hx rfl (hb hby at_135) rfl rfl ?_
        show Steps p.tables e below (T45.setTop (mkF m 137 #[.val (.int p0), .val (.int p1), .val (.int p2), .val (.int ra), .val (.int rb), .val (.ref b30), .val (.ref b32), .val (.int kk), .val .null, .val (.int (0 : Int32)), .val (.int (0 : Int32)), .val (.int (0 : Int32)), .unset, .unset] [(.ref b30)])) _
        refine XS.aload X45.here hx rfl (hb hby at_137) rfl rfl ?_
        show Steps p.tables e below (T45.setTop (mkF m 139 #[.val (.int p0), .val (.int p1), .val (.int p2), .val (.int ra), .val (.int rb), .val (.ref b30), .val (.ref b32), .val (.int kk), .val .null, .val (.int (0 : Int32)), .val (.int (0 : Int32)), .val (.int (0 : Int32)), .unset, .unset] [(.ref b30), (.ref b30)])) _
        exact k
      obtain ⟨cq47, kq47, q47a, q47b, q47c⟩ := isOf hZ e45 ((f31_1.ext E32).keep K33)
      obtain ⟨_, _, ⟨T47, L47, k47, n47⟩, -, X47, ⟨Lc47, hQ47, l47, y47, z47⟩, st47⟩ := X45.virtualBack hx (y := (⟨"com/example/rooted_kinds/rootedkinds/model/Rating", "equals", "(Ljava/lang/Object;)Z"⟩ : MethodName)) (z := (⟨"com/example/rooted_kinds/rootedkinds/model/Rating", "equals", "(Ljava/lang/Object;)Z"⟩ : MethodName)) hown (mvT hZ (hw _ (List.mem_of_getElem? (i := 19) rfl))) (mvT hZ (hw _ (List.mem_of_getElem? (i := 20) rfl))) (notFace_of_selects (args := #[]) (mvT hZ (hw _ (List.mem_of_getElem? (i := 22) rfl)))) (mvT hZ (hw _ (List.mem_of_getElem? (i := 22) rfl))) (mvT hZ (hw _ (List.mem_of_getElem? (i := 21) rfl))) (by decide) (backOf (W := 0) (rm4 l Z a0 hw [] s_icache cl_icache s_lcache cl_lcache c_compact HW b30 b30 ra ra T33.heap n0 O33 ((f31_1.ext E32).keep K33) ((f31_0.ext E32).keep K33 (ninS (Nat.ne_of_lt (Nat.lt_of_lt_of_le f31_1.lt (Nat.le_of_eq g32.symm))) nin0)) ((f31_0.ext E32).keep K33 (ninS (Nat.ne_of_lt (Nat.lt_of_lt_of_le f31_1.lt (Nat.le_of_eq g32.symm))) nin0))) hZ (hw _ (List.mem_of_getElem? (i := 23) rfl)) (hw _ (List.mem_of_getElem? (i := 3) rfl)) (by decide) (by decide)) q47a q47c (g := (mkF m 139 #[.val (.int p0), .val (.int p1), .val (.int p2), .val (.int ra), .val (.int rb), .val (.ref b30), .val (.ref b32), .val (.int kk), .val .null, .val (.int (0 : Int32)), .val (.int (0 : Int32)), .val (.int (0 : Int32)), .unset, .unset] [(.ref b30), (.ref b30)])) rfl (by rw [hml]; rfl) (Steps.refl _) (argsL := [(.ref b30)]) (rest := []) (lenOf own_pd95 rfl) rfl (by show 2 * 0 + _ ≤ _; exact Nat.le_of_eq rfl) (hb hby at_139) (fun _ _ => ⟨rfl, e45, (by decide : 2 + 0 ≤ _), (by decide : 2 + 0 ≤ _)⟩)
      dsimp only [Pt.U, Pt.locs, Pt.cells, Pt.slots] at X47 l47 y47 z47 st47 hQ47
      subst l47 y47 z47
      obtain ⟨rfl, N47q, e47⟩ := hQ47
      have N47 := Fr.app N45 N47q
      refine Go.st (V' := T47.setTop (mkF m 142 #[.val (.int p0), .val (.int p1), .val (.int p2), .val (.int ra), .val (.int rb), .val (.ref b30), .val (.ref b32), .val (.int kk), .val .null, .val (.int (0 : Int32)), .val (.int (0 : Int32)), .val (.int (0 : Int32)), .unset, .unset] [(.int (f4 ra ra))])) (fun t k => st47.trans k) ?_
      have r48 : (f4 ra ra) = (1 : Int32) := by rw [f4, if_pos (rfl : ra = ra)]
      rw [r48]
      refine Go.st (V' := T47.setTop (mkF m 148 #[.val (.int p0), .val (.int p1), .val (.int p2), .val (.int ra), .val (.int rb), .val (.ref b30), .val (.ref b32), .val (.int kk), .val .null, .val (.int (0 : Int32)), .val (.int (0 : Int32)), .val (.int (0 : Int32)), .val (.int (1 : Int32)), .unset] [.null, (.ref b30)])) (fun t k => ?_) ?_
      · refine XS.istore X47.here hx rfl (hb hby at_142) rfl (l' := #[.val (.int p0), .val (.int p1), .val (.int p2), .val (.int ra), .val (.int rb), .val (.ref b30), .val (.ref b32), .val (.int kk), .val .null, .val (.int (0 : Int32)), .val (.int (0 : Int32)), .val (.int (0 : Int32)), .val (.int (1 : Int32)), .unset]) rfl ?_
        show Steps p.tables e below (T47.setTop (mkF m 144 #[.val (.int p0), .val (.int p1), .val (.int p2), .val (.int ra), .val (.int rb), .val (.ref b30), .val (.ref b32), .val (.int kk), .val .null, .val (.int (0 : Int32)), .val (.int (0 : Int32)), .val (.int (0 : Int32)), .val (.int (1 : Int32)), .unset] [])) _
        refine XS.aload X47.here hx rfl (hb hby at_144) rfl rfl ?_
        show Steps p.tables e below (T47.setTop (mkF m 146 #[.val (.int p0), .val (.int p1), .val (.int p2), .val (.int ra), .val (.int rb), .val (.ref b30), .val (.ref b32), .val (.int kk), .val .null, .val (.int (0 : Int32)), .val (.int (0 : Int32)), .val (.int (0 : Int32)), .val (.int (1 : Int32)), .unset] [(.ref b30)])) _
        refine XS.aload X47.here hx rfl (hb hby at_146) rfl rfl ?_
        show Steps p.tables e below (T47.setTop (mkF m 148 #[.val (.int p0), .val (.int p1), .val (.int p2), .val (.int ra), .val (.int rb), .val (.ref b30), .val (.ref b32), .val (.int kk), .val .null, .val (.int (0 : Int32)), .val (.int (0 : Int32)), .val (.int (0 : Int32)), .val (.int (1 : Int32)), .unset] [.null, (.ref b30)])) _
        exact k
      obtain ⟨cq49, kq49, q49a, q49b, q49c⟩ := isOf hZ e47 ((f31_1.ext E32).keep K33)
      obtain ⟨_, _, ⟨T49, L49, k49, n49⟩, -, X49, ⟨Lc49, hQ49, l49, y49, z49⟩, st49⟩ := X47.virtualBack hx (y := (⟨"com/example/rooted_kinds/rootedkinds/model/Rating", "equals", "(Ljava/lang/Object;)Z"⟩ : MethodName)) (z := (⟨"com/example/rooted_kinds/rootedkinds/model/Rating", "equals", "(Ljava/lang/Object;)Z"⟩ : MethodName)) hown (mvT hZ (hw _ (List.mem_of_getElem? (i := 19) rfl))) (mvT hZ (hw _ (List.mem_of_getElem? (i := 20) rfl))) (notFace_of_selects (args := #[]) (mvT hZ (hw _ (List.mem_of_getElem? (i := 22) rfl)))) (mvT hZ (hw _ (List.mem_of_getElem? (i := 22) rfl))) (mvT hZ (hw _ (List.mem_of_getElem? (i := 21) rfl))) (by decide) (backOf (W := 0) (rm4n l Z a0 hw [] s_icache cl_icache s_lcache cl_lcache c_compact HW b30 T33.heap n0 O33) hZ (hw _ (List.mem_of_getElem? (i := 23) rfl)) (hw _ (List.mem_of_getElem? (i := 3) rfl)) (by decide) (by decide)) q49a q49c (g := (mkF m 148 #[.val (.int p0), .val (.int p1), .val (.int p2), .val (.int ra), .val (.int rb), .val (.ref b30), .val (.ref b32), .val (.int kk), .val .null, .val (.int (0 : Int32)), .val (.int (0 : Int32)), .val (.int (0 : Int32)), .val (.int (1 : Int32)), .unset] [.null, (.ref b30)])) rfl (by rw [hml]; rfl) (Steps.refl _) (argsL := [.null]) (rest := []) (lenOf own_pd95 rfl) rfl (by show 2 * 0 + _ ≤ _; exact Nat.le_of_eq rfl) (hb hby at_148) (fun _ _ => ⟨rfl, e47, (by decide : 2 + 0 ≤ _), (by decide : 2 + 0 ≤ _)⟩)
      dsimp only [Pt.U, Pt.locs, Pt.cells, Pt.slots] at X49 l49 y49 z49 st49 hQ49
      subst l49 y49 z49
      obtain ⟨rfl, N49q, e49⟩ := hQ49
      have N49 := Fr.app N47 N49q
      refine Go.st (V' := T49.setTop (mkF m 151 #[.val (.int p0), .val (.int p1), .val (.int p2), .val (.int ra), .val (.int rb), .val (.ref b30), .val (.ref b32), .val (.int kk), .val .null, .val (.int (0 : Int32)), .val (.int (0 : Int32)), .val (.int (0 : Int32)), .val (.int (1 : Int32)), .unset] [(.int (0 : Int32))])) (fun t k => st49.trans k) ?_
      refine Go.st (V' := T49.setTop (mkF m 182 #[.val (.int p0), .val (.int p1), .val (.int p2), .val (.int ra), .val (.int rb), .val (.ref b30), .val (.ref b32), .val (.int kk), .val .null, .val (.int (0 : Int32)), .val (.int (0 : Int32)), .val (.int (0 : Int32)), .val (.int (1 : Int32)), .val (.int (0 : Int32))] [(.int (1 : Int32))])) (fun t k => ?_) ?_
      · refine XS.istore X49.here hx rfl (hb hby at_151) rfl (l' := #[.val (.int p0), .val (.int p1), .val (.int p2), .val (.int ra), .val (.int rb), .val (.ref b30), .val (.ref b32), .val (.int kk), .val .null, .val (.int (0 : Int32)), .val (.int (0 : Int32)), .val (.int (0 : Int32)), .val (.int (1 : Int32)), .val (.int (0 : Int32))]) rfl ?_
        show Steps p.tables e below (T49.setTop (mkF m 153 #[.val (.int p0), .val (.int p1), .val (.int p2), .val (.int ra), .val (.int rb), .val (.ref b30), .val (.ref b32), .val (.int kk), .val .null, .val (.int (0 : Int32)), .val (.int (0 : Int32)), .val (.int (0 : Int32)), .val (.int (1 : Int32)), .val (.int (0 : Int32))] [])) _
        refine XS.iload X49.here hx rfl (hb hby at_153) rfl  ?_
        show Steps p.tables e below (T49.setTop (mkF m 155 #[.val (.int p0), .val (.int p1), .val (.int p2), .val (.int ra), .val (.int rb), .val (.ref b30), .val (.ref b32), .val (.int kk), .val .null, .val (.int (0 : Int32)), .val (.int (0 : Int32)), .val (.int (0 : Int32)), .val (.int (1 : Int32)), .val (.int (0 : Int32))] [(.int (0 : Int32))])) _
        refine XS.iload X49.here hx rfl (hb hby at_155) rfl  ?_
        show Steps p.tables e below (T49.setTop (mkF m 157 #[.val (.int p0), .val (.int p1), .val (.int p2), .val (.int ra), .val (.int rb), .val (.ref b30), .val (.ref b32), .val (.int kk), .val .null, .val (.int (0 : Int32)), .val (.int (0 : Int32)), .val (.int (0 : Int32)), .val (.int (1 : Int32)), .val (.int (0 : Int32))] [(.int (0 : Int32)), (.int (0 : Int32))])) _
        refine XS.icmpNo X49.here hx rfl (hb hby at_157) rfl (teq (by decide : ((0 : Int32) = (0 : Int32)))).2 ?_
        show Steps p.tables e below (T49.setTop (mkF m 160 #[.val (.int p0), .val (.int p1), .val (.int p2), .val (.int ra), .val (.int rb), .val (.ref b30), .val (.ref b32), .val (.int kk), .val .null, .val (.int (0 : Int32)), .val (.int (0 : Int32)), .val (.int (0 : Int32)), .val (.int (1 : Int32)), .val (.int (0 : Int32))] [])) _
        refine XS.iload X49.here hx rfl (hb hby at_160) rfl  ?_
        show Steps p.tables e below (T49.setTop (mkF m 162 #[.val (.int p0), .val (.int p1), .val (.int p2), .val (.int ra), .val (.int rb), .val (.ref b30), .val (.ref b32), .val (.int kk), .val .null, .val (.int (0 : Int32)), .val (.int (0 : Int32)), .val (.int (0 : Int32)), .val (.int (1 : Int32)), .val (.int (0 : Int32))] [(.int (0 : Int32))])) _
        refine XS.iload X49.here hx rfl (hb hby at_162) rfl  ?_
        show Steps p.tables e below (T49.setTop (mkF m 164 #[.val (.int p0), .val (.int p1), .val (.int p2), .val (.int ra), .val (.int rb), .val (.ref b30), .val (.ref b32), .val (.int kk), .val .null, .val (.int (0 : Int32)), .val (.int (0 : Int32)), .val (.int (0 : Int32)), .val (.int (1 : Int32)), .val (.int (0 : Int32))] [(.int (0 : Int32)), (.int (0 : Int32))])) _
        refine XS.icmpNo X49.here hx rfl (hb hby at_164) rfl (teq (by decide : ((0 : Int32) = (0 : Int32)))).2 ?_
        show Steps p.tables e below (T49.setTop (mkF m 167 #[.val (.int p0), .val (.int p1), .val (.int p2), .val (.int ra), .val (.int rb), .val (.ref b30), .val (.ref b32), .val (.int kk), .val .null, .val (.int (0 : Int32)), .val (.int (0 : Int32)), .val (.int (0 : Int32)), .val (.int (1 : Int32)), .val (.int (0 : Int32))] [])) _
        refine XS.iload X49.here hx rfl (hb hby at_167) rfl  ?_
        show Steps p.tables e below (T49.setTop (mkF m 169 #[.val (.int p0), .val (.int p1), .val (.int p2), .val (.int ra), .val (.int rb), .val (.ref b30), .val (.ref b32), .val (.int kk), .val .null, .val (.int (0 : Int32)), .val (.int (0 : Int32)), .val (.int (0 : Int32)), .val (.int (1 : Int32)), .val (.int (0 : Int32))] [(.int (1 : Int32))])) _
        refine XS.ifNo X49.here hx rfl (hb hby at_169) rfl ((if0 _ _).trans (feq (by decide : ¬ ((1 : Int32) = (0 : Int32)))).1) ?_
        show Steps p.tables e below (T49.setTop (mkF m 172 #[.val (.int p0), .val (.int p1), .val (.int p2), .val (.int ra), .val (.int rb), .val (.ref b30), .val (.ref b32), .val (.int kk), .val .null, .val (.int (0 : Int32)), .val (.int (0 : Int32)), .val (.int (0 : Int32)), .val (.int (1 : Int32)), .val (.int (0 : Int32))] [])) _
        refine XS.iload X49.here hx rfl (hb hby at_172) rfl  ?_
        show Steps p.tables e below (T49.setTop (mkF m 174 #[.val (.int p0), .val (.int p1), .val (.int p2), .val (.int ra), .val (.int rb), .val (.ref b30), .val (.ref b32), .val (.int kk), .val .null, .val (.int (0 : Int32)), .val (.int (0 : Int32)), .val (.int (0 : Int32)), .val (.int (1 : Int32)), .val (.int (0 : Int32))] [(.int (0 : Int32))])) _
        refine XS.ifNo X49.here hx rfl (hb hby at_174) rfl ((if0 _ _).trans (teq (by decide : ((0 : Int32) = (0 : Int32)))).2) ?_
        show Steps p.tables e below (T49.setTop (mkF m 177 #[.val (.int p0), .val (.int p1), .val (.int p2), .val (.int ra), .val (.int rb), .val (.ref b30), .val (.ref b32), .val (.int kk), .val .null, .val (.int (0 : Int32)), .val (.int (0 : Int32)), .val (.int (0 : Int32)), .val (.int (1 : Int32)), .val (.int (0 : Int32))] [])) _
        refine XS.iconst X49.here hx rfl (hb hby at_177) ?_
        show Steps p.tables e below (T49.setTop (mkF m 178 #[.val (.int p0), .val (.int p1), .val (.int p2), .val (.int ra), .val (.int rb), .val (.ref b30), .val (.ref b32), .val (.int kk), .val .null, .val (.int (0 : Int32)), .val (.int (0 : Int32)), .val (.int (0 : Int32)), .val (.int (1 : Int32)), .val (.int (0 : Int32))] [(.int (1 : Int32))])) _
        refine XS.goto X49.here hx rfl (pc0 := 178) (pc' := 182) rfl (hb hby at_178) (by decide) (by decide) ?_
        show Steps p.tables e below (T49.setTop (mkF m 182 #[.val (.int p0), .val (.int p1), .val (.int p2), .val (.int ra), .val (.int rb), .val (.ref b30), .val (.ref b32), .val (.int kk), .val .null, .val (.int (0 : Int32)), .val (.int (0 : Int32)), .val (.int (0 : Int32)), .val (.int (1 : Int32)), .val (.int (0 : Int32))] [(.int (1 : Int32))])) _
        exact k
      obtain ⟨fs, hr, hrun, hended, hW, hsame⟩ := X49.leave (v := some (.int (1 : Int32))) (fun h => by rw [Bd.returns] at h; cases h)
      refine Go.mk' ⟨_, _, retN X49 hx (t := .boolean) Bd.returns (by simp) (hb hby at_182) hr, hrun, hended, _, _, rfl, ?_, ⟨_, rfl⟩, hW, hsame.mono (by decide) (by decide)⟩
      show Q0 Z p0 p1 p2 h0 n0 _ T49.heap _
      rw [e49]
      exact ⟨rfl, N49⟩
  · refine Go.st (V' := T33.setTop (mkF m 69 #[.val (.int p0), .val (.int p1), .val (.int p2), .val (.int ra), .val (.int rb), .val (.ref b30), .val (.ref b32), .val (.int kk), .unset, .unset, .unset, .unset, .unset, .unset] [(.int (1 : Int32)), (.int kk)])) (fun t k => ?_) ?_
    · refine XS.ifYes X33.here hx rfl (pc0 := 57) (pc' := 66) rfl (hb hby at_57) rfl ((if0 _ _).trans (feq hc34).2) (by decide) (by decide) ?_
      show Steps p.tables e below (T33.setTop (mkF m 66 #[.val (.int p0), .val (.int p1), .val (.int p2), .val (.int ra), .val (.int rb), .val (.ref b30), .val (.ref b32), .val (.int kk), .unset, .unset, .unset, .unset, .unset, .unset] [])) _
      refine XS.iload X33.here hx rfl (hb hby at_66) rfl  ?_
      show Steps p.tables e below (T33.setTop (mkF m 68 #[.val (.int p0), .val (.int p1), .val (.int p2), .val (.int ra), .val (.int rb), .val (.ref b30), .val (.ref b32), .val (.int kk), .unset, .unset, .unset, .unset, .unset, .unset] [(.int kk)])) _
      refine XS.iconst X33.here hx rfl (hb hby at_68) ?_
      show Steps p.tables e below (T33.setTop (mkF m 69 #[.val (.int p0), .val (.int p1), .val (.int p2), .val (.int ra), .val (.int rb), .val (.ref b30), .val (.ref b32), .val (.int kk), .unset, .unset, .unset, .unset, .unset, .unset] [(.int (1 : Int32)), (.int kk)])) _
      exact k
    by_cases hc50 : kk = (1 : Int32)
    · refine Go.st (V' := T33.setTop (mkF m 73 #[.val (.int p0), .val (.int p1), .val (.int p2), .val (.int ra), .val (.int rb), .val (.ref b30), .val (.ref b32), .val (.int kk), .unset, .unset, .unset, .unset, .unset, .unset] [(.int ra)])) (fun t k => ?_) ?_
      · refine XS.icmpNo X33.here hx rfl (hb hby at_69) rfl (teq hc50).2 ?_
        show Steps p.tables e below (T33.setTop (mkF m 72 #[.val (.int p0), .val (.int p1), .val (.int p2), .val (.int ra), .val (.int rb), .val (.ref b30), .val (.ref b32), .val (.int kk), .unset, .unset, .unset, .unset, .unset, .unset] [])) _
        refine XS.iloadN X33.here hx rfl (hb hby at_72) rfl  ?_
        show Steps p.tables e below (T33.setTop (mkF m 73 #[.val (.int p0), .val (.int p1), .val (.int p2), .val (.int ra), .val (.int rb), .val (.ref b30), .val (.ref b32), .val (.int kk), .unset, .unset, .unset, .unset, .unset, .unset] [(.int ra)])) _
        exact k
      obtain ⟨_, _, ⟨T51, L51, k51, n51⟩, -, X51, ⟨Lc51, hQ51, l51, y51, z51⟩, st51⟩ := Jvm.LawKit.callS X33 hx (y := (⟨"java/lang/Integer", "valueOf", "(I)Ljava/lang/Integer;"⟩ : MethodName)) hown (mvT hZ (hw _ (List.mem_of_getElem? (i := 12) rfl))) (mvT hZ (hw _ (List.mem_of_getElem? (i := 13) rfl))) (mvT hZ (hw _ (List.mem_of_getElem? (i := 14) rfl))) (mvT hZ (hw _ (List.mem_of_getElem? (i := 15) rfl))) (by decide) (backOf (W := 0) (rm3 l Z a0 hw [] s_icache cl_icache s_lcache cl_lcache c_compact HW ra T33.heap n0 O33 (own_100 hrg_ra)) hZ (hw _ (List.mem_of_getElem? (i := 15) rfl)) (hw _ (List.mem_of_getElem? (i := 14) rfl)) (by decide) (by decide)) (g := (mkF m 73 #[.val (.int p0), .val (.int p1), .val (.int p2), .val (.int ra), .val (.int rb), .val (.ref b30), .val (.ref b32), .val (.int kk), .unset, .unset, .unset, .unset, .unset, .unset] [(.int ra)])) rfl (by rw [hml]; rfl) (argsL := [(.int ra)]) (rest := []) (lenOf own_pd96 rfl) rfl (by show 2 * 0 + _ ≤ _; exact Nat.le_of_eq rfl) (hb hby at_73) (fun _ _ => ⟨rfl, rfl, (by decide : 2 + 0 ≤ _), (by decide : 2 + 0 ≤ _)⟩)
      dsimp only [Pt.U, Pt.locs, Pt.cells, Pt.slots] at X51 l51 y51 z51 st51 hQ51
      subst l51 y51 z51
      obtain ⟨bx51, rfl, N51q, K51, Eb51⟩ := hQ51
      have N51 := Fr.app N33 N51q
      have O51 := O33.keep K51 all0
      refine Go.st (V' := T51.setTop (mkF m 76 #[.val (.int p0), .val (.int p1), .val (.int p2), .val (.int ra), .val (.int rb), .val (.ref b30), .val (.ref b32), .val (.int kk), .unset, .unset, .unset, .unset, .unset, .unset] [(.ref bx51)])) (fun t k => st51 t k) ?_
      refine Go.st (V' := T51.setTop (mkF m 107 #[.val (.int p0), .val (.int p1), .val (.int p2), .val (.int ra), .val (.int rb), .val (.ref b30), .val (.ref b32), .val (.int kk), .val (.ref bx51), .unset, .unset, .unset, .unset, .unset] [(.int rb), (.int ra)])) (fun t k => ?_) ?_
      · refine XS.astore X51.here hx rfl (hb hby at_76) rfl rfl (l' := #[.val (.int p0), .val (.int p1), .val (.int p2), .val (.int ra), .val (.int rb), .val (.ref b30), .val (.ref b32), .val (.int kk), .val (.ref bx51), .unset, .unset, .unset, .unset, .unset]) rfl ?_
        show Steps p.tables e below (T51.setTop (mkF m 78 #[.val (.int p0), .val (.int p1), .val (.int p2), .val (.int ra), .val (.int rb), .val (.ref b30), .val (.ref b32), .val (.int kk), .val (.ref bx51), .unset, .unset, .unset, .unset, .unset] [])) _
        refine XS.goto X51.here hx rfl (pc0 := 78) (pc' := 104) rfl (hb hby at_78) (by decide) (by decide) ?_
        show Steps p.tables e below (T51.setTop (mkF m 104 #[.val (.int p0), .val (.int p1), .val (.int p2), .val (.int ra), .val (.int rb), .val (.ref b30), .val (.ref b32), .val (.int kk), .val (.ref bx51), .unset, .unset, .unset, .unset, .unset] [])) _
        refine XS.iloadN X51.here hx rfl (hb hby at_104) rfl  ?_
        show Steps p.tables e below (T51.setTop (mkF m 105 #[.val (.int p0), .val (.int p1), .val (.int p2), .val (.int ra), .val (.int rb), .val (.ref b30), .val (.ref b32), .val (.int kk), .val (.ref bx51), .unset, .unset, .unset, .unset, .unset] [(.int ra)])) _
        refine XS.iload X51.here hx rfl (hb hby at_105) rfl  ?_
        show Steps p.tables e below (T51.setTop (mkF m 107 #[.val (.int p0), .val (.int p1), .val (.int p2), .val (.int ra), .val (.int rb), .val (.ref b30), .val (.ref b32), .val (.int kk), .val (.ref bx51), .unset, .unset, .unset, .unset, .unset] [(.int rb), (.int ra)])) _
        exact k
      by_cases hc52 : ra = rb
      · refine Go.st (V' := T51.setTop (mkF m 121 #[.val (.int p0), .val (.int p1), .val (.int p2), .val (.int ra), .val (.int rb), .val (.ref b30), .val (.ref b32), .val (.int kk), .val (.ref bx51), .val (.int (1 : Int32)), .unset, .unset, .unset, .unset] [(.ref b32), (.ref b30)])) (fun t k => ?_) ?_
        · refine XS.icmpNo X51.here hx rfl (hb hby at_107) rfl (teq hc52).2 ?_
          show Steps p.tables e below (T51.setTop (mkF m 110 #[.val (.int p0), .val (.int p1), .val (.int p2), .val (.int ra), .val (.int rb), .val (.ref b30), .val (.ref b32), .val (.int kk), .val (.ref bx51), .unset, .unset, .unset, .unset, .unset] [])) _
          refine XS.iconst X51.here hx rfl (hb hby at_110) ?_
          show Steps p.tables e below (T51.setTop (mkF m 111 #[.val (.int p0), .val (.int p1), .val (.int p2), .val (.int ra), .val (.int rb), .val (.ref b30), .val (.ref b32), .val (.int kk), .val (.ref bx51), .unset, .unset, .unset, .unset, .unset] [(.int (1 : Int32))])) _
          refine XS.goto X51.here hx rfl (pc0 := 111) (pc' := 115) rfl (hb hby at_111) (by decide) (by decide) ?_
          show Steps p.tables e below (T51.setTop (mkF m 115 #[.val (.int p0), .val (.int p1), .val (.int p2), .val (.int ra), .val (.int rb), .val (.ref b30), .val (.ref b32), .val (.int kk), .val (.ref bx51), .unset, .unset, .unset, .unset, .unset] [(.int (1 : Int32))])) _
          refine XS.istore X51.here hx rfl (hb hby at_115) rfl (l' := #[.val (.int p0), .val (.int p1), .val (.int p2), .val (.int ra), .val (.int rb), .val (.ref b30), .val (.ref b32), .val (.int kk), .val (.ref bx51), .val (.int (1 : Int32)), .unset, .unset, .unset, .unset]) rfl ?_
          show Steps p.tables e below (T51.setTop (mkF m 117 #[.val (.int p0), .val (.int p1), .val (.int p2), .val (.int ra), .val (.int rb), .val (.ref b30), .val (.ref b32), .val (.int kk), .val (.ref bx51), .val (.int (1 : Int32)), .unset, .unset, .unset, .unset] [])) _
          refine XS.aload X51.here hx rfl (hb hby at_117) rfl rfl ?_
          show Steps p.tables e below (T51.setTop (mkF m 119 #[.val (.int p0), .val (.int p1), .val (.int p2), .val (.int ra), .val (.int rb), .val (.ref b30), .val (.ref b32), .val (.int kk), .val (.ref bx51), .val (.int (1 : Int32)), .unset, .unset, .unset, .unset] [(.ref b30)])) _
          refine XS.aload X51.here hx rfl (hb hby at_119) rfl rfl ?_
          show Steps p.tables e below (T51.setTop (mkF m 121 #[.val (.int p0), .val (.int p1), .val (.int p2), .val (.int ra), .val (.int rb), .val (.ref b30), .val (.ref b32), .val (.int kk), .val (.ref bx51), .val (.int (1 : Int32)), .unset, .unset, .unset, .unset] [(.ref b32), (.ref b30)])) _
          exact k
        obtain ⟨cq53, kq53, q53a, q53b, q53c⟩ := isOf hZ rfl (((f31_1.ext E32).keep K33).keep K51)
        obtain ⟨_, _, ⟨T53, L53, k53, n53⟩, -, X53, ⟨Lc53, hQ53, l53, y53, z53⟩, st53⟩ := X51.virtualBack hx (y := (⟨"com/example/rooted_kinds/rootedkinds/model/Rating", "equals", "(Ljava/lang/Object;)Z"⟩ : MethodName)) (z := (⟨"com/example/rooted_kinds/rootedkinds/model/Rating", "equals", "(Ljava/lang/Object;)Z"⟩ : MethodName)) hown (mvT hZ (hw _ (List.mem_of_getElem? (i := 19) rfl))) (mvT hZ (hw _ (List.mem_of_getElem? (i := 20) rfl))) (notFace_of_selects (args := #[]) (mvT hZ (hw _ (List.mem_of_getElem? (i := 22) rfl)))) (mvT hZ (hw _ (List.mem_of_getElem? (i := 22) rfl))) (mvT hZ (hw _ (List.mem_of_getElem? (i := 21) rfl))) (by decide) (backOf (W := 0) (rm4 l Z a0 hw [] s_icache cl_icache s_lcache cl_lcache c_compact HW b30 b32 ra rb T51.heap n0 O51 (f33_1.keep K51) (((f31_0.ext E32).keep K33 (ninS (Nat.ne_of_lt (Nat.lt_of_lt_of_le f31_1.lt (Nat.le_of_eq g32.symm))) nin0)).keep K51 nin0) (f33_0.keep K51 nin0)) hZ (hw _ (List.mem_of_getElem? (i := 23) rfl)) (hw _ (List.mem_of_getElem? (i := 3) rfl)) (by decide) (by decide)) q53a q53c (g := (mkF m 121 #[.val (.int p0), .val (.int p1), .val (.int p2), .val (.int ra), .val (.int rb), .val (.ref b30), .val (.ref b32), .val (.int kk), .val (.ref bx51), .val (.int (1 : Int32)), .unset, .unset, .unset, .unset] [(.ref b32), (.ref b30)])) rfl (by rw [hml]; rfl) (Steps.refl _) (argsL := [(.ref b32)]) (rest := []) (lenOf own_pd95 rfl) rfl (by show 2 * 0 + _ ≤ _; exact Nat.le_of_eq rfl) (hb hby at_121) (fun _ _ => ⟨rfl, rfl, (by decide : 2 + 0 ≤ _), (by decide : 2 + 0 ≤ _)⟩)
        dsimp only [Pt.U, Pt.locs, Pt.cells, Pt.slots] at X53 l53 y53 z53 st53 hQ53
        subst l53 y53 z53
        obtain ⟨rfl, N53q, e53⟩ := hQ53
        have N53 := Fr.app N51 N53q
        refine Go.st (V' := T53.setTop (mkF m 124 #[.val (.int p0), .val (.int p1), .val (.int p2), .val (.int ra), .val (.int rb), .val (.ref b30), .val (.ref b32), .val (.int kk), .val (.ref bx51), .val (.int (1 : Int32)), .unset, .unset, .unset, .unset] [(.int (f4 ra rb))])) (fun t k => st53.trans k) ?_
        have r54 : (f4 ra rb) = (1 : Int32) := by rw [f4, if_pos hc52]
        rw [r54]
        refine Go.st (V' := T53.setTop (mkF m 130 #[.val (.int p0), .val (.int p1), .val (.int p2), .val (.int ra), .val (.int rb), .val (.ref b30), .val (.ref b32), .val (.int kk), .val (.ref bx51), .val (.int (1 : Int32)), .val (.int (1 : Int32)), .unset, .unset, .unset] [(.ref b30), (.ref b32)])) (fun t k => ?_) ?_
        · refine XS.istore X53.here hx rfl (hb hby at_124) rfl (l' := #[.val (.int p0), .val (.int p1), .val (.int p2), .val (.int ra), .val (.int rb), .val (.ref b30), .val (.ref b32), .val (.int kk), .val (.ref bx51), .val (.int (1 : Int32)), .val (.int (1 : Int32)), .unset, .unset, .unset]) rfl ?_
          show Steps p.tables e below (T53.setTop (mkF m 126 #[.val (.int p0), .val (.int p1), .val (.int p2), .val (.int ra), .val (.int rb), .val (.ref b30), .val (.ref b32), .val (.int kk), .val (.ref bx51), .val (.int (1 : Int32)), .val (.int (1 : Int32)), .unset, .unset, .unset] [])) _
          refine XS.aload X53.here hx rfl (hb hby at_126) rfl rfl ?_
          show Steps p.tables e below (T53.setTop (mkF m 128 #[.val (.int p0), .val (.int p1), .val (.int p2), .val (.int ra), .val (.int rb), .val (.ref b30), .val (.ref b32), .val (.int kk), .val (.ref bx51), .val (.int (1 : Int32)), .val (.int (1 : Int32)), .unset, .unset, .unset] [(.ref b32)])) _
          refine XS.aload X53.here hx rfl (hb hby at_128) rfl rfl ?_
          show Steps p.tables e below (T53.setTop (mkF m 130 #[.val (.int p0), .val (.int p1), .val (.int p2), .val (.int ra), .val (.int rb), .val (.ref b30), .val (.ref b32), .val (.int kk), .val (.ref bx51), .val (.int (1 : Int32)), .val (.int (1 : Int32)), .unset, .unset, .unset] [(.ref b30), (.ref b32)])) _
          exact k
        obtain ⟨cq55, kq55, q55a, q55b, q55c⟩ := isOf hZ e53 (f33_1.keep K51)
        obtain ⟨_, _, ⟨T55, L55, k55, n55⟩, -, X55, ⟨Lc55, hQ55, l55, y55, z55⟩, st55⟩ := X53.virtualBack hx (y := (⟨"com/example/rooted_kinds/rootedkinds/model/Rating", "equals", "(Ljava/lang/Object;)Z"⟩ : MethodName)) (z := (⟨"com/example/rooted_kinds/rootedkinds/model/Rating", "equals", "(Ljava/lang/Object;)Z"⟩ : MethodName)) hown (mvT hZ (hw _ (List.mem_of_getElem? (i := 19) rfl))) (mvT hZ (hw _ (List.mem_of_getElem? (i := 20) rfl))) (notFace_of_selects (args := #[]) (mvT hZ (hw _ (List.mem_of_getElem? (i := 22) rfl)))) (mvT hZ (hw _ (List.mem_of_getElem? (i := 22) rfl))) (mvT hZ (hw _ (List.mem_of_getElem? (i := 21) rfl))) (by decide) (backOf (W := 0) (rm4 l Z a0 hw [] s_icache cl_icache s_lcache cl_lcache c_compact HW b32 b30 rb ra T51.heap n0 O51 (((f31_1.ext E32).keep K33).keep K51) (f33_0.keep K51 nin0) (((f31_0.ext E32).keep K33 (ninS (Nat.ne_of_lt (Nat.lt_of_lt_of_le f31_1.lt (Nat.le_of_eq g32.symm))) nin0)).keep K51 nin0)) hZ (hw _ (List.mem_of_getElem? (i := 23) rfl)) (hw _ (List.mem_of_getElem? (i := 3) rfl)) (by decide) (by decide)) q55a q55c (g := (mkF m 130 #[.val (.int p0), .val (.int p1), .val (.int p2), .val (.int ra), .val (.int rb), .val (.ref b30), .val (.ref b32), .val (.int kk), .val (.ref bx51), .val (.int (1 : Int32)), .val (.int (1 : Int32)), .unset, .unset, .unset] [(.ref b30), (.ref b32)])) rfl (by rw [hml]; rfl) (Steps.refl _) (argsL := [(.ref b30)]) (rest := []) (lenOf own_pd95 rfl) rfl (by show 2 * 0 + _ ≤ _; exact Nat.le_of_eq rfl) (hb hby at_130) (fun _ _ => ⟨rfl, e53, (by decide : 2 + 0 ≤ _), (by decide : 2 + 0 ≤ _)⟩)
        dsimp only [Pt.U, Pt.locs, Pt.cells, Pt.slots] at X55 l55 y55 z55 st55 hQ55
        subst l55 y55 z55
        obtain ⟨rfl, N55q, e55⟩ := hQ55
        have N55 := Fr.app N53 N55q
        refine Go.st (V' := T55.setTop (mkF m 133 #[.val (.int p0), .val (.int p1), .val (.int p2), .val (.int ra), .val (.int rb), .val (.ref b30), .val (.ref b32), .val (.int kk), .val (.ref bx51), .val (.int (1 : Int32)), .val (.int (1 : Int32)), .unset, .unset, .unset] [(.int (f4 rb ra))])) (fun t k => st55.trans k) ?_
        have r56 : (f4 rb ra) = (1 : Int32) := by rw [f4, if_pos (Eq.symm hc52)]
        rw [r56]
        refine Go.st (V' := T55.setTop (mkF m 139 #[.val (.int p0), .val (.int p1), .val (.int p2), .val (.int ra), .val (.int rb), .val (.ref b30), .val (.ref b32), .val (.int kk), .val (.ref bx51), .val (.int (1 : Int32)), .val (.int (1 : Int32)), .val (.int (1 : Int32)), .unset, .unset] [(.ref b30), (.ref b30)])) (fun t k => ?_) ?_
        · refine XS.istore X55.here hx rfl (hb hby at_133) rfl (l' := #[.val (.int p0), .val (.int p1), .val (.int p2), .val (.int ra), .val (.int rb), .val (.ref b30), .val (.ref b32), .val (.int kk), .val (.ref bx51), .val (.int (1 : Int32)), .val (.int (1 : Int32)), .val (.int (1 : Int32)), .unset, .unset]) rfl ?_
          show Steps p.tables e below (T55.setTop (mkF m 135 #[.val (.int p0), .val (.int p1), .val (.int p2), .val (.int ra), .val (.int rb), .val (.ref b30), .val (.ref b32), .val (.int kk), .val (.ref bx51), .val (.int (1 : Int32)), .val (.int (1 : Int32)), .val (.int (1 : Int32)), .unset, .unset] [])) _
          refine XS.aload X55.here hx rfl (hb hby at_135) rfl rfl ?_
          show Steps p.tables e below (T55.setTop (mkF m 137 #[.val (.int p0), .val (.int p1), .val (.int p2), .val (.int ra), .val (.int rb), .val (.ref b30), .val (.ref b32), .val (.int kk), .val (.ref bx51), .val (.int (1 : Int32)), .val (.int (1 : Int32)), .val (.int (1 : Int32)), .unset, .unset] [(.ref b30)])) _
          refine XS.aload X55.here hx rfl (hb hby at_137) rfl rfl ?_
          show Steps p.tables e below (T55.setTop (mkF m 139 #[.val (.int p0), .val (.int p1), .val (.int p2), .val (.int ra), .val (.int rb), .val (.ref b30), .val (.ref b32), .val (.int kk), .val (.ref bx51), .val (.int (1 : Int32)), .val (.int (1 : Int32)), .val (.int (1 : Int32)), .unset, .unset] [(.ref b30), (.ref b30)])) _
          exact k
        obtain ⟨cq57, kq57, q57a, q57b, q57c⟩ := isOf hZ e55 (((f31_1.ext E32).keep K33).keep K51)
        obtain ⟨_, _, ⟨T57, L57, k57, n57⟩, -, X57, ⟨Lc57, hQ57, l57, y57, z57⟩, st57⟩ := X55.virtualBack hx (y := (⟨"com/example/rooted_kinds/rootedkinds/model/Rating", "equals", "(Ljava/lang/Object;)Z"⟩ : MethodName)) (z := (⟨"com/example/rooted_kinds/rootedkinds/model/Rating", "equals", "(Ljava/lang/Object;)Z"⟩ : MethodName)) hown (mvT hZ (hw _ (List.mem_of_getElem? (i := 19) rfl))) (mvT hZ (hw _ (List.mem_of_getElem? (i := 20) rfl))) (notFace_of_selects (args := #[]) (mvT hZ (hw _ (List.mem_of_getElem? (i := 22) rfl)))) (mvT hZ (hw _ (List.mem_of_getElem? (i := 22) rfl))) (mvT hZ (hw _ (List.mem_of_getElem? (i := 21) rfl))) (by decide) (backOf (W := 0) (rm4 l Z a0 hw [] s_icache cl_icache s_lcache cl_lcache c_compact HW b30 b30 ra ra T51.heap n0 O51 (((f31_1.ext E32).keep K33).keep K51) (((f31_0.ext E32).keep K33 (ninS (Nat.ne_of_lt (Nat.lt_of_lt_of_le f31_1.lt (Nat.le_of_eq g32.symm))) nin0)).keep K51 nin0) (((f31_0.ext E32).keep K33 (ninS (Nat.ne_of_lt (Nat.lt_of_lt_of_le f31_1.lt (Nat.le_of_eq g32.symm))) nin0)).keep K51 nin0)) hZ (hw _ (List.mem_of_getElem? (i := 23) rfl)) (hw _ (List.mem_of_getElem? (i := 3) rfl)) (by decide) (by decide)) q57a q57c (g := (mkF m 139 #[.val (.int p0), .val (.int p1), .val (.int p2), .val (.int ra), .val (.int rb), .val (.ref b30), .val (.ref b32), .val (.int kk), .val (.ref bx51), .val (.int (1 : Int32)), .val (.int (1 : Int32)), .val (.int (1 : Int32)), .unset, .unset] [(.ref b30), (.ref b30)])) rfl (by rw [hml]; rfl) (Steps.refl _) (argsL := [(.ref b30)]) (rest := []) (lenOf own_pd95 rfl) rfl (by show 2 * 0 + _ ≤ _; exact Nat.le_of_eq rfl) (hb hby at_139) (fun _ _ => ⟨rfl, e55, (by decide : 2 + 0 ≤ _), (by decide : 2 + 0 ≤ _)⟩)
        dsimp only [Pt.U, Pt.locs, Pt.cells, Pt.slots] at X57 l57 y57 z57 st57 hQ57
        subst l57 y57 z57
        obtain ⟨rfl, N57q, e57⟩ := hQ57
        have N57 := Fr.app N55 N57q
        refine Go.st (V' := T57.setTop (mkF m 142 #[.val (.int p0), .val (.int p1), .val (.int p2), .val (.int ra), .val (.int rb), .val (.ref b30), .val (.ref b32), .val (.int kk), .val (.ref bx51), .val (.int (1 : Int32)), .val (.int (1 : Int32)), .val (.int (1 : Int32)), .unset, .unset] [(.int (f4 ra ra))])) (fun t k => st57.trans k) ?_
        have r58 : (f4 ra ra) = (1 : Int32) := by rw [f4, if_pos (rfl : ra = ra)]
        rw [r58]
        refine Go.st (V' := T57.setTop (mkF m 148 #[.val (.int p0), .val (.int p1), .val (.int p2), .val (.int ra), .val (.int rb), .val (.ref b30), .val (.ref b32), .val (.int kk), .val (.ref bx51), .val (.int (1 : Int32)), .val (.int (1 : Int32)), .val (.int (1 : Int32)), .val (.int (1 : Int32)), .unset] [(.ref bx51), (.ref b30)])) (fun t k => ?_) ?_
        · refine XS.istore X57.here hx rfl (hb hby at_142) rfl (l' := #[.val (.int p0), .val (.int p1), .val (.int p2), .val (.int ra), .val (.int rb), .val (.ref b30), .val (.ref b32), .val (.int kk), .val (.ref bx51), .val (.int (1 : Int32)), .val (.int (1 : Int32)), .val (.int (1 : Int32)), .val (.int (1 : Int32)), .unset]) rfl ?_
          show Steps p.tables e below (T57.setTop (mkF m 144 #[.val (.int p0), .val (.int p1), .val (.int p2), .val (.int ra), .val (.int rb), .val (.ref b30), .val (.ref b32), .val (.int kk), .val (.ref bx51), .val (.int (1 : Int32)), .val (.int (1 : Int32)), .val (.int (1 : Int32)), .val (.int (1 : Int32)), .unset] [])) _
          refine XS.aload X57.here hx rfl (hb hby at_144) rfl rfl ?_
          show Steps p.tables e below (T57.setTop (mkF m 146 #[.val (.int p0), .val (.int p1), .val (.int p2), .val (.int ra), .val (.int rb), .val (.ref b30), .val (.ref b32), .val (.int kk), .val (.ref bx51), .val (.int (1 : Int32)), .val (.int (1 : Int32)), .val (.int (1 : Int32)), .val (.int (1 : Int32)), .unset] [(.ref b30)])) _
          refine XS.aload X57.here hx rfl (hb hby at_146) rfl rfl ?_
          show Steps p.tables e below (T57.setTop (mkF m 148 #[.val (.int p0), .val (.int p1), .val (.int p2), .val (.int ra), .val (.int rb), .val (.ref b30), .val (.ref b32), .val (.int kk), .val (.ref bx51), .val (.int (1 : Int32)), .val (.int (1 : Int32)), .val (.int (1 : Int32)), .val (.int (1 : Int32)), .unset] [(.ref bx51), (.ref b30)])) _
          exact k
        obtain ⟨cq59, kq59, q59a, q59b, q59c⟩ := isOf hZ e57 (((f31_1.ext E32).keep K33).keep K51)
        obtain ⟨_, _, ⟨T59, L59, k59, n59⟩, -, X59, ⟨Lc59, hQ59, l59, y59, z59⟩, st59⟩ := X57.virtualBack hx (y := (⟨"com/example/rooted_kinds/rootedkinds/model/Rating", "equals", "(Ljava/lang/Object;)Z"⟩ : MethodName)) (z := (⟨"com/example/rooted_kinds/rootedkinds/model/Rating", "equals", "(Ljava/lang/Object;)Z"⟩ : MethodName)) hown (mvT hZ (hw _ (List.mem_of_getElem? (i := 19) rfl))) (mvT hZ (hw _ (List.mem_of_getElem? (i := 20) rfl))) (notFace_of_selects (args := #[]) (mvT hZ (hw _ (List.mem_of_getElem? (i := 22) rfl)))) (mvT hZ (hw _ (List.mem_of_getElem? (i := 22) rfl))) (mvT hZ (hw _ (List.mem_of_getElem? (i := 21) rfl))) (by decide) (backOf (W := 0) (rm4i l Z a0 hw [] s_icache cl_icache s_lcache cl_lcache c_compact HW b30 bx51 T51.heap n0 O51 Eb51) hZ (hw _ (List.mem_of_getElem? (i := 23) rfl)) (hw _ (List.mem_of_getElem? (i := 3) rfl)) (by decide) (by decide)) q59a q59c (g := (mkF m 148 #[.val (.int p0), .val (.int p1), .val (.int p2), .val (.int ra), .val (.int rb), .val (.ref b30), .val (.ref b32), .val (.int kk), .val (.ref bx51), .val (.int (1 : Int32)), .val (.int (1 : Int32)), .val (.int (1 : Int32)), .val (.int (1 : Int32)), .unset] [(.ref bx51), (.ref b30)])) rfl (by rw [hml]; rfl) (Steps.refl _) (argsL := [(.ref bx51)]) (rest := []) (lenOf own_pd95 rfl) rfl (by show 2 * 0 + _ ≤ _; exact Nat.le_of_eq rfl) (hb hby at_148) (fun _ _ => ⟨rfl, e57, (by decide : 2 + 0 ≤ _), (by decide : 2 + 0 ≤ _)⟩)
        dsimp only [Pt.U, Pt.locs, Pt.cells, Pt.slots] at X59 l59 y59 z59 st59 hQ59
        subst l59 y59 z59
        obtain ⟨rfl, N59q, e59⟩ := hQ59
        have N59 := Fr.app N57 N59q
        refine Go.st (V' := T59.setTop (mkF m 151 #[.val (.int p0), .val (.int p1), .val (.int p2), .val (.int ra), .val (.int rb), .val (.ref b30), .val (.ref b32), .val (.int kk), .val (.ref bx51), .val (.int (1 : Int32)), .val (.int (1 : Int32)), .val (.int (1 : Int32)), .val (.int (1 : Int32)), .unset] [(.int (0 : Int32))])) (fun t k => st59.trans k) ?_
        refine Go.st (V' := T59.setTop (mkF m 182 #[.val (.int p0), .val (.int p1), .val (.int p2), .val (.int ra), .val (.int rb), .val (.ref b30), .val (.ref b32), .val (.int kk), .val (.ref bx51), .val (.int (1 : Int32)), .val (.int (1 : Int32)), .val (.int (1 : Int32)), .val (.int (1 : Int32)), .val (.int (0 : Int32))] [(.int (1 : Int32))])) (fun t k => ?_) ?_
        · refine XS.istore X59.here hx rfl (hb hby at_151) rfl (l' := #[.val (.int p0), .val (.int p1), .val (.int p2), .val (.int ra), .val (.int rb), .val (.ref b30), .val (.ref b32), .val (.int kk), .val (.ref bx51), .val (.int (1 : Int32)), .val (.int (1 : Int32)), .val (.int (1 : Int32)), .val (.int (1 : Int32)), .val (.int (0 : Int32))]) rfl ?_
          show Steps p.tables e below (T59.setTop (mkF m 153 #[.val (.int p0), .val (.int p1), .val (.int p2), .val (.int ra), .val (.int rb), .val (.ref b30), .val (.ref b32), .val (.int kk), .val (.ref bx51), .val (.int (1 : Int32)), .val (.int (1 : Int32)), .val (.int (1 : Int32)), .val (.int (1 : Int32)), .val (.int (0 : Int32))] [])) _
          refine XS.iload X59.here hx rfl (hb hby at_153) rfl  ?_
          show Steps p.tables e below (T59.setTop (mkF m 155 #[.val (.int p0), .val (.int p1), .val (.int p2), .val (.int ra), .val (.int rb), .val (.ref b30), .val (.ref b32), .val (.int kk), .val (.ref bx51), .val (.int (1 : Int32)), .val (.int (1 : Int32)), .val (.int (1 : Int32)), .val (.int (1 : Int32)), .val (.int (0 : Int32))] [(.int (1 : Int32))])) _
          refine XS.iload X59.here hx rfl (hb hby at_155) rfl  ?_
          show Steps p.tables e below (T59.setTop (mkF m 157 #[.val (.int p0), .val (.int p1), .val (.int p2), .val (.int ra), .val (.int rb), .val (.ref b30), .val (.ref b32), .val (.int kk), .val (.ref bx51), .val (.int (1 : Int32)), .val (.int (1 : Int32)), .val (.int (1 : Int32)), .val (.int (1 : Int32)), .val (.int (0 : Int32))] [(.int (1 : Int32)), (.int (1 : Int32))])) _
          refine XS.icmpNo X59.here hx rfl (hb hby at_157) rfl (teq (by decide : ((1 : Int32) = (1 : Int32)))).2 ?_
          show Steps p.tables e below (T59.setTop (mkF m 160 #[.val (.int p0), .val (.int p1), .val (.int p2), .val (.int ra), .val (.int rb), .val (.ref b30), .val (.ref b32), .val (.int kk), .val (.ref bx51), .val (.int (1 : Int32)), .val (.int (1 : Int32)), .val (.int (1 : Int32)), .val (.int (1 : Int32)), .val (.int (0 : Int32))] [])) _
          refine XS.iload X59.here hx rfl (hb hby at_160) rfl  ?_
          show Steps p.tables e below (T59.setTop (mkF m 162 #[.val (.int p0), .val (.int p1), .val (.int p2), .val (.int ra), .val (.int rb), .val (.ref b30), .val (.ref b32), .val (.int kk), .val (.ref bx51), .val (.int (1 : Int32)), .val (.int (1 : Int32)), .val (.int (1 : Int32)), .val (.int (1 : Int32)), .val (.int (0 : Int32))] [(.int (1 : Int32))])) _
          refine XS.iload X59.here hx rfl (hb hby at_162) rfl  ?_
          show Steps p.tables e below (T59.setTop (mkF m 164 #[.val (.int p0), .val (.int p1), .val (.int p2), .val (.int ra), .val (.int rb), .val (.ref b30), .val (.ref b32), .val (.int kk), .val (.ref bx51), .val (.int (1 : Int32)), .val (.int (1 : Int32)), .val (.int (1 : Int32)), .val (.int (1 : Int32)), .val (.int (0 : Int32))] [(.int (1 : Int32)), (.int (1 : Int32))])) _
          refine XS.icmpNo X59.here hx rfl (hb hby at_164) rfl (teq (by decide : ((1 : Int32) = (1 : Int32)))).2 ?_
          show Steps p.tables e below (T59.setTop (mkF m 167 #[.val (.int p0), .val (.int p1), .val (.int p2), .val (.int ra), .val (.int rb), .val (.ref b30), .val (.ref b32), .val (.int kk), .val (.ref bx51), .val (.int (1 : Int32)), .val (.int (1 : Int32)), .val (.int (1 : Int32)), .val (.int (1 : Int32)), .val (.int (0 : Int32))] [])) _
          refine XS.iload X59.here hx rfl (hb hby at_167) rfl  ?_
          show Steps p.tables e below (T59.setTop (mkF m 169 #[.val (.int p0), .val (.int p1), .val (.int p2), .val (.int ra), .val (.int rb), .val (.ref b30), .val (.ref b32), .val (.int kk), .val (.ref bx51), .val (.int (1 : Int32)), .val (.int (1 : Int32)), .val (.int (1 : Int32)), .val (.int (1 : Int32)), .val (.int (0 : Int32))] [(.int (1 : Int32))])) _
          refine XS.ifNo X59.here hx rfl (hb hby at_169) rfl ((if0 _ _).trans (feq (by decide : ¬ ((1 : Int32) = (0 : Int32)))).1) ?_
          show Steps p.tables e below (T59.setTop (mkF m 172 #[.val (.int p0), .val (.int p1), .val (.int p2), .val (.int ra), .val (.int rb), .val (.ref b30), .val (.ref b32), .val (.int kk), .val (.ref bx51), .val (.int (1 : Int32)), .val (.int (1 : Int32)), .val (.int (1 : Int32)), .val (.int (1 : Int32)), .val (.int (0 : Int32))] [])) _
          refine XS.iload X59.here hx rfl (hb hby at_172) rfl  ?_
          show Steps p.tables e below (T59.setTop (mkF m 174 #[.val (.int p0), .val (.int p1), .val (.int p2), .val (.int ra), .val (.int rb), .val (.ref b30), .val (.ref b32), .val (.int kk), .val (.ref bx51), .val (.int (1 : Int32)), .val (.int (1 : Int32)), .val (.int (1 : Int32)), .val (.int (1 : Int32)), .val (.int (0 : Int32))] [(.int (0 : Int32))])) _
          refine XS.ifNo X59.here hx rfl (hb hby at_174) rfl ((if0 _ _).trans (teq (by decide : ((0 : Int32) = (0 : Int32)))).2) ?_
          show Steps p.tables e below (T59.setTop (mkF m 177 #[.val (.int p0), .val (.int p1), .val (.int p2), .val (.int ra), .val (.int rb), .val (.ref b30), .val (.ref b32), .val (.int kk), .val (.ref bx51), .val (.int (1 : Int32)), .val (.int (1 : Int32)), .val (.int (1 : Int32)), .val (.int (1 : Int32)), .val (.int (0 : Int32))] [])) _
          refine XS.iconst X59.here hx rfl (hb hby at_177) ?_
          show Steps p.tables e below (T59.setTop (mkF m 178 #[.val (.int p0), .val (.int p1), .val (.int p2), .val (.int ra), .val (.int rb), .val (.ref b30), .val (.ref b32), .val (.int kk), .val (.ref bx51), .val (.int (1 : Int32)), .val (.int (1 : Int32)), .val (.int (1 : Int32)), .val (.int (1 : Int32)), .val (.int (0 : Int32))] [(.int (1 : Int32))])) _
          refine XS.goto X59.here hx rfl (pc0 := 178) (pc' := 182) rfl (hb hby at_178) (by decide) (by decide) ?_
          show Steps p.tables e below (T59.setTop (mkF m 182 #[.val (.int p0), .val (.int p1), .val (.int p2), .val (.int ra), .val (.int rb), .val (.ref b30), .val (.ref b32), .val (.int kk), .val (.ref bx51), .val (.int (1 : Int32)), .val (.int (1 : Int32)), .val (.int (1 : Int32)), .val (.int (1 : Int32)), .val (.int (0 : Int32))] [(.int (1 : Int32))])) _
          exact k
        obtain ⟨fs, hr, hrun, hended, hW, hsame⟩ := X59.leave (v := some (.int (1 : Int32))) (fun h => by rw [Bd.returns] at h; cases h)
        refine Go.mk' ⟨_, _, retN X59 hx (t := .boolean) Bd.returns (by simp) (hb hby at_182) hr, hrun, hended, _, _, rfl, ?_, ⟨_, rfl⟩, hW, hsame.mono (by decide) (by decide)⟩
        show Q0 Z p0 p1 p2 h0 n0 _ T59.heap _
        rw [e59]
        exact ⟨rfl, N59⟩
      · refine Go.st (V' := T51.setTop (mkF m 121 #[.val (.int p0), .val (.int p1), .val (.int p2), .val (.int ra), .val (.int rb), .val (.ref b30), .val (.ref b32), .val (.int kk), .val (.ref bx51), .val (.int (0 : Int32)), .unset, .unset, .unset, .unset] [(.ref b32), (.ref b30)])) (fun t k => ?_) ?_
        · refine XS.icmpYes X51.here hx rfl (pc0 := 107) (pc' := 114) rfl (hb hby at_107) rfl (feq hc52).2 (by decide) (by decide) ?_
          show Steps p.tables e below (T51.setTop (mkF m 114 #[.val (.int p0), .val (.int p1), .val (.int p2), .val (.int ra), .val (.int rb), .val (.ref b30), .val (.ref b32), .val (.int kk), .val (.ref bx51), .unset, .unset, .unset, .unset, .unset] [])) _
          refine XS.iconst X51.here hx rfl (hb hby at_114) ?_
          show Steps p.tables e below (T51.setTop (mkF m 115 #[.val (.int p0), .val (.int p1), .val (.int p2), .val (.int ra), .val (.int rb), .val (.ref b30), .val (.ref b32), .val (.int kk), .val (.ref bx51), .unset, .unset, .unset, .unset, .unset] [(.int (0 : Int32))])) _
          refine XS.istore X51.here hx rfl (hb hby at_115) rfl (l' := #[.val (.int p0), .val (.int p1), .val (.int p2), .val (.int ra), .val (.int rb), .val (.ref b30), .val (.ref b32), .val (.int kk), .val (.ref bx51), .val (.int (0 : Int32)), .unset, .unset, .unset, .unset]) rfl ?_
          show Steps p.tables e below (T51.setTop (mkF m 117 #[.val (.int p0), .val (.int p1), .val (.int p2), .val (.int ra), .val (.int rb), .val (.ref b30), .val (.ref b32), .val (.int kk), .val (.ref bx51), .val (.int (0 : Int32)), .unset, .unset, .unset, .unset] [])) _
          refine XS.aload X51.here hx rfl (hb hby at_117) rfl rfl ?_
          show Steps p.tables e below (T51.setTop (mkF m 119 #[.val (.int p0), .val (.int p1), .val (.int p2), .val (.int ra), .val (.int rb), .val (.ref b30), .val (.ref b32), .val (.int kk), .val (.ref bx51), .val (.int (0 : Int32)), .unset, .unset, .unset, .unset] [(.ref b30)])) _
          refine XS.aload X51.here hx rfl (hb hby at_119) rfl rfl ?_
          show Steps p.tables e below (T51.setTop (mkF m 121 #[.val (.int p0), .val (.int p1), .val (.int p2), .val (.int ra), .val (.int rb), .val (.ref b30), .val (.ref b32), .val (.int kk), .val (.ref bx51), .val (.int (0 : Int32)), .unset, .unset, .unset, .unset] [(.ref b32), (.ref b30)])) _
          exact k
        obtain ⟨cq60, kq60, q60a, q60b, q60c⟩ := isOf hZ rfl (((f31_1.ext E32).keep K33).keep K51)
        obtain ⟨_, _, ⟨T60, L60, k60, n60⟩, -, X60, ⟨Lc60, hQ60, l60, y60, z60⟩, st60⟩ := X51.virtualBack hx (y := (⟨"com/example/rooted_kinds/rootedkinds/model/Rating", "equals", "(Ljava/lang/Object;)Z"⟩ : MethodName)) (z := (⟨"com/example/rooted_kinds/rootedkinds/model/Rating", "equals", "(Ljava/lang/Object;)Z"⟩ : MethodName)) hown (mvT hZ (hw _ (List.mem_of_getElem? (i := 19) rfl))) (mvT hZ (hw _ (List.mem_of_getElem? (i := 20) rfl))) (notFace_of_selects (args := #[]) (mvT hZ (hw _ (List.mem_of_getElem? (i := 22) rfl)))) (mvT hZ (hw _ (List.mem_of_getElem? (i := 22) rfl))) (mvT hZ (hw _ (List.mem_of_getElem? (i := 21) rfl))) (by decide) (backOf (W := 0) (rm4 l Z a0 hw [] s_icache cl_icache s_lcache cl_lcache c_compact HW b30 b32 ra rb T51.heap n0 O51 (f33_1.keep K51) (((f31_0.ext E32).keep K33 (ninS (Nat.ne_of_lt (Nat.lt_of_lt_of_le f31_1.lt (Nat.le_of_eq g32.symm))) nin0)).keep K51 nin0) (f33_0.keep K51 nin0)) hZ (hw _ (List.mem_of_getElem? (i := 23) rfl)) (hw _ (List.mem_of_getElem? (i := 3) rfl)) (by decide) (by decide)) q60a q60c (g := (mkF m 121 #[.val (.int p0), .val (.int p1), .val (.int p2), .val (.int ra), .val (.int rb), .val (.ref b30), .val (.ref b32), .val (.int kk), .val (.ref bx51), .val (.int (0 : Int32)), .unset, .unset, .unset, .unset] [(.ref b32), (.ref b30)])) rfl (by rw [hml]; rfl) (Steps.refl _) (argsL := [(.ref b32)]) (rest := []) (lenOf own_pd95 rfl) rfl (by show 2 * 0 + _ ≤ _; exact Nat.le_of_eq rfl) (hb hby at_121) (fun _ _ => ⟨rfl, rfl, (by decide : 2 + 0 ≤ _), (by decide : 2 + 0 ≤ _)⟩)
        dsimp only [Pt.U, Pt.locs, Pt.cells, Pt.slots] at X60 l60 y60 z60 st60 hQ60
        subst l60 y60 z60
        obtain ⟨rfl, N60q, e60⟩ := hQ60
        have N60 := Fr.app N51 N60q
        refine Go.st (V' := T60.setTop (mkF m 124 #[.val (.int p0), .val (.int p1), .val (.int p2), .val (.int ra), .val (.int rb), .val (.ref b30), .val (.ref b32), .val (.int kk), .val (.ref bx51), .val (.int (0 : Int32)), .unset, .unset, .unset, .unset] [(.int (f4 ra rb))])) (fun t k => st60.trans k) ?_
        have r61 : (f4 ra rb) = (0 : Int32) := by rw [f4, if_neg hc52]
        rw [r61]
        refine Go.st (V' := T60.setTop (mkF m 130 #[.val (.int p0), .val (.int p1), .val (.int p2), .val (.int ra), .val (.int rb), .val (.ref b30), .val (.ref b32), .val (.int kk), .val (.ref bx51), .val (.int (0 : Int32)), .val (.int (0 : Int32)), .unset, .unset, .unset] [(.ref b30), (.ref b32)])) (fun t k => ?_) ?_
        · refine XS.istore X60.here hx rfl (hb hby at_124) rfl (l' := #[.val (.int p0), .val (.int p1), .val (.int p2), .val (.int ra), .val (.int rb), .val (.ref b30), .val (.ref b32), .val (.int kk), .val (.ref bx51), .val (.int (0 : Int32)), .val (.int (0 : Int32)), .unset, .unset, .unset]) rfl ?_
          show Steps p.tables e below (T60.setTop (mkF m 126 #[.val (.int p0), .val (.int p1), .val (.int p2), .val (.int ra), .val (.int rb), .val (.ref b30), .val (.ref b32), .val (.int kk), .val (.ref bx51), .val (.int (0 : Int32)), .val (.int (0 : Int32)), .unset, .unset, .unset] [])) _
          refine XS.aload X60.here hx rfl (hb hby at_126) rfl rfl ?_
          show Steps p.tables e below (T60.setTop (mkF m 128 #[.val (.int p0), .val (.int p1), .val (.int p2), .val (.int ra), .val (.int rb), .val (.ref b30), .val (.ref b32), .val (.int kk), .val (.ref bx51), .val (.int (0 : Int32)), .val (.int (0 : Int32)), .unset, .unset, .unset] [(.ref b32)])) _
          refine XS.aload X60.here hx rfl (hb hby at_128) rfl rfl ?_
          show Steps p.tables e below (T60.setTop (mkF m 130 #[.val (.int p0), .val (.int p1), .val (.int p2), .val (.int ra), .val (.int rb), .val (.ref b30), .val (.ref b32), .val (.int kk), .val (.ref bx51), .val (.int (0 : Int32)), .val (.int (0 : Int32)), .unset, .unset, .unset] [(.ref b30), (.ref b32)])) _
          exact k
        obtain ⟨cq62, kq62, q62a, q62b, q62c⟩ := isOf hZ e60 (f33_1.keep K51)
        obtain ⟨_, _, ⟨T62, L62, k62, n62⟩, -, X62, ⟨Lc62, hQ62, l62, y62, z62⟩, st62⟩ := X60.virtualBack hx (y := (⟨"com/example/rooted_kinds/rootedkinds/model/Rating", "equals", "(Ljava/lang/Object;)Z"⟩ : MethodName)) (z := (⟨"com/example/rooted_kinds/rootedkinds/model/Rating", "equals", "(Ljava/lang/Object;)Z"⟩ : MethodName)) hown (mvT hZ (hw _ (List.mem_of_getElem? (i := 19) rfl))) (mvT hZ (hw _ (List.mem_of_getElem? (i := 20) rfl))) (notFace_of_selects (args := #[]) (mvT hZ (hw _ (List.mem_of_getElem? (i := 22) rfl)))) (mvT hZ (hw _ (List.mem_of_getElem? (i := 22) rfl))) (mvT hZ (hw _ (List.mem_of_getElem? (i := 21) rfl))) (by decide) (backOf (W := 0) (rm4 l Z a0 hw [] s_icache cl_icache s_lcache cl_lcache c_compact HW b32 b30 rb ra T51.heap n0 O51 (((f31_1.ext E32).keep K33).keep K51) (f33_0.keep K51 nin0) (((f31_0.ext E32).keep K33 (ninS (Nat.ne_of_lt (Nat.lt_of_lt_of_le f31_1.lt (Nat.le_of_eq g32.symm))) nin0)).keep K51 nin0)) hZ (hw _ (List.mem_of_getElem? (i := 23) rfl)) (hw _ (List.mem_of_getElem? (i := 3) rfl)) (by decide) (by decide)) q62a q62c (g := (mkF m 130 #[.val (.int p0), .val (.int p1), .val (.int p2), .val (.int ra), .val (.int rb), .val (.ref b30), .val (.ref b32), .val (.int kk), .val (.ref bx51), .val (.int (0 : Int32)), .val (.int (0 : Int32)), .unset, .unset, .unset] [(.ref b30), (.ref b32)])) rfl (by rw [hml]; rfl) (Steps.refl _) (argsL := [(.ref b30)]) (rest := []) (lenOf own_pd95 rfl) rfl (by show 2 * 0 + _ ≤ _; exact Nat.le_of_eq rfl) (hb hby at_130) (fun _ _ => ⟨rfl, e60, (by decide : 2 + 0 ≤ _), (by decide : 2 + 0 ≤ _)⟩)
        dsimp only [Pt.U, Pt.locs, Pt.cells, Pt.slots] at X62 l62 y62 z62 st62 hQ62
        subst l62 y62 z62
        obtain ⟨rfl, N62q, e62⟩ := hQ62
        have N62 := Fr.app N60 N62q
        refine Go.st (V' := T62.setTop (mkF m 133 #[.val (.int p0), .val (.int p1), .val (.int p2), .val (.int ra), .val (.int rb), .val (.ref b30), .val (.ref b32), .val (.int kk), .val (.ref bx51), .val (.int (0 : Int32)), .val (.int (0 : Int32)), .unset, .unset, .unset] [(.int (f4 rb ra))])) (fun t k => st62.trans k) ?_
        have r63 : (f4 rb ra) = (0 : Int32) := by rw [f4, if_neg (Ne.symm hc52)]
        rw [r63]
        refine Go.st (V' := T62.setTop (mkF m 139 #[.val (.int p0), .val (.int p1), .val (.int p2), .val (.int ra), .val (.int rb), .val (.ref b30), .val (.ref b32), .val (.int kk), .val (.ref bx51), .val (.int (0 : Int32)), .val (.int (0 : Int32)), .val (.int (0 : Int32)), .unset, .unset] [(.ref b30), (.ref b30)])) (fun t k => ?_) ?_
        · refine XS.istore X62.here hx rfl (hb hby at_133) rfl (l' := #[.val (.int p0), .val (.int p1), .val (.int p2), .val (.int ra), .val (.int rb), .val (.ref b30), .val (.ref b32), .val (.int kk), .val (.ref bx51), .val (.int (0 : Int32)), .val (.int (0 : Int32)), .val (.int (0 : Int32)), .unset, .unset]) rfl ?_
          show Steps p.tables e below (T62.setTop (mkF m 135 #[.val (.int p0), .val (.int p1), .val (.int p2), .val (.int ra), .val (.int rb), .val (.ref b30), .val (.ref b32), .val (.int kk), .val (.ref bx51), .val (.int (0 : Int32)), .val (.int (0 : Int32)), .val (.int (0 : Int32)), .unset, .unset] [])) _
          refine XS.aload X62.here hx rfl (hb hby at_135) rfl rfl ?_
          show Steps p.tables e below (T62.setTop (mkF m 137 #[.val (.int p0), .val (.int p1), .val (.int p2), .val (.int ra), .val (.int rb), .val (.ref b30), .val (.ref b32), .val (.int kk), .val (.ref bx51), .val (.int (0 : Int32)), .val (.int (0 : Int32)), .val (.int (0 : Int32)), .unset, .unset] [(.ref b30)])) _
          refine XS.aload X62.here hx rfl (hb hby at_137) rfl rfl ?_
          show Steps p.tables e below (T62.setTop (mkF m 139 #[.val (.int p0), .val (.int p1), .val (.int p2), .val (.int ra), .val (.int rb), .val (.ref b30), .val (.ref b32), .val (.int kk), .val (.ref bx51), .val (.int (0 : Int32)), .val (.int (0 : Int32)), .val (.int (0 : Int32)), .unset, .unset] [(.ref b30), (.ref b30)])) _
          exact k
        obtain ⟨cq64, kq64, q64a, q64b, q64c⟩ := isOf hZ e62 (((f31_1.ext E32).keep K33).keep K51)
        obtain ⟨_, _, ⟨T64, L64, k64, n64⟩, -, X64, ⟨Lc64, hQ64, l64, y64, z64⟩, st64⟩ := X62.virtualBack hx (y := (⟨"com/example/rooted_kinds/rootedkinds/model/Rating", "equals", "(Ljava/lang/Object;)Z"⟩ : MethodName)) (z := (⟨"com/example/rooted_kinds/rootedkinds/model/Rating", "equals", "(Ljava/lang/Object;)Z"⟩ : MethodName)) hown (mvT hZ (hw _ (List.mem_of_getElem? (i := 19) rfl))) (mvT hZ (hw _ (List.mem_of_getElem? (i := 20) rfl))) (notFace_of_selects (args := #[]) (mvT hZ (hw _ (List.mem_of_getElem? (i := 22) rfl)))) (mvT hZ (hw _ (List.mem_of_getElem? (i := 22) rfl))) (mvT hZ (hw _ (List.mem_of_getElem? (i := 21) rfl))) (by decide) (backOf (W := 0) (rm4 l Z a0 hw [] s_icache cl_icache s_lcache cl_lcache c_compact HW b30 b30 ra ra T51.heap n0 O51 (((f31_1.ext E32).keep K33).keep K51) (((f31_0.ext E32).keep K33 (ninS (Nat.ne_of_lt (Nat.lt_of_lt_of_le f31_1.lt (Nat.le_of_eq g32.symm))) nin0)).keep K51 nin0) (((f31_0.ext E32).keep K33 (ninS (Nat.ne_of_lt (Nat.lt_of_lt_of_le f31_1.lt (Nat.le_of_eq g32.symm))) nin0)).keep K51 nin0)) hZ (hw _ (List.mem_of_getElem? (i := 23) rfl)) (hw _ (List.mem_of_getElem? (i := 3) rfl)) (by decide) (by decide)) q64a q64c (g := (mkF m 139 #[.val (.int p0), .val (.int p1), .val (.int p2), .val (.int ra), .val (.int rb), .val (.ref b30), .val (.ref b32), .val (.int kk), .val (.ref bx51), .val (.int (0 : Int32)), .val (.int (0 : Int32)), .val (.int (0 : Int32)), .unset, .unset] [(.ref b30), (.ref b30)])) rfl (by rw [hml]; rfl) (Steps.refl _) (argsL := [(.ref b30)]) (rest := []) (lenOf own_pd95 rfl) rfl (by show 2 * 0 + _ ≤ _; exact Nat.le_of_eq rfl) (hb hby at_139) (fun _ _ => ⟨rfl, e62, (by decide : 2 + 0 ≤ _), (by decide : 2 + 0 ≤ _)⟩)
        dsimp only [Pt.U, Pt.locs, Pt.cells, Pt.slots] at X64 l64 y64 z64 st64 hQ64
        subst l64 y64 z64
        obtain ⟨rfl, N64q, e64⟩ := hQ64
        have N64 := Fr.app N62 N64q
        refine Go.st (V' := T64.setTop (mkF m 142 #[.val (.int p0), .val (.int p1), .val (.int p2), .val (.int ra), .val (.int rb), .val (.ref b30), .val (.ref b32), .val (.int kk), .val (.ref bx51), .val (.int (0 : Int32)), .val (.int (0 : Int32)), .val (.int (0 : Int32)), .unset, .unset] [(.int (f4 ra ra))])) (fun t k => st64.trans k) ?_
        have r65 : (f4 ra ra) = (1 : Int32) := by rw [f4, if_pos (rfl : ra = ra)]
        rw [r65]
        refine Go.st (V' := T64.setTop (mkF m 148 #[.val (.int p0), .val (.int p1), .val (.int p2), .val (.int ra), .val (.int rb), .val (.ref b30), .val (.ref b32), .val (.int kk), .val (.ref bx51), .val (.int (0 : Int32)), .val (.int (0 : Int32)), .val (.int (0 : Int32)), .val (.int (1 : Int32)), .unset] [(.ref bx51), (.ref b30)])) (fun t k => ?_) ?_
        · refine XS.istore X64.here hx rfl (hb hby at_142) rfl (l' := #[.val (.int p0), .val (.int p1), .val (.int p2), .val (.int ra), .val (.int rb), .val (.ref b30), .val (.ref b32), .val (.int kk), .val (.ref bx51), .val (.int (0 : Int32)), .val (.int (0 : Int32)), .val (.int (0 : Int32)), .val (.int (1 : Int32)), .unset]) rfl ?_
          show Steps p.tables e below (T64.setTop (mkF m 144 #[.val (.int p0), .val (.int p1), .val (.int p2), .val (.int ra), .val (.int rb), .val (.ref b30), .val (.ref b32), .val (.int kk), .val (.ref bx51), .val (.int (0 : Int32)), .val (.int (0 : Int32)), .val (.int (0 : Int32)), .val (.int (1 : Int32)), .unset] [])) _
          refine XS.aload X64.here hx rfl (hb hby at_144) rfl rfl ?_
          show Steps p.tables e below (T64.setTop (mkF m 146 #[.val (.int p0), .val (.int p1), .val (.int p2), .val (.int ra), .val (.int rb), .val (.ref b30), .val (.ref b32), .val (.int kk), .val (.ref bx51), .val (.int (0 : Int32)), .val (.int (0 : Int32)), .val (.int (0 : Int32)), .val (.int (1 : Int32)), .unset] [(.ref b30)])) _
          refine XS.aload X64.here hx rfl (hb hby at_146) rfl rfl ?_
          show Steps p.tables e below (T64.setTop (mkF m 148 #[.val (.int p0), .val (.int p1), .val (.int p2), .val (.int ra), .val (.int rb), .val (.ref b30), .val (.ref b32), .val (.int kk), .val (.ref bx51), .val (.int (0 : Int32)), .val (.int (0 : Int32)), .val (.int (0 : Int32)), .val (.int (1 : Int32)), .unset] [(.ref bx51), (.ref b30)])) _
          exact k
        obtain ⟨cq66, kq66, q66a, q66b, q66c⟩ := isOf hZ e64 (((f31_1.ext E32).keep K33).keep K51)
        obtain ⟨_, _, ⟨T66, L66, k66, n66⟩, -, X66, ⟨Lc66, hQ66, l66, y66, z66⟩, st66⟩ := X64.virtualBack hx (y := (⟨"com/example/rooted_kinds/rootedkinds/model/Rating", "equals", "(Ljava/lang/Object;)Z"⟩ : MethodName)) (z := (⟨"com/example/rooted_kinds/rootedkinds/model/Rating", "equals", "(Ljava/lang/Object;)Z"⟩ : MethodName)) hown (mvT hZ (hw _ (List.mem_of_getElem? (i := 19) rfl))) (mvT hZ (hw _ (List.mem_of_getElem? (i := 20) rfl))) (notFace_of_selects (args := #[]) (mvT hZ (hw _ (List.mem_of_getElem? (i := 22) rfl)))) (mvT hZ (hw _ (List.mem_of_getElem? (i := 22) rfl))) (mvT hZ (hw _ (List.mem_of_getElem? (i := 21) rfl))) (by decide) (backOf (W := 0) (rm4i l Z a0 hw [] s_icache cl_icache s_lcache cl_lcache c_compact HW b30 bx51 T51.heap n0 O51 Eb51) hZ (hw _ (List.mem_of_getElem? (i := 23) rfl)) (hw _ (List.mem_of_getElem? (i := 3) rfl)) (by decide) (by decide)) q66a q66c (g := (mkF m 148 #[.val (.int p0), .val (.int p1), .val (.int p2), .val (.int ra), .val (.int rb), .val (.ref b30), .val (.ref b32), .val (.int kk), .val (.ref bx51), .val (.int (0 : Int32)), .val (.int (0 : Int32)), .val (.int (0 : Int32)), .val (.int (1 : Int32)), .unset] [(.ref bx51), (.ref b30)])) rfl (by rw [hml]; rfl) (Steps.refl _) (argsL := [(.ref bx51)]) (rest := []) (lenOf own_pd95 rfl) rfl (by show 2 * 0 + _ ≤ _; exact Nat.le_of_eq rfl) (hb hby at_148) (fun _ _ => ⟨rfl, e64, (by decide : 2 + 0 ≤ _), (by decide : 2 + 0 ≤ _)⟩)
        dsimp only [Pt.U, Pt.locs, Pt.cells, Pt.slots] at X66 l66 y66 z66 st66 hQ66
        subst l66 y66 z66
        obtain ⟨rfl, N66q, e66⟩ := hQ66
        have N66 := Fr.app N64 N66q
        refine Go.st (V' := T66.setTop (mkF m 151 #[.val (.int p0), .val (.int p1), .val (.int p2), .val (.int ra), .val (.int rb), .val (.ref b30), .val (.ref b32), .val (.int kk), .val (.ref bx51), .val (.int (0 : Int32)), .val (.int (0 : Int32)), .val (.int (0 : Int32)), .val (.int (1 : Int32)), .unset] [(.int (0 : Int32))])) (fun t k => st66.trans k) ?_
        refine Go.st (V' := T66.setTop (mkF m 182 #[.val (.int p0), .val (.int p1), .val (.int p2), .val (.int ra), .val (.int rb), .val (.ref b30), .val (.ref b32), .val (.int kk), .val (.ref bx51), .val (.int (0 : Int32)), .val (.int (0 : Int32)), .val (.int (0 : Int32)), .val (.int (1 : Int32)), .val (.int (0 : Int32))] [(.int (1 : Int32))])) (fun t k => ?_) ?_
        · refine XS.istore X66.here hx rfl (hb hby at_151) rfl (l' := #[.val (.int p0), .val (.int p1), .val (.int p2), .val (.int ra), .val (.int rb), .val (.ref b30), .val (.ref b32), .val (.int kk), .val (.ref bx51), .val (.int (0 : Int32)), .val (.int (0 : Int32)), .val (.int (0 : Int32)), .val (.int (1 : Int32)), .val (.int (0 : Int32))]) rfl ?_
          show Steps p.tables e below (T66.setTop (mkF m 153 #[.val (.int p0), .val (.int p1), .val (.int p2), .val (.int ra), .val (.int rb), .val (.ref b30), .val (.ref b32), .val (.int kk), .val (.ref bx51), .val (.int (0 : Int32)), .val (.int (0 : Int32)), .val (.int (0 : Int32)), .val (.int (1 : Int32)), .val (.int (0 : Int32))] [])) _
          refine XS.iload X66.here hx rfl (hb hby at_153) rfl  ?_
          show Steps p.tables e below (T66.setTop (mkF m 155 #[.val (.int p0), .val (.int p1), .val (.int p2), .val (.int ra), .val (.int rb), .val (.ref b30), .val (.ref b32), .val (.int kk), .val (.ref bx51), .val (.int (0 : Int32)), .val (.int (0 : Int32)), .val (.int (0 : Int32)), .val (.int (1 : Int32)), .val (.int (0 : Int32))] [(.int (0 : Int32))])) _
          refine XS.iload X66.here hx rfl (hb hby at_155) rfl  ?_
          show Steps p.tables e below (T66.setTop (mkF m 157 #[.val (.int p0), .val (.int p1), .val (.int p2), .val (.int ra), .val (.int rb), .val (.ref b30), .val (.ref b32), .val (.int kk), .val (.ref bx51), .val (.int (0 : Int32)), .val (.int (0 : Int32)), .val (.int (0 : Int32)), .val (.int (1 : Int32)), .val (.int (0 : Int32))] [(.int (0 : Int32)), (.int (0 : Int32))])) _
          refine XS.icmpNo X66.here hx rfl (hb hby at_157) rfl (teq (by decide : ((0 : Int32) = (0 : Int32)))).2 ?_
          show Steps p.tables e below (T66.setTop (mkF m 160 #[.val (.int p0), .val (.int p1), .val (.int p2), .val (.int ra), .val (.int rb), .val (.ref b30), .val (.ref b32), .val (.int kk), .val (.ref bx51), .val (.int (0 : Int32)), .val (.int (0 : Int32)), .val (.int (0 : Int32)), .val (.int (1 : Int32)), .val (.int (0 : Int32))] [])) _
          refine XS.iload X66.here hx rfl (hb hby at_160) rfl  ?_
          show Steps p.tables e below (T66.setTop (mkF m 162 #[.val (.int p0), .val (.int p1), .val (.int p2), .val (.int ra), .val (.int rb), .val (.ref b30), .val (.ref b32), .val (.int kk), .val (.ref bx51), .val (.int (0 : Int32)), .val (.int (0 : Int32)), .val (.int (0 : Int32)), .val (.int (1 : Int32)), .val (.int (0 : Int32))] [(.int (0 : Int32))])) _
          refine XS.iload X66.here hx rfl (hb hby at_162) rfl  ?_
          show Steps p.tables e below (T66.setTop (mkF m 164 #[.val (.int p0), .val (.int p1), .val (.int p2), .val (.int ra), .val (.int rb), .val (.ref b30), .val (.ref b32), .val (.int kk), .val (.ref bx51), .val (.int (0 : Int32)), .val (.int (0 : Int32)), .val (.int (0 : Int32)), .val (.int (1 : Int32)), .val (.int (0 : Int32))] [(.int (0 : Int32)), (.int (0 : Int32))])) _
          refine XS.icmpNo X66.here hx rfl (hb hby at_164) rfl (teq (by decide : ((0 : Int32) = (0 : Int32)))).2 ?_
          show Steps p.tables e below (T66.setTop (mkF m 167 #[.val (.int p0), .val (.int p1), .val (.int p2), .val (.int ra), .val (.int rb), .val (.ref b30), .val (.ref b32), .val (.int kk), .val (.ref bx51), .val (.int (0 : Int32)), .val (.int (0 : Int32)), .val (.int (0 : Int32)), .val (.int (1 : Int32)), .val (.int (0 : Int32))] [])) _
          refine XS.iload X66.here hx rfl (hb hby at_167) rfl  ?_
          show Steps p.tables e below (T66.setTop (mkF m 169 #[.val (.int p0), .val (.int p1), .val (.int p2), .val (.int ra), .val (.int rb), .val (.ref b30), .val (.ref b32), .val (.int kk), .val (.ref bx51), .val (.int (0 : Int32)), .val (.int (0 : Int32)), .val (.int (0 : Int32)), .val (.int (1 : Int32)), .val (.int (0 : Int32))] [(.int (1 : Int32))])) _
          refine XS.ifNo X66.here hx rfl (hb hby at_169) rfl ((if0 _ _).trans (feq (by decide : ¬ ((1 : Int32) = (0 : Int32)))).1) ?_
          show Steps p.tables e below (T66.setTop (mkF m 172 #[.val (.int p0), .val (.int p1), .val (.int p2), .val (.int ra), .val (.int rb), .val (.ref b30), .val (.ref b32), .val (.int kk), .val (.ref bx51), .val (.int (0 : Int32)), .val (.int (0 : Int32)), .val (.int (0 : Int32)), .val (.int (1 : Int32)), .val (.int (0 : Int32))] [])) _
          refine XS.iload X66.here hx rfl (hb hby at_172) rfl  ?_
          show Steps p.tables e below (T66.setTop (mkF m 174 #[.val (.int p0), .val (.int p1), .val (.int p2), .val (.int ra), .val (.int rb), .val (.ref b30), .val (.ref b32), .val (.int kk), .val (.ref bx51), .val (.int (0 : Int32)), .val (.int (0 : Int32)), .val (.int (0 : Int32)), .val (.int (1 : Int32)), .val (.int (0 : Int32))] [(.int (0 : Int32))])) _
          refine XS.ifNo X66.here hx rfl (hb hby at_174) rfl ((if0 _ _).trans (teq (by decide : ((0 : Int32) = (0 : Int32)))).2) ?_
          show Steps p.tables e below (T66.setTop (mkF m 177 #[.val (.int p0), .val (.int p1), .val (.int p2), .val (.int ra), .val (.int rb), .val (.ref b30), .val (.ref b32), .val (.int kk), .val (.ref bx51), .val (.int (0 : Int32)), .val (.int (0 : Int32)), .val (.int (0 : Int32)), .val (.int (1 : Int32)), .val (.int (0 : Int32))] [])) _
          refine XS.iconst X66.here hx rfl (hb hby at_177) ?_
          show Steps p.tables e below (T66.setTop (mkF m 178 #[.val (.int p0), .val (.int p1), .val (.int p2), .val (.int ra), .val (.int rb), .val (.ref b30), .val (.ref b32), .val (.int kk), .val (.ref bx51), .val (.int (0 : Int32)), .val (.int (0 : Int32)), .val (.int (0 : Int32)), .val (.int (1 : Int32)), .val (.int (0 : Int32))] [(.int (1 : Int32))])) _
          refine XS.goto X66.here hx rfl (pc0 := 178) (pc' := 182) rfl (hb hby at_178) (by decide) (by decide) ?_
          show Steps p.tables e below (T66.setTop (mkF m 182 #[.val (.int p0), .val (.int p1), .val (.int p2), .val (.int ra), .val (.int rb), .val (.ref b30), .val (.ref b32), .val (.int kk), .val (.ref bx51), .val (.int (0 : Int32)), .val (.int (0 : Int32)), .val (.int (0 : Int32)), .val (.int (1 : Int32)), .val (.int (0 : Int32))] [(.int (1 : Int32))])) _
          exact k
        obtain ⟨fs, hr, hrun, hended, hW, hsame⟩ := X66.leave (v := some (.int (1 : Int32))) (fun h => by rw [Bd.returns] at h; cases h)
        refine Go.mk' ⟨_, _, retN X66 hx (t := .boolean) Bd.returns (by simp) (hb hby at_182) hr, hrun, hended, _, _, rfl, ?_, ⟨_, rfl⟩, hW, hsame.mono (by decide) (by decide)⟩
        show Q0 Z p0 p1 p2 h0 n0 _ T66.heap _
        rw [e66]
        exact ⟨rfl, N66⟩
    · refine Go.st (V' := T33.setTop (mkF m 84 #[.val (.int p0), .val (.int p1), .val (.int p2), .val (.int ra), .val (.int rb), .val (.ref b30), .val (.ref b32), .val (.int kk), .unset, .unset, .unset, .unset, .unset, .unset] [(.int (2 : Int32)), (.int kk)])) (fun t k => ?_) ?_
      · refine XS.icmpYes X33.here hx rfl (pc0 := 69) (pc' := 81) rfl (hb hby at_69) rfl (feq hc50).2 (by decide) (by decide) ?_
        show Steps p.tables e below (T33.setTop (mkF m 81 #[.val (.int p0), .val (.int p1), .val (.int p2), .val (.int ra), .val (.int rb), .val (.ref b30), .val (.ref b32), .val (.int kk), .unset, .unset, .unset, .unset, .unset, .unset] [])) _
        refine XS.iload X33.here hx rfl (hb hby at_81) rfl  ?_
        show Steps p.tables e below (T33.setTop (mkF m 83 #[.val (.int p0), .val (.int p1), .val (.int p2), .val (.int ra), .val (.int rb), .val (.ref b30), .val (.ref b32), .val (.int kk), .unset, .unset, .unset, .unset, .unset, .unset] [(.int kk)])) _
        refine XS.iconst X33.here hx rfl (hb hby at_83) ?_
        show Steps p.tables e below (T33.setTop (mkF m 84 #[.val (.int p0), .val (.int p1), .val (.int p2), .val (.int ra), .val (.int rb), .val (.ref b30), .val (.ref b32), .val (.int kk), .unset, .unset, .unset, .unset, .unset, .unset] [(.int (2 : Int32)), (.int kk)])) _
        exact k
      by_cases hc67 : kk = (2 : Int32)
      · refine Go.st (V' := T33.setTop (mkF m 89 #[.val (.int p0), .val (.int p1), .val (.int p2), .val (.int ra), .val (.int rb), .val (.ref b30), .val (.ref b32), .val (.int kk), .unset, .unset, .unset, .unset, .unset, .unset] [(.long (ra.toInt64))])) (fun t k => ?_) ?_
        · refine XS.icmpNo X33.here hx rfl (hb hby at_84) rfl (teq hc67).2 ?_
          show Steps p.tables e below (T33.setTop (mkF m 87 #[.val (.int p0), .val (.int p1), .val (.int p2), .val (.int ra), .val (.int rb), .val (.ref b30), .val (.ref b32), .val (.int kk), .unset, .unset, .unset, .unset, .unset, .unset] [])) _
          refine XS.iloadN X33.here hx rfl (hb hby at_87) rfl  ?_
          show Steps p.tables e below (T33.setTop (mkF m 88 #[.val (.int p0), .val (.int p1), .val (.int p2), .val (.int ra), .val (.int rb), .val (.ref b30), .val (.ref b32), .val (.int kk), .unset, .unset, .unset, .unset, .unset, .unset] [(.int ra)])) _
          refine XS.i2l X33.here hx rfl (hb hby at_88) rfl ?_
          show Steps p.tables e below (T33.setTop (mkF m 89 #[.val (.int p0), .val (.int p1), .val (.int p2), .val (.int ra), .val (.int rb), .val (.ref b30), .val (.ref b32), .val (.int kk), .unset, .unset, .unset, .unset, .unset, .unset] [(.long (ra.toInt64))])) _
          exact k
        obtain ⟨_, _, ⟨T68, L68, k68, n68⟩, -, X68, ⟨Lc68, hQ68, l68, y68, z68⟩, st68⟩ := Jvm.LawKit.callS X33 hx (y := (⟨"java/lang/Long", "valueOf", "(J)Ljava/lang/Long;"⟩ : MethodName)) hown (mvT hZ (hw _ (List.mem_of_getElem? (i := 54) rfl))) (mvT hZ (hw _ (List.mem_of_getElem? (i := 55) rfl))) (mvT hZ (hw _ (List.mem_of_getElem? (i := 56) rfl))) (mvT hZ (hw _ (List.mem_of_getElem? (i := 57) rfl))) (by decide) (backOf (W := 0) (rm9 l Z a0 hw [] s_icache cl_icache s_lcache cl_lcache c_compact HW (ra.toInt64) T33.heap n0 O33 (own_l0 (own_100 hrg_ra))) hZ (hw _ (List.mem_of_getElem? (i := 57) rfl)) (hw _ (List.mem_of_getElem? (i := 56) rfl)) (by decide) (by decide)) (g := (mkF m 89 #[.val (.int p0), .val (.int p1), .val (.int p2), .val (.int ra), .val (.int rb), .val (.ref b30), .val (.ref b32), .val (.int kk), .unset, .unset, .unset, .unset, .unset, .unset] [(.long (ra.toInt64))])) rfl (by rw [hml]; rfl) (argsL := [(.long (ra.toInt64))]) (rest := []) (lenOf own_pd97 rfl) rfl (by show 2 * 0 + _ ≤ _; exact Nat.le_of_eq rfl) (hb hby at_89) (fun _ _ => ⟨rfl, rfl, (by decide : 2 + 0 ≤ _), (by decide : 2 + 0 ≤ _)⟩)
        dsimp only [Pt.U, Pt.locs, Pt.cells, Pt.slots] at X68 l68 y68 z68 st68 hQ68
        subst l68 y68 z68
        obtain ⟨bx68, rfl, N68q, K68, Eb68⟩ := hQ68
        have N68 := Fr.app N33 N68q
        have O68 := O33.keep K68 all0
        refine Go.st (V' := T68.setTop (mkF m 92 #[.val (.int p0), .val (.int p1), .val (.int p2), .val (.int ra), .val (.int rb), .val (.ref b30), .val (.ref b32), .val (.int kk), .unset, .unset, .unset, .unset, .unset, .unset] [(.ref bx68)])) (fun t k => st68 t k) ?_
        refine Go.st (V' := T68.setTop (mkF m 107 #[.val (.int p0), .val (.int p1), .val (.int p2), .val (.int ra), .val (.int rb), .val (.ref b30), .val (.ref b32), .val (.int kk), .val (.ref bx68), .unset, .unset, .unset, .unset, .unset] [(.int rb), (.int ra)])) (fun t k => ?_) ?_
        · refine XS.astore X68.here hx rfl (hb hby at_92) rfl rfl (l' := #[.val (.int p0), .val (.int p1), .val (.int p2), .val (.int ra), .val (.int rb), .val (.ref b30), .val (.ref b32), .val (.int kk), .val (.ref bx68), .unset, .unset, .unset, .unset, .unset]) rfl ?_
          show Steps p.tables e below (T68.setTop (mkF m 94 #[.val (.int p0), .val (.int p1), .val (.int p2), .val (.int ra), .val (.int rb), .val (.ref b30), .val (.ref b32), .val (.int kk), .val (.ref bx68), .unset, .unset, .unset, .unset, .unset] [])) _
          refine XS.goto X68.here hx rfl (pc0 := 94) (pc' := 104) rfl (hb hby at_94) (by decide) (by decide) ?_
          show Steps p.tables e below (T68.setTop (mkF m 104 #[.val (.int p0), .val (.int p1), .val (.int p2), .val (.int ra), .val (.int rb), .val (.ref b30), .val (.ref b32), .val (.int kk), .val (.ref bx68), .unset, .unset, .unset, .unset, .unset] [])) _
          refine XS.iloadN X68.here hx rfl (hb hby at_104) rfl  ?_
          show Steps p.tables e below (T68.setTop (mkF m 105 #[.val (.int p0), .val (.int p1), .val (.int p2), .val (.int ra), .val (.int rb), .val (.ref b30), .val (.ref b32), .val (.int kk), .val (.ref bx68), .unset, .unset, .unset, .unset, .unset] [(.int ra)])) _
          refine XS.iload X68.here hx rfl (hb hby at_105) rfl  ?_
          show Steps p.tables e below (T68.setTop (mkF m 107 #[.val (.int p0), .val (.int p1), .val (.int p2), .val (.int ra), .val (.int rb), .val (.ref b30), .val (.ref b32), .val (.int kk), .val (.ref bx68), .unset, .unset, .unset, .unset, .unset] [(.int rb), (.int ra)])) _
          exact k
        by_cases hc69 : ra = rb
        · refine Go.st (V' := T68.setTop (mkF m 121 #[.val (.int p0), .val (.int p1), .val (.int p2), .val (.int ra), .val (.int rb), .val (.ref b30), .val (.ref b32), .val (.int kk), .val (.ref bx68), .val (.int (1 : Int32)), .unset, .unset, .unset, .unset] [(.ref b32), (.ref b30)])) (fun t k => ?_) ?_
          · refine XS.icmpNo X68.here hx rfl (hb hby at_107) rfl (teq hc69).2 ?_
            show Steps p.tables e below (T68.setTop (mkF m 110 #[.val (.int p0), .val (.int p1), .val (.int p2), .val (.int ra), .val (.int rb), .val (.ref b30), .val (.ref b32), .val (.int kk), .val (.ref bx68), .unset, .unset, .unset, .unset, .unset] [])) _
            refine XS.iconst X68.here hx rfl (hb hby at_110) ?_
            show Steps p.tables e below (T68.setTop (mkF m 111 #[.val (.int p0), .val (.int p1), .val (.int p2), .val (.int ra), .val (.int rb), .val (.ref b30), .val (.ref b32), .val (.int kk), .val (.ref bx68), .unset, .unset, .unset, .unset, .unset] [(.int (1 : Int32))])) _
            refine XS.goto X68.here hx rfl (pc0 := 111) (pc' := 115) rfl (hb hby at_111) (by decide) (by decide) ?_
            show Steps p.tables e below (T68.setTop (mkF m 115 #[.val (.int p0), .val (.int p1), .val (.int p2), .val (.int ra), .val (.int rb), .val (.ref b30), .val (.ref b32), .val (.int kk), .val (.ref bx68), .unset, .unset, .unset, .unset, .unset] [(.int (1 : Int32))])) _
            refine XS.istore X68.here hx rfl (hb hby at_115) rfl (l' := #[.val (.int p0), .val (.int p1), .val (.int p2), .val (.int ra), .val (.int rb), .val (.ref b30), .val (.ref b32), .val (.int kk), .val (.ref bx68), .val (.int (1 : Int32)), .unset, .unset, .unset, .unset]) rfl ?_
            show Steps p.tables e below (T68.setTop (mkF m 117 #[.val (.int p0), .val (.int p1), .val (.int p2), .val (.int ra), .val (.int rb), .val (.ref b30), .val (.ref b32), .val (.int kk), .val (.ref bx68), .val (.int (1 : Int32)), .unset, .unset, .unset, .unset] [])) _
            refine XS.aload X68.here hx rfl (hb hby at_117) rfl rfl ?_
            show Steps p.tables e below (T68.setTop (mkF m 119 #[.val (.int p0), .val (.int p1), .val (.int p2), .val (.int ra), .val (.int rb), .val (.ref b30), .val (.ref b32), .val (.int kk), .val (.ref bx68), .val (.int (1 : Int32)), .unset, .unset, .unset, .unset] [(.ref b30)])) _
            refine XS.aload X68.here hx rfl (hb hby at_119) rfl rfl ?_
            show Steps p.tables e below (T68.setTop (mkF m 121 #[.val (.int p0), .val (.int p1), .val (.int p2), .val (.int ra), .val (.int rb), .val (.ref b30), .val (.ref b32), .val (.int kk), .val (.ref bx68), .val (.int (1 : Int32)), .unset, .unset, .unset, .unset] [(.ref b32), (.ref b30)])) _
            exact k
          obtain ⟨cq70, kq70, q70a, q70b, q70c⟩ := isOf hZ rfl (((f31_1.ext E32).keep K33).keep K68)
          obtain ⟨_, _, ⟨T70, L70, k70, n70⟩, -, X70, ⟨Lc70, hQ70, l70, y70, z70⟩, st70⟩ := X68.virtualBack hx (y := (⟨"com/example/rooted_kinds/rootedkinds/model/Rating", "equals", "(Ljava/lang/Object;)Z"⟩ : MethodName)) (z := (⟨"com/example/rooted_kinds/rootedkinds/model/Rating", "equals", "(Ljava/lang/Object;)Z"⟩ : MethodName)) hown (mvT hZ (hw _ (List.mem_of_getElem? (i := 19) rfl))) (mvT hZ (hw _ (List.mem_of_getElem? (i := 20) rfl))) (notFace_of_selects (args := #[]) (mvT hZ (hw _ (List.mem_of_getElem? (i := 22) rfl)))) (mvT hZ (hw _ (List.mem_of_getElem? (i := 22) rfl))) (mvT hZ (hw _ (List.mem_of_getElem? (i := 21) rfl))) (by decide) (backOf (W := 0) (rm4 l Z a0 hw [] s_icache cl_icache s_lcache cl_lcache c_compact HW b30 b32 ra rb T68.heap n0 O68 (f33_1.keep K68) (((f31_0.ext E32).keep K33 (ninS (Nat.ne_of_lt (Nat.lt_of_lt_of_le f31_1.lt (Nat.le_of_eq g32.symm))) nin0)).keep K68 nin0) (f33_0.keep K68 nin0)) hZ (hw _ (List.mem_of_getElem? (i := 23) rfl)) (hw _ (List.mem_of_getElem? (i := 3) rfl)) (by decide) (by decide)) q70a q70c (g := (mkF m 121 #[.val (.int p0), .val (.int p1), .val (.int p2), .val (.int ra), .val (.int rb), .val (.ref b30), .val (.ref b32), .val (.int kk), .val (.ref bx68), .val (.int (1 : Int32)), .unset, .unset, .unset, .unset] [(.ref b32), (.ref b30)])) rfl (by rw [hml]; rfl) (Steps.refl _) (argsL := [(.ref b32)]) (rest := []) (lenOf own_pd95 rfl) rfl (by show 2 * 0 + _ ≤ _; exact Nat.le_of_eq rfl) (hb hby at_121) (fun _ _ => ⟨rfl, rfl, (by decide : 2 + 0 ≤ _), (by decide : 2 + 0 ≤ _)⟩)
          dsimp only [Pt.U, Pt.locs, Pt.cells, Pt.slots] at X70 l70 y70 z70 st70 hQ70
          subst l70 y70 z70
          obtain ⟨rfl, N70q, e70⟩ := hQ70
          have N70 := Fr.app N68 N70q
          refine Go.st (V' := T70.setTop (mkF m 124 #[.val (.int p0), .val (.int p1), .val (.int p2), .val (.int ra), .val (.int rb), .val (.ref b30), .val (.ref b32), .val (.int kk), .val (.ref bx68), .val (.int (1 : Int32)), .unset, .unset, .unset, .unset] [(.int (f4 ra rb))])) (fun t k => st70.trans k) ?_
          have r71 : (f4 ra rb) = (1 : Int32) := by rw [f4, if_pos hc69]
          rw [r71]
          refine Go.st (V' := T70.setTop (mkF m 130 #[.val (.int p0), .val (.int p1), .val (.int p2), .val (.int ra), .val (.int rb), .val (.ref b30), .val (.ref b32), .val (.int kk), .val (.ref bx68), .val (.int (1 : Int32)), .val (.int (1 : Int32)), .unset, .unset, .unset] [(.ref b30), (.ref b32)])) (fun t k => ?_) ?_
          · refine XS.istore X70.here hx rfl (hb hby at_124) rfl (l' := #[.val (.int p0), .val (.int p1), .val (.int p2), .val (.int ra), .val (.int rb), .val (.ref b30), .val (.ref b32), .val (.int kk), .val (.ref bx68), .val (.int (1 : Int32)), .val (.int (1 : Int32)), .unset, .unset, .unset]) rfl ?_
            show Steps p.tables e below (T70.setTop (mkF m 126 #[.val (.int p0), .val (.int p1), .val (.int p2), .val (.int ra), .val (.int rb), .val (.ref b30), .val (.ref b32), .val (.int kk), .val (.ref bx68), .val (.int (1 : Int32)), .val (.int (1 : Int32)), .unset, .unset, .unset] [])) _
            refine XS.aload X70.here hx rfl (hb hby at_126) rfl rfl ?_
            show Steps p.tables e below (T70.setTop (mkF m 128 #[.val (.int p0), .val (.int p1), .val (.int p2), .val (.int ra), .val (.int rb), .val (.ref b30), .val (.ref b32), .val (.int kk), .val (.ref bx68), .val (.int (1 : Int32)), .val (.int (1 : Int32)), .unset, .unset, .unset] [(.ref b32)])) _
            refine XS.aload X70.here hx rfl (hb hby at_128) rfl rfl ?_
            show Steps p.tables e below (T70.setTop (mkF m 130 #[.val (.int p0), .val (.int p1), .val (.int p2), .val (.int ra), .val (.int rb), .val (.ref b30), .val (.ref b32), .val (.int kk), .val (.ref bx68), .val (.int (1 : Int32)), .val (.int (1 : Int32)), .unset, .unset, .unset] [(.ref b30), (.ref b32)])) _
            exact k
          obtain ⟨cq72, kq72, q72a, q72b, q72c⟩ := isOf hZ e70 (f33_1.keep K68)
          obtain ⟨_, _, ⟨T72, L72, k72, n72⟩, -, X72, ⟨Lc72, hQ72, l72, y72, z72⟩, st72⟩ := X70.virtualBack hx (y := (⟨"com/example/rooted_kinds/rootedkinds/model/Rating", "equals", "(Ljava/lang/Object;)Z"⟩ : MethodName)) (z := (⟨"com/example/rooted_kinds/rootedkinds/model/Rating", "equals", "(Ljava/lang/Object;)Z"⟩ : MethodName)) hown (mvT hZ (hw _ (List.mem_of_getElem? (i := 19) rfl))) (mvT hZ (hw _ (List.mem_of_getElem? (i := 20) rfl))) (notFace_of_selects (args := #[]) (mvT hZ (hw _ (List.mem_of_getElem? (i := 22) rfl)))) (mvT hZ (hw _ (List.mem_of_getElem? (i := 22) rfl))) (mvT hZ (hw _ (List.mem_of_getElem? (i := 21) rfl))) (by decide) (backOf (W := 0) (rm4 l Z a0 hw [] s_icache cl_icache s_lcache cl_lcache c_compact HW b32 b30 rb ra T68.heap n0 O68 (((f31_1.ext E32).keep K33).keep K68) (f33_0.keep K68 nin0) (((f31_0.ext E32).keep K33 (ninS (Nat.ne_of_lt (Nat.lt_of_lt_of_le f31_1.lt (Nat.le_of_eq g32.symm))) nin0)).keep K68 nin0)) hZ (hw _ (List.mem_of_getElem? (i := 23) rfl)) (hw _ (List.mem_of_getElem? (i := 3) rfl)) (by decide) (by decide)) q72a q72c (g := (mkF m 130 #[.val (.int p0), .val (.int p1), .val (.int p2), .val (.int ra), .val (.int rb), .val (.ref b30), .val (.ref b32), .val (.int kk), .val (.ref bx68), .val (.int (1 : Int32)), .val (.int (1 : Int32)), .unset, .unset, .unset] [(.ref b30), (.ref b32)])) rfl (by rw [hml]; rfl) (Steps.refl _) (argsL := [(.ref b30)]) (rest := []) (lenOf own_pd95 rfl) rfl (by show 2 * 0 + _ ≤ _; exact Nat.le_of_eq rfl) (hb hby at_130) (fun _ _ => ⟨rfl, e70, (by decide : 2 + 0 ≤ _), (by decide : 2 + 0 ≤ _)⟩)
          dsimp only [Pt.U, Pt.locs, Pt.cells, Pt.slots] at X72 l72 y72 z72 st72 hQ72
          subst l72 y72 z72
          obtain ⟨rfl, N72q, e72⟩ := hQ72
          have N72 := Fr.app N70 N72q
          refine Go.st (V' := T72.setTop (mkF m 133 #[.val (.int p0), .val (.int p1), .val (.int p2), .val (.int ra), .val (.int rb), .val (.ref b30), .val (.ref b32), .val (.int kk), .val (.ref bx68), .val (.int (1 : Int32)), .val (.int (1 : Int32)), .unset, .unset, .unset] [(.int (f4 rb ra))])) (fun t k => st72.trans k) ?_
          have r73 : (f4 rb ra) = (1 : Int32) := by rw [f4, if_pos (Eq.symm hc69)]
          rw [r73]
          refine Go.st (V' := T72.setTop (mkF m 139 #[.val (.int p0), .val (.int p1), .val (.int p2), .val (.int ra), .val (.int rb), .val (.ref b30), .val (.ref b32), .val (.int kk), .val (.ref bx68), .val (.int (1 : Int32)), .val (.int (1 : Int32)), .val (.int (1 : Int32)), .unset, .unset] [(.ref b30), (.ref b30)])) (fun t k => ?_) ?_
          · refine XS.istore X72.here hx rfl (hb hby at_133) rfl (l' := #[.val (.int p0), .val (.int p1), .val (.int p2), .val (.int ra), .val (.int rb), .val (.ref b30), .val (.ref b32), .val (.int kk), .val (.ref bx68), .val (.int (1 : Int32)), .val (.int (1 : Int32)), .val (.int (1 : Int32)), .unset, .unset]) rfl ?_
            show Steps p.tables e below (T72.setTop (mkF m 135 #[.val (.int p0), .val (.int p1), .val (.int p2), .val (.int ra), .val (.int rb), .val (.ref b30), .val (.ref b32), .val (.int kk), .val (.ref bx68), .val (.int (1 : Int32)), .val (.int (1 : Int32)), .val (.int (1 : Int32)), .unset, .unset] [])) _
            refine XS.aload X72.here hx rfl (hb hby at_135) rfl rfl ?_
            show Steps p.tables e below (T72.setTop (mkF m 137 #[.val (.int p0), .val (.int p1), .val (.int p2), .val (.int ra), .val (.int rb), .val (.ref b30), .val (.ref b32), .val (.int kk), .val (.ref bx68), .val (.int (1 : Int32)), .val (.int (1 : Int32)), .val (.int (1 : Int32)), .unset, .unset] [(.ref b30)])) _
            refine XS.aload X72.here hx rfl (hb hby at_137) rfl rfl ?_
            show Steps p.tables e below (T72.setTop (mkF m 139 #[.val (.int p0), .val (.int p1), .val (.int p2), .val (.int ra), .val (.int rb), .val (.ref b30), .val (.ref b32), .val (.int kk), .val (.ref bx68), .val (.int (1 : Int32)), .val (.int (1 : Int32)), .val (.int (1 : Int32)), .unset, .unset] [(.ref b30), (.ref b30)])) _
            exact k
          obtain ⟨cq74, kq74, q74a, q74b, q74c⟩ := isOf hZ e72 (((f31_1.ext E32).keep K33).keep K68)
          obtain ⟨_, _, ⟨T74, L74, k74, n74⟩, -, X74, ⟨Lc74, hQ74, l74, y74, z74⟩, st74⟩ := X72.virtualBack hx (y := (⟨"com/example/rooted_kinds/rootedkinds/model/Rating", "equals", "(Ljava/lang/Object;)Z"⟩ : MethodName)) (z := (⟨"com/example/rooted_kinds/rootedkinds/model/Rating", "equals", "(Ljava/lang/Object;)Z"⟩ : MethodName)) hown (mvT hZ (hw _ (List.mem_of_getElem? (i := 19) rfl))) (mvT hZ (hw _ (List.mem_of_getElem? (i := 20) rfl))) (notFace_of_selects (args := #[]) (mvT hZ (hw _ (List.mem_of_getElem? (i := 22) rfl)))) (mvT hZ (hw _ (List.mem_of_getElem? (i := 22) rfl))) (mvT hZ (hw _ (List.mem_of_getElem? (i := 21) rfl))) (by decide) (backOf (W := 0) (rm4 l Z a0 hw [] s_icache cl_icache s_lcache cl_lcache c_compact HW b30 b30 ra ra T68.heap n0 O68 (((f31_1.ext E32).keep K33).keep K68) (((f31_0.ext E32).keep K33 (ninS (Nat.ne_of_lt (Nat.lt_of_lt_of_le f31_1.lt (Nat.le_of_eq g32.symm))) nin0)).keep K68 nin0) (((f31_0.ext E32).keep K33 (ninS (Nat.ne_of_lt (Nat.lt_of_lt_of_le f31_1.lt (Nat.le_of_eq g32.symm))) nin0)).keep K68 nin0)) hZ (hw _ (List.mem_of_getElem? (i := 23) rfl)) (hw _ (List.mem_of_getElem? (i := 3) rfl)) (by decide) (by decide)) q74a q74c (g := (mkF m 139 #[.val (.int p0), .val (.int p1), .val (.int p2), .val (.int ra), .val (.int rb), .val (.ref b30), .val (.ref b32), .val (.int kk), .val (.ref bx68), .val (.int (1 : Int32)), .val (.int (1 : Int32)), .val (.int (1 : Int32)), .unset, .unset] [(.ref b30), (.ref b30)])) rfl (by rw [hml]; rfl) (Steps.refl _) (argsL := [(.ref b30)]) (rest := []) (lenOf own_pd95 rfl) rfl (by show 2 * 0 + _ ≤ _; exact Nat.le_of_eq rfl) (hb hby at_139) (fun _ _ => ⟨rfl, e72, (by decide : 2 + 0 ≤ _), (by decide : 2 + 0 ≤ _)⟩)
          dsimp only [Pt.U, Pt.locs, Pt.cells, Pt.slots] at X74 l74 y74 z74 st74 hQ74
          subst l74 y74 z74
          obtain ⟨rfl, N74q, e74⟩ := hQ74
          have N74 := Fr.app N72 N74q
          refine Go.st (V' := T74.setTop (mkF m 142 #[.val (.int p0), .val (.int p1), .val (.int p2), .val (.int ra), .val (.int rb), .val (.ref b30), .val (.ref b32), .val (.int kk), .val (.ref bx68), .val (.int (1 : Int32)), .val (.int (1 : Int32)), .val (.int (1 : Int32)), .unset, .unset] [(.int (f4 ra ra))])) (fun t k => st74.trans k) ?_
          have r75 : (f4 ra ra) = (1 : Int32) := by rw [f4, if_pos (rfl : ra = ra)]
          rw [r75]
          refine Go.st (V' := T74.setTop (mkF m 148 #[.val (.int p0), .val (.int p1), .val (.int p2), .val (.int ra), .val (.int rb), .val (.ref b30), .val (.ref b32), .val (.int kk), .val (.ref bx68), .val (.int (1 : Int32)), .val (.int (1 : Int32)), .val (.int (1 : Int32)), .val (.int (1 : Int32)), .unset] [(.ref bx68), (.ref b30)])) (fun t k => ?_) ?_
          · refine XS.istore X74.here hx rfl (hb hby at_142) rfl (l' := #[.val (.int p0), .val (.int p1), .val (.int p2), .val (.int ra), .val (.int rb), .val (.ref b30), .val (.ref b32), .val (.int kk), .val (.ref bx68), .val (.int (1 : Int32)), .val (.int (1 : Int32)), .val (.int (1 : Int32)), .val (.int (1 : Int32)), .unset]) rfl ?_
            show Steps p.tables e below (T74.setTop (mkF m 144 #[.val (.int p0), .val (.int p1), .val (.int p2), .val (.int ra), .val (.int rb), .val (.ref b30), .val (.ref b32), .val (.int kk), .val (.ref bx68), .val (.int (1 : Int32)), .val (.int (1 : Int32)), .val (.int (1 : Int32)), .val (.int (1 : Int32)), .unset] [])) _
            refine XS.aload X74.here hx rfl (hb hby at_144) rfl rfl ?_
            show Steps p.tables e below (T74.setTop (mkF m 146 #[.val (.int p0), .val (.int p1), .val (.int p2), .val (.int ra), .val (.int rb), .val (.ref b30), .val (.ref b32), .val (.int kk), .val (.ref bx68), .val (.int (1 : Int32)), .val (.int (1 : Int32)), .val (.int (1 : Int32)), .val (.int (1 : Int32)), .unset] [(.ref b30)])) _
            refine XS.aload X74.here hx rfl (hb hby at_146) rfl rfl ?_
            show Steps p.tables e below (T74.setTop (mkF m 148 #[.val (.int p0), .val (.int p1), .val (.int p2), .val (.int ra), .val (.int rb), .val (.ref b30), .val (.ref b32), .val (.int kk), .val (.ref bx68), .val (.int (1 : Int32)), .val (.int (1 : Int32)), .val (.int (1 : Int32)), .val (.int (1 : Int32)), .unset] [(.ref bx68), (.ref b30)])) _
            exact k
          obtain ⟨cq76, kq76, q76a, q76b, q76c⟩ := isOf hZ e74 (((f31_1.ext E32).keep K33).keep K68)
          obtain ⟨_, _, ⟨T76, L76, k76, n76⟩, -, X76, ⟨Lc76, hQ76, l76, y76, z76⟩, st76⟩ := X74.virtualBack hx (y := (⟨"com/example/rooted_kinds/rootedkinds/model/Rating", "equals", "(Ljava/lang/Object;)Z"⟩ : MethodName)) (z := (⟨"com/example/rooted_kinds/rootedkinds/model/Rating", "equals", "(Ljava/lang/Object;)Z"⟩ : MethodName)) hown (mvT hZ (hw _ (List.mem_of_getElem? (i := 19) rfl))) (mvT hZ (hw _ (List.mem_of_getElem? (i := 20) rfl))) (notFace_of_selects (args := #[]) (mvT hZ (hw _ (List.mem_of_getElem? (i := 22) rfl)))) (mvT hZ (hw _ (List.mem_of_getElem? (i := 22) rfl))) (mvT hZ (hw _ (List.mem_of_getElem? (i := 21) rfl))) (by decide) (backOf (W := 0) (rm4l l Z a0 hw [] s_icache cl_icache s_lcache cl_lcache c_compact HW b30 bx68 T68.heap n0 O68 Eb68) hZ (hw _ (List.mem_of_getElem? (i := 23) rfl)) (hw _ (List.mem_of_getElem? (i := 3) rfl)) (by decide) (by decide)) q76a q76c (g := (mkF m 148 #[.val (.int p0), .val (.int p1), .val (.int p2), .val (.int ra), .val (.int rb), .val (.ref b30), .val (.ref b32), .val (.int kk), .val (.ref bx68), .val (.int (1 : Int32)), .val (.int (1 : Int32)), .val (.int (1 : Int32)), .val (.int (1 : Int32)), .unset] [(.ref bx68), (.ref b30)])) rfl (by rw [hml]; rfl) (Steps.refl _) (argsL := [(.ref bx68)]) (rest := []) (lenOf own_pd95 rfl) rfl (by show 2 * 0 + _ ≤ _; exact Nat.le_of_eq rfl) (hb hby at_148) (fun _ _ => ⟨rfl, e74, (by decide : 2 + 0 ≤ _), (by decide : 2 + 0 ≤ _)⟩)
          dsimp only [Pt.U, Pt.locs, Pt.cells, Pt.slots] at X76 l76 y76 z76 st76 hQ76
          subst l76 y76 z76
          obtain ⟨rfl, N76q, e76⟩ := hQ76
          have N76 := Fr.app N74 N76q
          refine Go.st (V' := T76.setTop (mkF m 151 #[.val (.int p0), .val (.int p1), .val (.int p2), .val (.int ra), .val (.int rb), .val (.ref b30), .val (.ref b32), .val (.int kk), .val (.ref bx68), .val (.int (1 : Int32)), .val (.int (1 : Int32)), .val (.int (1 : Int32)), .val (.int (1 : Int32)), .unset] [(.int (0 : Int32))])) (fun t k => st76.trans k) ?_
          refine Go.st (V' := T76.setTop (mkF m 182 #[.val (.int p0), .val (.int p1), .val (.int p2), .val (.int ra), .val (.int rb), .val (.ref b30), .val (.ref b32), .val (.int kk), .val (.ref bx68), .val (.int (1 : Int32)), .val (.int (1 : Int32)), .val (.int (1 : Int32)), .val (.int (1 : Int32)), .val (.int (0 : Int32))] [(.int (1 : Int32))])) (fun t k => ?_) ?_
          · refine XS.istore X76.here hx rfl (hb hby at_151) rfl (l' := #[.val (.int p0), .val (.int p1), .val (.int p2), .val (.int ra), .val (.int rb), .val (.ref b30), .val (.ref b32), .val (.int kk), .val (.ref bx68), .val (.int (1 : Int32)), .val (.int (1 : Int32)), .val (.int (1 : Int32)), .val (.int (1 : Int32)), .val (.int (0 : Int32))]) rfl ?_
            show Steps p.tables e below (T76.setTop (mkF m 153 #[.val (.int p0), .val (.int p1), .val (.int p2), .val (.int ra), .val (.int rb), .val (.ref b30), .val (.ref b32), .val (.int kk), .val (.ref bx68), .val (.int (1 : Int32)), .val (.int (1 : Int32)), .val (.int (1 : Int32)), .val (.int (1 : Int32)), .val (.int (0 : Int32))] [])) _
            refine XS.iload X76.here hx rfl (hb hby at_153) rfl  ?_
            show Steps p.tables e below (T76.setTop (mkF m 155 #[.val (.int p0), .val (.int p1), .val (.int p2), .val (.int ra), .val (.int rb), .val (.ref b30), .val (.ref b32), .val (.int kk), .val (.ref bx68), .val (.int (1 : Int32)), .val (.int (1 : Int32)), .val (.int (1 : Int32)), .val (.int (1 : Int32)), .val (.int (0 : Int32))] [(.int (1 : Int32))])) _
            refine XS.iload X76.here hx rfl (hb hby at_155) rfl  ?_
            show Steps p.tables e below (T76.setTop (mkF m 157 #[.val (.int p0), .val (.int p1), .val (.int p2), .val (.int ra), .val (.int rb), .val (.ref b30), .val (.ref b32), .val (.int kk), .val (.ref bx68), .val (.int (1 : Int32)), .val (.int (1 : Int32)), .val (.int (1 : Int32)), .val (.int (1 : Int32)), .val (.int (0 : Int32))] [(.int (1 : Int32)), (.int (1 : Int32))])) _
            refine XS.icmpNo X76.here hx rfl (hb hby at_157) rfl (teq (by decide : ((1 : Int32) = (1 : Int32)))).2 ?_
            show Steps p.tables e below (T76.setTop (mkF m 160 #[.val (.int p0), .val (.int p1), .val (.int p2), .val (.int ra), .val (.int rb), .val (.ref b30), .val (.ref b32), .val (.int kk), .val (.ref bx68), .val (.int (1 : Int32)), .val (.int (1 : Int32)), .val (.int (1 : Int32)), .val (.int (1 : Int32)), .val (.int (0 : Int32))] [])) _
            refine XS.iload X76.here hx rfl (hb hby at_160) rfl  ?_
            show Steps p.tables e below (T76.setTop (mkF m 162 #[.val (.int p0), .val (.int p1), .val (.int p2), .val (.int ra), .val (.int rb), .val (.ref b30), .val (.ref b32), .val (.int kk), .val (.ref bx68), .val (.int (1 : Int32)), .val (.int (1 : Int32)), .val (.int (1 : Int32)), .val (.int (1 : Int32)), .val (.int (0 : Int32))] [(.int (1 : Int32))])) _
            refine XS.iload X76.here hx rfl (hb hby at_162) rfl  ?_
            show Steps p.tables e below (T76.setTop (mkF m 164 #[.val (.int p0), .val (.int p1), .val (.int p2), .val (.int ra), .val (.int rb), .val (.ref b30), .val (.ref b32), .val (.int kk), .val (.ref bx68), .val (.int (1 : Int32)), .val (.int (1 : Int32)), .val (.int (1 : Int32)), .val (.int (1 : Int32)), .val (.int (0 : Int32))] [(.int (1 : Int32)), (.int (1 : Int32))])) _
            refine XS.icmpNo X76.here hx rfl (hb hby at_164) rfl (teq (by decide : ((1 : Int32) = (1 : Int32)))).2 ?_
            show Steps p.tables e below (T76.setTop (mkF m 167 #[.val (.int p0), .val (.int p1), .val (.int p2), .val (.int ra), .val (.int rb), .val (.ref b30), .val (.ref b32), .val (.int kk), .val (.ref bx68), .val (.int (1 : Int32)), .val (.int (1 : Int32)), .val (.int (1 : Int32)), .val (.int (1 : Int32)), .val (.int (0 : Int32))] [])) _
            refine XS.iload X76.here hx rfl (hb hby at_167) rfl  ?_
            show Steps p.tables e below (T76.setTop (mkF m 169 #[.val (.int p0), .val (.int p1), .val (.int p2), .val (.int ra), .val (.int rb), .val (.ref b30), .val (.ref b32), .val (.int kk), .val (.ref bx68), .val (.int (1 : Int32)), .val (.int (1 : Int32)), .val (.int (1 : Int32)), .val (.int (1 : Int32)), .val (.int (0 : Int32))] [(.int (1 : Int32))])) _
            refine XS.ifNo X76.here hx rfl (hb hby at_169) rfl ((if0 _ _).trans (feq (by decide : ¬ ((1 : Int32) = (0 : Int32)))).1) ?_
            show Steps p.tables e below (T76.setTop (mkF m 172 #[.val (.int p0), .val (.int p1), .val (.int p2), .val (.int ra), .val (.int rb), .val (.ref b30), .val (.ref b32), .val (.int kk), .val (.ref bx68), .val (.int (1 : Int32)), .val (.int (1 : Int32)), .val (.int (1 : Int32)), .val (.int (1 : Int32)), .val (.int (0 : Int32))] [])) _
            refine XS.iload X76.here hx rfl (hb hby at_172) rfl  ?_
            show Steps p.tables e below (T76.setTop (mkF m 174 #[.val (.int p0), .val (.int p1), .val (.int p2), .val (.int ra), .val (.int rb), .val (.ref b30), .val (.ref b32), .val (.int kk), .val (.ref bx68), .val (.int (1 : Int32)), .val (.int (1 : Int32)), .val (.int (1 : Int32)), .val (.int (1 : Int32)), .val (.int (0 : Int32))] [(.int (0 : Int32))])) _
            refine XS.ifNo X76.here hx rfl (hb hby at_174) rfl ((if0 _ _).trans (teq (by decide : ((0 : Int32) = (0 : Int32)))).2) ?_
            show Steps p.tables e below (T76.setTop (mkF m 177 #[.val (.int p0), .val (.int p1), .val (.int p2), .val (.int ra), .val (.int rb), .val (.ref b30), .val (.ref b32), .val (.int kk), .val (.ref bx68), .val (.int (1 : Int32)), .val (.int (1 : Int32)), .val (.int (1 : Int32)), .val (.int (1 : Int32)), .val (.int (0 : Int32))] [])) _
            refine XS.iconst X76.here hx rfl (hb hby at_177) ?_
            show Steps p.tables e below (T76.setTop (mkF m 178 #[.val (.int p0), .val (.int p1), .val (.int p2), .val (.int ra), .val (.int rb), .val (.ref b30), .val (.ref b32), .val (.int kk), .val (.ref bx68), .val (.int (1 : Int32)), .val (.int (1 : Int32)), .val (.int (1 : Int32)), .val (.int (1 : Int32)), .val (.int (0 : Int32))] [(.int (1 : Int32))])) _
            refine XS.goto X76.here hx rfl (pc0 := 178) (pc' := 182) rfl (hb hby at_178) (by decide) (by decide) ?_
            show Steps p.tables e below (T76.setTop (mkF m 182 #[.val (.int p0), .val (.int p1), .val (.int p2), .val (.int ra), .val (.int rb), .val (.ref b30), .val (.ref b32), .val (.int kk), .val (.ref bx68), .val (.int (1 : Int32)), .val (.int (1 : Int32)), .val (.int (1 : Int32)), .val (.int (1 : Int32)), .val (.int (0 : Int32))] [(.int (1 : Int32))])) _
            exact k
          obtain ⟨fs, hr, hrun, hended, hW, hsame⟩ := X76.leave (v := some (.int (1 : Int32))) (fun h => by rw [Bd.returns] at h; cases h)
          refine Go.mk' ⟨_, _, retN X76 hx (t := .boolean) Bd.returns (by simp) (hb hby at_182) hr, hrun, hended, _, _, rfl, ?_, ⟨_, rfl⟩, hW, hsame.mono (by decide) (by decide)⟩
          show Q0 Z p0 p1 p2 h0 n0 _ T76.heap _
          rw [e76]
          exact ⟨rfl, N76⟩
        · refine Go.st (V' := T68.setTop (mkF m 121 #[.val (.int p0), .val (.int p1), .val (.int p2), .val (.int ra), .val (.int rb), .val (.ref b30), .val (.ref b32), .val (.int kk), .val (.ref bx68), .val (.int (0 : Int32)), .unset, .unset, .unset, .unset] [(.ref b32), (.ref b30)])) (fun t k => ?_) ?_
          · refine XS.icmpYes X68.here hx rfl (pc0 := 107) (pc' := 114) rfl (hb hby at_107) rfl (feq hc69).2 (by decide) (by decide) ?_
            show Steps p.tables e below (T68.setTop (mkF m 114 #[.val (.int p0), .val (.int p1), .val (.int p2), .val (.int ra), .val (.int rb), .val (.ref b30), .val (.ref b32), .val (.int kk), .val (.ref bx68), .unset, .unset, .unset, .unset, .unset] [])) _
            refine XS.iconst X68.here hx rfl (hb hby at_114) ?_
            show Steps p.tables e below (T68.setTop (mkF m 115 #[.val (.int p0), .val (.int p1), .val (.int p2), .val (.int ra), .val (.int rb), .val (.ref b30), .val (.ref b32), .val (.int kk), .val (.ref bx68), .unset, .unset, .unset, .unset, .unset] [(.int (0 : Int32))])) _
            refine XS.istore X68.here hx rfl (hb hby at_115) rfl (l' := #[.val (.int p0), .val (.int p1), .val (.int p2), .val (.int ra), .val (.int rb), .val (.ref b30), .val (.ref b32), .val (.int kk), .val (.ref bx68), .val (.int (0 : Int32)), .unset, .unset, .unset, .unset]) rfl ?_
            show Steps p.tables e below (T68.setTop (mkF m 117 #[.val (.int p0), .val (.int p1), .val (.int p2), .val (.int ra), .val (.int rb), .val (.ref b30), .val (.ref b32), .val (.int kk), .val (.ref bx68), .val (.int (0 : Int32)), .unset, .unset, .unset, .unset] [])) _
            refine XS.aload X68.here hx rfl (hb hby at_117) rfl rfl ?_
            show Steps p.tables e below (T68.setTop (mkF m 119 #[.val (.int p0), .val (.int p1), .val (.int p2), .val (.int ra), .val (.int rb), .val (.ref b30), .val (.ref b32), .val (.int kk), .val (.ref bx68), .val (.int (0 : Int32)), .unset, .unset, .unset, .unset] [(.ref b30)])) _
            refine XS.aload X68.here hx rfl (hb hby at_119) rfl rfl ?_
            show Steps p.tables e below (T68.setTop (mkF m 121 #[.val (.int p0), .val (.int p1), .val (.int p2), .val (.int ra), .val (.int rb), .val (.ref b30), .val (.ref b32), .val (.int kk), .val (.ref bx68), .val (.int (0 : Int32)), .unset, .unset, .unset, .unset] [(.ref b32), (.ref b30)])) _
            exact k
          obtain ⟨cq77, kq77, q77a, q77b, q77c⟩ := isOf hZ rfl (((f31_1.ext E32).keep K33).keep K68)
          obtain ⟨_, _, ⟨T77, L77, k77, n77⟩, -, X77, ⟨Lc77, hQ77, l77, y77, z77⟩, st77⟩ := X68.virtualBack hx (y := (⟨"com/example/rooted_kinds/rootedkinds/model/Rating", "equals", "(Ljava/lang/Object;)Z"⟩ : MethodName)) (z := (⟨"com/example/rooted_kinds/rootedkinds/model/Rating", "equals", "(Ljava/lang/Object;)Z"⟩ : MethodName)) hown (mvT hZ (hw _ (List.mem_of_getElem? (i := 19) rfl))) (mvT hZ (hw _ (List.mem_of_getElem? (i := 20) rfl))) (notFace_of_selects (args := #[]) (mvT hZ (hw _ (List.mem_of_getElem? (i := 22) rfl)))) (mvT hZ (hw _ (List.mem_of_getElem? (i := 22) rfl))) (mvT hZ (hw _ (List.mem_of_getElem? (i := 21) rfl))) (by decide) (backOf (W := 0) (rm4 l Z a0 hw [] s_icache cl_icache s_lcache cl_lcache c_compact HW b30 b32 ra rb T68.heap n0 O68 (f33_1.keep K68) (((f31_0.ext E32).keep K33 (ninS (Nat.ne_of_lt (Nat.lt_of_lt_of_le f31_1.lt (Nat.le_of_eq g32.symm))) nin0)).keep K68 nin0) (f33_0.keep K68 nin0)) hZ (hw _ (List.mem_of_getElem? (i := 23) rfl)) (hw _ (List.mem_of_getElem? (i := 3) rfl)) (by decide) (by decide)) q77a q77c (g := (mkF m 121 #[.val (.int p0), .val (.int p1), .val (.int p2), .val (.int ra), .val (.int rb), .val (.ref b30), .val (.ref b32), .val (.int kk), .val (.ref bx68), .val (.int (0 : Int32)), .unset, .unset, .unset, .unset] [(.ref b32), (.ref b30)])) rfl (by rw [hml]; rfl) (Steps.refl _) (argsL := [(.ref b32)]) (rest := []) (lenOf own_pd95 rfl) rfl (by show 2 * 0 + _ ≤ _; exact Nat.le_of_eq rfl) (hb hby at_121) (fun _ _ => ⟨rfl, rfl, (by decide : 2 + 0 ≤ _), (by decide : 2 + 0 ≤ _)⟩)
          dsimp only [Pt.U, Pt.locs, Pt.cells, Pt.slots] at X77 l77 y77 z77 st77 hQ77
          subst l77 y77 z77
          obtain ⟨rfl, N77q, e77⟩ := hQ77
          have N77 := Fr.app N68 N77q
          refine Go.st (V' := T77.setTop (mkF m 124 #[.val (.int p0), .val (.int p1), .val (.int p2), .val (.int ra), .val (.int rb), .val (.ref b30), .val (.ref b32), .val (.int kk), .val (.ref bx68), .val (.int (0 : Int32)), .unset, .unset, .unset, .unset] [(.int (f4 ra rb))])) (fun t k => st77.trans k) ?_
          have r78 : (f4 ra rb) = (0 : Int32) := by rw [f4, if_neg hc69]
          rw [r78]
          refine Go.st (V' := T77.setTop (mkF m 130 #[.val (.int p0), .val (.int p1), .val (.int p2), .val (.int ra), .val (.int rb), .val (.ref b30), .val (.ref b32), .val (.int kk), .val (.ref bx68), .val (.int (0 : Int32)), .val (.int (0 : Int32)), .unset, .unset, .unset] [(.ref b30), (.ref b32)])) (fun t k => ?_) ?_
          · refine XS.istore X77.here hx rfl (hb hby at_124) rfl (l' := #[.val (.int p0), .val (.int p1), .val (.int p2), .val (.int ra), .val (.int rb), .val (.ref b30), .val (.ref b32), .val (.int kk), .val (.ref bx68), .val (.int (0 : Int32)), .val (.int (0 : Int32)), .unset, .unset, .unset]) rfl ?_
            show Steps p.tables e below (T77.setTop (mkF m 126 #[.val (.int p0), .val (.int p1), .val (.int p2), .val (.int ra), .val (.int rb), .val (.ref b30), .val (.ref b32), .val (.int kk), .val (.ref bx68), .val (.int (0 : Int32)), .val (.int (0 : Int32)), .unset, .unset, .unset] [])) _
            refine XS.aload X77.here hx rfl (hb hby at_126) rfl rfl ?_
            show Steps p.tables e below (T77.setTop (mkF m 128 #[.val (.int p0), .val (.int p1), .val (.int p2), .val (.int ra), .val (.int rb), .val (.ref b30), .val (.ref b32), .val (.int kk), .val (.ref bx68), .val (.int (0 : Int32)), .val (.int (0 : Int32)), .unset, .unset, .unset] [(.ref b32)])) _
            refine XS.aload X77.here hx rfl (hb hby at_128) rfl rfl ?_
            show Steps p.tables e below (T77.setTop (mkF m 130 #[.val (.int p0), .val (.int p1), .val (.int p2), .val (.int ra), .val (.int rb), .val (.ref b30), .val (.ref b32), .val (.int kk), .val (.ref bx68), .val (.int (0 : Int32)), .val (.int (0 : Int32)), .unset, .unset, .unset] [(.ref b30), (.ref b32)])) _
            exact k
          obtain ⟨cq79, kq79, q79a, q79b, q79c⟩ := isOf hZ e77 (f33_1.keep K68)
          obtain ⟨_, _, ⟨T79, L79, k79, n79⟩, -, X79, ⟨Lc79, hQ79, l79, y79, z79⟩, st79⟩ := X77.virtualBack hx (y := (⟨"com/example/rooted_kinds/rootedkinds/model/Rating", "equals", "(Ljava/lang/Object;)Z"⟩ : MethodName)) (z := (⟨"com/example/rooted_kinds/rootedkinds/model/Rating", "equals", "(Ljava/lang/Object;)Z"⟩ : MethodName)) hown (mvT hZ (hw _ (List.mem_of_getElem? (i := 19) rfl))) (mvT hZ (hw _ (List.mem_of_getElem? (i := 20) rfl))) (notFace_of_selects (args := #[]) (mvT hZ (hw _ (List.mem_of_getElem? (i := 22) rfl)))) (mvT hZ (hw _ (List.mem_of_getElem? (i := 22) rfl))) (mvT hZ (hw _ (List.mem_of_getElem? (i := 21) rfl))) (by decide) (backOf (W := 0) (rm4 l Z a0 hw [] s_icache cl_icache s_lcache cl_lcache c_compact HW b32 b30 rb ra T68.heap n0 O68 (((f31_1.ext E32).keep K33).keep K68) (f33_0.keep K68 nin0) (((f31_0.ext E32).keep K33 (ninS (Nat.ne_of_lt (Nat.lt_of_lt_of_le f31_1.lt (Nat.le_of_eq g32.symm))) nin0)).keep K68 nin0)) hZ (hw _ (List.mem_of_getElem? (i := 23) rfl)) (hw _ (List.mem_of_getElem? (i := 3) rfl)) (by decide) (by decide)) q79a q79c (g := (mkF m 130 #[.val (.int p0), .val (.int p1), .val (.int p2), .val (.int ra), .val (.int rb), .val (.ref b30), .val (.ref b32), .val (.int kk), .val (.ref bx68), .val (.int (0 : Int32)), .val (.int (0 : Int32)), .unset, .unset, .unset] [(.ref b30), (.ref b32)])) rfl (by rw [hml]; rfl) (Steps.refl _) (argsL := [(.ref b30)]) (rest := []) (lenOf own_pd95 rfl) rfl (by show 2 * 0 + _ ≤ _; exact Nat.le_of_eq rfl) (hb hby at_130) (fun _ _ => ⟨rfl, e77, (by decide : 2 + 0 ≤ _), (by decide : 2 + 0 ≤ _)⟩)
          dsimp only [Pt.U, Pt.locs, Pt.cells, Pt.slots] at X79 l79 y79 z79 st79 hQ79
          subst l79 y79 z79
          obtain ⟨rfl, N79q, e79⟩ := hQ79
          have N79 := Fr.app N77 N79q
          refine Go.st (V' := T79.setTop (mkF m 133 #[.val (.int p0), .val (.int p1), .val (.int p2), .val (.int ra), .val (.int rb), .val (.ref b30), .val (.ref b32), .val (.int kk), .val (.ref bx68), .val (.int (0 : Int32)), .val (.int (0 : Int32)), .unset, .unset, .unset] [(.int (f4 rb ra))])) (fun t k => st79.trans k) ?_
          have r80 : (f4 rb ra) = (0 : Int32) := by rw [f4, if_neg (Ne.symm hc69)]
          rw [r80]
          refine Go.st (V' := T79.setTop (mkF m 139 #[.val (.int p0), .val (.int p1), .val (.int p2), .val (.int ra), .val (.int rb), .val (.ref b30), .val (.ref b32), .val (.int kk), .val (.ref bx68), .val (.int (0 : Int32)), .val (.int (0 : Int32)), .val (.int (0 : Int32)), .unset, .unset] [(.ref b30), (.ref b30)])) (fun t k => ?_) ?_
          · refine XS.istore X79.here hx rfl (hb hby at_133) rfl (l' := #[.val (.int p0), .val (.int p1), .val (.int p2), .val (.int ra), .val (.int rb), .val (.ref b30), .val (.ref b32), .val (.int kk), .val (.ref bx68), .val (.int (0 : Int32)), .val (.int (0 : Int32)), .val (.int (0 : Int32)), .unset, .unset]) rfl ?_
            show Steps p.tables e below (T79.setTop (mkF m 135 #[.val (.int p0), .val (.int p1), .val (.int p2), .val (.int ra), .val (.int rb), .val (.ref b30), .val (.ref b32), .val (.int kk), .val (.ref bx68), .val (.int (0 : Int32)), .val (.int (0 : Int32)), .val (.int (0 : Int32)), .unset, .unset] [])) _
            refine XS.aload X79.here hx rfl (hb hby at_135) rfl rfl ?_
            show Steps p.tables e below (T79.setTop (mkF m 137 #[.val (.int p0), .val (.int p1), .val (.int p2), .val (.int ra), .val (.int rb), .val (.ref b30), .val (.ref b32), .val (.int kk), .val (.ref bx68), .val (.int (0 : Int32)), .val (.int (0 : Int32)), .val (.int (0 : Int32)), .unset, .unset] [(.ref b30)])) _
            refine XS.aload X79.here hx rfl (hb hby at_137) rfl rfl ?_
            show Steps p.tables e below (T79.setTop (mkF m 139 #[.val (.int p0), .val (.int p1), .val (.int p2), .val (.int ra), .val (.int rb), .val (.ref b30), .val (.ref b32), .val (.int kk), .val (.ref bx68), .val (.int (0 : Int32)), .val (.int (0 : Int32)), .val (.int (0 : Int32)), .unset, .unset] [(.ref b30), (.ref b30)])) _
            exact k
          obtain ⟨cq81, kq81, q81a, q81b, q81c⟩ := isOf hZ e79 (((f31_1.ext E32).keep K33).keep K68)
          obtain ⟨_, _, ⟨T81, L81, k81, n81⟩, -, X81, ⟨Lc81, hQ81, l81, y81, z81⟩, st81⟩ := X79.virtualBack hx (y := (⟨"com/example/rooted_kinds/rootedkinds/model/Rating", "equals", "(Ljava/lang/Object;)Z"⟩ : MethodName)) (z := (⟨"com/example/rooted_kinds/rootedkinds/model/Rating", "equals", "(Ljava/lang/Object;)Z"⟩ : MethodName)) hown (mvT hZ (hw _ (List.mem_of_getElem? (i := 19) rfl))) (mvT hZ (hw _ (List.mem_of_getElem? (i := 20) rfl))) (notFace_of_selects (args := #[]) (mvT hZ (hw _ (List.mem_of_getElem? (i := 22) rfl)))) (mvT hZ (hw _ (List.mem_of_getElem? (i := 22) rfl))) (mvT hZ (hw _ (List.mem_of_getElem? (i := 21) rfl))) (by decide) (backOf (W := 0) (rm4 l Z a0 hw [] s_icache cl_icache s_lcache cl_lcache c_compact HW b30 b30 ra ra T68.heap n0 O68 (((f31_1.ext E32).keep K33).keep K68) (((f31_0.ext E32).keep K33 (ninS (Nat.ne_of_lt (Nat.lt_of_lt_of_le f31_1.lt (Nat.le_of_eq g32.symm))) nin0)).keep K68 nin0) (((f31_0.ext E32).keep K33 (ninS (Nat.ne_of_lt (Nat.lt_of_lt_of_le f31_1.lt (Nat.le_of_eq g32.symm))) nin0)).keep K68 nin0)) hZ (hw _ (List.mem_of_getElem? (i := 23) rfl)) (hw _ (List.mem_of_getElem? (i := 3) rfl)) (by decide) (by decide)) q81a q81c (g := (mkF m 139 #[.val (.int p0), .val (.int p1), .val (.int p2), .val (.int ra), .val (.int rb), .val (.ref b30), .val (.ref b32), .val (.int kk), .val (.ref bx68), .val (.int (0 : Int32)), .val (.int (0 : Int32)), .val (.int (0 : Int32)), .unset, .unset] [(.ref b30), (.ref b30)])) rfl (by rw [hml]; rfl) (Steps.refl _) (argsL := [(.ref b30)]) (rest := []) (lenOf own_pd95 rfl) rfl (by show 2 * 0 + _ ≤ _; exact Nat.le_of_eq rfl) (hb hby at_139) (fun _ _ => ⟨rfl, e79, (by decide : 2 + 0 ≤ _), (by decide : 2 + 0 ≤ _)⟩)
          dsimp only [Pt.U, Pt.locs, Pt.cells, Pt.slots] at X81 l81 y81 z81 st81 hQ81
          subst l81 y81 z81
          obtain ⟨rfl, N81q, e81⟩ := hQ81
          have N81 := Fr.app N79 N81q
          refine Go.st (V' := T81.setTop (mkF m 142 #[.val (.int p0), .val (.int p1), .val (.int p2), .val (.int ra), .val (.int rb), .val (.ref b30), .val (.ref b32), .val (.int kk), .val (.ref bx68), .val (.int (0 : Int32)), .val (.int (0 : Int32)), .val (.int (0 : Int32)), .unset, .unset] [(.int (f4 ra ra))])) (fun t k => st81.trans k) ?_
          have r82 : (f4 ra ra) = (1 : Int32) := by rw [f4, if_pos (rfl : ra = ra)]
          rw [r82]
          refine Go.st (V' := T81.setTop (mkF m 148 #[.val (.int p0), .val (.int p1), .val (.int p2), .val (.int ra), .val (.int rb), .val (.ref b30), .val (.ref b32), .val (.int kk), .val (.ref bx68), .val (.int (0 : Int32)), .val (.int (0 : Int32)), .val (.int (0 : Int32)), .val (.int (1 : Int32)), .unset] [(.ref bx68), (.ref b30)])) (fun t k => ?_) ?_
          · refine XS.istore X81.here hx rfl (hb hby at_142) rfl (l' := #[.val (.int p0), .val (.int p1), .val (.int p2), .val (.int ra), .val (.int rb), .val (.ref b30), .val (.ref b32), .val (.int kk), .val (.ref bx68), .val (.int (0 : Int32)), .val (.int (0 : Int32)), .val (.int (0 : Int32)), .val (.int (1 : Int32)), .unset]) rfl ?_
            show Steps p.tables e below (T81.setTop (mkF m 144 #[.val (.int p0), .val (.int p1), .val (.int p2), .val (.int ra), .val (.int rb), .val (.ref b30), .val (.ref b32), .val (.int kk), .val (.ref bx68), .val (.int (0 : Int32)), .val (.int (0 : Int32)), .val (.int (0 : Int32)), .val (.int (1 : Int32)), .unset] [])) _
            refine XS.aload X81.here hx rfl (hb hby at_144) rfl rfl ?_
            show Steps p.tables e below (T81.setTop (mkF m 146 #[.val (.int p0), .val (.int p1), .val (.int p2), .val (.int ra), .val (.int rb), .val (.ref b30), .val (.ref b32), .val (.int kk), .val (.ref bx68), .val (.int (0 : Int32)), .val (.int (0 : Int32)), .val (.int (0 : Int32)), .val (.int (1 : Int32)), .unset] [(.ref b30)])) _
            refine XS.aload X81.here hx rfl (hb hby at_146) rfl rfl ?_
            show Steps p.tables e below (T81.setTop (mkF m 148 #[.val (.int p0), .val (.int p1), .val (.int p2), .val (.int ra), .val (.int rb), .val (.ref b30), .val (.ref b32), .val (.int kk), .val (.ref bx68), .val (.int (0 : Int32)), .val (.int (0 : Int32)), .val (.int (0 : Int32)), .val (.int (1 : Int32)), .unset] [(.ref bx68), (.ref b30)])) _
            exact k
          obtain ⟨cq83, kq83, q83a, q83b, q83c⟩ := isOf hZ e81 (((f31_1.ext E32).keep K33).keep K68)
          obtain ⟨_, _, ⟨T83, L83, k83, n83⟩, -, X83, ⟨Lc83, hQ83, l83, y83, z83⟩, st83⟩ := X81.virtualBack hx (y := (⟨"com/example/rooted_kinds/rootedkinds/model/Rating", "equals", "(Ljava/lang/Object;)Z"⟩ : MethodName)) (z := (⟨"com/example/rooted_kinds/rootedkinds/model/Rating", "equals", "(Ljava/lang/Object;)Z"⟩ : MethodName)) hown (mvT hZ (hw _ (List.mem_of_getElem? (i := 19) rfl))) (mvT hZ (hw _ (List.mem_of_getElem? (i := 20) rfl))) (notFace_of_selects (args := #[]) (mvT hZ (hw _ (List.mem_of_getElem? (i := 22) rfl)))) (mvT hZ (hw _ (List.mem_of_getElem? (i := 22) rfl))) (mvT hZ (hw _ (List.mem_of_getElem? (i := 21) rfl))) (by decide) (backOf (W := 0) (rm4l l Z a0 hw [] s_icache cl_icache s_lcache cl_lcache c_compact HW b30 bx68 T68.heap n0 O68 Eb68) hZ (hw _ (List.mem_of_getElem? (i := 23) rfl)) (hw _ (List.mem_of_getElem? (i := 3) rfl)) (by decide) (by decide)) q83a q83c (g := (mkF m 148 #[.val (.int p0), .val (.int p1), .val (.int p2), .val (.int ra), .val (.int rb), .val (.ref b30), .val (.ref b32), .val (.int kk), .val (.ref bx68), .val (.int (0 : Int32)), .val (.int (0 : Int32)), .val (.int (0 : Int32)), .val (.int (1 : Int32)), .unset] [(.ref bx68), (.ref b30)])) rfl (by rw [hml]; rfl) (Steps.refl _) (argsL := [(.ref bx68)]) (rest := []) (lenOf own_pd95 rfl) rfl (by show 2 * 0 + _ ≤ _; exact Nat.le_of_eq rfl) (hb hby at_148) (fun _ _ => ⟨rfl, e81, (by decide : 2 + 0 ≤ _), (by decide : 2 + 0 ≤ _)⟩)
          dsimp only [Pt.U, Pt.locs, Pt.cells, Pt.slots] at X83 l83 y83 z83 st83 hQ83
          subst l83 y83 z83
          obtain ⟨rfl, N83q, e83⟩ := hQ83
          have N83 := Fr.app N81 N83q
          refine Go.st (V' := T83.setTop (mkF m 151 #[.val (.int p0), .val (.int p1), .val (.int p2), .val (.int ra), .val (.int rb), .val (.ref b30), .val (.ref b32), .val (.int kk), .val (.ref bx68), .val (.int (0 : Int32)), .val (.int (0 : Int32)), .val (.int (0 : Int32)), .val (.int (1 : Int32)), .unset] [(.int (0 : Int32))])) (fun t k => st83.trans k) ?_
          refine Go.st (V' := T83.setTop (mkF m 182 #[.val (.int p0), .val (.int p1), .val (.int p2), .val (.int ra), .val (.int rb), .val (.ref b30), .val (.ref b32), .val (.int kk), .val (.ref bx68), .val (.int (0 : Int32)), .val (.int (0 : Int32)), .val (.int (0 : Int32)), .val (.int (1 : Int32)), .val (.int (0 : Int32))] [(.int (1 : Int32))])) (fun t k => ?_) ?_
          · refine XS.istore X83.here hx rfl (hb hby at_151) rfl (l' := #[.val (.int p0), .val (.int p1), .val (.int p2), .val (.int ra), .val (.int rb), .val (.ref b30), .val (.ref b32), .val (.int kk), .val (.ref bx68), .val (.int (0 : Int32)), .val (.int (0 : Int32)), .val (.int (0 : Int32)), .val (.int (1 : Int32)), .val (.int (0 : Int32))]) rfl ?_
            show Steps p.tables e below (T83.setTop (mkF m 153 #[.val (.int p0), .val (.int p1), .val (.int p2), .val (.int ra), .val (.int rb), .val (.ref b30), .val (.ref b32), .val (.int kk), .val (.ref bx68), .val (.int (0 : Int32)), .val (.int (0 : Int32)), .val (.int (0 : Int32)), .val (.int (1 : Int32)), .val (.int (0 : Int32))] [])) _
            refine XS.iload X83.here hx rfl (hb hby at_153) rfl  ?_
            show Steps p.tables e below (T83.setTop (mkF m 155 #[.val (.int p0), .val (.int p1), .val (.int p2), .val (.int ra), .val (.int rb), .val (.ref b30), .val (.ref b32), .val (.int kk), .val (.ref bx68), .val (.int (0 : Int32)), .val (.int (0 : Int32)), .val (.int (0 : Int32)), .val (.int (1 : Int32)), .val (.int (0 : Int32))] [(.int (0 : Int32))])) _
            refine XS.iload X83.here hx rfl (hb hby at_155) rfl  ?_
            show Steps p.tables e below (T83.setTop (mkF m 157 #[.val (.int p0), .val (.int p1), .val (.int p2), .val (.int ra), .val (.int rb), .val (.ref b30), .val (.ref b32), .val (.int kk), .val (.ref bx68), .val (.int (0 : Int32)), .val (.int (0 : Int32)), .val (.int (0 : Int32)), .val (.int (1 : Int32)), .val (.int (0 : Int32))] [(.int (0 : Int32)), (.int (0 : Int32))])) _
            refine XS.icmpNo X83.here hx rfl (hb hby at_157) rfl (teq (by decide : ((0 : Int32) = (0 : Int32)))).2 ?_
            show Steps p.tables e below (T83.setTop (mkF m 160 #[.val (.int p0), .val (.int p1), .val (.int p2), .val (.int ra), .val (.int rb), .val (.ref b30), .val (.ref b32), .val (.int kk), .val (.ref bx68), .val (.int (0 : Int32)), .val (.int (0 : Int32)), .val (.int (0 : Int32)), .val (.int (1 : Int32)), .val (.int (0 : Int32))] [])) _
            refine XS.iload X83.here hx rfl (hb hby at_160) rfl  ?_
            show Steps p.tables e below (T83.setTop (mkF m 162 #[.val (.int p0), .val (.int p1), .val (.int p2), .val (.int ra), .val (.int rb), .val (.ref b30), .val (.ref b32), .val (.int kk), .val (.ref bx68), .val (.int (0 : Int32)), .val (.int (0 : Int32)), .val (.int (0 : Int32)), .val (.int (1 : Int32)), .val (.int (0 : Int32))] [(.int (0 : Int32))])) _
            refine XS.iload X83.here hx rfl (hb hby at_162) rfl  ?_
            show Steps p.tables e below (T83.setTop (mkF m 164 #[.val (.int p0), .val (.int p1), .val (.int p2), .val (.int ra), .val (.int rb), .val (.ref b30), .val (.ref b32), .val (.int kk), .val (.ref bx68), .val (.int (0 : Int32)), .val (.int (0 : Int32)), .val (.int (0 : Int32)), .val (.int (1 : Int32)), .val (.int (0 : Int32))] [(.int (0 : Int32)), (.int (0 : Int32))])) _
            refine XS.icmpNo X83.here hx rfl (hb hby at_164) rfl (teq (by decide : ((0 : Int32) = (0 : Int32)))).2 ?_
            show Steps p.tables e below (T83.setTop (mkF m 167 #[.val (.int p0), .val (.int p1), .val (.int p2), .val (.int ra), .val (.int rb), .val (.ref b30), .val (.ref b32), .val (.int kk), .val (.ref bx68), .val (.int (0 : Int32)), .val (.int (0 : Int32)), .val (.int (0 : Int32)), .val (.int (1 : Int32)), .val (.int (0 : Int32))] [])) _
            refine XS.iload X83.here hx rfl (hb hby at_167) rfl  ?_
            show Steps p.tables e below (T83.setTop (mkF m 169 #[.val (.int p0), .val (.int p1), .val (.int p2), .val (.int ra), .val (.int rb), .val (.ref b30), .val (.ref b32), .val (.int kk), .val (.ref bx68), .val (.int (0 : Int32)), .val (.int (0 : Int32)), .val (.int (0 : Int32)), .val (.int (1 : Int32)), .val (.int (0 : Int32))] [(.int (1 : Int32))])) _
            refine XS.ifNo X83.here hx rfl (hb hby at_169) rfl ((if0 _ _).trans (feq (by decide : ¬ ((1 : Int32) = (0 : Int32)))).1) ?_
            show Steps p.tables e below (T83.setTop (mkF m 172 #[.val (.int p0), .val (.int p1), .val (.int p2), .val (.int ra), .val (.int rb), .val (.ref b30), .val (.ref b32), .val (.int kk), .val (.ref bx68), .val (.int (0 : Int32)), .val (.int (0 : Int32)), .val (.int (0 : Int32)), .val (.int (1 : Int32)), .val (.int (0 : Int32))] [])) _
            refine XS.iload X83.here hx rfl (hb hby at_172) rfl  ?_
            show Steps p.tables e below (T83.setTop (mkF m 174 #[.val (.int p0), .val (.int p1), .val (.int p2), .val (.int ra), .val (.int rb), .val (.ref b30), .val (.ref b32), .val (.int kk), .val (.ref bx68), .val (.int (0 : Int32)), .val (.int (0 : Int32)), .val (.int (0 : Int32)), .val (.int (1 : Int32)), .val (.int (0 : Int32))] [(.int (0 : Int32))])) _
            refine XS.ifNo X83.here hx rfl (hb hby at_174) rfl ((if0 _ _).trans (teq (by decide : ((0 : Int32) = (0 : Int32)))).2) ?_
            show Steps p.tables e below (T83.setTop (mkF m 177 #[.val (.int p0), .val (.int p1), .val (.int p2), .val (.int ra), .val (.int rb), .val (.ref b30), .val (.ref b32), .val (.int kk), .val (.ref bx68), .val (.int (0 : Int32)), .val (.int (0 : Int32)), .val (.int (0 : Int32)), .val (.int (1 : Int32)), .val (.int (0 : Int32))] [])) _
            refine XS.iconst X83.here hx rfl (hb hby at_177) ?_
            show Steps p.tables e below (T83.setTop (mkF m 178 #[.val (.int p0), .val (.int p1), .val (.int p2), .val (.int ra), .val (.int rb), .val (.ref b30), .val (.ref b32), .val (.int kk), .val (.ref bx68), .val (.int (0 : Int32)), .val (.int (0 : Int32)), .val (.int (0 : Int32)), .val (.int (1 : Int32)), .val (.int (0 : Int32))] [(.int (1 : Int32))])) _
            refine XS.goto X83.here hx rfl (pc0 := 178) (pc' := 182) rfl (hb hby at_178) (by decide) (by decide) ?_
            show Steps p.tables e below (T83.setTop (mkF m 182 #[.val (.int p0), .val (.int p1), .val (.int p2), .val (.int ra), .val (.int rb), .val (.ref b30), .val (.ref b32), .val (.int kk), .val (.ref bx68), .val (.int (0 : Int32)), .val (.int (0 : Int32)), .val (.int (0 : Int32)), .val (.int (1 : Int32)), .val (.int (0 : Int32))] [(.int (1 : Int32))])) _
            exact k
          obtain ⟨fs, hr, hrun, hended, hW, hsame⟩ := X83.leave (v := some (.int (1 : Int32))) (fun h => by rw [Bd.returns] at h; cases h)
          refine Go.mk' ⟨_, _, retN X83 hx (t := .boolean) Bd.returns (by simp) (hb hby at_182) hr, hrun, hended, _, _, rfl, ?_, ⟨_, rfl⟩, hW, hsame.mono (by decide) (by decide)⟩
          show Q0 Z p0 p1 p2 h0 n0 _ T83.heap _
          rw [e83]
          exact ⟨rfl, N83⟩
      · refine Go.st (V' := T33.setTop (mkF m 99 #[.val (.int p0), .val (.int p1), .val (.int p2), .val (.int ra), .val (.int rb), .val (.ref b30), .val (.ref b32), .val (.int kk), .unset, .unset, .unset, .unset, .unset, .unset] [(.int (ra.toUInt32.toUInt16.toUInt32.toInt32))])) (fun t k => ?_) ?_
        · refine XS.icmpYes X33.here hx rfl (pc0 := 84) (pc' := 97) rfl (hb hby at_84) rfl (feq hc67).2 (by decide) (by decide) ?_
          show Steps p.tables e below (T33.setTop (mkF m 97 #[.val (.int p0), .val (.int p1), .val (.int p2), .val (.int ra), .val (.int rb), .val (.ref b30), .val (.ref b32), .val (.int kk), .unset, .unset, .unset, .unset, .unset, .unset] [])) _
          refine XS.iloadN X33.here hx rfl (hb hby at_97) rfl  ?_
          show Steps p.tables e below (T33.setTop (mkF m 98 #[.val (.int p0), .val (.int p1), .val (.int p2), .val (.int ra), .val (.int rb), .val (.ref b30), .val (.ref b32), .val (.int kk), .unset, .unset, .unset, .unset, .unset, .unset] [(.int ra)])) _
          refine XS.i2c X33.here hx rfl (hb hby at_98) rfl ?_
          show Steps p.tables e below (T33.setTop (mkF m 99 #[.val (.int p0), .val (.int p1), .val (.int p2), .val (.int ra), .val (.int rb), .val (.ref b30), .val (.ref b32), .val (.int kk), .unset, .unset, .unset, .unset, .unset, .unset] [(.int (ra.toUInt32.toUInt16.toUInt32.toInt32))])) _
          exact k
        obtain ⟨_, _, ⟨T84, L84, k84, n84⟩, -, X84, ⟨Lc84, hQ84, l84, y84, z84⟩, st84⟩ := Jvm.LawKit.callS X33 hx (y := (⟨"java/lang/String", "valueOf", "(C)Ljava/lang/String;"⟩ : MethodName)) hown (mvT hZ (hw _ (List.mem_of_getElem? (i := 29) rfl))) (mvT hZ (hw _ (List.mem_of_getElem? (i := 30) rfl))) (mvT hZ (hw _ (List.mem_of_getElem? (i := 31) rfl))) (mvT hZ (hw _ (List.mem_of_getElem? (i := 32) rfl))) (by decide) (backOf (W := 0) (rm5 l Z a0 hw [] s_icache cl_icache s_lcache cl_lcache c_compact HW (ra.toUInt32.toUInt16.toUInt32.toInt32) T33.heap n0 O33 (own_c1 (own_100 hrg_ra))) hZ (hw _ (List.mem_of_getElem? (i := 32) rfl)) (hw _ (List.mem_of_getElem? (i := 31) rfl)) (by decide) (by decide)) (g := (mkF m 99 #[.val (.int p0), .val (.int p1), .val (.int p2), .val (.int ra), .val (.int rb), .val (.ref b30), .val (.ref b32), .val (.int kk), .unset, .unset, .unset, .unset, .unset, .unset] [(.int (ra.toUInt32.toUInt16.toUInt32.toInt32))])) rfl (by rw [hml]; rfl) (argsL := [(.int (ra.toUInt32.toUInt16.toUInt32.toInt32))]) (rest := []) (lenOf own_pd98 rfl) rfl (by show 2 * 0 + _ ≤ _; exact Nat.le_of_eq rfl) (hb hby at_99) (fun _ _ => ⟨rfl, rfl, (by decide : 2 + 2 ≤ _), (by decide : 2 + 5 ≤ _)⟩)
        dsimp only [Pt.U, Pt.locs, Pt.cells, Pt.slots] at X84 l84 y84 z84 st84 hQ84
        subst l84 y84 z84
        obtain ⟨b84_y0, rfl, N84q, K84, sz84_y0, f84_0⟩ := hQ84
        have N84 := Fr.app N33 N84q
        have O84 := O33.keep K84 all0
        have g_b84_y0 : n0 ≤ b84_y0 := Nat.le_trans (Nat.le_trans (Nat.le_of_eq O33.1.symm) O33.2.1) sz84_y0
        refine Go.st (V' := T84.setTop (mkF m 102 #[.val (.int p0), .val (.int p1), .val (.int p2), .val (.int ra), .val (.int rb), .val (.ref b30), .val (.ref b32), .val (.int kk), .unset, .unset, .unset, .unset, .unset, .unset] [(.ref b84_y0)])) (fun t k => st84 t k) ?_
        refine Go.st (V' := T84.setTop (mkF m 107 #[.val (.int p0), .val (.int p1), .val (.int p2), .val (.int ra), .val (.int rb), .val (.ref b30), .val (.ref b32), .val (.int kk), .val (.ref b84_y0), .unset, .unset, .unset, .unset, .unset] [(.int rb), (.int ra)])) (fun t k => ?_) ?_
        · refine XS.astore X84.here hx rfl (hb hby at_102) rfl rfl (l' := #[.val (.int p0), .val (.int p1), .val (.int p2), .val (.int ra), .val (.int rb), .val (.ref b30), .val (.ref b32), .val (.int kk), .val (.ref b84_y0), .unset, .unset, .unset, .unset, .unset]) rfl ?_
          show Steps p.tables e below (T84.setTop (mkF m 104 #[.val (.int p0), .val (.int p1), .val (.int p2), .val (.int ra), .val (.int rb), .val (.ref b30), .val (.ref b32), .val (.int kk), .val (.ref b84_y0), .unset, .unset, .unset, .unset, .unset] [])) _
          refine XS.iloadN X84.here hx rfl (hb hby at_104) rfl  ?_
          show Steps p.tables e below (T84.setTop (mkF m 105 #[.val (.int p0), .val (.int p1), .val (.int p2), .val (.int ra), .val (.int rb), .val (.ref b30), .val (.ref b32), .val (.int kk), .val (.ref b84_y0), .unset, .unset, .unset, .unset, .unset] [(.int ra)])) _
          refine XS.iload X84.here hx rfl (hb hby at_105) rfl  ?_
          show Steps p.tables e below (T84.setTop (mkF m 107 #[.val (.int p0), .val (.int p1), .val (.int p2), .val (.int ra), .val (.int rb), .val (.ref b30), .val (.ref b32), .val (.int kk), .val (.ref b84_y0), .unset, .unset, .unset, .unset, .unset] [(.int rb), (.int ra)])) _
          exact k
        by_cases hc85 : ra = rb
        · refine Go.st (V' := T84.setTop (mkF m 121 #[.val (.int p0), .val (.int p1), .val (.int p2), .val (.int ra), .val (.int rb), .val (.ref b30), .val (.ref b32), .val (.int kk), .val (.ref b84_y0), .val (.int (1 : Int32)), .unset, .unset, .unset, .unset] [(.ref b32), (.ref b30)])) (fun t k => ?_) ?_
          · refine XS.icmpNo X84.here hx rfl (hb hby at_107) rfl (teq hc85).2 ?_
            show Steps p.tables e below (T84.setTop (mkF m 110 #[.val (.int p0), .val (.int p1), .val (.int p2), .val (.int ra), .val (.int rb), .val (.ref b30), .val (.ref b32), .val (.int kk), .val (.ref b84_y0), .unset, .unset, .unset, .unset, .unset] [])) _
            refine XS.iconst X84.here hx rfl (hb hby at_110) ?_
            show Steps p.tables e below (T84.setTop (mkF m 111 #[.val (.int p0), .val (.int p1), .val (.int p2), .val (.int ra), .val (.int rb), .val (.ref b30), .val (.ref b32), .val (.int kk), .val (.ref b84_y0), .unset, .unset, .unset, .unset, .unset] [(.int (1 : Int32))])) _
            refine XS.goto X84.here hx rfl (pc0 := 111) (pc' := 115) rfl (hb hby at_111) (by decide) (by decide) ?_
            show Steps p.tables e below (T84.setTop (mkF m 115 #[.val (.int p0), .val (.int p1), .val (.int p2), .val (.int ra), .val (.int rb), .val (.ref b30), .val (.ref b32), .val (.int kk), .val (.ref b84_y0), .unset, .unset, .unset, .unset, .unset] [(.int (1 : Int32))])) _
            refine XS.istore X84.here hx rfl (hb hby at_115) rfl (l' := #[.val (.int p0), .val (.int p1), .val (.int p2), .val (.int ra), .val (.int rb), .val (.ref b30), .val (.ref b32), .val (.int kk), .val (.ref b84_y0), .val (.int (1 : Int32)), .unset, .unset, .unset, .unset]) rfl ?_
            show Steps p.tables e below (T84.setTop (mkF m 117 #[.val (.int p0), .val (.int p1), .val (.int p2), .val (.int ra), .val (.int rb), .val (.ref b30), .val (.ref b32), .val (.int kk), .val (.ref b84_y0), .val (.int (1 : Int32)), .unset, .unset, .unset, .unset] [])) _
            refine XS.aload X84.here hx rfl (hb hby at_117) rfl rfl ?_
            show Steps p.tables e below (T84.setTop (mkF m 119 #[.val (.int p0), .val (.int p1), .val (.int p2), .val (.int ra), .val (.int rb), .val (.ref b30), .val (.ref b32), .val (.int kk), .val (.ref b84_y0), .val (.int (1 : Int32)), .unset, .unset, .unset, .unset] [(.ref b30)])) _
            refine XS.aload X84.here hx rfl (hb hby at_119) rfl rfl ?_
            show Steps p.tables e below (T84.setTop (mkF m 121 #[.val (.int p0), .val (.int p1), .val (.int p2), .val (.int ra), .val (.int rb), .val (.ref b30), .val (.ref b32), .val (.int kk), .val (.ref b84_y0), .val (.int (1 : Int32)), .unset, .unset, .unset, .unset] [(.ref b32), (.ref b30)])) _
            exact k
          obtain ⟨cq86, kq86, q86a, q86b, q86c⟩ := isOf hZ rfl (((f31_1.ext E32).keep K33).keep K84)
          obtain ⟨_, _, ⟨T86, L86, k86, n86⟩, -, X86, ⟨Lc86, hQ86, l86, y86, z86⟩, st86⟩ := X84.virtualBack hx (y := (⟨"com/example/rooted_kinds/rootedkinds/model/Rating", "equals", "(Ljava/lang/Object;)Z"⟩ : MethodName)) (z := (⟨"com/example/rooted_kinds/rootedkinds/model/Rating", "equals", "(Ljava/lang/Object;)Z"⟩ : MethodName)) hown (mvT hZ (hw _ (List.mem_of_getElem? (i := 19) rfl))) (mvT hZ (hw _ (List.mem_of_getElem? (i := 20) rfl))) (notFace_of_selects (args := #[]) (mvT hZ (hw _ (List.mem_of_getElem? (i := 22) rfl)))) (mvT hZ (hw _ (List.mem_of_getElem? (i := 22) rfl))) (mvT hZ (hw _ (List.mem_of_getElem? (i := 21) rfl))) (by decide) (backOf (W := 0) (rm4 l Z a0 hw [] s_icache cl_icache s_lcache cl_lcache c_compact HW b30 b32 ra rb T84.heap n0 O84 (f33_1.keep K84) (((f31_0.ext E32).keep K33 (ninS (Nat.ne_of_lt (Nat.lt_of_lt_of_le f31_1.lt (Nat.le_of_eq g32.symm))) nin0)).keep K84 nin0) (f33_0.keep K84 nin0)) hZ (hw _ (List.mem_of_getElem? (i := 23) rfl)) (hw _ (List.mem_of_getElem? (i := 3) rfl)) (by decide) (by decide)) q86a q86c (g := (mkF m 121 #[.val (.int p0), .val (.int p1), .val (.int p2), .val (.int ra), .val (.int rb), .val (.ref b30), .val (.ref b32), .val (.int kk), .val (.ref b84_y0), .val (.int (1 : Int32)), .unset, .unset, .unset, .unset] [(.ref b32), (.ref b30)])) rfl (by rw [hml]; rfl) (Steps.refl _) (argsL := [(.ref b32)]) (rest := []) (lenOf own_pd95 rfl) rfl (by show 2 * 0 + _ ≤ _; exact Nat.le_of_eq rfl) (hb hby at_121) (fun _ _ => ⟨rfl, rfl, (by decide : 4 + 0 ≤ _), (by decide : 7 + 0 ≤ _)⟩)
          dsimp only [Pt.U, Pt.locs, Pt.cells, Pt.slots] at X86 l86 y86 z86 st86 hQ86
          subst l86 y86 z86
          obtain ⟨rfl, N86q, e86⟩ := hQ86
          have N86 := Fr.app N84 N86q
          refine Go.st (V' := T86.setTop (mkF m 124 #[.val (.int p0), .val (.int p1), .val (.int p2), .val (.int ra), .val (.int rb), .val (.ref b30), .val (.ref b32), .val (.int kk), .val (.ref b84_y0), .val (.int (1 : Int32)), .unset, .unset, .unset, .unset] [(.int (f4 ra rb))])) (fun t k => st86.trans k) ?_
          have r87 : (f4 ra rb) = (1 : Int32) := by rw [f4, if_pos hc85]
          rw [r87]
          refine Go.st (V' := T86.setTop (mkF m 130 #[.val (.int p0), .val (.int p1), .val (.int p2), .val (.int ra), .val (.int rb), .val (.ref b30), .val (.ref b32), .val (.int kk), .val (.ref b84_y0), .val (.int (1 : Int32)), .val (.int (1 : Int32)), .unset, .unset, .unset] [(.ref b30), (.ref b32)])) (fun t k => ?_) ?_
          · refine XS.istore X86.here hx rfl (hb hby at_124) rfl (l' := #[.val (.int p0), .val (.int p1), .val (.int p2), .val (.int ra), .val (.int rb), .val (.ref b30), .val (.ref b32), .val (.int kk), .val (.ref b84_y0), .val (.int (1 : Int32)), .val (.int (1 : Int32)), .unset, .unset, .unset]) rfl ?_
            show Steps p.tables e below (T86.setTop (mkF m 126 #[.val (.int p0), .val (.int p1), .val (.int p2), .val (.int ra), .val (.int rb), .val (.ref b30), .val (.ref b32), .val (.int kk), .val (.ref b84_y0), .val (.int (1 : Int32)), .val (.int (1 : Int32)), .unset, .unset, .unset] [])) _
            refine XS.aload X86.here hx rfl (hb hby at_126) rfl rfl ?_
            show Steps p.tables e below (T86.setTop (mkF m 128 #[.val (.int p0), .val (.int p1), .val (.int p2), .val (.int ra), .val (.int rb), .val (.ref b30), .val (.ref b32), .val (.int kk), .val (.ref b84_y0), .val (.int (1 : Int32)), .val (.int (1 : Int32)), .unset, .unset, .unset] [(.ref b32)])) _
            refine XS.aload X86.here hx rfl (hb hby at_128) rfl rfl ?_
            show Steps p.tables e below (T86.setTop (mkF m 130 #[.val (.int p0), .val (.int p1), .val (.int p2), .val (.int ra), .val (.int rb), .val (.ref b30), .val (.ref b32), .val (.int kk), .val (.ref b84_y0), .val (.int (1 : Int32)), .val (.int (1 : Int32)), .unset, .unset, .unset] [(.ref b30), (.ref b32)])) _
            exact k
          obtain ⟨cq88, kq88, q88a, q88b, q88c⟩ := isOf hZ e86 (f33_1.keep K84)
          obtain ⟨_, _, ⟨T88, L88, k88, n88⟩, -, X88, ⟨Lc88, hQ88, l88, y88, z88⟩, st88⟩ := X86.virtualBack hx (y := (⟨"com/example/rooted_kinds/rootedkinds/model/Rating", "equals", "(Ljava/lang/Object;)Z"⟩ : MethodName)) (z := (⟨"com/example/rooted_kinds/rootedkinds/model/Rating", "equals", "(Ljava/lang/Object;)Z"⟩ : MethodName)) hown (mvT hZ (hw _ (List.mem_of_getElem? (i := 19) rfl))) (mvT hZ (hw _ (List.mem_of_getElem? (i := 20) rfl))) (notFace_of_selects (args := #[]) (mvT hZ (hw _ (List.mem_of_getElem? (i := 22) rfl)))) (mvT hZ (hw _ (List.mem_of_getElem? (i := 22) rfl))) (mvT hZ (hw _ (List.mem_of_getElem? (i := 21) rfl))) (by decide) (backOf (W := 0) (rm4 l Z a0 hw [] s_icache cl_icache s_lcache cl_lcache c_compact HW b32 b30 rb ra T84.heap n0 O84 (((f31_1.ext E32).keep K33).keep K84) (f33_0.keep K84 nin0) (((f31_0.ext E32).keep K33 (ninS (Nat.ne_of_lt (Nat.lt_of_lt_of_le f31_1.lt (Nat.le_of_eq g32.symm))) nin0)).keep K84 nin0)) hZ (hw _ (List.mem_of_getElem? (i := 23) rfl)) (hw _ (List.mem_of_getElem? (i := 3) rfl)) (by decide) (by decide)) q88a q88c (g := (mkF m 130 #[.val (.int p0), .val (.int p1), .val (.int p2), .val (.int ra), .val (.int rb), .val (.ref b30), .val (.ref b32), .val (.int kk), .val (.ref b84_y0), .val (.int (1 : Int32)), .val (.int (1 : Int32)), .unset, .unset, .unset] [(.ref b30), (.ref b32)])) rfl (by rw [hml]; rfl) (Steps.refl _) (argsL := [(.ref b30)]) (rest := []) (lenOf own_pd95 rfl) rfl (by show 2 * 0 + _ ≤ _; exact Nat.le_of_eq rfl) (hb hby at_130) (fun _ _ => ⟨rfl, e86, (by decide : 4 + 0 ≤ _), (by decide : 7 + 0 ≤ _)⟩)
          dsimp only [Pt.U, Pt.locs, Pt.cells, Pt.slots] at X88 l88 y88 z88 st88 hQ88
          subst l88 y88 z88
          obtain ⟨rfl, N88q, e88⟩ := hQ88
          have N88 := Fr.app N86 N88q
          refine Go.st (V' := T88.setTop (mkF m 133 #[.val (.int p0), .val (.int p1), .val (.int p2), .val (.int ra), .val (.int rb), .val (.ref b30), .val (.ref b32), .val (.int kk), .val (.ref b84_y0), .val (.int (1 : Int32)), .val (.int (1 : Int32)), .unset, .unset, .unset] [(.int (f4 rb ra))])) (fun t k => st88.trans k) ?_
          have r89 : (f4 rb ra) = (1 : Int32) := by rw [f4, if_pos (Eq.symm hc85)]
          rw [r89]
          refine Go.st (V' := T88.setTop (mkF m 139 #[.val (.int p0), .val (.int p1), .val (.int p2), .val (.int ra), .val (.int rb), .val (.ref b30), .val (.ref b32), .val (.int kk), .val (.ref b84_y0), .val (.int (1 : Int32)), .val (.int (1 : Int32)), .val (.int (1 : Int32)), .unset, .unset] [(.ref b30), (.ref b30)])) (fun t k => ?_) ?_
          · refine XS.istore X88.here hx rfl (hb hby at_133) rfl (l' := #[.val (.int p0), .val (.int p1), .val (.int p2), .val (.int ra), .val (.int rb), .val (.ref b30), .val (.ref b32), .val (.int kk), .val (.ref b84_y0), .val (.int (1 : Int32)), .val (.int (1 : Int32)), .val (.int (1 : Int32)), .unset, .unset]) rfl ?_
            show Steps p.tables e below (T88.setTop (mkF m 135 #[.val (.int p0), .val (.int p1), .val (.int p2), .val (.int ra), .val (.int rb), .val (.ref b30), .val (.ref b32), .val (.int kk), .val (.ref b84_y0), .val (.int (1 : Int32)), .val (.int (1 : Int32)), .val (.int (1 : Int32)), .unset, .unset] [])) _
            refine XS.aload X88.here hx rfl (hb hby at_135) rfl rfl ?_
            show Steps p.tables e below (T88.setTop (mkF m 137 #[.val (.int p0), .val (.int p1), .val (.int p2), .val (.int ra), .val (.int rb), .val (.ref b30), .val (.ref b32), .val (.int kk), .val (.ref b84_y0), .val (.int (1 : Int32)), .val (.int (1 : Int32)), .val (.int (1 : Int32)), .unset, .unset] [(.ref b30)])) _
            refine XS.aload X88.here hx rfl (hb hby at_137) rfl rfl ?_
            show Steps p.tables e below (T88.setTop (mkF m 139 #[.val (.int p0), .val (.int p1), .val (.int p2), .val (.int ra), .val (.int rb), .val (.ref b30), .val (.ref b32), .val (.int kk), .val (.ref b84_y0), .val (.int (1 : Int32)), .val (.int (1 : Int32)), .val (.int (1 : Int32)), .unset, .unset] [(.ref b30), (.ref b30)])) _
            exact k
          obtain ⟨cq90, kq90, q90a, q90b, q90c⟩ := isOf hZ e88 (((f31_1.ext E32).keep K33).keep K84)
          obtain ⟨_, _, ⟨T90, L90, k90, n90⟩, -, X90, ⟨Lc90, hQ90, l90, y90, z90⟩, st90⟩ := X88.virtualBack hx (y := (⟨"com/example/rooted_kinds/rootedkinds/model/Rating", "equals", "(Ljava/lang/Object;)Z"⟩ : MethodName)) (z := (⟨"com/example/rooted_kinds/rootedkinds/model/Rating", "equals", "(Ljava/lang/Object;)Z"⟩ : MethodName)) hown (mvT hZ (hw _ (List.mem_of_getElem? (i := 19) rfl))) (mvT hZ (hw _ (List.mem_of_getElem? (i := 20) rfl))) (notFace_of_selects (args := #[]) (mvT hZ (hw _ (List.mem_of_getElem? (i := 22) rfl)))) (mvT hZ (hw _ (List.mem_of_getElem? (i := 22) rfl))) (mvT hZ (hw _ (List.mem_of_getElem? (i := 21) rfl))) (by decide) (backOf (W := 0) (rm4 l Z a0 hw [] s_icache cl_icache s_lcache cl_lcache c_compact HW b30 b30 ra ra T84.heap n0 O84 (((f31_1.ext E32).keep K33).keep K84) (((f31_0.ext E32).keep K33 (ninS (Nat.ne_of_lt (Nat.lt_of_lt_of_le f31_1.lt (Nat.le_of_eq g32.symm))) nin0)).keep K84 nin0) (((f31_0.ext E32).keep K33 (ninS (Nat.ne_of_lt (Nat.lt_of_lt_of_le f31_1.lt (Nat.le_of_eq g32.symm))) nin0)).keep K84 nin0)) hZ (hw _ (List.mem_of_getElem? (i := 23) rfl)) (hw _ (List.mem_of_getElem? (i := 3) rfl)) (by decide) (by decide)) q90a q90c (g := (mkF m 139 #[.val (.int p0), .val (.int p1), .val (.int p2), .val (.int ra), .val (.int rb), .val (.ref b30), .val (.ref b32), .val (.int kk), .val (.ref b84_y0), .val (.int (1 : Int32)), .val (.int (1 : Int32)), .val (.int (1 : Int32)), .unset, .unset] [(.ref b30), (.ref b30)])) rfl (by rw [hml]; rfl) (Steps.refl _) (argsL := [(.ref b30)]) (rest := []) (lenOf own_pd95 rfl) rfl (by show 2 * 0 + _ ≤ _; exact Nat.le_of_eq rfl) (hb hby at_139) (fun _ _ => ⟨rfl, e88, (by decide : 4 + 0 ≤ _), (by decide : 7 + 0 ≤ _)⟩)
          dsimp only [Pt.U, Pt.locs, Pt.cells, Pt.slots] at X90 l90 y90 z90 st90 hQ90
          subst l90 y90 z90
          obtain ⟨rfl, N90q, e90⟩ := hQ90
          have N90 := Fr.app N88 N90q
          refine Go.st (V' := T90.setTop (mkF m 142 #[.val (.int p0), .val (.int p1), .val (.int p2), .val (.int ra), .val (.int rb), .val (.ref b30), .val (.ref b32), .val (.int kk), .val (.ref b84_y0), .val (.int (1 : Int32)), .val (.int (1 : Int32)), .val (.int (1 : Int32)), .unset, .unset] [(.int (f4 ra ra))])) (fun t k => st90.trans k) ?_
          have r91 : (f4 ra ra) = (1 : Int32) := by rw [f4, if_pos (rfl : ra = ra)]
          rw [r91]
          refine Go.st (V' := T90.setTop (mkF m 148 #[.val (.int p0), .val (.int p1), .val (.int p2), .val (.int ra), .val (.int rb), .val (.ref b30), .val (.ref b32), .val (.int kk), .val (.ref b84_y0), .val (.int (1 : Int32)), .val (.int (1 : Int32)), .val (.int (1 : Int32)), .val (.int (1 : Int32)), .unset] [(.ref b84_y0), (.ref b30)])) (fun t k => ?_) ?_
          · refine XS.istore X90.here hx rfl (hb hby at_142) rfl (l' := #[.val (.int p0), .val (.int p1), .val (.int p2), .val (.int ra), .val (.int rb), .val (.ref b30), .val (.ref b32), .val (.int kk), .val (.ref b84_y0), .val (.int (1 : Int32)), .val (.int (1 : Int32)), .val (.int (1 : Int32)), .val (.int (1 : Int32)), .unset]) rfl ?_
            show Steps p.tables e below (T90.setTop (mkF m 144 #[.val (.int p0), .val (.int p1), .val (.int p2), .val (.int ra), .val (.int rb), .val (.ref b30), .val (.ref b32), .val (.int kk), .val (.ref b84_y0), .val (.int (1 : Int32)), .val (.int (1 : Int32)), .val (.int (1 : Int32)), .val (.int (1 : Int32)), .unset] [])) _
            refine XS.aload X90.here hx rfl (hb hby at_144) rfl rfl ?_
            show Steps p.tables e below (T90.setTop (mkF m 146 #[.val (.int p0), .val (.int p1), .val (.int p2), .val (.int ra), .val (.int rb), .val (.ref b30), .val (.ref b32), .val (.int kk), .val (.ref b84_y0), .val (.int (1 : Int32)), .val (.int (1 : Int32)), .val (.int (1 : Int32)), .val (.int (1 : Int32)), .unset] [(.ref b30)])) _
            refine XS.aload X90.here hx rfl (hb hby at_146) rfl rfl ?_
            show Steps p.tables e below (T90.setTop (mkF m 148 #[.val (.int p0), .val (.int p1), .val (.int p2), .val (.int ra), .val (.int rb), .val (.ref b30), .val (.ref b32), .val (.int kk), .val (.ref b84_y0), .val (.int (1 : Int32)), .val (.int (1 : Int32)), .val (.int (1 : Int32)), .val (.int (1 : Int32)), .unset] [(.ref b84_y0), (.ref b30)])) _
            exact k
          obtain ⟨cq92, kq92, q92a, q92b, q92c⟩ := isOf hZ e90 (((f31_1.ext E32).keep K33).keep K84)
          obtain ⟨_, _, ⟨T92, L92, k92, n92⟩, -, X92, ⟨Lc92, hQ92, l92, y92, z92⟩, st92⟩ := X90.virtualBack hx (y := (⟨"com/example/rooted_kinds/rootedkinds/model/Rating", "equals", "(Ljava/lang/Object;)Z"⟩ : MethodName)) (z := (⟨"com/example/rooted_kinds/rootedkinds/model/Rating", "equals", "(Ljava/lang/Object;)Z"⟩ : MethodName)) hown (mvT hZ (hw _ (List.mem_of_getElem? (i := 19) rfl))) (mvT hZ (hw _ (List.mem_of_getElem? (i := 20) rfl))) (notFace_of_selects (args := #[]) (mvT hZ (hw _ (List.mem_of_getElem? (i := 22) rfl)))) (mvT hZ (hw _ (List.mem_of_getElem? (i := 22) rfl))) (mvT hZ (hw _ (List.mem_of_getElem? (i := 21) rfl))) (by decide) (backOf (W := 0) (rm4s l Z a0 hw [] s_icache cl_icache s_lcache cl_lcache c_compact HW b30 b84_y0 T84.heap n0 O84 f84_0) hZ (hw _ (List.mem_of_getElem? (i := 23) rfl)) (hw _ (List.mem_of_getElem? (i := 3) rfl)) (by decide) (by decide)) q92a q92c (g := (mkF m 148 #[.val (.int p0), .val (.int p1), .val (.int p2), .val (.int ra), .val (.int rb), .val (.ref b30), .val (.ref b32), .val (.int kk), .val (.ref b84_y0), .val (.int (1 : Int32)), .val (.int (1 : Int32)), .val (.int (1 : Int32)), .val (.int (1 : Int32)), .unset] [(.ref b84_y0), (.ref b30)])) rfl (by rw [hml]; rfl) (Steps.refl _) (argsL := [(.ref b84_y0)]) (rest := []) (lenOf own_pd95 rfl) rfl (by show 2 * 0 + _ ≤ _; exact Nat.le_of_eq rfl) (hb hby at_148) (fun _ _ => ⟨rfl, e90, (by decide : 4 + 0 ≤ _), (by decide : 7 + 0 ≤ _)⟩)
          dsimp only [Pt.U, Pt.locs, Pt.cells, Pt.slots] at X92 l92 y92 z92 st92 hQ92
          subst l92 y92 z92
          obtain ⟨rfl, N92q, e92⟩ := hQ92
          have N92 := Fr.app N90 N92q
          refine Go.st (V' := T92.setTop (mkF m 151 #[.val (.int p0), .val (.int p1), .val (.int p2), .val (.int ra), .val (.int rb), .val (.ref b30), .val (.ref b32), .val (.int kk), .val (.ref b84_y0), .val (.int (1 : Int32)), .val (.int (1 : Int32)), .val (.int (1 : Int32)), .val (.int (1 : Int32)), .unset] [(.int (0 : Int32))])) (fun t k => st92.trans k) ?_
          refine Go.st (V' := T92.setTop (mkF m 182 #[.val (.int p0), .val (.int p1), .val (.int p2), .val (.int ra), .val (.int rb), .val (.ref b30), .val (.ref b32), .val (.int kk), .val (.ref b84_y0), .val (.int (1 : Int32)), .val (.int (1 : Int32)), .val (.int (1 : Int32)), .val (.int (1 : Int32)), .val (.int (0 : Int32))] [(.int (1 : Int32))])) (fun t k => ?_) ?_
          · refine XS.istore X92.here hx rfl (hb hby at_151) rfl (l' := #[.val (.int p0), .val (.int p1), .val (.int p2), .val (.int ra), .val (.int rb), .val (.ref b30), .val (.ref b32), .val (.int kk), .val (.ref b84_y0), .val (.int (1 : Int32)), .val (.int (1 : Int32)), .val (.int (1 : Int32)), .val (.int (1 : Int32)), .val (.int (0 : Int32))]) rfl ?_
            show Steps p.tables e below (T92.setTop (mkF m 153 #[.val (.int p0), .val (.int p1), .val (.int p2), .val (.int ra), .val (.int rb), .val (.ref b30), .val (.ref b32), .val (.int kk), .val (.ref b84_y0), .val (.int (1 : Int32)), .val (.int (1 : Int32)), .val (.int (1 : Int32)), .val (.int (1 : Int32)), .val (.int (0 : Int32))] [])) _
            refine XS.iload X92.here hx rfl (hb hby at_153) rfl  ?_
            show Steps p.tables e below (T92.setTop (mkF m 155 #[.val (.int p0), .val (.int p1), .val (.int p2), .val (.int ra), .val (.int rb), .val (.ref b30), .val (.ref b32), .val (.int kk), .val (.ref b84_y0), .val (.int (1 : Int32)), .val (.int (1 : Int32)), .val (.int (1 : Int32)), .val (.int (1 : Int32)), .val (.int (0 : Int32))] [(.int (1 : Int32))])) _
            refine XS.iload X92.here hx rfl (hb hby at_155) rfl  ?_
            show Steps p.tables e below (T92.setTop (mkF m 157 #[.val (.int p0), .val (.int p1), .val (.int p2), .val (.int ra), .val (.int rb), .val (.ref b30), .val (.ref b32), .val (.int kk), .val (.ref b84_y0), .val (.int (1 : Int32)), .val (.int (1 : Int32)), .val (.int (1 : Int32)), .val (.int (1 : Int32)), .val (.int (0 : Int32))] [(.int (1 : Int32)), (.int (1 : Int32))])) _
            refine XS.icmpNo X92.here hx rfl (hb hby at_157) rfl (teq (by decide : ((1 : Int32) = (1 : Int32)))).2 ?_
            show Steps p.tables e below (T92.setTop (mkF m 160 #[.val (.int p0), .val (.int p1), .val (.int p2), .val (.int ra), .val (.int rb), .val (.ref b30), .val (.ref b32), .val (.int kk), .val (.ref b84_y0), .val (.int (1 : Int32)), .val (.int (1 : Int32)), .val (.int (1 : Int32)), .val (.int (1 : Int32)), .val (.int (0 : Int32))] [])) _
            refine XS.iload X92.here hx rfl (hb hby at_160) rfl  ?_
            show Steps p.tables e below (T92.setTop (mkF m 162 #[.val (.int p0), .val (.int p1), .val (.int p2), .val (.int ra), .val (.int rb), .val (.ref b30), .val (.ref b32), .val (.int kk), .val (.ref b84_y0), .val (.int (1 : Int32)), .val (.int (1 : Int32)), .val (.int (1 : Int32)), .val (.int (1 : Int32)), .val (.int (0 : Int32))] [(.int (1 : Int32))])) _
            refine XS.iload X92.here hx rfl (hb hby at_162) rfl  ?_
            show Steps p.tables e below (T92.setTop (mkF m 164 #[.val (.int p0), .val (.int p1), .val (.int p2), .val (.int ra), .val (.int rb), .val (.ref b30), .val (.ref b32), .val (.int kk), .val (.ref b84_y0), .val (.int (1 : Int32)), .val (.int (1 : Int32)), .val (.int (1 : Int32)), .val (.int (1 : Int32)), .val (.int (0 : Int32))] [(.int (1 : Int32)), (.int (1 : Int32))])) _
            refine XS.icmpNo X92.here hx rfl (hb hby at_164) rfl (teq (by decide : ((1 : Int32) = (1 : Int32)))).2 ?_
            show Steps p.tables e below (T92.setTop (mkF m 167 #[.val (.int p0), .val (.int p1), .val (.int p2), .val (.int ra), .val (.int rb), .val (.ref b30), .val (.ref b32), .val (.int kk), .val (.ref b84_y0), .val (.int (1 : Int32)), .val (.int (1 : Int32)), .val (.int (1 : Int32)), .val (.int (1 : Int32)), .val (.int (0 : Int32))] [])) _
            refine XS.iload X92.here hx rfl (hb hby at_167) rfl  ?_
            show Steps p.tables e below (T92.setTop (mkF m 169 #[.val (.int p0), .val (.int p1), .val (.int p2), .val (.int ra), .val (.int rb), .val (.ref b30), .val (.ref b32), .val (.int kk), .val (.ref b84_y0), .val (.int (1 : Int32)), .val (.int (1 : Int32)), .val (.int (1 : Int32)), .val (.int (1 : Int32)), .val (.int (0 : Int32))] [(.int (1 : Int32))])) _
            refine XS.ifNo X92.here hx rfl (hb hby at_169) rfl ((if0 _ _).trans (feq (by decide : ¬ ((1 : Int32) = (0 : Int32)))).1) ?_
            show Steps p.tables e below (T92.setTop (mkF m 172 #[.val (.int p0), .val (.int p1), .val (.int p2), .val (.int ra), .val (.int rb), .val (.ref b30), .val (.ref b32), .val (.int kk), .val (.ref b84_y0), .val (.int (1 : Int32)), .val (.int (1 : Int32)), .val (.int (1 : Int32)), .val (.int (1 : Int32)), .val (.int (0 : Int32))] [])) _
            refine XS.iload X92.here hx rfl (hb hby at_172) rfl  ?_
            show Steps p.tables e below (T92.setTop (mkF m 174 #[.val (.int p0), .val (.int p1), .val (.int p2), .val (.int ra), .val (.int rb), .val (.ref b30), .val (.ref b32), .val (.int kk), .val (.ref b84_y0), .val (.int (1 : Int32)), .val (.int (1 : Int32)), .val (.int (1 : Int32)), .val (.int (1 : Int32)), .val (.int (0 : Int32))] [(.int (0 : Int32))])) _
            refine XS.ifNo X92.here hx rfl (hb hby at_174) rfl ((if0 _ _).trans (teq (by decide : ((0 : Int32) = (0 : Int32)))).2) ?_
            show Steps p.tables e below (T92.setTop (mkF m 177 #[.val (.int p0), .val (.int p1), .val (.int p2), .val (.int ra), .val (.int rb), .val (.ref b30), .val (.ref b32), .val (.int kk), .val (.ref b84_y0), .val (.int (1 : Int32)), .val (.int (1 : Int32)), .val (.int (1 : Int32)), .val (.int (1 : Int32)), .val (.int (0 : Int32))] [])) _
            refine XS.iconst X92.here hx rfl (hb hby at_177) ?_
            show Steps p.tables e below (T92.setTop (mkF m 178 #[.val (.int p0), .val (.int p1), .val (.int p2), .val (.int ra), .val (.int rb), .val (.ref b30), .val (.ref b32), .val (.int kk), .val (.ref b84_y0), .val (.int (1 : Int32)), .val (.int (1 : Int32)), .val (.int (1 : Int32)), .val (.int (1 : Int32)), .val (.int (0 : Int32))] [(.int (1 : Int32))])) _
            refine XS.goto X92.here hx rfl (pc0 := 178) (pc' := 182) rfl (hb hby at_178) (by decide) (by decide) ?_
            show Steps p.tables e below (T92.setTop (mkF m 182 #[.val (.int p0), .val (.int p1), .val (.int p2), .val (.int ra), .val (.int rb), .val (.ref b30), .val (.ref b32), .val (.int kk), .val (.ref b84_y0), .val (.int (1 : Int32)), .val (.int (1 : Int32)), .val (.int (1 : Int32)), .val (.int (1 : Int32)), .val (.int (0 : Int32))] [(.int (1 : Int32))])) _
            exact k
          obtain ⟨fs, hr, hrun, hended, hW, hsame⟩ := X92.leave (v := some (.int (1 : Int32))) (fun h => by rw [Bd.returns] at h; cases h)
          refine Go.mk' ⟨_, _, retN X92 hx (t := .boolean) Bd.returns (by simp) (hb hby at_182) hr, hrun, hended, _, _, rfl, ?_, ⟨_, rfl⟩, hW, hsame.mono (by decide) (by decide)⟩
          show Q0 Z p0 p1 p2 h0 n0 _ T92.heap _
          rw [e92]
          exact ⟨rfl, N92⟩
        · refine Go.st (V' := T84.setTop (mkF m 121 #[.val (.int p0), .val (.int p1), .val (.int p2), .val (.int ra), .val (.int rb), .val (.ref b30), .val (.ref b32), .val (.int kk), .val (.ref b84_y0), .val (.int (0 : Int32)), .unset, .unset, .unset, .unset] [(.ref b32), (.ref b30)])) (fun t k => ?_) ?_
          · refine XS.icmpYes X84.here hx rfl (pc0 := 107) (pc' := 114) rfl (hb hby at_107) rfl (feq hc85).2 (by decide) (by decide) ?_
            show Steps p.tables e below (T84.setTop (mkF m 114 #[.val (.int p0), .val (.int p1), .val (.int p2), .val (.int ra), .val (.int rb), .val (.ref b30), .val (.ref b32), .val (.int kk), .val (.ref b84_y0), .unset, .unset, .unset, .unset, .unset] [])) _
            refine XS.iconst X84.here hx rfl (hb hby at_114) ?_
            show Steps p.tables e below (T84.setTop (mkF m 115 #[.val (.int p0), .val (.int p1), .val (.int p2), .val (.int ra), .val (.int rb), .val (.ref b30), .val (.ref b32), .val (.int kk), .val (.ref b84_y0), .unset, .unset, .unset, .unset, .unset] [(.int (0 : Int32))])) _
            refine XS.istore X84.here hx rfl (hb hby at_115) rfl (l' := #[.val (.int p0), .val (.int p1), .val (.int p2), .val (.int ra), .val (.int rb), .val (.ref b30), .val (.ref b32), .val (.int kk), .val (.ref b84_y0), .val (.int (0 : Int32)), .unset, .unset, .unset, .unset]) rfl ?_
            show Steps p.tables e below (T84.setTop (mkF m 117 #[.val (.int p0), .val (.int p1), .val (.int p2), .val (.int ra), .val (.int rb), .val (.ref b30), .val (.ref b32), .val (.int kk), .val (.ref b84_y0), .val (.int (0 : Int32)), .unset, .unset, .unset, .unset] [])) _
            refine XS.aload X84.here hx rfl (hb hby at_117) rfl rfl ?_
            show Steps p.tables e below (T84.setTop (mkF m 119 #[.val (.int p0), .val (.int p1), .val (.int p2), .val (.int ra), .val (.int rb), .val (.ref b30), .val (.ref b32), .val (.int kk), .val (.ref b84_y0), .val (.int (0 : Int32)), .unset, .unset, .unset, .unset] [(.ref b30)])) _
            refine XS.aload X84.here hx rfl (hb hby at_119) rfl rfl ?_
            show Steps p.tables e below (T84.setTop (mkF m 121 #[.val (.int p0), .val (.int p1), .val (.int p2), .val (.int ra), .val (.int rb), .val (.ref b30), .val (.ref b32), .val (.int kk), .val (.ref b84_y0), .val (.int (0 : Int32)), .unset, .unset, .unset, .unset] [(.ref b32), (.ref b30)])) _
            exact k
          obtain ⟨cq93, kq93, q93a, q93b, q93c⟩ := isOf hZ rfl (((f31_1.ext E32).keep K33).keep K84)
          obtain ⟨_, _, ⟨T93, L93, k93, n93⟩, -, X93, ⟨Lc93, hQ93, l93, y93, z93⟩, st93⟩ := X84.virtualBack hx (y := (⟨"com/example/rooted_kinds/rootedkinds/model/Rating", "equals", "(Ljava/lang/Object;)Z"⟩ : MethodName)) (z := (⟨"com/example/rooted_kinds/rootedkinds/model/Rating", "equals", "(Ljava/lang/Object;)Z"⟩ : MethodName)) hown (mvT hZ (hw _ (List.mem_of_getElem? (i := 19) rfl))) (mvT hZ (hw _ (List.mem_of_getElem? (i := 20) rfl))) (notFace_of_selects (args := #[]) (mvT hZ (hw _ (List.mem_of_getElem? (i := 22) rfl)))) (mvT hZ (hw _ (List.mem_of_getElem? (i := 22) rfl))) (mvT hZ (hw _ (List.mem_of_getElem? (i := 21) rfl))) (by decide) (backOf (W := 0) (rm4 l Z a0 hw [] s_icache cl_icache s_lcache cl_lcache c_compact HW b30 b32 ra rb T84.heap n0 O84 (f33_1.keep K84) (((f31_0.ext E32).keep K33 (ninS (Nat.ne_of_lt (Nat.lt_of_lt_of_le f31_1.lt (Nat.le_of_eq g32.symm))) nin0)).keep K84 nin0) (f33_0.keep K84 nin0)) hZ (hw _ (List.mem_of_getElem? (i := 23) rfl)) (hw _ (List.mem_of_getElem? (i := 3) rfl)) (by decide) (by decide)) q93a q93c (g := (mkF m 121 #[.val (.int p0), .val (.int p1), .val (.int p2), .val (.int ra), .val (.int rb), .val (.ref b30), .val (.ref b32), .val (.int kk), .val (.ref b84_y0), .val (.int (0 : Int32)), .unset, .unset, .unset, .unset] [(.ref b32), (.ref b30)])) rfl (by rw [hml]; rfl) (Steps.refl _) (argsL := [(.ref b32)]) (rest := []) (lenOf own_pd95 rfl) rfl (by show 2 * 0 + _ ≤ _; exact Nat.le_of_eq rfl) (hb hby at_121) (fun _ _ => ⟨rfl, rfl, (by decide : 4 + 0 ≤ _), (by decide : 7 + 0 ≤ _)⟩)
          dsimp only [Pt.U, Pt.locs, Pt.cells, Pt.slots] at X93 l93 y93 z93 st93 hQ93
          subst l93 y93 z93
          obtain ⟨rfl, N93q, e93⟩ := hQ93
          have N93 := Fr.app N84 N93q
          refine Go.st (V' := T93.setTop (mkF m 124 #[.val (.int p0), .val (.int p1), .val (.int p2), .val (.int ra), .val (.int rb), .val (.ref b30), .val (.ref b32), .val (.int kk), .val (.ref b84_y0), .val (.int (0 : Int32)), .unset, .unset, .unset, .unset] [(.int (f4 ra rb))])) (fun t k => st93.trans k) ?_
          have r94 : (f4 ra rb) = (0 : Int32) := by rw [f4, if_neg hc85]
          rw [r94]
          refine Go.st (V' := T93.setTop (mkF m 130 #[.val (.int p0), .val (.int p1), .val (.int p2), .val (.int ra), .val (.int rb), .val (.ref b30), .val (.ref b32), .val (.int kk), .val (.ref b84_y0), .val (.int (0 : Int32)), .val (.int (0 : Int32)), .unset, .unset, .unset] [(.ref b30), (.ref b32)])) (fun t k => ?_) ?_
          · refine XS.istore X93.here hx rfl (hb hby at_124) rfl (l' := #[.val (.int p0), .val (.int p1), .val (.int p2), .val (.int ra), .val (.int rb), .val (.ref b30), .val (.ref b32), .val (.int kk), .val (.ref b84_y0), .val (.int (0 : Int32)), .val (.int (0 : Int32)), .unset, .unset, .unset]) rfl ?_
            show Steps p.tables e below (T93.setTop (mkF m 126 #[.val (.int p0), .val (.int p1), .val (.int p2), .val (.int ra), .val (.int rb), .val (.ref b30), .val (.ref b32), .val (.int kk), .val (.ref b84_y0), .val (.int (0 : Int32)), .val (.int (0 : Int32)), .unset, .unset, .unset] [])) _
            refine XS.aload X93.here hx rfl (hb hby at_126) rfl rfl ?_
            show Steps p.tables e below (T93.setTop (mkF m 128 #[.val (.int p0), .val (.int p1), .val (.int p2), .val (.int ra), .val (.int rb), .val (.ref b30), .val (.ref b32), .val (.int kk), .val (.ref b84_y0), .val (.int (0 : Int32)), .val (.int (0 : Int32)), .unset, .unset, .unset] [(.ref b32)])) _
            refine XS.aload X93.here hx rfl (hb hby at_128) rfl rfl ?_
            show Steps p.tables e below (T93.setTop (mkF m 130 #[.val (.int p0), .val (.int p1), .val (.int p2), .val (.int ra), .val (.int rb), .val (.ref b30), .val (.ref b32), .val (.int kk), .val (.ref b84_y0), .val (.int (0 : Int32)), .val (.int (0 : Int32)), .unset, .unset, .unset] [(.ref b30), (.ref b32)])) _
            exact k
          obtain ⟨cq95, kq95, q95a, q95b, q95c⟩ := isOf hZ e93 (f33_1.keep K84)
          obtain ⟨_, _, ⟨T95, L95, k95, n95⟩, -, X95, ⟨Lc95, hQ95, l95, y95, z95⟩, st95⟩ := X93.virtualBack hx (y := (⟨"com/example/rooted_kinds/rootedkinds/model/Rating", "equals", "(Ljava/lang/Object;)Z"⟩ : MethodName)) (z := (⟨"com/example/rooted_kinds/rootedkinds/model/Rating", "equals", "(Ljava/lang/Object;)Z"⟩ : MethodName)) hown (mvT hZ (hw _ (List.mem_of_getElem? (i := 19) rfl))) (mvT hZ (hw _ (List.mem_of_getElem? (i := 20) rfl))) (notFace_of_selects (args := #[]) (mvT hZ (hw _ (List.mem_of_getElem? (i := 22) rfl)))) (mvT hZ (hw _ (List.mem_of_getElem? (i := 22) rfl))) (mvT hZ (hw _ (List.mem_of_getElem? (i := 21) rfl))) (by decide) (backOf (W := 0) (rm4 l Z a0 hw [] s_icache cl_icache s_lcache cl_lcache c_compact HW b32 b30 rb ra T84.heap n0 O84 (((f31_1.ext E32).keep K33).keep K84) (f33_0.keep K84 nin0) (((f31_0.ext E32).keep K33 (ninS (Nat.ne_of_lt (Nat.lt_of_lt_of_le f31_1.lt (Nat.le_of_eq g32.symm))) nin0)).keep K84 nin0)) hZ (hw _ (List.mem_of_getElem? (i := 23) rfl)) (hw _ (List.mem_of_getElem? (i := 3) rfl)) (by decide) (by decide)) q95a q95c (g := (mkF m 130 #[.val (.int p0), .val (.int p1), .val (.int p2), .val (.int ra), .val (.int rb), .val (.ref b30), .val (.ref b32), .val (.int kk), .val (.ref b84_y0), .val (.int (0 : Int32)), .val (.int (0 : Int32)), .unset, .unset, .unset] [(.ref b30), (.ref b32)])) rfl (by rw [hml]; rfl) (Steps.refl _) (argsL := [(.ref b30)]) (rest := []) (lenOf own_pd95 rfl) rfl (by show 2 * 0 + _ ≤ _; exact Nat.le_of_eq rfl) (hb hby at_130) (fun _ _ => ⟨rfl, e93, (by decide : 4 + 0 ≤ _), (by decide : 7 + 0 ≤ _)⟩)
          dsimp only [Pt.U, Pt.locs, Pt.cells, Pt.slots] at X95 l95 y95 z95 st95 hQ95
          subst l95 y95 z95
          obtain ⟨rfl, N95q, e95⟩ := hQ95
          have N95 := Fr.app N93 N95q
          refine Go.st (V' := T95.setTop (mkF m 133 #[.val (.int p0), .val (.int p1), .val (.int p2), .val (.int ra), .val (.int rb), .val (.ref b30), .val (.ref b32), .val (.int kk), .val (.ref b84_y0), .val (.int (0 : Int32)), .val (.int (0 : Int32)), .unset, .unset, .unset] [(.int (f4 rb ra))])) (fun t k => st95.trans k) ?_
          have r96 : (f4 rb ra) = (0 : Int32) := by rw [f4, if_neg (Ne.symm hc85)]
          rw [r96]
          refine Go.st (V' := T95.setTop (mkF m 139 #[.val (.int p0), .val (.int p1), .val (.int p2), .val (.int ra), .val (.int rb), .val (.ref b30), .val (.ref b32), .val (.int kk), .val (.ref b84_y0), .val (.int (0 : Int32)), .val (.int (0 : Int32)), .val (.int (0 : Int32)), .unset, .unset] [(.ref b30), (.ref b30)])) (fun t k => ?_) ?_
          · refine XS.istore X95.here hx rfl (hb hby at_133) rfl (l' := #[.val (.int p0), .val (.int p1), .val (.int p2), .val (.int ra), .val (.int rb), .val (.ref b30), .val (.ref b32), .val (.int kk), .val (.ref b84_y0), .val (.int (0 : Int32)), .val (.int (0 : Int32)), .val (.int (0 : Int32)), .unset, .unset]) rfl ?_
            show Steps p.tables e below (T95.setTop (mkF m 135 #[.val (.int p0), .val (.int p1), .val (.int p2), .val (.int ra), .val (.int rb), .val (.ref b30), .val (.ref b32), .val (.int kk), .val (.ref b84_y0), .val (.int (0 : Int32)), .val (.int (0 : Int32)), .val (.int (0 : Int32)), .unset, .unset] [])) _
            refine XS.aload X95.here hx rfl (hb hby at_135) rfl rfl ?_
            show Steps p.tables e below (T95.setTop (mkF m 137 #[.val (.int p0), .val (.int p1), .val (.int p2), .val (.int ra), .val (.int rb), .val (.ref b30), .val (.ref b32), .val (.int kk), .val (.ref b84_y0), .val (.int (0 : Int32)), .val (.int (0 : Int32)), .val (.int (0 : Int32)), .unset, .unset] [(.ref b30)])) _
            refine XS.aload X95.here hx rfl (hb hby at_137) rfl rfl ?_
            show Steps p.tables e below (T95.setTop (mkF m 139 #[.val (.int p0), .val (.int p1), .val (.int p2), .val (.int ra), .val (.int rb), .val (.ref b30), .val (.ref b32), .val (.int kk), .val (.ref b84_y0), .val (.int (0 : Int32)), .val (.int (0 : Int32)), .val (.int (0 : Int32)), .unset, .unset] [(.ref b30), (.ref b30)])) _
            exact k
          obtain ⟨cq97, kq97, q97a, q97b, q97c⟩ := isOf hZ e95 (((f31_1.ext E32).keep K33).keep K84)
          obtain ⟨_, _, ⟨T97, L97, k97, n97⟩, -, X97, ⟨Lc97, hQ97, l97, y97, z97⟩, st97⟩ := X95.virtualBack hx (y := (⟨"com/example/rooted_kinds/rootedkinds/model/Rating", "equals", "(Ljava/lang/Object;)Z"⟩ : MethodName)) (z := (⟨"com/example/rooted_kinds/rootedkinds/model/Rating", "equals", "(Ljava/lang/Object;)Z"⟩ : MethodName)) hown (mvT hZ (hw _ (List.mem_of_getElem? (i := 19) rfl))) (mvT hZ (hw _ (List.mem_of_getElem? (i := 20) rfl))) (notFace_of_selects (args := #[]) (mvT hZ (hw _ (List.mem_of_getElem? (i := 22) rfl)))) (mvT hZ (hw _ (List.mem_of_getElem? (i := 22) rfl))) (mvT hZ (hw _ (List.mem_of_getElem? (i := 21) rfl))) (by decide) (backOf (W := 0) (rm4 l Z a0 hw [] s_icache cl_icache s_lcache cl_lcache c_compact HW b30 b30 ra ra T84.heap n0 O84 (((f31_1.ext E32).keep K33).keep K84) (((f31_0.ext E32).keep K33 (ninS (Nat.ne_of_lt (Nat.lt_of_lt_of_le f31_1.lt (Nat.le_of_eq g32.symm))) nin0)).keep K84 nin0) (((f31_0.ext E32).keep K33 (ninS (Nat.ne_of_lt (Nat.lt_of_lt_of_le f31_1.lt (Nat.le_of_eq g32.symm))) nin0)).keep K84 nin0)) hZ (hw _ (List.mem_of_getElem? (i := 23) rfl)) (hw _ (List.mem_of_getElem? (i := 3) rfl)) (by decide) (by decide)) q97a q97c (g := (mkF m 139 #[.val (.int p0), .val (.int p1), .val (.int p2), .val (.int ra), .val (.int rb), .val (.ref b30), .val (.ref b32), .val (.int kk), .val (.ref b84_y0), .val (.int (0 : Int32)), .val (.int (0 : Int32)), .val (.int (0 : Int32)), .unset, .unset] [(.ref b30), (.ref b30)])) rfl (by rw [hml]; rfl) (Steps.refl _) (argsL := [(.ref b30)]) (rest := []) (lenOf own_pd95 rfl) rfl (by show 2 * 0 + _ ≤ _; exact Nat.le_of_eq rfl) (hb hby at_139) (fun _ _ => ⟨rfl, e95, (by decide : 4 + 0 ≤ _), (by decide : 7 + 0 ≤ _)⟩)
          dsimp only [Pt.U, Pt.locs, Pt.cells, Pt.slots] at X97 l97 y97 z97 st97 hQ97
          subst l97 y97 z97
          obtain ⟨rfl, N97q, e97⟩ := hQ97
          have N97 := Fr.app N95 N97q
          refine Go.st (V' := T97.setTop (mkF m 142 #[.val (.int p0), .val (.int p1), .val (.int p2), .val (.int ra), .val (.int rb), .val (.ref b30), .val (.ref b32), .val (.int kk), .val (.ref b84_y0), .val (.int (0 : Int32)), .val (.int (0 : Int32)), .val (.int (0 : Int32)), .unset, .unset] [(.int (f4 ra ra))])) (fun t k => st97.trans k) ?_
          have r98 : (f4 ra ra) = (1 : Int32) := by rw [f4, if_pos (rfl : ra = ra)]
          rw [r98]
          refine Go.st (V' := T97.setTop (mkF m 148 #[.val (.int p0), .val (.int p1), .val (.int p2), .val (.int ra), .val (.int rb), .val (.ref b30), .val (.ref b32), .val (.int kk), .val (.ref b84_y0), .val (.int (0 : Int32)), .val (.int (0 : Int32)), .val (.int (0 : Int32)), .val (.int (1 : Int32)), .unset] [(.ref b84_y0), (.ref b30)])) (fun t k => ?_) ?_
          · refine XS.istore X97.here hx rfl (hb hby at_142) rfl (l' := #[.val (.int p0), .val (.int p1), .val (.int p2), .val (.int ra), .val (.int rb), .val (.ref b30), .val (.ref b32), .val (.int kk), .val (.ref b84_y0), .val (.int (0 : Int32)), .val (.int (0 : Int32)), .val (.int (0 : Int32)), .val (.int (1 : Int32)), .unset]) rfl ?_
            show Steps p.tables e below (T97.setTop (mkF m 144 #[.val (.int p0), .val (.int p1), .val (.int p2), .val (.int ra), .val (.int rb), .val (.ref b30), .val (.ref b32), .val (.int kk), .val (.ref b84_y0), .val (.int (0 : Int32)), .val (.int (0 : Int32)), .val (.int (0 : Int32)), .val (.int (1 : Int32)), .unset] [])) _
            refine XS.aload X97.here hx rfl (hb hby at_144) rfl rfl ?_
            show Steps p.tables e below (T97.setTop (mkF m 146 #[.val (.int p0), .val (.int p1), .val (.int p2), .val (.int ra), .val (.int rb), .val (.ref b30), .val (.ref b32), .val (.int kk), .val (.ref b84_y0), .val (.int (0 : Int32)), .val (.int (0 : Int32)), .val (.int (0 : Int32)), .val (.int (1 : Int32)), .unset] [(.ref b30)])) _
            refine XS.aload X97.here hx rfl (hb hby at_146) rfl rfl ?_
            show Steps p.tables e below (T97.setTop (mkF m 148 #[.val (.int p0), .val (.int p1), .val (.int p2), .val (.int ra), .val (.int rb), .val (.ref b30), .val (.ref b32), .val (.int kk), .val (.ref b84_y0), .val (.int (0 : Int32)), .val (.int (0 : Int32)), .val (.int (0 : Int32)), .val (.int (1 : Int32)), .unset] [(.ref b84_y0), (.ref b30)])) _
            exact k
          obtain ⟨cq99, kq99, q99a, q99b, q99c⟩ := isOf hZ e97 (((f31_1.ext E32).keep K33).keep K84)
          obtain ⟨_, _, ⟨T99, L99, k99, n99⟩, -, X99, ⟨Lc99, hQ99, l99, y99, z99⟩, st99⟩ := X97.virtualBack hx (y := (⟨"com/example/rooted_kinds/rootedkinds/model/Rating", "equals", "(Ljava/lang/Object;)Z"⟩ : MethodName)) (z := (⟨"com/example/rooted_kinds/rootedkinds/model/Rating", "equals", "(Ljava/lang/Object;)Z"⟩ : MethodName)) hown (mvT hZ (hw _ (List.mem_of_getElem? (i := 19) rfl))) (mvT hZ (hw _ (List.mem_of_getElem? (i := 20) rfl))) (notFace_of_selects (args := #[]) (mvT hZ (hw _ (List.mem_of_getElem? (i := 22) rfl)))) (mvT hZ (hw _ (List.mem_of_getElem? (i := 22) rfl))) (mvT hZ (hw _ (List.mem_of_getElem? (i := 21) rfl))) (by decide) (backOf (W := 0) (rm4s l Z a0 hw [] s_icache cl_icache s_lcache cl_lcache c_compact HW b30 b84_y0 T84.heap n0 O84 f84_0) hZ (hw _ (List.mem_of_getElem? (i := 23) rfl)) (hw _ (List.mem_of_getElem? (i := 3) rfl)) (by decide) (by decide)) q99a q99c (g := (mkF m 148 #[.val (.int p0), .val (.int p1), .val (.int p2), .val (.int ra), .val (.int rb), .val (.ref b30), .val (.ref b32), .val (.int kk), .val (.ref b84_y0), .val (.int (0 : Int32)), .val (.int (0 : Int32)), .val (.int (0 : Int32)), .val (.int (1 : Int32)), .unset] [(.ref b84_y0), (.ref b30)])) rfl (by rw [hml]; rfl) (Steps.refl _) (argsL := [(.ref b84_y0)]) (rest := []) (lenOf own_pd95 rfl) rfl (by show 2 * 0 + _ ≤ _; exact Nat.le_of_eq rfl) (hb hby at_148) (fun _ _ => ⟨rfl, e97, (by decide : 4 + 0 ≤ _), (by decide : 7 + 0 ≤ _)⟩)
          dsimp only [Pt.U, Pt.locs, Pt.cells, Pt.slots] at X99 l99 y99 z99 st99 hQ99
          subst l99 y99 z99
          obtain ⟨rfl, N99q, e99⟩ := hQ99
          have N99 := Fr.app N97 N99q
          refine Go.st (V' := T99.setTop (mkF m 151 #[.val (.int p0), .val (.int p1), .val (.int p2), .val (.int ra), .val (.int rb), .val (.ref b30), .val (.ref b32), .val (.int kk), .val (.ref b84_y0), .val (.int (0 : Int32)), .val (.int (0 : Int32)), .val (.int (0 : Int32)), .val (.int (1 : Int32)), .unset] [(.int (0 : Int32))])) (fun t k => st99.trans k) ?_
          refine Go.st (V' := T99.setTop (mkF m 182 #[.val (.int p0), .val (.int p1), .val (.int p2), .val (.int ra), .val (.int rb), .val (.ref b30), .val (.ref b32), .val (.int kk), .val (.ref b84_y0), .val (.int (0 : Int32)), .val (.int (0 : Int32)), .val (.int (0 : Int32)), .val (.int (1 : Int32)), .val (.int (0 : Int32))] [(.int (1 : Int32))])) (fun t k => ?_) ?_
          · refine XS.istore X99.here hx rfl (hb hby at_151) rfl (l' := #[.val (.int p0), .val (.int p1), .val (.int p2), .val (.int ra), .val (.int rb), .val (.ref b30), .val (.ref b32), .val (.int kk), .val (.ref b84_y0), .val (.int (0 : Int32)), .val (.int (0 : Int32)), .val (.int (0 : Int32)), .val (.int (1 : Int32)), .val (.int (0 : Int32))]) rfl ?_
            show Steps p.tables e below (T99.setTop (mkF m 153 #[.val (.int p0), .val (.int p1), .val (.int p2), .val (.int ra), .val (.int rb), .val (.ref b30), .val (.ref b32), .val (.int kk), .val (.ref b84_y0), .val (.int (0 : Int32)), .val (.int (0 : Int32)), .val (.int (0 : Int32)), .val (.int (1 : Int32)), .val (.int (0 : Int32))] [])) _
            refine XS.iload X99.here hx rfl (hb hby at_153) rfl  ?_
            show Steps p.tables e below (T99.setTop (mkF m 155 #[.val (.int p0), .val (.int p1), .val (.int p2), .val (.int ra), .val (.int rb), .val (.ref b30), .val (.ref b32), .val (.int kk), .val (.ref b84_y0), .val (.int (0 : Int32)), .val (.int (0 : Int32)), .val (.int (0 : Int32)), .val (.int (1 : Int32)), .val (.int (0 : Int32))] [(.int (0 : Int32))])) _
            refine XS.iload X99.here hx rfl (hb hby at_155) rfl  ?_
            show Steps p.tables e below (T99.setTop (mkF m 157 #[.val (.int p0), .val (.int p1), .val (.int p2), .val (.int ra), .val (.int rb), .val (.ref b30), .val (.ref b32), .val (.int kk), .val (.ref b84_y0), .val (.int (0 : Int32)), .val (.int (0 : Int32)), .val (.int (0 : Int32)), .val (.int (1 : Int32)), .val (.int (0 : Int32))] [(.int (0 : Int32)), (.int (0 : Int32))])) _
            refine XS.icmpNo X99.here hx rfl (hb hby at_157) rfl (teq (by decide : ((0 : Int32) = (0 : Int32)))).2 ?_
            show Steps p.tables e below (T99.setTop (mkF m 160 #[.val (.int p0), .val (.int p1), .val (.int p2), .val (.int ra), .val (.int rb), .val (.ref b30), .val (.ref b32), .val (.int kk), .val (.ref b84_y0), .val (.int (0 : Int32)), .val (.int (0 : Int32)), .val (.int (0 : Int32)), .val (.int (1 : Int32)), .val (.int (0 : Int32))] [])) _
            refine XS.iload X99.here hx rfl (hb hby at_160) rfl  ?_
            show Steps p.tables e below (T99.setTop (mkF m 162 #[.val (.int p0), .val (.int p1), .val (.int p2), .val (.int ra), .val (.int rb), .val (.ref b30), .val (.ref b32), .val (.int kk), .val (.ref b84_y0), .val (.int (0 : Int32)), .val (.int (0 : Int32)), .val (.int (0 : Int32)), .val (.int (1 : Int32)), .val (.int (0 : Int32))] [(.int (0 : Int32))])) _
            refine XS.iload X99.here hx rfl (hb hby at_162) rfl  ?_
            show Steps p.tables e below (T99.setTop (mkF m 164 #[.val (.int p0), .val (.int p1), .val (.int p2), .val (.int ra), .val (.int rb), .val (.ref b30), .val (.ref b32), .val (.int kk), .val (.ref b84_y0), .val (.int (0 : Int32)), .val (.int (0 : Int32)), .val (.int (0 : Int32)), .val (.int (1 : Int32)), .val (.int (0 : Int32))] [(.int (0 : Int32)), (.int (0 : Int32))])) _
            refine XS.icmpNo X99.here hx rfl (hb hby at_164) rfl (teq (by decide : ((0 : Int32) = (0 : Int32)))).2 ?_
            show Steps p.tables e below (T99.setTop (mkF m 167 #[.val (.int p0), .val (.int p1), .val (.int p2), .val (.int ra), .val (.int rb), .val (.ref b30), .val (.ref b32), .val (.int kk), .val (.ref b84_y0), .val (.int (0 : Int32)), .val (.int (0 : Int32)), .val (.int (0 : Int32)), .val (.int (1 : Int32)), .val (.int (0 : Int32))] [])) _
            refine XS.iload X99.here hx rfl (hb hby at_167) rfl  ?_
            show Steps p.tables e below (T99.setTop (mkF m 169 #[.val (.int p0), .val (.int p1), .val (.int p2), .val (.int ra), .val (.int rb), .val (.ref b30), .val (.ref b32), .val (.int kk), .val (.ref b84_y0), .val (.int (0 : Int32)), .val (.int (0 : Int32)), .val (.int (0 : Int32)), .val (.int (1 : Int32)), .val (.int (0 : Int32))] [(.int (1 : Int32))])) _
            refine XS.ifNo X99.here hx rfl (hb hby at_169) rfl ((if0 _ _).trans (feq (by decide : ¬ ((1 : Int32) = (0 : Int32)))).1) ?_
            show Steps p.tables e below (T99.setTop (mkF m 172 #[.val (.int p0), .val (.int p1), .val (.int p2), .val (.int ra), .val (.int rb), .val (.ref b30), .val (.ref b32), .val (.int kk), .val (.ref b84_y0), .val (.int (0 : Int32)), .val (.int (0 : Int32)), .val (.int (0 : Int32)), .val (.int (1 : Int32)), .val (.int (0 : Int32))] [])) _
            refine XS.iload X99.here hx rfl (hb hby at_172) rfl  ?_
            show Steps p.tables e below (T99.setTop (mkF m 174 #[.val (.int p0), .val (.int p1), .val (.int p2), .val (.int ra), .val (.int rb), .val (.ref b30), .val (.ref b32), .val (.int kk), .val (.ref b84_y0), .val (.int (0 : Int32)), .val (.int (0 : Int32)), .val (.int (0 : Int32)), .val (.int (1 : Int32)), .val (.int (0 : Int32))] [(.int (0 : Int32))])) _
            refine XS.ifNo X99.here hx rfl (hb hby at_174) rfl ((if0 _ _).trans (teq (by decide : ((0 : Int32) = (0 : Int32)))).2) ?_
            show Steps p.tables e below (T99.setTop (mkF m 177 #[.val (.int p0), .val (.int p1), .val (.int p2), .val (.int ra), .val (.int rb), .val (.ref b30), .val (.ref b32), .val (.int kk), .val (.ref b84_y0), .val (.int (0 : Int32)), .val (.int (0 : Int32)), .val (.int (0 : Int32)), .val (.int (1 : Int32)), .val (.int (0 : Int32))] [])) _
            refine XS.iconst X99.here hx rfl (hb hby at_177) ?_
            show Steps p.tables e below (T99.setTop (mkF m 178 #[.val (.int p0), .val (.int p1), .val (.int p2), .val (.int ra), .val (.int rb), .val (.ref b30), .val (.ref b32), .val (.int kk), .val (.ref b84_y0), .val (.int (0 : Int32)), .val (.int (0 : Int32)), .val (.int (0 : Int32)), .val (.int (1 : Int32)), .val (.int (0 : Int32))] [(.int (1 : Int32))])) _
            refine XS.goto X99.here hx rfl (pc0 := 178) (pc' := 182) rfl (hb hby at_178) (by decide) (by decide) ?_
            show Steps p.tables e below (T99.setTop (mkF m 182 #[.val (.int p0), .val (.int p1), .val (.int p2), .val (.int ra), .val (.int rb), .val (.ref b30), .val (.ref b32), .val (.int kk), .val (.ref b84_y0), .val (.int (0 : Int32)), .val (.int (0 : Int32)), .val (.int (0 : Int32)), .val (.int (1 : Int32)), .val (.int (0 : Int32))] [(.int (1 : Int32))])) _
            exact k
          obtain ⟨fs, hr, hrun, hended, hW, hsame⟩ := X99.leave (v := some (.int (1 : Int32))) (fun h => by rw [Bd.returns] at h; cases h)
          refine Go.mk' ⟨_, _, retN X99 hx (t := .boolean) Bd.returns (by simp) (hb hby at_182) hr, hrun, hended, _, _, rfl, ?_, ⟨_, rfl⟩, hW, hsame.mono (by decide) (by decide)⟩
          show Q0 Z p0 p1 p2 h0 n0 _ T99.heap _
          rw [e99]
          exact ⟨rfl, N99⟩
set_option maxRecDepth 65536 in
set_option maxHeartbeats 40000000 in
theorem comes_1 {Post : Tables → Env → Array Value → State → Outcome → State → Prop} (hpost : ∀ tb e args s v u, (limb_1_1.after args s (.returned v) u = true ∧ limb_1_2.after args s (.returned v) u = true ∧ True) → FrameEnd s (.returned v) u (Jvm.fieldLocs frame_1_writes args s ++ Jvm.arrayLocs frame_1_arrays args s ++ Jvm.staticLocs frame_1_statics s) 16 128 → Post tb e args s (.returned v) u) :
    ArmFor flags0 classFile x code maxLocals ret World_1 tables_1 room_1 Calls_1 rest_1 Pre_1 Post := by
  intro l hfl _ _ p e ha hc hk s m args below hf hA hF happ hP
  obtain ⟨hcalls, hrest, hpre⟩ := hP
  obtain ⟨-, -, -, hnamed, -, -, -, hat⟩ := (Spec.applies_iff hf).mp happ
  obtain ⟨hg, hn⟩ := and_e (Cond.before_iff.mp (show (Jvm.Cond.and given_1 narrow_1).before args s = true from hpre))
  obtain ⟨gg0, hg⟩ := and_e hg
  obtain ⟨gg1, hg⟩ := and_e hg
  obtain ⟨gg2, hg⟩ := and_e hg
  have gg3 := hg
  obtain ⟨w0, w1, w2, rfl⟩ : ∃ w0 w1 w2 : Value, args = #[w0, w1, w2] := by
    have hs : args.size = 3 := by simpa [Cond.value, given_1] using gg0
    obtain ⟨L⟩ := args
    match L, hs with
    | [w0, w1, w2], _ => exact ⟨w0, w1, w2, rfl⟩
  have hw := fun d (hd : d ∈ tables_1) => atoms_spec (ws := Jvm.Cond.code x code maxLocals ret :: tables_1) hat d (List.mem_cons_of_mem _ hd)
  have hfit : Fit s := fun {y c} hc i hi => by
    obtain ⟨ha, rfl⟩ := Array.getElem?_eq_some_iff.mp hc
    have q := List.all_eq_true.mp ((Array.all_eq_true_iff_forall_mem.mp hF) _ (Array.getElem_mem ha)) i (List.mem_range.mpr hi)
    simpa [Array.getElem?_eq_getElem hi] using q
  obtain ⟨hsets, hown0⟩ := atoms_of _ (rest_1_c_eq ▸ (show rest_1_c.before _ s = true from hrest))
  obtain ⟨i0, ei0⟩ := is_v gg1
  obtain rfl : w0 = (.int i0) := Option.some.inj ei0
  obtain ⟨i1, ei1⟩ := is_v gg2
  obtain rfl : w1 = (.int i1) := Option.some.inj ei1
  obtain ⟨i2, ei2⟩ := is_v gg3
  obtain rfl : w2 = (.int i2) := Option.some.inj ei2
  have S_ihigh : Sta s s.heap "java/lang/Integer$IntegerCache" "high" "I" (.int (127 : Int32)) := Sta.start (eqv_i (Term.int_eval _) (Cond.before_iff.mp (hsets _ (List.mem_of_getElem? (i := 3) rfl)))) (Or.inl (hsets _ (List.mem_of_getElem? (i := 1) rfl)))
  obtain ⟨s_icache, ev_icache⟩ := arr_v (Cond.before_iff.mp (hsets _ (List.mem_of_getElem? (i := 4) rfl)))
  obtain ⟨cl_icache, A_icache⟩ := Arr.start ev_icache (Cond.before_iff.mp (hsets _ (List.mem_of_getElem? (i := 4) rfl)))
  obtain ⟨sz_icache, ln_icache⟩ := own_len ev_icache A_icache (Cond.before_iff.mp (hsets _ (List.mem_of_getElem? (i := 6) rfl)))
  have B_icache := Bxs.start (val := fun j => .int (j - 128)) (fun _ => ev_icache) A_icache sz_icache ln_icache (by decide) (Cond.before_iff.mp (hsets _ (List.mem_of_getElem? (i := 7) rfl))) (fun X j hj h => own_sub128 hj h)
  have S_icache := Sta.start ev_icache (Or.inr ⟨(hw _ (List.mem_of_getElem? (i := 17) rfl)), (hsets _ (List.mem_of_getElem? (i := 2) rfl))⟩)
  obtain ⟨s_lcache, ev_lcache⟩ := arr_v (Cond.before_iff.mp (hsets _ (List.mem_of_getElem? (i := 19) rfl)))
  obtain ⟨cl_lcache, A_lcache⟩ := Arr.start ev_lcache (Cond.before_iff.mp (hsets _ (List.mem_of_getElem? (i := 19) rfl)))
  obtain ⟨sz_lcache, ln_lcache⟩ := own_len ev_lcache A_lcache (Cond.before_iff.mp (hsets _ (List.mem_of_getElem? (i := 21) rfl)))
  have B_lcache := Bxs.start (val := fun j => .long (j - 128).toInt64) (fun _ => ev_lcache) A_lcache sz_lcache ln_lcache (by decide) (Cond.before_iff.mp (hsets _ (List.mem_of_getElem? (i := 22) rfl))) (fun X j hj h => own_sub128L hj h)
  have S_lcache := Sta.start ev_lcache (Or.inl (hsets _ (List.mem_of_getElem? (i := 18) rfl)))
  obtain ⟨c_compact, ev_compact⟩ := is_v (Cond.before_iff.mp (hsets _ (List.mem_of_getElem? (i := 9) rfl)))
  have S_compact := Sta.start ev_compact (Or.inl (hsets _ (List.mem_of_getElem? (i := 8) rfl)))
  have N_compact : ¬ c_compact = (0 : Int32) := gotF (Cond.eq_ints ev_compact (Term.int_eval _)) (not_v (Cond.before_iff.mp (hsets _ (List.mem_of_getElem? (i := 10) rfl))))
  obtain ⟨n, o, h1, h2, h3, _, L, rfl, ⟨rfl, N⟩, hq⟩ := rm0 l s _ hw tables_1 s_icache cl_icache s_lcache cl_lcache c_compact (show W0 s s_icache cl_icache s_lcache cl_lcache c_compact from ⟨S_ihigh, B_icache, S_icache, B_lcache, S_lcache, S_compact, N_compact⟩) i0 i1 i2 s.heap s.heap.size (Old.start s) p e ha hc hk s m _ below hf ((Spec.applies_iff_loose hf).mp happ).1 ⟨rfl, State.Warmed39.refl s, rfl⟩ trivial
  refine ⟨n, _, h1, h2, h3, hpost _ _ _ _ _ _ ⟨Cond.after_iff.mpr rfl, Cond.after_iff.mpr (eq_i res_at (Term.int_eval (1)) rfl), trivial⟩ ⟨hq.1, hq.2.1, (hq.2.2.sift fun y hy => Or.inr (N y hy)).mono (by decide) (by decide)⟩⟩
theorem main_1_1 : Claimed_1_1 := comes_1 fun _ _ _ _ _ _ h hF => ⟨h.1, hF⟩
theorem main_1_2 : Claimed_1_2 := comes_1 fun _ _ _ _ _ _ h hF => ⟨h.2.1, hF⟩
end Jvm.Pilot.@@N@@
namespace Jvm.Pilot.@@N@@
open Jvm Jvm.ClassFile Sem Op Lib Jvm.Free Jvm.Stand Jvm.Pilot.@@N@@.Jvm.D
/-! MADE BY PROGRAM (witnessworld.py) out of the Statement's table words and the real class files: 24 classes; the members and pool entries that the words name. The judged class is class 1, her method 1. -/
namespace start1
open Jvm.ClassFile
def u (s : String) : CpInfo := .utf8 (stringToUtf16 s)
/-- a pool by its gaps: so many unusable entries, then the entry; so many at the end -/
def gap : Nat → List CpInfo → List CpInfo
  | 0, r => r
  | n + 1, r => .unusable :: gap n r
def poolList (es : List (Nat × CpInfo)) (last : Nat) : List CpInfo := es.foldr (fun e r => gap e.1 (e.2 :: r)) (gap last [])
def pool (es : List (Nat × CpInfo)) (last : Nat) : Array CpInfo := ⟨poolList es last⟩
def fileOf (pool : Array CpInfo) (this : Nat) (attrs : Array Attribute := #[]) (ms : Array MethodInfo := #[]) (fl : Nat := 33) (sup : Nat := 0) (ifs : Array Nat := #[]) (fds : Array FieldInfo := #[]) : ClassFile where
  minorVersion := 0
  majorVersion := 65
  constantPool := pool
  accessFlags := fl
  thisClass := this
  superClass := sup
  interfaces := ifs
  fields := fds
  methods := ms
  attributes := attrs
def plain (name : String) (sup : Option ClassId) : Class where
  name := name
  kind := .ordinary
  loader := none
  accessFlags := 33
  super := sup
  interfaces := #[]
  cf := none
  fields := #[]
  methods := #[]
  instanceTypes := #[]
  staticTypes := #[]
  resolved := #[]
  callSites := []
  init := .initialized
  statics := none
  mirror := none

def pool0 : Array CpInfo := pool [(5, u "<init>"), (0, u "()V"), (1, .class_ 10), (1, u "java/lang/Object")] 113

def k0c0 : Code := { maxStack := 0, maxLocals := 1, code := object_method_1_code, exceptionTable := #[], attributes := #[] }
def k0m0 : Method := { name := "<init>", desc := "()V", sig := { parameters := [], returnType := none }, accessFlags := 1, code := some k0c0 }
/-- java/lang/Object -/
def k0 : Class := { plain "java/lang/Object" none with
  accessFlags := 33
  interfaces := #[]
  cf := some (fileOf pool0 8 #[] #[{ accessFlags := 1, nameIndex := 5, descriptorIndex := 6, attributes := #[] }] 33 0 #[] #[])
  fields := #[]
  methods := #[k0m0]
  instanceTypes := #[]
  staticTypes := #[]
  resolved := Array.replicate 124 none
  statics := none }

def pool1 : Array CpInfo := pool [(2, .class_ 4), (1, u "java/lang/Object"), (0, u "<init>"), (0, u "()V"), (0, .integer 2147483647), (0, .class_ 9), (0, u "com/example/rooted_kinds/rootedkinds/model/Rating"), (0, .methodref 8 11), (0, .nameAndType 5 12), (0, u "(I)V"), (0, .methodref 14 15), (0, .class_ 16), (0, .nameAndType 17 18), (0, u "java/lang/Integer"), (0, u "valueOf"), (0, u "(I)Ljava/lang/Integer;"), (0, .methodref 20 21), (0, .class_ 22), (0, .nameAndType 17 23), (0, u "java/lang/Long"), (0, u "(J)Ljava/lang/Long;"), (0, .methodref 25 26), (0, .class_ 27), (0, .nameAndType 17 28), (0, u "java/lang/String"), (0, u "(C)Ljava/lang/String;"), (0, .methodref 8 30), (0, .nameAndType 31 32), (0, u "equals"), (0, u "(Ljava/lang/Object;)Z"), (0, .class_ 34), (0, u "com/example/rooted_kinds/rootedkinds/model/RatingEqualsPinLaw"), (2, u "law"), (0, u "(III)Z")] 3

def k1m0 : Method := { name := "<init>", desc := "()V", sig := { parameters := [], returnType := none }, accessFlags := 1, code := none }
def k1c1 : Code := { maxStack := 3, maxLocals := 14, code := code, exceptionTable := #[], attributes := #[] }
def k1m1 : Method := { name := "law", desc := "(III)Z", sig := { parameters := [.int, .int, .int], returnType := some .boolean }, accessFlags := 9, code := some k1c1 }
/-- com/example/rooted_kinds/rootedkinds/model/RatingEqualsPinLaw -/
def k1 : Class := { plain "com/example/rooted_kinds/rootedkinds/model/RatingEqualsPinLaw" (some 0) with
  accessFlags := 49
  interfaces := #[]
  cf := some (fileOf pool1 33 #[] #[{ accessFlags := 1, nameIndex := 5, descriptorIndex := 6, attributes := #[] }, { accessFlags := 9, nameIndex := 37, descriptorIndex := 38, attributes := #[] }] 49 2 #[] #[])
  fields := #[]
  methods := #[k1m0, k1m1]
  instanceTypes := #[]
  staticTypes := #[]
  resolved := Array.replicate 42 none
  statics := none }

def pool2 : Array CpInfo := pool [(1, .methodref 2 3), (0, .class_ 4), (0, .nameAndType 5 6), (0, u "java/lang/Object"), (0, u "<init>"), (0, u "()V"), (0, .class_ 8), (0, u "com/example/rooted_kinds/rootedkinds/model/Rating"), (9, .fieldref 7 19), (0, .nameAndType 20 21), (0, u "rating"), (0, u "I"), (7, u "MIN_VALUE"), (2, u "MAX_VALUE"), (1, u "(I)V"), (5, u "equals"), (0, u "(Ljava/lang/Object;)Z")] 21

def k2c0 : Code := { maxStack := 3, maxLocals := 2, code := prog_44_method_1_code, exceptionTable := #[], attributes := #[] }
def k2m0 : Method := { name := "<init>", desc := "(I)V", sig := { parameters := [.int], returnType := none }, accessFlags := 1, code := some k2c0 }
def k2c1 : Code := { maxStack := 2, maxLocals := 3, code := prog_44_method_3_code, exceptionTable := #[], attributes := #[] }
def k2m1 : Method := { name := "equals", desc := "(Ljava/lang/Object;)Z", sig := { parameters := [(.object "java/lang/Object")], returnType := some .boolean }, accessFlags := 1, code := some k2c1 }
/-- com/example/rooted_kinds/rootedkinds/model/Rating -/
def k2 : Class := { plain "com/example/rooted_kinds/rootedkinds/model/Rating" (some 0) with
  accessFlags := 49
  interfaces := #[]
  cf := some (fileOf pool2 7 #[] #[{ accessFlags := 1, nameIndex := 5, descriptorIndex := 34, attributes := #[] }, { accessFlags := 1, nameIndex := 40, descriptorIndex := 41, attributes := #[] }] 49 2 #[] #[{ accessFlags := 25, nameIndex := 29, descriptorIndex := 21, attributes := #[] }, { accessFlags := 25, nameIndex := 32, descriptorIndex := 21, attributes := #[] }, { accessFlags := 18, nameIndex := 20, descriptorIndex := 21, attributes := #[] }])
  fields := #[{ name := "MIN_VALUE", type := .int, accessFlags := 25, slot := 0, constantValue := 0 }, { name := "MAX_VALUE", type := .int, accessFlags := 25, slot := 1, constantValue := 0 }, { name := "rating", type := .int, accessFlags := 18, slot := 0, constantValue := 0 }]
  methods := #[k2m0, k2m1]
  instanceTypes := #[.int]
  staticTypes := #[.int, .int]
  resolved := Array.replicate 63 none
  statics := none }

def pool3 : Array CpInfo := pool [(1, .class_ 2), (0, u "java/io/Serializable"), (0, .class_ 4), (0, u "java/lang/Object")] 2

/-- java/io/Serializable -/
def k3 : Class := { plain "java/io/Serializable" (some 0) with
  accessFlags := 1537
  interfaces := #[]
  cf := some (fileOf pool3 1 #[] #[] 1537 3 #[] #[])
  fields := #[]
  methods := #[]
  instanceTypes := #[]
  staticTypes := #[]
  resolved := Array.replicate 7 none
  statics := none }

def pool4 : Array CpInfo := pool [(2, .class_ 4), (1, u "java/lang/Object"), (0, u "<init>"), (0, u "()V"), (1, .class_ 10), (1, u "java/lang/Number"), (2, .class_ 14), (0, u "java/io/Serializable"), (0, u "serialVersionUID"), (0, u "J")] 20

def k4m0 : Method := { name := "<init>", desc := "()V", sig := { parameters := [], returnType := none }, accessFlags := 1, code := none }
/-- java/lang/Number -/
def k4 : Class := { plain "java/lang/Number" (some 0) with
  accessFlags := 1057
  interfaces := #[3]
  cf := some (fileOf pool4 8 #[] #[{ accessFlags := 1, nameIndex := 5, descriptorIndex := 6, attributes := #[] }] 1057 2 #[13] #[{ accessFlags := 26, nameIndex := 15, descriptorIndex := 16, attributes := #[] }])
  fields := #[{ name := "serialVersionUID", type := .long, accessFlags := 26, slot := 0, constantValue := 0 }]
  methods := #[k4m0]
  instanceTypes := #[]
  staticTypes := #[.long]
  resolved := Array.replicate 37 none
  statics := none }

def pool5 : Array CpInfo := pool [(1, .class_ 2), (0, u "java/lang/Comparable"), (0, .class_ 4), (0, u "java/lang/Object")] 7

/-- java/lang/Comparable -/
def k5 : Class := { plain "java/lang/Comparable" (some 0) with
  accessFlags := 1537
  interfaces := #[]
  cf := some (fileOf pool5 1 #[] #[] 1537 3 #[] #[])
  fields := #[]
  methods := #[]
  instanceTypes := #[]
  staticTypes := #[]
  resolved := Array.replicate 12 none
  statics := none }

def pool6 : Array CpInfo := pool [(1, .class_ 2), (0, u "java/lang/constant/Constable"), (0, .class_ 4), (0, u "java/lang/Object")] 6

/-- java/lang/constant/Constable -/
def k6 : Class := { plain "java/lang/constant/Constable" (some 0) with
  accessFlags := 1537
  interfaces := #[]
  cf := some (fileOf pool6 1 #[] #[] 1537 3 #[] #[])
  fields := #[]
  methods := #[]
  instanceTypes := #[]
  staticTypes := #[]
  resolved := Array.replicate 11 none
  statics := none }

def pool7 : Array CpInfo := pool [(1, .class_ 2), (0, u "java/lang/constant/ConstantDesc"), (0, .class_ 4), (0, u "java/lang/Object")] 32

/-- java/lang/constant/ConstantDesc -/
def k7 : Class := { plain "java/lang/constant/ConstantDesc" (some 0) with
  accessFlags := 1537
  interfaces := #[]
  cf := some (fileOf pool7 1 #[] #[] 1537 3 #[] #[])
  fields := #[]
  methods := #[]
  instanceTypes := #[]
  staticTypes := #[]
  resolved := Array.replicate 37 none
  statics := none }

def pool8 : Array CpInfo := pool [(1, .class_ 2), (0, u "java/lang/Integer"), (16, u "digits"), (0, u "[C"), (64, u "DigitOnes"), (0, u "[B"), (2, u "DigitTens"), (97, u "valueOf"), (0, u "(I)Ljava/lang/Integer;"), (0, .class_ 190), (0, u "java/lang/Integer$IntegerCache"), (0, .fieldref 189 192), (0, .nameAndType 193 194), (0, u "high"), (0, u "I"), (0, .fieldref 189 196), (0, .nameAndType 197 198), (0, u "cache"), (0, u "[Ljava/lang/Integer;"), (4, .class_ 204), (0, u "java/lang/Number"), (2, u "value"), (94, u "TYPE"), (0, u "Ljava/lang/Class;"), (0, .class_ 305), (0, u "java/lang/Comparable"), (0, .class_ 307), (0, u "java/lang/constant/Constable"), (0, .class_ 309), (0, u "java/lang/constant/ConstantDesc"), (0, u "MIN_VALUE"), (1, u "MAX_VALUE"), (3, u "SIZE"), (1, u "BYTES"), (1, u "serialVersionUID"), (0, u "J")] 131

def k8c0 : Code := { maxStack := 3, maxLocals := 1, code := jdk_33_method_22_code, exceptionTable := #[], attributes := #[] }
def k8m0 : Method := { name := "valueOf", desc := "(I)Ljava/lang/Integer;", sig := { parameters := [.int], returnType := some (.object "java/lang/Integer") }, accessFlags := 9, code := some k8c0 }
/-- java/lang/Integer -/
def k8 : Class := { plain "java/lang/Integer" (some 4) with
  accessFlags := 49
  interfaces := #[5, 6, 7]
  cf := some (fileOf pool8 1 #[.nestMembers #[189]] #[{ accessFlags := 9, nameIndex := 187, descriptorIndex := 188, attributes := #[] }] 49 203 #[304, 306, 308] #[{ accessFlags := 25, nameIndex := 310, descriptorIndex := 194, attributes := #[] }, { accessFlags := 25, nameIndex := 312, descriptorIndex := 194, attributes := #[] }, { accessFlags := 25, nameIndex := 302, descriptorIndex := 303, attributes := #[] }, { accessFlags := 24, nameIndex := 19, descriptorIndex := 20, attributes := #[] }, { accessFlags := 24, nameIndex := 89, descriptorIndex := 86, attributes := #[] }, { accessFlags := 24, nameIndex := 85, descriptorIndex := 86, attributes := #[] }, { accessFlags := 18, nameIndex := 207, descriptorIndex := 194, attributes := #[] }, { accessFlags := 25, nameIndex := 316, descriptorIndex := 194, attributes := #[] }, { accessFlags := 25, nameIndex := 318, descriptorIndex := 194, attributes := #[] }, { accessFlags := 26, nameIndex := 320, descriptorIndex := 321, attributes := #[] }])
  fields := #[{ name := "MIN_VALUE", type := .int, accessFlags := 25, slot := 0, constantValue := 0 }, { name := "MAX_VALUE", type := .int, accessFlags := 25, slot := 1, constantValue := 0 }, { name := "TYPE", type := (.object "java/lang/Class"), accessFlags := 25, slot := 2, constantValue := 0 }, { name := "digits", type := (.array .char), accessFlags := 24, slot := 3, constantValue := 0 }, { name := "DigitTens", type := (.array .byte), accessFlags := 24, slot := 4, constantValue := 0 }, { name := "DigitOnes", type := (.array .byte), accessFlags := 24, slot := 5, constantValue := 0 }, { name := "value", type := .int, accessFlags := 18, slot := 0, constantValue := 0 }, { name := "SIZE", type := .int, accessFlags := 25, slot := 6, constantValue := 0 }, { name := "BYTES", type := .int, accessFlags := 25, slot := 7, constantValue := 0 }, { name := "serialVersionUID", type := .long, accessFlags := 26, slot := 8, constantValue := 0 }]
  methods := #[k8m0]
  instanceTypes := #[.int]
  staticTypes := #[.int, .int, (.object "java/lang/Class"), (.array .char), (.array .byte), (.array .byte), .int, .int, .long]
  resolved := Array.replicate 453 none
  statics := none }

def pool9 : Array CpInfo := pool [(2, .class_ 4), (1, u "java/lang/Object"), (0, u "<init>"), (0, u "()V"), (0, .class_ 8), (0, u "java/lang/Integer"), (7, .class_ 18), (1, u "java/lang/Integer$IntegerCache"), (0, u "$assertionsDisabled"), (0, u "Z"), (26, u "high"), (0, u "I"), (8, u "archivedCache"), (0, u "[Ljava/lang/Integer;"), (12, u "cache"), (0, u "low")] 27

def k9m0 : Method := { name := "<init>", desc := "()V", sig := { parameters := [], returnType := none }, accessFlags := 2, code := none }
/-- java/lang/Integer$IntegerCache -/
def k9 : Class := { plain "java/lang/Integer$IntegerCache" (some 0) with
  accessFlags := 48
  interfaces := #[]
  cf := some (fileOf pool9 16 #[.nestHost 7] #[{ accessFlags := 2, nameIndex := 5, descriptorIndex := 6, attributes := #[] }] 48 2 #[] #[{ accessFlags := 24, nameIndex := 72, descriptorIndex := 48, attributes := #[] }, { accessFlags := 24, nameIndex := 47, descriptorIndex := 48, attributes := #[] }, { accessFlags := 24, nameIndex := 71, descriptorIndex := 58, attributes := #[] }, { accessFlags := 8, nameIndex := 57, descriptorIndex := 58, attributes := #[] }, { accessFlags := 4120, nameIndex := 19, descriptorIndex := 20, attributes := #[] }])
  fields := #[{ name := "low", type := .int, accessFlags := 24, slot := 0, constantValue := 0 }, { name := "high", type := .int, accessFlags := 24, slot := 1, constantValue := 0 }, { name := "cache", type := (.array (.object "java/lang/Integer")), accessFlags := 24, slot := 2, constantValue := 0 }, { name := "archivedCache", type := (.array (.object "java/lang/Integer")), accessFlags := 8, slot := 3, constantValue := 0 }, { name := "$assertionsDisabled", type := .boolean, accessFlags := 4120, slot := 4, constantValue := 0 }]
  methods := #[k9m0]
  instanceTypes := #[]
  staticTypes := #[.int, .int, (.array (.object "java/lang/Integer")), (.array (.object "java/lang/Integer")), .boolean]
  resolved := Array.replicate 100 none
  statics := some 0 }

def pool10 : Array CpInfo := pool [(2, .class_ 4), (1, u "java/lang/CharSequence"), (42, .class_ 48), (0, u "java/lang/CharSequence$1CodePointIterator"), (10, .class_ 60), (0, u "java/lang/CharSequence$1CharIterator"), (5, .class_ 67), (0, u "java/lang/Object")] 63

/-- java/lang/CharSequence -/
def k10 : Class := { plain "java/lang/CharSequence" (some 0) with
  accessFlags := 1537
  interfaces := #[]
  cf := some (fileOf pool10 2 #[.nestMembers #[47, 59]] #[] 1537 66 #[] #[])
  fields := #[]
  methods := #[]
  instanceTypes := #[]
  staticTypes := #[]
  resolved := Array.replicate 131 none
  statics := none }

def pool11 : Array CpInfo := pool [(1, .methodref 2 3), (0, .class_ 4), (0, .nameAndType 5 6), (0, u "java/lang/Object"), (0, u "<init>"), (0, u "()V"), (2, .fieldref 10 11), (0, .class_ 12), (0, .nameAndType 13 14), (0, u "java/lang/String"), (0, u "value"), (0, u "[B"), (0, .fieldref 10 16), (0, .nameAndType 17 18), (0, u "coder"), (0, u "B"), (2, u "hash"), (0, u "I"), (2, u "hashIsZero"), (0, u "Z"), (11, .fieldref 10 39), (0, .nameAndType 40 26), (0, u "COMPACT_STRINGS"), (12, u "toBytes"), (53, .class_ 109), (1, u "java/lang/StringLatin1"), (99, .methodref 10 210), (0, .nameAndType 5 211), (0, u "([BB)V"), (157, u "(C)Z"), (205, .class_ 576), (0, u "java/lang/CharSequence"), (22, u "CASE_INSENSITIVE_ORDER"), (0, u "Ljava/util/Comparator;"), (181, u "valueOf"), (0, u "(C)Ljava/lang/String;"), (231, .methodref 107 1016), (0, .nameAndType 1017 369), (0, u "canEncode"), (0, .methodref 107 1019), (0, .nameAndType 53 1020), (0, u "(C)[B"), (80, u "serialPersistentFields"), (0, u "[Ljava/io/ObjectStreamField;"), (0, .class_ 1104), (0, u "java/lang/String$CaseInsensitiveComparator"), (1, .class_ 1107), (0, u "java/io/Serializable"), (0, .class_ 1109), (0, u "java/lang/Comparable"), (0, .class_ 1111), (0, u "java/lang/constant/Constable"), (0, .class_ 1113), (0, u "java/lang/constant/ConstantDesc"), (2, u "serialVersionUID"), (0, u "J"), (3, u "REPL"), (0, u "C"), (2, u "LATIN1"), (1, u "UTF16")] 323

def k11m0 : Method := { name := "<init>", desc := "()V", sig := { parameters := [], returnType := none }, accessFlags := 1, code := none }
def k11c1 : Code := { maxStack := 4, maxLocals := 1, code := jdk_42_method_139_code, exceptionTable := #[], attributes := #[] }
def k11m1 : Method := { name := "valueOf", desc := "(C)Ljava/lang/String;", sig := { parameters := [.char], returnType := some (.object "java/lang/String") }, accessFlags := 9, code := some k11c1 }
def k11c2 : Code := { maxStack := 2, maxLocals := 3, code := jdk_42_method_151_code, exceptionTable := #[], attributes := #[] }
def k11m2 : Method := { name := "<init>", desc := "([BB)V", sig := { parameters := [(.array .byte), .byte], returnType := none }, accessFlags := 0, code := some k11c2 }
/-- java/lang/String -/
def k11 : Class := { plain "java/lang/String" (some 0) with
  accessFlags := 49
  interfaces := #[3, 5, 10, 6, 7]
  cf := some (fileOf pool11 10 #[.nestMembers #[1103]] #[{ accessFlags := 1, nameIndex := 5, descriptorIndex := 6, attributes := #[] }, { accessFlags := 9, nameIndex := 782, descriptorIndex := 783, attributes := #[] }, { accessFlags := 0, nameIndex := 5, descriptorIndex := 211, attributes := #[] }] 49 2 #[1106, 1108, 575, 1110, 1112] #[{ accessFlags := 18, nameIndex := 13, descriptorIndex := 14, attributes := #[] }, { accessFlags := 18, nameIndex := 17, descriptorIndex := 18, attributes := #[] }, { accessFlags := 2, nameIndex := 21, descriptorIndex := 22, attributes := #[] }, { accessFlags := 2, nameIndex := 25, descriptorIndex := 26, attributes := #[] }, { accessFlags := 26, nameIndex := 1116, descriptorIndex := 1117, attributes := #[] }, { accessFlags := 24, nameIndex := 40, descriptorIndex := 26, attributes := #[] }, { accessFlags := 26, nameIndex := 1101, descriptorIndex := 1102, attributes := #[] }, { accessFlags := 26, nameIndex := 1121, descriptorIndex := 1122, attributes := #[] }, { accessFlags := 25, nameIndex := 599, descriptorIndex := 600, attributes := #[] }, { accessFlags := 24, nameIndex := 1125, descriptorIndex := 18, attributes := #[] }, { accessFlags := 24, nameIndex := 1127, descriptorIndex := 18, attributes := #[] }])
  fields := #[{ name := "value", type := (.array .byte), accessFlags := 18, slot := 0, constantValue := 0 }, { name := "coder", type := .byte, accessFlags := 18, slot := 1, constantValue := 0 }, { name := "hash", type := .int, accessFlags := 2, slot := 2, constantValue := 0 }, { name := "hashIsZero", type := .boolean, accessFlags := 2, slot := 3, constantValue := 0 }, { name := "serialVersionUID", type := .long, accessFlags := 26, slot := 0, constantValue := 0 }, { name := "COMPACT_STRINGS", type := .boolean, accessFlags := 24, slot := 1, constantValue := 0 }, { name := "serialPersistentFields", type := (.array (.object "java/io/ObjectStreamField")), accessFlags := 26, slot := 2, constantValue := 0 }, { name := "REPL", type := .char, accessFlags := 26, slot := 3, constantValue := 0 }, { name := "CASE_INSENSITIVE_ORDER", type := (.object "java/util/Comparator"), accessFlags := 25, slot := 4, constantValue := 0 }, { name := "LATIN1", type := .byte, accessFlags := 24, slot := 5, constantValue := 0 }, { name := "UTF16", type := .byte, accessFlags := 24, slot := 6, constantValue := 0 }]
  methods := #[k11m0, k11m1, k11m2]
  instanceTypes := #[(.array .byte), .byte, .int, .boolean]
  staticTypes := #[.long, .boolean, (.array (.object "java/io/ObjectStreamField")), .char, (.object "java/util/Comparator"), .byte, .byte]
  resolved := Array.replicate 1451 none
  statics := some 1 }

def pool12 : Array CpInfo := pool [(4, .class_ 6), (1, u "java/lang/Object"), (0, u "<init>"), (0, u "()V"), (5, .class_ 16), (1, u "java/lang/StringLatin1"), (73, u "canEncode"), (14, u "(C)Z"), (15, u "$assertionsDisabled"), (0, u "Z"), (98, .class_ 223), (1, u "java/lang/StringLatin1$LinesSpliterator"), (156, u "toBytes"), (1, u "(C)[B"), (7, .class_ 391), (0, u "java/lang/StringLatin1$CharsSpliterator")] 3

def k12m0 : Method := { name := "<init>", desc := "()V", sig := { parameters := [], returnType := none }, accessFlags := 0, code := none }
def k12c1 : Code := { maxStack := 2, maxLocals := 1, code := jdk_43_method_3_code, exceptionTable := #[], attributes := #[] }
def k12m1 : Method := { name := "canEncode", desc := "(C)Z", sig := { parameters := [.char], returnType := some .boolean }, accessFlags := 9, code := some k12c1 }
def k12c2 : Code := { maxStack := 4, maxLocals := 1, code := jdk_43_method_46_code, exceptionTable := #[], attributes := #[] }
def k12m2 : Method := { name := "toBytes", desc := "(C)[B", sig := { parameters := [.char], returnType := some (.array .byte) }, accessFlags := 9, code := some k12c2 }
/-- java/lang/StringLatin1 -/
def k12 : Class := { plain "java/lang/StringLatin1" (some 0) with
  accessFlags := 48
  interfaces := #[]
  cf := some (fileOf pool12 14 #[.nestMembers #[390, 221]] #[{ accessFlags := 0, nameIndex := 7, descriptorIndex := 8, attributes := #[] }, { accessFlags := 9, nameIndex := 90, descriptorIndex := 105, attributes := #[] }, { accessFlags := 9, nameIndex := 380, descriptorIndex := 382, attributes := #[] }] 48 4 #[] #[{ accessFlags := 4120, nameIndex := 121, descriptorIndex := 122, attributes := #[] }])
  fields := #[{ name := "$assertionsDisabled", type := .boolean, accessFlags := 4120, slot := 0, constantValue := 0 }]
  methods := #[k12m0, k12m1, k12m2]
  instanceTypes := #[]
  staticTypes := #[.boolean]
  resolved := Array.replicate 395 none
  statics := none }

def pool13 : Array CpInfo := pool [(1, .class_ 2), (0, u "java/lang/Long"), (82, u "valueOf"), (143, u "(J)Ljava/lang/Long;"), (0, .long 18446744073709551488), (1, .long 127), (1, .fieldref 235 236), (0, .class_ 237), (0, .nameAndType 238 239), (0, u "java/lang/Long$LongCache"), (0, u "cache"), (0, u "[Ljava/lang/Long;"), (31, .class_ 272), (0, u "java/lang/Number"), (2, u "value"), (0, u "J"), (84, u "TYPE"), (0, u "Ljava/lang/Class;"), (0, .class_ 364), (0, u "java/lang/Comparable"), (0, .class_ 366), (0, u "java/lang/constant/Constable"), (0, .class_ 368), (0, u "java/lang/constant/ConstantDesc"), (0, u "MIN_VALUE"), (1, u "MAX_VALUE"), (4, u "SIZE"), (0, u "I"), (1, u "BYTES"), (1, u "serialVersionUID")] 142

def k13c0 : Code := { maxStack := 4, maxLocals := 3, code := jdk_35_method_24_code, exceptionTable := #[], attributes := #[] }
def k13m0 : Method := { name := "valueOf", desc := "(J)Ljava/lang/Long;", sig := { parameters := [.long], returnType := some (.object "java/lang/Long") }, accessFlags := 9, code := some k13c0 }
/-- java/lang/Long -/
def k13 : Class := { plain "java/lang/Long" (some 4) with
  accessFlags := 49
  interfaces := #[5, 6, 7]
  cf := some (fileOf pool13 1 #[.nestMembers #[235]] #[{ accessFlags := 9, nameIndex := 85, descriptorIndex := 229, attributes := #[] }] 49 271 #[363, 365, 367] #[{ accessFlags := 25, nameIndex := 369, descriptorIndex := 276, attributes := #[] }, { accessFlags := 25, nameIndex := 371, descriptorIndex := 276, attributes := #[] }, { accessFlags := 25, nameIndex := 361, descriptorIndex := 362, attributes := #[] }, { accessFlags := 18, nameIndex := 275, descriptorIndex := 276, attributes := #[] }, { accessFlags := 25, nameIndex := 376, descriptorIndex := 377, attributes := #[] }, { accessFlags := 25, nameIndex := 379, descriptorIndex := 377, attributes := #[] }, { accessFlags := 26, nameIndex := 381, descriptorIndex := 276, attributes := #[] }])
  fields := #[{ name := "MIN_VALUE", type := .long, accessFlags := 25, slot := 0, constantValue := 0 }, { name := "MAX_VALUE", type := .long, accessFlags := 25, slot := 1, constantValue := 0 }, { name := "TYPE", type := (.object "java/lang/Class"), accessFlags := 25, slot := 2, constantValue := 0 }, { name := "value", type := .long, accessFlags := 18, slot := 0, constantValue := 0 }, { name := "SIZE", type := .int, accessFlags := 25, slot := 3, constantValue := 0 }, { name := "BYTES", type := .int, accessFlags := 25, slot := 4, constantValue := 0 }, { name := "serialVersionUID", type := .long, accessFlags := 26, slot := 5, constantValue := 0 }]
  methods := #[k13m0]
  instanceTypes := #[.long]
  staticTypes := #[.long, .long, (.object "java/lang/Class"), .int, .int, .long]
  resolved := Array.replicate 524 none
  statics := none }

def pool14 : Array CpInfo := pool [(2, .class_ 4), (1, u "java/lang/Object"), (0, u "<init>"), (0, u "()V"), (0, .class_ 8), (0, u "java/lang/Long"), (7, .class_ 18), (1, u "java/lang/Long$LongCache"), (0, u "$assertionsDisabled"), (0, u "Z"), (8, u "archivedCache"), (0, u "[Ljava/lang/Long;"), (7, u "cache")] 24

def k14m0 : Method := { name := "<init>", desc := "()V", sig := { parameters := [], returnType := none }, accessFlags := 2, code := none }
/-- java/lang/Long$LongCache -/
def k14 : Class := { plain "java/lang/Long$LongCache" (some 0) with
  accessFlags := 48
  interfaces := #[]
  cf := some (fileOf pool14 16 #[.nestHost 7] #[{ accessFlags := 2, nameIndex := 5, descriptorIndex := 6, attributes := #[] }] 48 2 #[] #[{ accessFlags := 24, nameIndex := 38, descriptorIndex := 30, attributes := #[] }, { accessFlags := 8, nameIndex := 29, descriptorIndex := 30, attributes := #[] }, { accessFlags := 4120, nameIndex := 19, descriptorIndex := 20, attributes := #[] }])
  fields := #[{ name := "cache", type := (.array (.object "java/lang/Long")), accessFlags := 24, slot := 0, constantValue := 0 }, { name := "archivedCache", type := (.array (.object "java/lang/Long")), accessFlags := 8, slot := 1, constantValue := 0 }, { name := "$assertionsDisabled", type := .boolean, accessFlags := 4120, slot := 2, constantValue := 0 }]
  methods := #[k14m0]
  instanceTypes := #[]
  staticTypes := #[(.array (.object "java/lang/Long")), (.array (.object "java/lang/Long")), .boolean]
  resolved := Array.replicate 63 none
  statics := some 2 }

def pool15 : Array CpInfo := pool [(2, .class_ 4), (1, u "java/lang/Object"), (0, u "<init>"), (0, u "()V"), (17, .class_ 26), (1, u "jdk/internal/util/Preconditions"), (28, .class_ 56), (0, u "jdk/internal/util/Preconditions$4"), (57, .class_ 115), (0, u "jdk/internal/util/Preconditions$1"), (7, u "SIOOBE_FORMATTER"), (0, u "Ljava/util/function/BiFunction;"), (0, .class_ 126), (0, u "jdk/internal/util/Preconditions$2"), (3, u "AIOOBE_FORMATTER"), (0, .class_ 132), (0, u "jdk/internal/util/Preconditions$3"), (3, u "IOOBE_FORMATTER")] 57

def k15m0 : Method := { name := "<init>", desc := "()V", sig := { parameters := [], returnType := none }, accessFlags := 1, code := none }
/-- jdk/internal/util/Preconditions -/
def k15 : Class := { plain "jdk/internal/util/Preconditions" (some 0) with
  accessFlags := 33
  interfaces := #[]
  cf := some (fileOf pool15 24 #[.nestMembers #[55, 131, 125, 114]] #[{ accessFlags := 1, nameIndex := 5, descriptorIndex := 6, attributes := #[] }] 33 2 #[] #[{ accessFlags := 25, nameIndex := 123, descriptorIndex := 124, attributes := #[] }, { accessFlags := 25, nameIndex := 130, descriptorIndex := 124, attributes := #[] }, { accessFlags := 25, nameIndex := 136, descriptorIndex := 124, attributes := #[] }])
  fields := #[{ name := "SIOOBE_FORMATTER", type := (.object "java/util/function/BiFunction"), accessFlags := 25, slot := 0, constantValue := 0 }, { name := "AIOOBE_FORMATTER", type := (.object "java/util/function/BiFunction"), accessFlags := 25, slot := 1, constantValue := 0 }, { name := "IOOBE_FORMATTER", type := (.object "java/util/function/BiFunction"), accessFlags := 25, slot := 2, constantValue := 0 }]
  methods := #[k15m0]
  instanceTypes := #[]
  staticTypes := #[(.object "java/util/function/BiFunction"), (.object "java/util/function/BiFunction"), (.object "java/util/function/BiFunction")]
  resolved := Array.replicate 194 none
  statics := some 3 }

def pool16 : Array CpInfo := pool [(9, u "<init>"), (6, .class_ 18), (1, u "java/lang/Object"), (0, u "()V"), (1, .class_ 23), (1, u "jdk/internal/util/ArraysSupport"), (0, u "LOG2_ARRAY_LONG_INDEX_SCALE"), (0, u "I"), (2, u "U"), (0, u "Ljdk/internal/misc/Unsafe;"), (8, u "BIG_ENDIAN"), (0, u "Z"), (8, u "LOG2_BYTE_BIT_SIZE"), (4, u "LOG2_ARRAY_INT_INDEX_SCALE"), (54, u "JLA"), (0, u "Ljdk/internal/access/JavaLangAccess;"), (11, u "LOG2_ARRAY_BOOLEAN_INDEX_SCALE"), (9, u "LOG2_ARRAY_BYTE_INDEX_SCALE"), (5, u "LOG2_ARRAY_CHAR_INDEX_SCALE"), (5, u "LOG2_ARRAY_SHORT_INDEX_SCALE"), (18, u "LOG2_ARRAY_FLOAT_INDEX_SCALE"), (24, u "LOG2_ARRAY_DOUBLE_INDEX_SCALE"), (89, u "T_BOOLEAN"), (2, u "T_CHAR"), (1, u "T_FLOAT"), (1, u "T_DOUBLE"), (1, u "T_BYTE"), (1, u "T_SHORT"), (1, u "T_INT"), (1, u "T_LONG"), (1, u "SOFT_MAX_ARRAY_LENGTH")] 83

def k16m0 : Method := { name := "<init>", desc := "()V", sig := { parameters := [], returnType := none }, accessFlags := 2, code := none }
/-- jdk/internal/util/ArraysSupport -/
def k16 : Class := { plain "jdk/internal/util/ArraysSupport" (some 0) with
  accessFlags := 33
  interfaces := #[]
  cf := some (fileOf pool16 21 #[] #[{ accessFlags := 2, nameIndex := 9, descriptorIndex := 19, attributes := #[] }] 33 16 #[] #[{ accessFlags := 24, nameIndex := 28, descriptorIndex := 29, attributes := #[] }, { accessFlags := 26, nameIndex := 38, descriptorIndex := 39, attributes := #[] }, { accessFlags := 25, nameIndex := 121, descriptorIndex := 25, attributes := #[] }, { accessFlags := 25, nameIndex := 131, descriptorIndex := 25, attributes := #[] }, { accessFlags := 25, nameIndex := 137, descriptorIndex := 25, attributes := #[] }, { accessFlags := 25, nameIndex := 143, descriptorIndex := 25, attributes := #[] }, { accessFlags := 25, nameIndex := 53, descriptorIndex := 25, attributes := #[] }, { accessFlags := 25, nameIndex := 24, descriptorIndex := 25, attributes := #[] }, { accessFlags := 25, nameIndex := 162, descriptorIndex := 25, attributes := #[] }, { accessFlags := 25, nameIndex := 187, descriptorIndex := 25, attributes := #[] }, { accessFlags := 26, nameIndex := 48, descriptorIndex := 25, attributes := #[] }, { accessFlags := 25, nameIndex := 277, descriptorIndex := 25, attributes := #[] }, { accessFlags := 25, nameIndex := 280, descriptorIndex := 25, attributes := #[] }, { accessFlags := 25, nameIndex := 282, descriptorIndex := 25, attributes := #[] }, { accessFlags := 25, nameIndex := 284, descriptorIndex := 25, attributes := #[] }, { accessFlags := 25, nameIndex := 286, descriptorIndex := 25, attributes := #[] }, { accessFlags := 25, nameIndex := 288, descriptorIndex := 25, attributes := #[] }, { accessFlags := 25, nameIndex := 290, descriptorIndex := 25, attributes := #[] }, { accessFlags := 25, nameIndex := 292, descriptorIndex := 25, attributes := #[] }, { accessFlags := 26, nameIndex := 108, descriptorIndex := 109, attributes := #[] }, { accessFlags := 25, nameIndex := 294, descriptorIndex := 25, attributes := #[] }])
  fields := #[{ name := "U", type := (.object "jdk/internal/misc/Unsafe"), accessFlags := 24, slot := 0, constantValue := 0 }, { name := "BIG_ENDIAN", type := .boolean, accessFlags := 26, slot := 1, constantValue := 0 }, { name := "LOG2_ARRAY_BOOLEAN_INDEX_SCALE", type := .int, accessFlags := 25, slot := 2, constantValue := 0 }, { name := "LOG2_ARRAY_BYTE_INDEX_SCALE", type := .int, accessFlags := 25, slot := 3, constantValue := 0 }, { name := "LOG2_ARRAY_CHAR_INDEX_SCALE", type := .int, accessFlags := 25, slot := 4, constantValue := 0 }, { name := "LOG2_ARRAY_SHORT_INDEX_SCALE", type := .int, accessFlags := 25, slot := 5, constantValue := 0 }, { name := "LOG2_ARRAY_INT_INDEX_SCALE", type := .int, accessFlags := 25, slot := 6, constantValue := 0 }, { name := "LOG2_ARRAY_LONG_INDEX_SCALE", type := .int, accessFlags := 25, slot := 7, constantValue := 0 }, { name := "LOG2_ARRAY_FLOAT_INDEX_SCALE", type := .int, accessFlags := 25, slot := 8, constantValue := 0 }, { name := "LOG2_ARRAY_DOUBLE_INDEX_SCALE", type := .int, accessFlags := 25, slot := 9, constantValue := 0 }, { name := "LOG2_BYTE_BIT_SIZE", type := .int, accessFlags := 26, slot := 10, constantValue := 0 }, { name := "T_BOOLEAN", type := .int, accessFlags := 25, slot := 11, constantValue := 0 }, { name := "T_CHAR", type := .int, accessFlags := 25, slot := 12, constantValue := 0 }, { name := "T_FLOAT", type := .int, accessFlags := 25, slot := 13, constantValue := 0 }, { name := "T_DOUBLE", type := .int, accessFlags := 25, slot := 14, constantValue := 0 }, { name := "T_BYTE", type := .int, accessFlags := 25, slot := 15, constantValue := 0 }, { name := "T_SHORT", type := .int, accessFlags := 25, slot := 16, constantValue := 0 }, { name := "T_INT", type := .int, accessFlags := 25, slot := 17, constantValue := 0 }, { name := "T_LONG", type := .int, accessFlags := 25, slot := 18, constantValue := 0 }, { name := "JLA", type := (.object "jdk/internal/access/JavaLangAccess"), accessFlags := 26, slot := 19, constantValue := 0 }, { name := "SOFT_MAX_ARRAY_LENGTH", type := .int, accessFlags := 25, slot := 20, constantValue := 0 }]
  methods := #[k16m0]
  instanceTypes := #[]
  staticTypes := #[(.object "jdk/internal/misc/Unsafe"), .boolean, .int, .int, .int, .int, .int, .int, .int, .int, .int, .int, .int, .int, .int, .int, .int, .int, .int, (.object "jdk/internal/access/JavaLangAccess"), .int]
  resolved := Array.replicate 378 none
  statics := none }

def pool17 : Array CpInfo := pool [(1, u "java/lang/Cloneable"), (0, .class_ 1), (0, u "java/lang/Object"), (0, .class_ 3)] 3

/-- java/lang/Cloneable -/
def k17 : Class := { plain "java/lang/Cloneable" (some 0) with
  accessFlags := 1537
  interfaces := #[]
  cf := some (fileOf pool17 2 #[] #[] 1537 4 #[] #[])
  fields := #[]
  methods := #[]
  instanceTypes := #[]
  staticTypes := #[]
  resolved := Array.replicate 8 none
  statics := none }

/-- the primitive byte -/
def k18 : Class := { plain "byte" none with kind := .primitive 'B', accessFlags := 0x411 }
/-- [B -/
def k19 : Class := { plain "[B" (some 0) with kind := .array 18 .byte, interfaces := #[17, 3], accessFlags := 1041 }

/-- the primitive int -/
def k20 : Class := { plain "int" none with kind := .primitive 'I', accessFlags := 0x411 }
/-- [I -/
def k21 : Class := { plain "[I" (some 0) with kind := .array 20 .int, interfaces := #[17, 3], accessFlags := 1041 }

/-- [Ljava/lang/Integer; -/
def k22 : Class := { plain "[Ljava/lang/Integer;" (some 0) with kind := .array 8 (.object "java/lang/Integer"), interfaces := #[17, 3], accessFlags := 1041 }

/-- [Ljava/lang/Long; -/
def k23 : Class := { plain "[Ljava/lang/Long;" (some 0) with kind := .array 13 (.object "java/lang/Long"), interfaces := #[17, 3], accessFlags := 1041 }

def heap : Heap := #[{ cls := 9, slots := #[.int 0, .int 127, .ref 4, .null, .int 0], vm := .statics 9 },
  { cls := 11, slots := #[.long 0, .int 1, .null, .int 0, .null, .int 0, .int 0], vm := .statics 11 },
  { cls := 14, slots := #[.ref 5, .null, .int 0], vm := .statics 14 },
  { cls := 15, slots := #[.null, .null, .null], vm := .statics 15 },
  { cls := 22, slots := #[.ref 6, .ref 7, .ref 8, .ref 9, .ref 10, .ref 11, .ref 12, .ref 13, .ref 14, .ref 15, .ref 16, .ref 17, .ref 18, .ref 19, .ref 20, .ref 21, .ref 22, .ref 23, .ref 24, .ref 25, .ref 26, .ref 27, .ref 28, .ref 29, .ref 30, .ref 31, .ref 32, .ref 33, .ref 34, .ref 35, .ref 36, .ref 37, .ref 38, .ref 39, .ref 40, .ref 41, .ref 42, .ref 43, .ref 44, .ref 45, .ref 46, .ref 47, .ref 48, .ref 49, .ref 50, .ref 51, .ref 52, .ref 53, .ref 54, .ref 55, .ref 56, .ref 57, .ref 58, .ref 59, .ref 60, .ref 61, .ref 62, .ref 63, .ref 64, .ref 65, .ref 66, .ref 67, .ref 68, .ref 69, .ref 70, .ref 71, .ref 72, .ref 73, .ref 74, .ref 75, .ref 76, .ref 77, .ref 78, .ref 79, .ref 80, .ref 81, .ref 82, .ref 83, .ref 84, .ref 85, .ref 86, .ref 87, .ref 88, .ref 89, .ref 90, .ref 91, .ref 92, .ref 93, .ref 94, .ref 95, .ref 96, .ref 97, .ref 98, .ref 99, .ref 100, .ref 101, .ref 102, .ref 103, .ref 104, .ref 105, .ref 106, .ref 107, .ref 108, .ref 109, .ref 110, .ref 111, .ref 112, .ref 113, .ref 114, .ref 115, .ref 116, .ref 117, .ref 118, .ref 119, .ref 120, .ref 121, .ref 122, .ref 123, .ref 124, .ref 125, .ref 126, .ref 127, .ref 128, .ref 129, .ref 130, .ref 131, .ref 132, .ref 133, .ref 134, .ref 135, .ref 136, .ref 137, .ref 138, .ref 139, .ref 140, .ref 141, .ref 142, .ref 143, .ref 144, .ref 145, .ref 146, .ref 147, .ref 148, .ref 149, .ref 150, .ref 151, .ref 152, .ref 153, .ref 154, .ref 155, .ref 156, .ref 157, .ref 158, .ref 159, .ref 160, .ref 161, .ref 162, .ref 163, .ref 164, .ref 165, .ref 166, .ref 167, .ref 168, .ref 169, .ref 170, .ref 171, .ref 172, .ref 173, .ref 174, .ref 175, .ref 176, .ref 177, .ref 178, .ref 179, .ref 180, .ref 181, .ref 182, .ref 183, .ref 184, .ref 185, .ref 186, .ref 187, .ref 188, .ref 189, .ref 190, .ref 191, .ref 192, .ref 193, .ref 194, .ref 195, .ref 196, .ref 197, .ref 198, .ref 199, .ref 200, .ref 201, .ref 202, .ref 203, .ref 204, .ref 205, .ref 206, .ref 207, .ref 208, .ref 209, .ref 210, .ref 211, .ref 212, .ref 213, .ref 214, .ref 215, .ref 216, .ref 217, .ref 218, .ref 219, .ref 220, .ref 221, .ref 222, .ref 223, .ref 224, .ref 225, .ref 226, .ref 227, .ref 228, .ref 229, .ref 230, .ref 231, .ref 232, .ref 233, .ref 234, .ref 235, .ref 236, .ref 237, .ref 238, .ref 239, .ref 240, .ref 241, .ref 242, .ref 243, .ref 244, .ref 245, .ref 246, .ref 247, .ref 248, .ref 249, .ref 250, .ref 251, .ref 252, .ref 253, .ref 254, .ref 255, .ref 256, .ref 257, .ref 258, .ref 259, .ref 260, .ref 261], vm := .none },
  { cls := 23, slots := #[.ref 262, .ref 263, .ref 264, .ref 265, .ref 266, .ref 267, .ref 268, .ref 269, .ref 270, .ref 271, .ref 272, .ref 273, .ref 274, .ref 275, .ref 276, .ref 277, .ref 278, .ref 279, .ref 280, .ref 281, .ref 282, .ref 283, .ref 284, .ref 285, .ref 286, .ref 287, .ref 288, .ref 289, .ref 290, .ref 291, .ref 292, .ref 293, .ref 294, .ref 295, .ref 296, .ref 297, .ref 298, .ref 299, .ref 300, .ref 301, .ref 302, .ref 303, .ref 304, .ref 305, .ref 306, .ref 307, .ref 308, .ref 309, .ref 310, .ref 311, .ref 312, .ref 313, .ref 314, .ref 315, .ref 316, .ref 317, .ref 318, .ref 319, .ref 320, .ref 321, .ref 322, .ref 323, .ref 324, .ref 325, .ref 326, .ref 327, .ref 328, .ref 329, .ref 330, .ref 331, .ref 332, .ref 333, .ref 334, .ref 335, .ref 336, .ref 337, .ref 338, .ref 339, .ref 340, .ref 341, .ref 342, .ref 343, .ref 344, .ref 345, .ref 346, .ref 347, .ref 348, .ref 349, .ref 350, .ref 351, .ref 352, .ref 353, .ref 354, .ref 355, .ref 356, .ref 357, .ref 358, .ref 359, .ref 360, .ref 361, .ref 362, .ref 363, .ref 364, .ref 365, .ref 366, .ref 367, .ref 368, .ref 369, .ref 370, .ref 371, .ref 372, .ref 373, .ref 374, .ref 375, .ref 376, .ref 377, .ref 378, .ref 379, .ref 380, .ref 381, .ref 382, .ref 383, .ref 384, .ref 385, .ref 386, .ref 387, .ref 388, .ref 389, .ref 390, .ref 391, .ref 392, .ref 393, .ref 394, .ref 395, .ref 396, .ref 397, .ref 398, .ref 399, .ref 400, .ref 401, .ref 402, .ref 403, .ref 404, .ref 405, .ref 406, .ref 407, .ref 408, .ref 409, .ref 410, .ref 411, .ref 412, .ref 413, .ref 414, .ref 415, .ref 416, .ref 417, .ref 418, .ref 419, .ref 420, .ref 421, .ref 422, .ref 423, .ref 424, .ref 425, .ref 426, .ref 427, .ref 428, .ref 429, .ref 430, .ref 431, .ref 432, .ref 433, .ref 434, .ref 435, .ref 436, .ref 437, .ref 438, .ref 439, .ref 440, .ref 441, .ref 442, .ref 443, .ref 444, .ref 445, .ref 446, .ref 447, .ref 448, .ref 449, .ref 450, .ref 451, .ref 452, .ref 453, .ref 454, .ref 455, .ref 456, .ref 457, .ref 458, .ref 459, .ref 460, .ref 461, .ref 462, .ref 463, .ref 464, .ref 465, .ref 466, .ref 467, .ref 468, .ref 469, .ref 470, .ref 471, .ref 472, .ref 473, .ref 474, .ref 475, .ref 476, .ref 477, .ref 478, .ref 479, .ref 480, .ref 481, .ref 482, .ref 483, .ref 484, .ref 485, .ref 486, .ref 487, .ref 488, .ref 489, .ref 490, .ref 491, .ref 492, .ref 493, .ref 494, .ref 495, .ref 496, .ref 497, .ref 498, .ref 499, .ref 500, .ref 501, .ref 502, .ref 503, .ref 504, .ref 505, .ref 506, .ref 507, .ref 508, .ref 509, .ref 510, .ref 511, .ref 512, .ref 513, .ref 514, .ref 515, .ref 516, .ref 517], vm := .none },
  { cls := 8, slots := #[.int (-128)], vm := .none },
  { cls := 8, slots := #[.int (-127)], vm := .none },
  { cls := 8, slots := #[.int (-126)], vm := .none },
  { cls := 8, slots := #[.int (-125)], vm := .none },
  { cls := 8, slots := #[.int (-124)], vm := .none },
  { cls := 8, slots := #[.int (-123)], vm := .none },
  { cls := 8, slots := #[.int (-122)], vm := .none },
  { cls := 8, slots := #[.int (-121)], vm := .none },
  { cls := 8, slots := #[.int (-120)], vm := .none },
  { cls := 8, slots := #[.int (-119)], vm := .none },
  { cls := 8, slots := #[.int (-118)], vm := .none },
  { cls := 8, slots := #[.int (-117)], vm := .none },
  { cls := 8, slots := #[.int (-116)], vm := .none },
  { cls := 8, slots := #[.int (-115)], vm := .none },
  { cls := 8, slots := #[.int (-114)], vm := .none },
  { cls := 8, slots := #[.int (-113)], vm := .none },
  { cls := 8, slots := #[.int (-112)], vm := .none },
  { cls := 8, slots := #[.int (-111)], vm := .none },
  { cls := 8, slots := #[.int (-110)], vm := .none },
  { cls := 8, slots := #[.int (-109)], vm := .none },
  { cls := 8, slots := #[.int (-108)], vm := .none },
  { cls := 8, slots := #[.int (-107)], vm := .none },
  { cls := 8, slots := #[.int (-106)], vm := .none },
  { cls := 8, slots := #[.int (-105)], vm := .none },
  { cls := 8, slots := #[.int (-104)], vm := .none },
  { cls := 8, slots := #[.int (-103)], vm := .none },
  { cls := 8, slots := #[.int (-102)], vm := .none },
  { cls := 8, slots := #[.int (-101)], vm := .none },
  { cls := 8, slots := #[.int (-100)], vm := .none },
  { cls := 8, slots := #[.int (-99)], vm := .none },
  { cls := 8, slots := #[.int (-98)], vm := .none },
  { cls := 8, slots := #[.int (-97)], vm := .none },
  { cls := 8, slots := #[.int (-96)], vm := .none },
  { cls := 8, slots := #[.int (-95)], vm := .none },
  { cls := 8, slots := #[.int (-94)], vm := .none },
  { cls := 8, slots := #[.int (-93)], vm := .none },
  { cls := 8, slots := #[.int (-92)], vm := .none },
  { cls := 8, slots := #[.int (-91)], vm := .none },
  { cls := 8, slots := #[.int (-90)], vm := .none },
  { cls := 8, slots := #[.int (-89)], vm := .none },
  { cls := 8, slots := #[.int (-88)], vm := .none },
  { cls := 8, slots := #[.int (-87)], vm := .none },
  { cls := 8, slots := #[.int (-86)], vm := .none },
  { cls := 8, slots := #[.int (-85)], vm := .none },
  { cls := 8, slots := #[.int (-84)], vm := .none },
  { cls := 8, slots := #[.int (-83)], vm := .none },
  { cls := 8, slots := #[.int (-82)], vm := .none },
  { cls := 8, slots := #[.int (-81)], vm := .none },
  { cls := 8, slots := #[.int (-80)], vm := .none },
  { cls := 8, slots := #[.int (-79)], vm := .none },
  { cls := 8, slots := #[.int (-78)], vm := .none },
  { cls := 8, slots := #[.int (-77)], vm := .none },
  { cls := 8, slots := #[.int (-76)], vm := .none },
  { cls := 8, slots := #[.int (-75)], vm := .none },
  { cls := 8, slots := #[.int (-74)], vm := .none },
  { cls := 8, slots := #[.int (-73)], vm := .none },
  { cls := 8, slots := #[.int (-72)], vm := .none },
  { cls := 8, slots := #[.int (-71)], vm := .none },
  { cls := 8, slots := #[.int (-70)], vm := .none },
  { cls := 8, slots := #[.int (-69)], vm := .none },
  { cls := 8, slots := #[.int (-68)], vm := .none },
  { cls := 8, slots := #[.int (-67)], vm := .none },
  { cls := 8, slots := #[.int (-66)], vm := .none },
  { cls := 8, slots := #[.int (-65)], vm := .none },
  { cls := 8, slots := #[.int (-64)], vm := .none },
  { cls := 8, slots := #[.int (-63)], vm := .none },
  { cls := 8, slots := #[.int (-62)], vm := .none },
  { cls := 8, slots := #[.int (-61)], vm := .none },
  { cls := 8, slots := #[.int (-60)], vm := .none },
  { cls := 8, slots := #[.int (-59)], vm := .none },
  { cls := 8, slots := #[.int (-58)], vm := .none },
  { cls := 8, slots := #[.int (-57)], vm := .none },
  { cls := 8, slots := #[.int (-56)], vm := .none },
  { cls := 8, slots := #[.int (-55)], vm := .none },
  { cls := 8, slots := #[.int (-54)], vm := .none },
  { cls := 8, slots := #[.int (-53)], vm := .none },
  { cls := 8, slots := #[.int (-52)], vm := .none },
  { cls := 8, slots := #[.int (-51)], vm := .none },
  { cls := 8, slots := #[.int (-50)], vm := .none },
  { cls := 8, slots := #[.int (-49)], vm := .none },
  { cls := 8, slots := #[.int (-48)], vm := .none },
  { cls := 8, slots := #[.int (-47)], vm := .none },
  { cls := 8, slots := #[.int (-46)], vm := .none },
  { cls := 8, slots := #[.int (-45)], vm := .none },
  { cls := 8, slots := #[.int (-44)], vm := .none },
  { cls := 8, slots := #[.int (-43)], vm := .none },
  { cls := 8, slots := #[.int (-42)], vm := .none },
  { cls := 8, slots := #[.int (-41)], vm := .none },
  { cls := 8, slots := #[.int (-40)], vm := .none },
  { cls := 8, slots := #[.int (-39)], vm := .none },
  { cls := 8, slots := #[.int (-38)], vm := .none },
  { cls := 8, slots := #[.int (-37)], vm := .none },
  { cls := 8, slots := #[.int (-36)], vm := .none },
  { cls := 8, slots := #[.int (-35)], vm := .none },
  { cls := 8, slots := #[.int (-34)], vm := .none },
  { cls := 8, slots := #[.int (-33)], vm := .none },
  { cls := 8, slots := #[.int (-32)], vm := .none },
  { cls := 8, slots := #[.int (-31)], vm := .none },
  { cls := 8, slots := #[.int (-30)], vm := .none },
  { cls := 8, slots := #[.int (-29)], vm := .none },
  { cls := 8, slots := #[.int (-28)], vm := .none },
  { cls := 8, slots := #[.int (-27)], vm := .none },
  { cls := 8, slots := #[.int (-26)], vm := .none },
  { cls := 8, slots := #[.int (-25)], vm := .none },
  { cls := 8, slots := #[.int (-24)], vm := .none },
  { cls := 8, slots := #[.int (-23)], vm := .none },
  { cls := 8, slots := #[.int (-22)], vm := .none },
  { cls := 8, slots := #[.int (-21)], vm := .none },
  { cls := 8, slots := #[.int (-20)], vm := .none },
  { cls := 8, slots := #[.int (-19)], vm := .none },
  { cls := 8, slots := #[.int (-18)], vm := .none },
  { cls := 8, slots := #[.int (-17)], vm := .none },
  { cls := 8, slots := #[.int (-16)], vm := .none },
  { cls := 8, slots := #[.int (-15)], vm := .none },
  { cls := 8, slots := #[.int (-14)], vm := .none },
  { cls := 8, slots := #[.int (-13)], vm := .none },
  { cls := 8, slots := #[.int (-12)], vm := .none },
  { cls := 8, slots := #[.int (-11)], vm := .none },
  { cls := 8, slots := #[.int (-10)], vm := .none },
  { cls := 8, slots := #[.int (-9)], vm := .none },
  { cls := 8, slots := #[.int (-8)], vm := .none },
  { cls := 8, slots := #[.int (-7)], vm := .none },
  { cls := 8, slots := #[.int (-6)], vm := .none },
  { cls := 8, slots := #[.int (-5)], vm := .none },
  { cls := 8, slots := #[.int (-4)], vm := .none },
  { cls := 8, slots := #[.int (-3)], vm := .none },
  { cls := 8, slots := #[.int (-2)], vm := .none },
  { cls := 8, slots := #[.int (-1)], vm := .none },
  { cls := 8, slots := #[.int 0], vm := .none },
  { cls := 8, slots := #[.int 1], vm := .none },
  { cls := 8, slots := #[.int 2], vm := .none },
  { cls := 8, slots := #[.int 3], vm := .none },
  { cls := 8, slots := #[.int 4], vm := .none },
  { cls := 8, slots := #[.int 5], vm := .none },
  { cls := 8, slots := #[.int 6], vm := .none },
  { cls := 8, slots := #[.int 7], vm := .none },
  { cls := 8, slots := #[.int 8], vm := .none },
  { cls := 8, slots := #[.int 9], vm := .none },
  { cls := 8, slots := #[.int 10], vm := .none },
  { cls := 8, slots := #[.int 11], vm := .none },
  { cls := 8, slots := #[.int 12], vm := .none },
  { cls := 8, slots := #[.int 13], vm := .none },
  { cls := 8, slots := #[.int 14], vm := .none },
  { cls := 8, slots := #[.int 15], vm := .none },
  { cls := 8, slots := #[.int 16], vm := .none },
  { cls := 8, slots := #[.int 17], vm := .none },
  { cls := 8, slots := #[.int 18], vm := .none },
  { cls := 8, slots := #[.int 19], vm := .none },
  { cls := 8, slots := #[.int 20], vm := .none },
  { cls := 8, slots := #[.int 21], vm := .none },
  { cls := 8, slots := #[.int 22], vm := .none },
  { cls := 8, slots := #[.int 23], vm := .none },
  { cls := 8, slots := #[.int 24], vm := .none },
  { cls := 8, slots := #[.int 25], vm := .none },
  { cls := 8, slots := #[.int 26], vm := .none },
  { cls := 8, slots := #[.int 27], vm := .none },
  { cls := 8, slots := #[.int 28], vm := .none },
  { cls := 8, slots := #[.int 29], vm := .none },
  { cls := 8, slots := #[.int 30], vm := .none },
  { cls := 8, slots := #[.int 31], vm := .none },
  { cls := 8, slots := #[.int 32], vm := .none },
  { cls := 8, slots := #[.int 33], vm := .none },
  { cls := 8, slots := #[.int 34], vm := .none },
  { cls := 8, slots := #[.int 35], vm := .none },
  { cls := 8, slots := #[.int 36], vm := .none },
  { cls := 8, slots := #[.int 37], vm := .none },
  { cls := 8, slots := #[.int 38], vm := .none },
  { cls := 8, slots := #[.int 39], vm := .none },
  { cls := 8, slots := #[.int 40], vm := .none },
  { cls := 8, slots := #[.int 41], vm := .none },
  { cls := 8, slots := #[.int 42], vm := .none },
  { cls := 8, slots := #[.int 43], vm := .none },
  { cls := 8, slots := #[.int 44], vm := .none },
  { cls := 8, slots := #[.int 45], vm := .none },
  { cls := 8, slots := #[.int 46], vm := .none },
  { cls := 8, slots := #[.int 47], vm := .none },
  { cls := 8, slots := #[.int 48], vm := .none },
  { cls := 8, slots := #[.int 49], vm := .none },
  { cls := 8, slots := #[.int 50], vm := .none },
  { cls := 8, slots := #[.int 51], vm := .none },
  { cls := 8, slots := #[.int 52], vm := .none },
  { cls := 8, slots := #[.int 53], vm := .none },
  { cls := 8, slots := #[.int 54], vm := .none },
  { cls := 8, slots := #[.int 55], vm := .none },
  { cls := 8, slots := #[.int 56], vm := .none },
  { cls := 8, slots := #[.int 57], vm := .none },
  { cls := 8, slots := #[.int 58], vm := .none },
  { cls := 8, slots := #[.int 59], vm := .none },
  { cls := 8, slots := #[.int 60], vm := .none },
  { cls := 8, slots := #[.int 61], vm := .none },
  { cls := 8, slots := #[.int 62], vm := .none },
  { cls := 8, slots := #[.int 63], vm := .none },
  { cls := 8, slots := #[.int 64], vm := .none },
  { cls := 8, slots := #[.int 65], vm := .none },
  { cls := 8, slots := #[.int 66], vm := .none },
  { cls := 8, slots := #[.int 67], vm := .none },
  { cls := 8, slots := #[.int 68], vm := .none },
  { cls := 8, slots := #[.int 69], vm := .none },
  { cls := 8, slots := #[.int 70], vm := .none },
  { cls := 8, slots := #[.int 71], vm := .none },
  { cls := 8, slots := #[.int 72], vm := .none },
  { cls := 8, slots := #[.int 73], vm := .none },
  { cls := 8, slots := #[.int 74], vm := .none },
  { cls := 8, slots := #[.int 75], vm := .none },
  { cls := 8, slots := #[.int 76], vm := .none },
  { cls := 8, slots := #[.int 77], vm := .none },
  { cls := 8, slots := #[.int 78], vm := .none },
  { cls := 8, slots := #[.int 79], vm := .none },
  { cls := 8, slots := #[.int 80], vm := .none },
  { cls := 8, slots := #[.int 81], vm := .none },
  { cls := 8, slots := #[.int 82], vm := .none },
  { cls := 8, slots := #[.int 83], vm := .none },
  { cls := 8, slots := #[.int 84], vm := .none },
  { cls := 8, slots := #[.int 85], vm := .none },
  { cls := 8, slots := #[.int 86], vm := .none },
  { cls := 8, slots := #[.int 87], vm := .none },
  { cls := 8, slots := #[.int 88], vm := .none },
  { cls := 8, slots := #[.int 89], vm := .none },
  { cls := 8, slots := #[.int 90], vm := .none },
  { cls := 8, slots := #[.int 91], vm := .none },
  { cls := 8, slots := #[.int 92], vm := .none },
  { cls := 8, slots := #[.int 93], vm := .none },
  { cls := 8, slots := #[.int 94], vm := .none },
  { cls := 8, slots := #[.int 95], vm := .none },
  { cls := 8, slots := #[.int 96], vm := .none },
  { cls := 8, slots := #[.int 97], vm := .none },
  { cls := 8, slots := #[.int 98], vm := .none },
  { cls := 8, slots := #[.int 99], vm := .none },
  { cls := 8, slots := #[.int 100], vm := .none },
  { cls := 8, slots := #[.int 101], vm := .none },
  { cls := 8, slots := #[.int 102], vm := .none },
  { cls := 8, slots := #[.int 103], vm := .none },
  { cls := 8, slots := #[.int 104], vm := .none },
  { cls := 8, slots := #[.int 105], vm := .none },
  { cls := 8, slots := #[.int 106], vm := .none },
  { cls := 8, slots := #[.int 107], vm := .none },
  { cls := 8, slots := #[.int 108], vm := .none },
  { cls := 8, slots := #[.int 109], vm := .none },
  { cls := 8, slots := #[.int 110], vm := .none },
  { cls := 8, slots := #[.int 111], vm := .none },
  { cls := 8, slots := #[.int 112], vm := .none },
  { cls := 8, slots := #[.int 113], vm := .none },
  { cls := 8, slots := #[.int 114], vm := .none },
  { cls := 8, slots := #[.int 115], vm := .none },
  { cls := 8, slots := #[.int 116], vm := .none },
  { cls := 8, slots := #[.int 117], vm := .none },
  { cls := 8, slots := #[.int 118], vm := .none },
  { cls := 8, slots := #[.int 119], vm := .none },
  { cls := 8, slots := #[.int 120], vm := .none },
  { cls := 8, slots := #[.int 121], vm := .none },
  { cls := 8, slots := #[.int 122], vm := .none },
  { cls := 8, slots := #[.int 123], vm := .none },
  { cls := 8, slots := #[.int 124], vm := .none },
  { cls := 8, slots := #[.int 125], vm := .none },
  { cls := 8, slots := #[.int 126], vm := .none },
  { cls := 8, slots := #[.int 127], vm := .none },
  { cls := 13, slots := #[.long (-128)], vm := .none },
  { cls := 13, slots := #[.long (-127)], vm := .none },
  { cls := 13, slots := #[.long (-126)], vm := .none },
  { cls := 13, slots := #[.long (-125)], vm := .none },
  { cls := 13, slots := #[.long (-124)], vm := .none },
  { cls := 13, slots := #[.long (-123)], vm := .none },
  { cls := 13, slots := #[.long (-122)], vm := .none },
  { cls := 13, slots := #[.long (-121)], vm := .none },
  { cls := 13, slots := #[.long (-120)], vm := .none },
  { cls := 13, slots := #[.long (-119)], vm := .none },
  { cls := 13, slots := #[.long (-118)], vm := .none },
  { cls := 13, slots := #[.long (-117)], vm := .none },
  { cls := 13, slots := #[.long (-116)], vm := .none },
  { cls := 13, slots := #[.long (-115)], vm := .none },
  { cls := 13, slots := #[.long (-114)], vm := .none },
  { cls := 13, slots := #[.long (-113)], vm := .none },
  { cls := 13, slots := #[.long (-112)], vm := .none },
  { cls := 13, slots := #[.long (-111)], vm := .none },
  { cls := 13, slots := #[.long (-110)], vm := .none },
  { cls := 13, slots := #[.long (-109)], vm := .none },
  { cls := 13, slots := #[.long (-108)], vm := .none },
  { cls := 13, slots := #[.long (-107)], vm := .none },
  { cls := 13, slots := #[.long (-106)], vm := .none },
  { cls := 13, slots := #[.long (-105)], vm := .none },
  { cls := 13, slots := #[.long (-104)], vm := .none },
  { cls := 13, slots := #[.long (-103)], vm := .none },
  { cls := 13, slots := #[.long (-102)], vm := .none },
  { cls := 13, slots := #[.long (-101)], vm := .none },
  { cls := 13, slots := #[.long (-100)], vm := .none },
  { cls := 13, slots := #[.long (-99)], vm := .none },
  { cls := 13, slots := #[.long (-98)], vm := .none },
  { cls := 13, slots := #[.long (-97)], vm := .none },
  { cls := 13, slots := #[.long (-96)], vm := .none },
  { cls := 13, slots := #[.long (-95)], vm := .none },
  { cls := 13, slots := #[.long (-94)], vm := .none },
  { cls := 13, slots := #[.long (-93)], vm := .none },
  { cls := 13, slots := #[.long (-92)], vm := .none },
  { cls := 13, slots := #[.long (-91)], vm := .none },
  { cls := 13, slots := #[.long (-90)], vm := .none },
  { cls := 13, slots := #[.long (-89)], vm := .none },
  { cls := 13, slots := #[.long (-88)], vm := .none },
  { cls := 13, slots := #[.long (-87)], vm := .none },
  { cls := 13, slots := #[.long (-86)], vm := .none },
  { cls := 13, slots := #[.long (-85)], vm := .none },
  { cls := 13, slots := #[.long (-84)], vm := .none },
  { cls := 13, slots := #[.long (-83)], vm := .none },
  { cls := 13, slots := #[.long (-82)], vm := .none },
  { cls := 13, slots := #[.long (-81)], vm := .none },
  { cls := 13, slots := #[.long (-80)], vm := .none },
  { cls := 13, slots := #[.long (-79)], vm := .none },
  { cls := 13, slots := #[.long (-78)], vm := .none },
  { cls := 13, slots := #[.long (-77)], vm := .none },
  { cls := 13, slots := #[.long (-76)], vm := .none },
  { cls := 13, slots := #[.long (-75)], vm := .none },
  { cls := 13, slots := #[.long (-74)], vm := .none },
  { cls := 13, slots := #[.long (-73)], vm := .none },
  { cls := 13, slots := #[.long (-72)], vm := .none },
  { cls := 13, slots := #[.long (-71)], vm := .none },
  { cls := 13, slots := #[.long (-70)], vm := .none },
  { cls := 13, slots := #[.long (-69)], vm := .none },
  { cls := 13, slots := #[.long (-68)], vm := .none },
  { cls := 13, slots := #[.long (-67)], vm := .none },
  { cls := 13, slots := #[.long (-66)], vm := .none },
  { cls := 13, slots := #[.long (-65)], vm := .none },
  { cls := 13, slots := #[.long (-64)], vm := .none },
  { cls := 13, slots := #[.long (-63)], vm := .none },
  { cls := 13, slots := #[.long (-62)], vm := .none },
  { cls := 13, slots := #[.long (-61)], vm := .none },
  { cls := 13, slots := #[.long (-60)], vm := .none },
  { cls := 13, slots := #[.long (-59)], vm := .none },
  { cls := 13, slots := #[.long (-58)], vm := .none },
  { cls := 13, slots := #[.long (-57)], vm := .none },
  { cls := 13, slots := #[.long (-56)], vm := .none },
  { cls := 13, slots := #[.long (-55)], vm := .none },
  { cls := 13, slots := #[.long (-54)], vm := .none },
  { cls := 13, slots := #[.long (-53)], vm := .none },
  { cls := 13, slots := #[.long (-52)], vm := .none },
  { cls := 13, slots := #[.long (-51)], vm := .none },
  { cls := 13, slots := #[.long (-50)], vm := .none },
  { cls := 13, slots := #[.long (-49)], vm := .none },
  { cls := 13, slots := #[.long (-48)], vm := .none },
  { cls := 13, slots := #[.long (-47)], vm := .none },
  { cls := 13, slots := #[.long (-46)], vm := .none },
  { cls := 13, slots := #[.long (-45)], vm := .none },
  { cls := 13, slots := #[.long (-44)], vm := .none },
  { cls := 13, slots := #[.long (-43)], vm := .none },
  { cls := 13, slots := #[.long (-42)], vm := .none },
  { cls := 13, slots := #[.long (-41)], vm := .none },
  { cls := 13, slots := #[.long (-40)], vm := .none },
  { cls := 13, slots := #[.long (-39)], vm := .none },
  { cls := 13, slots := #[.long (-38)], vm := .none },
  { cls := 13, slots := #[.long (-37)], vm := .none },
  { cls := 13, slots := #[.long (-36)], vm := .none },
  { cls := 13, slots := #[.long (-35)], vm := .none },
  { cls := 13, slots := #[.long (-34)], vm := .none },
  { cls := 13, slots := #[.long (-33)], vm := .none },
  { cls := 13, slots := #[.long (-32)], vm := .none },
  { cls := 13, slots := #[.long (-31)], vm := .none },
  { cls := 13, slots := #[.long (-30)], vm := .none },
  { cls := 13, slots := #[.long (-29)], vm := .none },
  { cls := 13, slots := #[.long (-28)], vm := .none },
  { cls := 13, slots := #[.long (-27)], vm := .none },
  { cls := 13, slots := #[.long (-26)], vm := .none },
  { cls := 13, slots := #[.long (-25)], vm := .none },
  { cls := 13, slots := #[.long (-24)], vm := .none },
  { cls := 13, slots := #[.long (-23)], vm := .none },
  { cls := 13, slots := #[.long (-22)], vm := .none },
  { cls := 13, slots := #[.long (-21)], vm := .none },
  { cls := 13, slots := #[.long (-20)], vm := .none },
  { cls := 13, slots := #[.long (-19)], vm := .none },
  { cls := 13, slots := #[.long (-18)], vm := .none },
  { cls := 13, slots := #[.long (-17)], vm := .none },
  { cls := 13, slots := #[.long (-16)], vm := .none },
  { cls := 13, slots := #[.long (-15)], vm := .none },
  { cls := 13, slots := #[.long (-14)], vm := .none },
  { cls := 13, slots := #[.long (-13)], vm := .none },
  { cls := 13, slots := #[.long (-12)], vm := .none },
  { cls := 13, slots := #[.long (-11)], vm := .none },
  { cls := 13, slots := #[.long (-10)], vm := .none },
  { cls := 13, slots := #[.long (-9)], vm := .none },
  { cls := 13, slots := #[.long (-8)], vm := .none },
  { cls := 13, slots := #[.long (-7)], vm := .none },
  { cls := 13, slots := #[.long (-6)], vm := .none },
  { cls := 13, slots := #[.long (-5)], vm := .none },
  { cls := 13, slots := #[.long (-4)], vm := .none },
  { cls := 13, slots := #[.long (-3)], vm := .none },
  { cls := 13, slots := #[.long (-2)], vm := .none },
  { cls := 13, slots := #[.long (-1)], vm := .none },
  { cls := 13, slots := #[.long 0], vm := .none },
  { cls := 13, slots := #[.long 1], vm := .none },
  { cls := 13, slots := #[.long 2], vm := .none },
  { cls := 13, slots := #[.long 3], vm := .none },
  { cls := 13, slots := #[.long 4], vm := .none },
  { cls := 13, slots := #[.long 5], vm := .none },
  { cls := 13, slots := #[.long 6], vm := .none },
  { cls := 13, slots := #[.long 7], vm := .none },
  { cls := 13, slots := #[.long 8], vm := .none },
  { cls := 13, slots := #[.long 9], vm := .none },
  { cls := 13, slots := #[.long 10], vm := .none },
  { cls := 13, slots := #[.long 11], vm := .none },
  { cls := 13, slots := #[.long 12], vm := .none },
  { cls := 13, slots := #[.long 13], vm := .none },
  { cls := 13, slots := #[.long 14], vm := .none },
  { cls := 13, slots := #[.long 15], vm := .none },
  { cls := 13, slots := #[.long 16], vm := .none },
  { cls := 13, slots := #[.long 17], vm := .none },
  { cls := 13, slots := #[.long 18], vm := .none },
  { cls := 13, slots := #[.long 19], vm := .none },
  { cls := 13, slots := #[.long 20], vm := .none },
  { cls := 13, slots := #[.long 21], vm := .none },
  { cls := 13, slots := #[.long 22], vm := .none },
  { cls := 13, slots := #[.long 23], vm := .none },
  { cls := 13, slots := #[.long 24], vm := .none },
  { cls := 13, slots := #[.long 25], vm := .none },
  { cls := 13, slots := #[.long 26], vm := .none },
  { cls := 13, slots := #[.long 27], vm := .none },
  { cls := 13, slots := #[.long 28], vm := .none },
  { cls := 13, slots := #[.long 29], vm := .none },
  { cls := 13, slots := #[.long 30], vm := .none },
  { cls := 13, slots := #[.long 31], vm := .none },
  { cls := 13, slots := #[.long 32], vm := .none },
  { cls := 13, slots := #[.long 33], vm := .none },
  { cls := 13, slots := #[.long 34], vm := .none },
  { cls := 13, slots := #[.long 35], vm := .none },
  { cls := 13, slots := #[.long 36], vm := .none },
  { cls := 13, slots := #[.long 37], vm := .none },
  { cls := 13, slots := #[.long 38], vm := .none },
  { cls := 13, slots := #[.long 39], vm := .none },
  { cls := 13, slots := #[.long 40], vm := .none },
  { cls := 13, slots := #[.long 41], vm := .none },
  { cls := 13, slots := #[.long 42], vm := .none },
  { cls := 13, slots := #[.long 43], vm := .none },
  { cls := 13, slots := #[.long 44], vm := .none },
  { cls := 13, slots := #[.long 45], vm := .none },
  { cls := 13, slots := #[.long 46], vm := .none },
  { cls := 13, slots := #[.long 47], vm := .none },
  { cls := 13, slots := #[.long 48], vm := .none },
  { cls := 13, slots := #[.long 49], vm := .none },
  { cls := 13, slots := #[.long 50], vm := .none },
  { cls := 13, slots := #[.long 51], vm := .none },
  { cls := 13, slots := #[.long 52], vm := .none },
  { cls := 13, slots := #[.long 53], vm := .none },
  { cls := 13, slots := #[.long 54], vm := .none },
  { cls := 13, slots := #[.long 55], vm := .none },
  { cls := 13, slots := #[.long 56], vm := .none },
  { cls := 13, slots := #[.long 57], vm := .none },
  { cls := 13, slots := #[.long 58], vm := .none },
  { cls := 13, slots := #[.long 59], vm := .none },
  { cls := 13, slots := #[.long 60], vm := .none },
  { cls := 13, slots := #[.long 61], vm := .none },
  { cls := 13, slots := #[.long 62], vm := .none },
  { cls := 13, slots := #[.long 63], vm := .none },
  { cls := 13, slots := #[.long 64], vm := .none },
  { cls := 13, slots := #[.long 65], vm := .none },
  { cls := 13, slots := #[.long 66], vm := .none },
  { cls := 13, slots := #[.long 67], vm := .none },
  { cls := 13, slots := #[.long 68], vm := .none },
  { cls := 13, slots := #[.long 69], vm := .none },
  { cls := 13, slots := #[.long 70], vm := .none },
  { cls := 13, slots := #[.long 71], vm := .none },
  { cls := 13, slots := #[.long 72], vm := .none },
  { cls := 13, slots := #[.long 73], vm := .none },
  { cls := 13, slots := #[.long 74], vm := .none },
  { cls := 13, slots := #[.long 75], vm := .none },
  { cls := 13, slots := #[.long 76], vm := .none },
  { cls := 13, slots := #[.long 77], vm := .none },
  { cls := 13, slots := #[.long 78], vm := .none },
  { cls := 13, slots := #[.long 79], vm := .none },
  { cls := 13, slots := #[.long 80], vm := .none },
  { cls := 13, slots := #[.long 81], vm := .none },
  { cls := 13, slots := #[.long 82], vm := .none },
  { cls := 13, slots := #[.long 83], vm := .none },
  { cls := 13, slots := #[.long 84], vm := .none },
  { cls := 13, slots := #[.long 85], vm := .none },
  { cls := 13, slots := #[.long 86], vm := .none },
  { cls := 13, slots := #[.long 87], vm := .none },
  { cls := 13, slots := #[.long 88], vm := .none },
  { cls := 13, slots := #[.long 89], vm := .none },
  { cls := 13, slots := #[.long 90], vm := .none },
  { cls := 13, slots := #[.long 91], vm := .none },
  { cls := 13, slots := #[.long 92], vm := .none },
  { cls := 13, slots := #[.long 93], vm := .none },
  { cls := 13, slots := #[.long 94], vm := .none },
  { cls := 13, slots := #[.long 95], vm := .none },
  { cls := 13, slots := #[.long 96], vm := .none },
  { cls := 13, slots := #[.long 97], vm := .none },
  { cls := 13, slots := #[.long 98], vm := .none },
  { cls := 13, slots := #[.long 99], vm := .none },
  { cls := 13, slots := #[.long 100], vm := .none },
  { cls := 13, slots := #[.long 101], vm := .none },
  { cls := 13, slots := #[.long 102], vm := .none },
  { cls := 13, slots := #[.long 103], vm := .none },
  { cls := 13, slots := #[.long 104], vm := .none },
  { cls := 13, slots := #[.long 105], vm := .none },
  { cls := 13, slots := #[.long 106], vm := .none },
  { cls := 13, slots := #[.long 107], vm := .none },
  { cls := 13, slots := #[.long 108], vm := .none },
  { cls := 13, slots := #[.long 109], vm := .none },
  { cls := 13, slots := #[.long 110], vm := .none },
  { cls := 13, slots := #[.long 111], vm := .none },
  { cls := 13, slots := #[.long 112], vm := .none },
  { cls := 13, slots := #[.long 113], vm := .none },
  { cls := 13, slots := #[.long 114], vm := .none },
  { cls := 13, slots := #[.long 115], vm := .none },
  { cls := 13, slots := #[.long 116], vm := .none },
  { cls := 13, slots := #[.long 117], vm := .none },
  { cls := 13, slots := #[.long 118], vm := .none },
  { cls := 13, slots := #[.long 119], vm := .none },
  { cls := 13, slots := #[.long 120], vm := .none },
  { cls := 13, slots := #[.long 121], vm := .none },
  { cls := 13, slots := #[.long 122], vm := .none },
  { cls := 13, slots := #[.long 123], vm := .none },
  { cls := 13, slots := #[.long 124], vm := .none },
  { cls := 13, slots := #[.long 125], vm := .none },
  { cls := 13, slots := #[.long 126], vm := .none },
  { cls := 13, slots := #[.long 127], vm := .none }]
def classes : Array Class := #[k0, k1, k2, k3, k4, k5, k6, k7, k8, k9, k10, k11, k12, k13, k14, k15, k16, k17, k18, k19, k20, k21, k22, k23]
def interned : List (Array UInt16 × Addr) := []
def slotsUsed : Nat := 1042
def theMethod : MethodId := ⟨1, 1⟩
def args0 : Array Value := #[.int 5, .int 7, .int 3]
def aboutOver (below : List Frame) : State where
  vm := { classes := classes, interned := interned.toArray }
  heap := heap
  slotsUsed := slotsUsed
  threads := #[{ frames := .invoking theMethod args0 :: below }]
def below0 : List Frame := [.native { method := ⟨0, 0⟩, args := #[] }]
def about1 : State := aboutOver below0
def p0 : Program := .bare "" "" ""
def e0 : Env := launch0.env 0 0 0
theorem w_frames : about1.frames = Frame.invoking theMethod args0 :: below0 := rfl
set_option maxRecDepth 65536 in
theorem w_args : argsFit about1.vm theMethod args0 = true := by decide +kernel
set_option maxRecDepth 65536 in
theorem w_heap : heapFits about1 = true := by decide +kernel
set_option maxRecDepth 65536 in
theorem w_runnable : about1.curStatus? = some .runnable := by decide +kernel
set_option maxRecDepth 65536 in
theorem w_alone : about1.alone = true := by decide +kernel
set_option maxRecDepth 65536 in
theorem w_named : about1.methodNamed? x = some theMethod := by decide +kernel
set_option maxRecDepth 65536 in
theorem w_hears : about1.hears theMethod below0 = true := by decide +kernel
set_option maxRecDepth 65536 in
theorem w_ripe : about1.ripe theMethod args0 below0 = true := by decide +kernel
theorem w_running : about1.status = .running := rfl
set_option maxRecDepth 65536 in
theorem w_room : about1.hasRoom e0.platform room_1 = true :=
  launch0.hasRoom_least _ room_1 (by decide +kernel) (by decide +kernel) (by decide +kernel) (by decide +kernel) (by decide +kernel) (by decide +kernel)
theorem allAtoms_all (ts : List Jvm.Cond) (a : Array Jvm.Value) (st : Jvm.State) : (allAtoms ts).before a st = ts.all (fun c => c.before a st) := by
  induction ts with
  | nil => rfl
  | cons c t ih =>
    show (Jvm.Cond.and c (allAtoms t)).before a st = _
    rw [Jvm.Cond.before_and, ih, List.all_cons]
def words1 : List Jvm.Cond := Jvm.Cond.code x code maxLocals ret :: tables_1
/-- a 'code' word, met by the world's own term for the bytes: nothing is compared byte by byte -/
theorem code_word {y : MethodName} {bytes : ByteArray} {mx : Nat} {rt : Option FieldType} {a : Array Value} {s : State} {m : MethodId} {meth : Method} {c : Code} (h1 : s.methodNamed? y = some m) (h2 : s.vm.method? m = some meth) (h3 : meth.code = some c) (h4 : c.code = bytes)
    (h5 : (c.maxLocals == mx && c.exceptionTable.isEmpty && decide (c.maxStack ≤ mostOperands) && decide (meth.sig.returnType = rt) && !meth.locks && decide (parseMethodDescriptor y.desc = some meth.sig)) = true) : (Jvm.Cond.code y bytes mx rt).before a s = true := by
  simp only [Bool.and_eq_true, beq_iff_eq, Bool.not_eq_true', decide_eq_true_eq] at h5
  obtain ⟨⟨⟨⟨⟨g1, g2⟩, g3⟩, g4⟩, g5⟩, g6⟩ := h5
  simp [Cond.before, Cond.holds, Cond.value, h1, h2, h3, h4, g1, g2, g3, g4, g5, g6]
def isCode : Jvm.Cond → Bool
  | .code _ _ _ _ => true
  | _ => false
theorem all_split {L : List Jvm.Cond} {P : Jvm.Cond → Bool} (h1 : L.all (fun c => isCode c || P c) = true) (h2 : ∀ c ∈ L.filter isCode, P c = true) : L.all P = true := by
  refine List.all_eq_true.mpr fun c hc => ?_
  have h := List.all_eq_true.mp h1 c hc
  rcases Bool.eq_false_or_eq_true (isCode c) with hi | hi
  · exact h2 c (List.mem_filter.mpr ⟨hc, hi⟩)
  · simpa [hi] using h
set_option maxRecDepth 65536 in
theorem w_c0 : (Jvm.Cond.code x code maxLocals ret).before args0 about1 = true := code_word (m := ⟨1, 1⟩) (meth := k1m1) (c := k1c1) (by decide +kernel) rfl rfl rfl (by decide +kernel)
set_option maxRecDepth 65536 in
theorem w_c1 : (Jvm.Cond.code ({ cls := "com/example/rooted_kinds/rootedkinds/model/Rating", name := "<init>", desc := "(I)V" } : Jvm.MethodName) prog_44_method_1_code (2 : Nat) (Option.none : Option Jvm.ClassFile.FieldType)).before args0 about1 = true := code_word (m := ⟨2, 0⟩) (meth := k2m0) (c := k2c0) (by decide +kernel) rfl rfl rfl (by decide +kernel)
set_option maxRecDepth 65536 in
theorem w_c2 : (Jvm.Cond.code ({ cls := "java/lang/Object", name := "<init>", desc := "()V" } : Jvm.MethodName) object_method_1_code (1 : Nat) (Option.none : Option Jvm.ClassFile.FieldType)).before args0 about1 = true := code_word (m := ⟨0, 0⟩) (meth := k0m0) (c := k0c0) (by decide +kernel) rfl rfl rfl (by decide +kernel)
set_option maxRecDepth 65536 in
theorem w_c3 : (Jvm.Cond.code ({ cls := "java/lang/Integer", name := "valueOf", desc := "(I)Ljava/lang/Integer;" } : Jvm.MethodName) jdk_33_method_22_code (1 : Nat) (Option.some (Jvm.ClassFile.FieldType.object "java/lang/Integer"))).before args0 about1 = true := code_word (m := ⟨8, 0⟩) (meth := k8m0) (c := k8c0) (by decide +kernel) rfl rfl rfl (by decide +kernel)
set_option maxRecDepth 65536 in
theorem w_c4 : (Jvm.Cond.code ({ cls := "com/example/rooted_kinds/rootedkinds/model/Rating", name := "equals", desc := "(Ljava/lang/Object;)Z" } : Jvm.MethodName) prog_44_method_3_code (3 : Nat) (Option.some Jvm.ClassFile.FieldType.boolean)).before args0 about1 = true := code_word (m := ⟨2, 1⟩) (meth := k2m1) (c := k2c1) (by decide +kernel) rfl rfl rfl (by decide +kernel)
set_option maxRecDepth 65536 in
theorem w_c5 : (Jvm.Cond.code ({ cls := "java/lang/String", name := "valueOf", desc := "(C)Ljava/lang/String;" } : Jvm.MethodName) jdk_42_method_139_code (1 : Nat) (Option.some (Jvm.ClassFile.FieldType.object "java/lang/String"))).before args0 about1 = true := code_word (m := ⟨11, 1⟩) (meth := k11m1) (c := k11c1) (by decide +kernel) rfl rfl rfl (by decide +kernel)
set_option maxRecDepth 65536 in
theorem w_c6 : (Jvm.Cond.code ({ cls := "java/lang/StringLatin1", name := "canEncode", desc := "(C)Z" } : Jvm.MethodName) jdk_43_method_3_code (1 : Nat) (Option.some Jvm.ClassFile.FieldType.boolean)).before args0 about1 = true := code_word (m := ⟨12, 1⟩) (meth := k12m1) (c := k12c1) (by decide +kernel) rfl rfl rfl (by decide +kernel)
set_option maxRecDepth 65536 in
theorem w_c7 : (Jvm.Cond.code ({ cls := "java/lang/StringLatin1", name := "toBytes", desc := "(C)[B" } : Jvm.MethodName) jdk_43_method_46_code (1 : Nat) (Option.some (Jvm.ClassFile.FieldType.array Jvm.ClassFile.FieldType.byte))).before args0 about1 = true := code_word (m := ⟨12, 2⟩) (meth := k12m2) (c := k12c2) (by decide +kernel) rfl rfl rfl (by decide +kernel)
set_option maxRecDepth 65536 in
theorem w_c8 : (Jvm.Cond.code ({ cls := "java/lang/String", name := "<init>", desc := "([BB)V" } : Jvm.MethodName) jdk_42_method_151_code (3 : Nat) (Option.none : Option Jvm.ClassFile.FieldType)).before args0 about1 = true := code_word (m := ⟨11, 2⟩) (meth := k11m2) (c := k11c2) (by decide +kernel) rfl rfl rfl (by decide +kernel)
set_option maxRecDepth 65536 in
theorem w_c9 : (Jvm.Cond.code ({ cls := "java/lang/Long", name := "valueOf", desc := "(J)Ljava/lang/Long;" } : Jvm.MethodName) jdk_35_method_24_code (3 : Nat) (Option.some (Jvm.ClassFile.FieldType.object "java/lang/Long"))).before args0 about1 = true := code_word (m := ⟨13, 0⟩) (meth := k13m0) (c := k13c0) (by decide +kernel) rfl rfl rfl (by decide +kernel)
def codes1 : List Jvm.Cond := [Jvm.Cond.code x code maxLocals ret, Jvm.Cond.code ({ cls := "com/example/rooted_kinds/rootedkinds/model/Rating", name := "<init>", desc := "(I)V" } : Jvm.MethodName) prog_44_method_1_code (2 : Nat) (Option.none : Option Jvm.ClassFile.FieldType), Jvm.Cond.code ({ cls := "java/lang/Object", name := "<init>", desc := "()V" } : Jvm.MethodName) object_method_1_code (1 : Nat) (Option.none : Option Jvm.ClassFile.FieldType), Jvm.Cond.code ({ cls := "java/lang/Integer", name := "valueOf", desc := "(I)Ljava/lang/Integer;" } : Jvm.MethodName) jdk_33_method_22_code (1 : Nat) (Option.some (Jvm.ClassFile.FieldType.object "java/lang/Integer")), Jvm.Cond.code ({ cls := "com/example/rooted_kinds/rootedkinds/model/Rating", name := "equals", desc := "(Ljava/lang/Object;)Z" } : Jvm.MethodName) prog_44_method_3_code (3 : Nat) (Option.some Jvm.ClassFile.FieldType.boolean), Jvm.Cond.code ({ cls := "java/lang/String", name := "valueOf", desc := "(C)Ljava/lang/String;" } : Jvm.MethodName) jdk_42_method_139_code (1 : Nat) (Option.some (Jvm.ClassFile.FieldType.object "java/lang/String")), Jvm.Cond.code ({ cls := "java/lang/StringLatin1", name := "canEncode", desc := "(C)Z" } : Jvm.MethodName) jdk_43_method_3_code (1 : Nat) (Option.some Jvm.ClassFile.FieldType.boolean), Jvm.Cond.code ({ cls := "java/lang/StringLatin1", name := "toBytes", desc := "(C)[B" } : Jvm.MethodName) jdk_43_method_46_code (1 : Nat) (Option.some (Jvm.ClassFile.FieldType.array Jvm.ClassFile.FieldType.byte)), Jvm.Cond.code ({ cls := "java/lang/String", name := "<init>", desc := "([BB)V" } : Jvm.MethodName) jdk_42_method_151_code (3 : Nat) (Option.none : Option Jvm.ClassFile.FieldType), Jvm.Cond.code ({ cls := "java/lang/Long", name := "valueOf", desc := "(J)Ljava/lang/Long;" } : Jvm.MethodName) jdk_35_method_24_code (3 : Nat) (Option.some (Jvm.ClassFile.FieldType.object "java/lang/Long"))]
set_option maxRecDepth 65536 in
theorem codes_eq : words1.filter isCode = codes1 := rfl
theorem w_codes : ∀ c ∈ words1.filter isCode, c.before args0 about1 = true := by
  rw [codes_eq]
  intro c hc
  simp only [codes1, List.mem_cons, List.not_mem_nil, or_false] at hc
  rcases hc with rfl | rfl | rfl | rfl | rfl | rfl | rfl | rfl | rfl | rfl
  · exact w_c0
  · exact w_c1
  · exact w_c2
  · exact w_c3
  · exact w_c4
  · exact w_c5
  · exact w_c6
  · exact w_c7
  · exact w_c8
  · exact w_c9
set_option maxRecDepth 65536 in
theorem w_t1 : (words1.take 24).all (fun c => isCode c || c.before args0 about1) = true := by decide +kernel
set_option maxRecDepth 65536 in
theorem w_t2 : ((words1.drop 24).take 24).all (fun c => isCode c || c.before args0 about1) = true := by decide +kernel
set_option maxRecDepth 65536 in
theorem w_t3 : ((words1.drop 24).drop 24).all (fun c => isCode c || c.before args0 about1) = true := by decide +kernel
theorem w_tables : (allAtoms (Jvm.Cond.code x code maxLocals ret :: tables_1)).before args0 about1 = true := by
  rw [allAtoms_all]
  show words1.all (fun c => c.before args0 about1) = true
  refine all_split ?_ w_codes
  rw [← List.take_append_drop 24 words1, List.all_append, w_t1, ← List.take_append_drop 24 (words1.drop 24), List.all_append, w_t2, w_t3]
  rfl
set_option maxRecDepth 65536 in
theorem w_rest : rest_1_c.before args0 about1 = true := by decide +kernel
set_option maxRecDepth 65536 in
theorem w_case : (Jvm.Cond.and given_1 narrow_1).before args0 about1 = true := by decide +kernel
theorem w_applies : (headSpec (Jvm.Cond.code x code maxLocals ret :: tables_1) room_1).applies x e0.platform about1 = true :=
  (Spec.applies_iff w_frames).mpr ⟨w_running, w_runnable, w_alone, w_named, w_hears, w_ripe, w_room, w_tables⟩
theorem atStart : AtStart classFile x code maxLocals ret World_1 tables_1 room_1 Calls_1 rest_1 Pre_1 launch0 p0 e0 about1 theMethod args0 below0 :=
  ⟨lists_1, trivial, launch0.admits_env _ _ _, launch0.least_env, fairChoices_fair.cas, fairChoices_fair.clock, w_frames, w_args, w_heap, w_applies, trivial, w_rest, w_case⟩
end start1
theorem witness_1 : WitnessClaimed_1 := ⟨start1.p0, start1.e0, start1.about1, start1.theMethod, start1.args0, start1.below0, start1.atStart⟩
end Jvm.Pilot.@@N@@
