import JvmDerived
import JvmDerived.Pilot.@@N@@Statement
import JvmDerived.Pilot.@@N@@Code
set_option linter.unusedVariables false
set_option linter.unusedSimpArgs false
namespace Jvm.RoadKit
open Sem ClassFile Op Lib Jvm.Stand Jvm.Free Jvm.LawKit
section New
variable {p : Program} {l : Launch} {e : Env} {R : Room} {s : State} {m : MethodId} {args : Array Value} {below : List Frame} {meth : Method} {c : Code} {T : State} {locs : List Loc} {cells slots : Nat}
theorem retI (X : Stand p l e R s m args below meth c T locs cells slots) (hx : p.tables.exec = Jvm.exec) {pc : Nat} {Ls : Array Slot} {z : Int32} {rest : List Value} (hret : meth.sig.returnType = some .int) (hd : decode c.code pc = .ok (.ireturn, 1)) {fs : List Frame}
    (hl : ∀ (f : JFrame) (acts : List Action), f.method = m → f.locked = none → f.entered = [] → (doReturn e (T.setTop f) acts (some (.int z))).1 = T.setFrames fs) : Steps p.tables e below (T.setTop (mkF m pc Ls (.int z :: rest))) (T.setFrames fs) := by
  have hm' : T.vm.method? m = some meth := X.method'
  have hn : narrow .int (.int z) = .int z := rfl
  show Steps p.tables e below (T.setTop { method := m, pc := pc, locals := Ls, stack := _ :: rest, locked := none }) _
  jvm_step X.here [X.here.top, hx, hd, hm', hret, hn]
  first | (intro acts; rw [hl _ acts rfl rfl rfl]) | rw [hl _ _ rfl rfl rfl]
  exact Steps.refl _
theorem eqv_r {Z : State} {args : Array Value} {X F : Term} {idx : List Nat} {y : Addr} (hF : F.eval args Z none idx Z = some (.ref y)) (h : (Cond.eq X F).value args Z none Z idx = some true) : X.eval args Z none idx Z = some (.ref y) := by
  obtain ⟨x, y', e1, e2, k1, k2⟩ := cmp_v (Or.inl h)
  cases hF.symm.trans e2
  have hx : x.isRef = true := k2.2
  have q : x = .ref y := gotT (eq_R e1 hF hx rfl) h
  rw [e1, q]
end New
end Jvm.RoadKit
namespace Jvm.Pilot.@@N@@
open Jvm Jvm.ClassFile Sem Op Lib Jvm.Free Jvm.Stand Jvm.LawKit Jvm.RoadKit Bundle Jvm.Pilot.@@N@@.Jvm.D
theorem own_eT {Z T : State} {h : Heap} {a : Addr} {c : Cell} {ty : FieldType} (e : T.heap = h) (A : Arr Z h a c ty) : T.heap[a]? = some c := by rw [e]; exact A.1
def Go (p : Program) (e : Env) (below : List Frame) (Qf : Outcome → State → Prop) (W : State) : Prop := ∃ s₂ o, Steps p.tables e below W s₂ ∧ s₂.status = .running ∧ Ended s₂ below o ∧ Qf o s₂
theorem Go.st {p : Program} {e : Env} {below : List Frame} {Qf : Outcome → State → Prop} {W V' : State} (h : ∀ t, Steps p.tables e below V' t → Steps p.tables e below W t) (g : Go p e below Qf V') : Go p e below Qf W := by
  obtain ⟨s₂, o, g1, g2⟩ := g
  exact ⟨s₂, o, h _ g1, g2⟩
theorem Go.out {p : Program} {e : Env} {below : List Frame} {Qf : Outcome → State → Prop} {W : State} (g : Go p e below Qf W) : ∃ s₂ o, Steps p.tables e below W s₂ ∧ s₂.status = .running ∧ Ended s₂ below o ∧ Qf o s₂ := g
theorem Go.mk' {p : Program} {e : Env} {below : List Frame} {Qf : Outcome → State → Prop} {W : State} (g : ∃ s₂ o, Steps p.tables e below W s₂ ∧ s₂.status = .running ∧ Ended s₂ below o ∧ Qf o s₂) : Go p e below Qf W := g
theorem own_len {s : State} {args : Array Value} {t : Term} {a : Addr} {cl : Cell} {ty : FieldType} {n : Int32} (et : t.eval args s none [] s = some (.ref a)) (A : Arr s s.heap a cl ty) (h : (Jvm.Cond.eq (.length t) (.int n)).value args s none s [] = some true) : cl.slots.size < 2 ^ 31 ∧ cl.slots.size.toInt32 = n := by
  have q := eqv_i (Term.int_eval n) h
  have f := A.fin (U := s) (Vm.Alike.refl _)
  simp only [Term.eval, et, f, Option.bind_eq_bind, Option.bind_some] at q
  split at q
  · rename_i hs
    exact ⟨hs, by simpa using q⟩
  · simp at q
theorem own_elr {s : State} {args : Array Value} {t F : Term} {a y : Addr} {cl : Cell} {ty : FieldType} {j : Int32} {i : Nat} (et : t.eval args s none [] s = some (.ref a)) (A : Arr s s.heap a cl ty) (eX : F.eval args s none [] s = some (.ref y)) (h : (Jvm.Cond.eq (.elem t (.int j)) F).value args s none s [] = some true) (hj : ¬ j < 0) (hi : j.toNatClampNeg = i) : cl.slots[i]? = some (.ref y) :=
  hi ▸ (elem_f et (Term.int_eval j) (A.fin (Vm.Alike.refl _)) hj).symm.trans (eqv_r eX h)
def W0 (Z : State) (s_RUNTIME_INCONSISTENCY : Addr) (s_UNIMPLEMENTED : Addr) (s_BAD_ARGUMENTS : Addr) (s_NO_NODE : Addr) (s_NO_AUTH : Addr) (s_BAD_VERSION : Addr) (s_NO_CHILDREN_FOR_EPHEMERALS : Addr) (s_NODE_EXISTS : Addr) (s_NOT_EMPTY : Addr) (s_VALUES : Addr) (k_VALUES : ClassId) : Prop :=
  (Exa Z Z.heap s_RUNTIME_INCONSISTENCY "com/example/numtick/numtick/protocol/ErrorCode") ∧
  (Sta Z Z.heap "com/example/numtick/numtick/protocol/ErrorCode" "RUNTIME_INCONSISTENCY" "Lcom/example/numtick/numtick/protocol/ErrorCode;" (.ref s_RUNTIME_INCONSISTENCY)) ∧
  (Exa Z Z.heap s_UNIMPLEMENTED "com/example/numtick/numtick/protocol/ErrorCode") ∧
  (Sta Z Z.heap "com/example/numtick/numtick/protocol/ErrorCode" "UNIMPLEMENTED" "Lcom/example/numtick/numtick/protocol/ErrorCode;" (.ref s_UNIMPLEMENTED)) ∧
  (Exa Z Z.heap s_BAD_ARGUMENTS "com/example/numtick/numtick/protocol/ErrorCode") ∧
  (Sta Z Z.heap "com/example/numtick/numtick/protocol/ErrorCode" "BAD_ARGUMENTS" "Lcom/example/numtick/numtick/protocol/ErrorCode;" (.ref s_BAD_ARGUMENTS)) ∧
  (Exa Z Z.heap s_NO_NODE "com/example/numtick/numtick/protocol/ErrorCode") ∧
  (Sta Z Z.heap "com/example/numtick/numtick/protocol/ErrorCode" "NO_NODE" "Lcom/example/numtick/numtick/protocol/ErrorCode;" (.ref s_NO_NODE)) ∧
  (Exa Z Z.heap s_NO_AUTH "com/example/numtick/numtick/protocol/ErrorCode") ∧
  (Sta Z Z.heap "com/example/numtick/numtick/protocol/ErrorCode" "NO_AUTH" "Lcom/example/numtick/numtick/protocol/ErrorCode;" (.ref s_NO_AUTH)) ∧
  (Exa Z Z.heap s_BAD_VERSION "com/example/numtick/numtick/protocol/ErrorCode") ∧
  (Sta Z Z.heap "com/example/numtick/numtick/protocol/ErrorCode" "BAD_VERSION" "Lcom/example/numtick/numtick/protocol/ErrorCode;" (.ref s_BAD_VERSION)) ∧
  (Exa Z Z.heap s_NO_CHILDREN_FOR_EPHEMERALS "com/example/numtick/numtick/protocol/ErrorCode") ∧
  (Sta Z Z.heap "com/example/numtick/numtick/protocol/ErrorCode" "NO_CHILDREN_FOR_EPHEMERALS" "Lcom/example/numtick/numtick/protocol/ErrorCode;" (.ref s_NO_CHILDREN_FOR_EPHEMERALS)) ∧
  (Exa Z Z.heap s_NODE_EXISTS "com/example/numtick/numtick/protocol/ErrorCode") ∧
  (Sta Z Z.heap "com/example/numtick/numtick/protocol/ErrorCode" "NODE_EXISTS" "Lcom/example/numtick/numtick/protocol/ErrorCode;" (.ref s_NODE_EXISTS)) ∧
  (Exa Z Z.heap s_NOT_EMPTY "com/example/numtick/numtick/protocol/ErrorCode") ∧
  (Sta Z Z.heap "com/example/numtick/numtick/protocol/ErrorCode" "NOT_EMPTY" "Lcom/example/numtick/numtick/protocol/ErrorCode;" (.ref s_NOT_EMPTY)) ∧
  (Fld Z Z.heap s_RUNTIME_INCONSISTENCY "com/example/numtick/numtick/protocol/ErrorCode" "code" "I" (.int (-2 : Int32))) ∧
  (Fld Z Z.heap s_UNIMPLEMENTED "com/example/numtick/numtick/protocol/ErrorCode" "code" "I" (.int (-6 : Int32))) ∧
  (Fld Z Z.heap s_BAD_ARGUMENTS "com/example/numtick/numtick/protocol/ErrorCode" "code" "I" (.int (-8 : Int32))) ∧
  (Fld Z Z.heap s_NO_NODE "com/example/numtick/numtick/protocol/ErrorCode" "code" "I" (.int (-101 : Int32))) ∧
  (Fld Z Z.heap s_NO_AUTH "com/example/numtick/numtick/protocol/ErrorCode" "code" "I" (.int (-102 : Int32))) ∧
  (Fld Z Z.heap s_BAD_VERSION "com/example/numtick/numtick/protocol/ErrorCode" "code" "I" (.int (-103 : Int32))) ∧
  (Fld Z Z.heap s_NO_CHILDREN_FOR_EPHEMERALS "com/example/numtick/numtick/protocol/ErrorCode" "code" "I" (.int (-108 : Int32))) ∧
  (Fld Z Z.heap s_NODE_EXISTS "com/example/numtick/numtick/protocol/ErrorCode" "code" "I" (.int (-110 : Int32))) ∧
  (Fld Z Z.heap s_NOT_EMPTY "com/example/numtick/numtick/protocol/ErrorCode" "code" "I" (.int (-111 : Int32))) ∧
  (Arv Z Z.heap s_VALUES k_VALUES (.object "com/example/numtick/numtick/protocol/ErrorCode") (9 : Int32) [(.ref s_RUNTIME_INCONSISTENCY), (.ref s_UNIMPLEMENTED), (.ref s_BAD_ARGUMENTS), (.ref s_NO_NODE), (.ref s_NO_AUTH), (.ref s_BAD_VERSION), (.ref s_NO_CHILDREN_FOR_EPHEMERALS), (.ref s_NODE_EXISTS), (.ref s_NOT_EMPTY)] .null) ∧
  (Sta Z Z.heap "com/example/numtick/numtick/protocol/ErrorCode" "$VALUES" "[Lcom/example/numtick/numtick/protocol/ErrorCode;" (.ref s_VALUES)) ∧
  (Exa Z Z.heap s_VALUES "[Lcom/example/numtick/numtick/protocol/ErrorCode;")
theorem own_d2_0 : decode prog_50_method_1_code 0 = .ok (.getstatic 31, 3) := by decide +kernel
theorem own_d2_3 : decode prog_50_method_1_code 3 = .ok (.invokevirtual 35, 3) := by decide +kernel
theorem own_d2_6 : decode prog_50_method_1_code 6 = .ok (.checkcast 36, 3) := by decide +kernel
theorem own_d2_9 : decode prog_50_method_1_code 9 = .ok (.areturn, 1) := by decide +kernel
theorem own_pn0 : plainName "com/example/numtick/numtick/protocol/ErrorCode" = true := by first | (simp [plainName, overriddenIn]; done) | decide +kernel
theorem ef2 (m : MethodId) : entryFrame m #[] 0 = mkF m 0 #[] [] := by first | (simp [entryFrame, mkF, argsToLocals, Value.category]; done) | rfl
def Q2 (Z : State) (s_RUNTIME_INCONSISTENCY : Addr) (s_UNIMPLEMENTED : Addr) (s_BAD_ARGUMENTS : Addr) (s_NO_NODE : Addr) (s_NO_AUTH : Addr) (s_BAD_VERSION : Addr) (s_NO_CHILDREN_FOR_EPHEMERALS : Addr) (s_NODE_EXISTS : Addr) (s_NOT_EMPTY : Addr) (s_VALUES : Addr) (k_VALUES : ClassId) (h0 : Heap) (n0 : Nat) (v : Option Value) (h : Heap) (L : List Loc) : Prop := ∃ y0 : Addr, v = some (.ref y0) ∧ Fr n0 L ∧ Keep h0 h [] ∧ h0.size ≤ y0 ∧ Arv Z h y0 k_VALUES (.object "com/example/numtick/numtick/protocol/ErrorCode") (9 : Int32) [(.ref s_RUNTIME_INCONSISTENCY), (.ref s_UNIMPLEMENTED), (.ref s_BAD_ARGUMENTS), (.ref s_NO_NODE), (.ref s_NO_AUTH), (.ref s_BAD_VERSION), (.ref s_NO_CHILDREN_FOR_EPHEMERALS), (.ref s_NODE_EXISTS), (.ref s_NOT_EMPTY)] .null ∧ Exa Z h y0 "[Lcom/example/numtick/numtick/protocol/ErrorCode;"
set_option maxRecDepth 65536 in
set_option maxHeartbeats 40000000 in
theorem rm2 (l : Launch) (Z : State) (a0 : Array Value) (hw : ∀ d ∈ tables_1, d.before a0 Z = true) (ws : List Jvm.Cond) (s_RUNTIME_INCONSISTENCY : Addr) (s_UNIMPLEMENTED : Addr) (s_BAD_ARGUMENTS : Addr) (s_NO_NODE : Addr) (s_NO_AUTH : Addr) (s_BAD_VERSION : Addr) (s_NO_CHILDREN_FOR_EPHEMERALS : Addr) (s_NODE_EXISTS : Addr) (s_NOT_EMPTY : Addr) (s_VALUES : Addr) (k_VALUES : ClassId) (HW : W0 Z s_RUNTIME_INCONSISTENCY s_UNIMPLEMENTED s_BAD_ARGUMENTS s_NO_NODE s_NO_AUTH s_BAD_VERSION s_NO_CHILDREN_FOR_EPHEMERALS s_NODE_EXISTS s_NOT_EMPTY s_VALUES k_VALUES) (h0 : Heap) (n0 : Nat) (O0 : Old Z n0 h0) :
    MetFree l (⟨"com/example/numtick/numtick/protocol/ErrorCode", "values", "()[Lcom/example/numtick/numtick/protocol/ErrorCode;"⟩ : MethodName) (head1 (Jvm.Cond.code (⟨"com/example/numtick/numtick/protocol/ErrorCode", "values", "()[Lcom/example/numtick/numtick/protocol/ErrorCode;"⟩ : MethodName) prog_50_method_1_code 0 (some (.array (.object "com/example/numtick/numtick/protocol/ErrorCode"))) :: ws) ({ frames := 1, cells := 1, slots := 9, locals := 14 } : Room)) (fun a U => a = #[] ∧ Z.Warmed39 U.vm ∧ U.heap = h0) (fun _ _ _ _ _ => True) (fun _ U o U' => ∃ v L, o = .returned v ∧ Q2 Z s_RUNTIME_INCONSISTENCY s_UNIMPLEMENTED s_BAD_ARGUMENTS s_NO_NODE s_NO_AUTH s_BAD_VERSION s_NO_CHILDREN_FOR_EPHEMERALS s_NODE_EXISTS s_NOT_EMPTY s_VALUES k_VALUES h0 n0 v U'.heap L ∧ FrameEnd U o U' L ({ frames := 1, cells := 1, slots := 9, locals := 14 } : Room).cells ({ frames := 1, cells := 1, slots := 9, locals := 14 } : Room).slots) := by
  refine MetFree.of_bodySF (plainFor_of_name own_pn0) hisR ?_
  intro p e s m args below meth c s₁ Bd hml0 hP hK
  obtain ⟨rfl, hZ, hh⟩ := hP
  obtain ⟨E_RUNTIME_INCONSISTENCY, S_RUNTIME_INCONSISTENCY, E_UNIMPLEMENTED, S_UNIMPLEMENTED, E_BAD_ARGUMENTS, S_BAD_ARGUMENTS, E_NO_NODE, S_NO_NODE, E_NO_AUTH, S_NO_AUTH, E_BAD_VERSION, S_BAD_VERSION, E_NO_CHILDREN_FOR_EPHEMERALS, S_NO_CHILDREN_FOR_EPHEMERALS, E_NODE_EXISTS, S_NODE_EXISTS, E_NOT_EMPTY, S_NOT_EMPTY, F_RUNTIME_INCONSISTENCY_code, F_UNIMPLEMENTED_code, F_BAD_ARGUMENTS_code, F_NO_NODE_code, F_NO_AUTH_code, F_BAD_VERSION_code, F_NO_CHILDREN_FOR_EPHEMERALS_code, F_NODE_EXISTS_code, F_NOT_EMPTY_code, V_VALUES, S_VALUES, E_VALUES⟩ := id HW
  have hx := Bd.exec
  have hby := Bd.bytes
  have hml : c.maxLocals = 0 := hml0
  have hown : s.vm.findClass "com/example/numtick/numtick/protocol/ErrorCode" = some m.cls := findClass_of_methodNamed Bd.named
  have hnm := (name_of_methodNamed Bd.named Bd.method).1
  have X0 : Stand p l e ({ frames := 1, cells := 1, slots := 9, locals := 14 } : Room) s m #[] below meth c s₁ [] 0 0 := Stand.of_body Bd
  have e0 : s₁.heap = h0 := by rw [← hh, Bd.state]; rfl
  have N0 := Fr.nil n0
  have K0 := Keep.refl h0 []
  refine Go.out ?_
  refine Go.st (V' := s₁.setTop (mkF m 0 #[] [])) (fun t k => castTop (ef2 m) k) ?_
  obtain ⟨T1, X1, e1, st1⟩ := getS2 X0 hx hZ hown (host := "") (Or.inl (hw _ (List.mem_of_getElem? (i := 10) rfl))) Via.refl e0 (S_VALUES.ext O0.2) (g := (mkF m 0 #[] [])) rfl (hb hby own_d2_0)
  refine Go.st (V' := T1.setTop (mkF m 3 #[] [(.ref s_VALUES)])) (fun t k => st1 t k) ?_
  obtain ⟨T2, h2, X2, e2, E2, V2, XA2, st2⟩ := cloneH X1 hx hZ hown (hw _ (List.mem_of_getElem? (i := 12) rfl)) (hw _ (List.mem_of_getElem? (i := 13) rfl)) (hw _ (List.mem_of_getElem? (i := 17) rfl)) (hw _ (List.mem_of_getElem? (i := 15) rfl)) (hw _ (List.mem_of_getElem? (i := 16) rfl)) (hw _ (List.mem_of_getElem? (i := 18) rfl)) e1 (Arv.arh (V_VALUES.ext O0.2)) (E_VALUES.ext O0.2) (g := (mkF m 3 #[] [(.ref s_VALUES)])) rfl (by rw [hml]; rfl) rfl (hb hby own_d2_3) (by decide) (W := 0) (cap := 9) (by show 2 * 0 + _ ≤ _; exact Nat.le_of_eq rfl) (by decide) (by decide) (by decide) (by decide)
  obtain ⟨b2, g2⟩ : ∃ z, z = h0.size := ⟨_, rfl⟩
  rw [← g2] at V2 XA2 st2
  have g_b2 : n0 ≤ b2 := Nat.le_trans (Nat.le_trans (Nat.le_of_eq O0.1.symm) O0.2.1) (Nat.le_of_eq g2.symm)
  have sz_b2 : h0.size ≤ b2 := Nat.le_trans K0.1 (Nat.le_of_eq g2.symm)
  have K2 := K0.ext E2
  have O2 := O0.ext E2
  have V2 : Arv Z h2 b2 k_VALUES (.object "com/example/numtick/numtick/protocol/ErrorCode") (9 : Int32) [(.ref s_RUNTIME_INCONSISTENCY), (.ref s_UNIMPLEMENTED), (.ref s_BAD_ARGUMENTS), (.ref s_NO_NODE), (.ref s_NO_AUTH), (.ref s_BAD_VERSION), (.ref s_NO_CHILDREN_FOR_EPHEMERALS), (.ref s_NODE_EXISTS), (.ref s_NOT_EMPTY)] .null := V2
  refine Go.st (V' := T2.setTop (mkF m 6 #[] [(.ref b2)])) (fun t k => st2 t k) ?_
  obtain ⟨T3, X3, e3, st3⟩ := castY X2 hx hZ hown (hw _ (List.mem_of_getElem? (i := 28) rfl)) e2 (Ins.self XA2) (g := (mkF m 6 #[] [(.ref b2)])) rfl rfl (hb hby own_d2_6)
  refine Go.st (V' := T3.setTop (mkF m 9 #[] [(.ref b2)])) (fun t k => st3 t k) ?_
  obtain ⟨fs, hr, hrun, hended, hW, hsame⟩ := X3.leave (v := some (.ref b2)) (fun h => by rw [Bd.returns] at h; cases h)
  refine Go.mk' ⟨_, _, retOut X3 hx Bd.returns rfl (Or.inr (Or.inr (Or.inr (Or.inr ⟨rfl, rfl, rfl⟩)))) (hb hby own_d2_9) hr, hrun, hended, _, _, rfl, ?_, ⟨_, rfl⟩, hW, hsame.mono (by decide) (by decide)⟩
  show Q2 Z s_RUNTIME_INCONSISTENCY s_UNIMPLEMENTED s_BAD_ARGUMENTS s_NO_NODE s_NO_AUTH s_BAD_VERSION s_NO_CHILDREN_FOR_EPHEMERALS s_NODE_EXISTS s_NOT_EMPTY s_VALUES k_VALUES h0 n0 _ T3.heap _
  rw [e3]
  exact ⟨b2, rfl, N0, K2, sz_b2, V2, XA2⟩
theorem own_d1_0 : decode prog_50_method_6_code 0 = .ok (.invokestatic 58, 3) := by decide +kernel
theorem own_pd5 : parseMethodDescriptor "()[Lcom/example/numtick/numtick/protocol/ErrorCode;" = some ⟨[], some (.array (.object "com/example/numtick/numtick/protocol/ErrorCode"))⟩ := by decide +kernel
theorem own_d1_3 : decode prog_50_method_6_code 3 = .ok (.astore_n 1, 1) := by decide +kernel
theorem own_d1_4 : decode prog_50_method_6_code 4 = .ok (.aload_n 1, 1) := by decide +kernel
theorem own_d1_5 : decode prog_50_method_6_code 5 = .ok (.arraylength, 1) := by decide +kernel
theorem own_d1_6 : decode prog_50_method_6_code 6 = .ok (.istore_n 2, 1) := by decide +kernel
theorem own_d1_7 : decode prog_50_method_6_code 7 = .ok (.iconst 0, 1) := by decide +kernel
theorem own_d1_8 : decode prog_50_method_6_code 8 = .ok (.istore_n 3, 1) := by decide +kernel
theorem own_d1_9 : decode prog_50_method_6_code 9 = .ok (.iload_n 3, 1) := by decide +kernel
theorem own_d1_10 : decode prog_50_method_6_code 10 = .ok (.iload_n 2, 1) := by decide +kernel
theorem own_d1_11 : decode prog_50_method_6_code 11 = .ok (.if_icmp .ge 26, 3) := by decide +kernel
theorem own_d1_14 : decode prog_50_method_6_code 14 = .ok (.aload_n 1, 1) := by decide +kernel
theorem own_d1_15 : decode prog_50_method_6_code 15 = .ok (.iload_n 3, 1) := by decide +kernel
theorem own_d1_16 : decode prog_50_method_6_code 16 = .ok (.aaload, 1) := by decide +kernel
theorem own_d1_17 : decode prog_50_method_6_code 17 = .ok (.astore 4, 2) := by decide +kernel
theorem own_d1_19 : decode prog_50_method_6_code 19 = .ok (.aload 4, 2) := by decide +kernel
theorem own_d1_21 : decode prog_50_method_6_code 21 = .ok (.getfield 50, 3) := by decide +kernel
theorem own_d1_24 : decode prog_50_method_6_code 24 = .ok (.iload_n 0, 1) := by decide +kernel
theorem own_d1_25 : decode prog_50_method_6_code 25 = .ok (.if_icmp .ne 6, 3) := by decide +kernel
theorem own_d1_28 : decode prog_50_method_6_code 28 = .ok (.aload 4, 2) := by decide +kernel
theorem own_d1_30 : decode prog_50_method_6_code 30 = .ok (.areturn, 1) := by decide +kernel
theorem own_d1_31 : decode prog_50_method_6_code 31 = .ok (.iinc 3 1, 3) := by decide +kernel
theorem own_d1_34 : decode prog_50_method_6_code 34 = .ok (.goto (-25), 3) := by decide +kernel
theorem ef1 (m : MethodId) (p0 : Int32) : entryFrame m #[(.int p0)] 5 = mkF m 0 #[.val (.int p0), .unset, .unset, .unset, .unset] [] := by first | (simp [entryFrame, mkF, argsToLocals, Value.category]; done) | rfl
def f1 (s_RUNTIME_INCONSISTENCY : Addr) (s_UNIMPLEMENTED : Addr) (s_BAD_ARGUMENTS : Addr) (s_NO_NODE : Addr) (s_NO_AUTH : Addr) (s_BAD_VERSION : Addr) (s_NO_CHILDREN_FOR_EPHEMERALS : Addr) (s_NODE_EXISTS : Addr) (s_NOT_EMPTY : Addr) (p0 : Int32) : Addr := (if (-2 : Int32) = p0 then s_RUNTIME_INCONSISTENCY else (if (-6 : Int32) = p0 then s_UNIMPLEMENTED else (if (-8 : Int32) = p0 then s_BAD_ARGUMENTS else (if (-101 : Int32) = p0 then s_NO_NODE else (if (-102 : Int32) = p0 then s_NO_AUTH else (if (-103 : Int32) = p0 then s_BAD_VERSION else (if (-108 : Int32) = p0 then s_NO_CHILDREN_FOR_EPHEMERALS else (if (-110 : Int32) = p0 then s_NODE_EXISTS else (if (-111 : Int32) = p0 then s_NOT_EMPTY else s_RUNTIME_INCONSISTENCY)))))))))
def Q1 (Z : State) (s_RUNTIME_INCONSISTENCY : Addr) (s_UNIMPLEMENTED : Addr) (s_BAD_ARGUMENTS : Addr) (s_NO_NODE : Addr) (s_NO_AUTH : Addr) (s_BAD_VERSION : Addr) (s_NO_CHILDREN_FOR_EPHEMERALS : Addr) (s_NODE_EXISTS : Addr) (s_NOT_EMPTY : Addr) (p0 : Int32) (h0 : Heap) (n0 : Nat) (v : Option Value) (h : Heap) (L : List Loc) : Prop := v = some (.ref (f1 s_RUNTIME_INCONSISTENCY s_UNIMPLEMENTED s_BAD_ARGUMENTS s_NO_NODE s_NO_AUTH s_BAD_VERSION s_NO_CHILDREN_FOR_EPHEMERALS s_NODE_EXISTS s_NOT_EMPTY p0)) ∧ Fr n0 L ∧ Keep h0 h []
set_option maxRecDepth 65536 in
set_option maxHeartbeats 40000000 in
theorem rm1 (l : Launch) (Z : State) (a0 : Array Value) (hw : ∀ d ∈ tables_1, d.before a0 Z = true) (ws : List Jvm.Cond) (s_RUNTIME_INCONSISTENCY : Addr) (s_UNIMPLEMENTED : Addr) (s_BAD_ARGUMENTS : Addr) (s_NO_NODE : Addr) (s_NO_AUTH : Addr) (s_BAD_VERSION : Addr) (s_NO_CHILDREN_FOR_EPHEMERALS : Addr) (s_NODE_EXISTS : Addr) (s_NOT_EMPTY : Addr) (s_VALUES : Addr) (k_VALUES : ClassId) (HW : W0 Z s_RUNTIME_INCONSISTENCY s_UNIMPLEMENTED s_BAD_ARGUMENTS s_NO_NODE s_NO_AUTH s_BAD_VERSION s_NO_CHILDREN_FOR_EPHEMERALS s_NODE_EXISTS s_NOT_EMPTY s_VALUES k_VALUES) (p0 : Int32) (h0 : Heap) (n0 : Nat) (O0 : Old Z n0 h0) (hp : (-2 : Int32) = p0 ∨ (-6 : Int32) = p0 ∨ (-8 : Int32) = p0 ∨ (-101 : Int32) = p0 ∨ (-102 : Int32) = p0 ∨ (-103 : Int32) = p0 ∨ (-108 : Int32) = p0 ∨ (-110 : Int32) = p0 ∨ (-111 : Int32) = p0) :
    MetFree l (⟨"com/example/numtick/numtick/protocol/ErrorCode", "of", "(I)Lcom/example/numtick/numtick/protocol/ErrorCode;"⟩ : MethodName) (head1 (Jvm.Cond.code (⟨"com/example/numtick/numtick/protocol/ErrorCode", "of", "(I)Lcom/example/numtick/numtick/protocol/ErrorCode;"⟩ : MethodName) prog_50_method_6_code 5 (some (.object "com/example/numtick/numtick/protocol/ErrorCode")) :: ws) ({ frames := 2, cells := 1, slots := 9, locals := 25 } : Room)) (fun a U => a = #[(.int p0)] ∧ Z.Warmed39 U.vm ∧ U.heap = h0) (fun _ _ _ _ _ => True) (fun _ U o U' => ∃ v L, o = .returned v ∧ Q1 Z s_RUNTIME_INCONSISTENCY s_UNIMPLEMENTED s_BAD_ARGUMENTS s_NO_NODE s_NO_AUTH s_BAD_VERSION s_NO_CHILDREN_FOR_EPHEMERALS s_NODE_EXISTS s_NOT_EMPTY p0 h0 n0 v U'.heap L ∧ FrameEnd U o U' L ({ frames := 2, cells := 1, slots := 9, locals := 25 } : Room).cells ({ frames := 2, cells := 1, slots := 9, locals := 25 } : Room).slots) := by
  refine MetFree.of_bodySF (plainFor_of_name own_pn0) hisR ?_
  intro p e s m args below meth c s₁ Bd hml0 hP hK
  obtain ⟨rfl, hZ, hh⟩ := hP
  obtain ⟨E_RUNTIME_INCONSISTENCY, S_RUNTIME_INCONSISTENCY, E_UNIMPLEMENTED, S_UNIMPLEMENTED, E_BAD_ARGUMENTS, S_BAD_ARGUMENTS, E_NO_NODE, S_NO_NODE, E_NO_AUTH, S_NO_AUTH, E_BAD_VERSION, S_BAD_VERSION, E_NO_CHILDREN_FOR_EPHEMERALS, S_NO_CHILDREN_FOR_EPHEMERALS, E_NODE_EXISTS, S_NODE_EXISTS, E_NOT_EMPTY, S_NOT_EMPTY, F_RUNTIME_INCONSISTENCY_code, F_UNIMPLEMENTED_code, F_BAD_ARGUMENTS_code, F_NO_NODE_code, F_NO_AUTH_code, F_BAD_VERSION_code, F_NO_CHILDREN_FOR_EPHEMERALS_code, F_NODE_EXISTS_code, F_NOT_EMPTY_code, V_VALUES, S_VALUES, E_VALUES⟩ := id HW
  have hx := Bd.exec
  have hby := Bd.bytes
  have hml : c.maxLocals = 5 := hml0
  have hown : s.vm.findClass "com/example/numtick/numtick/protocol/ErrorCode" = some m.cls := findClass_of_methodNamed Bd.named
  have hnm := (name_of_methodNamed Bd.named Bd.method).1
  have X0 : Stand p l e ({ frames := 2, cells := 1, slots := 9, locals := 25 } : Room) s m #[(.int p0)] below meth c s₁ [] 0 0 := Stand.of_body Bd
  have e0 : s₁.heap = h0 := by rw [← hh, Bd.state]; rfl
  have N0 := Fr.nil n0
  have K0 := Keep.refl h0 []
  refine Go.out ?_
  refine Go.st (V' := s₁.setTop (mkF m 0 #[.val (.int p0), .unset, .unset, .unset, .unset] [])) (fun t k => castTop (ef1 m p0) k) ?_
  obtain ⟨_, _, ⟨T4, L4, k4, n4⟩, -, X4, ⟨Lc4, hQ4, l4, y4, z4⟩, st4⟩ := Jvm.LawKit.callS X0 hx (y := (⟨"com/example/numtick/numtick/protocol/ErrorCode", "values", "()[Lcom/example/numtick/numtick/protocol/ErrorCode;"⟩ : MethodName)) hown (mvT hZ (hw _ (List.mem_of_getElem? (i := 7) rfl))) (mvT hZ (hw _ (List.mem_of_getElem? (i := 8) rfl))) (mvT hZ (hw _ (List.mem_of_getElem? (i := 2) rfl))) (mvT hZ (hw _ (List.mem_of_getElem? (i := 9) rfl))) (by decide) (backOf (W := 0) (rm2 l Z a0 hw [] s_RUNTIME_INCONSISTENCY s_UNIMPLEMENTED s_BAD_ARGUMENTS s_NO_NODE s_NO_AUTH s_BAD_VERSION s_NO_CHILDREN_FOR_EPHEMERALS s_NODE_EXISTS s_NOT_EMPTY s_VALUES k_VALUES HW h0 n0 O0) hZ (hw _ (List.mem_of_getElem? (i := 9) rfl)) (hw _ (List.mem_of_getElem? (i := 2) rfl)) (by decide) (by decide)) (g := (mkF m 0 #[.val (.int p0), .unset, .unset, .unset, .unset] [])) rfl (by rw [hml]; rfl) (argsL := []) (rest := []) (lenOf own_pd5 rfl) rfl (by show 2 * 0 + _ ≤ _; exact Nat.le_of_eq rfl) (hb hby own_d1_0) (fun _ _ => ⟨rfl, e0, (by decide : 0 + 1 ≤ _), (by decide : 0 + 9 ≤ _)⟩)
  dsimp only [Pt.U, Pt.locs, Pt.cells, Pt.slots] at X4 l4 y4 z4 st4 hQ4
  subst l4 y4 z4
  obtain ⟨b4_y0, rfl, N4q, K4, sz4_y0, f4_0, f4_1⟩ := hQ4
  have N4 := Fr.app N0 N4q
  have O4 := O0.keep K4 all0
  have g_b4_y0 : n0 ≤ b4_y0 := Nat.le_trans (Nat.le_trans (Nat.le_of_eq O0.1.symm) O0.2.1) sz4_y0
  have sz_b4_y0 : h0.size ≤ b4_y0 := Nat.le_trans K0.1 sz4_y0
  have KA4 := K0.trans K4 all0
  refine Go.st (V' := T4.setTop (mkF m 3 #[.val (.int p0), .unset, .unset, .unset, .unset] [(.ref b4_y0)])) (fun t k => st4 t k) ?_
  refine Go.st (V' := T4.setTop (mkF m 5 #[.val (.int p0), .val (.ref b4_y0), .unset, .unset, .unset] [(.ref b4_y0)])) (fun t k => ?_) ?_
  · refine XS.astoreN X4.here hx rfl (hb hby own_d1_3) rfl rfl (l' := #[.val (.int p0), .val (.ref b4_y0), .unset, .unset, .unset]) rfl ?_
    show Steps p.tables e below (T4.setTop (mkF m 4 #[.val (.int p0), .val (.ref b4_y0), .unset, .unset, .unset] [])) _
    refine XS.aloadN X4.here hx rfl (hb hby own_d1_4) rfl rfl ?_
    show Steps p.tables e below (T4.setTop (mkF m 5 #[.val (.int p0), .val (.ref b4_y0), .unset, .unset, .unset] [(.ref b4_y0)])) _
    exact k
  obtain ⟨cl5, Ar5, q5, Sz5, Nn5, Ha5, Ga5⟩ := id (f4_0)
  have Ln5 : cl5.slots.size.toInt32 = (9 : Int32) := len_of Sz5 Nn5
  refine Go.st (V' := T4.setTop (mkF m 16 #[.val (.int p0), .val (.ref b4_y0), .val (.int (9 : Int32)), .val (.int (0 : Int32)), .unset] [(.int (0 : Int32)), (.ref b4_y0)])) (fun t k => ?_) ?_
  · show Steps p.tables e below (T4.setTop (mkF m 5 #[.val (.int p0), .val (.ref b4_y0), .unset, .unset, .unset] [(.ref b4_y0)])) _
    refine X4.arraylength hx (own_eT rfl Ar5) (State.isArrayOf_alike hZ.alike Ar5.2.1) (g := (mkF m 5 #[.val (.int p0), .val (.ref b4_y0), .unset, .unset, .unset] [(.ref b4_y0)])) rfl rfl (hb hby own_d1_5) _ ?_
    rw [Ln5]
    show Steps p.tables e below (T4.setTop (mkF m 6 #[.val (.int p0), .val (.ref b4_y0), .unset, .unset, .unset] [(.int (9 : Int32))])) _
    refine XS.istoreN X4.here hx rfl (hb hby own_d1_6) rfl (l' := #[.val (.int p0), .val (.ref b4_y0), .val (.int (9 : Int32)), .unset, .unset]) rfl ?_
    show Steps p.tables e below (T4.setTop (mkF m 7 #[.val (.int p0), .val (.ref b4_y0), .val (.int (9 : Int32)), .unset, .unset] [])) _
    refine XS.iconst X4.here hx rfl (hb hby own_d1_7) ?_
    show Steps p.tables e below (T4.setTop (mkF m 8 #[.val (.int p0), .val (.ref b4_y0), .val (.int (9 : Int32)), .unset, .unset] [(.int (0 : Int32))])) _
    refine XS.istoreN X4.here hx rfl (hb hby own_d1_8) rfl (l' := #[.val (.int p0), .val (.ref b4_y0), .val (.int (9 : Int32)), .val (.int (0 : Int32)), .unset]) rfl ?_
    show Steps p.tables e below (T4.setTop (mkF m 9 #[.val (.int p0), .val (.ref b4_y0), .val (.int (9 : Int32)), .val (.int (0 : Int32)), .unset] [])) _
    refine XS.iloadN X4.here hx rfl (hb hby own_d1_9) rfl  ?_
    show Steps p.tables e below (T4.setTop (mkF m 10 #[.val (.int p0), .val (.ref b4_y0), .val (.int (9 : Int32)), .val (.int (0 : Int32)), .unset] [(.int (0 : Int32))])) _
    refine XS.iloadN X4.here hx rfl (hb hby own_d1_10) rfl  ?_
    show Steps p.tables e below (T4.setTop (mkF m 11 #[.val (.int p0), .val (.ref b4_y0), .val (.int (9 : Int32)), .val (.int (0 : Int32)), .unset] [(.int (9 : Int32)), (.int (0 : Int32))])) _
    refine XS.icmpNo X4.here hx rfl (hb hby own_d1_11) rfl (tlt (by decide : ((0 : Int32) < (9 : Int32)))).2.1 ?_
    show Steps p.tables e below (T4.setTop (mkF m 14 #[.val (.int p0), .val (.ref b4_y0), .val (.int (9 : Int32)), .val (.int (0 : Int32)), .unset] [])) _
    refine XS.aloadN X4.here hx rfl (hb hby own_d1_14) rfl rfl ?_
    show Steps p.tables e below (T4.setTop (mkF m 15 #[.val (.int p0), .val (.ref b4_y0), .val (.int (9 : Int32)), .val (.int (0 : Int32)), .unset] [(.ref b4_y0)])) _
    refine XS.iloadN X4.here hx rfl (hb hby own_d1_15) rfl  ?_
    show Steps p.tables e below (T4.setTop (mkF m 16 #[.val (.int p0), .val (.ref b4_y0), .val (.int (9 : Int32)), .val (.int (0 : Int32)), .unset] [(.int (0 : Int32)), (.ref b4_y0)])) _
    exact k
  obtain ⟨cl6, Ar6, q6, Sz6, Nn6, Ha6, Ga6⟩ := id (f4_0)
  have hin6 : ¬ ((0 : Int32) < 0 ∨ cl6.slots.size ≤ ((0 : Int32)).toNatClampNeg) := inb_of Sz6 ⟨by decide, by decide⟩
  refine Go.st (V' := T4.setTop (mkF m 21 #[.val (.int p0), .val (.ref b4_y0), .val (.int (9 : Int32)), .val (.int (0 : Int32)), .val (.ref s_RUNTIME_INCONSISTENCY)] [(.ref s_RUNTIME_INCONSISTENCY)])) (fun t k => ?_) ?_
  · show Steps p.tables e below (T4.setTop (mkF m 16 #[.val (.int p0), .val (.ref b4_y0), .val (.int (9 : Int32)), .val (.int (0 : Int32)), .unset] [(.int (0 : Int32)), (.ref b4_y0)])) _
    refine X4.aaload hx (j := (0 : Int32)) (v := (.ref s_RUNTIME_INCONSISTENCY)) (own_eT rfl Ar6) (State.isArrayOf_alike hZ.alike Ar6.2.1) rfl Ar6.2.2 hin6 (Ha6.at hin6 rfl) (g := (mkF m 16 #[.val (.int p0), .val (.ref b4_y0), .val (.int (9 : Int32)), .val (.int (0 : Int32)), .unset] [(.int (0 : Int32)), (.ref b4_y0)])) rfl rfl (hb hby own_d1_16) _ ?_
    show Steps p.tables e below (T4.setTop (mkF m 17 #[.val (.int p0), .val (.ref b4_y0), .val (.int (9 : Int32)), .val (.int (0 : Int32)), .unset] [(.ref s_RUNTIME_INCONSISTENCY)])) _
    refine XS.astore X4.here hx rfl (hb hby own_d1_17) rfl rfl (l' := #[.val (.int p0), .val (.ref b4_y0), .val (.int (9 : Int32)), .val (.int (0 : Int32)), .val (.ref s_RUNTIME_INCONSISTENCY)]) rfl ?_
    show Steps p.tables e below (T4.setTop (mkF m 19 #[.val (.int p0), .val (.ref b4_y0), .val (.int (9 : Int32)), .val (.int (0 : Int32)), .val (.ref s_RUNTIME_INCONSISTENCY)] [])) _
    refine XS.aload X4.here hx rfl (hb hby own_d1_19) rfl rfl ?_
    show Steps p.tables e below (T4.setTop (mkF m 21 #[.val (.int p0), .val (.ref b4_y0), .val (.int (9 : Int32)), .val (.int (0 : Int32)), .val (.ref s_RUNTIME_INCONSISTENCY)] [(.ref s_RUNTIME_INCONSISTENCY)])) _
    exact k
  obtain ⟨T7, X7, e7, st7⟩ := getF X4 hx hZ hown (host := "") (Or.inl (hw _ (List.mem_of_getElem? (i := 30) rfl))) Via.refl rfl (F_RUNTIME_INCONSISTENCY_code.ext O4.2) (g := (mkF m 21 #[.val (.int p0), .val (.ref b4_y0), .val (.int (9 : Int32)), .val (.int (0 : Int32)), .val (.ref s_RUNTIME_INCONSISTENCY)] [(.ref s_RUNTIME_INCONSISTENCY)])) rfl rfl (hb hby own_d1_21)
  refine Go.st (V' := T7.setTop (mkF m 24 #[.val (.int p0), .val (.ref b4_y0), .val (.int (9 : Int32)), .val (.int (0 : Int32)), .val (.ref s_RUNTIME_INCONSISTENCY)] [(.int (-2 : Int32))])) (fun t k => st7 t k) ?_
  refine Go.st (V' := T7.setTop (mkF m 25 #[.val (.int p0), .val (.ref b4_y0), .val (.int (9 : Int32)), .val (.int (0 : Int32)), .val (.ref s_RUNTIME_INCONSISTENCY)] [(.int p0), (.int (-2 : Int32))])) (fun t k => ?_) ?_
  · refine XS.iloadN X7.here hx rfl (hb hby own_d1_24) rfl  ?_
    show Steps p.tables e below (T7.setTop (mkF m 25 #[.val (.int p0), .val (.ref b4_y0), .val (.int (9 : Int32)), .val (.int (0 : Int32)), .val (.ref s_RUNTIME_INCONSISTENCY)] [(.int p0), (.int (-2 : Int32))])) _
    exact k
  by_cases hc8 : (-2 : Int32) = p0
  · refine Go.st (V' := T7.setTop (mkF m 30 #[.val (.int p0), .val (.ref b4_y0), .val (.int (9 : Int32)), .val (.int (0 : Int32)), .val (.ref s_RUNTIME_INCONSISTENCY)] [(.ref s_RUNTIME_INCONSISTENCY)])) (fun t k => ?_) ?_
    · refine XS.icmpNo X7.here hx rfl (hb hby own_d1_25) rfl (teq hc8).2 ?_
      show Steps p.tables e below (T7.setTop (mkF m 28 #[.val (.int p0), .val (.ref b4_y0), .val (.int (9 : Int32)), .val (.int (0 : Int32)), .val (.ref s_RUNTIME_INCONSISTENCY)] [])) _
      refine XS.aload X7.here hx rfl (hb hby own_d1_28) rfl rfl ?_
      show Steps p.tables e below (T7.setTop (mkF m 30 #[.val (.int p0), .val (.ref b4_y0), .val (.int (9 : Int32)), .val (.int (0 : Int32)), .val (.ref s_RUNTIME_INCONSISTENCY)] [(.ref s_RUNTIME_INCONSISTENCY)])) _
      exact k
    obtain ⟨fs, hr, hrun, hended, hW, hsame⟩ := X7.leave (v := some (.ref s_RUNTIME_INCONSISTENCY)) (fun h => by rw [Bd.returns] at h; cases h)
    refine Go.mk' ⟨_, _, retOut X7 hx Bd.returns rfl (Or.inr (Or.inr (Or.inr (Or.inr ⟨rfl, rfl, rfl⟩)))) (hb hby own_d1_30) hr, hrun, hended, _, _, rfl, ?_, ⟨_, rfl⟩, hW, hsame.mono (by decide) (by decide)⟩
    show Q1 Z s_RUNTIME_INCONSISTENCY s_UNIMPLEMENTED s_BAD_ARGUMENTS s_NO_NODE s_NO_AUTH s_BAD_VERSION s_NO_CHILDREN_FOR_EPHEMERALS s_NODE_EXISTS s_NOT_EMPTY p0 h0 n0 _ T7.heap _
    rw [e7]
    exact ⟨(by rw [f1, if_pos hc8]), N4, KA4⟩
  · refine Go.st (V' := T7.setTop (mkF m 16 #[.val (.int p0), .val (.ref b4_y0), .val (.int (9 : Int32)), .val (.int ((0 : Int32) + (1 : Int32))), .val (.ref s_RUNTIME_INCONSISTENCY)] [(.int ((0 : Int32) + (1 : Int32))), (.ref b4_y0)])) (fun t k => ?_) ?_
    · refine XS.icmpYes X7.here hx rfl (pc0 := 25) (pc' := 31) rfl (hb hby own_d1_25) rfl (feq hc8).2 (by decide) (by decide) ?_
      show Steps p.tables e below (T7.setTop (mkF m 31 #[.val (.int p0), .val (.ref b4_y0), .val (.int (9 : Int32)), .val (.int (0 : Int32)), .val (.ref s_RUNTIME_INCONSISTENCY)] [])) _
      refine XS.iinc X7.here hx rfl (hb hby own_d1_31) rfl (l' := #[.val (.int p0), .val (.ref b4_y0), .val (.int (9 : Int32)), .val (.int ((0 : Int32) + (1 : Int32))), .val (.ref s_RUNTIME_INCONSISTENCY)]) rfl ?_
      show Steps p.tables e below (T7.setTop (mkF m 34 #[.val (.int p0), .val (.ref b4_y0), .val (.int (9 : Int32)), .val (.int ((0 : Int32) + (1 : Int32))), .val (.ref s_RUNTIME_INCONSISTENCY)] [])) _
      refine XS.goto X7.here hx rfl (pc0 := 34) (pc' := 9) rfl (hb hby own_d1_34) (by decide) (by decide) ?_
      show Steps p.tables e below (T7.setTop (mkF m 9 #[.val (.int p0), .val (.ref b4_y0), .val (.int (9 : Int32)), .val (.int ((0 : Int32) + (1 : Int32))), .val (.ref s_RUNTIME_INCONSISTENCY)] [])) _
      refine XS.iloadN X7.here hx rfl (hb hby own_d1_9) rfl  ?_
      show Steps p.tables e below (T7.setTop (mkF m 10 #[.val (.int p0), .val (.ref b4_y0), .val (.int (9 : Int32)), .val (.int ((0 : Int32) + (1 : Int32))), .val (.ref s_RUNTIME_INCONSISTENCY)] [(.int ((0 : Int32) + (1 : Int32)))])) _
      refine XS.iloadN X7.here hx rfl (hb hby own_d1_10) rfl  ?_
      show Steps p.tables e below (T7.setTop (mkF m 11 #[.val (.int p0), .val (.ref b4_y0), .val (.int (9 : Int32)), .val (.int ((0 : Int32) + (1 : Int32))), .val (.ref s_RUNTIME_INCONSISTENCY)] [(.int (9 : Int32)), (.int ((0 : Int32) + (1 : Int32)))])) _
      refine XS.icmpNo X7.here hx rfl (hb hby own_d1_11) rfl (tlt (by decide : (((0 : Int32) + (1 : Int32)) < (9 : Int32)))).2.1 ?_
      show Steps p.tables e below (T7.setTop (mkF m 14 #[.val (.int p0), .val (.ref b4_y0), .val (.int (9 : Int32)), .val (.int ((0 : Int32) + (1 : Int32))), .val (.ref s_RUNTIME_INCONSISTENCY)] [])) _
      refine XS.aloadN X7.here hx rfl (hb hby own_d1_14) rfl rfl ?_
      show Steps p.tables e below (T7.setTop (mkF m 15 #[.val (.int p0), .val (.ref b4_y0), .val (.int (9 : Int32)), .val (.int ((0 : Int32) + (1 : Int32))), .val (.ref s_RUNTIME_INCONSISTENCY)] [(.ref b4_y0)])) _
      refine XS.iloadN X7.here hx rfl (hb hby own_d1_15) rfl  ?_
      show Steps p.tables e below (T7.setTop (mkF m 16 #[.val (.int p0), .val (.ref b4_y0), .val (.int (9 : Int32)), .val (.int ((0 : Int32) + (1 : Int32))), .val (.ref s_RUNTIME_INCONSISTENCY)] [(.int ((0 : Int32) + (1 : Int32))), (.ref b4_y0)])) _
      exact k
    obtain ⟨cl9, Ar9, q9, Sz9, Nn9, Ha9, Ga9⟩ := id (f4_0)
    have hin9 : ¬ (((0 : Int32) + (1 : Int32)) < 0 ∨ cl9.slots.size ≤ (((0 : Int32) + (1 : Int32))).toNatClampNeg) := inb_of Sz9 ⟨by decide, by decide⟩
    refine Go.st (V' := T7.setTop (mkF m 21 #[.val (.int p0), .val (.ref b4_y0), .val (.int (9 : Int32)), .val (.int ((0 : Int32) + (1 : Int32))), .val (.ref s_UNIMPLEMENTED)] [(.ref s_UNIMPLEMENTED)])) (fun t k => ?_) ?_
    · show Steps p.tables e below (T7.setTop (mkF m 16 #[.val (.int p0), .val (.ref b4_y0), .val (.int (9 : Int32)), .val (.int ((0 : Int32) + (1 : Int32))), .val (.ref s_RUNTIME_INCONSISTENCY)] [(.int ((0 : Int32) + (1 : Int32))), (.ref b4_y0)])) _
      refine X7.aaload hx (j := ((0 : Int32) + (1 : Int32))) (v := (.ref s_UNIMPLEMENTED)) (own_eT e7 Ar9) (State.isArrayOf_alike hZ.alike Ar9.2.1) rfl Ar9.2.2 hin9 (Ha9.at hin9 rfl) (g := (mkF m 16 #[.val (.int p0), .val (.ref b4_y0), .val (.int (9 : Int32)), .val (.int ((0 : Int32) + (1 : Int32))), .val (.ref s_RUNTIME_INCONSISTENCY)] [(.int ((0 : Int32) + (1 : Int32))), (.ref b4_y0)])) rfl rfl (hb hby own_d1_16) _ ?_
      show Steps p.tables e below (T7.setTop (mkF m 17 #[.val (.int p0), .val (.ref b4_y0), .val (.int (9 : Int32)), .val (.int ((0 : Int32) + (1 : Int32))), .val (.ref s_RUNTIME_INCONSISTENCY)] [(.ref s_UNIMPLEMENTED)])) _
      refine XS.astore X7.here hx rfl (hb hby own_d1_17) rfl rfl (l' := #[.val (.int p0), .val (.ref b4_y0), .val (.int (9 : Int32)), .val (.int ((0 : Int32) + (1 : Int32))), .val (.ref s_UNIMPLEMENTED)]) rfl ?_
      show Steps p.tables e below (T7.setTop (mkF m 19 #[.val (.int p0), .val (.ref b4_y0), .val (.int (9 : Int32)), .val (.int ((0 : Int32) + (1 : Int32))), .val (.ref s_UNIMPLEMENTED)] [])) _
      refine XS.aload X7.here hx rfl (hb hby own_d1_19) rfl rfl ?_
      show Steps p.tables e below (T7.setTop (mkF m 21 #[.val (.int p0), .val (.ref b4_y0), .val (.int (9 : Int32)), .val (.int ((0 : Int32) + (1 : Int32))), .val (.ref s_UNIMPLEMENTED)] [(.ref s_UNIMPLEMENTED)])) _
      exact k
    obtain ⟨T10, X10, e10, st10⟩ := getF X7 hx hZ hown (host := "") (Or.inl (hw _ (List.mem_of_getElem? (i := 30) rfl))) Via.refl e7 (F_UNIMPLEMENTED_code.ext O4.2) (g := (mkF m 21 #[.val (.int p0), .val (.ref b4_y0), .val (.int (9 : Int32)), .val (.int ((0 : Int32) + (1 : Int32))), .val (.ref s_UNIMPLEMENTED)] [(.ref s_UNIMPLEMENTED)])) rfl rfl (hb hby own_d1_21)
    refine Go.st (V' := T10.setTop (mkF m 24 #[.val (.int p0), .val (.ref b4_y0), .val (.int (9 : Int32)), .val (.int ((0 : Int32) + (1 : Int32))), .val (.ref s_UNIMPLEMENTED)] [(.int (-6 : Int32))])) (fun t k => st10 t k) ?_
    refine Go.st (V' := T10.setTop (mkF m 25 #[.val (.int p0), .val (.ref b4_y0), .val (.int (9 : Int32)), .val (.int ((0 : Int32) + (1 : Int32))), .val (.ref s_UNIMPLEMENTED)] [(.int p0), (.int (-6 : Int32))])) (fun t k => ?_) ?_
    · refine XS.iloadN X10.here hx rfl (hb hby own_d1_24) rfl  ?_
      show Steps p.tables e below (T10.setTop (mkF m 25 #[.val (.int p0), .val (.ref b4_y0), .val (.int (9 : Int32)), .val (.int ((0 : Int32) + (1 : Int32))), .val (.ref s_UNIMPLEMENTED)] [(.int p0), (.int (-6 : Int32))])) _
      exact k
    by_cases hc11 : (-6 : Int32) = p0
    · refine Go.st (V' := T10.setTop (mkF m 30 #[.val (.int p0), .val (.ref b4_y0), .val (.int (9 : Int32)), .val (.int ((0 : Int32) + (1 : Int32))), .val (.ref s_UNIMPLEMENTED)] [(.ref s_UNIMPLEMENTED)])) (fun t k => ?_) ?_
      · refine XS.icmpNo X10.here hx rfl (hb hby own_d1_25) rfl (teq hc11).2 ?_
        show Steps p.tables e below (T10.setTop (mkF m 28 #[.val (.int p0), .val (.ref b4_y0), .val (.int (9 : Int32)), .val (.int ((0 : Int32) + (1 : Int32))), .val (.ref s_UNIMPLEMENTED)] [])) _
        refine XS.aload X10.here hx rfl (hb hby own_d1_28) rfl rfl ?_
        show Steps p.tables e below (T10.setTop (mkF m 30 #[.val (.int p0), .val (.ref b4_y0), .val (.int (9 : Int32)), .val (.int ((0 : Int32) + (1 : Int32))), .val (.ref s_UNIMPLEMENTED)] [(.ref s_UNIMPLEMENTED)])) _
        exact k
      obtain ⟨fs, hr, hrun, hended, hW, hsame⟩ := X10.leave (v := some (.ref s_UNIMPLEMENTED)) (fun h => by rw [Bd.returns] at h; cases h)
      refine Go.mk' ⟨_, _, retOut X10 hx Bd.returns rfl (Or.inr (Or.inr (Or.inr (Or.inr ⟨rfl, rfl, rfl⟩)))) (hb hby own_d1_30) hr, hrun, hended, _, _, rfl, ?_, ⟨_, rfl⟩, hW, hsame.mono (by decide) (by decide)⟩
      show Q1 Z s_RUNTIME_INCONSISTENCY s_UNIMPLEMENTED s_BAD_ARGUMENTS s_NO_NODE s_NO_AUTH s_BAD_VERSION s_NO_CHILDREN_FOR_EPHEMERALS s_NODE_EXISTS s_NOT_EMPTY p0 h0 n0 _ T10.heap _
      rw [e10]
      exact ⟨(by rw [f1, if_neg hc8, if_pos hc11]), N4, KA4⟩
    · refine Go.st (V' := T10.setTop (mkF m 16 #[.val (.int p0), .val (.ref b4_y0), .val (.int (9 : Int32)), .val (.int (((0 : Int32) + (1 : Int32)) + (1 : Int32))), .val (.ref s_UNIMPLEMENTED)] [(.int (((0 : Int32) + (1 : Int32)) + (1 : Int32))), (.ref b4_y0)])) (fun t k => ?_) ?_
      · refine XS.icmpYes X10.here hx rfl (pc0 := 25) (pc' := 31) rfl (hb hby own_d1_25) rfl (feq hc11).2 (by decide) (by decide) ?_
        show Steps p.tables e below (T10.setTop (mkF m 31 #[.val (.int p0), .val (.ref b4_y0), .val (.int (9 : Int32)), .val (.int ((0 : Int32) + (1 : Int32))), .val (.ref s_UNIMPLEMENTED)] [])) _
        refine XS.iinc X10.here hx rfl (hb hby own_d1_31) rfl (l' := #[.val (.int p0), .val (.ref b4_y0), .val (.int (9 : Int32)), .val (.int (((0 : Int32) + (1 : Int32)) + (1 : Int32))), .val (.ref s_UNIMPLEMENTED)]) rfl ?_
        show Steps p.tables e below (T10.setTop (mkF m 34 #[.val (.int p0), .val (.ref b4_y0), .val (.int (9 : Int32)), .val (.int (((0 : Int32) + (1 : Int32)) + (1 : Int32))), .val (.ref s_UNIMPLEMENTED)] [])) _
        refine XS.goto X10.here hx rfl (pc0 := 34) (pc' := 9) rfl (hb hby own_d1_34) (by decide) (by decide) ?_
        show Steps p.tables e below (T10.setTop (mkF m 9 #[.val (.int p0), .val (.ref b4_y0), .val (.int (9 : Int32)), .val (.int (((0 : Int32) + (1 : Int32)) + (1 : Int32))), .val (.ref s_UNIMPLEMENTED)] [])) _
        refine XS.iloadN X10.here hx rfl (hb hby own_d1_9) rfl  ?_
        show Steps p.tables e below (T10.setTop (mkF m 10 #[.val (.int p0), .val (.ref b4_y0), .val (.int (9 : Int32)), .val (.int (((0 : Int32) + (1 : Int32)) + (1 : Int32))), .val (.ref s_UNIMPLEMENTED)] [(.int (((0 : Int32) + (1 : Int32)) + (1 : Int32)))])) _
        refine XS.iloadN X10.here hx rfl (hb hby own_d1_10) rfl  ?_
        show Steps p.tables e below (T10.setTop (mkF m 11 #[.val (.int p0), .val (.ref b4_y0), .val (.int (9 : Int32)), .val (.int (((0 : Int32) + (1 : Int32)) + (1 : Int32))), .val (.ref s_UNIMPLEMENTED)] [(.int (9 : Int32)), (.int (((0 : Int32) + (1 : Int32)) + (1 : Int32)))])) _
        refine XS.icmpNo X10.here hx rfl (hb hby own_d1_11) rfl (tlt (by decide : ((((0 : Int32) + (1 : Int32)) + (1 : Int32)) < (9 : Int32)))).2.1 ?_
        show Steps p.tables e below (T10.setTop (mkF m 14 #[.val (.int p0), .val (.ref b4_y0), .val (.int (9 : Int32)), .val (.int (((0 : Int32) + (1 : Int32)) + (1 : Int32))), .val (.ref s_UNIMPLEMENTED)] [])) _
        refine XS.aloadN X10.here hx rfl (hb hby own_d1_14) rfl rfl ?_
        show Steps p.tables e below (T10.setTop (mkF m 15 #[.val (.int p0), .val (.ref b4_y0), .val (.int (9 : Int32)), .val (.int (((0 : Int32) + (1 : Int32)) + (1 : Int32))), .val (.ref s_UNIMPLEMENTED)] [(.ref b4_y0)])) _
        refine XS.iloadN X10.here hx rfl (hb hby own_d1_15) rfl  ?_
        show Steps p.tables e below (T10.setTop (mkF m 16 #[.val (.int p0), .val (.ref b4_y0), .val (.int (9 : Int32)), .val (.int (((0 : Int32) + (1 : Int32)) + (1 : Int32))), .val (.ref s_UNIMPLEMENTED)] [(.int (((0 : Int32) + (1 : Int32)) + (1 : Int32))), (.ref b4_y0)])) _
        exact k
      obtain ⟨cl12, Ar12, q12, Sz12, Nn12, Ha12, Ga12⟩ := id (f4_0)
      have hin12 : ¬ ((((0 : Int32) + (1 : Int32)) + (1 : Int32)) < 0 ∨ cl12.slots.size ≤ ((((0 : Int32) + (1 : Int32)) + (1 : Int32))).toNatClampNeg) := inb_of Sz12 ⟨by decide, by decide⟩
      refine Go.st (V' := T10.setTop (mkF m 21 #[.val (.int p0), .val (.ref b4_y0), .val (.int (9 : Int32)), .val (.int (((0 : Int32) + (1 : Int32)) + (1 : Int32))), .val (.ref s_BAD_ARGUMENTS)] [(.ref s_BAD_ARGUMENTS)])) (fun t k => ?_) ?_
      · show Steps p.tables e below (T10.setTop (mkF m 16 #[.val (.int p0), .val (.ref b4_y0), .val (.int (9 : Int32)), .val (.int (((0 : Int32) + (1 : Int32)) + (1 : Int32))), .val (.ref s_UNIMPLEMENTED)] [(.int (((0 : Int32) + (1 : Int32)) + (1 : Int32))), (.ref b4_y0)])) _
        refine X10.aaload hx (j := (((0 : Int32) + (1 : Int32)) + (1 : Int32))) (v := (.ref s_BAD_ARGUMENTS)) (own_eT e10 Ar12) (State.isArrayOf_alike hZ.alike Ar12.2.1) rfl Ar12.2.2 hin12 (Ha12.at hin12 rfl) (g := (mkF m 16 #[.val (.int p0), .val (.ref b4_y0), .val (.int (9 : Int32)), .val (.int (((0 : Int32) + (1 : Int32)) + (1 : Int32))), .val (.ref s_UNIMPLEMENTED)] [(.int (((0 : Int32) + (1 : Int32)) + (1 : Int32))), (.ref b4_y0)])) rfl rfl (hb hby own_d1_16) _ ?_
        show Steps p.tables e below (T10.setTop (mkF m 17 #[.val (.int p0), .val (.ref b4_y0), .val (.int (9 : Int32)), .val (.int (((0 : Int32) + (1 : Int32)) + (1 : Int32))), .val (.ref s_UNIMPLEMENTED)] [(.ref s_BAD_ARGUMENTS)])) _
        refine XS.astore X10.here hx rfl (hb hby own_d1_17) rfl rfl (l' := #[.val (.int p0), .val (.ref b4_y0), .val (.int (9 : Int32)), .val (.int (((0 : Int32) + (1 : Int32)) + (1 : Int32))), .val (.ref s_BAD_ARGUMENTS)]) rfl ?_
        show Steps p.tables e below (T10.setTop (mkF m 19 #[.val (.int p0), .val (.ref b4_y0), .val (.int (9 : Int32)), .val (.int (((0 : Int32) + (1 : Int32)) + (1 : Int32))), .val (.ref s_BAD_ARGUMENTS)] [])) _
        refine XS.aload X10.here hx rfl (hb hby own_d1_19) rfl rfl ?_
        show Steps p.tables e below (T10.setTop (mkF m 21 #[.val (.int p0), .val (.ref b4_y0), .val (.int (9 : Int32)), .val (.int (((0 : Int32) + (1 : Int32)) + (1 : Int32))), .val (.ref s_BAD_ARGUMENTS)] [(.ref s_BAD_ARGUMENTS)])) _
        exact k
      obtain ⟨T13, X13, e13, st13⟩ := getF X10 hx hZ hown (host := "") (Or.inl (hw _ (List.mem_of_getElem? (i := 30) rfl))) Via.refl e10 (F_BAD_ARGUMENTS_code.ext O4.2) (g := (mkF m 21 #[.val (.int p0), .val (.ref b4_y0), .val (.int (9 : Int32)), .val (.int (((0 : Int32) + (1 : Int32)) + (1 : Int32))), .val (.ref s_BAD_ARGUMENTS)] [(.ref s_BAD_ARGUMENTS)])) rfl rfl (hb hby own_d1_21)
      refine Go.st (V' := T13.setTop (mkF m 24 #[.val (.int p0), .val (.ref b4_y0), .val (.int (9 : Int32)), .val (.int (((0 : Int32) + (1 : Int32)) + (1 : Int32))), .val (.ref s_BAD_ARGUMENTS)] [(.int (-8 : Int32))])) (fun t k => st13 t k) ?_
      refine Go.st (V' := T13.setTop (mkF m 25 #[.val (.int p0), .val (.ref b4_y0), .val (.int (9 : Int32)), .val (.int (((0 : Int32) + (1 : Int32)) + (1 : Int32))), .val (.ref s_BAD_ARGUMENTS)] [(.int p0), (.int (-8 : Int32))])) (fun t k => ?_) ?_
      · refine XS.iloadN X13.here hx rfl (hb hby own_d1_24) rfl  ?_
        show Steps p.tables e below (T13.setTop (mkF m 25 #[.val (.int p0), .val (.ref b4_y0), .val (.int (9 : Int32)), .val (.int (((0 : Int32) + (1 : Int32)) + (1 : Int32))), .val (.ref s_BAD_ARGUMENTS)] [(.int p0), (.int (-8 : Int32))])) _
        exact k
      by_cases hc14 : (-8 : Int32) = p0
      · refine Go.st (V' := T13.setTop (mkF m 30 #[.val (.int p0), .val (.ref b4_y0), .val (.int (9 : Int32)), .val (.int (((0 : Int32) + (1 : Int32)) + (1 : Int32))), .val (.ref s_BAD_ARGUMENTS)] [(.ref s_BAD_ARGUMENTS)])) (fun t k => ?_) ?_
        · refine XS.icmpNo X13.here hx rfl (hb hby own_d1_25) rfl (teq hc14).2 ?_
          show Steps p.tables e below (T13.setTop (mkF m 28 #[.val (.int p0), .val (.ref b4_y0), .val (.int (9 : Int32)), .val (.int (((0 : Int32) + (1 : Int32)) + (1 : Int32))), .val (.ref s_BAD_ARGUMENTS)] [])) _
          refine XS.aload X13.here hx rfl (hb hby own_d1_28) rfl rfl ?_
          show Steps p.tables e below (T13.setTop (mkF m 30 #[.val (.int p0), .val (.ref b4_y0), .val (.int (9 : Int32)), .val (.int (((0 : Int32) + (1 : Int32)) + (1 : Int32))), .val (.ref s_BAD_ARGUMENTS)] [(.ref s_BAD_ARGUMENTS)])) _
          exact k
        obtain ⟨fs, hr, hrun, hended, hW, hsame⟩ := X13.leave (v := some (.ref s_BAD_ARGUMENTS)) (fun h => by rw [Bd.returns] at h; cases h)
        refine Go.mk' ⟨_, _, retOut X13 hx Bd.returns rfl (Or.inr (Or.inr (Or.inr (Or.inr ⟨rfl, rfl, rfl⟩)))) (hb hby own_d1_30) hr, hrun, hended, _, _, rfl, ?_, ⟨_, rfl⟩, hW, hsame.mono (by decide) (by decide)⟩
        show Q1 Z s_RUNTIME_INCONSISTENCY s_UNIMPLEMENTED s_BAD_ARGUMENTS s_NO_NODE s_NO_AUTH s_BAD_VERSION s_NO_CHILDREN_FOR_EPHEMERALS s_NODE_EXISTS s_NOT_EMPTY p0 h0 n0 _ T13.heap _
        rw [e13]
        exact ⟨(by rw [f1, if_neg hc8, if_neg hc11, if_pos hc14]), N4, KA4⟩
      · refine Go.st (V' := T13.setTop (mkF m 16 #[.val (.int p0), .val (.ref b4_y0), .val (.int (9 : Int32)), .val (.int ((((0 : Int32) + (1 : Int32)) + (1 : Int32)) + (1 : Int32))), .val (.ref s_BAD_ARGUMENTS)] [(.int ((((0 : Int32) + (1 : Int32)) + (1 : Int32)) + (1 : Int32))), (.ref b4_y0)])) (fun t k => ?_) ?_
        · refine XS.icmpYes X13.here hx rfl (pc0 := 25) (pc' := 31) rfl (hb hby own_d1_25) rfl (feq hc14).2 (by decide) (by decide) ?_
          show Steps p.tables e below (T13.setTop (mkF m 31 #[.val (.int p0), .val (.ref b4_y0), .val (.int (9 : Int32)), .val (.int (((0 : Int32) + (1 : Int32)) + (1 : Int32))), .val (.ref s_BAD_ARGUMENTS)] [])) _
          refine XS.iinc X13.here hx rfl (hb hby own_d1_31) rfl (l' := #[.val (.int p0), .val (.ref b4_y0), .val (.int (9 : Int32)), .val (.int ((((0 : Int32) + (1 : Int32)) + (1 : Int32)) + (1 : Int32))), .val (.ref s_BAD_ARGUMENTS)]) rfl ?_
          show Steps p.tables e below (T13.setTop (mkF m 34 #[.val (.int p0), .val (.ref b4_y0), .val (.int (9 : Int32)), .val (.int ((((0 : Int32) + (1 : Int32)) + (1 : Int32)) + (1 : Int32))), .val (.ref s_BAD_ARGUMENTS)] [])) _
          refine XS.goto X13.here hx rfl (pc0 := 34) (pc' := 9) rfl (hb hby own_d1_34) (by decide) (by decide) ?_
          show Steps p.tables e below (T13.setTop (mkF m 9 #[.val (.int p0), .val (.ref b4_y0), .val (.int (9 : Int32)), .val (.int ((((0 : Int32) + (1 : Int32)) + (1 : Int32)) + (1 : Int32))), .val (.ref s_BAD_ARGUMENTS)] [])) _
          refine XS.iloadN X13.here hx rfl (hb hby own_d1_9) rfl  ?_
          show Steps p.tables e below (T13.setTop (mkF m 10 #[.val (.int p0), .val (.ref b4_y0), .val (.int (9 : Int32)), .val (.int ((((0 : Int32) + (1 : Int32)) + (1 : Int32)) + (1 : Int32))), .val (.ref s_BAD_ARGUMENTS)] [(.int ((((0 : Int32) + (1 : Int32)) + (1 : Int32)) + (1 : Int32)))])) _
          refine XS.iloadN X13.here hx rfl (hb hby own_d1_10) rfl  ?_
          show Steps p.tables e below (T13.setTop (mkF m 11 #[.val (.int p0), .val (.ref b4_y0), .val (.int (9 : Int32)), .val (.int ((((0 : Int32) + (1 : Int32)) + (1 : Int32)) + (1 : Int32))), .val (.ref s_BAD_ARGUMENTS)] [(.int (9 : Int32)), (.int ((((0 : Int32) + (1 : Int32)) + (1 : Int32)) + (1 : Int32)))])) _
          refine XS.icmpNo X13.here hx rfl (hb hby own_d1_11) rfl (tlt (by decide : (((((0 : Int32) + (1 : Int32)) + (1 : Int32)) + (1 : Int32)) < (9 : Int32)))).2.1 ?_
          show Steps p.tables e below (T13.setTop (mkF m 14 #[.val (.int p0), .val (.ref b4_y0), .val (.int (9 : Int32)), .val (.int ((((0 : Int32) + (1 : Int32)) + (1 : Int32)) + (1 : Int32))), .val (.ref s_BAD_ARGUMENTS)] [])) _
          refine XS.aloadN X13.here hx rfl (hb hby own_d1_14) rfl rfl ?_
          show Steps p.tables e below (T13.setTop (mkF m 15 #[.val (.int p0), .val (.ref b4_y0), .val (.int (9 : Int32)), .val (.int ((((0 : Int32) + (1 : Int32)) + (1 : Int32)) + (1 : Int32))), .val (.ref s_BAD_ARGUMENTS)] [(.ref b4_y0)])) _
          refine XS.iloadN X13.here hx rfl (hb hby own_d1_15) rfl  ?_
          show Steps p.tables e below (T13.setTop (mkF m 16 #[.val (.int p0), .val (.ref b4_y0), .val (.int (9 : Int32)), .val (.int ((((0 : Int32) + (1 : Int32)) + (1 : Int32)) + (1 : Int32))), .val (.ref s_BAD_ARGUMENTS)] [(.int ((((0 : Int32) + (1 : Int32)) + (1 : Int32)) + (1 : Int32))), (.ref b4_y0)])) _
          exact k
        obtain ⟨cl15, Ar15, q15, Sz15, Nn15, Ha15, Ga15⟩ := id (f4_0)
        have hin15 : ¬ (((((0 : Int32) + (1 : Int32)) + (1 : Int32)) + (1 : Int32)) < 0 ∨ cl15.slots.size ≤ (((((0 : Int32) + (1 : Int32)) + (1 : Int32)) + (1 : Int32))).toNatClampNeg) := inb_of Sz15 ⟨by decide, by decide⟩
        refine Go.st (V' := T13.setTop (mkF m 21 #[.val (.int p0), .val (.ref b4_y0), .val (.int (9 : Int32)), .val (.int ((((0 : Int32) + (1 : Int32)) + (1 : Int32)) + (1 : Int32))), .val (.ref s_NO_NODE)] [(.ref s_NO_NODE)])) (fun t k => ?_) ?_
        · show Steps p.tables e below (T13.setTop (mkF m 16 #[.val (.int p0), .val (.ref b4_y0), .val (.int (9 : Int32)), .val (.int ((((0 : Int32) + (1 : Int32)) + (1 : Int32)) + (1 : Int32))), .val (.ref s_BAD_ARGUMENTS)] [(.int ((((0 : Int32) + (1 : Int32)) + (1 : Int32)) + (1 : Int32))), (.ref b4_y0)])) _
          refine X13.aaload hx (j := ((((0 : Int32) + (1 : Int32)) + (1 : Int32)) + (1 : Int32))) (v := (.ref s_NO_NODE)) (own_eT e13 Ar15) (State.isArrayOf_alike hZ.alike Ar15.2.1) rfl Ar15.2.2 hin15 (Ha15.at hin15 rfl) (g := (mkF m 16 #[.val (.int p0), .val (.ref b4_y0), .val (.int (9 : Int32)), .val (.int ((((0 : Int32) + (1 : Int32)) + (1 : Int32)) + (1 : Int32))), .val (.ref s_BAD_ARGUMENTS)] [(.int ((((0 : Int32) + (1 : Int32)) + (1 : Int32)) + (1 : Int32))), (.ref b4_y0)])) rfl rfl (hb hby own_d1_16) _ ?_
          show Steps p.tables e below (T13.setTop (mkF m 17 #[.val (.int p0), .val (.ref b4_y0), .val (.int (9 : Int32)), .val (.int ((((0 : Int32) + (1 : Int32)) + (1 : Int32)) + (1 : Int32))), .val (.ref s_BAD_ARGUMENTS)] [(.ref s_NO_NODE)])) _
          refine XS.astore X13.here hx rfl (hb hby own_d1_17) rfl rfl (l' := #[.val (.int p0), .val (.ref b4_y0), .val (.int (9 : Int32)), .val (.int ((((0 : Int32) + (1 : Int32)) + (1 : Int32)) + (1 : Int32))), .val (.ref s_NO_NODE)]) rfl ?_
          show Steps p.tables e below (T13.setTop (mkF m 19 #[.val (.int p0), .val (.ref b4_y0), .val (.int (9 : Int32)), .val (.int ((((0 : Int32) + (1 : Int32)) + (1 : Int32)) + (1 : Int32))), .val (.ref s_NO_NODE)] [])) _
          refine XS.aload X13.here hx rfl (hb hby own_d1_19) rfl rfl ?_
          show Steps p.tables e below (T13.setTop (mkF m 21 #[.val (.int p0), .val (.ref b4_y0), .val (.int (9 : Int32)), .val (.int ((((0 : Int32) + (1 : Int32)) + (1 : Int32)) + (1 : Int32))), .val (.ref s_NO_NODE)] [(.ref s_NO_NODE)])) _
          exact k
        obtain ⟨T16, X16, e16, st16⟩ := getF X13 hx hZ hown (host := "") (Or.inl (hw _ (List.mem_of_getElem? (i := 30) rfl))) Via.refl e13 (F_NO_NODE_code.ext O4.2) (g := (mkF m 21 #[.val (.int p0), .val (.ref b4_y0), .val (.int (9 : Int32)), .val (.int ((((0 : Int32) + (1 : Int32)) + (1 : Int32)) + (1 : Int32))), .val (.ref s_NO_NODE)] [(.ref s_NO_NODE)])) rfl rfl (hb hby own_d1_21)
        refine Go.st (V' := T16.setTop (mkF m 24 #[.val (.int p0), .val (.ref b4_y0), .val (.int (9 : Int32)), .val (.int ((((0 : Int32) + (1 : Int32)) + (1 : Int32)) + (1 : Int32))), .val (.ref s_NO_NODE)] [(.int (-101 : Int32))])) (fun t k => st16 t k) ?_
        refine Go.st (V' := T16.setTop (mkF m 25 #[.val (.int p0), .val (.ref b4_y0), .val (.int (9 : Int32)), .val (.int ((((0 : Int32) + (1 : Int32)) + (1 : Int32)) + (1 : Int32))), .val (.ref s_NO_NODE)] [(.int p0), (.int (-101 : Int32))])) (fun t k => ?_) ?_
        · refine XS.iloadN X16.here hx rfl (hb hby own_d1_24) rfl  ?_
          show Steps p.tables e below (T16.setTop (mkF m 25 #[.val (.int p0), .val (.ref b4_y0), .val (.int (9 : Int32)), .val (.int ((((0 : Int32) + (1 : Int32)) + (1 : Int32)) + (1 : Int32))), .val (.ref s_NO_NODE)] [(.int p0), (.int (-101 : Int32))])) _
          exact k
        by_cases hc17 : (-101 : Int32) = p0
        · refine Go.st (V' := T16.setTop (mkF m 30 #[.val (.int p0), .val (.ref b4_y0), .val (.int (9 : Int32)), .val (.int ((((0 : Int32) + (1 : Int32)) + (1 : Int32)) + (1 : Int32))), .val (.ref s_NO_NODE)] [(.ref s_NO_NODE)])) (fun t k => ?_) ?_
          · refine XS.icmpNo X16.here hx rfl (hb hby own_d1_25) rfl (teq hc17).2 ?_
            show Steps p.tables e below (T16.setTop (mkF m 28 #[.val (.int p0), .val (.ref b4_y0), .val (.int (9 : Int32)), .val (.int ((((0 : Int32) + (1 : Int32)) + (1 : Int32)) + (1 : Int32))), .val (.ref s_NO_NODE)] [])) _
            refine XS.aload X16.here hx rfl (hb hby own_d1_28) rfl rfl ?_
            show Steps p.tables e below (T16.setTop (mkF m 30 #[.val (.int p0), .val (.ref b4_y0), .val (.int (9 : Int32)), .val (.int ((((0 : Int32) + (1 : Int32)) + (1 : Int32)) + (1 : Int32))), .val (.ref s_NO_NODE)] [(.ref s_NO_NODE)])) _
            exact k
          obtain ⟨fs, hr, hrun, hended, hW, hsame⟩ := X16.leave (v := some (.ref s_NO_NODE)) (fun h => by rw [Bd.returns] at h; cases h)
          refine Go.mk' ⟨_, _, retOut X16 hx Bd.returns rfl (Or.inr (Or.inr (Or.inr (Or.inr ⟨rfl, rfl, rfl⟩)))) (hb hby own_d1_30) hr, hrun, hended, _, _, rfl, ?_, ⟨_, rfl⟩, hW, hsame.mono (by decide) (by decide)⟩
          show Q1 Z s_RUNTIME_INCONSISTENCY s_UNIMPLEMENTED s_BAD_ARGUMENTS s_NO_NODE s_NO_AUTH s_BAD_VERSION s_NO_CHILDREN_FOR_EPHEMERALS s_NODE_EXISTS s_NOT_EMPTY p0 h0 n0 _ T16.heap _
          rw [e16]
          exact ⟨(by rw [f1, if_neg hc8, if_neg hc11, if_neg hc14, if_pos hc17]), N4, KA4⟩
        · refine Go.st (V' := T16.setTop (mkF m 16 #[.val (.int p0), .val (.ref b4_y0), .val (.int (9 : Int32)), .val (.int (((((0 : Int32) + (1 : Int32)) + (1 : Int32)) + (1 : Int32)) + (1 : Int32))), .val (.ref s_NO_NODE)] [(.int (((((0 : Int32) + (1 : Int32)) + (1 : Int32)) + (1 : Int32)) + (1 : Int32))), (.ref b4_y0)])) (fun t k => ?_) ?_
          · refine XS.icmpYes X16.here hx rfl (pc0 := 25) (pc' := 31) rfl (hb hby own_d1_25) rfl (feq hc17).2 (by decide) (by decide) ?_
            show Steps p.tables e below (T16.setTop (mkF m 31 #[.val (.int p0), .val (.ref b4_y0), .val (.int (9 : Int32)), .val (.int ((((0 : Int32) + (1 : Int32)) + (1 : Int32)) + (1 : Int32))), .val (.ref s_NO_NODE)] [])) _
            refine XS.iinc X16.here hx rfl (hb hby own_d1_31) rfl (l' := #[.val (.int p0), .val (.ref b4_y0), .val (.int (9 : Int32)), .val (.int (((((0 : Int32) + (1 : Int32)) + (1 : Int32)) + (1 : Int32)) + (1 : Int32))), .val (.ref s_NO_NODE)]) rfl ?_
            show Steps p.tables e below (T16.setTop (mkF m 34 #[.val (.int p0), .val (.ref b4_y0), .val (.int (9 : Int32)), .val (.int (((((0 : Int32) + (1 : Int32)) + (1 : Int32)) + (1 : Int32)) + (1 : Int32))), .val (.ref s_NO_NODE)] [])) _
            refine XS.goto X16.here hx rfl (pc0 := 34) (pc' := 9) rfl (hb hby own_d1_34) (by decide) (by decide) ?_
            show Steps p.tables e below (T16.setTop (mkF m 9 #[.val (.int p0), .val (.ref b4_y0), .val (.int (9 : Int32)), .val (.int (((((0 : Int32) + (1 : Int32)) + (1 : Int32)) + (1 : Int32)) + (1 : Int32))), .val (.ref s_NO_NODE)] [])) _
            refine XS.iloadN X16.here hx rfl (hb hby own_d1_9) rfl  ?_
            show Steps p.tables e below (T16.setTop (mkF m 10 #[.val (.int p0), .val (.ref b4_y0), .val (.int (9 : Int32)), .val (.int (((((0 : Int32) + (1 : Int32)) + (1 : Int32)) + (1 : Int32)) + (1 : Int32))), .val (.ref s_NO_NODE)] [(.int (((((0 : Int32) + (1 : Int32)) + (1 : Int32)) + (1 : Int32)) + (1 : Int32)))])) _
            refine XS.iloadN X16.here hx rfl (hb hby own_d1_10) rfl  ?_
            show Steps p.tables e below (T16.setTop (mkF m 11 #[.val (.int p0), .val (.ref b4_y0), .val (.int (9 : Int32)), .val (.int (((((0 : Int32) + (1 : Int32)) + (1 : Int32)) + (1 : Int32)) + (1 : Int32))), .val (.ref s_NO_NODE)] [(.int (9 : Int32)), (.int (((((0 : Int32) + (1 : Int32)) + (1 : Int32)) + (1 : Int32)) + (1 : Int32)))])) _
            refine XS.icmpNo X16.here hx rfl (hb hby own_d1_11) rfl (tlt (by decide : ((((((0 : Int32) + (1 : Int32)) + (1 : Int32)) + (1 : Int32)) + (1 : Int32)) < (9 : Int32)))).2.1 ?_
            show Steps p.tables e below (T16.setTop (mkF m 14 #[.val (.int p0), .val (.ref b4_y0), .val (.int (9 : Int32)), .val (.int (((((0 : Int32) + (1 : Int32)) + (1 : Int32)) + (1 : Int32)) + (1 : Int32))), .val (.ref s_NO_NODE)] [])) _
            refine XS.aloadN X16.here hx rfl (hb hby own_d1_14) rfl rfl ?_
            show Steps p.tables e below (T16.setTop (mkF m 15 #[.val (.int p0), .val (.ref b4_y0), .val (.int (9 : Int32)), .val (.int (((((0 : Int32) + (1 : Int32)) + (1 : Int32)) + (1 : Int32)) + (1 : Int32))), .val (.ref s_NO_NODE)] [(.ref b4_y0)])) _
            refine XS.iloadN X16.here hx rfl (hb hby own_d1_15) rfl  ?_
            show Steps p.tables e below (T16.setTop (mkF m 16 #[.val (.int p0), .val (.ref b4_y0), .val (.int (9 : Int32)), .val (.int (((((0 : Int32) + (1 : Int32)) + (1 : Int32)) + (1 : Int32)) + (1 : Int32))), .val (.ref s_NO_NODE)] [(.int (((((0 : Int32) + (1 : Int32)) + (1 : Int32)) + (1 : Int32)) + (1 : Int32))), (.ref b4_y0)])) _
            exact k
          obtain ⟨cl18, Ar18, q18, Sz18, Nn18, Ha18, Ga18⟩ := id (f4_0)
          have hin18 : ¬ ((((((0 : Int32) + (1 : Int32)) + (1 : Int32)) + (1 : Int32)) + (1 : Int32)) < 0 ∨ cl18.slots.size ≤ ((((((0 : Int32) + (1 : Int32)) + (1 : Int32)) + (1 : Int32)) + (1 : Int32))).toNatClampNeg) := inb_of Sz18 ⟨by decide, by decide⟩
          refine Go.st (V' := T16.setTop (mkF m 21 #[.val (.int p0), .val (.ref b4_y0), .val (.int (9 : Int32)), .val (.int (((((0 : Int32) + (1 : Int32)) + (1 : Int32)) + (1 : Int32)) + (1 : Int32))), .val (.ref s_NO_AUTH)] [(.ref s_NO_AUTH)])) (fun t k => ?_) ?_
          · show Steps p.tables e below (T16.setTop (mkF m 16 #[.val (.int p0), .val (.ref b4_y0), .val (.int (9 : Int32)), .val (.int (((((0 : Int32) + (1 : Int32)) + (1 : Int32)) + (1 : Int32)) + (1 : Int32))), .val (.ref s_NO_NODE)] [(.int (((((0 : Int32) + (1 : Int32)) + (1 : Int32)) + (1 : Int32)) + (1 : Int32))), (.ref b4_y0)])) _
            refine X16.aaload hx (j := (((((0 : Int32) + (1 : Int32)) + (1 : Int32)) + (1 : Int32)) + (1 : Int32))) (v := (.ref s_NO_AUTH)) (own_eT e16 Ar18) (State.isArrayOf_alike hZ.alike Ar18.2.1) rfl Ar18.2.2 hin18 (Ha18.at hin18 rfl) (g := (mkF m 16 #[.val (.int p0), .val (.ref b4_y0), .val (.int (9 : Int32)), .val (.int (((((0 : Int32) + (1 : Int32)) + (1 : Int32)) + (1 : Int32)) + (1 : Int32))), .val (.ref s_NO_NODE)] [(.int (((((0 : Int32) + (1 : Int32)) + (1 : Int32)) + (1 : Int32)) + (1 : Int32))), (.ref b4_y0)])) rfl rfl (hb hby own_d1_16) _ ?_
            show Steps p.tables e below (T16.setTop (mkF m 17 #[.val (.int p0), .val (.ref b4_y0), .val (.int (9 : Int32)), .val (.int (((((0 : Int32) + (1 : Int32)) + (1 : Int32)) + (1 : Int32)) + (1 : Int32))), .val (.ref s_NO_NODE)] [(.ref s_NO_AUTH)])) _
            refine XS.astore X16.here hx rfl (hb hby own_d1_17) rfl rfl (l' := #[.val (.int p0), .val (.ref b4_y0), .val (.int (9 : Int32)), .val (.int (((((0 : Int32) + (1 : Int32)) + (1 : Int32)) + (1 : Int32)) + (1 : Int32))), .val (.ref s_NO_AUTH)]) rfl ?_
            show Steps p.tables e below (T16.setTop (mkF m 19 #[.val (.int p0), .val (.ref b4_y0), .val (.int (9 : Int32)), .val (.int (((((0 : Int32) + (1 : Int32)) + (1 : Int32)) + (1 : Int32)) + (1 : Int32))), .val (.ref s_NO_AUTH)] [])) _
            refine XS.aload X16.here hx rfl (hb hby own_d1_19) rfl rfl ?_
            show Steps p.tables e below (T16.setTop (mkF m 21 #[.val (.int p0), .val (.ref b4_y0), .val (.int (9 : Int32)), .val (.int (((((0 : Int32) + (1 : Int32)) + (1 : Int32)) + (1 : Int32)) + (1 : Int32))), .val (.ref s_NO_AUTH)] [(.ref s_NO_AUTH)])) _
            exact k
          obtain ⟨T19, X19, e19, st19⟩ := getF X16 hx hZ hown (host := "") (Or.inl (hw _ (List.mem_of_getElem? (i := 30) rfl))) Via.refl e16 (F_NO_AUTH_code.ext O4.2) (g := (mkF m 21 #[.val (.int p0), .val (.ref b4_y0), .val (.int (9 : Int32)), .val (.int (((((0 : Int32) + (1 : Int32)) + (1 : Int32)) + (1 : Int32)) + (1 : Int32))), .val (.ref s_NO_AUTH)] [(.ref s_NO_AUTH)])) rfl rfl (hb hby own_d1_21)
          refine Go.st (V' := T19.setTop (mkF m 24 #[.val (.int p0), .val (.ref b4_y0), .val (.int (9 : Int32)), .val (.int (((((0 : Int32) + (1 : Int32)) + (1 : Int32)) + (1 : Int32)) + (1 : Int32))), .val (.ref s_NO_AUTH)] [(.int (-102 : Int32))])) (fun t k => st19 t k) ?_
          refine Go.st (V' := T19.setTop (mkF m 25 #[.val (.int p0), .val (.ref b4_y0), .val (.int (9 : Int32)), .val (.int (((((0 : Int32) + (1 : Int32)) + (1 : Int32)) + (1 : Int32)) + (1 : Int32))), .val (.ref s_NO_AUTH)] [(.int p0), (.int (-102 : Int32))])) (fun t k => ?_) ?_
          · refine XS.iloadN X19.here hx rfl (hb hby own_d1_24) rfl  ?_
            show Steps p.tables e below (T19.setTop (mkF m 25 #[.val (.int p0), .val (.ref b4_y0), .val (.int (9 : Int32)), .val (.int (((((0 : Int32) + (1 : Int32)) + (1 : Int32)) + (1 : Int32)) + (1 : Int32))), .val (.ref s_NO_AUTH)] [(.int p0), (.int (-102 : Int32))])) _
            exact k
          by_cases hc20 : (-102 : Int32) = p0
          · refine Go.st (V' := T19.setTop (mkF m 30 #[.val (.int p0), .val (.ref b4_y0), .val (.int (9 : Int32)), .val (.int (((((0 : Int32) + (1 : Int32)) + (1 : Int32)) + (1 : Int32)) + (1 : Int32))), .val (.ref s_NO_AUTH)] [(.ref s_NO_AUTH)])) (fun t k => ?_) ?_
            · refine XS.icmpNo X19.here hx rfl (hb hby own_d1_25) rfl (teq hc20).2 ?_
              show Steps p.tables e below (T19.setTop (mkF m 28 #[.val (.int p0), .val (.ref b4_y0), .val (.int (9 : Int32)), .val (.int (((((0 : Int32) + (1 : Int32)) + (1 : Int32)) + (1 : Int32)) + (1 : Int32))), .val (.ref s_NO_AUTH)] [])) _
              refine XS.aload X19.here hx rfl (hb hby own_d1_28) rfl rfl ?_
              show Steps p.tables e below (T19.setTop (mkF m 30 #[.val (.int p0), .val (.ref b4_y0), .val (.int (9 : Int32)), .val (.int (((((0 : Int32) + (1 : Int32)) + (1 : Int32)) + (1 : Int32)) + (1 : Int32))), .val (.ref s_NO_AUTH)] [(.ref s_NO_AUTH)])) _
              exact k
            obtain ⟨fs, hr, hrun, hended, hW, hsame⟩ := X19.leave (v := some (.ref s_NO_AUTH)) (fun h => by rw [Bd.returns] at h; cases h)
            refine Go.mk' ⟨_, _, retOut X19 hx Bd.returns rfl (Or.inr (Or.inr (Or.inr (Or.inr ⟨rfl, rfl, rfl⟩)))) (hb hby own_d1_30) hr, hrun, hended, _, _, rfl, ?_, ⟨_, rfl⟩, hW, hsame.mono (by decide) (by decide)⟩
            show Q1 Z s_RUNTIME_INCONSISTENCY s_UNIMPLEMENTED s_BAD_ARGUMENTS s_NO_NODE s_NO_AUTH s_BAD_VERSION s_NO_CHILDREN_FOR_EPHEMERALS s_NODE_EXISTS s_NOT_EMPTY p0 h0 n0 _ T19.heap _
            rw [e19]
            exact ⟨(by rw [f1, if_neg hc8, if_neg hc11, if_neg hc14, if_neg hc17, if_pos hc20]), N4, KA4⟩
          · refine Go.st (V' := T19.setTop (mkF m 16 #[.val (.int p0), .val (.ref b4_y0), .val (.int (9 : Int32)), .val (.int ((((((0 : Int32) + (1 : Int32)) + (1 : Int32)) + (1 : Int32)) + (1 : Int32)) + (1 : Int32))), .val (.ref s_NO_AUTH)] [(.int ((((((0 : Int32) + (1 : Int32)) + (1 : Int32)) + (1 : Int32)) + (1 : Int32)) + (1 : Int32))), (.ref b4_y0)])) (fun t k => ?_) ?_
            · refine XS.icmpYes X19.here hx rfl (pc0 := 25) (pc' := 31) rfl (hb hby own_d1_25) rfl (feq hc20).2 (by decide) (by decide) ?_
              show Steps p.tables e below (T19.setTop (mkF m 31 #[.val (.int p0), .val (.ref b4_y0), .val (.int (9 : Int32)), .val (.int (((((0 : Int32) + (1 : Int32)) + (1 : Int32)) + (1 : Int32)) + (1 : Int32))), .val (.ref s_NO_AUTH)] [])) _
              refine XS.iinc X19.here hx rfl (hb hby own_d1_31) rfl (l' := #[.val (.int p0), .val (.ref b4_y0), .val (.int (9 : Int32)), .val (.int ((((((0 : Int32) + (1 : Int32)) + (1 : Int32)) + (1 : Int32)) + (1 : Int32)) + (1 : Int32))), .val (.ref s_NO_AUTH)]) rfl ?_
              show Steps p.tables e below (T19.setTop (mkF m 34 #[.val (.int p0), .val (.ref b4_y0), .val (.int (9 : Int32)), .val (.int ((((((0 : Int32) + (1 : Int32)) + (1 : Int32)) + (1 : Int32)) + (1 : Int32)) + (1 : Int32))), .val (.ref s_NO_AUTH)] [])) _
              refine XS.goto X19.here hx rfl (pc0 := 34) (pc' := 9) rfl (hb hby own_d1_34) (by decide) (by decide) ?_
              show Steps p.tables e below (T19.setTop (mkF m 9 #[.val (.int p0), .val (.ref b4_y0), .val (.int (9 : Int32)), .val (.int ((((((0 : Int32) + (1 : Int32)) + (1 : Int32)) + (1 : Int32)) + (1 : Int32)) + (1 : Int32))), .val (.ref s_NO_AUTH)] [])) _
              refine XS.iloadN X19.here hx rfl (hb hby own_d1_9) rfl  ?_
              show Steps p.tables e below (T19.setTop (mkF m 10 #[.val (.int p0), .val (.ref b4_y0), .val (.int (9 : Int32)), .val (.int ((((((0 : Int32) + (1 : Int32)) + (1 : Int32)) + (1 : Int32)) + (1 : Int32)) + (1 : Int32))), .val (.ref s_NO_AUTH)] [(.int ((((((0 : Int32) + (1 : Int32)) + (1 : Int32)) + (1 : Int32)) + (1 : Int32)) + (1 : Int32)))])) _
              refine XS.iloadN X19.here hx rfl (hb hby own_d1_10) rfl  ?_
              show Steps p.tables e below (T19.setTop (mkF m 11 #[.val (.int p0), .val (.ref b4_y0), .val (.int (9 : Int32)), .val (.int ((((((0 : Int32) + (1 : Int32)) + (1 : Int32)) + (1 : Int32)) + (1 : Int32)) + (1 : Int32))), .val (.ref s_NO_AUTH)] [(.int (9 : Int32)), (.int ((((((0 : Int32) + (1 : Int32)) + (1 : Int32)) + (1 : Int32)) + (1 : Int32)) + (1 : Int32)))])) _
              refine XS.icmpNo X19.here hx rfl (hb hby own_d1_11) rfl (tlt (by decide : (((((((0 : Int32) + (1 : Int32)) + (1 : Int32)) + (1 : Int32)) + (1 : Int32)) + (1 : Int32)) < (9 : Int32)))).2.1 ?_
              show Steps p.tables e below (T19.setTop (mkF m 14 #[.val (.int p0), .val (.ref b4_y0), .val (.int (9 : Int32)), .val (.int ((((((0 : Int32) + (1 : Int32)) + (1 : Int32)) + (1 : Int32)) + (1 : Int32)) + (1 : Int32))), .val (.ref s_NO_AUTH)] [])) _
              refine XS.aloadN X19.here hx rfl (hb hby own_d1_14) rfl rfl ?_
              show Steps p.tables e below (T19.setTop (mkF m 15 #[.val (.int p0), .val (.ref b4_y0), .val (.int (9 : Int32)), .val (.int ((((((0 : Int32) + (1 : Int32)) + (1 : Int32)) + (1 : Int32)) + (1 : Int32)) + (1 : Int32))), .val (.ref s_NO_AUTH)] [(.ref b4_y0)])) _
              refine XS.iloadN X19.here hx rfl (hb hby own_d1_15) rfl  ?_
              show Steps p.tables e below (T19.setTop (mkF m 16 #[.val (.int p0), .val (.ref b4_y0), .val (.int (9 : Int32)), .val (.int ((((((0 : Int32) + (1 : Int32)) + (1 : Int32)) + (1 : Int32)) + (1 : Int32)) + (1 : Int32))), .val (.ref s_NO_AUTH)] [(.int ((((((0 : Int32) + (1 : Int32)) + (1 : Int32)) + (1 : Int32)) + (1 : Int32)) + (1 : Int32))), (.ref b4_y0)])) _
              exact k
            obtain ⟨cl21, Ar21, q21, Sz21, Nn21, Ha21, Ga21⟩ := id (f4_0)
            have hin21 : ¬ (((((((0 : Int32) + (1 : Int32)) + (1 : Int32)) + (1 : Int32)) + (1 : Int32)) + (1 : Int32)) < 0 ∨ cl21.slots.size ≤ (((((((0 : Int32) + (1 : Int32)) + (1 : Int32)) + (1 : Int32)) + (1 : Int32)) + (1 : Int32))).toNatClampNeg) := inb_of Sz21 ⟨by decide, by decide⟩
            refine Go.st (V' := T19.setTop (mkF m 21 #[.val (.int p0), .val (.ref b4_y0), .val (.int (9 : Int32)), .val (.int ((((((0 : Int32) + (1 : Int32)) + (1 : Int32)) + (1 : Int32)) + (1 : Int32)) + (1 : Int32))), .val (.ref s_BAD_VERSION)] [(.ref s_BAD_VERSION)])) (fun t k => ?_) ?_
            · show Steps p.tables e below (T19.setTop (mkF m 16 #[.val (.int p0), .val (.ref b4_y0), .val (.int (9 : Int32)), .val (.int ((((((0 : Int32) + (1 : Int32)) + (1 : Int32)) + (1 : Int32)) + (1 : Int32)) + (1 : Int32))), .val (.ref s_NO_AUTH)] [(.int ((((((0 : Int32) + (1 : Int32)) + (1 : Int32)) + (1 : Int32)) + (1 : Int32)) + (1 : Int32))), (.ref b4_y0)])) _
              refine X19.aaload hx (j := ((((((0 : Int32) + (1 : Int32)) + (1 : Int32)) + (1 : Int32)) + (1 : Int32)) + (1 : Int32))) (v := (.ref s_BAD_VERSION)) (own_eT e19 Ar21) (State.isArrayOf_alike hZ.alike Ar21.2.1) rfl Ar21.2.2 hin21 (Ha21.at hin21 rfl) (g := (mkF m 16 #[.val (.int p0), .val (.ref b4_y0), .val (.int (9 : Int32)), .val (.int ((((((0 : Int32) + (1 : Int32)) + (1 : Int32)) + (1 : Int32)) + (1 : Int32)) + (1 : Int32))), .val (.ref s_NO_AUTH)] [(.int ((((((0 : Int32) + (1 : Int32)) + (1 : Int32)) + (1 : Int32)) + (1 : Int32)) + (1 : Int32))), (.ref b4_y0)])) rfl rfl (hb hby own_d1_16) _ ?_
              show Steps p.tables e below (T19.setTop (mkF m 17 #[.val (.int p0), .val (.ref b4_y0), .val (.int (9 : Int32)), .val (.int ((((((0 : Int32) + (1 : Int32)) + (1 : Int32)) + (1 : Int32)) + (1 : Int32)) + (1 : Int32))), .val (.ref s_NO_AUTH)] [(.ref s_BAD_VERSION)])) _
              refine XS.astore X19.here hx rfl (hb hby own_d1_17) rfl rfl (l' := #[.val (.int p0), .val (.ref b4_y0), .val (.int (9 : Int32)), .val (.int ((((((0 : Int32) + (1 : Int32)) + (1 : Int32)) + (1 : Int32)) + (1 : Int32)) + (1 : Int32))), .val (.ref s_BAD_VERSION)]) rfl ?_
              show Steps p.tables e below (T19.setTop (mkF m 19 #[.val (.int p0), .val (.ref b4_y0), .val (.int (9 : Int32)), .val (.int ((((((0 : Int32) + (1 : Int32)) + (1 : Int32)) + (1 : Int32)) + (1 : Int32)) + (1 : Int32))), .val (.ref s_BAD_VERSION)] [])) _
              refine XS.aload X19.here hx rfl (hb hby own_d1_19) rfl rfl ?_
              show Steps p.tables e below (T19.setTop (mkF m 21 #[.val (.int p0), .val (.ref b4_y0), .val (.int (9 : Int32)), .val (.int ((((((0 : Int32) + (1 : Int32)) + (1 : Int32)) + (1 : Int32)) + (1 : Int32)) + (1 : Int32))), .val (.ref s_BAD_VERSION)] [(.ref s_BAD_VERSION)])) _
              exact k
            obtain ⟨T22, X22, e22, st22⟩ := getF X19 hx hZ hown (host := "") (Or.inl (hw _ (List.mem_of_getElem? (i := 30) rfl))) Via.refl e19 (F_BAD_VERSION_code.ext O4.2) (g := (mkF m 21 #[.val (.int p0), .val (.ref b4_y0), .val (.int (9 : Int32)), .val (.int ((((((0 : Int32) + (1 : Int32)) + (1 : Int32)) + (1 : Int32)) + (1 : Int32)) + (1 : Int32))), .val (.ref s_BAD_VERSION)] [(.ref s_BAD_VERSION)])) rfl rfl (hb hby own_d1_21)
            refine Go.st (V' := T22.setTop (mkF m 24 #[.val (.int p0), .val (.ref b4_y0), .val (.int (9 : Int32)), .val (.int ((((((0 : Int32) + (1 : Int32)) + (1 : Int32)) + (1 : Int32)) + (1 : Int32)) + (1 : Int32))), .val (.ref s_BAD_VERSION)] [(.int (-103 : Int32))])) (fun t k => st22 t k) ?_
            refine Go.st (V' := T22.setTop (mkF m 25 #[.val (.int p0), .val (.ref b4_y0), .val (.int (9 : Int32)), .val (.int ((((((0 : Int32) + (1 : Int32)) + (1 : Int32)) + (1 : Int32)) + (1 : Int32)) + (1 : Int32))), .val (.ref s_BAD_VERSION)] [(.int p0), (.int (-103 : Int32))])) (fun t k => ?_) ?_
            · refine XS.iloadN X22.here hx rfl (hb hby own_d1_24) rfl  ?_
              show Steps p.tables e below (T22.setTop (mkF m 25 #[.val (.int p0), .val (.ref b4_y0), .val (.int (9 : Int32)), .val (.int ((((((0 : Int32) + (1 : Int32)) + (1 : Int32)) + (1 : Int32)) + (1 : Int32)) + (1 : Int32))), .val (.ref s_BAD_VERSION)] [(.int p0), (.int (-103 : Int32))])) _
              exact k
            by_cases hc23 : (-103 : Int32) = p0
            · refine Go.st (V' := T22.setTop (mkF m 30 #[.val (.int p0), .val (.ref b4_y0), .val (.int (9 : Int32)), .val (.int ((((((0 : Int32) + (1 : Int32)) + (1 : Int32)) + (1 : Int32)) + (1 : Int32)) + (1 : Int32))), .val (.ref s_BAD_VERSION)] [(.ref s_BAD_VERSION)])) (fun t k => ?_) ?_
              · refine XS.icmpNo X22.here hx rfl (hb hby own_d1_25) rfl (teq hc23).2 ?_
                show Steps p.tables e below (T22.setTop (mkF m 28 #[.val (.int p0), .val (.ref b4_y0), .val (.int (9 : Int32)), .val (.int ((((((0 : Int32) + (1 : Int32)) + (1 : Int32)) + (1 : Int32)) + (1 : Int32)) + (1 : Int32))), .val (.ref s_BAD_VERSION)] [])) _
                refine XS.aload X22.here hx rfl (hb hby own_d1_28) rfl rfl ?_
                show Steps p.tables e below (T22.setTop (mkF m 30 #[.val (.int p0), .val (.ref b4_y0), .val (.int (9 : Int32)), .val (.int ((((((0 : Int32) + (1 : Int32)) + (1 : Int32)) + (1 : Int32)) + (1 : Int32)) + (1 : Int32))), .val (.ref s_BAD_VERSION)] [(.ref s_BAD_VERSION)])) _
                exact k
              obtain ⟨fs, hr, hrun, hended, hW, hsame⟩ := X22.leave (v := some (.ref s_BAD_VERSION)) (fun h => by rw [Bd.returns] at h; cases h)
              refine Go.mk' ⟨_, _, retOut X22 hx Bd.returns rfl (Or.inr (Or.inr (Or.inr (Or.inr ⟨rfl, rfl, rfl⟩)))) (hb hby own_d1_30) hr, hrun, hended, _, _, rfl, ?_, ⟨_, rfl⟩, hW, hsame.mono (by decide) (by decide)⟩
              show Q1 Z s_RUNTIME_INCONSISTENCY s_UNIMPLEMENTED s_BAD_ARGUMENTS s_NO_NODE s_NO_AUTH s_BAD_VERSION s_NO_CHILDREN_FOR_EPHEMERALS s_NODE_EXISTS s_NOT_EMPTY p0 h0 n0 _ T22.heap _
              rw [e22]
              exact ⟨(by rw [f1, if_neg hc8, if_neg hc11, if_neg hc14, if_neg hc17, if_neg hc20, if_pos hc23]), N4, KA4⟩
            · refine Go.st (V' := T22.setTop (mkF m 16 #[.val (.int p0), .val (.ref b4_y0), .val (.int (9 : Int32)), .val (.int (((((((0 : Int32) + (1 : Int32)) + (1 : Int32)) + (1 : Int32)) + (1 : Int32)) + (1 : Int32)) + (1 : Int32))), .val (.ref s_BAD_VERSION)] [(.int (((((((0 : Int32) + (1 : Int32)) + (1 : Int32)) + (1 : Int32)) + (1 : Int32)) + (1 : Int32)) + (1 : Int32))), (.ref b4_y0)])) (fun t k => ?_) ?_
              · refine XS.icmpYes X22.here hx rfl (pc0 := 25) (pc' := 31) rfl (hb hby own_d1_25) rfl (feq hc23).2 (by decide) (by decide) ?_
                show Steps p.tables e below (T22.setTop (mkF m 31 #[.val (.int p0), .val (.ref b4_y0), .val (.int (9 : Int32)), .val (.int ((((((0 : Int32) + (1 : Int32)) + (1 : Int32)) + (1 : Int32)) + (1 : Int32)) + (1 : Int32))), .val (.ref s_BAD_VERSION)] [])) _
                refine XS.iinc X22.here hx rfl (hb hby own_d1_31) rfl (l' := #[.val (.int p0), .val (.ref b4_y0), .val (.int (9 : Int32)), .val (.int (((((((0 : Int32) + (1 : Int32)) + (1 : Int32)) + (1 : Int32)) + (1 : Int32)) + (1 : Int32)) + (1 : Int32))), .val (.ref s_BAD_VERSION)]) rfl ?_
                show Steps p.tables e below (T22.setTop (mkF m 34 #[.val (.int p0), .val (.ref b4_y0), .val (.int (9 : Int32)), .val (.int (((((((0 : Int32) + (1 : Int32)) + (1 : Int32)) + (1 : Int32)) + (1 : Int32)) + (1 : Int32)) + (1 : Int32))), .val (.ref s_BAD_VERSION)] [])) _
                refine XS.goto X22.here hx rfl (pc0 := 34) (pc' := 9) rfl (hb hby own_d1_34) (by decide) (by decide) ?_
                show Steps p.tables e below (T22.setTop (mkF m 9 #[.val (.int p0), .val (.ref b4_y0), .val (.int (9 : Int32)), .val (.int (((((((0 : Int32) + (1 : Int32)) + (1 : Int32)) + (1 : Int32)) + (1 : Int32)) + (1 : Int32)) + (1 : Int32))), .val (.ref s_BAD_VERSION)] [])) _
                refine XS.iloadN X22.here hx rfl (hb hby own_d1_9) rfl  ?_
                show Steps p.tables e below (T22.setTop (mkF m 10 #[.val (.int p0), .val (.ref b4_y0), .val (.int (9 : Int32)), .val (.int (((((((0 : Int32) + (1 : Int32)) + (1 : Int32)) + (1 : Int32)) + (1 : Int32)) + (1 : Int32)) + (1 : Int32))), .val (.ref s_BAD_VERSION)] [(.int (((((((0 : Int32) + (1 : Int32)) + (1 : Int32)) + (1 : Int32)) + (1 : Int32)) + (1 : Int32)) + (1 : Int32)))])) _
                refine XS.iloadN X22.here hx rfl (hb hby own_d1_10) rfl  ?_
                show Steps p.tables e below (T22.setTop (mkF m 11 #[.val (.int p0), .val (.ref b4_y0), .val (.int (9 : Int32)), .val (.int (((((((0 : Int32) + (1 : Int32)) + (1 : Int32)) + (1 : Int32)) + (1 : Int32)) + (1 : Int32)) + (1 : Int32))), .val (.ref s_BAD_VERSION)] [(.int (9 : Int32)), (.int (((((((0 : Int32) + (1 : Int32)) + (1 : Int32)) + (1 : Int32)) + (1 : Int32)) + (1 : Int32)) + (1 : Int32)))])) _
                refine XS.icmpNo X22.here hx rfl (hb hby own_d1_11) rfl (tlt (by decide : ((((((((0 : Int32) + (1 : Int32)) + (1 : Int32)) + (1 : Int32)) + (1 : Int32)) + (1 : Int32)) + (1 : Int32)) < (9 : Int32)))).2.1 ?_
                show Steps p.tables e below (T22.setTop (mkF m 14 #[.val (.int p0), .val (.ref b4_y0), .val (.int (9 : Int32)), .val (.int (((((((0 : Int32) + (1 : Int32)) + (1 : Int32)) + (1 : Int32)) + (1 : Int32)) + (1 : Int32)) + (1 : Int32))), .val (.ref s_BAD_VERSION)] [])) _
                refine XS.aloadN X22.here hx rfl (hb hby own_d1_14) rfl rfl ?_
                show Steps p.tables e below (T22.setTop (mkF m 15 #[.val (.int p0), .val (.ref b4_y0), .val (.int (9 : Int32)), .val (.int (((((((0 : Int32) + (1 : Int32)) + (1 : Int32)) + (1 : Int32)) + (1 : Int32)) + (1 : Int32)) + (1 : Int32))), .val (.ref s_BAD_VERSION)] [(.ref b4_y0)])) _
                refine XS.iloadN X22.here hx rfl (hb hby own_d1_15) rfl  ?_
                show Steps p.tables e below (T22.setTop (mkF m 16 #[.val (.int p0), .val (.ref b4_y0), .val (.int (9 : Int32)), .val (.int (((((((0 : Int32) + (1 : Int32)) + (1 : Int32)) + (1 : Int32)) + (1 : Int32)) + (1 : Int32)) + (1 : Int32))), .val (.ref s_BAD_VERSION)] [(.int (((((((0 : Int32) + (1 : Int32)) + (1 : Int32)) + (1 : Int32)) + (1 : Int32)) + (1 : Int32)) + (1 : Int32))), (.ref b4_y0)])) _
                exact k
              obtain ⟨cl24, Ar24, q24, Sz24, Nn24, Ha24, Ga24⟩ := id (f4_0)
              have hin24 : ¬ ((((((((0 : Int32) + (1 : Int32)) + (1 : Int32)) + (1 : Int32)) + (1 : Int32)) + (1 : Int32)) + (1 : Int32)) < 0 ∨ cl24.slots.size ≤ ((((((((0 : Int32) + (1 : Int32)) + (1 : Int32)) + (1 : Int32)) + (1 : Int32)) + (1 : Int32)) + (1 : Int32))).toNatClampNeg) := inb_of Sz24 ⟨by decide, by decide⟩
              refine Go.st (V' := T22.setTop (mkF m 21 #[.val (.int p0), .val (.ref b4_y0), .val (.int (9 : Int32)), .val (.int (((((((0 : Int32) + (1 : Int32)) + (1 : Int32)) + (1 : Int32)) + (1 : Int32)) + (1 : Int32)) + (1 : Int32))), .val (.ref s_NO_CHILDREN_FOR_EPHEMERALS)] [(.ref s_NO_CHILDREN_FOR_EPHEMERALS)])) (fun t k => ?_) ?_
              · show Steps p.tables e below (T22.setTop (mkF m 16 #[.val (.int p0), .val (.ref b4_y0), .val (.int (9 : Int32)), .val (.int (((((((0 : Int32) + (1 : Int32)) + (1 : Int32)) + (1 : Int32)) + (1 : Int32)) + (1 : Int32)) + (1 : Int32))), .val (.ref s_BAD_VERSION)] [(.int (((((((0 : Int32) + (1 : Int32)) + (1 : Int32)) + (1 : Int32)) + (1 : Int32)) + (1 : Int32)) + (1 : Int32))), (.ref b4_y0)])) _
                refine X22.aaload hx (j := (((((((0 : Int32) + (1 : Int32)) + (1 : Int32)) + (1 : Int32)) + (1 : Int32)) + (1 : Int32)) + (1 : Int32))) (v := (.ref s_NO_CHILDREN_FOR_EPHEMERALS)) (own_eT e22 Ar24) (State.isArrayOf_alike hZ.alike Ar24.2.1) rfl Ar24.2.2 hin24 (Ha24.at hin24 rfl) (g := (mkF m 16 #[.val (.int p0), .val (.ref b4_y0), .val (.int (9 : Int32)), .val (.int (((((((0 : Int32) + (1 : Int32)) + (1 : Int32)) + (1 : Int32)) + (1 : Int32)) + (1 : Int32)) + (1 : Int32))), .val (.ref s_BAD_VERSION)] [(.int (((((((0 : Int32) + (1 : Int32)) + (1 : Int32)) + (1 : Int32)) + (1 : Int32)) + (1 : Int32)) + (1 : Int32))), (.ref b4_y0)])) rfl rfl (hb hby own_d1_16) _ ?_
                show Steps p.tables e below (T22.setTop (mkF m 17 #[.val (.int p0), .val (.ref b4_y0), .val (.int (9 : Int32)), .val (.int (((((((0 : Int32) + (1 : Int32)) + (1 : Int32)) + (1 : Int32)) + (1 : Int32)) + (1 : Int32)) + (1 : Int32))), .val (.ref s_BAD_VERSION)] [(.ref s_NO_CHILDREN_FOR_EPHEMERALS)])) _
                refine XS.astore X22.here hx rfl (hb hby own_d1_17) rfl rfl (l' := #[.val (.int p0), .val (.ref b4_y0), .val (.int (9 : Int32)), .val (.int (((((((0 : Int32) + (1 : Int32)) + (1 : Int32)) + (1 : Int32)) + (1 : Int32)) + (1 : Int32)) + (1 : Int32))), .val (.ref s_NO_CHILDREN_FOR_EPHEMERALS)]) rfl ?_
                show Steps p.tables e below (T22.setTop (mkF m 19 #[.val (.int p0), .val (.ref b4_y0), .val (.int (9 : Int32)), .val (.int (((((((0 : Int32) + (1 : Int32)) + (1 : Int32)) + (1 : Int32)) + (1 : Int32)) + (1 : Int32)) + (1 : Int32))), .val (.ref s_NO_CHILDREN_FOR_EPHEMERALS)] [])) _
                refine XS.aload X22.here hx rfl (hb hby own_d1_19) rfl rfl ?_
                show Steps p.tables e below (T22.setTop (mkF m 21 #[.val (.int p0), .val (.ref b4_y0), .val (.int (9 : Int32)), .val (.int (((((((0 : Int32) + (1 : Int32)) + (1 : Int32)) + (1 : Int32)) + (1 : Int32)) + (1 : Int32)) + (1 : Int32))), .val (.ref s_NO_CHILDREN_FOR_EPHEMERALS)] [(.ref s_NO_CHILDREN_FOR_EPHEMERALS)])) _
                exact k
              obtain ⟨T25, X25, e25, st25⟩ := getF X22 hx hZ hown (host := "") (Or.inl (hw _ (List.mem_of_getElem? (i := 30) rfl))) Via.refl e22 (F_NO_CHILDREN_FOR_EPHEMERALS_code.ext O4.2) (g := (mkF m 21 #[.val (.int p0), .val (.ref b4_y0), .val (.int (9 : Int32)), .val (.int (((((((0 : Int32) + (1 : Int32)) + (1 : Int32)) + (1 : Int32)) + (1 : Int32)) + (1 : Int32)) + (1 : Int32))), .val (.ref s_NO_CHILDREN_FOR_EPHEMERALS)] [(.ref s_NO_CHILDREN_FOR_EPHEMERALS)])) rfl rfl (hb hby own_d1_21)
              refine Go.st (V' := T25.setTop (mkF m 24 #[.val (.int p0), .val (.ref b4_y0), .val (.int (9 : Int32)), .val (.int (((((((0 : Int32) + (1 : Int32)) + (1 : Int32)) + (1 : Int32)) + (1 : Int32)) + (1 : Int32)) + (1 : Int32))), .val (.ref s_NO_CHILDREN_FOR_EPHEMERALS)] [(.int (-108 : Int32))])) (fun t k => st25 t k) ?_
              refine Go.st (V' := T25.setTop (mkF m 25 #[.val (.int p0), .val (.ref b4_y0), .val (.int (9 : Int32)), .val (.int (((((((0 : Int32) + (1 : Int32)) + (1 : Int32)) + (1 : Int32)) + (1 : Int32)) + (1 : Int32)) + (1 : Int32))), .val (.ref s_NO_CHILDREN_FOR_EPHEMERALS)] [(.int p0), (.int (-108 : Int32))])) (fun t k => ?_) ?_
              · refine XS.iloadN X25.here hx rfl (hb hby own_d1_24) rfl  ?_
                show Steps p.tables e below (T25.setTop (mkF m 25 #[.val (.int p0), .val (.ref b4_y0), .val (.int (9 : Int32)), .val (.int (((((((0 : Int32) + (1 : Int32)) + (1 : Int32)) + (1 : Int32)) + (1 : Int32)) + (1 : Int32)) + (1 : Int32))), .val (.ref s_NO_CHILDREN_FOR_EPHEMERALS)] [(.int p0), (.int (-108 : Int32))])) _
                exact k
              by_cases hc26 : (-108 : Int32) = p0
              · refine Go.st (V' := T25.setTop (mkF m 30 #[.val (.int p0), .val (.ref b4_y0), .val (.int (9 : Int32)), .val (.int (((((((0 : Int32) + (1 : Int32)) + (1 : Int32)) + (1 : Int32)) + (1 : Int32)) + (1 : Int32)) + (1 : Int32))), .val (.ref s_NO_CHILDREN_FOR_EPHEMERALS)] [(.ref s_NO_CHILDREN_FOR_EPHEMERALS)])) (fun t k => ?_) ?_
                · refine XS.icmpNo X25.here hx rfl (hb hby own_d1_25) rfl (teq hc26).2 ?_
                  show Steps p.tables e below (T25.setTop (mkF m 28 #[.val (.int p0), .val (.ref b4_y0), .val (.int (9 : Int32)), .val (.int (((((((0 : Int32) + (1 : Int32)) + (1 : Int32)) + (1 : Int32)) + (1 : Int32)) + (1 : Int32)) + (1 : Int32))), .val (.ref s_NO_CHILDREN_FOR_EPHEMERALS)] [])) _
                  refine XS.aload X25.here hx rfl (hb hby own_d1_28) rfl rfl ?_
                  show Steps p.tables e below (T25.setTop (mkF m 30 #[.val (.int p0), .val (.ref b4_y0), .val (.int (9 : Int32)), .val (.int (((((((0 : Int32) + (1 : Int32)) + (1 : Int32)) + (1 : Int32)) + (1 : Int32)) + (1 : Int32)) + (1 : Int32))), .val (.ref s_NO_CHILDREN_FOR_EPHEMERALS)] [(.ref s_NO_CHILDREN_FOR_EPHEMERALS)])) _
                  exact k
                obtain ⟨fs, hr, hrun, hended, hW, hsame⟩ := X25.leave (v := some (.ref s_NO_CHILDREN_FOR_EPHEMERALS)) (fun h => by rw [Bd.returns] at h; cases h)
                refine Go.mk' ⟨_, _, retOut X25 hx Bd.returns rfl (Or.inr (Or.inr (Or.inr (Or.inr ⟨rfl, rfl, rfl⟩)))) (hb hby own_d1_30) hr, hrun, hended, _, _, rfl, ?_, ⟨_, rfl⟩, hW, hsame.mono (by decide) (by decide)⟩
                show Q1 Z s_RUNTIME_INCONSISTENCY s_UNIMPLEMENTED s_BAD_ARGUMENTS s_NO_NODE s_NO_AUTH s_BAD_VERSION s_NO_CHILDREN_FOR_EPHEMERALS s_NODE_EXISTS s_NOT_EMPTY p0 h0 n0 _ T25.heap _
                rw [e25]
                exact ⟨(by rw [f1, if_neg hc8, if_neg hc11, if_neg hc14, if_neg hc17, if_neg hc20, if_neg hc23, if_pos hc26]), N4, KA4⟩
              · refine Go.st (V' := T25.setTop (mkF m 16 #[.val (.int p0), .val (.ref b4_y0), .val (.int (9 : Int32)), .val (.int ((((((((0 : Int32) + (1 : Int32)) + (1 : Int32)) + (1 : Int32)) + (1 : Int32)) + (1 : Int32)) + (1 : Int32)) + (1 : Int32))), .val (.ref s_NO_CHILDREN_FOR_EPHEMERALS)] [(.int ((((((((0 : Int32) + (1 : Int32)) + (1 : Int32)) + (1 : Int32)) + (1 : Int32)) + (1 : Int32)) + (1 : Int32)) + (1 : Int32))), (.ref b4_y0)])) (fun t k => ?_) ?_
                · refine XS.icmpYes X25.here hx rfl (pc0 := 25) (pc' := 31) rfl (hb hby own_d1_25) rfl (feq hc26).2 (by decide) (by decide) ?_
                  show Steps p.tables e below (T25.setTop (mkF m 31 #[.val (.int p0), .val (.ref b4_y0), .val (.int (9 : Int32)), .val (.int (((((((0 : Int32) + (1 : Int32)) + (1 : Int32)) + (1 : Int32)) + (1 : Int32)) + (1 : Int32)) + (1 : Int32))), .val (.ref s_NO_CHILDREN_FOR_EPHEMERALS)] [])) _
                  refine XS.iinc X25.here hx rfl (hb hby own_d1_31) rfl (l' := #[.val (.int p0), .val (.ref b4_y0), .val (.int (9 : Int32)), .val (.int ((((((((0 : Int32) + (1 : Int32)) + (1 : Int32)) + (1 : Int32)) + (1 : Int32)) + (1 : Int32)) + (1 : Int32)) + (1 : Int32))), .val (.ref s_NO_CHILDREN_FOR_EPHEMERALS)]) rfl ?_
                  show Steps p.tables e below (T25.setTop (mkF m 34 #[.val (.int p0), .val (.ref b4_y0), .val (.int (9 : Int32)), .val (.int ((((((((0 : Int32) + (1 : Int32)) + (1 : Int32)) + (1 : Int32)) + (1 : Int32)) + (1 : Int32)) + (1 : Int32)) + (1 : Int32))), .val (.ref s_NO_CHILDREN_FOR_EPHEMERALS)] [])) _
                  refine XS.goto X25.here hx rfl (pc0 := 34) (pc' := 9) rfl (hb hby own_d1_34) (by decide) (by decide) ?_
                  show Steps p.tables e below (T25.setTop (mkF m 9 #[.val (.int p0), .val (.ref b4_y0), .val (.int (9 : Int32)), .val (.int ((((((((0 : Int32) + (1 : Int32)) + (1 : Int32)) + (1 : Int32)) + (1 : Int32)) + (1 : Int32)) + (1 : Int32)) + (1 : Int32))), .val (.ref s_NO_CHILDREN_FOR_EPHEMERALS)] [])) _
                  refine XS.iloadN X25.here hx rfl (hb hby own_d1_9) rfl  ?_
                  show Steps p.tables e below (T25.setTop (mkF m 10 #[.val (.int p0), .val (.ref b4_y0), .val (.int (9 : Int32)), .val (.int ((((((((0 : Int32) + (1 : Int32)) + (1 : Int32)) + (1 : Int32)) + (1 : Int32)) + (1 : Int32)) + (1 : Int32)) + (1 : Int32))), .val (.ref s_NO_CHILDREN_FOR_EPHEMERALS)] [(.int ((((((((0 : Int32) + (1 : Int32)) + (1 : Int32)) + (1 : Int32)) + (1 : Int32)) + (1 : Int32)) + (1 : Int32)) + (1 : Int32)))])) _
                  refine XS.iloadN X25.here hx rfl (hb hby own_d1_10) rfl  ?_
                  show Steps p.tables e below (T25.setTop (mkF m 11 #[.val (.int p0), .val (.ref b4_y0), .val (.int (9 : Int32)), .val (.int ((((((((0 : Int32) + (1 : Int32)) + (1 : Int32)) + (1 : Int32)) + (1 : Int32)) + (1 : Int32)) + (1 : Int32)) + (1 : Int32))), .val (.ref s_NO_CHILDREN_FOR_EPHEMERALS)] [(.int (9 : Int32)), (.int ((((((((0 : Int32) + (1 : Int32)) + (1 : Int32)) + (1 : Int32)) + (1 : Int32)) + (1 : Int32)) + (1 : Int32)) + (1 : Int32)))])) _
                  refine XS.icmpNo X25.here hx rfl (hb hby own_d1_11) rfl (tlt (by decide : (((((((((0 : Int32) + (1 : Int32)) + (1 : Int32)) + (1 : Int32)) + (1 : Int32)) + (1 : Int32)) + (1 : Int32)) + (1 : Int32)) < (9 : Int32)))).2.1 ?_
                  show Steps p.tables e below (T25.setTop (mkF m 14 #[.val (.int p0), .val (.ref b4_y0), .val (.int (9 : Int32)), .val (.int ((((((((0 : Int32) + (1 : Int32)) + (1 : Int32)) + (1 : Int32)) + (1 : Int32)) + (1 : Int32)) + (1 : Int32)) + (1 : Int32))), .val (.ref s_NO_CHILDREN_FOR_EPHEMERALS)] [])) _
                  refine XS.aloadN X25.here hx rfl (hb hby own_d1_14) rfl rfl ?_
                  show Steps p.tables e below (T25.setTop (mkF m 15 #[.val (.int p0), .val (.ref b4_y0), .val (.int (9 : Int32)), .val (.int ((((((((0 : Int32) + (1 : Int32)) + (1 : Int32)) + (1 : Int32)) + (1 : Int32)) + (1 : Int32)) + (1 : Int32)) + (1 : Int32))), .val (.ref s_NO_CHILDREN_FOR_EPHEMERALS)] [(.ref b4_y0)])) _
                  refine XS.iloadN X25.here hx rfl (hb hby own_d1_15) rfl  ?_
                  show Steps p.tables e below (T25.setTop (mkF m 16 #[.val (.int p0), .val (.ref b4_y0), .val (.int (9 : Int32)), .val (.int ((((((((0 : Int32) + (1 : Int32)) + (1 : Int32)) + (1 : Int32)) + (1 : Int32)) + (1 : Int32)) + (1 : Int32)) + (1 : Int32))), .val (.ref s_NO_CHILDREN_FOR_EPHEMERALS)] [(.int ((((((((0 : Int32) + (1 : Int32)) + (1 : Int32)) + (1 : Int32)) + (1 : Int32)) + (1 : Int32)) + (1 : Int32)) + (1 : Int32))), (.ref b4_y0)])) _
                  exact k
                obtain ⟨cl27, Ar27, q27, Sz27, Nn27, Ha27, Ga27⟩ := id (f4_0)
                have hin27 : ¬ (((((((((0 : Int32) + (1 : Int32)) + (1 : Int32)) + (1 : Int32)) + (1 : Int32)) + (1 : Int32)) + (1 : Int32)) + (1 : Int32)) < 0 ∨ cl27.slots.size ≤ (((((((((0 : Int32) + (1 : Int32)) + (1 : Int32)) + (1 : Int32)) + (1 : Int32)) + (1 : Int32)) + (1 : Int32)) + (1 : Int32))).toNatClampNeg) := inb_of Sz27 ⟨by decide, by decide⟩
                refine Go.st (V' := T25.setTop (mkF m 21 #[.val (.int p0), .val (.ref b4_y0), .val (.int (9 : Int32)), .val (.int ((((((((0 : Int32) + (1 : Int32)) + (1 : Int32)) + (1 : Int32)) + (1 : Int32)) + (1 : Int32)) + (1 : Int32)) + (1 : Int32))), .val (.ref s_NODE_EXISTS)] [(.ref s_NODE_EXISTS)])) (fun t k => ?_) ?_
                · show Steps p.tables e below (T25.setTop (mkF m 16 #[.val (.int p0), .val (.ref b4_y0), .val (.int (9 : Int32)), .val (.int ((((((((0 : Int32) + (1 : Int32)) + (1 : Int32)) + (1 : Int32)) + (1 : Int32)) + (1 : Int32)) + (1 : Int32)) + (1 : Int32))), .val (.ref s_NO_CHILDREN_FOR_EPHEMERALS)] [(.int ((((((((0 : Int32) + (1 : Int32)) + (1 : Int32)) + (1 : Int32)) + (1 : Int32)) + (1 : Int32)) + (1 : Int32)) + (1 : Int32))), (.ref b4_y0)])) _
                  refine X25.aaload hx (j := ((((((((0 : Int32) + (1 : Int32)) + (1 : Int32)) + (1 : Int32)) + (1 : Int32)) + (1 : Int32)) + (1 : Int32)) + (1 : Int32))) (v := (.ref s_NODE_EXISTS)) (own_eT e25 Ar27) (State.isArrayOf_alike hZ.alike Ar27.2.1) rfl Ar27.2.2 hin27 (Ha27.at hin27 rfl) (g := (mkF m 16 #[.val (.int p0), .val (.ref b4_y0), .val (.int (9 : Int32)), .val (.int ((((((((0 : Int32) + (1 : Int32)) + (1 : Int32)) + (1 : Int32)) + (1 : Int32)) + (1 : Int32)) + (1 : Int32)) + (1 : Int32))), .val (.ref s_NO_CHILDREN_FOR_EPHEMERALS)] [(.int ((((((((0 : Int32) + (1 : Int32)) + (1 : Int32)) + (1 : Int32)) + (1 : Int32)) + (1 : Int32)) + (1 : Int32)) + (1 : Int32))), (.ref b4_y0)])) rfl rfl (hb hby own_d1_16) _ ?_
                  show Steps p.tables e below (T25.setTop (mkF m 17 #[.val (.int p0), .val (.ref b4_y0), .val (.int (9 : Int32)), .val (.int ((((((((0 : Int32) + (1 : Int32)) + (1 : Int32)) + (1 : Int32)) + (1 : Int32)) + (1 : Int32)) + (1 : Int32)) + (1 : Int32))), .val (.ref s_NO_CHILDREN_FOR_EPHEMERALS)] [(.ref s_NODE_EXISTS)])) _
                  refine XS.astore X25.here hx rfl (hb hby own_d1_17) rfl rfl (l' := #[.val (.int p0), .val (.ref b4_y0), .val (.int (9 : Int32)), .val (.int ((((((((0 : Int32) + (1 : Int32)) + (1 : Int32)) + (1 : Int32)) + (1 : Int32)) + (1 : Int32)) + (1 : Int32)) + (1 : Int32))), .val (.ref s_NODE_EXISTS)]) rfl ?_
                  show Steps p.tables e below (T25.setTop (mkF m 19 #[.val (.int p0), .val (.ref b4_y0), .val (.int (9 : Int32)), .val (.int ((((((((0 : Int32) + (1 : Int32)) + (1 : Int32)) + (1 : Int32)) + (1 : Int32)) + (1 : Int32)) + (1 : Int32)) + (1 : Int32))), .val (.ref s_NODE_EXISTS)] [])) _
                  refine XS.aload X25.here hx rfl (hb hby own_d1_19) rfl rfl ?_
                  show Steps p.tables e below (T25.setTop (mkF m 21 #[.val (.int p0), .val (.ref b4_y0), .val (.int (9 : Int32)), .val (.int ((((((((0 : Int32) + (1 : Int32)) + (1 : Int32)) + (1 : Int32)) + (1 : Int32)) + (1 : Int32)) + (1 : Int32)) + (1 : Int32))), .val (.ref s_NODE_EXISTS)] [(.ref s_NODE_EXISTS)])) _
                  exact k
                obtain ⟨T28, X28, e28, st28⟩ := getF X25 hx hZ hown (host := "") (Or.inl (hw _ (List.mem_of_getElem? (i := 30) rfl))) Via.refl e25 (F_NODE_EXISTS_code.ext O4.2) (g := (mkF m 21 #[.val (.int p0), .val (.ref b4_y0), .val (.int (9 : Int32)), .val (.int ((((((((0 : Int32) + (1 : Int32)) + (1 : Int32)) + (1 : Int32)) + (1 : Int32)) + (1 : Int32)) + (1 : Int32)) + (1 : Int32))), .val (.ref s_NODE_EXISTS)] [(.ref s_NODE_EXISTS)])) rfl rfl (hb hby own_d1_21)
                refine Go.st (V' := T28.setTop (mkF m 24 #[.val (.int p0), .val (.ref b4_y0), .val (.int (9 : Int32)), .val (.int ((((((((0 : Int32) + (1 : Int32)) + (1 : Int32)) + (1 : Int32)) + (1 : Int32)) + (1 : Int32)) + (1 : Int32)) + (1 : Int32))), .val (.ref s_NODE_EXISTS)] [(.int (-110 : Int32))])) (fun t k => st28 t k) ?_
                refine Go.st (V' := T28.setTop (mkF m 25 #[.val (.int p0), .val (.ref b4_y0), .val (.int (9 : Int32)), .val (.int ((((((((0 : Int32) + (1 : Int32)) + (1 : Int32)) + (1 : Int32)) + (1 : Int32)) + (1 : Int32)) + (1 : Int32)) + (1 : Int32))), .val (.ref s_NODE_EXISTS)] [(.int p0), (.int (-110 : Int32))])) (fun t k => ?_) ?_
                · refine XS.iloadN X28.here hx rfl (hb hby own_d1_24) rfl  ?_
                  show Steps p.tables e below (T28.setTop (mkF m 25 #[.val (.int p0), .val (.ref b4_y0), .val (.int (9 : Int32)), .val (.int ((((((((0 : Int32) + (1 : Int32)) + (1 : Int32)) + (1 : Int32)) + (1 : Int32)) + (1 : Int32)) + (1 : Int32)) + (1 : Int32))), .val (.ref s_NODE_EXISTS)] [(.int p0), (.int (-110 : Int32))])) _
                  exact k
                by_cases hc29 : (-110 : Int32) = p0
                · refine Go.st (V' := T28.setTop (mkF m 30 #[.val (.int p0), .val (.ref b4_y0), .val (.int (9 : Int32)), .val (.int ((((((((0 : Int32) + (1 : Int32)) + (1 : Int32)) + (1 : Int32)) + (1 : Int32)) + (1 : Int32)) + (1 : Int32)) + (1 : Int32))), .val (.ref s_NODE_EXISTS)] [(.ref s_NODE_EXISTS)])) (fun t k => ?_) ?_
                  · refine XS.icmpNo X28.here hx rfl (hb hby own_d1_25) rfl (teq hc29).2 ?_
                    show Steps p.tables e below (T28.setTop (mkF m 28 #[.val (.int p0), .val (.ref b4_y0), .val (.int (9 : Int32)), .val (.int ((((((((0 : Int32) + (1 : Int32)) + (1 : Int32)) + (1 : Int32)) + (1 : Int32)) + (1 : Int32)) + (1 : Int32)) + (1 : Int32))), .val (.ref s_NODE_EXISTS)] [])) _
                    refine XS.aload X28.here hx rfl (hb hby own_d1_28) rfl rfl ?_
                    show Steps p.tables e below (T28.setTop (mkF m 30 #[.val (.int p0), .val (.ref b4_y0), .val (.int (9 : Int32)), .val (.int ((((((((0 : Int32) + (1 : Int32)) + (1 : Int32)) + (1 : Int32)) + (1 : Int32)) + (1 : Int32)) + (1 : Int32)) + (1 : Int32))), .val (.ref s_NODE_EXISTS)] [(.ref s_NODE_EXISTS)])) _
                    exact k
                  obtain ⟨fs, hr, hrun, hended, hW, hsame⟩ := X28.leave (v := some (.ref s_NODE_EXISTS)) (fun h => by rw [Bd.returns] at h; cases h)
                  refine Go.mk' ⟨_, _, retOut X28 hx Bd.returns rfl (Or.inr (Or.inr (Or.inr (Or.inr ⟨rfl, rfl, rfl⟩)))) (hb hby own_d1_30) hr, hrun, hended, _, _, rfl, ?_, ⟨_, rfl⟩, hW, hsame.mono (by decide) (by decide)⟩
                  show Q1 Z s_RUNTIME_INCONSISTENCY s_UNIMPLEMENTED s_BAD_ARGUMENTS s_NO_NODE s_NO_AUTH s_BAD_VERSION s_NO_CHILDREN_FOR_EPHEMERALS s_NODE_EXISTS s_NOT_EMPTY p0 h0 n0 _ T28.heap _
                  rw [e28]
                  exact ⟨(by rw [f1, if_neg hc8, if_neg hc11, if_neg hc14, if_neg hc17, if_neg hc20, if_neg hc23, if_neg hc26, if_pos hc29]), N4, KA4⟩
                · refine Go.st (V' := T28.setTop (mkF m 16 #[.val (.int p0), .val (.ref b4_y0), .val (.int (9 : Int32)), .val (.int (((((((((0 : Int32) + (1 : Int32)) + (1 : Int32)) + (1 : Int32)) + (1 : Int32)) + (1 : Int32)) + (1 : Int32)) + (1 : Int32)) + (1 : Int32))), .val (.ref s_NODE_EXISTS)] [(.int (((((((((0 : Int32) + (1 : Int32)) + (1 : Int32)) + (1 : Int32)) + (1 : Int32)) + (1 : Int32)) + (1 : Int32)) + (1 : Int32)) + (1 : Int32))), (.ref b4_y0)])) (fun t k => ?_) ?_
                  · refine XS.icmpYes X28.here hx rfl (pc0 := 25) (pc' := 31) rfl (hb hby own_d1_25) rfl (feq hc29).2 (by decide) (by decide) ?_
                    show Steps p.tables e below (T28.setTop (mkF m 31 #[.val (.int p0), .val (.ref b4_y0), .val (.int (9 : Int32)), .val (.int ((((((((0 : Int32) + (1 : Int32)) + (1 : Int32)) + (1 : Int32)) + (1 : Int32)) + (1 : Int32)) + (1 : Int32)) + (1 : Int32))), .val (.ref s_NODE_EXISTS)] [])) _
                    refine XS.iinc X28.here hx rfl (hb hby own_d1_31) rfl (l' := #[.val (.int p0), .val (.ref b4_y0), .val (.int (9 : Int32)), .val (.int (((((((((0 : Int32) + (1 : Int32)) + (1 : Int32)) + (1 : Int32)) + (1 : Int32)) + (1 : Int32)) + (1 : Int32)) + (1 : Int32)) + (1 : Int32))), .val (.ref s_NODE_EXISTS)]) rfl ?_
                    show Steps p.tables e below (T28.setTop (mkF m 34 #[.val (.int p0), .val (.ref b4_y0), .val (.int (9 : Int32)), .val (.int (((((((((0 : Int32) + (1 : Int32)) + (1 : Int32)) + (1 : Int32)) + (1 : Int32)) + (1 : Int32)) + (1 : Int32)) + (1 : Int32)) + (1 : Int32))), .val (.ref s_NODE_EXISTS)] [])) _
                    refine XS.goto X28.here hx rfl (pc0 := 34) (pc' := 9) rfl (hb hby own_d1_34) (by decide) (by decide) ?_
                    show Steps p.tables e below (T28.setTop (mkF m 9 #[.val (.int p0), .val (.ref b4_y0), .val (.int (9 : Int32)), .val (.int (((((((((0 : Int32) + (1 : Int32)) + (1 : Int32)) + (1 : Int32)) + (1 : Int32)) + (1 : Int32)) + (1 : Int32)) + (1 : Int32)) + (1 : Int32))), .val (.ref s_NODE_EXISTS)] [])) _
                    refine XS.iloadN X28.here hx rfl (hb hby own_d1_9) rfl  ?_
                    show Steps p.tables e below (T28.setTop (mkF m 10 #[.val (.int p0), .val (.ref b4_y0), .val (.int (9 : Int32)), .val (.int (((((((((0 : Int32) + (1 : Int32)) + (1 : Int32)) + (1 : Int32)) + (1 : Int32)) + (1 : Int32)) + (1 : Int32)) + (1 : Int32)) + (1 : Int32))), .val (.ref s_NODE_EXISTS)] [(.int (((((((((0 : Int32) + (1 : Int32)) + (1 : Int32)) + (1 : Int32)) + (1 : Int32)) + (1 : Int32)) + (1 : Int32)) + (1 : Int32)) + (1 : Int32)))])) _
                    refine XS.iloadN X28.here hx rfl (hb hby own_d1_10) rfl  ?_
                    show Steps p.tables e below (T28.setTop (mkF m 11 #[.val (.int p0), .val (.ref b4_y0), .val (.int (9 : Int32)), .val (.int (((((((((0 : Int32) + (1 : Int32)) + (1 : Int32)) + (1 : Int32)) + (1 : Int32)) + (1 : Int32)) + (1 : Int32)) + (1 : Int32)) + (1 : Int32))), .val (.ref s_NODE_EXISTS)] [(.int (9 : Int32)), (.int (((((((((0 : Int32) + (1 : Int32)) + (1 : Int32)) + (1 : Int32)) + (1 : Int32)) + (1 : Int32)) + (1 : Int32)) + (1 : Int32)) + (1 : Int32)))])) _
                    refine XS.icmpNo X28.here hx rfl (hb hby own_d1_11) rfl (tlt (by decide : ((((((((((0 : Int32) + (1 : Int32)) + (1 : Int32)) + (1 : Int32)) + (1 : Int32)) + (1 : Int32)) + (1 : Int32)) + (1 : Int32)) + (1 : Int32)) < (9 : Int32)))).2.1 ?_
                    show Steps p.tables e below (T28.setTop (mkF m 14 #[.val (.int p0), .val (.ref b4_y0), .val (.int (9 : Int32)), .val (.int (((((((((0 : Int32) + (1 : Int32)) + (1 : Int32)) + (1 : Int32)) + (1 : Int32)) + (1 : Int32)) + (1 : Int32)) + (1 : Int32)) + (1 : Int32))), .val (.ref s_NODE_EXISTS)] [])) _
                    refine XS.aloadN X28.here hx rfl (hb hby own_d1_14) rfl rfl ?_
                    show Steps p.tables e below (T28.setTop (mkF m 15 #[.val (.int p0), .val (.ref b4_y0), .val (.int (9 : Int32)), .val (.int (((((((((0 : Int32) + (1 : Int32)) + (1 : Int32)) + (1 : Int32)) + (1 : Int32)) + (1 : Int32)) + (1 : Int32)) + (1 : Int32)) + (1 : Int32))), .val (.ref s_NODE_EXISTS)] [(.ref b4_y0)])) _
                    refine XS.iloadN X28.here hx rfl (hb hby own_d1_15) rfl  ?_
                    show Steps p.tables e below (T28.setTop (mkF m 16 #[.val (.int p0), .val (.ref b4_y0), .val (.int (9 : Int32)), .val (.int (((((((((0 : Int32) + (1 : Int32)) + (1 : Int32)) + (1 : Int32)) + (1 : Int32)) + (1 : Int32)) + (1 : Int32)) + (1 : Int32)) + (1 : Int32))), .val (.ref s_NODE_EXISTS)] [(.int (((((((((0 : Int32) + (1 : Int32)) + (1 : Int32)) + (1 : Int32)) + (1 : Int32)) + (1 : Int32)) + (1 : Int32)) + (1 : Int32)) + (1 : Int32))), (.ref b4_y0)])) _
                    exact k
                  obtain ⟨cl30, Ar30, q30, Sz30, Nn30, Ha30, Ga30⟩ := id (f4_0)
                  have hin30 : ¬ ((((((((((0 : Int32) + (1 : Int32)) + (1 : Int32)) + (1 : Int32)) + (1 : Int32)) + (1 : Int32)) + (1 : Int32)) + (1 : Int32)) + (1 : Int32)) < 0 ∨ cl30.slots.size ≤ ((((((((((0 : Int32) + (1 : Int32)) + (1 : Int32)) + (1 : Int32)) + (1 : Int32)) + (1 : Int32)) + (1 : Int32)) + (1 : Int32)) + (1 : Int32))).toNatClampNeg) := inb_of Sz30 ⟨by decide, by decide⟩
                  refine Go.st (V' := T28.setTop (mkF m 21 #[.val (.int p0), .val (.ref b4_y0), .val (.int (9 : Int32)), .val (.int (((((((((0 : Int32) + (1 : Int32)) + (1 : Int32)) + (1 : Int32)) + (1 : Int32)) + (1 : Int32)) + (1 : Int32)) + (1 : Int32)) + (1 : Int32))), .val (.ref s_NOT_EMPTY)] [(.ref s_NOT_EMPTY)])) (fun t k => ?_) ?_
                  · show Steps p.tables e below (T28.setTop (mkF m 16 #[.val (.int p0), .val (.ref b4_y0), .val (.int (9 : Int32)), .val (.int (((((((((0 : Int32) + (1 : Int32)) + (1 : Int32)) + (1 : Int32)) + (1 : Int32)) + (1 : Int32)) + (1 : Int32)) + (1 : Int32)) + (1 : Int32))), .val (.ref s_NODE_EXISTS)] [(.int (((((((((0 : Int32) + (1 : Int32)) + (1 : Int32)) + (1 : Int32)) + (1 : Int32)) + (1 : Int32)) + (1 : Int32)) + (1 : Int32)) + (1 : Int32))), (.ref b4_y0)])) _
                    refine X28.aaload hx (j := (((((((((0 : Int32) + (1 : Int32)) + (1 : Int32)) + (1 : Int32)) + (1 : Int32)) + (1 : Int32)) + (1 : Int32)) + (1 : Int32)) + (1 : Int32))) (v := (.ref s_NOT_EMPTY)) (own_eT e28 Ar30) (State.isArrayOf_alike hZ.alike Ar30.2.1) rfl Ar30.2.2 hin30 (Ha30.at hin30 rfl) (g := (mkF m 16 #[.val (.int p0), .val (.ref b4_y0), .val (.int (9 : Int32)), .val (.int (((((((((0 : Int32) + (1 : Int32)) + (1 : Int32)) + (1 : Int32)) + (1 : Int32)) + (1 : Int32)) + (1 : Int32)) + (1 : Int32)) + (1 : Int32))), .val (.ref s_NODE_EXISTS)] [(.int (((((((((0 : Int32) + (1 : Int32)) + (1 : Int32)) + (1 : Int32)) + (1 : Int32)) + (1 : Int32)) + (1 : Int32)) + (1 : Int32)) + (1 : Int32))), (.ref b4_y0)])) rfl rfl (hb hby own_d1_16) _ ?_
                    show Steps p.tables e below (T28.setTop (mkF m 17 #[.val (.int p0), .val (.ref b4_y0), .val (.int (9 : Int32)), .val (.int (((((((((0 : Int32) + (1 : Int32)) + (1 : Int32)) + (1 : Int32)) + (1 : Int32)) + (1 : Int32)) + (1 : Int32)) + (1 : Int32)) + (1 : Int32))), .val (.ref s_NODE_EXISTS)] [(.ref s_NOT_EMPTY)])) _
                    refine XS.astore X28.here hx rfl (hb hby own_d1_17) rfl rfl (l' := #[.val (.int p0), .val (.ref b4_y0), .val (.int (9 : Int32)), .val (.int (((((((((0 : Int32) + (1 : Int32)) + (1 : Int32)) + (1 : Int32)) + (1 : Int32)) + (1 : Int32)) + (1 : Int32)) + (1 : Int32)) + (1 : Int32))), .val (.ref s_NOT_EMPTY)]) rfl ?_
                    show Steps p.tables e below (T28.setTop (mkF m 19 #[.val (.int p0), .val (.ref b4_y0), .val (.int (9 : Int32)), .val (.int (((((((((0 : Int32) + (1 : Int32)) + (1 : Int32)) + (1 : Int32)) + (1 : Int32)) + (1 : Int32)) + (1 : Int32)) + (1 : Int32)) + (1 : Int32))), .val (.ref s_NOT_EMPTY)] [])) _
                    refine XS.aload X28.here hx rfl (hb hby own_d1_19) rfl rfl ?_
                    show Steps p.tables e below (T28.setTop (mkF m 21 #[.val (.int p0), .val (.ref b4_y0), .val (.int (9 : Int32)), .val (.int (((((((((0 : Int32) + (1 : Int32)) + (1 : Int32)) + (1 : Int32)) + (1 : Int32)) + (1 : Int32)) + (1 : Int32)) + (1 : Int32)) + (1 : Int32))), .val (.ref s_NOT_EMPTY)] [(.ref s_NOT_EMPTY)])) _
                    exact k
                  obtain ⟨T31, X31, e31, st31⟩ := getF X28 hx hZ hown (host := "") (Or.inl (hw _ (List.mem_of_getElem? (i := 30) rfl))) Via.refl e28 (F_NOT_EMPTY_code.ext O4.2) (g := (mkF m 21 #[.val (.int p0), .val (.ref b4_y0), .val (.int (9 : Int32)), .val (.int (((((((((0 : Int32) + (1 : Int32)) + (1 : Int32)) + (1 : Int32)) + (1 : Int32)) + (1 : Int32)) + (1 : Int32)) + (1 : Int32)) + (1 : Int32))), .val (.ref s_NOT_EMPTY)] [(.ref s_NOT_EMPTY)])) rfl rfl (hb hby own_d1_21)
                  refine Go.st (V' := T31.setTop (mkF m 24 #[.val (.int p0), .val (.ref b4_y0), .val (.int (9 : Int32)), .val (.int (((((((((0 : Int32) + (1 : Int32)) + (1 : Int32)) + (1 : Int32)) + (1 : Int32)) + (1 : Int32)) + (1 : Int32)) + (1 : Int32)) + (1 : Int32))), .val (.ref s_NOT_EMPTY)] [(.int (-111 : Int32))])) (fun t k => st31 t k) ?_
                  refine Go.st (V' := T31.setTop (mkF m 25 #[.val (.int p0), .val (.ref b4_y0), .val (.int (9 : Int32)), .val (.int (((((((((0 : Int32) + (1 : Int32)) + (1 : Int32)) + (1 : Int32)) + (1 : Int32)) + (1 : Int32)) + (1 : Int32)) + (1 : Int32)) + (1 : Int32))), .val (.ref s_NOT_EMPTY)] [(.int p0), (.int (-111 : Int32))])) (fun t k => ?_) ?_
                  · refine XS.iloadN X31.here hx rfl (hb hby own_d1_24) rfl  ?_
                    show Steps p.tables e below (T31.setTop (mkF m 25 #[.val (.int p0), .val (.ref b4_y0), .val (.int (9 : Int32)), .val (.int (((((((((0 : Int32) + (1 : Int32)) + (1 : Int32)) + (1 : Int32)) + (1 : Int32)) + (1 : Int32)) + (1 : Int32)) + (1 : Int32)) + (1 : Int32))), .val (.ref s_NOT_EMPTY)] [(.int p0), (.int (-111 : Int32))])) _
                    exact k
                  by_cases hc32 : (-111 : Int32) = p0
                  · refine Go.st (V' := T31.setTop (mkF m 30 #[.val (.int p0), .val (.ref b4_y0), .val (.int (9 : Int32)), .val (.int (((((((((0 : Int32) + (1 : Int32)) + (1 : Int32)) + (1 : Int32)) + (1 : Int32)) + (1 : Int32)) + (1 : Int32)) + (1 : Int32)) + (1 : Int32))), .val (.ref s_NOT_EMPTY)] [(.ref s_NOT_EMPTY)])) (fun t k => ?_) ?_
                    · refine XS.icmpNo X31.here hx rfl (hb hby own_d1_25) rfl (teq hc32).2 ?_
                      show Steps p.tables e below (T31.setTop (mkF m 28 #[.val (.int p0), .val (.ref b4_y0), .val (.int (9 : Int32)), .val (.int (((((((((0 : Int32) + (1 : Int32)) + (1 : Int32)) + (1 : Int32)) + (1 : Int32)) + (1 : Int32)) + (1 : Int32)) + (1 : Int32)) + (1 : Int32))), .val (.ref s_NOT_EMPTY)] [])) _
                      refine XS.aload X31.here hx rfl (hb hby own_d1_28) rfl rfl ?_
                      show Steps p.tables e below (T31.setTop (mkF m 30 #[.val (.int p0), .val (.ref b4_y0), .val (.int (9 : Int32)), .val (.int (((((((((0 : Int32) + (1 : Int32)) + (1 : Int32)) + (1 : Int32)) + (1 : Int32)) + (1 : Int32)) + (1 : Int32)) + (1 : Int32)) + (1 : Int32))), .val (.ref s_NOT_EMPTY)] [(.ref s_NOT_EMPTY)])) _
                      exact k
                    obtain ⟨fs, hr, hrun, hended, hW, hsame⟩ := X31.leave (v := some (.ref s_NOT_EMPTY)) (fun h => by rw [Bd.returns] at h; cases h)
                    refine Go.mk' ⟨_, _, retOut X31 hx Bd.returns rfl (Or.inr (Or.inr (Or.inr (Or.inr ⟨rfl, rfl, rfl⟩)))) (hb hby own_d1_30) hr, hrun, hended, _, _, rfl, ?_, ⟨_, rfl⟩, hW, hsame.mono (by decide) (by decide)⟩
                    show Q1 Z s_RUNTIME_INCONSISTENCY s_UNIMPLEMENTED s_BAD_ARGUMENTS s_NO_NODE s_NO_AUTH s_BAD_VERSION s_NO_CHILDREN_FOR_EPHEMERALS s_NODE_EXISTS s_NOT_EMPTY p0 h0 n0 _ T31.heap _
                    rw [e31]
                    exact ⟨(by rw [f1, if_neg hc8, if_neg hc11, if_neg hc14, if_neg hc17, if_neg hc20, if_neg hc23, if_neg hc26, if_neg hc29, if_pos hc32]), N4, KA4⟩
                  · refine Go.st (V' := T31.setTop (mkF m 37 #[.val (.int p0), .val (.ref b4_y0), .val (.int (9 : Int32)), .val (.int ((((((((((0 : Int32) + (1 : Int32)) + (1 : Int32)) + (1 : Int32)) + (1 : Int32)) + (1 : Int32)) + (1 : Int32)) + (1 : Int32)) + (1 : Int32)) + (1 : Int32))), .val (.ref s_NOT_EMPTY)] [])) (fun t k => ?_) ?_
                    · refine XS.icmpYes X31.here hx rfl (pc0 := 25) (pc' := 31) rfl (hb hby own_d1_25) rfl (feq hc32).2 (by decide) (by decide) ?_
                      show Steps p.tables e below (T31.setTop (mkF m 31 #[.val (.int p0), .val (.ref b4_y0), .val (.int (9 : Int32)), .val (.int (((((((((0 : Int32) + (1 : Int32)) + (1 : Int32)) + (1 : Int32)) + (1 : Int32)) + (1 : Int32)) + (1 : Int32)) + (1 : Int32)) + (1 : Int32))), .val (.ref s_NOT_EMPTY)] [])) _
                      refine XS.iinc X31.here hx rfl (hb hby own_d1_31) rfl (l' := #[.val (.int p0), .val (.ref b4_y0), .val (.int (9 : Int32)), .val (.int ((((((((((0 : Int32) + (1 : Int32)) + (1 : Int32)) + (1 : Int32)) + (1 : Int32)) + (1 : Int32)) + (1 : Int32)) + (1 : Int32)) + (1 : Int32)) + (1 : Int32))), .val (.ref s_NOT_EMPTY)]) rfl ?_
                      show Steps p.tables e below (T31.setTop (mkF m 34 #[.val (.int p0), .val (.ref b4_y0), .val (.int (9 : Int32)), .val (.int ((((((((((0 : Int32) + (1 : Int32)) + (1 : Int32)) + (1 : Int32)) + (1 : Int32)) + (1 : Int32)) + (1 : Int32)) + (1 : Int32)) + (1 : Int32)) + (1 : Int32))), .val (.ref s_NOT_EMPTY)] [])) _
                      refine XS.goto X31.here hx rfl (pc0 := 34) (pc' := 9) rfl (hb hby own_d1_34) (by decide) (by decide) ?_
                      show Steps p.tables e below (T31.setTop (mkF m 9 #[.val (.int p0), .val (.ref b4_y0), .val (.int (9 : Int32)), .val (.int ((((((((((0 : Int32) + (1 : Int32)) + (1 : Int32)) + (1 : Int32)) + (1 : Int32)) + (1 : Int32)) + (1 : Int32)) + (1 : Int32)) + (1 : Int32)) + (1 : Int32))), .val (.ref s_NOT_EMPTY)] [])) _
                      refine XS.iloadN X31.here hx rfl (hb hby own_d1_9) rfl  ?_
                      show Steps p.tables e below (T31.setTop (mkF m 10 #[.val (.int p0), .val (.ref b4_y0), .val (.int (9 : Int32)), .val (.int ((((((((((0 : Int32) + (1 : Int32)) + (1 : Int32)) + (1 : Int32)) + (1 : Int32)) + (1 : Int32)) + (1 : Int32)) + (1 : Int32)) + (1 : Int32)) + (1 : Int32))), .val (.ref s_NOT_EMPTY)] [(.int ((((((((((0 : Int32) + (1 : Int32)) + (1 : Int32)) + (1 : Int32)) + (1 : Int32)) + (1 : Int32)) + (1 : Int32)) + (1 : Int32)) + (1 : Int32)) + (1 : Int32)))])) _
                      refine XS.iloadN X31.here hx rfl (hb hby own_d1_10) rfl  ?_
                      show Steps p.tables e below (T31.setTop (mkF m 11 #[.val (.int p0), .val (.ref b4_y0), .val (.int (9 : Int32)), .val (.int ((((((((((0 : Int32) + (1 : Int32)) + (1 : Int32)) + (1 : Int32)) + (1 : Int32)) + (1 : Int32)) + (1 : Int32)) + (1 : Int32)) + (1 : Int32)) + (1 : Int32))), .val (.ref s_NOT_EMPTY)] [(.int (9 : Int32)), (.int ((((((((((0 : Int32) + (1 : Int32)) + (1 : Int32)) + (1 : Int32)) + (1 : Int32)) + (1 : Int32)) + (1 : Int32)) + (1 : Int32)) + (1 : Int32)) + (1 : Int32)))])) _
                      refine XS.icmpYes X31.here hx rfl (pc0 := 11) (pc' := 37) rfl (hb hby own_d1_11) rfl (flt (by decide : ¬ (((((((((((0 : Int32) + (1 : Int32)) + (1 : Int32)) + (1 : Int32)) + (1 : Int32)) + (1 : Int32)) + (1 : Int32)) + (1 : Int32)) + (1 : Int32)) + (1 : Int32)) < (9 : Int32)))).2.1 (by decide) (by decide) ?_
                      show Steps p.tables e below (T31.setTop (mkF m 37 #[.val (.int p0), .val (.ref b4_y0), .val (.int (9 : Int32)), .val (.int ((((((((((0 : Int32) + (1 : Int32)) + (1 : Int32)) + (1 : Int32)) + (1 : Int32)) + (1 : Int32)) + (1 : Int32)) + (1 : Int32)) + (1 : Int32)) + (1 : Int32))), .val (.ref s_NOT_EMPTY)] [])) _
                      exact k
                    exfalso
                    rcases hp with h | h | h | h | h | h | h | h | h
                    · exact hc8 h
                    · exact hc11 h
                    · exact hc14 h
                    · exact hc17 h
                    · exact hc20 h
                    · exact hc23 h
                    · exact hc26 h
                    · exact hc29 h
                    · exact hc32 h
theorem own_d3_0 : decode prog_50_method_4_code 0 = .ok (.aload_n 0, 1) := by decide +kernel
theorem own_d3_1 : decode prog_50_method_4_code 1 = .ok (.getfield 50, 3) := by decide +kernel
theorem own_d3_4 : decode prog_50_method_4_code 4 = .ok (.ireturn, 1) := by decide +kernel
theorem ef3 (m : MethodId) (r0 : Addr) : entryFrame m #[(.ref r0)] 1 = mkF m 0 #[.val (.ref r0)] [] := by first | (simp [entryFrame, mkF, argsToLocals, Value.category]; done) | rfl
def Q3 (Z : State) (w_code_r0 : Int32) (h0 : Heap) (n0 : Nat) (v : Option Value) (h : Heap) (L : List Loc) : Prop := v = some (.int w_code_r0) ∧ Fr n0 L ∧ h = h0
set_option maxRecDepth 65536 in
set_option maxHeartbeats 40000000 in
theorem rm3 (l : Launch) (Z : State) (a0 : Array Value) (hw : ∀ d ∈ tables_1, d.before a0 Z = true) (ws : List Jvm.Cond) (s_RUNTIME_INCONSISTENCY : Addr) (s_UNIMPLEMENTED : Addr) (s_BAD_ARGUMENTS : Addr) (s_NO_NODE : Addr) (s_NO_AUTH : Addr) (s_BAD_VERSION : Addr) (s_NO_CHILDREN_FOR_EPHEMERALS : Addr) (s_NODE_EXISTS : Addr) (s_NOT_EMPTY : Addr) (s_VALUES : Addr) (k_VALUES : ClassId) (HW : W0 Z s_RUNTIME_INCONSISTENCY s_UNIMPLEMENTED s_BAD_ARGUMENTS s_NO_NODE s_NO_AUTH s_BAD_VERSION s_NO_CHILDREN_FOR_EPHEMERALS s_NODE_EXISTS s_NOT_EMPTY s_VALUES k_VALUES) (r0 : Addr) (w_code_r0 : Int32) (h0 : Heap) (n0 : Nat) (O0 : Old Z n0 h0) (F_code_r0 : Fld Z h0 r0 "com/example/numtick/numtick/protocol/ErrorCode" "code" "I" (.int w_code_r0)) :
    MetFree l (⟨"com/example/numtick/numtick/protocol/ErrorCode", "code", "()I"⟩ : MethodName) (head1 (Jvm.Cond.code (⟨"com/example/numtick/numtick/protocol/ErrorCode", "code", "()I"⟩ : MethodName) prog_50_method_4_code 1 (some .int) :: ws) ({ frames := 0, cells := 0, slots := 0, locals := 0 } : Room)) (fun a U => a = #[(.ref r0)] ∧ Z.Warmed39 U.vm ∧ U.heap = h0) (fun _ _ _ _ _ => True) (fun _ U o U' => ∃ v L, o = .returned v ∧ Q3 Z w_code_r0 h0 n0 v U'.heap L ∧ FrameEnd U o U' L ({ frames := 0, cells := 0, slots := 0, locals := 0 } : Room).cells ({ frames := 0, cells := 0, slots := 0, locals := 0 } : Room).slots) := by
  refine MetFree.of_bodySF (plainFor_of_name own_pn0) hisR ?_
  intro p e s m args below meth c s₁ Bd hml0 hP hK
  obtain ⟨rfl, hZ, hh⟩ := hP
  obtain ⟨E_RUNTIME_INCONSISTENCY, S_RUNTIME_INCONSISTENCY, E_UNIMPLEMENTED, S_UNIMPLEMENTED, E_BAD_ARGUMENTS, S_BAD_ARGUMENTS, E_NO_NODE, S_NO_NODE, E_NO_AUTH, S_NO_AUTH, E_BAD_VERSION, S_BAD_VERSION, E_NO_CHILDREN_FOR_EPHEMERALS, S_NO_CHILDREN_FOR_EPHEMERALS, E_NODE_EXISTS, S_NODE_EXISTS, E_NOT_EMPTY, S_NOT_EMPTY, F_RUNTIME_INCONSISTENCY_code, F_UNIMPLEMENTED_code, F_BAD_ARGUMENTS_code, F_NO_NODE_code, F_NO_AUTH_code, F_BAD_VERSION_code, F_NO_CHILDREN_FOR_EPHEMERALS_code, F_NODE_EXISTS_code, F_NOT_EMPTY_code, V_VALUES, S_VALUES, E_VALUES⟩ := id HW
  have hx := Bd.exec
  have hby := Bd.bytes
  have hml : c.maxLocals = 1 := hml0
  have hown : s.vm.findClass "com/example/numtick/numtick/protocol/ErrorCode" = some m.cls := findClass_of_methodNamed Bd.named
  have hnm := (name_of_methodNamed Bd.named Bd.method).1
  have X0 : Stand p l e ({ frames := 0, cells := 0, slots := 0, locals := 0 } : Room) s m #[(.ref r0)] below meth c s₁ [] 0 0 := Stand.of_body Bd
  have e0 : s₁.heap = h0 := by rw [← hh, Bd.state]; rfl
  have N0 := Fr.nil n0
  have K0 := Keep.refl h0 []
  refine Go.out ?_
  refine Go.st (V' := s₁.setTop (mkF m 0 #[.val (.ref r0)] [])) (fun t k => castTop (ef3 m r0) k) ?_
  refine Go.st (V' := s₁.setTop (mkF m 1 #[.val (.ref r0)] [(.ref r0)])) (fun t k => ?_) ?_
  · refine XS.aloadN X0.here hx rfl (hb hby own_d3_0) rfl rfl ?_
    show Steps p.tables e below (s₁.setTop (mkF m 1 #[.val (.ref r0)] [(.ref r0)])) _
    exact k
  obtain ⟨T33, X33, e33, st33⟩ := getF X0 hx hZ hown (host := "") (Or.inl (hw _ (List.mem_of_getElem? (i := 30) rfl))) Via.refl e0 F_code_r0 (g := (mkF m 1 #[.val (.ref r0)] [(.ref r0)])) rfl rfl (hb hby own_d3_1)
  refine Go.st (V' := T33.setTop (mkF m 4 #[.val (.ref r0)] [(.int w_code_r0)])) (fun t k => st33 t k) ?_
  obtain ⟨fs, hr, hrun, hended, hW, hsame⟩ := X33.leave (v := some (.int w_code_r0)) (fun h => by rw [Bd.returns] at h; cases h)
  refine Go.mk' ⟨_, _, retI X33 hx Bd.returns (hb hby own_d3_4) hr, hrun, hended, _, _, rfl, ?_, ⟨_, rfl⟩, hW, hsame.mono (by decide) (by decide)⟩
  show Q3 Z w_code_r0 h0 n0 _ T33.heap _
  rw [e33]
  exact ⟨rfl, N0, rfl⟩
theorem own_pd30 : parseMethodDescriptor "(I)Lcom/example/numtick/numtick/protocol/ErrorCode;" = some ⟨[.int], some (.object "com/example/numtick/numtick/protocol/ErrorCode")⟩ := by decide +kernel
theorem own_pd31 : parseMethodDescriptor "()I" = some ⟨[], some .int⟩ := by decide +kernel
theorem own_pn1 : plainName "com/example/numtick/numtick/protocol/ErrorCodeOfPinLaw" = true := by first | (simp [plainName, overriddenIn]; done) | decide +kernel
theorem ef0 (m : MethodId) (p0 : Int32) : entryFrame m #[(.int p0)] maxLocals = mkF m 0 #[.val (.int p0), .unset, .unset, .unset, .unset] [] := by first | (simp [entryFrame, mkF, argsToLocals, Value.category, maxLocals]; done) | rfl
def Q0 (Z : State) (p0 : Int32) (h0 : Heap) (n0 : Nat) (v : Option Value) (h : Heap) (L : List Loc) : Prop := v = some (.int 1) ∧ Fr n0 L
set_option maxRecDepth 65536 in
set_option maxHeartbeats 40000000 in
theorem rm0 (l : Launch) (Z : State) (a0 : Array Value) (hw : ∀ d ∈ tables_1, d.before a0 Z = true) (ws : List Jvm.Cond) (s_RUNTIME_INCONSISTENCY : Addr) (s_UNIMPLEMENTED : Addr) (s_BAD_ARGUMENTS : Addr) (s_NO_NODE : Addr) (s_NO_AUTH : Addr) (s_BAD_VERSION : Addr) (s_NO_CHILDREN_FOR_EPHEMERALS : Addr) (s_NODE_EXISTS : Addr) (s_NOT_EMPTY : Addr) (s_VALUES : Addr) (k_VALUES : ClassId) (HW : W0 Z s_RUNTIME_INCONSISTENCY s_UNIMPLEMENTED s_BAD_ARGUMENTS s_NO_NODE s_NO_AUTH s_BAD_VERSION s_NO_CHILDREN_FOR_EPHEMERALS s_NODE_EXISTS s_NOT_EMPTY s_VALUES k_VALUES) (p0 : Int32) (h0 : Heap) (n0 : Nat) (O0 : Old Z n0 h0) :
    MetFree l x (head1 (Jvm.Cond.code x code maxLocals ret :: ws) room_1) (fun a U => a = #[(.int p0)] ∧ Z.Warmed39 U.vm ∧ U.heap = h0) (fun _ _ _ _ _ => True) (fun _ U o U' => ∃ v L, o = .returned v ∧ Q0 Z p0 h0 n0 v U'.heap L ∧ FrameEnd U o U' L room_1.cells room_1.slots) := by
  refine MetFree.of_bodySF (plainFor_of_name own_pn1) hisR ?_
  intro p e s m args below meth c s₁ Bd hml0 hP hK
  obtain ⟨rfl, hZ, hh⟩ := hP
  obtain ⟨E_RUNTIME_INCONSISTENCY, S_RUNTIME_INCONSISTENCY, E_UNIMPLEMENTED, S_UNIMPLEMENTED, E_BAD_ARGUMENTS, S_BAD_ARGUMENTS, E_NO_NODE, S_NO_NODE, E_NO_AUTH, S_NO_AUTH, E_BAD_VERSION, S_BAD_VERSION, E_NO_CHILDREN_FOR_EPHEMERALS, S_NO_CHILDREN_FOR_EPHEMERALS, E_NODE_EXISTS, S_NODE_EXISTS, E_NOT_EMPTY, S_NOT_EMPTY, F_RUNTIME_INCONSISTENCY_code, F_UNIMPLEMENTED_code, F_BAD_ARGUMENTS_code, F_NO_NODE_code, F_NO_AUTH_code, F_BAD_VERSION_code, F_NO_CHILDREN_FOR_EPHEMERALS_code, F_NODE_EXISTS_code, F_NOT_EMPTY_code, V_VALUES, S_VALUES, E_VALUES⟩ := id HW
  have hx := Bd.exec
  have hby := Bd.bytes
  have hml : c.maxLocals = 5 := hml0
  have hown : s.vm.findClass "com/example/numtick/numtick/protocol/ErrorCodeOfPinLaw" = some m.cls := findClass_of_methodNamed Bd.named
  have hnm := (name_of_methodNamed Bd.named Bd.method).1
  have X0 : Stand p l e room_1 s m #[(.int p0)] below meth c s₁ [] 0 0 := Stand.of_body Bd
  have e0 : s₁.heap = h0 := by rw [← hh, Bd.state]; rfl
  have N0 := Fr.nil n0
  refine Go.out ?_
  refine Go.st (V' := s₁.setTop (mkF m 0 #[.val (.int p0), .unset, .unset, .unset, .unset] [])) (fun t k => castTop (ef0 m p0) k) ?_
  refine Go.st (V' := s₁.setTop (mkF m 9 #[.val (.int p0), .val (.int ((p0 &&& (2147483647 : Int32)) % (9 : Int32))), .unset, .unset, .unset] [(.int ((p0 &&& (2147483647 : Int32)) % (9 : Int32)))])) (fun t k => ?_) ?_
  · refine XS.iloadN X0.here hx rfl (hb hby at_0) rfl  ?_
    show Steps p.tables e below (s₁.setTop (mkF m 1 #[.val (.int p0), .unset, .unset, .unset, .unset] [(.int p0)])) _
    refine X0.ldcInt hx hown (mvT hZ (hw _ (List.mem_of_getElem? (i := 0) rfl))) (g := (mkF m 1 #[.val (.int p0), .unset, .unset, .unset, .unset] [(.int p0)])) rfl (hb hby at_1) _ ?_
    show Steps p.tables e below (s₁.setTop (mkF m 3 #[.val (.int p0), .unset, .unset, .unset, .unset] [(.int (2147483647 : Int32)), (.int p0)])) _
    refine XS.iand X0.here hx rfl (hb hby at_3) rfl ?_
    show Steps p.tables e below (s₁.setTop (mkF m 4 #[.val (.int p0), .unset, .unset, .unset, .unset] [(.int (p0 &&& (2147483647 : Int32)))])) _
    refine XS.bipush X0.here hx rfl (hb hby at_4) ?_
    show Steps p.tables e below (s₁.setTop (mkF m 6 #[.val (.int p0), .unset, .unset, .unset, .unset] [(.int (9 : Int32)), (.int (p0 &&& (2147483647 : Int32)))])) _
    refine iremM X0 hx rfl (hb hby at_6) rfl (by decide) ?_
    show Steps p.tables e below (s₁.setTop (mkF m 7 #[.val (.int p0), .unset, .unset, .unset, .unset] [(.int ((p0 &&& (2147483647 : Int32)) % (9 : Int32)))])) _
    refine XS.istoreN X0.here hx rfl (hb hby at_7) rfl (l' := #[.val (.int p0), .val (.int ((p0 &&& (2147483647 : Int32)) % (9 : Int32))), .unset, .unset, .unset]) rfl ?_
    show Steps p.tables e below (s₁.setTop (mkF m 8 #[.val (.int p0), .val (.int ((p0 &&& (2147483647 : Int32)) % (9 : Int32))), .unset, .unset, .unset] [])) _
    refine XS.iloadN X0.here hx rfl (hb hby at_8) rfl  ?_
    show Steps p.tables e below (s₁.setTop (mkF m 9 #[.val (.int p0), .val (.int ((p0 &&& (2147483647 : Int32)) % (9 : Int32))), .unset, .unset, .unset] [(.int ((p0 &&& (2147483647 : Int32)) % (9 : Int32)))])) _
    exact k
  by_cases hc34 : ((p0 &&& (2147483647 : Int32)) % (9 : Int32)) = (0 : Int32)
  · refine Go.st (V' := s₁.setTop (mkF m 15 #[.val (.int p0), .val (.int ((p0 &&& (2147483647 : Int32)) % (9 : Int32))), .val (.int (-2 : Int32)), .unset, .unset] [])) (fun t k => ?_) ?_
    · refine XS.ifNo X0.here hx rfl (hb hby at_9) rfl ((if0 _ _).trans (teq hc34).2) ?_
      show Steps p.tables e below (s₁.setTop (mkF m 12 #[.val (.int p0), .val (.int ((p0 &&& (2147483647 : Int32)) % (9 : Int32))), .unset, .unset, .unset] [])) _
      refine XS.bipush X0.here hx rfl (hb hby at_12) ?_
      show Steps p.tables e below (s₁.setTop (mkF m 14 #[.val (.int p0), .val (.int ((p0 &&& (2147483647 : Int32)) % (9 : Int32))), .unset, .unset, .unset] [(.int (-2 : Int32))])) _
      refine XS.istoreN X0.here hx rfl (hb hby at_14) rfl (l' := #[.val (.int p0), .val (.int ((p0 &&& (2147483647 : Int32)) % (9 : Int32))), .val (.int (-2 : Int32)), .unset, .unset]) rfl ?_
      show Steps p.tables e below (s₁.setTop (mkF m 15 #[.val (.int p0), .val (.int ((p0 &&& (2147483647 : Int32)) % (9 : Int32))), .val (.int (-2 : Int32)), .unset, .unset] [])) _
      exact k
    obtain ⟨T35, X35, e35, st35⟩ := getS2 X0 hx hZ hown (host := "") (Or.inl (hw _ (List.mem_of_getElem? (i := 1) rfl))) Via.refl e0 (S_RUNTIME_INCONSISTENCY.ext O0.2) (g := (mkF m 15 #[.val (.int p0), .val (.int ((p0 &&& (2147483647 : Int32)) % (9 : Int32))), .val (.int (-2 : Int32)), .unset, .unset] [])) rfl (hb hby at_15)
    refine Go.st (V' := T35.setTop (mkF m 18 #[.val (.int p0), .val (.int ((p0 &&& (2147483647 : Int32)) % (9 : Int32))), .val (.int (-2 : Int32)), .unset, .unset] [(.ref s_RUNTIME_INCONSISTENCY)])) (fun t k => st35 t k) ?_
    refine Go.st (V' := T35.setTop (mkF m 137 #[.val (.int p0), .val (.int ((p0 &&& (2147483647 : Int32)) % (9 : Int32))), .val (.int (-2 : Int32)), .val (.ref s_RUNTIME_INCONSISTENCY), .unset] [(.int (-2 : Int32))])) (fun t k => ?_) ?_
    · refine XS.astoreN X35.here hx rfl (hb hby at_18) rfl rfl (l' := #[.val (.int p0), .val (.int ((p0 &&& (2147483647 : Int32)) % (9 : Int32))), .val (.int (-2 : Int32)), .val (.ref s_RUNTIME_INCONSISTENCY), .unset]) rfl ?_
      show Steps p.tables e below (T35.setTop (mkF m 19 #[.val (.int p0), .val (.int ((p0 &&& (2147483647 : Int32)) % (9 : Int32))), .val (.int (-2 : Int32)), .val (.ref s_RUNTIME_INCONSISTENCY), .unset] [])) _
      refine XS.goto X35.here hx rfl (pc0 := 19) (pc' := 136) rfl (hb hby at_19) (by decide) (by decide) ?_
      show Steps p.tables e below (T35.setTop (mkF m 136 #[.val (.int p0), .val (.int ((p0 &&& (2147483647 : Int32)) % (9 : Int32))), .val (.int (-2 : Int32)), .val (.ref s_RUNTIME_INCONSISTENCY), .unset] [])) _
      refine XS.iloadN X35.here hx rfl (hb hby at_136) rfl  ?_
      show Steps p.tables e below (T35.setTop (mkF m 137 #[.val (.int p0), .val (.int ((p0 &&& (2147483647 : Int32)) % (9 : Int32))), .val (.int (-2 : Int32)), .val (.ref s_RUNTIME_INCONSISTENCY), .unset] [(.int (-2 : Int32))])) _
      exact k
    obtain ⟨_, _, ⟨T36, L36, k36, n36⟩, -, X36, ⟨Lc36, hQ36, l36, y36, z36⟩, st36⟩ := Jvm.LawKit.callS X35 hx (y := (⟨"com/example/numtick/numtick/protocol/ErrorCode", "of", "(I)Lcom/example/numtick/numtick/protocol/ErrorCode;"⟩ : MethodName)) hown (mvT hZ (hw _ (List.mem_of_getElem? (i := 4) rfl))) (mvT hZ (hw _ (List.mem_of_getElem? (i := 5) rfl))) (mvT hZ (hw _ (List.mem_of_getElem? (i := 2) rfl))) (mvT hZ (hw _ (List.mem_of_getElem? (i := 6) rfl))) (by decide) (backOf (W := 0) (rm1 l Z a0 hw [] s_RUNTIME_INCONSISTENCY s_UNIMPLEMENTED s_BAD_ARGUMENTS s_NO_NODE s_NO_AUTH s_BAD_VERSION s_NO_CHILDREN_FOR_EPHEMERALS s_NODE_EXISTS s_NOT_EMPTY s_VALUES k_VALUES HW (-2 : Int32) h0 n0 O0 (by decide)) hZ (hw _ (List.mem_of_getElem? (i := 6) rfl)) (hw _ (List.mem_of_getElem? (i := 2) rfl)) (by decide) (by decide)) (g := (mkF m 137 #[.val (.int p0), .val (.int ((p0 &&& (2147483647 : Int32)) % (9 : Int32))), .val (.int (-2 : Int32)), .val (.ref s_RUNTIME_INCONSISTENCY), .unset] [(.int (-2 : Int32))])) rfl (by rw [hml]; rfl) (argsL := [(.int (-2 : Int32))]) (rest := []) (lenOf own_pd30 rfl) rfl (by show 2 * 0 + _ ≤ _; exact Nat.le_of_eq rfl) (hb hby at_137) (fun _ _ => ⟨rfl, e35, (by decide : 0 + 1 ≤ _), (by decide : 0 + 9 ≤ _)⟩)
    dsimp only [Pt.U, Pt.locs, Pt.cells, Pt.slots] at X36 l36 y36 z36 st36 hQ36
    subst l36 y36 z36
    obtain ⟨rfl, N36q, K36⟩ := hQ36
    have N36 := Fr.app N0 N36q
    have O36 := O0.keep K36 all0
    refine Go.st (V' := T36.setTop (mkF m 140 #[.val (.int p0), .val (.int ((p0 &&& (2147483647 : Int32)) % (9 : Int32))), .val (.int (-2 : Int32)), .val (.ref s_RUNTIME_INCONSISTENCY), .unset] [(.ref (f1 s_RUNTIME_INCONSISTENCY s_UNIMPLEMENTED s_BAD_ARGUMENTS s_NO_NODE s_NO_AUTH s_BAD_VERSION s_NO_CHILDREN_FOR_EPHEMERALS s_NODE_EXISTS s_NOT_EMPTY (-2 : Int32)))])) (fun t k => st36 t k) ?_
    have r37 : (f1 s_RUNTIME_INCONSISTENCY s_UNIMPLEMENTED s_BAD_ARGUMENTS s_NO_NODE s_NO_AUTH s_BAD_VERSION s_NO_CHILDREN_FOR_EPHEMERALS s_NODE_EXISTS s_NOT_EMPTY (-2 : Int32)) = s_RUNTIME_INCONSISTENCY := by rw [f1, if_pos (by decide : ((-2 : Int32) = (-2 : Int32)))]
    rw [r37]
    refine Go.st (V' := T36.setTop (mkF m 150 #[.val (.int p0), .val (.int ((p0 &&& (2147483647 : Int32)) % (9 : Int32))), .val (.int (-2 : Int32)), .val (.ref s_RUNTIME_INCONSISTENCY), .val (.ref s_RUNTIME_INCONSISTENCY)] [(.ref s_RUNTIME_INCONSISTENCY)])) (fun t k => ?_) ?_
    · refine XS.astore X36.here hx rfl (hb hby at_140) rfl rfl (l' := #[.val (.int p0), .val (.int ((p0 &&& (2147483647 : Int32)) % (9 : Int32))), .val (.int (-2 : Int32)), .val (.ref s_RUNTIME_INCONSISTENCY), .val (.ref s_RUNTIME_INCONSISTENCY)]) rfl ?_
      show Steps p.tables e below (T36.setTop (mkF m 142 #[.val (.int p0), .val (.int ((p0 &&& (2147483647 : Int32)) % (9 : Int32))), .val (.int (-2 : Int32)), .val (.ref s_RUNTIME_INCONSISTENCY), .val (.ref s_RUNTIME_INCONSISTENCY)] [])) _
      refine XS.aload X36.here hx rfl (hb hby at_142) rfl rfl ?_
      show Steps p.tables e below (T36.setTop (mkF m 144 #[.val (.int p0), .val (.int ((p0 &&& (2147483647 : Int32)) % (9 : Int32))), .val (.int (-2 : Int32)), .val (.ref s_RUNTIME_INCONSISTENCY), .val (.ref s_RUNTIME_INCONSISTENCY)] [(.ref s_RUNTIME_INCONSISTENCY)])) _
      refine XS.aloadN X36.here hx rfl (hb hby at_144) rfl rfl ?_
      show Steps p.tables e below (T36.setTop (mkF m 145 #[.val (.int p0), .val (.int ((p0 &&& (2147483647 : Int32)) % (9 : Int32))), .val (.int (-2 : Int32)), .val (.ref s_RUNTIME_INCONSISTENCY), .val (.ref s_RUNTIME_INCONSISTENCY)] [(.ref s_RUNTIME_INCONSISTENCY), (.ref s_RUNTIME_INCONSISTENCY)])) _
      refine Jvm.RoadKit.acmp (g := (mkF m 145 #[.val (.int p0), .val (.int ((p0 &&& (2147483647 : Int32)) % (9 : Int32))), .val (.int (-2 : Int32)), .val (.ref s_RUNTIME_INCONSISTENCY), .val (.ref s_RUNTIME_INCONSISTENCY)] [(.ref s_RUNTIME_INCONSISTENCY), (.ref s_RUNTIME_INCONSISTENCY)])) X36 hx rfl rfl rfl (pc0 := 145) (pc' := 148) (same := true) rfl (hb hby at_145) rfl (decide_eq_true (congrArg Value.ref rfl)) (by decide) (by decide) ?_
      show Steps p.tables e below (T36.setTop (mkF m 148 #[.val (.int p0), .val (.int ((p0 &&& (2147483647 : Int32)) % (9 : Int32))), .val (.int (-2 : Int32)), .val (.ref s_RUNTIME_INCONSISTENCY), .val (.ref s_RUNTIME_INCONSISTENCY)] [])) _
      refine XS.aload X36.here hx rfl (hb hby at_148) rfl rfl ?_
      show Steps p.tables e below (T36.setTop (mkF m 150 #[.val (.int p0), .val (.int ((p0 &&& (2147483647 : Int32)) % (9 : Int32))), .val (.int (-2 : Int32)), .val (.ref s_RUNTIME_INCONSISTENCY), .val (.ref s_RUNTIME_INCONSISTENCY)] [(.ref s_RUNTIME_INCONSISTENCY)])) _
      exact k
    obtain ⟨cq38, kq38, q38a, q38b, q38c⟩ := isOf hZ rfl (E_RUNTIME_INCONSISTENCY.ext O36.2)
    obtain ⟨_, _, ⟨T38, L38, k38, n38⟩, -, X38, ⟨Lc38, hQ38, l38, y38, z38⟩, st38⟩ := X36.virtualBack hx (y := (⟨"com/example/numtick/numtick/protocol/ErrorCode", "code", "()I"⟩ : MethodName)) (z := (⟨"com/example/numtick/numtick/protocol/ErrorCode", "code", "()I"⟩ : MethodName)) hown (mvT hZ (hw _ (List.mem_of_getElem? (i := 32) rfl))) (mvT hZ (hw _ (List.mem_of_getElem? (i := 33) rfl))) (notFace_of_selects (args := #[]) (mvT hZ (hw _ (List.mem_of_getElem? (i := 35) rfl)))) (mvT hZ (hw _ (List.mem_of_getElem? (i := 35) rfl))) (mvT hZ (hw _ (List.mem_of_getElem? (i := 34) rfl))) (by decide) (backOf (W := 0) (rm3 l Z a0 hw [] s_RUNTIME_INCONSISTENCY s_UNIMPLEMENTED s_BAD_ARGUMENTS s_NO_NODE s_NO_AUTH s_BAD_VERSION s_NO_CHILDREN_FOR_EPHEMERALS s_NODE_EXISTS s_NOT_EMPTY s_VALUES k_VALUES HW s_RUNTIME_INCONSISTENCY (-2 : Int32) T36.heap n0 O36 (F_RUNTIME_INCONSISTENCY_code.ext O36.2)) hZ (hw _ (List.mem_of_getElem? (i := 36) rfl)) (hw _ (List.mem_of_getElem? (i := 2) rfl)) (by decide) (by decide)) q38a q38c (g := (mkF m 150 #[.val (.int p0), .val (.int ((p0 &&& (2147483647 : Int32)) % (9 : Int32))), .val (.int (-2 : Int32)), .val (.ref s_RUNTIME_INCONSISTENCY), .val (.ref s_RUNTIME_INCONSISTENCY)] [(.ref s_RUNTIME_INCONSISTENCY)])) rfl (by rw [hml]; rfl) (Steps.refl _) (argsL := []) (rest := []) (lenOf own_pd31 rfl) rfl (by show 2 * 0 + _ ≤ _; exact Nat.le_of_eq rfl) (hb hby at_150) (fun _ _ => ⟨rfl, rfl, (by decide : 1 + 0 ≤ _), (by decide : 9 + 0 ≤ _)⟩)
    dsimp only [Pt.U, Pt.locs, Pt.cells, Pt.slots] at X38 l38 y38 z38 st38 hQ38
    subst l38 y38 z38
    obtain ⟨rfl, N38q, e38⟩ := hQ38
    have N38 := Fr.app N36 N38q
    refine Go.st (V' := T38.setTop (mkF m 153 #[.val (.int p0), .val (.int ((p0 &&& (2147483647 : Int32)) % (9 : Int32))), .val (.int (-2 : Int32)), .val (.ref s_RUNTIME_INCONSISTENCY), .val (.ref s_RUNTIME_INCONSISTENCY)] [(.int (-2 : Int32))])) (fun t k => st38.trans k) ?_
    refine Go.st (V' := T38.setTop (mkF m 162 #[.val (.int p0), .val (.int ((p0 &&& (2147483647 : Int32)) % (9 : Int32))), .val (.int (-2 : Int32)), .val (.ref s_RUNTIME_INCONSISTENCY), .val (.ref s_RUNTIME_INCONSISTENCY)] [(.int (1 : Int32))])) (fun t k => ?_) ?_
    · refine XS.iloadN X38.here hx rfl (hb hby at_153) rfl  ?_
      show Steps p.tables e below (T38.setTop (mkF m 154 #[.val (.int p0), .val (.int ((p0 &&& (2147483647 : Int32)) % (9 : Int32))), .val (.int (-2 : Int32)), .val (.ref s_RUNTIME_INCONSISTENCY), .val (.ref s_RUNTIME_INCONSISTENCY)] [(.int (-2 : Int32)), (.int (-2 : Int32))])) _
      refine XS.icmpNo X38.here hx rfl (hb hby at_154) rfl (teq (by decide : ((-2 : Int32) = (-2 : Int32)))).2 ?_
      show Steps p.tables e below (T38.setTop (mkF m 157 #[.val (.int p0), .val (.int ((p0 &&& (2147483647 : Int32)) % (9 : Int32))), .val (.int (-2 : Int32)), .val (.ref s_RUNTIME_INCONSISTENCY), .val (.ref s_RUNTIME_INCONSISTENCY)] [])) _
      refine XS.iconst X38.here hx rfl (hb hby at_157) ?_
      show Steps p.tables e below (T38.setTop (mkF m 158 #[.val (.int p0), .val (.int ((p0 &&& (2147483647 : Int32)) % (9 : Int32))), .val (.int (-2 : Int32)), .val (.ref s_RUNTIME_INCONSISTENCY), .val (.ref s_RUNTIME_INCONSISTENCY)] [(.int (1 : Int32))])) _
      refine XS.goto X38.here hx rfl (pc0 := 158) (pc' := 162) rfl (hb hby at_158) (by decide) (by decide) ?_
      show Steps p.tables e below (T38.setTop (mkF m 162 #[.val (.int p0), .val (.int ((p0 &&& (2147483647 : Int32)) % (9 : Int32))), .val (.int (-2 : Int32)), .val (.ref s_RUNTIME_INCONSISTENCY), .val (.ref s_RUNTIME_INCONSISTENCY)] [(.int (1 : Int32))])) _
      exact k
    obtain ⟨fs, hr, hrun, hended, hW, hsame⟩ := X38.leave (v := some (.int (1 : Int32))) (fun h => by rw [Bd.returns] at h; cases h)
    refine Go.mk' ⟨_, _, retN X38 hx (t := .boolean) Bd.returns (by simp) (hb hby at_162) hr, hrun, hended, _, _, rfl, ?_, ⟨_, rfl⟩, hW, hsame.mono (by decide) (by decide)⟩
    show Q0 Z p0 h0 n0 _ T38.heap _
    rw [e38]
    exact ⟨rfl, N38⟩
  · refine Go.st (V' := s₁.setTop (mkF m 24 #[.val (.int p0), .val (.int ((p0 &&& (2147483647 : Int32)) % (9 : Int32))), .unset, .unset, .unset] [(.int (1 : Int32)), (.int ((p0 &&& (2147483647 : Int32)) % (9 : Int32)))])) (fun t k => ?_) ?_
    · refine XS.ifYes X0.here hx rfl (pc0 := 9) (pc' := 22) rfl (hb hby at_9) rfl ((if0 _ _).trans (feq hc34).2) (by decide) (by decide) ?_
      show Steps p.tables e below (s₁.setTop (mkF m 22 #[.val (.int p0), .val (.int ((p0 &&& (2147483647 : Int32)) % (9 : Int32))), .unset, .unset, .unset] [])) _
      refine XS.iloadN X0.here hx rfl (hb hby at_22) rfl  ?_
      show Steps p.tables e below (s₁.setTop (mkF m 23 #[.val (.int p0), .val (.int ((p0 &&& (2147483647 : Int32)) % (9 : Int32))), .unset, .unset, .unset] [(.int ((p0 &&& (2147483647 : Int32)) % (9 : Int32)))])) _
      refine XS.iconst X0.here hx rfl (hb hby at_23) ?_
      show Steps p.tables e below (s₁.setTop (mkF m 24 #[.val (.int p0), .val (.int ((p0 &&& (2147483647 : Int32)) % (9 : Int32))), .unset, .unset, .unset] [(.int (1 : Int32)), (.int ((p0 &&& (2147483647 : Int32)) % (9 : Int32)))])) _
      exact k
    by_cases hc39 : ((p0 &&& (2147483647 : Int32)) % (9 : Int32)) = (1 : Int32)
    · refine Go.st (V' := s₁.setTop (mkF m 30 #[.val (.int p0), .val (.int ((p0 &&& (2147483647 : Int32)) % (9 : Int32))), .val (.int (-6 : Int32)), .unset, .unset] [])) (fun t k => ?_) ?_
      · refine XS.icmpNo X0.here hx rfl (hb hby at_24) rfl (teq hc39).2 ?_
        show Steps p.tables e below (s₁.setTop (mkF m 27 #[.val (.int p0), .val (.int ((p0 &&& (2147483647 : Int32)) % (9 : Int32))), .unset, .unset, .unset] [])) _
        refine XS.bipush X0.here hx rfl (hb hby at_27) ?_
        show Steps p.tables e below (s₁.setTop (mkF m 29 #[.val (.int p0), .val (.int ((p0 &&& (2147483647 : Int32)) % (9 : Int32))), .unset, .unset, .unset] [(.int (-6 : Int32))])) _
        refine XS.istoreN X0.here hx rfl (hb hby at_29) rfl (l' := #[.val (.int p0), .val (.int ((p0 &&& (2147483647 : Int32)) % (9 : Int32))), .val (.int (-6 : Int32)), .unset, .unset]) rfl ?_
        show Steps p.tables e below (s₁.setTop (mkF m 30 #[.val (.int p0), .val (.int ((p0 &&& (2147483647 : Int32)) % (9 : Int32))), .val (.int (-6 : Int32)), .unset, .unset] [])) _
        exact k
      obtain ⟨T40, X40, e40, st40⟩ := getS2 X0 hx hZ hown (host := "") (Or.inl (hw _ (List.mem_of_getElem? (i := 39) rfl))) Via.refl e0 (S_UNIMPLEMENTED.ext O0.2) (g := (mkF m 30 #[.val (.int p0), .val (.int ((p0 &&& (2147483647 : Int32)) % (9 : Int32))), .val (.int (-6 : Int32)), .unset, .unset] [])) rfl (hb hby at_30)
      refine Go.st (V' := T40.setTop (mkF m 33 #[.val (.int p0), .val (.int ((p0 &&& (2147483647 : Int32)) % (9 : Int32))), .val (.int (-6 : Int32)), .unset, .unset] [(.ref s_UNIMPLEMENTED)])) (fun t k => st40 t k) ?_
      refine Go.st (V' := T40.setTop (mkF m 137 #[.val (.int p0), .val (.int ((p0 &&& (2147483647 : Int32)) % (9 : Int32))), .val (.int (-6 : Int32)), .val (.ref s_UNIMPLEMENTED), .unset] [(.int (-6 : Int32))])) (fun t k => ?_) ?_
      · refine XS.astoreN X40.here hx rfl (hb hby at_33) rfl rfl (l' := #[.val (.int p0), .val (.int ((p0 &&& (2147483647 : Int32)) % (9 : Int32))), .val (.int (-6 : Int32)), .val (.ref s_UNIMPLEMENTED), .unset]) rfl ?_
        show Steps p.tables e below (T40.setTop (mkF m 34 #[.val (.int p0), .val (.int ((p0 &&& (2147483647 : Int32)) % (9 : Int32))), .val (.int (-6 : Int32)), .val (.ref s_UNIMPLEMENTED), .unset] [])) _
        refine XS.goto X40.here hx rfl (pc0 := 34) (pc' := 136) rfl (hb hby at_34) (by decide) (by decide) ?_
        show Steps p.tables e below (T40.setTop (mkF m 136 #[.val (.int p0), .val (.int ((p0 &&& (2147483647 : Int32)) % (9 : Int32))), .val (.int (-6 : Int32)), .val (.ref s_UNIMPLEMENTED), .unset] [])) _
        refine XS.iloadN X40.here hx rfl (hb hby at_136) rfl  ?_
        show Steps p.tables e below (T40.setTop (mkF m 137 #[.val (.int p0), .val (.int ((p0 &&& (2147483647 : Int32)) % (9 : Int32))), .val (.int (-6 : Int32)), .val (.ref s_UNIMPLEMENTED), .unset] [(.int (-6 : Int32))])) _
        exact k
      obtain ⟨_, _, ⟨T41, L41, k41, n41⟩, -, X41, ⟨Lc41, hQ41, l41, y41, z41⟩, st41⟩ := Jvm.LawKit.callS X40 hx (y := (⟨"com/example/numtick/numtick/protocol/ErrorCode", "of", "(I)Lcom/example/numtick/numtick/protocol/ErrorCode;"⟩ : MethodName)) hown (mvT hZ (hw _ (List.mem_of_getElem? (i := 4) rfl))) (mvT hZ (hw _ (List.mem_of_getElem? (i := 5) rfl))) (mvT hZ (hw _ (List.mem_of_getElem? (i := 2) rfl))) (mvT hZ (hw _ (List.mem_of_getElem? (i := 6) rfl))) (by decide) (backOf (W := 0) (rm1 l Z a0 hw [] s_RUNTIME_INCONSISTENCY s_UNIMPLEMENTED s_BAD_ARGUMENTS s_NO_NODE s_NO_AUTH s_BAD_VERSION s_NO_CHILDREN_FOR_EPHEMERALS s_NODE_EXISTS s_NOT_EMPTY s_VALUES k_VALUES HW (-6 : Int32) h0 n0 O0 (by decide)) hZ (hw _ (List.mem_of_getElem? (i := 6) rfl)) (hw _ (List.mem_of_getElem? (i := 2) rfl)) (by decide) (by decide)) (g := (mkF m 137 #[.val (.int p0), .val (.int ((p0 &&& (2147483647 : Int32)) % (9 : Int32))), .val (.int (-6 : Int32)), .val (.ref s_UNIMPLEMENTED), .unset] [(.int (-6 : Int32))])) rfl (by rw [hml]; rfl) (argsL := [(.int (-6 : Int32))]) (rest := []) (lenOf own_pd30 rfl) rfl (by show 2 * 0 + _ ≤ _; exact Nat.le_of_eq rfl) (hb hby at_137) (fun _ _ => ⟨rfl, e40, (by decide : 0 + 1 ≤ _), (by decide : 0 + 9 ≤ _)⟩)
      dsimp only [Pt.U, Pt.locs, Pt.cells, Pt.slots] at X41 l41 y41 z41 st41 hQ41
      subst l41 y41 z41
      obtain ⟨rfl, N41q, K41⟩ := hQ41
      have N41 := Fr.app N0 N41q
      have O41 := O0.keep K41 all0
      refine Go.st (V' := T41.setTop (mkF m 140 #[.val (.int p0), .val (.int ((p0 &&& (2147483647 : Int32)) % (9 : Int32))), .val (.int (-6 : Int32)), .val (.ref s_UNIMPLEMENTED), .unset] [(.ref (f1 s_RUNTIME_INCONSISTENCY s_UNIMPLEMENTED s_BAD_ARGUMENTS s_NO_NODE s_NO_AUTH s_BAD_VERSION s_NO_CHILDREN_FOR_EPHEMERALS s_NODE_EXISTS s_NOT_EMPTY (-6 : Int32)))])) (fun t k => st41 t k) ?_
      have r42 : (f1 s_RUNTIME_INCONSISTENCY s_UNIMPLEMENTED s_BAD_ARGUMENTS s_NO_NODE s_NO_AUTH s_BAD_VERSION s_NO_CHILDREN_FOR_EPHEMERALS s_NODE_EXISTS s_NOT_EMPTY (-6 : Int32)) = s_UNIMPLEMENTED := by rw [f1, if_neg (by decide : ¬ ((-2 : Int32) = (-6 : Int32))), if_pos (by decide : ((-6 : Int32) = (-6 : Int32)))]
      rw [r42]
      refine Go.st (V' := T41.setTop (mkF m 150 #[.val (.int p0), .val (.int ((p0 &&& (2147483647 : Int32)) % (9 : Int32))), .val (.int (-6 : Int32)), .val (.ref s_UNIMPLEMENTED), .val (.ref s_UNIMPLEMENTED)] [(.ref s_UNIMPLEMENTED)])) (fun t k => ?_) ?_
      · refine XS.astore X41.here hx rfl (hb hby at_140) rfl rfl (l' := #[.val (.int p0), .val (.int ((p0 &&& (2147483647 : Int32)) % (9 : Int32))), .val (.int (-6 : Int32)), .val (.ref s_UNIMPLEMENTED), .val (.ref s_UNIMPLEMENTED)]) rfl ?_
        show Steps p.tables e below (T41.setTop (mkF m 142 #[.val (.int p0), .val (.int ((p0 &&& (2147483647 : Int32)) % (9 : Int32))), .val (.int (-6 : Int32)), .val (.ref s_UNIMPLEMENTED), .val (.ref s_UNIMPLEMENTED)] [])) _
        refine XS.aload X41.here hx rfl (hb hby at_142) rfl rfl ?_
        show Steps p.tables e below (T41.setTop (mkF m 144 #[.val (.int p0), .val (.int ((p0 &&& (2147483647 : Int32)) % (9 : Int32))), .val (.int (-6 : Int32)), .val (.ref s_UNIMPLEMENTED), .val (.ref s_UNIMPLEMENTED)] [(.ref s_UNIMPLEMENTED)])) _
        refine XS.aloadN X41.here hx rfl (hb hby at_144) rfl rfl ?_
        show Steps p.tables e below (T41.setTop (mkF m 145 #[.val (.int p0), .val (.int ((p0 &&& (2147483647 : Int32)) % (9 : Int32))), .val (.int (-6 : Int32)), .val (.ref s_UNIMPLEMENTED), .val (.ref s_UNIMPLEMENTED)] [(.ref s_UNIMPLEMENTED), (.ref s_UNIMPLEMENTED)])) _
        refine Jvm.RoadKit.acmp (g := (mkF m 145 #[.val (.int p0), .val (.int ((p0 &&& (2147483647 : Int32)) % (9 : Int32))), .val (.int (-6 : Int32)), .val (.ref s_UNIMPLEMENTED), .val (.ref s_UNIMPLEMENTED)] [(.ref s_UNIMPLEMENTED), (.ref s_UNIMPLEMENTED)])) X41 hx rfl rfl rfl (pc0 := 145) (pc' := 148) (same := true) rfl (hb hby at_145) rfl (decide_eq_true (congrArg Value.ref rfl)) (by decide) (by decide) ?_
        show Steps p.tables e below (T41.setTop (mkF m 148 #[.val (.int p0), .val (.int ((p0 &&& (2147483647 : Int32)) % (9 : Int32))), .val (.int (-6 : Int32)), .val (.ref s_UNIMPLEMENTED), .val (.ref s_UNIMPLEMENTED)] [])) _
        refine XS.aload X41.here hx rfl (hb hby at_148) rfl rfl ?_
        show Steps p.tables e below (T41.setTop (mkF m 150 #[.val (.int p0), .val (.int ((p0 &&& (2147483647 : Int32)) % (9 : Int32))), .val (.int (-6 : Int32)), .val (.ref s_UNIMPLEMENTED), .val (.ref s_UNIMPLEMENTED)] [(.ref s_UNIMPLEMENTED)])) _
        exact k
      obtain ⟨cq43, kq43, q43a, q43b, q43c⟩ := isOf hZ rfl (E_UNIMPLEMENTED.ext O41.2)
      obtain ⟨_, _, ⟨T43, L43, k43, n43⟩, -, X43, ⟨Lc43, hQ43, l43, y43, z43⟩, st43⟩ := X41.virtualBack hx (y := (⟨"com/example/numtick/numtick/protocol/ErrorCode", "code", "()I"⟩ : MethodName)) (z := (⟨"com/example/numtick/numtick/protocol/ErrorCode", "code", "()I"⟩ : MethodName)) hown (mvT hZ (hw _ (List.mem_of_getElem? (i := 32) rfl))) (mvT hZ (hw _ (List.mem_of_getElem? (i := 33) rfl))) (notFace_of_selects (args := #[]) (mvT hZ (hw _ (List.mem_of_getElem? (i := 35) rfl)))) (mvT hZ (hw _ (List.mem_of_getElem? (i := 35) rfl))) (mvT hZ (hw _ (List.mem_of_getElem? (i := 34) rfl))) (by decide) (backOf (W := 0) (rm3 l Z a0 hw [] s_RUNTIME_INCONSISTENCY s_UNIMPLEMENTED s_BAD_ARGUMENTS s_NO_NODE s_NO_AUTH s_BAD_VERSION s_NO_CHILDREN_FOR_EPHEMERALS s_NODE_EXISTS s_NOT_EMPTY s_VALUES k_VALUES HW s_UNIMPLEMENTED (-6 : Int32) T41.heap n0 O41 (F_UNIMPLEMENTED_code.ext O41.2)) hZ (hw _ (List.mem_of_getElem? (i := 36) rfl)) (hw _ (List.mem_of_getElem? (i := 2) rfl)) (by decide) (by decide)) q43a q43c (g := (mkF m 150 #[.val (.int p0), .val (.int ((p0 &&& (2147483647 : Int32)) % (9 : Int32))), .val (.int (-6 : Int32)), .val (.ref s_UNIMPLEMENTED), .val (.ref s_UNIMPLEMENTED)] [(.ref s_UNIMPLEMENTED)])) rfl (by rw [hml]; rfl) (Steps.refl _) (argsL := []) (rest := []) (lenOf own_pd31 rfl) rfl (by show 2 * 0 + _ ≤ _; exact Nat.le_of_eq rfl) (hb hby at_150) (fun _ _ => ⟨rfl, rfl, (by decide : 1 + 0 ≤ _), (by decide : 9 + 0 ≤ _)⟩)
      dsimp only [Pt.U, Pt.locs, Pt.cells, Pt.slots] at X43 l43 y43 z43 st43 hQ43
      subst l43 y43 z43
      obtain ⟨rfl, N43q, e43⟩ := hQ43
      have N43 := Fr.app N41 N43q
      refine Go.st (V' := T43.setTop (mkF m 153 #[.val (.int p0), .val (.int ((p0 &&& (2147483647 : Int32)) % (9 : Int32))), .val (.int (-6 : Int32)), .val (.ref s_UNIMPLEMENTED), .val (.ref s_UNIMPLEMENTED)] [(.int (-6 : Int32))])) (fun t k => st43.trans k) ?_
      refine Go.st (V' := T43.setTop (mkF m 162 #[.val (.int p0), .val (.int ((p0 &&& (2147483647 : Int32)) % (9 : Int32))), .val (.int (-6 : Int32)), .val (.ref s_UNIMPLEMENTED), .val (.ref s_UNIMPLEMENTED)] [(.int (1 : Int32))])) (fun t k => ?_) ?_
      · refine XS.iloadN X43.here hx rfl (hb hby at_153) rfl  ?_
        show Steps p.tables e below (T43.setTop (mkF m 154 #[.val (.int p0), .val (.int ((p0 &&& (2147483647 : Int32)) % (9 : Int32))), .val (.int (-6 : Int32)), .val (.ref s_UNIMPLEMENTED), .val (.ref s_UNIMPLEMENTED)] [(.int (-6 : Int32)), (.int (-6 : Int32))])) _
        refine XS.icmpNo X43.here hx rfl (hb hby at_154) rfl (teq (by decide : ((-6 : Int32) = (-6 : Int32)))).2 ?_
        show Steps p.tables e below (T43.setTop (mkF m 157 #[.val (.int p0), .val (.int ((p0 &&& (2147483647 : Int32)) % (9 : Int32))), .val (.int (-6 : Int32)), .val (.ref s_UNIMPLEMENTED), .val (.ref s_UNIMPLEMENTED)] [])) _
        refine XS.iconst X43.here hx rfl (hb hby at_157) ?_
        show Steps p.tables e below (T43.setTop (mkF m 158 #[.val (.int p0), .val (.int ((p0 &&& (2147483647 : Int32)) % (9 : Int32))), .val (.int (-6 : Int32)), .val (.ref s_UNIMPLEMENTED), .val (.ref s_UNIMPLEMENTED)] [(.int (1 : Int32))])) _
        refine XS.goto X43.here hx rfl (pc0 := 158) (pc' := 162) rfl (hb hby at_158) (by decide) (by decide) ?_
        show Steps p.tables e below (T43.setTop (mkF m 162 #[.val (.int p0), .val (.int ((p0 &&& (2147483647 : Int32)) % (9 : Int32))), .val (.int (-6 : Int32)), .val (.ref s_UNIMPLEMENTED), .val (.ref s_UNIMPLEMENTED)] [(.int (1 : Int32))])) _
        exact k
      obtain ⟨fs, hr, hrun, hended, hW, hsame⟩ := X43.leave (v := some (.int (1 : Int32))) (fun h => by rw [Bd.returns] at h; cases h)
      refine Go.mk' ⟨_, _, retN X43 hx (t := .boolean) Bd.returns (by simp) (hb hby at_162) hr, hrun, hended, _, _, rfl, ?_, ⟨_, rfl⟩, hW, hsame.mono (by decide) (by decide)⟩
      show Q0 Z p0 h0 n0 _ T43.heap _
      rw [e43]
      exact ⟨rfl, N43⟩
    · refine Go.st (V' := s₁.setTop (mkF m 39 #[.val (.int p0), .val (.int ((p0 &&& (2147483647 : Int32)) % (9 : Int32))), .unset, .unset, .unset] [(.int (2 : Int32)), (.int ((p0 &&& (2147483647 : Int32)) % (9 : Int32)))])) (fun t k => ?_) ?_
      · refine XS.icmpYes X0.here hx rfl (pc0 := 24) (pc' := 37) rfl (hb hby at_24) rfl (feq hc39).2 (by decide) (by decide) ?_
        show Steps p.tables e below (s₁.setTop (mkF m 37 #[.val (.int p0), .val (.int ((p0 &&& (2147483647 : Int32)) % (9 : Int32))), .unset, .unset, .unset] [])) _
        refine XS.iloadN X0.here hx rfl (hb hby at_37) rfl  ?_
        show Steps p.tables e below (s₁.setTop (mkF m 38 #[.val (.int p0), .val (.int ((p0 &&& (2147483647 : Int32)) % (9 : Int32))), .unset, .unset, .unset] [(.int ((p0 &&& (2147483647 : Int32)) % (9 : Int32)))])) _
        refine XS.iconst X0.here hx rfl (hb hby at_38) ?_
        show Steps p.tables e below (s₁.setTop (mkF m 39 #[.val (.int p0), .val (.int ((p0 &&& (2147483647 : Int32)) % (9 : Int32))), .unset, .unset, .unset] [(.int (2 : Int32)), (.int ((p0 &&& (2147483647 : Int32)) % (9 : Int32)))])) _
        exact k
      by_cases hc44 : ((p0 &&& (2147483647 : Int32)) % (9 : Int32)) = (2 : Int32)
      · refine Go.st (V' := s₁.setTop (mkF m 45 #[.val (.int p0), .val (.int ((p0 &&& (2147483647 : Int32)) % (9 : Int32))), .val (.int (-8 : Int32)), .unset, .unset] [])) (fun t k => ?_) ?_
        · refine XS.icmpNo X0.here hx rfl (hb hby at_39) rfl (teq hc44).2 ?_
          show Steps p.tables e below (s₁.setTop (mkF m 42 #[.val (.int p0), .val (.int ((p0 &&& (2147483647 : Int32)) % (9 : Int32))), .unset, .unset, .unset] [])) _
          refine XS.bipush X0.here hx rfl (hb hby at_42) ?_
          show Steps p.tables e below (s₁.setTop (mkF m 44 #[.val (.int p0), .val (.int ((p0 &&& (2147483647 : Int32)) % (9 : Int32))), .unset, .unset, .unset] [(.int (-8 : Int32))])) _
          refine XS.istoreN X0.here hx rfl (hb hby at_44) rfl (l' := #[.val (.int p0), .val (.int ((p0 &&& (2147483647 : Int32)) % (9 : Int32))), .val (.int (-8 : Int32)), .unset, .unset]) rfl ?_
          show Steps p.tables e below (s₁.setTop (mkF m 45 #[.val (.int p0), .val (.int ((p0 &&& (2147483647 : Int32)) % (9 : Int32))), .val (.int (-8 : Int32)), .unset, .unset] [])) _
          exact k
        obtain ⟨T45, X45, e45, st45⟩ := getS2 X0 hx hZ hown (host := "") (Or.inl (hw _ (List.mem_of_getElem? (i := 38) rfl))) Via.refl e0 (S_BAD_ARGUMENTS.ext O0.2) (g := (mkF m 45 #[.val (.int p0), .val (.int ((p0 &&& (2147483647 : Int32)) % (9 : Int32))), .val (.int (-8 : Int32)), .unset, .unset] [])) rfl (hb hby at_45)
        refine Go.st (V' := T45.setTop (mkF m 48 #[.val (.int p0), .val (.int ((p0 &&& (2147483647 : Int32)) % (9 : Int32))), .val (.int (-8 : Int32)), .unset, .unset] [(.ref s_BAD_ARGUMENTS)])) (fun t k => st45 t k) ?_
        refine Go.st (V' := T45.setTop (mkF m 137 #[.val (.int p0), .val (.int ((p0 &&& (2147483647 : Int32)) % (9 : Int32))), .val (.int (-8 : Int32)), .val (.ref s_BAD_ARGUMENTS), .unset] [(.int (-8 : Int32))])) (fun t k => ?_) ?_
        · refine XS.astoreN X45.here hx rfl (hb hby at_48) rfl rfl (l' := #[.val (.int p0), .val (.int ((p0 &&& (2147483647 : Int32)) % (9 : Int32))), .val (.int (-8 : Int32)), .val (.ref s_BAD_ARGUMENTS), .unset]) rfl ?_
          show Steps p.tables e below (T45.setTop (mkF m 49 #[.val (.int p0), .val (.int ((p0 &&& (2147483647 : Int32)) % (9 : Int32))), .val (.int (-8 : Int32)), .val (.ref s_BAD_ARGUMENTS), .unset] [])) _
          refine XS.goto X45.here hx rfl (pc0 := 49) (pc' := 136) rfl (hb hby at_49) (by decide) (by decide) ?_
          show Steps p.tables e below (T45.setTop (mkF m 136 #[.val (.int p0), .val (.int ((p0 &&& (2147483647 : Int32)) % (9 : Int32))), .val (.int (-8 : Int32)), .val (.ref s_BAD_ARGUMENTS), .unset] [])) _
          refine XS.iloadN X45.here hx rfl (hb hby at_136) rfl  ?_
          show Steps p.tables e below (T45.setTop (mkF m 137 #[.val (.int p0), .val (.int ((p0 &&& (2147483647 : Int32)) % (9 : Int32))), .val (.int (-8 : Int32)), .val (.ref s_BAD_ARGUMENTS), .unset] [(.int (-8 : Int32))])) _
          exact k
        obtain ⟨_, _, ⟨T46, L46, k46, n46⟩, -, X46, ⟨Lc46, hQ46, l46, y46, z46⟩, st46⟩ := Jvm.LawKit.callS X45 hx (y := (⟨"com/example/numtick/numtick/protocol/ErrorCode", "of", "(I)Lcom/example/numtick/numtick/protocol/ErrorCode;"⟩ : MethodName)) hown (mvT hZ (hw _ (List.mem_of_getElem? (i := 4) rfl))) (mvT hZ (hw _ (List.mem_of_getElem? (i := 5) rfl))) (mvT hZ (hw _ (List.mem_of_getElem? (i := 2) rfl))) (mvT hZ (hw _ (List.mem_of_getElem? (i := 6) rfl))) (by decide) (backOf (W := 0) (rm1 l Z a0 hw [] s_RUNTIME_INCONSISTENCY s_UNIMPLEMENTED s_BAD_ARGUMENTS s_NO_NODE s_NO_AUTH s_BAD_VERSION s_NO_CHILDREN_FOR_EPHEMERALS s_NODE_EXISTS s_NOT_EMPTY s_VALUES k_VALUES HW (-8 : Int32) h0 n0 O0 (by decide)) hZ (hw _ (List.mem_of_getElem? (i := 6) rfl)) (hw _ (List.mem_of_getElem? (i := 2) rfl)) (by decide) (by decide)) (g := (mkF m 137 #[.val (.int p0), .val (.int ((p0 &&& (2147483647 : Int32)) % (9 : Int32))), .val (.int (-8 : Int32)), .val (.ref s_BAD_ARGUMENTS), .unset] [(.int (-8 : Int32))])) rfl (by rw [hml]; rfl) (argsL := [(.int (-8 : Int32))]) (rest := []) (lenOf own_pd30 rfl) rfl (by show 2 * 0 + _ ≤ _; exact Nat.le_of_eq rfl) (hb hby at_137) (fun _ _ => ⟨rfl, e45, (by decide : 0 + 1 ≤ _), (by decide : 0 + 9 ≤ _)⟩)
        dsimp only [Pt.U, Pt.locs, Pt.cells, Pt.slots] at X46 l46 y46 z46 st46 hQ46
        subst l46 y46 z46
        obtain ⟨rfl, N46q, K46⟩ := hQ46
        have N46 := Fr.app N0 N46q
        have O46 := O0.keep K46 all0
        refine Go.st (V' := T46.setTop (mkF m 140 #[.val (.int p0), .val (.int ((p0 &&& (2147483647 : Int32)) % (9 : Int32))), .val (.int (-8 : Int32)), .val (.ref s_BAD_ARGUMENTS), .unset] [(.ref (f1 s_RUNTIME_INCONSISTENCY s_UNIMPLEMENTED s_BAD_ARGUMENTS s_NO_NODE s_NO_AUTH s_BAD_VERSION s_NO_CHILDREN_FOR_EPHEMERALS s_NODE_EXISTS s_NOT_EMPTY (-8 : Int32)))])) (fun t k => st46 t k) ?_
        have r47 : (f1 s_RUNTIME_INCONSISTENCY s_UNIMPLEMENTED s_BAD_ARGUMENTS s_NO_NODE s_NO_AUTH s_BAD_VERSION s_NO_CHILDREN_FOR_EPHEMERALS s_NODE_EXISTS s_NOT_EMPTY (-8 : Int32)) = s_BAD_ARGUMENTS := by rw [f1, if_neg (by decide : ¬ ((-2 : Int32) = (-8 : Int32))), if_neg (by decide : ¬ ((-6 : Int32) = (-8 : Int32))), if_pos (by decide : ((-8 : Int32) = (-8 : Int32)))]
        rw [r47]
        refine Go.st (V' := T46.setTop (mkF m 150 #[.val (.int p0), .val (.int ((p0 &&& (2147483647 : Int32)) % (9 : Int32))), .val (.int (-8 : Int32)), .val (.ref s_BAD_ARGUMENTS), .val (.ref s_BAD_ARGUMENTS)] [(.ref s_BAD_ARGUMENTS)])) (fun t k => ?_) ?_
        · refine XS.astore X46.here hx rfl (hb hby at_140) rfl rfl (l' := #[.val (.int p0), .val (.int ((p0 &&& (2147483647 : Int32)) % (9 : Int32))), .val (.int (-8 : Int32)), .val (.ref s_BAD_ARGUMENTS), .val (.ref s_BAD_ARGUMENTS)]) rfl ?_
          show Steps p.tables e below (T46.setTop (mkF m 142 #[.val (.int p0), .val (.int ((p0 &&& (2147483647 : Int32)) % (9 : Int32))), .val (.int (-8 : Int32)), .val (.ref s_BAD_ARGUMENTS), .val (.ref s_BAD_ARGUMENTS)] [])) _
          refine XS.aload X46.here hx rfl (hb hby at_142) rfl rfl ?_
          show Steps p.tables e below (T46.setTop (mkF m 144 #[.val (.int p0), .val (.int ((p0 &&& (2147483647 : Int32)) % (9 : Int32))), .val (.int (-8 : Int32)), .val (.ref s_BAD_ARGUMENTS), .val (.ref s_BAD_ARGUMENTS)] [(.ref s_BAD_ARGUMENTS)])) _
          refine XS.aloadN X46.here hx rfl (hb hby at_144) rfl rfl ?_
          show Steps p.tables e below (T46.setTop (mkF m 145 #[.val (.int p0), .val (.int ((p0 &&& (2147483647 : Int32)) % (9 : Int32))), .val (.int (-8 : Int32)), .val (.ref s_BAD_ARGUMENTS), .val (.ref s_BAD_ARGUMENTS)] [(.ref s_BAD_ARGUMENTS), (.ref s_BAD_ARGUMENTS)])) _
          refine Jvm.RoadKit.acmp (g := (mkF m 145 #[.val (.int p0), .val (.int ((p0 &&& (2147483647 : Int32)) % (9 : Int32))), .val (.int (-8 : Int32)), .val (.ref s_BAD_ARGUMENTS), .val (.ref s_BAD_ARGUMENTS)] [(.ref s_BAD_ARGUMENTS), (.ref s_BAD_ARGUMENTS)])) X46 hx rfl rfl rfl (pc0 := 145) (pc' := 148) (same := true) rfl (hb hby at_145) rfl (decide_eq_true (congrArg Value.ref rfl)) (by decide) (by decide) ?_
          show Steps p.tables e below (T46.setTop (mkF m 148 #[.val (.int p0), .val (.int ((p0 &&& (2147483647 : Int32)) % (9 : Int32))), .val (.int (-8 : Int32)), .val (.ref s_BAD_ARGUMENTS), .val (.ref s_BAD_ARGUMENTS)] [])) _
          refine XS.aload X46.here hx rfl (hb hby at_148) rfl rfl ?_
          show Steps p.tables e below (T46.setTop (mkF m 150 #[.val (.int p0), .val (.int ((p0 &&& (2147483647 : Int32)) % (9 : Int32))), .val (.int (-8 : Int32)), .val (.ref s_BAD_ARGUMENTS), .val (.ref s_BAD_ARGUMENTS)] [(.ref s_BAD_ARGUMENTS)])) _
          exact k
        obtain ⟨cq48, kq48, q48a, q48b, q48c⟩ := isOf hZ rfl (E_BAD_ARGUMENTS.ext O46.2)
        obtain ⟨_, _, ⟨T48, L48, k48, n48⟩, -, X48, ⟨Lc48, hQ48, l48, y48, z48⟩, st48⟩ := X46.virtualBack hx (y := (⟨"com/example/numtick/numtick/protocol/ErrorCode", "code", "()I"⟩ : MethodName)) (z := (⟨"com/example/numtick/numtick/protocol/ErrorCode", "code", "()I"⟩ : MethodName)) hown (mvT hZ (hw _ (List.mem_of_getElem? (i := 32) rfl))) (mvT hZ (hw _ (List.mem_of_getElem? (i := 33) rfl))) (notFace_of_selects (args := #[]) (mvT hZ (hw _ (List.mem_of_getElem? (i := 35) rfl)))) (mvT hZ (hw _ (List.mem_of_getElem? (i := 35) rfl))) (mvT hZ (hw _ (List.mem_of_getElem? (i := 34) rfl))) (by decide) (backOf (W := 0) (rm3 l Z a0 hw [] s_RUNTIME_INCONSISTENCY s_UNIMPLEMENTED s_BAD_ARGUMENTS s_NO_NODE s_NO_AUTH s_BAD_VERSION s_NO_CHILDREN_FOR_EPHEMERALS s_NODE_EXISTS s_NOT_EMPTY s_VALUES k_VALUES HW s_BAD_ARGUMENTS (-8 : Int32) T46.heap n0 O46 (F_BAD_ARGUMENTS_code.ext O46.2)) hZ (hw _ (List.mem_of_getElem? (i := 36) rfl)) (hw _ (List.mem_of_getElem? (i := 2) rfl)) (by decide) (by decide)) q48a q48c (g := (mkF m 150 #[.val (.int p0), .val (.int ((p0 &&& (2147483647 : Int32)) % (9 : Int32))), .val (.int (-8 : Int32)), .val (.ref s_BAD_ARGUMENTS), .val (.ref s_BAD_ARGUMENTS)] [(.ref s_BAD_ARGUMENTS)])) rfl (by rw [hml]; rfl) (Steps.refl _) (argsL := []) (rest := []) (lenOf own_pd31 rfl) rfl (by show 2 * 0 + _ ≤ _; exact Nat.le_of_eq rfl) (hb hby at_150) (fun _ _ => ⟨rfl, rfl, (by decide : 1 + 0 ≤ _), (by decide : 9 + 0 ≤ _)⟩)
        dsimp only [Pt.U, Pt.locs, Pt.cells, Pt.slots] at X48 l48 y48 z48 st48 hQ48
        subst l48 y48 z48
        obtain ⟨rfl, N48q, e48⟩ := hQ48
        have N48 := Fr.app N46 N48q
        refine Go.st (V' := T48.setTop (mkF m 153 #[.val (.int p0), .val (.int ((p0 &&& (2147483647 : Int32)) % (9 : Int32))), .val (.int (-8 : Int32)), .val (.ref s_BAD_ARGUMENTS), .val (.ref s_BAD_ARGUMENTS)] [(.int (-8 : Int32))])) (fun t k => st48.trans k) ?_
        refine Go.st (V' := T48.setTop (mkF m 162 #[.val (.int p0), .val (.int ((p0 &&& (2147483647 : Int32)) % (9 : Int32))), .val (.int (-8 : Int32)), .val (.ref s_BAD_ARGUMENTS), .val (.ref s_BAD_ARGUMENTS)] [(.int (1 : Int32))])) (fun t k => ?_) ?_
        · refine XS.iloadN X48.here hx rfl (hb hby at_153) rfl  ?_
          show Steps p.tables e below (T48.setTop (mkF m 154 #[.val (.int p0), .val (.int ((p0 &&& (2147483647 : Int32)) % (9 : Int32))), .val (.int (-8 : Int32)), .val (.ref s_BAD_ARGUMENTS), .val (.ref s_BAD_ARGUMENTS)] [(.int (-8 : Int32)), (.int (-8 : Int32))])) _
          refine XS.icmpNo X48.here hx rfl (hb hby at_154) rfl (teq (by decide : ((-8 : Int32) = (-8 : Int32)))).2 ?_
          show Steps p.tables e below (T48.setTop (mkF m 157 #[.val (.int p0), .val (.int ((p0 &&& (2147483647 : Int32)) % (9 : Int32))), .val (.int (-8 : Int32)), .val (.ref s_BAD_ARGUMENTS), .val (.ref s_BAD_ARGUMENTS)] [])) _
          refine XS.iconst X48.here hx rfl (hb hby at_157) ?_
          show Steps p.tables e below (T48.setTop (mkF m 158 #[.val (.int p0), .val (.int ((p0 &&& (2147483647 : Int32)) % (9 : Int32))), .val (.int (-8 : Int32)), .val (.ref s_BAD_ARGUMENTS), .val (.ref s_BAD_ARGUMENTS)] [(.int (1 : Int32))])) _
          refine XS.goto X48.here hx rfl (pc0 := 158) (pc' := 162) rfl (hb hby at_158) (by decide) (by decide) ?_
          show Steps p.tables e below (T48.setTop (mkF m 162 #[.val (.int p0), .val (.int ((p0 &&& (2147483647 : Int32)) % (9 : Int32))), .val (.int (-8 : Int32)), .val (.ref s_BAD_ARGUMENTS), .val (.ref s_BAD_ARGUMENTS)] [(.int (1 : Int32))])) _
          exact k
        obtain ⟨fs, hr, hrun, hended, hW, hsame⟩ := X48.leave (v := some (.int (1 : Int32))) (fun h => by rw [Bd.returns] at h; cases h)
        refine Go.mk' ⟨_, _, retN X48 hx (t := .boolean) Bd.returns (by simp) (hb hby at_162) hr, hrun, hended, _, _, rfl, ?_, ⟨_, rfl⟩, hW, hsame.mono (by decide) (by decide)⟩
        show Q0 Z p0 h0 n0 _ T48.heap _
        rw [e48]
        exact ⟨rfl, N48⟩
      · refine Go.st (V' := s₁.setTop (mkF m 54 #[.val (.int p0), .val (.int ((p0 &&& (2147483647 : Int32)) % (9 : Int32))), .unset, .unset, .unset] [(.int (3 : Int32)), (.int ((p0 &&& (2147483647 : Int32)) % (9 : Int32)))])) (fun t k => ?_) ?_
        · refine XS.icmpYes X0.here hx rfl (pc0 := 39) (pc' := 52) rfl (hb hby at_39) rfl (feq hc44).2 (by decide) (by decide) ?_
          show Steps p.tables e below (s₁.setTop (mkF m 52 #[.val (.int p0), .val (.int ((p0 &&& (2147483647 : Int32)) % (9 : Int32))), .unset, .unset, .unset] [])) _
          refine XS.iloadN X0.here hx rfl (hb hby at_52) rfl  ?_
          show Steps p.tables e below (s₁.setTop (mkF m 53 #[.val (.int p0), .val (.int ((p0 &&& (2147483647 : Int32)) % (9 : Int32))), .unset, .unset, .unset] [(.int ((p0 &&& (2147483647 : Int32)) % (9 : Int32)))])) _
          refine XS.iconst X0.here hx rfl (hb hby at_53) ?_
          show Steps p.tables e below (s₁.setTop (mkF m 54 #[.val (.int p0), .val (.int ((p0 &&& (2147483647 : Int32)) % (9 : Int32))), .unset, .unset, .unset] [(.int (3 : Int32)), (.int ((p0 &&& (2147483647 : Int32)) % (9 : Int32)))])) _
          exact k
        by_cases hc49 : ((p0 &&& (2147483647 : Int32)) % (9 : Int32)) = (3 : Int32)
        · refine Go.st (V' := s₁.setTop (mkF m 60 #[.val (.int p0), .val (.int ((p0 &&& (2147483647 : Int32)) % (9 : Int32))), .val (.int (-101 : Int32)), .unset, .unset] [])) (fun t k => ?_) ?_
          · refine XS.icmpNo X0.here hx rfl (hb hby at_54) rfl (teq hc49).2 ?_
            show Steps p.tables e below (s₁.setTop (mkF m 57 #[.val (.int p0), .val (.int ((p0 &&& (2147483647 : Int32)) % (9 : Int32))), .unset, .unset, .unset] [])) _
            refine XS.bipush X0.here hx rfl (hb hby at_57) ?_
            show Steps p.tables e below (s₁.setTop (mkF m 59 #[.val (.int p0), .val (.int ((p0 &&& (2147483647 : Int32)) % (9 : Int32))), .unset, .unset, .unset] [(.int (-101 : Int32))])) _
            refine XS.istoreN X0.here hx rfl (hb hby at_59) rfl (l' := #[.val (.int p0), .val (.int ((p0 &&& (2147483647 : Int32)) % (9 : Int32))), .val (.int (-101 : Int32)), .unset, .unset]) rfl ?_
            show Steps p.tables e below (s₁.setTop (mkF m 60 #[.val (.int p0), .val (.int ((p0 &&& (2147483647 : Int32)) % (9 : Int32))), .val (.int (-101 : Int32)), .unset, .unset] [])) _
            exact k
          obtain ⟨T50, X50, e50, st50⟩ := getS2 X0 hx hZ hown (host := "") (Or.inl (hw _ (List.mem_of_getElem? (i := 37) rfl))) Via.refl e0 (S_NO_NODE.ext O0.2) (g := (mkF m 60 #[.val (.int p0), .val (.int ((p0 &&& (2147483647 : Int32)) % (9 : Int32))), .val (.int (-101 : Int32)), .unset, .unset] [])) rfl (hb hby at_60)
          refine Go.st (V' := T50.setTop (mkF m 63 #[.val (.int p0), .val (.int ((p0 &&& (2147483647 : Int32)) % (9 : Int32))), .val (.int (-101 : Int32)), .unset, .unset] [(.ref s_NO_NODE)])) (fun t k => st50 t k) ?_
          refine Go.st (V' := T50.setTop (mkF m 137 #[.val (.int p0), .val (.int ((p0 &&& (2147483647 : Int32)) % (9 : Int32))), .val (.int (-101 : Int32)), .val (.ref s_NO_NODE), .unset] [(.int (-101 : Int32))])) (fun t k => ?_) ?_
          · refine XS.astoreN X50.here hx rfl (hb hby at_63) rfl rfl (l' := #[.val (.int p0), .val (.int ((p0 &&& (2147483647 : Int32)) % (9 : Int32))), .val (.int (-101 : Int32)), .val (.ref s_NO_NODE), .unset]) rfl ?_
            show Steps p.tables e below (T50.setTop (mkF m 64 #[.val (.int p0), .val (.int ((p0 &&& (2147483647 : Int32)) % (9 : Int32))), .val (.int (-101 : Int32)), .val (.ref s_NO_NODE), .unset] [])) _
            refine XS.goto X50.here hx rfl (pc0 := 64) (pc' := 136) rfl (hb hby at_64) (by decide) (by decide) ?_
            show Steps p.tables e below (T50.setTop (mkF m 136 #[.val (.int p0), .val (.int ((p0 &&& (2147483647 : Int32)) % (9 : Int32))), .val (.int (-101 : Int32)), .val (.ref s_NO_NODE), .unset] [])) _
            refine XS.iloadN X50.here hx rfl (hb hby at_136) rfl  ?_
            show Steps p.tables e below (T50.setTop (mkF m 137 #[.val (.int p0), .val (.int ((p0 &&& (2147483647 : Int32)) % (9 : Int32))), .val (.int (-101 : Int32)), .val (.ref s_NO_NODE), .unset] [(.int (-101 : Int32))])) _
            exact k
          obtain ⟨_, _, ⟨T51, L51, k51, n51⟩, -, X51, ⟨Lc51, hQ51, l51, y51, z51⟩, st51⟩ := Jvm.LawKit.callS X50 hx (y := (⟨"com/example/numtick/numtick/protocol/ErrorCode", "of", "(I)Lcom/example/numtick/numtick/protocol/ErrorCode;"⟩ : MethodName)) hown (mvT hZ (hw _ (List.mem_of_getElem? (i := 4) rfl))) (mvT hZ (hw _ (List.mem_of_getElem? (i := 5) rfl))) (mvT hZ (hw _ (List.mem_of_getElem? (i := 2) rfl))) (mvT hZ (hw _ (List.mem_of_getElem? (i := 6) rfl))) (by decide) (backOf (W := 0) (rm1 l Z a0 hw [] s_RUNTIME_INCONSISTENCY s_UNIMPLEMENTED s_BAD_ARGUMENTS s_NO_NODE s_NO_AUTH s_BAD_VERSION s_NO_CHILDREN_FOR_EPHEMERALS s_NODE_EXISTS s_NOT_EMPTY s_VALUES k_VALUES HW (-101 : Int32) h0 n0 O0 (by decide)) hZ (hw _ (List.mem_of_getElem? (i := 6) rfl)) (hw _ (List.mem_of_getElem? (i := 2) rfl)) (by decide) (by decide)) (g := (mkF m 137 #[.val (.int p0), .val (.int ((p0 &&& (2147483647 : Int32)) % (9 : Int32))), .val (.int (-101 : Int32)), .val (.ref s_NO_NODE), .unset] [(.int (-101 : Int32))])) rfl (by rw [hml]; rfl) (argsL := [(.int (-101 : Int32))]) (rest := []) (lenOf own_pd30 rfl) rfl (by show 2 * 0 + _ ≤ _; exact Nat.le_of_eq rfl) (hb hby at_137) (fun _ _ => ⟨rfl, e50, (by decide : 0 + 1 ≤ _), (by decide : 0 + 9 ≤ _)⟩)
          dsimp only [Pt.U, Pt.locs, Pt.cells, Pt.slots] at X51 l51 y51 z51 st51 hQ51
          subst l51 y51 z51
          obtain ⟨rfl, N51q, K51⟩ := hQ51
          have N51 := Fr.app N0 N51q
          have O51 := O0.keep K51 all0
          refine Go.st (V' := T51.setTop (mkF m 140 #[.val (.int p0), .val (.int ((p0 &&& (2147483647 : Int32)) % (9 : Int32))), .val (.int (-101 : Int32)), .val (.ref s_NO_NODE), .unset] [(.ref (f1 s_RUNTIME_INCONSISTENCY s_UNIMPLEMENTED s_BAD_ARGUMENTS s_NO_NODE s_NO_AUTH s_BAD_VERSION s_NO_CHILDREN_FOR_EPHEMERALS s_NODE_EXISTS s_NOT_EMPTY (-101 : Int32)))])) (fun t k => st51 t k) ?_
          have r52 : (f1 s_RUNTIME_INCONSISTENCY s_UNIMPLEMENTED s_BAD_ARGUMENTS s_NO_NODE s_NO_AUTH s_BAD_VERSION s_NO_CHILDREN_FOR_EPHEMERALS s_NODE_EXISTS s_NOT_EMPTY (-101 : Int32)) = s_NO_NODE := by rw [f1, if_neg (by decide : ¬ ((-2 : Int32) = (-101 : Int32))), if_neg (by decide : ¬ ((-6 : Int32) = (-101 : Int32))), if_neg (by decide : ¬ ((-8 : Int32) = (-101 : Int32))), if_pos (by decide : ((-101 : Int32) = (-101 : Int32)))]
          rw [r52]
          refine Go.st (V' := T51.setTop (mkF m 150 #[.val (.int p0), .val (.int ((p0 &&& (2147483647 : Int32)) % (9 : Int32))), .val (.int (-101 : Int32)), .val (.ref s_NO_NODE), .val (.ref s_NO_NODE)] [(.ref s_NO_NODE)])) (fun t k => ?_) ?_
          · refine XS.astore X51.here hx rfl (hb hby at_140) rfl rfl (l' := #[.val (.int p0), .val (.int ((p0 &&& (2147483647 : Int32)) % (9 : Int32))), .val (.int (-101 : Int32)), .val (.ref s_NO_NODE), .val (.ref s_NO_NODE)]) rfl ?_
            show Steps p.tables e below (T51.setTop (mkF m 142 #[.val (.int p0), .val (.int ((p0 &&& (2147483647 : Int32)) % (9 : Int32))), .val (.int (-101 : Int32)), .val (.ref s_NO_NODE), .val (.ref s_NO_NODE)] [])) _
            refine XS.aload X51.here hx rfl (hb hby at_142) rfl rfl ?_
            show Steps p.tables e below (T51.setTop (mkF m 144 #[.val (.int p0), .val (.int ((p0 &&& (2147483647 : Int32)) % (9 : Int32))), .val (.int (-101 : Int32)), .val (.ref s_NO_NODE), .val (.ref s_NO_NODE)] [(.ref s_NO_NODE)])) _
            refine XS.aloadN X51.here hx rfl (hb hby at_144) rfl rfl ?_
            show Steps p.tables e below (T51.setTop (mkF m 145 #[.val (.int p0), .val (.int ((p0 &&& (2147483647 : Int32)) % (9 : Int32))), .val (.int (-101 : Int32)), .val (.ref s_NO_NODE), .val (.ref s_NO_NODE)] [(.ref s_NO_NODE), (.ref s_NO_NODE)])) _
            refine Jvm.RoadKit.acmp (g := (mkF m 145 #[.val (.int p0), .val (.int ((p0 &&& (2147483647 : Int32)) % (9 : Int32))), .val (.int (-101 : Int32)), .val (.ref s_NO_NODE), .val (.ref s_NO_NODE)] [(.ref s_NO_NODE), (.ref s_NO_NODE)])) X51 hx rfl rfl rfl (pc0 := 145) (pc' := 148) (same := true) rfl (hb hby at_145) rfl (decide_eq_true (congrArg Value.ref rfl)) (by decide) (by decide) ?_
            show Steps p.tables e below (T51.setTop (mkF m 148 #[.val (.int p0), .val (.int ((p0 &&& (2147483647 : Int32)) % (9 : Int32))), .val (.int (-101 : Int32)), .val (.ref s_NO_NODE), .val (.ref s_NO_NODE)] [])) _
            refine XS.aload X51.here hx rfl (hb hby at_148) rfl rfl ?_
            show Steps p.tables e below (T51.setTop (mkF m 150 #[.val (.int p0), .val (.int ((p0 &&& (2147483647 : Int32)) % (9 : Int32))), .val (.int (-101 : Int32)), .val (.ref s_NO_NODE), .val (.ref s_NO_NODE)] [(.ref s_NO_NODE)])) _
            exact k
          obtain ⟨cq53, kq53, q53a, q53b, q53c⟩ := isOf hZ rfl (E_NO_NODE.ext O51.2)
          obtain ⟨_, _, ⟨T53, L53, k53, n53⟩, -, X53, ⟨Lc53, hQ53, l53, y53, z53⟩, st53⟩ := X51.virtualBack hx (y := (⟨"com/example/numtick/numtick/protocol/ErrorCode", "code", "()I"⟩ : MethodName)) (z := (⟨"com/example/numtick/numtick/protocol/ErrorCode", "code", "()I"⟩ : MethodName)) hown (mvT hZ (hw _ (List.mem_of_getElem? (i := 32) rfl))) (mvT hZ (hw _ (List.mem_of_getElem? (i := 33) rfl))) (notFace_of_selects (args := #[]) (mvT hZ (hw _ (List.mem_of_getElem? (i := 35) rfl)))) (mvT hZ (hw _ (List.mem_of_getElem? (i := 35) rfl))) (mvT hZ (hw _ (List.mem_of_getElem? (i := 34) rfl))) (by decide) (backOf (W := 0) (rm3 l Z a0 hw [] s_RUNTIME_INCONSISTENCY s_UNIMPLEMENTED s_BAD_ARGUMENTS s_NO_NODE s_NO_AUTH s_BAD_VERSION s_NO_CHILDREN_FOR_EPHEMERALS s_NODE_EXISTS s_NOT_EMPTY s_VALUES k_VALUES HW s_NO_NODE (-101 : Int32) T51.heap n0 O51 (F_NO_NODE_code.ext O51.2)) hZ (hw _ (List.mem_of_getElem? (i := 36) rfl)) (hw _ (List.mem_of_getElem? (i := 2) rfl)) (by decide) (by decide)) q53a q53c (g := (mkF m 150 #[.val (.int p0), .val (.int ((p0 &&& (2147483647 : Int32)) % (9 : Int32))), .val (.int (-101 : Int32)), .val (.ref s_NO_NODE), .val (.ref s_NO_NODE)] [(.ref s_NO_NODE)])) rfl (by rw [hml]; rfl) (Steps.refl _) (argsL := []) (rest := []) (lenOf own_pd31 rfl) rfl (by show 2 * 0 + _ ≤ _; exact Nat.le_of_eq rfl) (hb hby at_150) (fun _ _ => ⟨rfl, rfl, (by decide : 1 + 0 ≤ _), (by decide : 9 + 0 ≤ _)⟩)
          dsimp only [Pt.U, Pt.locs, Pt.cells, Pt.slots] at X53 l53 y53 z53 st53 hQ53
          subst l53 y53 z53
          obtain ⟨rfl, N53q, e53⟩ := hQ53
          have N53 := Fr.app N51 N53q
          refine Go.st (V' := T53.setTop (mkF m 153 #[.val (.int p0), .val (.int ((p0 &&& (2147483647 : Int32)) % (9 : Int32))), .val (.int (-101 : Int32)), .val (.ref s_NO_NODE), .val (.ref s_NO_NODE)] [(.int (-101 : Int32))])) (fun t k => st53.trans k) ?_
          refine Go.st (V' := T53.setTop (mkF m 162 #[.val (.int p0), .val (.int ((p0 &&& (2147483647 : Int32)) % (9 : Int32))), .val (.int (-101 : Int32)), .val (.ref s_NO_NODE), .val (.ref s_NO_NODE)] [(.int (1 : Int32))])) (fun t k => ?_) ?_
          · refine XS.iloadN X53.here hx rfl (hb hby at_153) rfl  ?_
            show Steps p.tables e below (T53.setTop (mkF m 154 #[.val (.int p0), .val (.int ((p0 &&& (2147483647 : Int32)) % (9 : Int32))), .val (.int (-101 : Int32)), .val (.ref s_NO_NODE), .val (.ref s_NO_NODE)] [(.int (-101 : Int32)), (.int (-101 : Int32))])) _
            refine XS.icmpNo X53.here hx rfl (hb hby at_154) rfl (teq (by decide : ((-101 : Int32) = (-101 : Int32)))).2 ?_
            show Steps p.tables e below (T53.setTop (mkF m 157 #[.val (.int p0), .val (.int ((p0 &&& (2147483647 : Int32)) % (9 : Int32))), .val (.int (-101 : Int32)), .val (.ref s_NO_NODE), .val (.ref s_NO_NODE)] [])) _
            refine XS.iconst X53.here hx rfl (hb hby at_157) ?_
            show Steps p.tables e below (T53.setTop (mkF m 158 #[.val (.int p0), .val (.int ((p0 &&& (2147483647 : Int32)) % (9 : Int32))), .val (.int (-101 : Int32)), .val (.ref s_NO_NODE), .val (.ref s_NO_NODE)] [(.int (1 : Int32))])) _
            refine XS.goto X53.here hx rfl (pc0 := 158) (pc' := 162) rfl (hb hby at_158) (by decide) (by decide) ?_
            show Steps p.tables e below (T53.setTop (mkF m 162 #[.val (.int p0), .val (.int ((p0 &&& (2147483647 : Int32)) % (9 : Int32))), .val (.int (-101 : Int32)), .val (.ref s_NO_NODE), .val (.ref s_NO_NODE)] [(.int (1 : Int32))])) _
            exact k
          obtain ⟨fs, hr, hrun, hended, hW, hsame⟩ := X53.leave (v := some (.int (1 : Int32))) (fun h => by rw [Bd.returns] at h; cases h)
          refine Go.mk' ⟨_, _, retN X53 hx (t := .boolean) Bd.returns (by simp) (hb hby at_162) hr, hrun, hended, _, _, rfl, ?_, ⟨_, rfl⟩, hW, hsame.mono (by decide) (by decide)⟩
          show Q0 Z p0 h0 n0 _ T53.heap _
          rw [e53]
          exact ⟨rfl, N53⟩
        · refine Go.st (V' := s₁.setTop (mkF m 69 #[.val (.int p0), .val (.int ((p0 &&& (2147483647 : Int32)) % (9 : Int32))), .unset, .unset, .unset] [(.int (4 : Int32)), (.int ((p0 &&& (2147483647 : Int32)) % (9 : Int32)))])) (fun t k => ?_) ?_
          · refine XS.icmpYes X0.here hx rfl (pc0 := 54) (pc' := 67) rfl (hb hby at_54) rfl (feq hc49).2 (by decide) (by decide) ?_
            show Steps p.tables e below (s₁.setTop (mkF m 67 #[.val (.int p0), .val (.int ((p0 &&& (2147483647 : Int32)) % (9 : Int32))), .unset, .unset, .unset] [])) _
            refine XS.iloadN X0.here hx rfl (hb hby at_67) rfl  ?_
            show Steps p.tables e below (s₁.setTop (mkF m 68 #[.val (.int p0), .val (.int ((p0 &&& (2147483647 : Int32)) % (9 : Int32))), .unset, .unset, .unset] [(.int ((p0 &&& (2147483647 : Int32)) % (9 : Int32)))])) _
            refine XS.iconst X0.here hx rfl (hb hby at_68) ?_
            show Steps p.tables e below (s₁.setTop (mkF m 69 #[.val (.int p0), .val (.int ((p0 &&& (2147483647 : Int32)) % (9 : Int32))), .unset, .unset, .unset] [(.int (4 : Int32)), (.int ((p0 &&& (2147483647 : Int32)) % (9 : Int32)))])) _
            exact k
          by_cases hc54 : ((p0 &&& (2147483647 : Int32)) % (9 : Int32)) = (4 : Int32)
          · refine Go.st (V' := s₁.setTop (mkF m 75 #[.val (.int p0), .val (.int ((p0 &&& (2147483647 : Int32)) % (9 : Int32))), .val (.int (-102 : Int32)), .unset, .unset] [])) (fun t k => ?_) ?_
            · refine XS.icmpNo X0.here hx rfl (hb hby at_69) rfl (teq hc54).2 ?_
              show Steps p.tables e below (s₁.setTop (mkF m 72 #[.val (.int p0), .val (.int ((p0 &&& (2147483647 : Int32)) % (9 : Int32))), .unset, .unset, .unset] [])) _
              refine XS.bipush X0.here hx rfl (hb hby at_72) ?_
              show Steps p.tables e below (s₁.setTop (mkF m 74 #[.val (.int p0), .val (.int ((p0 &&& (2147483647 : Int32)) % (9 : Int32))), .unset, .unset, .unset] [(.int (-102 : Int32))])) _
              refine XS.istoreN X0.here hx rfl (hb hby at_74) rfl (l' := #[.val (.int p0), .val (.int ((p0 &&& (2147483647 : Int32)) % (9 : Int32))), .val (.int (-102 : Int32)), .unset, .unset]) rfl ?_
              show Steps p.tables e below (s₁.setTop (mkF m 75 #[.val (.int p0), .val (.int ((p0 &&& (2147483647 : Int32)) % (9 : Int32))), .val (.int (-102 : Int32)), .unset, .unset] [])) _
              exact k
            obtain ⟨T55, X55, e55, st55⟩ := getS2 X0 hx hZ hown (host := "") (Or.inl (hw _ (List.mem_of_getElem? (i := 41) rfl))) Via.refl e0 (S_NO_AUTH.ext O0.2) (g := (mkF m 75 #[.val (.int p0), .val (.int ((p0 &&& (2147483647 : Int32)) % (9 : Int32))), .val (.int (-102 : Int32)), .unset, .unset] [])) rfl (hb hby at_75)
            refine Go.st (V' := T55.setTop (mkF m 78 #[.val (.int p0), .val (.int ((p0 &&& (2147483647 : Int32)) % (9 : Int32))), .val (.int (-102 : Int32)), .unset, .unset] [(.ref s_NO_AUTH)])) (fun t k => st55 t k) ?_
            refine Go.st (V' := T55.setTop (mkF m 137 #[.val (.int p0), .val (.int ((p0 &&& (2147483647 : Int32)) % (9 : Int32))), .val (.int (-102 : Int32)), .val (.ref s_NO_AUTH), .unset] [(.int (-102 : Int32))])) (fun t k => ?_) ?_
            · refine XS.astoreN X55.here hx rfl (hb hby at_78) rfl rfl (l' := #[.val (.int p0), .val (.int ((p0 &&& (2147483647 : Int32)) % (9 : Int32))), .val (.int (-102 : Int32)), .val (.ref s_NO_AUTH), .unset]) rfl ?_
              show Steps p.tables e below (T55.setTop (mkF m 79 #[.val (.int p0), .val (.int ((p0 &&& (2147483647 : Int32)) % (9 : Int32))), .val (.int (-102 : Int32)), .val (.ref s_NO_AUTH), .unset] [])) _
              refine XS.goto X55.here hx rfl (pc0 := 79) (pc' := 136) rfl (hb hby at_79) (by decide) (by decide) ?_
              show Steps p.tables e below (T55.setTop (mkF m 136 #[.val (.int p0), .val (.int ((p0 &&& (2147483647 : Int32)) % (9 : Int32))), .val (.int (-102 : Int32)), .val (.ref s_NO_AUTH), .unset] [])) _
              refine XS.iloadN X55.here hx rfl (hb hby at_136) rfl  ?_
              show Steps p.tables e below (T55.setTop (mkF m 137 #[.val (.int p0), .val (.int ((p0 &&& (2147483647 : Int32)) % (9 : Int32))), .val (.int (-102 : Int32)), .val (.ref s_NO_AUTH), .unset] [(.int (-102 : Int32))])) _
              exact k
            obtain ⟨_, _, ⟨T56, L56, k56, n56⟩, -, X56, ⟨Lc56, hQ56, l56, y56, z56⟩, st56⟩ := Jvm.LawKit.callS X55 hx (y := (⟨"com/example/numtick/numtick/protocol/ErrorCode", "of", "(I)Lcom/example/numtick/numtick/protocol/ErrorCode;"⟩ : MethodName)) hown (mvT hZ (hw _ (List.mem_of_getElem? (i := 4) rfl))) (mvT hZ (hw _ (List.mem_of_getElem? (i := 5) rfl))) (mvT hZ (hw _ (List.mem_of_getElem? (i := 2) rfl))) (mvT hZ (hw _ (List.mem_of_getElem? (i := 6) rfl))) (by decide) (backOf (W := 0) (rm1 l Z a0 hw [] s_RUNTIME_INCONSISTENCY s_UNIMPLEMENTED s_BAD_ARGUMENTS s_NO_NODE s_NO_AUTH s_BAD_VERSION s_NO_CHILDREN_FOR_EPHEMERALS s_NODE_EXISTS s_NOT_EMPTY s_VALUES k_VALUES HW (-102 : Int32) h0 n0 O0 (by decide)) hZ (hw _ (List.mem_of_getElem? (i := 6) rfl)) (hw _ (List.mem_of_getElem? (i := 2) rfl)) (by decide) (by decide)) (g := (mkF m 137 #[.val (.int p0), .val (.int ((p0 &&& (2147483647 : Int32)) % (9 : Int32))), .val (.int (-102 : Int32)), .val (.ref s_NO_AUTH), .unset] [(.int (-102 : Int32))])) rfl (by rw [hml]; rfl) (argsL := [(.int (-102 : Int32))]) (rest := []) (lenOf own_pd30 rfl) rfl (by show 2 * 0 + _ ≤ _; exact Nat.le_of_eq rfl) (hb hby at_137) (fun _ _ => ⟨rfl, e55, (by decide : 0 + 1 ≤ _), (by decide : 0 + 9 ≤ _)⟩)
            dsimp only [Pt.U, Pt.locs, Pt.cells, Pt.slots] at X56 l56 y56 z56 st56 hQ56
            subst l56 y56 z56
            obtain ⟨rfl, N56q, K56⟩ := hQ56
            have N56 := Fr.app N0 N56q
            have O56 := O0.keep K56 all0
            refine Go.st (V' := T56.setTop (mkF m 140 #[.val (.int p0), .val (.int ((p0 &&& (2147483647 : Int32)) % (9 : Int32))), .val (.int (-102 : Int32)), .val (.ref s_NO_AUTH), .unset] [(.ref (f1 s_RUNTIME_INCONSISTENCY s_UNIMPLEMENTED s_BAD_ARGUMENTS s_NO_NODE s_NO_AUTH s_BAD_VERSION s_NO_CHILDREN_FOR_EPHEMERALS s_NODE_EXISTS s_NOT_EMPTY (-102 : Int32)))])) (fun t k => st56 t k) ?_
            have r57 : (f1 s_RUNTIME_INCONSISTENCY s_UNIMPLEMENTED s_BAD_ARGUMENTS s_NO_NODE s_NO_AUTH s_BAD_VERSION s_NO_CHILDREN_FOR_EPHEMERALS s_NODE_EXISTS s_NOT_EMPTY (-102 : Int32)) = s_NO_AUTH := by rw [f1, if_neg (by decide : ¬ ((-2 : Int32) = (-102 : Int32))), if_neg (by decide : ¬ ((-6 : Int32) = (-102 : Int32))), if_neg (by decide : ¬ ((-8 : Int32) = (-102 : Int32))), if_neg (by decide : ¬ ((-101 : Int32) = (-102 : Int32))), if_pos (by decide : ((-102 : Int32) = (-102 : Int32)))]
            rw [r57]
            refine Go.st (V' := T56.setTop (mkF m 150 #[.val (.int p0), .val (.int ((p0 &&& (2147483647 : Int32)) % (9 : Int32))), .val (.int (-102 : Int32)), .val (.ref s_NO_AUTH), .val (.ref s_NO_AUTH)] [(.ref s_NO_AUTH)])) (fun t k => ?_) ?_
            · refine XS.astore X56.here hx rfl (hb hby at_140) rfl rfl (l' := #[.val (.int p0), .val (.int ((p0 &&& (2147483647 : Int32)) % (9 : Int32))), .val (.int (-102 : Int32)), .val (.ref s_NO_AUTH), .val (.ref s_NO_AUTH)]) rfl ?_
              show Steps p.tables e below (T56.setTop (mkF m 142 #[.val (.int p0), .val (.int ((p0 &&& (2147483647 : Int32)) % (9 : Int32))), .val (.int (-102 : Int32)), .val (.ref s_NO_AUTH), .val (.ref s_NO_AUTH)] [])) _
              refine XS.aload X56.here hx rfl (hb hby at_142) rfl rfl ?_
              show Steps p.tables e below (T56.setTop (mkF m 144 #[.val (.int p0), .val (.int ((p0 &&& (2147483647 : Int32)) % (9 : Int32))), .val (.int (-102 : Int32)), .val (.ref s_NO_AUTH), .val (.ref s_NO_AUTH)] [(.ref s_NO_AUTH)])) _
              refine XS.aloadN X56.here hx rfl (hb hby at_144) rfl rfl ?_
              show Steps p.tables e below (T56.setTop (mkF m 145 #[.val (.int p0), .val (.int ((p0 &&& (2147483647 : Int32)) % (9 : Int32))), .val (.int (-102 : Int32)), .val (.ref s_NO_AUTH), .val (.ref s_NO_AUTH)] [(.ref s_NO_AUTH), (.ref s_NO_AUTH)])) _
              refine Jvm.RoadKit.acmp (g := (mkF m 145 #[.val (.int p0), .val (.int ((p0 &&& (2147483647 : Int32)) % (9 : Int32))), .val (.int (-102 : Int32)), .val (.ref s_NO_AUTH), .val (.ref s_NO_AUTH)] [(.ref s_NO_AUTH), (.ref s_NO_AUTH)])) X56 hx rfl rfl rfl (pc0 := 145) (pc' := 148) (same := true) rfl (hb hby at_145) rfl (decide_eq_true (congrArg Value.ref rfl)) (by decide) (by decide) ?_
              show Steps p.tables e below (T56.setTop (mkF m 148 #[.val (.int p0), .val (.int ((p0 &&& (2147483647 : Int32)) % (9 : Int32))), .val (.int (-102 : Int32)), .val (.ref s_NO_AUTH), .val (.ref s_NO_AUTH)] [])) _
              refine XS.aload X56.here hx rfl (hb hby at_148) rfl rfl ?_
              show Steps p.tables e below (T56.setTop (mkF m 150 #[.val (.int p0), .val (.int ((p0 &&& (2147483647 : Int32)) % (9 : Int32))), .val (.int (-102 : Int32)), .val (.ref s_NO_AUTH), .val (.ref s_NO_AUTH)] [(.ref s_NO_AUTH)])) _
              exact k
            obtain ⟨cq58, kq58, q58a, q58b, q58c⟩ := isOf hZ rfl (E_NO_AUTH.ext O56.2)
            obtain ⟨_, _, ⟨T58, L58, k58, n58⟩, -, X58, ⟨Lc58, hQ58, l58, y58, z58⟩, st58⟩ := X56.virtualBack hx (y := (⟨"com/example/numtick/numtick/protocol/ErrorCode", "code", "()I"⟩ : MethodName)) (z := (⟨"com/example/numtick/numtick/protocol/ErrorCode", "code", "()I"⟩ : MethodName)) hown (mvT hZ (hw _ (List.mem_of_getElem? (i := 32) rfl))) (mvT hZ (hw _ (List.mem_of_getElem? (i := 33) rfl))) (notFace_of_selects (args := #[]) (mvT hZ (hw _ (List.mem_of_getElem? (i := 35) rfl)))) (mvT hZ (hw _ (List.mem_of_getElem? (i := 35) rfl))) (mvT hZ (hw _ (List.mem_of_getElem? (i := 34) rfl))) (by decide) (backOf (W := 0) (rm3 l Z a0 hw [] s_RUNTIME_INCONSISTENCY s_UNIMPLEMENTED s_BAD_ARGUMENTS s_NO_NODE s_NO_AUTH s_BAD_VERSION s_NO_CHILDREN_FOR_EPHEMERALS s_NODE_EXISTS s_NOT_EMPTY s_VALUES k_VALUES HW s_NO_AUTH (-102 : Int32) T56.heap n0 O56 (F_NO_AUTH_code.ext O56.2)) hZ (hw _ (List.mem_of_getElem? (i := 36) rfl)) (hw _ (List.mem_of_getElem? (i := 2) rfl)) (by decide) (by decide)) q58a q58c (g := (mkF m 150 #[.val (.int p0), .val (.int ((p0 &&& (2147483647 : Int32)) % (9 : Int32))), .val (.int (-102 : Int32)), .val (.ref s_NO_AUTH), .val (.ref s_NO_AUTH)] [(.ref s_NO_AUTH)])) rfl (by rw [hml]; rfl) (Steps.refl _) (argsL := []) (rest := []) (lenOf own_pd31 rfl) rfl (by show 2 * 0 + _ ≤ _; exact Nat.le_of_eq rfl) (hb hby at_150) (fun _ _ => ⟨rfl, rfl, (by decide : 1 + 0 ≤ _), (by decide : 9 + 0 ≤ _)⟩)
            dsimp only [Pt.U, Pt.locs, Pt.cells, Pt.slots] at X58 l58 y58 z58 st58 hQ58
            subst l58 y58 z58
            obtain ⟨rfl, N58q, e58⟩ := hQ58
            have N58 := Fr.app N56 N58q
            refine Go.st (V' := T58.setTop (mkF m 153 #[.val (.int p0), .val (.int ((p0 &&& (2147483647 : Int32)) % (9 : Int32))), .val (.int (-102 : Int32)), .val (.ref s_NO_AUTH), .val (.ref s_NO_AUTH)] [(.int (-102 : Int32))])) (fun t k => st58.trans k) ?_
            refine Go.st (V' := T58.setTop (mkF m 162 #[.val (.int p0), .val (.int ((p0 &&& (2147483647 : Int32)) % (9 : Int32))), .val (.int (-102 : Int32)), .val (.ref s_NO_AUTH), .val (.ref s_NO_AUTH)] [(.int (1 : Int32))])) (fun t k => ?_) ?_
            · refine XS.iloadN X58.here hx rfl (hb hby at_153) rfl  ?_
              show Steps p.tables e below (T58.setTop (mkF m 154 #[.val (.int p0), .val (.int ((p0 &&& (2147483647 : Int32)) % (9 : Int32))), .val (.int (-102 : Int32)), .val (.ref s_NO_AUTH), .val (.ref s_NO_AUTH)] [(.int (-102 : Int32)), (.int (-102 : Int32))])) _
              refine XS.icmpNo X58.here hx rfl (hb hby at_154) rfl (teq (by decide : ((-102 : Int32) = (-102 : Int32)))).2 ?_
              show Steps p.tables e below (T58.setTop (mkF m 157 #[.val (.int p0), .val (.int ((p0 &&& (2147483647 : Int32)) % (9 : Int32))), .val (.int (-102 : Int32)), .val (.ref s_NO_AUTH), .val (.ref s_NO_AUTH)] [])) _
              refine XS.iconst X58.here hx rfl (hb hby at_157) ?_
              show Steps p.tables e below (T58.setTop (mkF m 158 #[.val (.int p0), .val (.int ((p0 &&& (2147483647 : Int32)) % (9 : Int32))), .val (.int (-102 : Int32)), .val (.ref s_NO_AUTH), .val (.ref s_NO_AUTH)] [(.int (1 : Int32))])) _
              refine XS.goto X58.here hx rfl (pc0 := 158) (pc' := 162) rfl (hb hby at_158) (by decide) (by decide) ?_
              show Steps p.tables e below (T58.setTop (mkF m 162 #[.val (.int p0), .val (.int ((p0 &&& (2147483647 : Int32)) % (9 : Int32))), .val (.int (-102 : Int32)), .val (.ref s_NO_AUTH), .val (.ref s_NO_AUTH)] [(.int (1 : Int32))])) _
              exact k
            obtain ⟨fs, hr, hrun, hended, hW, hsame⟩ := X58.leave (v := some (.int (1 : Int32))) (fun h => by rw [Bd.returns] at h; cases h)
            refine Go.mk' ⟨_, _, retN X58 hx (t := .boolean) Bd.returns (by simp) (hb hby at_162) hr, hrun, hended, _, _, rfl, ?_, ⟨_, rfl⟩, hW, hsame.mono (by decide) (by decide)⟩
            show Q0 Z p0 h0 n0 _ T58.heap _
            rw [e58]
            exact ⟨rfl, N58⟩
          · refine Go.st (V' := s₁.setTop (mkF m 84 #[.val (.int p0), .val (.int ((p0 &&& (2147483647 : Int32)) % (9 : Int32))), .unset, .unset, .unset] [(.int (5 : Int32)), (.int ((p0 &&& (2147483647 : Int32)) % (9 : Int32)))])) (fun t k => ?_) ?_
            · refine XS.icmpYes X0.here hx rfl (pc0 := 69) (pc' := 82) rfl (hb hby at_69) rfl (feq hc54).2 (by decide) (by decide) ?_
              show Steps p.tables e below (s₁.setTop (mkF m 82 #[.val (.int p0), .val (.int ((p0 &&& (2147483647 : Int32)) % (9 : Int32))), .unset, .unset, .unset] [])) _
              refine XS.iloadN X0.here hx rfl (hb hby at_82) rfl  ?_
              show Steps p.tables e below (s₁.setTop (mkF m 83 #[.val (.int p0), .val (.int ((p0 &&& (2147483647 : Int32)) % (9 : Int32))), .unset, .unset, .unset] [(.int ((p0 &&& (2147483647 : Int32)) % (9 : Int32)))])) _
              refine XS.iconst X0.here hx rfl (hb hby at_83) ?_
              show Steps p.tables e below (s₁.setTop (mkF m 84 #[.val (.int p0), .val (.int ((p0 &&& (2147483647 : Int32)) % (9 : Int32))), .unset, .unset, .unset] [(.int (5 : Int32)), (.int ((p0 &&& (2147483647 : Int32)) % (9 : Int32)))])) _
              exact k
            by_cases hc59 : ((p0 &&& (2147483647 : Int32)) % (9 : Int32)) = (5 : Int32)
            · refine Go.st (V' := s₁.setTop (mkF m 90 #[.val (.int p0), .val (.int ((p0 &&& (2147483647 : Int32)) % (9 : Int32))), .val (.int (-103 : Int32)), .unset, .unset] [])) (fun t k => ?_) ?_
              · refine XS.icmpNo X0.here hx rfl (hb hby at_84) rfl (teq hc59).2 ?_
                show Steps p.tables e below (s₁.setTop (mkF m 87 #[.val (.int p0), .val (.int ((p0 &&& (2147483647 : Int32)) % (9 : Int32))), .unset, .unset, .unset] [])) _
                refine XS.bipush X0.here hx rfl (hb hby at_87) ?_
                show Steps p.tables e below (s₁.setTop (mkF m 89 #[.val (.int p0), .val (.int ((p0 &&& (2147483647 : Int32)) % (9 : Int32))), .unset, .unset, .unset] [(.int (-103 : Int32))])) _
                refine XS.istoreN X0.here hx rfl (hb hby at_89) rfl (l' := #[.val (.int p0), .val (.int ((p0 &&& (2147483647 : Int32)) % (9 : Int32))), .val (.int (-103 : Int32)), .unset, .unset]) rfl ?_
                show Steps p.tables e below (s₁.setTop (mkF m 90 #[.val (.int p0), .val (.int ((p0 &&& (2147483647 : Int32)) % (9 : Int32))), .val (.int (-103 : Int32)), .unset, .unset] [])) _
                exact k
              obtain ⟨T60, X60, e60, st60⟩ := getS2 X0 hx hZ hown (host := "") (Or.inl (hw _ (List.mem_of_getElem? (i := 44) rfl))) Via.refl e0 (S_BAD_VERSION.ext O0.2) (g := (mkF m 90 #[.val (.int p0), .val (.int ((p0 &&& (2147483647 : Int32)) % (9 : Int32))), .val (.int (-103 : Int32)), .unset, .unset] [])) rfl (hb hby at_90)
              refine Go.st (V' := T60.setTop (mkF m 93 #[.val (.int p0), .val (.int ((p0 &&& (2147483647 : Int32)) % (9 : Int32))), .val (.int (-103 : Int32)), .unset, .unset] [(.ref s_BAD_VERSION)])) (fun t k => st60 t k) ?_
              refine Go.st (V' := T60.setTop (mkF m 137 #[.val (.int p0), .val (.int ((p0 &&& (2147483647 : Int32)) % (9 : Int32))), .val (.int (-103 : Int32)), .val (.ref s_BAD_VERSION), .unset] [(.int (-103 : Int32))])) (fun t k => ?_) ?_
              · refine XS.astoreN X60.here hx rfl (hb hby at_93) rfl rfl (l' := #[.val (.int p0), .val (.int ((p0 &&& (2147483647 : Int32)) % (9 : Int32))), .val (.int (-103 : Int32)), .val (.ref s_BAD_VERSION), .unset]) rfl ?_
                show Steps p.tables e below (T60.setTop (mkF m 94 #[.val (.int p0), .val (.int ((p0 &&& (2147483647 : Int32)) % (9 : Int32))), .val (.int (-103 : Int32)), .val (.ref s_BAD_VERSION), .unset] [])) _
                refine XS.goto X60.here hx rfl (pc0 := 94) (pc' := 136) rfl (hb hby at_94) (by decide) (by decide) ?_
                show Steps p.tables e below (T60.setTop (mkF m 136 #[.val (.int p0), .val (.int ((p0 &&& (2147483647 : Int32)) % (9 : Int32))), .val (.int (-103 : Int32)), .val (.ref s_BAD_VERSION), .unset] [])) _
                refine XS.iloadN X60.here hx rfl (hb hby at_136) rfl  ?_
                show Steps p.tables e below (T60.setTop (mkF m 137 #[.val (.int p0), .val (.int ((p0 &&& (2147483647 : Int32)) % (9 : Int32))), .val (.int (-103 : Int32)), .val (.ref s_BAD_VERSION), .unset] [(.int (-103 : Int32))])) _
                exact k
              obtain ⟨_, _, ⟨T61, L61, k61, n61⟩, -, X61, ⟨Lc61, hQ61, l61, y61, z61⟩, st61⟩ := Jvm.LawKit.callS X60 hx (y := (⟨"com/example/numtick/numtick/protocol/ErrorCode", "of", "(I)Lcom/example/numtick/numtick/protocol/ErrorCode;"⟩ : MethodName)) hown (mvT hZ (hw _ (List.mem_of_getElem? (i := 4) rfl))) (mvT hZ (hw _ (List.mem_of_getElem? (i := 5) rfl))) (mvT hZ (hw _ (List.mem_of_getElem? (i := 2) rfl))) (mvT hZ (hw _ (List.mem_of_getElem? (i := 6) rfl))) (by decide) (backOf (W := 0) (rm1 l Z a0 hw [] s_RUNTIME_INCONSISTENCY s_UNIMPLEMENTED s_BAD_ARGUMENTS s_NO_NODE s_NO_AUTH s_BAD_VERSION s_NO_CHILDREN_FOR_EPHEMERALS s_NODE_EXISTS s_NOT_EMPTY s_VALUES k_VALUES HW (-103 : Int32) h0 n0 O0 (by decide)) hZ (hw _ (List.mem_of_getElem? (i := 6) rfl)) (hw _ (List.mem_of_getElem? (i := 2) rfl)) (by decide) (by decide)) (g := (mkF m 137 #[.val (.int p0), .val (.int ((p0 &&& (2147483647 : Int32)) % (9 : Int32))), .val (.int (-103 : Int32)), .val (.ref s_BAD_VERSION), .unset] [(.int (-103 : Int32))])) rfl (by rw [hml]; rfl) (argsL := [(.int (-103 : Int32))]) (rest := []) (lenOf own_pd30 rfl) rfl (by show 2 * 0 + _ ≤ _; exact Nat.le_of_eq rfl) (hb hby at_137) (fun _ _ => ⟨rfl, e60, (by decide : 0 + 1 ≤ _), (by decide : 0 + 9 ≤ _)⟩)
              dsimp only [Pt.U, Pt.locs, Pt.cells, Pt.slots] at X61 l61 y61 z61 st61 hQ61
              subst l61 y61 z61
              obtain ⟨rfl, N61q, K61⟩ := hQ61
              have N61 := Fr.app N0 N61q
              have O61 := O0.keep K61 all0
              refine Go.st (V' := T61.setTop (mkF m 140 #[.val (.int p0), .val (.int ((p0 &&& (2147483647 : Int32)) % (9 : Int32))), .val (.int (-103 : Int32)), .val (.ref s_BAD_VERSION), .unset] [(.ref (f1 s_RUNTIME_INCONSISTENCY s_UNIMPLEMENTED s_BAD_ARGUMENTS s_NO_NODE s_NO_AUTH s_BAD_VERSION s_NO_CHILDREN_FOR_EPHEMERALS s_NODE_EXISTS s_NOT_EMPTY (-103 : Int32)))])) (fun t k => st61 t k) ?_
              have r62 : (f1 s_RUNTIME_INCONSISTENCY s_UNIMPLEMENTED s_BAD_ARGUMENTS s_NO_NODE s_NO_AUTH s_BAD_VERSION s_NO_CHILDREN_FOR_EPHEMERALS s_NODE_EXISTS s_NOT_EMPTY (-103 : Int32)) = s_BAD_VERSION := by rw [f1, if_neg (by decide : ¬ ((-2 : Int32) = (-103 : Int32))), if_neg (by decide : ¬ ((-6 : Int32) = (-103 : Int32))), if_neg (by decide : ¬ ((-8 : Int32) = (-103 : Int32))), if_neg (by decide : ¬ ((-101 : Int32) = (-103 : Int32))), if_neg (by decide : ¬ ((-102 : Int32) = (-103 : Int32))), if_pos (by decide : ((-103 : Int32) = (-103 : Int32)))]
              rw [r62]
              refine Go.st (V' := T61.setTop (mkF m 150 #[.val (.int p0), .val (.int ((p0 &&& (2147483647 : Int32)) % (9 : Int32))), .val (.int (-103 : Int32)), .val (.ref s_BAD_VERSION), .val (.ref s_BAD_VERSION)] [(.ref s_BAD_VERSION)])) (fun t k => ?_) ?_
              · refine XS.astore X61.here hx rfl (hb hby at_140) rfl rfl (l' := #[.val (.int p0), .val (.int ((p0 &&& (2147483647 : Int32)) % (9 : Int32))), .val (.int (-103 : Int32)), .val (.ref s_BAD_VERSION), .val (.ref s_BAD_VERSION)]) rfl ?_
                show Steps p.tables e below (T61.setTop (mkF m 142 #[.val (.int p0), .val (.int ((p0 &&& (2147483647 : Int32)) % (9 : Int32))), .val (.int (-103 : Int32)), .val (.ref s_BAD_VERSION), .val (.ref s_BAD_VERSION)] [])) _
                refine XS.aload X61.here hx rfl (hb hby at_142) rfl rfl ?_
                show Steps p.tables e below (T61.setTop (mkF m 144 #[.val (.int p0), .val (.int ((p0 &&& (2147483647 : Int32)) % (9 : Int32))), .val (.int (-103 : Int32)), .val (.ref s_BAD_VERSION), .val (.ref s_BAD_VERSION)] [(.ref s_BAD_VERSION)])) _
                refine XS.aloadN X61.here hx rfl (hb hby at_144) rfl rfl ?_
                show Steps p.tables e below (T61.setTop (mkF m 145 #[.val (.int p0), .val (.int ((p0 &&& (2147483647 : Int32)) % (9 : Int32))), .val (.int (-103 : Int32)), .val (.ref s_BAD_VERSION), .val (.ref s_BAD_VERSION)] [(.ref s_BAD_VERSION), (.ref s_BAD_VERSION)])) _
                refine Jvm.RoadKit.acmp (g := (mkF m 145 #[.val (.int p0), .val (.int ((p0 &&& (2147483647 : Int32)) % (9 : Int32))), .val (.int (-103 : Int32)), .val (.ref s_BAD_VERSION), .val (.ref s_BAD_VERSION)] [(.ref s_BAD_VERSION), (.ref s_BAD_VERSION)])) X61 hx rfl rfl rfl (pc0 := 145) (pc' := 148) (same := true) rfl (hb hby at_145) rfl (decide_eq_true (congrArg Value.ref rfl)) (by decide) (by decide) ?_
                show Steps p.tables e below (T61.setTop (mkF m 148 #[.val (.int p0), .val (.int ((p0 &&& (2147483647 : Int32)) % (9 : Int32))), .val (.int (-103 : Int32)), .val (.ref s_BAD_VERSION), .val (.ref s_BAD_VERSION)] [])) _
                refine XS.aload X61.here hx rfl (hb hby at_148) rfl rfl ?_
                show Steps p.tables e below (T61.setTop (mkF m 150 #[.val (.int p0), .val (.int ((p0 &&& (2147483647 : Int32)) % (9 : Int32))), .val (.int (-103 : Int32)), .val (.ref s_BAD_VERSION), .val (.ref s_BAD_VERSION)] [(.ref s_BAD_VERSION)])) _
                exact k
              obtain ⟨cq63, kq63, q63a, q63b, q63c⟩ := isOf hZ rfl (E_BAD_VERSION.ext O61.2)
              obtain ⟨_, _, ⟨T63, L63, k63, n63⟩, -, X63, ⟨Lc63, hQ63, l63, y63, z63⟩, st63⟩ := X61.virtualBack hx (y := (⟨"com/example/numtick/numtick/protocol/ErrorCode", "code", "()I"⟩ : MethodName)) (z := (⟨"com/example/numtick/numtick/protocol/ErrorCode", "code", "()I"⟩ : MethodName)) hown (mvT hZ (hw _ (List.mem_of_getElem? (i := 32) rfl))) (mvT hZ (hw _ (List.mem_of_getElem? (i := 33) rfl))) (notFace_of_selects (args := #[]) (mvT hZ (hw _ (List.mem_of_getElem? (i := 35) rfl)))) (mvT hZ (hw _ (List.mem_of_getElem? (i := 35) rfl))) (mvT hZ (hw _ (List.mem_of_getElem? (i := 34) rfl))) (by decide) (backOf (W := 0) (rm3 l Z a0 hw [] s_RUNTIME_INCONSISTENCY s_UNIMPLEMENTED s_BAD_ARGUMENTS s_NO_NODE s_NO_AUTH s_BAD_VERSION s_NO_CHILDREN_FOR_EPHEMERALS s_NODE_EXISTS s_NOT_EMPTY s_VALUES k_VALUES HW s_BAD_VERSION (-103 : Int32) T61.heap n0 O61 (F_BAD_VERSION_code.ext O61.2)) hZ (hw _ (List.mem_of_getElem? (i := 36) rfl)) (hw _ (List.mem_of_getElem? (i := 2) rfl)) (by decide) (by decide)) q63a q63c (g := (mkF m 150 #[.val (.int p0), .val (.int ((p0 &&& (2147483647 : Int32)) % (9 : Int32))), .val (.int (-103 : Int32)), .val (.ref s_BAD_VERSION), .val (.ref s_BAD_VERSION)] [(.ref s_BAD_VERSION)])) rfl (by rw [hml]; rfl) (Steps.refl _) (argsL := []) (rest := []) (lenOf own_pd31 rfl) rfl (by show 2 * 0 + _ ≤ _; exact Nat.le_of_eq rfl) (hb hby at_150) (fun _ _ => ⟨rfl, rfl, (by decide : 1 + 0 ≤ _), (by decide : 9 + 0 ≤ _)⟩)
              dsimp only [Pt.U, Pt.locs, Pt.cells, Pt.slots] at X63 l63 y63 z63 st63 hQ63
              subst l63 y63 z63
              obtain ⟨rfl, N63q, e63⟩ := hQ63
              have N63 := Fr.app N61 N63q
              refine Go.st (V' := T63.setTop (mkF m 153 #[.val (.int p0), .val (.int ((p0 &&& (2147483647 : Int32)) % (9 : Int32))), .val (.int (-103 : Int32)), .val (.ref s_BAD_VERSION), .val (.ref s_BAD_VERSION)] [(.int (-103 : Int32))])) (fun t k => st63.trans k) ?_
              refine Go.st (V' := T63.setTop (mkF m 162 #[.val (.int p0), .val (.int ((p0 &&& (2147483647 : Int32)) % (9 : Int32))), .val (.int (-103 : Int32)), .val (.ref s_BAD_VERSION), .val (.ref s_BAD_VERSION)] [(.int (1 : Int32))])) (fun t k => ?_) ?_
              · refine XS.iloadN X63.here hx rfl (hb hby at_153) rfl  ?_
                show Steps p.tables e below (T63.setTop (mkF m 154 #[.val (.int p0), .val (.int ((p0 &&& (2147483647 : Int32)) % (9 : Int32))), .val (.int (-103 : Int32)), .val (.ref s_BAD_VERSION), .val (.ref s_BAD_VERSION)] [(.int (-103 : Int32)), (.int (-103 : Int32))])) _
                refine XS.icmpNo X63.here hx rfl (hb hby at_154) rfl (teq (by decide : ((-103 : Int32) = (-103 : Int32)))).2 ?_
                show Steps p.tables e below (T63.setTop (mkF m 157 #[.val (.int p0), .val (.int ((p0 &&& (2147483647 : Int32)) % (9 : Int32))), .val (.int (-103 : Int32)), .val (.ref s_BAD_VERSION), .val (.ref s_BAD_VERSION)] [])) _
                refine XS.iconst X63.here hx rfl (hb hby at_157) ?_
                show Steps p.tables e below (T63.setTop (mkF m 158 #[.val (.int p0), .val (.int ((p0 &&& (2147483647 : Int32)) % (9 : Int32))), .val (.int (-103 : Int32)), .val (.ref s_BAD_VERSION), .val (.ref s_BAD_VERSION)] [(.int (1 : Int32))])) _
                refine XS.goto X63.here hx rfl (pc0 := 158) (pc' := 162) rfl (hb hby at_158) (by decide) (by decide) ?_
                show Steps p.tables e below (T63.setTop (mkF m 162 #[.val (.int p0), .val (.int ((p0 &&& (2147483647 : Int32)) % (9 : Int32))), .val (.int (-103 : Int32)), .val (.ref s_BAD_VERSION), .val (.ref s_BAD_VERSION)] [(.int (1 : Int32))])) _
                exact k
              obtain ⟨fs, hr, hrun, hended, hW, hsame⟩ := X63.leave (v := some (.int (1 : Int32))) (fun h => by rw [Bd.returns] at h; cases h)
              refine Go.mk' ⟨_, _, retN X63 hx (t := .boolean) Bd.returns (by simp) (hb hby at_162) hr, hrun, hended, _, _, rfl, ?_, ⟨_, rfl⟩, hW, hsame.mono (by decide) (by decide)⟩
              show Q0 Z p0 h0 n0 _ T63.heap _
              rw [e63]
              exact ⟨rfl, N63⟩
            · refine Go.st (V' := s₁.setTop (mkF m 100 #[.val (.int p0), .val (.int ((p0 &&& (2147483647 : Int32)) % (9 : Int32))), .unset, .unset, .unset] [(.int (6 : Int32)), (.int ((p0 &&& (2147483647 : Int32)) % (9 : Int32)))])) (fun t k => ?_) ?_
              · refine XS.icmpYes X0.here hx rfl (pc0 := 84) (pc' := 97) rfl (hb hby at_84) rfl (feq hc59).2 (by decide) (by decide) ?_
                show Steps p.tables e below (s₁.setTop (mkF m 97 #[.val (.int p0), .val (.int ((p0 &&& (2147483647 : Int32)) % (9 : Int32))), .unset, .unset, .unset] [])) _
                refine XS.iloadN X0.here hx rfl (hb hby at_97) rfl  ?_
                show Steps p.tables e below (s₁.setTop (mkF m 98 #[.val (.int p0), .val (.int ((p0 &&& (2147483647 : Int32)) % (9 : Int32))), .unset, .unset, .unset] [(.int ((p0 &&& (2147483647 : Int32)) % (9 : Int32)))])) _
                refine XS.bipush X0.here hx rfl (hb hby at_98) ?_
                show Steps p.tables e below (s₁.setTop (mkF m 100 #[.val (.int p0), .val (.int ((p0 &&& (2147483647 : Int32)) % (9 : Int32))), .unset, .unset, .unset] [(.int (6 : Int32)), (.int ((p0 &&& (2147483647 : Int32)) % (9 : Int32)))])) _
                exact k
              by_cases hc64 : ((p0 &&& (2147483647 : Int32)) % (9 : Int32)) = (6 : Int32)
              · refine Go.st (V' := s₁.setTop (mkF m 106 #[.val (.int p0), .val (.int ((p0 &&& (2147483647 : Int32)) % (9 : Int32))), .val (.int (-108 : Int32)), .unset, .unset] [])) (fun t k => ?_) ?_
                · refine XS.icmpNo X0.here hx rfl (hb hby at_100) rfl (teq hc64).2 ?_
                  show Steps p.tables e below (s₁.setTop (mkF m 103 #[.val (.int p0), .val (.int ((p0 &&& (2147483647 : Int32)) % (9 : Int32))), .unset, .unset, .unset] [])) _
                  refine XS.bipush X0.here hx rfl (hb hby at_103) ?_
                  show Steps p.tables e below (s₁.setTop (mkF m 105 #[.val (.int p0), .val (.int ((p0 &&& (2147483647 : Int32)) % (9 : Int32))), .unset, .unset, .unset] [(.int (-108 : Int32))])) _
                  refine XS.istoreN X0.here hx rfl (hb hby at_105) rfl (l' := #[.val (.int p0), .val (.int ((p0 &&& (2147483647 : Int32)) % (9 : Int32))), .val (.int (-108 : Int32)), .unset, .unset]) rfl ?_
                  show Steps p.tables e below (s₁.setTop (mkF m 106 #[.val (.int p0), .val (.int ((p0 &&& (2147483647 : Int32)) % (9 : Int32))), .val (.int (-108 : Int32)), .unset, .unset] [])) _
                  exact k
                obtain ⟨T65, X65, e65, st65⟩ := getS2 X0 hx hZ hown (host := "") (Or.inl (hw _ (List.mem_of_getElem? (i := 43) rfl))) Via.refl e0 (S_NO_CHILDREN_FOR_EPHEMERALS.ext O0.2) (g := (mkF m 106 #[.val (.int p0), .val (.int ((p0 &&& (2147483647 : Int32)) % (9 : Int32))), .val (.int (-108 : Int32)), .unset, .unset] [])) rfl (hb hby at_106)
                refine Go.st (V' := T65.setTop (mkF m 109 #[.val (.int p0), .val (.int ((p0 &&& (2147483647 : Int32)) % (9 : Int32))), .val (.int (-108 : Int32)), .unset, .unset] [(.ref s_NO_CHILDREN_FOR_EPHEMERALS)])) (fun t k => st65 t k) ?_
                refine Go.st (V' := T65.setTop (mkF m 137 #[.val (.int p0), .val (.int ((p0 &&& (2147483647 : Int32)) % (9 : Int32))), .val (.int (-108 : Int32)), .val (.ref s_NO_CHILDREN_FOR_EPHEMERALS), .unset] [(.int (-108 : Int32))])) (fun t k => ?_) ?_
                · refine XS.astoreN X65.here hx rfl (hb hby at_109) rfl rfl (l' := #[.val (.int p0), .val (.int ((p0 &&& (2147483647 : Int32)) % (9 : Int32))), .val (.int (-108 : Int32)), .val (.ref s_NO_CHILDREN_FOR_EPHEMERALS), .unset]) rfl ?_
                  show Steps p.tables e below (T65.setTop (mkF m 110 #[.val (.int p0), .val (.int ((p0 &&& (2147483647 : Int32)) % (9 : Int32))), .val (.int (-108 : Int32)), .val (.ref s_NO_CHILDREN_FOR_EPHEMERALS), .unset] [])) _
                  refine XS.goto X65.here hx rfl (pc0 := 110) (pc' := 136) rfl (hb hby at_110) (by decide) (by decide) ?_
                  show Steps p.tables e below (T65.setTop (mkF m 136 #[.val (.int p0), .val (.int ((p0 &&& (2147483647 : Int32)) % (9 : Int32))), .val (.int (-108 : Int32)), .val (.ref s_NO_CHILDREN_FOR_EPHEMERALS), .unset] [])) _
                  refine XS.iloadN X65.here hx rfl (hb hby at_136) rfl  ?_
                  show Steps p.tables e below (T65.setTop (mkF m 137 #[.val (.int p0), .val (.int ((p0 &&& (2147483647 : Int32)) % (9 : Int32))), .val (.int (-108 : Int32)), .val (.ref s_NO_CHILDREN_FOR_EPHEMERALS), .unset] [(.int (-108 : Int32))])) _
                  exact k
                obtain ⟨_, _, ⟨T66, L66, k66, n66⟩, -, X66, ⟨Lc66, hQ66, l66, y66, z66⟩, st66⟩ := Jvm.LawKit.callS X65 hx (y := (⟨"com/example/numtick/numtick/protocol/ErrorCode", "of", "(I)Lcom/example/numtick/numtick/protocol/ErrorCode;"⟩ : MethodName)) hown (mvT hZ (hw _ (List.mem_of_getElem? (i := 4) rfl))) (mvT hZ (hw _ (List.mem_of_getElem? (i := 5) rfl))) (mvT hZ (hw _ (List.mem_of_getElem? (i := 2) rfl))) (mvT hZ (hw _ (List.mem_of_getElem? (i := 6) rfl))) (by decide) (backOf (W := 0) (rm1 l Z a0 hw [] s_RUNTIME_INCONSISTENCY s_UNIMPLEMENTED s_BAD_ARGUMENTS s_NO_NODE s_NO_AUTH s_BAD_VERSION s_NO_CHILDREN_FOR_EPHEMERALS s_NODE_EXISTS s_NOT_EMPTY s_VALUES k_VALUES HW (-108 : Int32) h0 n0 O0 (by decide)) hZ (hw _ (List.mem_of_getElem? (i := 6) rfl)) (hw _ (List.mem_of_getElem? (i := 2) rfl)) (by decide) (by decide)) (g := (mkF m 137 #[.val (.int p0), .val (.int ((p0 &&& (2147483647 : Int32)) % (9 : Int32))), .val (.int (-108 : Int32)), .val (.ref s_NO_CHILDREN_FOR_EPHEMERALS), .unset] [(.int (-108 : Int32))])) rfl (by rw [hml]; rfl) (argsL := [(.int (-108 : Int32))]) (rest := []) (lenOf own_pd30 rfl) rfl (by show 2 * 0 + _ ≤ _; exact Nat.le_of_eq rfl) (hb hby at_137) (fun _ _ => ⟨rfl, e65, (by decide : 0 + 1 ≤ _), (by decide : 0 + 9 ≤ _)⟩)
                dsimp only [Pt.U, Pt.locs, Pt.cells, Pt.slots] at X66 l66 y66 z66 st66 hQ66
                subst l66 y66 z66
                obtain ⟨rfl, N66q, K66⟩ := hQ66
                have N66 := Fr.app N0 N66q
                have O66 := O0.keep K66 all0
                refine Go.st (V' := T66.setTop (mkF m 140 #[.val (.int p0), .val (.int ((p0 &&& (2147483647 : Int32)) % (9 : Int32))), .val (.int (-108 : Int32)), .val (.ref s_NO_CHILDREN_FOR_EPHEMERALS), .unset] [(.ref (f1 s_RUNTIME_INCONSISTENCY s_UNIMPLEMENTED s_BAD_ARGUMENTS s_NO_NODE s_NO_AUTH s_BAD_VERSION s_NO_CHILDREN_FOR_EPHEMERALS s_NODE_EXISTS s_NOT_EMPTY (-108 : Int32)))])) (fun t k => st66 t k) ?_
                have r67 : (f1 s_RUNTIME_INCONSISTENCY s_UNIMPLEMENTED s_BAD_ARGUMENTS s_NO_NODE s_NO_AUTH s_BAD_VERSION s_NO_CHILDREN_FOR_EPHEMERALS s_NODE_EXISTS s_NOT_EMPTY (-108 : Int32)) = s_NO_CHILDREN_FOR_EPHEMERALS := by rw [f1, if_neg (by decide : ¬ ((-2 : Int32) = (-108 : Int32))), if_neg (by decide : ¬ ((-6 : Int32) = (-108 : Int32))), if_neg (by decide : ¬ ((-8 : Int32) = (-108 : Int32))), if_neg (by decide : ¬ ((-101 : Int32) = (-108 : Int32))), if_neg (by decide : ¬ ((-102 : Int32) = (-108 : Int32))), if_neg (by decide : ¬ ((-103 : Int32) = (-108 : Int32))), if_pos (by decide : ((-108 : Int32) = (-108 : Int32)))]
                rw [r67]
                refine Go.st (V' := T66.setTop (mkF m 150 #[.val (.int p0), .val (.int ((p0 &&& (2147483647 : Int32)) % (9 : Int32))), .val (.int (-108 : Int32)), .val (.ref s_NO_CHILDREN_FOR_EPHEMERALS), .val (.ref s_NO_CHILDREN_FOR_EPHEMERALS)] [(.ref s_NO_CHILDREN_FOR_EPHEMERALS)])) (fun t k => ?_) ?_
                · refine XS.astore X66.here hx rfl (hb hby at_140) rfl rfl (l' := #[.val (.int p0), .val (.int ((p0 &&& (2147483647 : Int32)) % (9 : Int32))), .val (.int (-108 : Int32)), .val (.ref s_NO_CHILDREN_FOR_EPHEMERALS), .val (.ref s_NO_CHILDREN_FOR_EPHEMERALS)]) rfl ?_
                  show Steps p.tables e below (T66.setTop (mkF m 142 #[.val (.int p0), .val (.int ((p0 &&& (2147483647 : Int32)) % (9 : Int32))), .val (.int (-108 : Int32)), .val (.ref s_NO_CHILDREN_FOR_EPHEMERALS), .val (.ref s_NO_CHILDREN_FOR_EPHEMERALS)] [])) _
                  refine XS.aload X66.here hx rfl (hb hby at_142) rfl rfl ?_
                  show Steps p.tables e below (T66.setTop (mkF m 144 #[.val (.int p0), .val (.int ((p0 &&& (2147483647 : Int32)) % (9 : Int32))), .val (.int (-108 : Int32)), .val (.ref s_NO_CHILDREN_FOR_EPHEMERALS), .val (.ref s_NO_CHILDREN_FOR_EPHEMERALS)] [(.ref s_NO_CHILDREN_FOR_EPHEMERALS)])) _
                  refine XS.aloadN X66.here hx rfl (hb hby at_144) rfl rfl ?_
                  show Steps p.tables e below (T66.setTop (mkF m 145 #[.val (.int p0), .val (.int ((p0 &&& (2147483647 : Int32)) % (9 : Int32))), .val (.int (-108 : Int32)), .val (.ref s_NO_CHILDREN_FOR_EPHEMERALS), .val (.ref s_NO_CHILDREN_FOR_EPHEMERALS)] [(.ref s_NO_CHILDREN_FOR_EPHEMERALS), (.ref s_NO_CHILDREN_FOR_EPHEMERALS)])) _
                  refine Jvm.RoadKit.acmp (g := (mkF m 145 #[.val (.int p0), .val (.int ((p0 &&& (2147483647 : Int32)) % (9 : Int32))), .val (.int (-108 : Int32)), .val (.ref s_NO_CHILDREN_FOR_EPHEMERALS), .val (.ref s_NO_CHILDREN_FOR_EPHEMERALS)] [(.ref s_NO_CHILDREN_FOR_EPHEMERALS), (.ref s_NO_CHILDREN_FOR_EPHEMERALS)])) X66 hx rfl rfl rfl (pc0 := 145) (pc' := 148) (same := true) rfl (hb hby at_145) rfl (decide_eq_true (congrArg Value.ref rfl)) (by decide) (by decide) ?_
                  show Steps p.tables e below (T66.setTop (mkF m 148 #[.val (.int p0), .val (.int ((p0 &&& (2147483647 : Int32)) % (9 : Int32))), .val (.int (-108 : Int32)), .val (.ref s_NO_CHILDREN_FOR_EPHEMERALS), .val (.ref s_NO_CHILDREN_FOR_EPHEMERALS)] [])) _
                  refine XS.aload X66.here hx rfl (hb hby at_148) rfl rfl ?_
                  show Steps p.tables e below (T66.setTop (mkF m 150 #[.val (.int p0), .val (.int ((p0 &&& (2147483647 : Int32)) % (9 : Int32))), .val (.int (-108 : Int32)), .val (.ref s_NO_CHILDREN_FOR_EPHEMERALS), .val (.ref s_NO_CHILDREN_FOR_EPHEMERALS)] [(.ref s_NO_CHILDREN_FOR_EPHEMERALS)])) _
                  exact k
                obtain ⟨cq68, kq68, q68a, q68b, q68c⟩ := isOf hZ rfl (E_NO_CHILDREN_FOR_EPHEMERALS.ext O66.2)
                obtain ⟨_, _, ⟨T68, L68, k68, n68⟩, -, X68, ⟨Lc68, hQ68, l68, y68, z68⟩, st68⟩ := X66.virtualBack hx (y := (⟨"com/example/numtick/numtick/protocol/ErrorCode", "code", "()I"⟩ : MethodName)) (z := (⟨"com/example/numtick/numtick/protocol/ErrorCode", "code", "()I"⟩ : MethodName)) hown (mvT hZ (hw _ (List.mem_of_getElem? (i := 32) rfl))) (mvT hZ (hw _ (List.mem_of_getElem? (i := 33) rfl))) (notFace_of_selects (args := #[]) (mvT hZ (hw _ (List.mem_of_getElem? (i := 35) rfl)))) (mvT hZ (hw _ (List.mem_of_getElem? (i := 35) rfl))) (mvT hZ (hw _ (List.mem_of_getElem? (i := 34) rfl))) (by decide) (backOf (W := 0) (rm3 l Z a0 hw [] s_RUNTIME_INCONSISTENCY s_UNIMPLEMENTED s_BAD_ARGUMENTS s_NO_NODE s_NO_AUTH s_BAD_VERSION s_NO_CHILDREN_FOR_EPHEMERALS s_NODE_EXISTS s_NOT_EMPTY s_VALUES k_VALUES HW s_NO_CHILDREN_FOR_EPHEMERALS (-108 : Int32) T66.heap n0 O66 (F_NO_CHILDREN_FOR_EPHEMERALS_code.ext O66.2)) hZ (hw _ (List.mem_of_getElem? (i := 36) rfl)) (hw _ (List.mem_of_getElem? (i := 2) rfl)) (by decide) (by decide)) q68a q68c (g := (mkF m 150 #[.val (.int p0), .val (.int ((p0 &&& (2147483647 : Int32)) % (9 : Int32))), .val (.int (-108 : Int32)), .val (.ref s_NO_CHILDREN_FOR_EPHEMERALS), .val (.ref s_NO_CHILDREN_FOR_EPHEMERALS)] [(.ref s_NO_CHILDREN_FOR_EPHEMERALS)])) rfl (by rw [hml]; rfl) (Steps.refl _) (argsL := []) (rest := []) (lenOf own_pd31 rfl) rfl (by show 2 * 0 + _ ≤ _; exact Nat.le_of_eq rfl) (hb hby at_150) (fun _ _ => ⟨rfl, rfl, (by decide : 1 + 0 ≤ _), (by decide : 9 + 0 ≤ _)⟩)
                dsimp only [Pt.U, Pt.locs, Pt.cells, Pt.slots] at X68 l68 y68 z68 st68 hQ68
                subst l68 y68 z68
                obtain ⟨rfl, N68q, e68⟩ := hQ68
                have N68 := Fr.app N66 N68q
                refine Go.st (V' := T68.setTop (mkF m 153 #[.val (.int p0), .val (.int ((p0 &&& (2147483647 : Int32)) % (9 : Int32))), .val (.int (-108 : Int32)), .val (.ref s_NO_CHILDREN_FOR_EPHEMERALS), .val (.ref s_NO_CHILDREN_FOR_EPHEMERALS)] [(.int (-108 : Int32))])) (fun t k => st68.trans k) ?_
                refine Go.st (V' := T68.setTop (mkF m 162 #[.val (.int p0), .val (.int ((p0 &&& (2147483647 : Int32)) % (9 : Int32))), .val (.int (-108 : Int32)), .val (.ref s_NO_CHILDREN_FOR_EPHEMERALS), .val (.ref s_NO_CHILDREN_FOR_EPHEMERALS)] [(.int (1 : Int32))])) (fun t k => ?_) ?_
                · refine XS.iloadN X68.here hx rfl (hb hby at_153) rfl  ?_
                  show Steps p.tables e below (T68.setTop (mkF m 154 #[.val (.int p0), .val (.int ((p0 &&& (2147483647 : Int32)) % (9 : Int32))), .val (.int (-108 : Int32)), .val (.ref s_NO_CHILDREN_FOR_EPHEMERALS), .val (.ref s_NO_CHILDREN_FOR_EPHEMERALS)] [(.int (-108 : Int32)), (.int (-108 : Int32))])) _
                  refine XS.icmpNo X68.here hx rfl (hb hby at_154) rfl (teq (by decide : ((-108 : Int32) = (-108 : Int32)))).2 ?_
                  show Steps p.tables e below (T68.setTop (mkF m 157 #[.val (.int p0), .val (.int ((p0 &&& (2147483647 : Int32)) % (9 : Int32))), .val (.int (-108 : Int32)), .val (.ref s_NO_CHILDREN_FOR_EPHEMERALS), .val (.ref s_NO_CHILDREN_FOR_EPHEMERALS)] [])) _
                  refine XS.iconst X68.here hx rfl (hb hby at_157) ?_
                  show Steps p.tables e below (T68.setTop (mkF m 158 #[.val (.int p0), .val (.int ((p0 &&& (2147483647 : Int32)) % (9 : Int32))), .val (.int (-108 : Int32)), .val (.ref s_NO_CHILDREN_FOR_EPHEMERALS), .val (.ref s_NO_CHILDREN_FOR_EPHEMERALS)] [(.int (1 : Int32))])) _
                  refine XS.goto X68.here hx rfl (pc0 := 158) (pc' := 162) rfl (hb hby at_158) (by decide) (by decide) ?_
                  show Steps p.tables e below (T68.setTop (mkF m 162 #[.val (.int p0), .val (.int ((p0 &&& (2147483647 : Int32)) % (9 : Int32))), .val (.int (-108 : Int32)), .val (.ref s_NO_CHILDREN_FOR_EPHEMERALS), .val (.ref s_NO_CHILDREN_FOR_EPHEMERALS)] [(.int (1 : Int32))])) _
                  exact k
                obtain ⟨fs, hr, hrun, hended, hW, hsame⟩ := X68.leave (v := some (.int (1 : Int32))) (fun h => by rw [Bd.returns] at h; cases h)
                refine Go.mk' ⟨_, _, retN X68 hx (t := .boolean) Bd.returns (by simp) (hb hby at_162) hr, hrun, hended, _, _, rfl, ?_, ⟨_, rfl⟩, hW, hsame.mono (by decide) (by decide)⟩
                show Q0 Z p0 h0 n0 _ T68.heap _
                rw [e68]
                exact ⟨rfl, N68⟩
              · refine Go.st (V' := s₁.setTop (mkF m 116 #[.val (.int p0), .val (.int ((p0 &&& (2147483647 : Int32)) % (9 : Int32))), .unset, .unset, .unset] [(.int (7 : Int32)), (.int ((p0 &&& (2147483647 : Int32)) % (9 : Int32)))])) (fun t k => ?_) ?_
                · refine XS.icmpYes X0.here hx rfl (pc0 := 100) (pc' := 113) rfl (hb hby at_100) rfl (feq hc64).2 (by decide) (by decide) ?_
                  show Steps p.tables e below (s₁.setTop (mkF m 113 #[.val (.int p0), .val (.int ((p0 &&& (2147483647 : Int32)) % (9 : Int32))), .unset, .unset, .unset] [])) _
                  refine XS.iloadN X0.here hx rfl (hb hby at_113) rfl  ?_
                  show Steps p.tables e below (s₁.setTop (mkF m 114 #[.val (.int p0), .val (.int ((p0 &&& (2147483647 : Int32)) % (9 : Int32))), .unset, .unset, .unset] [(.int ((p0 &&& (2147483647 : Int32)) % (9 : Int32)))])) _
                  refine XS.bipush X0.here hx rfl (hb hby at_114) ?_
                  show Steps p.tables e below (s₁.setTop (mkF m 116 #[.val (.int p0), .val (.int ((p0 &&& (2147483647 : Int32)) % (9 : Int32))), .unset, .unset, .unset] [(.int (7 : Int32)), (.int ((p0 &&& (2147483647 : Int32)) % (9 : Int32)))])) _
                  exact k
                by_cases hc69 : ((p0 &&& (2147483647 : Int32)) % (9 : Int32)) = (7 : Int32)
                · refine Go.st (V' := s₁.setTop (mkF m 122 #[.val (.int p0), .val (.int ((p0 &&& (2147483647 : Int32)) % (9 : Int32))), .val (.int (-110 : Int32)), .unset, .unset] [])) (fun t k => ?_) ?_
                  · refine XS.icmpNo X0.here hx rfl (hb hby at_116) rfl (teq hc69).2 ?_
                    show Steps p.tables e below (s₁.setTop (mkF m 119 #[.val (.int p0), .val (.int ((p0 &&& (2147483647 : Int32)) % (9 : Int32))), .unset, .unset, .unset] [])) _
                    refine XS.bipush X0.here hx rfl (hb hby at_119) ?_
                    show Steps p.tables e below (s₁.setTop (mkF m 121 #[.val (.int p0), .val (.int ((p0 &&& (2147483647 : Int32)) % (9 : Int32))), .unset, .unset, .unset] [(.int (-110 : Int32))])) _
                    refine XS.istoreN X0.here hx rfl (hb hby at_121) rfl (l' := #[.val (.int p0), .val (.int ((p0 &&& (2147483647 : Int32)) % (9 : Int32))), .val (.int (-110 : Int32)), .unset, .unset]) rfl ?_
                    show Steps p.tables e below (s₁.setTop (mkF m 122 #[.val (.int p0), .val (.int ((p0 &&& (2147483647 : Int32)) % (9 : Int32))), .val (.int (-110 : Int32)), .unset, .unset] [])) _
                    exact k
                  obtain ⟨T70, X70, e70, st70⟩ := getS2 X0 hx hZ hown (host := "") (Or.inl (hw _ (List.mem_of_getElem? (i := 40) rfl))) Via.refl e0 (S_NODE_EXISTS.ext O0.2) (g := (mkF m 122 #[.val (.int p0), .val (.int ((p0 &&& (2147483647 : Int32)) % (9 : Int32))), .val (.int (-110 : Int32)), .unset, .unset] [])) rfl (hb hby at_122)
                  refine Go.st (V' := T70.setTop (mkF m 125 #[.val (.int p0), .val (.int ((p0 &&& (2147483647 : Int32)) % (9 : Int32))), .val (.int (-110 : Int32)), .unset, .unset] [(.ref s_NODE_EXISTS)])) (fun t k => st70 t k) ?_
                  refine Go.st (V' := T70.setTop (mkF m 137 #[.val (.int p0), .val (.int ((p0 &&& (2147483647 : Int32)) % (9 : Int32))), .val (.int (-110 : Int32)), .val (.ref s_NODE_EXISTS), .unset] [(.int (-110 : Int32))])) (fun t k => ?_) ?_
                  · refine XS.astoreN X70.here hx rfl (hb hby at_125) rfl rfl (l' := #[.val (.int p0), .val (.int ((p0 &&& (2147483647 : Int32)) % (9 : Int32))), .val (.int (-110 : Int32)), .val (.ref s_NODE_EXISTS), .unset]) rfl ?_
                    show Steps p.tables e below (T70.setTop (mkF m 126 #[.val (.int p0), .val (.int ((p0 &&& (2147483647 : Int32)) % (9 : Int32))), .val (.int (-110 : Int32)), .val (.ref s_NODE_EXISTS), .unset] [])) _
                    refine XS.goto X70.here hx rfl (pc0 := 126) (pc' := 136) rfl (hb hby at_126) (by decide) (by decide) ?_
                    show Steps p.tables e below (T70.setTop (mkF m 136 #[.val (.int p0), .val (.int ((p0 &&& (2147483647 : Int32)) % (9 : Int32))), .val (.int (-110 : Int32)), .val (.ref s_NODE_EXISTS), .unset] [])) _
                    refine XS.iloadN X70.here hx rfl (hb hby at_136) rfl  ?_
                    show Steps p.tables e below (T70.setTop (mkF m 137 #[.val (.int p0), .val (.int ((p0 &&& (2147483647 : Int32)) % (9 : Int32))), .val (.int (-110 : Int32)), .val (.ref s_NODE_EXISTS), .unset] [(.int (-110 : Int32))])) _
                    exact k
                  obtain ⟨_, _, ⟨T71, L71, k71, n71⟩, -, X71, ⟨Lc71, hQ71, l71, y71, z71⟩, st71⟩ := Jvm.LawKit.callS X70 hx (y := (⟨"com/example/numtick/numtick/protocol/ErrorCode", "of", "(I)Lcom/example/numtick/numtick/protocol/ErrorCode;"⟩ : MethodName)) hown (mvT hZ (hw _ (List.mem_of_getElem? (i := 4) rfl))) (mvT hZ (hw _ (List.mem_of_getElem? (i := 5) rfl))) (mvT hZ (hw _ (List.mem_of_getElem? (i := 2) rfl))) (mvT hZ (hw _ (List.mem_of_getElem? (i := 6) rfl))) (by decide) (backOf (W := 0) (rm1 l Z a0 hw [] s_RUNTIME_INCONSISTENCY s_UNIMPLEMENTED s_BAD_ARGUMENTS s_NO_NODE s_NO_AUTH s_BAD_VERSION s_NO_CHILDREN_FOR_EPHEMERALS s_NODE_EXISTS s_NOT_EMPTY s_VALUES k_VALUES HW (-110 : Int32) h0 n0 O0 (by decide)) hZ (hw _ (List.mem_of_getElem? (i := 6) rfl)) (hw _ (List.mem_of_getElem? (i := 2) rfl)) (by decide) (by decide)) (g := (mkF m 137 #[.val (.int p0), .val (.int ((p0 &&& (2147483647 : Int32)) % (9 : Int32))), .val (.int (-110 : Int32)), .val (.ref s_NODE_EXISTS), .unset] [(.int (-110 : Int32))])) rfl (by rw [hml]; rfl) (argsL := [(.int (-110 : Int32))]) (rest := []) (lenOf own_pd30 rfl) rfl (by show 2 * 0 + _ ≤ _; exact Nat.le_of_eq rfl) (hb hby at_137) (fun _ _ => ⟨rfl, e70, (by decide : 0 + 1 ≤ _), (by decide : 0 + 9 ≤ _)⟩)
                  dsimp only [Pt.U, Pt.locs, Pt.cells, Pt.slots] at X71 l71 y71 z71 st71 hQ71
                  subst l71 y71 z71
                  obtain ⟨rfl, N71q, K71⟩ := hQ71
                  have N71 := Fr.app N0 N71q
                  have O71 := O0.keep K71 all0
                  refine Go.st (V' := T71.setTop (mkF m 140 #[.val (.int p0), .val (.int ((p0 &&& (2147483647 : Int32)) % (9 : Int32))), .val (.int (-110 : Int32)), .val (.ref s_NODE_EXISTS), .unset] [(.ref (f1 s_RUNTIME_INCONSISTENCY s_UNIMPLEMENTED s_BAD_ARGUMENTS s_NO_NODE s_NO_AUTH s_BAD_VERSION s_NO_CHILDREN_FOR_EPHEMERALS s_NODE_EXISTS s_NOT_EMPTY (-110 : Int32)))])) (fun t k => st71 t k) ?_
                  have r72 : (f1 s_RUNTIME_INCONSISTENCY s_UNIMPLEMENTED s_BAD_ARGUMENTS s_NO_NODE s_NO_AUTH s_BAD_VERSION s_NO_CHILDREN_FOR_EPHEMERALS s_NODE_EXISTS s_NOT_EMPTY (-110 : Int32)) = s_NODE_EXISTS := by rw [f1, if_neg (by decide : ¬ ((-2 : Int32) = (-110 : Int32))), if_neg (by decide : ¬ ((-6 : Int32) = (-110 : Int32))), if_neg (by decide : ¬ ((-8 : Int32) = (-110 : Int32))), if_neg (by decide : ¬ ((-101 : Int32) = (-110 : Int32))), if_neg (by decide : ¬ ((-102 : Int32) = (-110 : Int32))), if_neg (by decide : ¬ ((-103 : Int32) = (-110 : Int32))), if_neg (by decide : ¬ ((-108 : Int32) = (-110 : Int32))), if_pos (by decide : ((-110 : Int32) = (-110 : Int32)))]
                  rw [r72]
                  refine Go.st (V' := T71.setTop (mkF m 150 #[.val (.int p0), .val (.int ((p0 &&& (2147483647 : Int32)) % (9 : Int32))), .val (.int (-110 : Int32)), .val (.ref s_NODE_EXISTS), .val (.ref s_NODE_EXISTS)] [(.ref s_NODE_EXISTS)])) (fun t k => ?_) ?_
                  · refine XS.astore X71.here hx rfl (hb hby at_140) rfl rfl (l' := #[.val (.int p0), .val (.int ((p0 &&& (2147483647 : Int32)) % (9 : Int32))), .val (.int (-110 : Int32)), .val (.ref s_NODE_EXISTS), .val (.ref s_NODE_EXISTS)]) rfl ?_
                    show Steps p.tables e below (T71.setTop (mkF m 142 #[.val (.int p0), .val (.int ((p0 &&& (2147483647 : Int32)) % (9 : Int32))), .val (.int (-110 : Int32)), .val (.ref s_NODE_EXISTS), .val (.ref s_NODE_EXISTS)] [])) _
                    refine XS.aload X71.here hx rfl (hb hby at_142) rfl rfl ?_
                    show Steps p.tables e below (T71.setTop (mkF m 144 #[.val (.int p0), .val (.int ((p0 &&& (2147483647 : Int32)) % (9 : Int32))), .val (.int (-110 : Int32)), .val (.ref s_NODE_EXISTS), .val (.ref s_NODE_EXISTS)] [(.ref s_NODE_EXISTS)])) _
                    refine XS.aloadN X71.here hx rfl (hb hby at_144) rfl rfl ?_
                    show Steps p.tables e below (T71.setTop (mkF m 145 #[.val (.int p0), .val (.int ((p0 &&& (2147483647 : Int32)) % (9 : Int32))), .val (.int (-110 : Int32)), .val (.ref s_NODE_EXISTS), .val (.ref s_NODE_EXISTS)] [(.ref s_NODE_EXISTS), (.ref s_NODE_EXISTS)])) _
                    refine Jvm.RoadKit.acmp (g := (mkF m 145 #[.val (.int p0), .val (.int ((p0 &&& (2147483647 : Int32)) % (9 : Int32))), .val (.int (-110 : Int32)), .val (.ref s_NODE_EXISTS), .val (.ref s_NODE_EXISTS)] [(.ref s_NODE_EXISTS), (.ref s_NODE_EXISTS)])) X71 hx rfl rfl rfl (pc0 := 145) (pc' := 148) (same := true) rfl (hb hby at_145) rfl (decide_eq_true (congrArg Value.ref rfl)) (by decide) (by decide) ?_
                    show Steps p.tables e below (T71.setTop (mkF m 148 #[.val (.int p0), .val (.int ((p0 &&& (2147483647 : Int32)) % (9 : Int32))), .val (.int (-110 : Int32)), .val (.ref s_NODE_EXISTS), .val (.ref s_NODE_EXISTS)] [])) _
                    refine XS.aload X71.here hx rfl (hb hby at_148) rfl rfl ?_
                    show Steps p.tables e below (T71.setTop (mkF m 150 #[.val (.int p0), .val (.int ((p0 &&& (2147483647 : Int32)) % (9 : Int32))), .val (.int (-110 : Int32)), .val (.ref s_NODE_EXISTS), .val (.ref s_NODE_EXISTS)] [(.ref s_NODE_EXISTS)])) _
                    exact k
                  obtain ⟨cq73, kq73, q73a, q73b, q73c⟩ := isOf hZ rfl (E_NODE_EXISTS.ext O71.2)
                  obtain ⟨_, _, ⟨T73, L73, k73, n73⟩, -, X73, ⟨Lc73, hQ73, l73, y73, z73⟩, st73⟩ := X71.virtualBack hx (y := (⟨"com/example/numtick/numtick/protocol/ErrorCode", "code", "()I"⟩ : MethodName)) (z := (⟨"com/example/numtick/numtick/protocol/ErrorCode", "code", "()I"⟩ : MethodName)) hown (mvT hZ (hw _ (List.mem_of_getElem? (i := 32) rfl))) (mvT hZ (hw _ (List.mem_of_getElem? (i := 33) rfl))) (notFace_of_selects (args := #[]) (mvT hZ (hw _ (List.mem_of_getElem? (i := 35) rfl)))) (mvT hZ (hw _ (List.mem_of_getElem? (i := 35) rfl))) (mvT hZ (hw _ (List.mem_of_getElem? (i := 34) rfl))) (by decide) (backOf (W := 0) (rm3 l Z a0 hw [] s_RUNTIME_INCONSISTENCY s_UNIMPLEMENTED s_BAD_ARGUMENTS s_NO_NODE s_NO_AUTH s_BAD_VERSION s_NO_CHILDREN_FOR_EPHEMERALS s_NODE_EXISTS s_NOT_EMPTY s_VALUES k_VALUES HW s_NODE_EXISTS (-110 : Int32) T71.heap n0 O71 (F_NODE_EXISTS_code.ext O71.2)) hZ (hw _ (List.mem_of_getElem? (i := 36) rfl)) (hw _ (List.mem_of_getElem? (i := 2) rfl)) (by decide) (by decide)) q73a q73c (g := (mkF m 150 #[.val (.int p0), .val (.int ((p0 &&& (2147483647 : Int32)) % (9 : Int32))), .val (.int (-110 : Int32)), .val (.ref s_NODE_EXISTS), .val (.ref s_NODE_EXISTS)] [(.ref s_NODE_EXISTS)])) rfl (by rw [hml]; rfl) (Steps.refl _) (argsL := []) (rest := []) (lenOf own_pd31 rfl) rfl (by show 2 * 0 + _ ≤ _; exact Nat.le_of_eq rfl) (hb hby at_150) (fun _ _ => ⟨rfl, rfl, (by decide : 1 + 0 ≤ _), (by decide : 9 + 0 ≤ _)⟩)
                  dsimp only [Pt.U, Pt.locs, Pt.cells, Pt.slots] at X73 l73 y73 z73 st73 hQ73
                  subst l73 y73 z73
                  obtain ⟨rfl, N73q, e73⟩ := hQ73
                  have N73 := Fr.app N71 N73q
                  refine Go.st (V' := T73.setTop (mkF m 153 #[.val (.int p0), .val (.int ((p0 &&& (2147483647 : Int32)) % (9 : Int32))), .val (.int (-110 : Int32)), .val (.ref s_NODE_EXISTS), .val (.ref s_NODE_EXISTS)] [(.int (-110 : Int32))])) (fun t k => st73.trans k) ?_
                  refine Go.st (V' := T73.setTop (mkF m 162 #[.val (.int p0), .val (.int ((p0 &&& (2147483647 : Int32)) % (9 : Int32))), .val (.int (-110 : Int32)), .val (.ref s_NODE_EXISTS), .val (.ref s_NODE_EXISTS)] [(.int (1 : Int32))])) (fun t k => ?_) ?_
                  · refine XS.iloadN X73.here hx rfl (hb hby at_153) rfl  ?_
                    show Steps p.tables e below (T73.setTop (mkF m 154 #[.val (.int p0), .val (.int ((p0 &&& (2147483647 : Int32)) % (9 : Int32))), .val (.int (-110 : Int32)), .val (.ref s_NODE_EXISTS), .val (.ref s_NODE_EXISTS)] [(.int (-110 : Int32)), (.int (-110 : Int32))])) _
                    refine XS.icmpNo X73.here hx rfl (hb hby at_154) rfl (teq (by decide : ((-110 : Int32) = (-110 : Int32)))).2 ?_
                    show Steps p.tables e below (T73.setTop (mkF m 157 #[.val (.int p0), .val (.int ((p0 &&& (2147483647 : Int32)) % (9 : Int32))), .val (.int (-110 : Int32)), .val (.ref s_NODE_EXISTS), .val (.ref s_NODE_EXISTS)] [])) _
                    refine XS.iconst X73.here hx rfl (hb hby at_157) ?_
                    show Steps p.tables e below (T73.setTop (mkF m 158 #[.val (.int p0), .val (.int ((p0 &&& (2147483647 : Int32)) % (9 : Int32))), .val (.int (-110 : Int32)), .val (.ref s_NODE_EXISTS), .val (.ref s_NODE_EXISTS)] [(.int (1 : Int32))])) _
                    refine XS.goto X73.here hx rfl (pc0 := 158) (pc' := 162) rfl (hb hby at_158) (by decide) (by decide) ?_
                    show Steps p.tables e below (T73.setTop (mkF m 162 #[.val (.int p0), .val (.int ((p0 &&& (2147483647 : Int32)) % (9 : Int32))), .val (.int (-110 : Int32)), .val (.ref s_NODE_EXISTS), .val (.ref s_NODE_EXISTS)] [(.int (1 : Int32))])) _
                    exact k
                  obtain ⟨fs, hr, hrun, hended, hW, hsame⟩ := X73.leave (v := some (.int (1 : Int32))) (fun h => by rw [Bd.returns] at h; cases h)
                  refine Go.mk' ⟨_, _, retN X73 hx (t := .boolean) Bd.returns (by simp) (hb hby at_162) hr, hrun, hended, _, _, rfl, ?_, ⟨_, rfl⟩, hW, hsame.mono (by decide) (by decide)⟩
                  show Q0 Z p0 h0 n0 _ T73.heap _
                  rw [e73]
                  exact ⟨rfl, N73⟩
                · refine Go.st (V' := s₁.setTop (mkF m 132 #[.val (.int p0), .val (.int ((p0 &&& (2147483647 : Int32)) % (9 : Int32))), .val (.int (-111 : Int32)), .unset, .unset] [])) (fun t k => ?_) ?_
                  · refine XS.icmpYes X0.here hx rfl (pc0 := 116) (pc' := 129) rfl (hb hby at_116) rfl (feq hc69).2 (by decide) (by decide) ?_
                    show Steps p.tables e below (s₁.setTop (mkF m 129 #[.val (.int p0), .val (.int ((p0 &&& (2147483647 : Int32)) % (9 : Int32))), .unset, .unset, .unset] [])) _
                    refine XS.bipush X0.here hx rfl (hb hby at_129) ?_
                    show Steps p.tables e below (s₁.setTop (mkF m 131 #[.val (.int p0), .val (.int ((p0 &&& (2147483647 : Int32)) % (9 : Int32))), .unset, .unset, .unset] [(.int (-111 : Int32))])) _
                    refine XS.istoreN X0.here hx rfl (hb hby at_131) rfl (l' := #[.val (.int p0), .val (.int ((p0 &&& (2147483647 : Int32)) % (9 : Int32))), .val (.int (-111 : Int32)), .unset, .unset]) rfl ?_
                    show Steps p.tables e below (s₁.setTop (mkF m 132 #[.val (.int p0), .val (.int ((p0 &&& (2147483647 : Int32)) % (9 : Int32))), .val (.int (-111 : Int32)), .unset, .unset] [])) _
                    exact k
                  obtain ⟨T74, X74, e74, st74⟩ := getS2 X0 hx hZ hown (host := "") (Or.inl (hw _ (List.mem_of_getElem? (i := 42) rfl))) Via.refl e0 (S_NOT_EMPTY.ext O0.2) (g := (mkF m 132 #[.val (.int p0), .val (.int ((p0 &&& (2147483647 : Int32)) % (9 : Int32))), .val (.int (-111 : Int32)), .unset, .unset] [])) rfl (hb hby at_132)
                  refine Go.st (V' := T74.setTop (mkF m 135 #[.val (.int p0), .val (.int ((p0 &&& (2147483647 : Int32)) % (9 : Int32))), .val (.int (-111 : Int32)), .unset, .unset] [(.ref s_NOT_EMPTY)])) (fun t k => st74 t k) ?_
                  refine Go.st (V' := T74.setTop (mkF m 137 #[.val (.int p0), .val (.int ((p0 &&& (2147483647 : Int32)) % (9 : Int32))), .val (.int (-111 : Int32)), .val (.ref s_NOT_EMPTY), .unset] [(.int (-111 : Int32))])) (fun t k => ?_) ?_
                  · refine XS.astoreN X74.here hx rfl (hb hby at_135) rfl rfl (l' := #[.val (.int p0), .val (.int ((p0 &&& (2147483647 : Int32)) % (9 : Int32))), .val (.int (-111 : Int32)), .val (.ref s_NOT_EMPTY), .unset]) rfl ?_
                    show Steps p.tables e below (T74.setTop (mkF m 136 #[.val (.int p0), .val (.int ((p0 &&& (2147483647 : Int32)) % (9 : Int32))), .val (.int (-111 : Int32)), .val (.ref s_NOT_EMPTY), .unset] [])) _
                    refine XS.iloadN X74.here hx rfl (hb hby at_136) rfl  ?_
                    show Steps p.tables e below (T74.setTop (mkF m 137 #[.val (.int p0), .val (.int ((p0 &&& (2147483647 : Int32)) % (9 : Int32))), .val (.int (-111 : Int32)), .val (.ref s_NOT_EMPTY), .unset] [(.int (-111 : Int32))])) _
                    exact k
                  obtain ⟨_, _, ⟨T75, L75, k75, n75⟩, -, X75, ⟨Lc75, hQ75, l75, y75, z75⟩, st75⟩ := Jvm.LawKit.callS X74 hx (y := (⟨"com/example/numtick/numtick/protocol/ErrorCode", "of", "(I)Lcom/example/numtick/numtick/protocol/ErrorCode;"⟩ : MethodName)) hown (mvT hZ (hw _ (List.mem_of_getElem? (i := 4) rfl))) (mvT hZ (hw _ (List.mem_of_getElem? (i := 5) rfl))) (mvT hZ (hw _ (List.mem_of_getElem? (i := 2) rfl))) (mvT hZ (hw _ (List.mem_of_getElem? (i := 6) rfl))) (by decide) (backOf (W := 0) (rm1 l Z a0 hw [] s_RUNTIME_INCONSISTENCY s_UNIMPLEMENTED s_BAD_ARGUMENTS s_NO_NODE s_NO_AUTH s_BAD_VERSION s_NO_CHILDREN_FOR_EPHEMERALS s_NODE_EXISTS s_NOT_EMPTY s_VALUES k_VALUES HW (-111 : Int32) h0 n0 O0 (by decide)) hZ (hw _ (List.mem_of_getElem? (i := 6) rfl)) (hw _ (List.mem_of_getElem? (i := 2) rfl)) (by decide) (by decide)) (g := (mkF m 137 #[.val (.int p0), .val (.int ((p0 &&& (2147483647 : Int32)) % (9 : Int32))), .val (.int (-111 : Int32)), .val (.ref s_NOT_EMPTY), .unset] [(.int (-111 : Int32))])) rfl (by rw [hml]; rfl) (argsL := [(.int (-111 : Int32))]) (rest := []) (lenOf own_pd30 rfl) rfl (by show 2 * 0 + _ ≤ _; exact Nat.le_of_eq rfl) (hb hby at_137) (fun _ _ => ⟨rfl, e74, (by decide : 0 + 1 ≤ _), (by decide : 0 + 9 ≤ _)⟩)
                  dsimp only [Pt.U, Pt.locs, Pt.cells, Pt.slots] at X75 l75 y75 z75 st75 hQ75
                  subst l75 y75 z75
                  obtain ⟨rfl, N75q, K75⟩ := hQ75
                  have N75 := Fr.app N0 N75q
                  have O75 := O0.keep K75 all0
                  refine Go.st (V' := T75.setTop (mkF m 140 #[.val (.int p0), .val (.int ((p0 &&& (2147483647 : Int32)) % (9 : Int32))), .val (.int (-111 : Int32)), .val (.ref s_NOT_EMPTY), .unset] [(.ref (f1 s_RUNTIME_INCONSISTENCY s_UNIMPLEMENTED s_BAD_ARGUMENTS s_NO_NODE s_NO_AUTH s_BAD_VERSION s_NO_CHILDREN_FOR_EPHEMERALS s_NODE_EXISTS s_NOT_EMPTY (-111 : Int32)))])) (fun t k => st75 t k) ?_
                  have r76 : (f1 s_RUNTIME_INCONSISTENCY s_UNIMPLEMENTED s_BAD_ARGUMENTS s_NO_NODE s_NO_AUTH s_BAD_VERSION s_NO_CHILDREN_FOR_EPHEMERALS s_NODE_EXISTS s_NOT_EMPTY (-111 : Int32)) = s_NOT_EMPTY := by rw [f1, if_neg (by decide : ¬ ((-2 : Int32) = (-111 : Int32))), if_neg (by decide : ¬ ((-6 : Int32) = (-111 : Int32))), if_neg (by decide : ¬ ((-8 : Int32) = (-111 : Int32))), if_neg (by decide : ¬ ((-101 : Int32) = (-111 : Int32))), if_neg (by decide : ¬ ((-102 : Int32) = (-111 : Int32))), if_neg (by decide : ¬ ((-103 : Int32) = (-111 : Int32))), if_neg (by decide : ¬ ((-108 : Int32) = (-111 : Int32))), if_neg (by decide : ¬ ((-110 : Int32) = (-111 : Int32))), if_pos (by decide : ((-111 : Int32) = (-111 : Int32)))]
                  rw [r76]
                  refine Go.st (V' := T75.setTop (mkF m 150 #[.val (.int p0), .val (.int ((p0 &&& (2147483647 : Int32)) % (9 : Int32))), .val (.int (-111 : Int32)), .val (.ref s_NOT_EMPTY), .val (.ref s_NOT_EMPTY)] [(.ref s_NOT_EMPTY)])) (fun t k => ?_) ?_
                  · refine XS.astore X75.here hx rfl (hb hby at_140) rfl rfl (l' := #[.val (.int p0), .val (.int ((p0 &&& (2147483647 : Int32)) % (9 : Int32))), .val (.int (-111 : Int32)), .val (.ref s_NOT_EMPTY), .val (.ref s_NOT_EMPTY)]) rfl ?_
                    show Steps p.tables e below (T75.setTop (mkF m 142 #[.val (.int p0), .val (.int ((p0 &&& (2147483647 : Int32)) % (9 : Int32))), .val (.int (-111 : Int32)), .val (.ref s_NOT_EMPTY), .val (.ref s_NOT_EMPTY)] [])) _
                    refine XS.aload X75.here hx rfl (hb hby at_142) rfl rfl ?_
                    show Steps p.tables e below (T75.setTop (mkF m 144 #[.val (.int p0), .val (.int ((p0 &&& (2147483647 : Int32)) % (9 : Int32))), .val (.int (-111 : Int32)), .val (.ref s_NOT_EMPTY), .val (.ref s_NOT_EMPTY)] [(.ref s_NOT_EMPTY)])) _
                    refine XS.aloadN X75.here hx rfl (hb hby at_144) rfl rfl ?_
                    show Steps p.tables e below (T75.setTop (mkF m 145 #[.val (.int p0), .val (.int ((p0 &&& (2147483647 : Int32)) % (9 : Int32))), .val (.int (-111 : Int32)), .val (.ref s_NOT_EMPTY), .val (.ref s_NOT_EMPTY)] [(.ref s_NOT_EMPTY), (.ref s_NOT_EMPTY)])) _
                    refine Jvm.RoadKit.acmp (g := (mkF m 145 #[.val (.int p0), .val (.int ((p0 &&& (2147483647 : Int32)) % (9 : Int32))), .val (.int (-111 : Int32)), .val (.ref s_NOT_EMPTY), .val (.ref s_NOT_EMPTY)] [(.ref s_NOT_EMPTY), (.ref s_NOT_EMPTY)])) X75 hx rfl rfl rfl (pc0 := 145) (pc' := 148) (same := true) rfl (hb hby at_145) rfl (decide_eq_true (congrArg Value.ref rfl)) (by decide) (by decide) ?_
                    show Steps p.tables e below (T75.setTop (mkF m 148 #[.val (.int p0), .val (.int ((p0 &&& (2147483647 : Int32)) % (9 : Int32))), .val (.int (-111 : Int32)), .val (.ref s_NOT_EMPTY), .val (.ref s_NOT_EMPTY)] [])) _
                    refine XS.aload X75.here hx rfl (hb hby at_148) rfl rfl ?_
                    show Steps p.tables e below (T75.setTop (mkF m 150 #[.val (.int p0), .val (.int ((p0 &&& (2147483647 : Int32)) % (9 : Int32))), .val (.int (-111 : Int32)), .val (.ref s_NOT_EMPTY), .val (.ref s_NOT_EMPTY)] [(.ref s_NOT_EMPTY)])) _
                    exact k
                  obtain ⟨cq77, kq77, q77a, q77b, q77c⟩ := isOf hZ rfl (E_NOT_EMPTY.ext O75.2)
                  obtain ⟨_, _, ⟨T77, L77, k77, n77⟩, -, X77, ⟨Lc77, hQ77, l77, y77, z77⟩, st77⟩ := X75.virtualBack hx (y := (⟨"com/example/numtick/numtick/protocol/ErrorCode", "code", "()I"⟩ : MethodName)) (z := (⟨"com/example/numtick/numtick/protocol/ErrorCode", "code", "()I"⟩ : MethodName)) hown (mvT hZ (hw _ (List.mem_of_getElem? (i := 32) rfl))) (mvT hZ (hw _ (List.mem_of_getElem? (i := 33) rfl))) (notFace_of_selects (args := #[]) (mvT hZ (hw _ (List.mem_of_getElem? (i := 35) rfl)))) (mvT hZ (hw _ (List.mem_of_getElem? (i := 35) rfl))) (mvT hZ (hw _ (List.mem_of_getElem? (i := 34) rfl))) (by decide) (backOf (W := 0) (rm3 l Z a0 hw [] s_RUNTIME_INCONSISTENCY s_UNIMPLEMENTED s_BAD_ARGUMENTS s_NO_NODE s_NO_AUTH s_BAD_VERSION s_NO_CHILDREN_FOR_EPHEMERALS s_NODE_EXISTS s_NOT_EMPTY s_VALUES k_VALUES HW s_NOT_EMPTY (-111 : Int32) T75.heap n0 O75 (F_NOT_EMPTY_code.ext O75.2)) hZ (hw _ (List.mem_of_getElem? (i := 36) rfl)) (hw _ (List.mem_of_getElem? (i := 2) rfl)) (by decide) (by decide)) q77a q77c (g := (mkF m 150 #[.val (.int p0), .val (.int ((p0 &&& (2147483647 : Int32)) % (9 : Int32))), .val (.int (-111 : Int32)), .val (.ref s_NOT_EMPTY), .val (.ref s_NOT_EMPTY)] [(.ref s_NOT_EMPTY)])) rfl (by rw [hml]; rfl) (Steps.refl _) (argsL := []) (rest := []) (lenOf own_pd31 rfl) rfl (by show 2 * 0 + _ ≤ _; exact Nat.le_of_eq rfl) (hb hby at_150) (fun _ _ => ⟨rfl, rfl, (by decide : 1 + 0 ≤ _), (by decide : 9 + 0 ≤ _)⟩)
                  dsimp only [Pt.U, Pt.locs, Pt.cells, Pt.slots] at X77 l77 y77 z77 st77 hQ77
                  subst l77 y77 z77
                  obtain ⟨rfl, N77q, e77⟩ := hQ77
                  have N77 := Fr.app N75 N77q
                  refine Go.st (V' := T77.setTop (mkF m 153 #[.val (.int p0), .val (.int ((p0 &&& (2147483647 : Int32)) % (9 : Int32))), .val (.int (-111 : Int32)), .val (.ref s_NOT_EMPTY), .val (.ref s_NOT_EMPTY)] [(.int (-111 : Int32))])) (fun t k => st77.trans k) ?_
                  refine Go.st (V' := T77.setTop (mkF m 162 #[.val (.int p0), .val (.int ((p0 &&& (2147483647 : Int32)) % (9 : Int32))), .val (.int (-111 : Int32)), .val (.ref s_NOT_EMPTY), .val (.ref s_NOT_EMPTY)] [(.int (1 : Int32))])) (fun t k => ?_) ?_
                  · refine XS.iloadN X77.here hx rfl (hb hby at_153) rfl  ?_
                    show Steps p.tables e below (T77.setTop (mkF m 154 #[.val (.int p0), .val (.int ((p0 &&& (2147483647 : Int32)) % (9 : Int32))), .val (.int (-111 : Int32)), .val (.ref s_NOT_EMPTY), .val (.ref s_NOT_EMPTY)] [(.int (-111 : Int32)), (.int (-111 : Int32))])) _
                    refine XS.icmpNo X77.here hx rfl (hb hby at_154) rfl (teq (by decide : ((-111 : Int32) = (-111 : Int32)))).2 ?_
                    show Steps p.tables e below (T77.setTop (mkF m 157 #[.val (.int p0), .val (.int ((p0 &&& (2147483647 : Int32)) % (9 : Int32))), .val (.int (-111 : Int32)), .val (.ref s_NOT_EMPTY), .val (.ref s_NOT_EMPTY)] [])) _
                    refine XS.iconst X77.here hx rfl (hb hby at_157) ?_
                    show Steps p.tables e below (T77.setTop (mkF m 158 #[.val (.int p0), .val (.int ((p0 &&& (2147483647 : Int32)) % (9 : Int32))), .val (.int (-111 : Int32)), .val (.ref s_NOT_EMPTY), .val (.ref s_NOT_EMPTY)] [(.int (1 : Int32))])) _
                    refine XS.goto X77.here hx rfl (pc0 := 158) (pc' := 162) rfl (hb hby at_158) (by decide) (by decide) ?_
                    show Steps p.tables e below (T77.setTop (mkF m 162 #[.val (.int p0), .val (.int ((p0 &&& (2147483647 : Int32)) % (9 : Int32))), .val (.int (-111 : Int32)), .val (.ref s_NOT_EMPTY), .val (.ref s_NOT_EMPTY)] [(.int (1 : Int32))])) _
                    exact k
                  obtain ⟨fs, hr, hrun, hended, hW, hsame⟩ := X77.leave (v := some (.int (1 : Int32))) (fun h => by rw [Bd.returns] at h; cases h)
                  refine Go.mk' ⟨_, _, retN X77 hx (t := .boolean) Bd.returns (by simp) (hb hby at_162) hr, hrun, hended, _, _, rfl, ?_, ⟨_, rfl⟩, hW, hsame.mono (by decide) (by decide)⟩
                  show Q0 Z p0 h0 n0 _ T77.heap _
                  rw [e77]
                  exact ⟨rfl, N77⟩
set_option maxRecDepth 65536 in
set_option maxHeartbeats 40000000 in
theorem comes_1 {Post : Tables → Env → Array Value → State → Outcome → State → Prop} (hpost : ∀ tb e args s v u, (limb_1_1.after args s (.returned v) u = true ∧ limb_1_2.after args s (.returned v) u = true ∧ True) → FrameEnd s (.returned v) u (Jvm.fieldLocs frame_1_writes args s ++ Jvm.arrayLocs frame_1_arrays args s ++ Jvm.staticLocs frame_1_statics s) 16 128 → Post tb e args s (.returned v) u) :
    ArmFor flags0 classFile x code maxLocals ret World_1 tables_1 room_1 Calls_1 rest_1 Pre_1 Post := by
  intro l hfl _ _ p e ha hc hk s m args below hf hA hF happ hP
  obtain ⟨hcalls, hrest, hpre⟩ := hP
  obtain ⟨-, -, -, hnamed, -, -, -, hat⟩ := (Spec.applies_iff hf).mp happ
  obtain ⟨hg, hn⟩ := and_e (Cond.before_iff.mp (show (Jvm.Cond.and given_1 narrow_1).before args s = true from hpre))
  obtain ⟨gg0, hg⟩ := and_e hg
  have gg1 := hg
  obtain ⟨w0, rfl⟩ : ∃ w0 : Value, args = #[w0] := by
    have hs : args.size = 1 := by simpa [Cond.value, given_1] using gg0
    obtain ⟨L⟩ := args
    match L, hs with
    | [w0], _ => exact ⟨w0, rfl⟩
  have hw := fun d (hd : d ∈ tables_1) => atoms_spec (ws := Jvm.Cond.code x code maxLocals ret :: tables_1) hat d (List.mem_cons_of_mem _ hd)
  have hfit : Fit s := fun {y c} hc i hi => by
    obtain ⟨ha, rfl⟩ := Array.getElem?_eq_some_iff.mp hc
    have q := List.all_eq_true.mp ((Array.all_eq_true_iff_forall_mem.mp hF) _ (Array.getElem_mem ha)) i (List.mem_range.mpr hi)
    simpa [Array.getElem?_eq_getElem hi] using q
  obtain ⟨i0, ei0⟩ := is_v gg1
  obtain rfl : w0 = (.int i0) := Option.some.inj ei0
  obtain ⟨c0, hn⟩ := and_e hn
  obtain ⟨c1, hn⟩ := and_e hn
  obtain ⟨c2, hn⟩ := and_e hn
  obtain ⟨c3, hn⟩ := and_e hn
  obtain ⟨c4, hn⟩ := and_e hn
  obtain ⟨c5, hn⟩ := and_e hn
  obtain ⟨c6, hn⟩ := and_e hn
  obtain ⟨c7, hn⟩ := and_e hn
  obtain ⟨c8, hn⟩ := and_e hn
  obtain ⟨c9, hn⟩ := and_e hn
  obtain ⟨c10, hn⟩ := and_e hn
  obtain ⟨c11, hn⟩ := and_e hn
  obtain ⟨c12, hn⟩ := and_e hn
  obtain ⟨c13, hn⟩ := and_e hn
  obtain ⟨c14, hn⟩ := and_e hn
  obtain ⟨c15, hn⟩ := and_e hn
  obtain ⟨c16, hn⟩ := and_e hn
  obtain ⟨c17, hn⟩ := and_e hn
  obtain ⟨c18, hn⟩ := and_e hn
  obtain ⟨c19, hn⟩ := and_e hn
  obtain ⟨c20, hn⟩ := and_e hn
  obtain ⟨c21, hn⟩ := and_e hn
  obtain ⟨c22, hn⟩ := and_e hn
  obtain ⟨c23, hn⟩ := and_e hn
  obtain ⟨c24, hn⟩ := and_e hn
  obtain ⟨c25, hn⟩ := and_e hn
  obtain ⟨c26, hn⟩ := and_e hn
  obtain ⟨c27, hn⟩ := and_e hn
  obtain ⟨c28, hn⟩ := and_e hn
  have c29 := hn
  obtain ⟨s_RUNTIME_INCONSISTENCY, ev_RUNTIME_INCONSISTENCY⟩ := exa_v c0
  have E_RUNTIME_INCONSISTENCY := Exa.start ev_RUNTIME_INCONSISTENCY c0
  have S_RUNTIME_INCONSISTENCY := Sta.start ev_RUNTIME_INCONSISTENCY (Or.inr ⟨(hw _ (List.mem_of_getElem? (i := 2) rfl)), (hw _ (List.mem_of_getElem? (i := 3) rfl))⟩)
  obtain ⟨s_UNIMPLEMENTED, ev_UNIMPLEMENTED⟩ := exa_v c5
  have E_UNIMPLEMENTED := Exa.start ev_UNIMPLEMENTED c5
  have S_UNIMPLEMENTED := Sta.start ev_UNIMPLEMENTED (Or.inr ⟨(hw _ (List.mem_of_getElem? (i := 2) rfl)), (hw _ (List.mem_of_getElem? (i := 19) rfl))⟩)
  obtain ⟨s_BAD_ARGUMENTS, ev_BAD_ARGUMENTS⟩ := exa_v c7
  have E_BAD_ARGUMENTS := Exa.start ev_BAD_ARGUMENTS c7
  have S_BAD_ARGUMENTS := Sta.start ev_BAD_ARGUMENTS (Or.inr ⟨(hw _ (List.mem_of_getElem? (i := 2) rfl)), (hw _ (List.mem_of_getElem? (i := 20) rfl))⟩)
  obtain ⟨s_NO_NODE, ev_NO_NODE⟩ := exa_v c9
  have E_NO_NODE := Exa.start ev_NO_NODE c9
  have S_NO_NODE := Sta.start ev_NO_NODE (Or.inr ⟨(hw _ (List.mem_of_getElem? (i := 2) rfl)), (hw _ (List.mem_of_getElem? (i := 21) rfl))⟩)
  obtain ⟨s_NO_AUTH, ev_NO_AUTH⟩ := exa_v c11
  have E_NO_AUTH := Exa.start ev_NO_AUTH c11
  have S_NO_AUTH := Sta.start ev_NO_AUTH (Or.inr ⟨(hw _ (List.mem_of_getElem? (i := 2) rfl)), (hw _ (List.mem_of_getElem? (i := 22) rfl))⟩)
  obtain ⟨s_BAD_VERSION, ev_BAD_VERSION⟩ := exa_v c13
  have E_BAD_VERSION := Exa.start ev_BAD_VERSION c13
  have S_BAD_VERSION := Sta.start ev_BAD_VERSION (Or.inr ⟨(hw _ (List.mem_of_getElem? (i := 2) rfl)), (hw _ (List.mem_of_getElem? (i := 23) rfl))⟩)
  obtain ⟨s_NO_CHILDREN_FOR_EPHEMERALS, ev_NO_CHILDREN_FOR_EPHEMERALS⟩ := exa_v c15
  have E_NO_CHILDREN_FOR_EPHEMERALS := Exa.start ev_NO_CHILDREN_FOR_EPHEMERALS c15
  have S_NO_CHILDREN_FOR_EPHEMERALS := Sta.start ev_NO_CHILDREN_FOR_EPHEMERALS (Or.inr ⟨(hw _ (List.mem_of_getElem? (i := 2) rfl)), (hw _ (List.mem_of_getElem? (i := 24) rfl))⟩)
  obtain ⟨s_NODE_EXISTS, ev_NODE_EXISTS⟩ := exa_v c17
  have E_NODE_EXISTS := Exa.start ev_NODE_EXISTS c17
  have S_NODE_EXISTS := Sta.start ev_NODE_EXISTS (Or.inr ⟨(hw _ (List.mem_of_getElem? (i := 2) rfl)), (hw _ (List.mem_of_getElem? (i := 25) rfl))⟩)
  obtain ⟨s_NOT_EMPTY, ev_NOT_EMPTY⟩ := exa_v c19
  have E_NOT_EMPTY := Exa.start ev_NOT_EMPTY c19
  have S_NOT_EMPTY := Sta.start ev_NOT_EMPTY (Or.inr ⟨(hw _ (List.mem_of_getElem? (i := 2) rfl)), (hw _ (List.mem_of_getElem? (i := 26) rfl))⟩)
  have F_RUNTIME_INCONSISTENCY_code := Fld.start ((fld_at ev_RUNTIME_INCONSISTENCY).symm.trans (eqv_i (Term.int_eval _) c21))
  have F_UNIMPLEMENTED_code := Fld.start ((fld_at ev_UNIMPLEMENTED).symm.trans (eqv_i (Term.int_eval _) c22))
  have F_BAD_ARGUMENTS_code := Fld.start ((fld_at ev_BAD_ARGUMENTS).symm.trans (eqv_i (Term.int_eval _) c23))
  have F_NO_NODE_code := Fld.start ((fld_at ev_NO_NODE).symm.trans (eqv_i (Term.int_eval _) c24))
  have F_NO_AUTH_code := Fld.start ((fld_at ev_NO_AUTH).symm.trans (eqv_i (Term.int_eval _) c25))
  have F_BAD_VERSION_code := Fld.start ((fld_at ev_BAD_VERSION).symm.trans (eqv_i (Term.int_eval _) c26))
  have F_NO_CHILDREN_FOR_EPHEMERALS_code := Fld.start ((fld_at ev_NO_CHILDREN_FOR_EPHEMERALS).symm.trans (eqv_i (Term.int_eval _) c27))
  have F_NODE_EXISTS_code := Fld.start ((fld_at ev_NODE_EXISTS).symm.trans (eqv_i (Term.int_eval _) c28))
  have F_NOT_EMPTY_code := Fld.start ((fld_at ev_NOT_EMPTY).symm.trans (eqv_i (Term.int_eval _) c29))
  obtain ⟨s_VALUES, ev_VALUES⟩ := arr_v c1
  obtain ⟨cl_VALUES, A_VALUES⟩ := Arr.start ev_VALUES c1
  obtain ⟨sz_VALUES, ln_VALUES⟩ := own_len ev_VALUES A_VALUES c3
  have V_VALUES : Arv s s.heap s_VALUES cl_VALUES.cls (.object "com/example/numtick/numtick/protocol/ErrorCode") (9 : Int32) [(.ref s_RUNTIME_INCONSISTENCY), (.ref s_UNIMPLEMENTED), (.ref s_BAD_ARGUMENTS), (.ref s_NO_NODE), (.ref s_NO_AUTH), (.ref s_BAD_VERSION), (.ref s_NO_CHILDREN_FOR_EPHEMERALS), (.ref s_NODE_EXISTS), (.ref s_NOT_EMPTY)] .null := Arv.start hfit A_VALUES sz_VALUES ln_VALUES (by decide) rfl ⟨own_elr ev_VALUES A_VALUES ev_RUNTIME_INCONSISTENCY c4 (by decide) rfl, own_elr ev_VALUES A_VALUES ev_UNIMPLEMENTED c6 (by decide) rfl, own_elr ev_VALUES A_VALUES ev_BAD_ARGUMENTS c8 (by decide) rfl, own_elr ev_VALUES A_VALUES ev_NO_NODE c10 (by decide) rfl, own_elr ev_VALUES A_VALUES ev_NO_AUTH c12 (by decide) rfl, own_elr ev_VALUES A_VALUES ev_BAD_VERSION c14 (by decide) rfl, own_elr ev_VALUES A_VALUES ev_NO_CHILDREN_FOR_EPHEMERALS c16 (by decide) rfl, own_elr ev_VALUES A_VALUES ev_NODE_EXISTS c18 (by decide) rfl, own_elr ev_VALUES A_VALUES ev_NOT_EMPTY c20 (by decide) rfl, trivial⟩
  obtain ⟨k_VALUES, hk_VALUES⟩ : ∃ z, z = cl_VALUES.cls := ⟨_, rfl⟩
  rw [← hk_VALUES] at V_VALUES
  have S_VALUES := Sta.start ev_VALUES (Or.inr ⟨(hw _ (List.mem_of_getElem? (i := 2) rfl)), (hw _ (List.mem_of_getElem? (i := 11) rfl))⟩)
  have E_VALUES := Exa.start ev_VALUES c2
  obtain ⟨n, o, h1, h2, h3, _, L, rfl, ⟨rfl, N⟩, hq⟩ := rm0 l s _ hw tables_1 s_RUNTIME_INCONSISTENCY s_UNIMPLEMENTED s_BAD_ARGUMENTS s_NO_NODE s_NO_AUTH s_BAD_VERSION s_NO_CHILDREN_FOR_EPHEMERALS s_NODE_EXISTS s_NOT_EMPTY s_VALUES k_VALUES (show W0 s s_RUNTIME_INCONSISTENCY s_UNIMPLEMENTED s_BAD_ARGUMENTS s_NO_NODE s_NO_AUTH s_BAD_VERSION s_NO_CHILDREN_FOR_EPHEMERALS s_NODE_EXISTS s_NOT_EMPTY s_VALUES k_VALUES from ⟨E_RUNTIME_INCONSISTENCY, S_RUNTIME_INCONSISTENCY, E_UNIMPLEMENTED, S_UNIMPLEMENTED, E_BAD_ARGUMENTS, S_BAD_ARGUMENTS, E_NO_NODE, S_NO_NODE, E_NO_AUTH, S_NO_AUTH, E_BAD_VERSION, S_BAD_VERSION, E_NO_CHILDREN_FOR_EPHEMERALS, S_NO_CHILDREN_FOR_EPHEMERALS, E_NODE_EXISTS, S_NODE_EXISTS, E_NOT_EMPTY, S_NOT_EMPTY, F_RUNTIME_INCONSISTENCY_code, F_UNIMPLEMENTED_code, F_BAD_ARGUMENTS_code, F_NO_NODE_code, F_NO_AUTH_code, F_BAD_VERSION_code, F_NO_CHILDREN_FOR_EPHEMERALS_code, F_NODE_EXISTS_code, F_NOT_EMPTY_code, V_VALUES, S_VALUES, E_VALUES⟩) i0 s.heap s.heap.size (Old.start s) p e ha hc hk s m _ below hf ((Spec.applies_iff_loose hf).mp happ).1 ⟨rfl, State.Warmed39.refl s, rfl⟩ trivial
  refine ⟨n, _, h1, h2, h3, hpost _ _ _ _ _ _ ⟨Cond.after_iff.mpr rfl, Cond.after_iff.mpr (eq_i res_at (Term.int_eval (1)) rfl), trivial⟩ ⟨hq.1, hq.2.1, (hq.2.2.sift fun y hy => Or.inr (N y hy)).mono (by decide) (by decide)⟩⟩
theorem main_1_1 : Claimed_1_1 := comes_1 fun _ _ _ _ _ _ h hF => ⟨h.1, hF⟩
theorem main_1_2 : Claimed_1_2 := comes_1 fun _ _ _ _ _ _ h hF => ⟨h.2.1, hF⟩
end Jvm.Pilot.@@N@@
namespace Jvm.Pilot.@@N@@
open Jvm Jvm.ClassFile Sem Op Lib Jvm.Free Jvm.Stand Jvm.Pilot.@@N@@.Jvm.D
/-! MADE BY PROGRAM (witnessworld.py) out of the Statement's table words and the real class files: 13 classes; the members and pool entries that the words name. The judged class is class 1, her method 1. -/
namespace start1
open Jvm.ClassFile
def u (s : String) : CpInfo := .utf8 (stringToUtf16 s)
/-- a pool by its gaps: so many unusable entries, then the entry; so many at the end -/
def gap : Nat → List CpInfo → List CpInfo
  | 0, r => r
  | n + 1, r => .unusable :: gap n r
def poolList (es : List (Nat × CpInfo)) (last : Nat) : List CpInfo := es.foldr (fun e r => gap e.1 (e.2 :: r)) (gap last [])
def pool (es : List (Nat × CpInfo)) (last : Nat) : Array CpInfo := ⟨poolList es last⟩
def fileOf (pool : Array CpInfo) (this : Nat) (attrs : Array Attribute := #[]) (ms : Array MethodInfo := #[]) (fl : Nat := 33) (sup : Nat := 0) (ifs : Array Nat := #[]) (fds : Array FieldInfo := #[]) : ClassFile where
  minorVersion := 0
  majorVersion := 65
  constantPool := pool
  accessFlags := fl
  thisClass := this
  superClass := sup
  interfaces := ifs
  fields := fds
  methods := ms
  attributes := attrs
def plain (name : String) (sup : Option ClassId) : Class where
  name := name
  kind := .ordinary
  loader := none
  accessFlags := 33
  super := sup
  interfaces := #[]
  cf := none
  fields := #[]
  methods := #[]
  instanceTypes := #[]
  staticTypes := #[]
  resolved := #[]
  callSites := []
  init := .initialized
  statics := none
  mirror := none

def pool0 : Array CpInfo := pool [(5, u "<init>"), (0, u "()V"), (1, .class_ 10), (1, u "java/lang/Object"), (85, u "clone"), (0, u "()Ljava/lang/Object;")] 26

def k0m0 : Method := { name := "<init>", desc := "()V", sig := { parameters := [], returnType := none }, accessFlags := 1, code := none }
def k0m1 : Method := { name := "clone", desc := "()Ljava/lang/Object;", sig := { parameters := [], returnType := some (.object "java/lang/Object") }, accessFlags := 260, code := none }
/-- java/lang/Object -/
def k0 : Class := { plain "java/lang/Object" none with
  accessFlags := 33
  interfaces := #[]
  cf := some (fileOf pool0 8 #[] #[{ accessFlags := 1, nameIndex := 5, descriptorIndex := 6, attributes := #[] }, { accessFlags := 260, nameIndex := 96, descriptorIndex := 97, attributes := #[] }] 33 0 #[] #[])
  fields := #[]
  methods := #[k0m0, k0m1]
  instanceTypes := #[]
  staticTypes := #[]
  resolved := Array.replicate 124 none
  statics := none }

def pool1 : Array CpInfo := pool [(2, .class_ 4), (1, u "java/lang/Object"), (0, u "<init>"), (0, u "()V"), (0, .integer 2147483647), (0, .fieldref 9 10), (0, .class_ 11), (0, .nameAndType 12 13), (0, u "com/example/numtick/numtick/protocol/ErrorCode"), (0, u "RUNTIME_INCONSISTENCY"), (0, u "Lcom/example/numtick/numtick/protocol/ErrorCode;"), (0, .fieldref 9 15), (0, .nameAndType 16 13), (0, u "UNIMPLEMENTED"), (0, .fieldref 9 18), (0, .nameAndType 19 13), (0, u "BAD_ARGUMENTS"), (0, .fieldref 9 21), (0, .nameAndType 22 13), (0, u "NO_NODE"), (0, .fieldref 9 24), (0, .nameAndType 25 13), (0, u "NO_AUTH"), (0, .fieldref 9 27), (0, .nameAndType 28 13), (0, u "BAD_VERSION"), (0, .fieldref 9 30), (0, .nameAndType 31 13), (0, u "NO_CHILDREN_FOR_EPHEMERALS"), (0, .fieldref 9 33), (0, .nameAndType 34 13), (0, u "NODE_EXISTS"), (0, .fieldref 9 36), (0, .nameAndType 37 13), (0, u "NOT_EMPTY"), (0, .methodref 9 39), (0, .nameAndType 40 41), (0, u "of"), (0, u "(I)Lcom/example/numtick/numtick/protocol/ErrorCode;"), (0, .methodref 9 43), (0, .nameAndType 44 45), (0, u "code"), (0, u "()I"), (0, .class_ 47), (0, u "com/example/numtick/numtick/protocol/ErrorCodeOfPinLaw"), (2, u "law"), (0, u "(I)Z")] 6

def k1m0 : Method := { name := "<init>", desc := "()V", sig := { parameters := [], returnType := none }, accessFlags := 1, code := none }
def k1c1 : Code := { maxStack := 2, maxLocals := 5, code := code, exceptionTable := #[], attributes := #[] }
def k1m1 : Method := { name := "law", desc := "(I)Z", sig := { parameters := [.int], returnType := some .boolean }, accessFlags := 9, code := some k1c1 }
/-- com/example/numtick/numtick/protocol/ErrorCodeOfPinLaw -/
def k1 : Class := { plain "com/example/numtick/numtick/protocol/ErrorCodeOfPinLaw" (some 0) with
  accessFlags := 49
  interfaces := #[]
  cf := some (fileOf pool1 46 #[] #[{ accessFlags := 1, nameIndex := 5, descriptorIndex := 6, attributes := #[] }, { accessFlags := 9, nameIndex := 50, descriptorIndex := 51, attributes := #[] }] 49 2 #[] #[])
  fields := #[]
  methods := #[k1m0, k1m1]
  instanceTypes := #[]
  staticTypes := #[]
  resolved := Array.replicate 58 none
  statics := none }

def pool2 : Array CpInfo := pool [(1, .class_ 2), (0, u "java/lang/constant/Constable"), (0, .class_ 4), (0, u "java/lang/Object")] 6

/-- java/lang/constant/Constable -/
def k2 : Class := { plain "java/lang/constant/Constable" (some 0) with
  accessFlags := 1537
  interfaces := #[]
  cf := some (fileOf pool2 1 #[] #[] 1537 3 #[] #[])
  fields := #[]
  methods := #[]
  instanceTypes := #[]
  staticTypes := #[]
  resolved := Array.replicate 11 none
  statics := none }

def pool3 : Array CpInfo := pool [(1, .class_ 2), (0, u "java/lang/Comparable"), (0, .class_ 4), (0, u "java/lang/Object")] 7

/-- java/lang/Comparable -/
def k3 : Class := { plain "java/lang/Comparable" (some 0) with
  accessFlags := 1537
  interfaces := #[]
  cf := some (fileOf pool3 1 #[] #[] 1537 3 #[] #[])
  fields := #[]
  methods := #[]
  instanceTypes := #[]
  staticTypes := #[]
  resolved := Array.replicate 12 none
  statics := none }

def pool4 : Array CpInfo := pool [(1, .class_ 2), (0, u "java/io/Serializable"), (0, .class_ 4), (0, u "java/lang/Object")] 2

/-- java/io/Serializable -/
def k4 : Class := { plain "java/io/Serializable" (some 0) with
  accessFlags := 1537
  interfaces := #[]
  cf := some (fileOf pool4 1 #[] #[] 1537 3 #[] #[])
  fields := #[]
  methods := #[]
  instanceTypes := #[]
  staticTypes := #[]
  resolved := Array.replicate 7 none
  statics := none }

def pool5 : Array CpInfo := pool [(2, .class_ 4), (1, u "java/lang/Enum"), (0, u "name"), (0, u "Ljava/lang/String;"), (2, u "ordinal"), (0, u "I"), (1, .class_ 14), (1, u "java/lang/Object"), (4, u "hash"), (86, .class_ 108), (1, u "java/lang/Enum$EnumDesc"), (2, .class_ 112), (0, u "java/lang/constant/Constable"), (0, .class_ 114), (0, u "java/lang/Comparable"), (0, .class_ 116), (0, u "java/io/Serializable")] 87

/-- java/lang/Enum -/
def k5 : Class := { plain "java/lang/Enum" (some 0) with
  accessFlags := 1057
  interfaces := #[2, 3, 4]
  cf := some (fileOf pool5 2 #[.nestMembers #[106]] #[] 1057 12 #[111, 113, 115] #[{ accessFlags := 18, nameIndex := 5, descriptorIndex := 6, attributes := #[] }, { accessFlags := 18, nameIndex := 9, descriptorIndex := 10, attributes := #[] }, { accessFlags := 2, nameIndex := 19, descriptorIndex := 10, attributes := #[] }])
  fields := #[{ name := "name", type := (.object "java/lang/String"), accessFlags := 18, slot := 0, constantValue := 0 }, { name := "ordinal", type := .int, accessFlags := 18, slot := 1, constantValue := 0 }, { name := "hash", type := .int, accessFlags := 2, slot := 2, constantValue := 0 }]
  methods := #[]
  instanceTypes := #[(.object "java/lang/String"), .int, .int]
  staticTypes := #[]
  resolved := Array.replicate 204 none
  statics := none }

def pool6 : Array CpInfo := pool [(1, .class_ 2), (0, u "com/example/numtick/numtick/protocol/ErrorCode"), (2, u "RUNTIME_INCONSISTENCY"), (0, u "Lcom/example/numtick/numtick/protocol/ErrorCode;"), (2, u "UNIMPLEMENTED"), (2, u "BAD_ARGUMENTS"), (2, u "NO_NODE"), (2, u "NO_AUTH"), (2, u "BAD_VERSION"), (2, u "NO_CHILDREN_FOR_EPHEMERALS"), (2, u "NODE_EXISTS"), (2, u "NOT_EMPTY"), (0, .fieldref 1 32), (0, .nameAndType 33 34), (0, u "$VALUES"), (0, u "[Lcom/example/numtick/numtick/protocol/ErrorCode;"), (0, .methodref 36 37), (0, .class_ 34), (0, .nameAndType 38 39), (0, u "clone"), (0, u "()Ljava/lang/Object;"), (1, .class_ 43), (1, u "java/lang/Enum"), (6, .fieldref 1 51), (0, .nameAndType 52 53), (0, u "code"), (0, u "I"), (2, u "description"), (0, u "Ljava/lang/String;"), (0, .methodref 1 59), (0, .nameAndType 60 61), (0, u "values"), (0, u "()[Lcom/example/numtick/numtick/protocol/ErrorCode;"), (48, u "()I"), (1, u "of"), (0, u "(I)Lcom/example/numtick/numtick/protocol/ErrorCode;")] 22

def k6c0 : Code := { maxStack := 1, maxLocals := 0, code := prog_50_method_1_code, exceptionTable := #[], attributes := #[] }
def k6m0 : Method := { name := "values", desc := "()[Lcom/example/numtick/numtick/protocol/ErrorCode;", sig := { parameters := [], returnType := some (.array (.object "com/example/numtick/numtick/protocol/ErrorCode")) }, accessFlags := 9, code := some k6c0 }
def k6c1 : Code := { maxStack := 1, maxLocals := 1, code := prog_50_method_4_code, exceptionTable := #[], attributes := #[] }
def k6m1 : Method := { name := "code", desc := "()I", sig := { parameters := [], returnType := some .int }, accessFlags := 1, code := some k6c1 }
def k6c2 : Code := { maxStack := 3, maxLocals := 5, code := prog_50_method_6_code, exceptionTable := #[], attributes := #[] }
def k6m2 : Method := { name := "of", desc := "(I)Lcom/example/numtick/numtick/protocol/ErrorCode;", sig := { parameters := [.int], returnType := some (.object "com/example/numtick/numtick/protocol/ErrorCode") }, accessFlags := 9, code := some k6c2 }
/-- com/example/numtick/numtick/protocol/ErrorCode -/
def k6 : Class := { plain "com/example/numtick/numtick/protocol/ErrorCode" (some 5) with
  accessFlags := 16433
  interfaces := #[]
  cf := some (fileOf pool6 1 #[] #[{ accessFlags := 9, nameIndex := 60, descriptorIndex := 61, attributes := #[] }, { accessFlags := 1, nameIndex := 52, descriptorIndex := 110, attributes := #[] }, { accessFlags := 9, nameIndex := 112, descriptorIndex := 113, attributes := #[] }] 16433 41 #[] #[{ accessFlags := 16409, nameIndex := 5, descriptorIndex := 6, attributes := #[] }, { accessFlags := 16409, nameIndex := 9, descriptorIndex := 6, attributes := #[] }, { accessFlags := 16409, nameIndex := 12, descriptorIndex := 6, attributes := #[] }, { accessFlags := 16409, nameIndex := 15, descriptorIndex := 6, attributes := #[] }, { accessFlags := 16409, nameIndex := 18, descriptorIndex := 6, attributes := #[] }, { accessFlags := 16409, nameIndex := 21, descriptorIndex := 6, attributes := #[] }, { accessFlags := 16409, nameIndex := 24, descriptorIndex := 6, attributes := #[] }, { accessFlags := 16409, nameIndex := 27, descriptorIndex := 6, attributes := #[] }, { accessFlags := 16409, nameIndex := 30, descriptorIndex := 6, attributes := #[] }, { accessFlags := 18, nameIndex := 52, descriptorIndex := 53, attributes := #[] }, { accessFlags := 18, nameIndex := 56, descriptorIndex := 57, attributes := #[] }, { accessFlags := 4122, nameIndex := 33, descriptorIndex := 34, attributes := #[] }])
  fields := #[{ name := "RUNTIME_INCONSISTENCY", type := (.object "com/example/numtick/numtick/protocol/ErrorCode"), accessFlags := 16409, slot := 0, constantValue := 0 }, { name := "UNIMPLEMENTED", type := (.object "com/example/numtick/numtick/protocol/ErrorCode"), accessFlags := 16409, slot := 1, constantValue := 0 }, { name := "BAD_ARGUMENTS", type := (.object "com/example/numtick/numtick/protocol/ErrorCode"), accessFlags := 16409, slot := 2, constantValue := 0 }, { name := "NO_NODE", type := (.object "com/example/numtick/numtick/protocol/ErrorCode"), accessFlags := 16409, slot := 3, constantValue := 0 }, { name := "NO_AUTH", type := (.object "com/example/numtick/numtick/protocol/ErrorCode"), accessFlags := 16409, slot := 4, constantValue := 0 }, { name := "BAD_VERSION", type := (.object "com/example/numtick/numtick/protocol/ErrorCode"), accessFlags := 16409, slot := 5, constantValue := 0 }, { name := "NO_CHILDREN_FOR_EPHEMERALS", type := (.object "com/example/numtick/numtick/protocol/ErrorCode"), accessFlags := 16409, slot := 6, constantValue := 0 }, { name := "NODE_EXISTS", type := (.object "com/example/numtick/numtick/protocol/ErrorCode"), accessFlags := 16409, slot := 7, constantValue := 0 }, { name := "NOT_EMPTY", type := (.object "com/example/numtick/numtick/protocol/ErrorCode"), accessFlags := 16409, slot := 8, constantValue := 0 }, { name := "code", type := .int, accessFlags := 18, slot := 3, constantValue := 0 }, { name := "description", type := (.object "java/lang/String"), accessFlags := 18, slot := 4, constantValue := 0 }, { name := "$VALUES", type := (.array (.object "com/example/numtick/numtick/protocol/ErrorCode")), accessFlags := 4122, slot := 9, constantValue := 0 }]
  methods := #[k6m0, k6m1, k6m2]
  instanceTypes := #[(.object "java/lang/String"), .int, .int, .int, (.object "java/lang/String")]
  staticTypes := #[(.object "com/example/numtick/numtick/protocol/ErrorCode"), (.object "com/example/numtick/numtick/protocol/ErrorCode"), (.object "com/example/numtick/numtick/protocol/ErrorCode"), (.object "com/example/numtick/numtick/protocol/ErrorCode"), (.object "com/example/numtick/numtick/protocol/ErrorCode"), (.object "com/example/numtick/numtick/protocol/ErrorCode"), (.object "com/example/numtick/numtick/protocol/ErrorCode"), (.object "com/example/numtick/numtick/protocol/ErrorCode"), (.object "com/example/numtick/numtick/protocol/ErrorCode"), (.array (.object "com/example/numtick/numtick/protocol/ErrorCode"))]
  resolved := Array.replicate 136 none
  statics := some 0 }

def pool7 : Array CpInfo := pool [(1, .class_ 2), (0, u "java/lang/Cloneable"), (0, .class_ 4), (0, u "java/lang/Object")] 2

/-- java/lang/Cloneable -/
def k7 : Class := { plain "java/lang/Cloneable" (some 0) with
  accessFlags := 1537
  interfaces := #[]
  cf := some (fileOf pool7 1 #[] #[] 1537 3 #[] #[])
  fields := #[]
  methods := #[]
  instanceTypes := #[]
  staticTypes := #[]
  resolved := Array.replicate 7 none
  statics := none }

/-- the primitive byte -/
def k8 : Class := { plain "byte" none with kind := .primitive 'B', accessFlags := 0x411 }
/-- [B -/
def k9 : Class := { plain "[B" (some 0) with kind := .array 8 .byte, interfaces := #[7, 4], accessFlags := 1041 }

/-- the primitive int -/
def k10 : Class := { plain "int" none with kind := .primitive 'I', accessFlags := 0x411 }
/-- [I -/
def k11 : Class := { plain "[I" (some 0) with kind := .array 10 .int, interfaces := #[7, 4], accessFlags := 1041 }

/-- [Lcom/example/numtick/numtick/protocol/ErrorCode; -/
def k12 : Class := { plain "[Lcom/example/numtick/numtick/protocol/ErrorCode;" (some 0) with kind := .array 6 (.object "com/example/numtick/numtick/protocol/ErrorCode"), interfaces := #[7, 4], accessFlags := 1041 }

def heap : Heap := #[{ cls := 6, slots := #[.ref 2, .ref 3, .ref 4, .ref 5, .ref 6, .ref 7, .ref 8, .ref 9, .ref 10, .ref 1], vm := .statics 6 },
  { cls := 12, slots := #[.ref 2, .ref 3, .ref 4, .ref 5, .ref 6, .ref 7, .ref 8, .ref 9, .ref 10], vm := .none },
  { cls := 6, slots := #[.null, .int 0, .int 0, .int (-2), .null], vm := .none },
  { cls := 6, slots := #[.null, .int 0, .int 0, .int (-6), .null], vm := .none },
  { cls := 6, slots := #[.null, .int 0, .int 0, .int (-8), .null], vm := .none },
  { cls := 6, slots := #[.null, .int 0, .int 0, .int (-101), .null], vm := .none },
  { cls := 6, slots := #[.null, .int 0, .int 0, .int (-102), .null], vm := .none },
  { cls := 6, slots := #[.null, .int 0, .int 0, .int (-103), .null], vm := .none },
  { cls := 6, slots := #[.null, .int 0, .int 0, .int (-108), .null], vm := .none },
  { cls := 6, slots := #[.null, .int 0, .int 0, .int (-110), .null], vm := .none },
  { cls := 6, slots := #[.null, .int 0, .int 0, .int (-111), .null], vm := .none }]
def classes : Array Class := #[k0, k1, k2, k3, k4, k5, k6, k7, k8, k9, k10, k11, k12]
def interned : List (Array UInt16 × Addr) := []
def slotsUsed : Nat := 64
def theMethod : MethodId := ⟨1, 1⟩
def args0 : Array Value := #[.int 5]
def aboutOver (below : List Frame) : State where
  vm := { classes := classes, interned := interned.toArray }
  heap := heap
  slotsUsed := slotsUsed
  threads := #[{ frames := .invoking theMethod args0 :: below }]
def below0 : List Frame := [.native { method := ⟨0, 0⟩, args := #[] }]
def about1 : State := aboutOver below0
def p0 : Program := .bare "" "" ""
def e0 : Env := launch0.env 0 0 0
theorem w_frames : about1.frames = Frame.invoking theMethod args0 :: below0 := rfl
set_option maxRecDepth 65536 in
theorem w_args : argsFit about1.vm theMethod args0 = true := by decide +kernel
set_option maxRecDepth 65536 in
theorem w_heap : heapFits about1 = true := by decide +kernel
set_option maxRecDepth 65536 in
theorem w_runnable : about1.curStatus? = some .runnable := by decide +kernel
set_option maxRecDepth 65536 in
theorem w_alone : about1.alone = true := by decide +kernel
set_option maxRecDepth 65536 in
theorem w_named : about1.methodNamed? x = some theMethod := by decide +kernel
set_option maxRecDepth 65536 in
theorem w_hears : about1.hears theMethod below0 = true := by decide +kernel
set_option maxRecDepth 65536 in
theorem w_ripe : about1.ripe theMethod args0 below0 = true := by decide +kernel
theorem w_running : about1.status = .running := rfl
set_option maxRecDepth 65536 in
theorem w_room : about1.hasRoom e0.platform room_1 = true :=
  launch0.hasRoom_least _ room_1 (by decide +kernel) (by decide +kernel) (by decide +kernel) (by decide +kernel) (by decide +kernel) (by decide +kernel)
theorem allAtoms_all (ts : List Jvm.Cond) (a : Array Jvm.Value) (st : Jvm.State) : (allAtoms ts).before a st = ts.all (fun c => c.before a st) := by
  induction ts with
  | nil => rfl
  | cons c t ih =>
    show (Jvm.Cond.and c (allAtoms t)).before a st = _
    rw [Jvm.Cond.before_and, ih, List.all_cons]
def words1 : List Jvm.Cond := Jvm.Cond.code x code maxLocals ret :: tables_1
/-- a 'code' word, met by the world's own term for the bytes: nothing is compared byte by byte -/
theorem code_word {y : MethodName} {bytes : ByteArray} {mx : Nat} {rt : Option FieldType} {a : Array Value} {s : State} {m : MethodId} {meth : Method} {c : Code} (h1 : s.methodNamed? y = some m) (h2 : s.vm.method? m = some meth) (h3 : meth.code = some c) (h4 : c.code = bytes)
    (h5 : (c.maxLocals == mx && c.exceptionTable.isEmpty && decide (c.maxStack ≤ mostOperands) && decide (meth.sig.returnType = rt) && !meth.locks && decide (parseMethodDescriptor y.desc = some meth.sig)) = true) : (Jvm.Cond.code y bytes mx rt).before a s = true := by
  simp only [Bool.and_eq_true, beq_iff_eq, Bool.not_eq_true', decide_eq_true_eq] at h5
  obtain ⟨⟨⟨⟨⟨g1, g2⟩, g3⟩, g4⟩, g5⟩, g6⟩ := h5
  simp [Cond.before, Cond.holds, Cond.value, h1, h2, h3, h4, g1, g2, g3, g4, g5, g6]
def isCode : Jvm.Cond → Bool
  | .code _ _ _ _ => true
  | _ => false
theorem all_split {L : List Jvm.Cond} {P : Jvm.Cond → Bool} (h1 : L.all (fun c => isCode c || P c) = true) (h2 : ∀ c ∈ L.filter isCode, P c = true) : L.all P = true := by
  refine List.all_eq_true.mpr fun c hc => ?_
  have h := List.all_eq_true.mp h1 c hc
  rcases Bool.eq_false_or_eq_true (isCode c) with hi | hi
  · exact h2 c (List.mem_filter.mpr ⟨hc, hi⟩)
  · simpa [hi] using h
set_option maxRecDepth 65536 in
theorem w_c0 : (Jvm.Cond.code x code maxLocals ret).before args0 about1 = true := code_word (m := ⟨1, 1⟩) (meth := k1m1) (c := k1c1) (by decide +kernel) rfl rfl rfl (by decide +kernel)
set_option maxRecDepth 65536 in
theorem w_c1 : (Jvm.Cond.code ({ cls := "com/example/numtick/numtick/protocol/ErrorCode", name := "of", desc := "(I)Lcom/example/numtick/numtick/protocol/ErrorCode;" } : Jvm.MethodName) prog_50_method_6_code (5 : Nat) (Option.some (Jvm.ClassFile.FieldType.object "com/example/numtick/numtick/protocol/ErrorCode"))).before args0 about1 = true := code_word (m := ⟨6, 2⟩) (meth := k6m2) (c := k6c2) (by decide +kernel) rfl rfl rfl (by decide +kernel)
set_option maxRecDepth 65536 in
theorem w_c2 : (Jvm.Cond.code ({ cls := "com/example/numtick/numtick/protocol/ErrorCode", name := "values", desc := "()[Lcom/example/numtick/numtick/protocol/ErrorCode;" } : Jvm.MethodName) prog_50_method_1_code (0 : Nat) (Option.some (Jvm.ClassFile.FieldType.array (Jvm.ClassFile.FieldType.object "com/example/numtick/numtick/protocol/ErrorCode")))).before args0 about1 = true := code_word (m := ⟨6, 0⟩) (meth := k6m0) (c := k6c0) (by decide +kernel) rfl rfl rfl (by decide +kernel)
set_option maxRecDepth 65536 in
theorem w_c3 : (Jvm.Cond.code ({ cls := "com/example/numtick/numtick/protocol/ErrorCode", name := "code", desc := "()I" } : Jvm.MethodName) prog_50_method_4_code (1 : Nat) (Option.some Jvm.ClassFile.FieldType.int)).before args0 about1 = true := code_word (m := ⟨6, 1⟩) (meth := k6m1) (c := k6c1) (by decide +kernel) rfl rfl rfl (by decide +kernel)
def codes1 : List Jvm.Cond := [Jvm.Cond.code x code maxLocals ret, Jvm.Cond.code ({ cls := "com/example/numtick/numtick/protocol/ErrorCode", name := "of", desc := "(I)Lcom/example/numtick/numtick/protocol/ErrorCode;" } : Jvm.MethodName) prog_50_method_6_code (5 : Nat) (Option.some (Jvm.ClassFile.FieldType.object "com/example/numtick/numtick/protocol/ErrorCode")), Jvm.Cond.code ({ cls := "com/example/numtick/numtick/protocol/ErrorCode", name := "values", desc := "()[Lcom/example/numtick/numtick/protocol/ErrorCode;" } : Jvm.MethodName) prog_50_method_1_code (0 : Nat) (Option.some (Jvm.ClassFile.FieldType.array (Jvm.ClassFile.FieldType.object "com/example/numtick/numtick/protocol/ErrorCode"))), Jvm.Cond.code ({ cls := "com/example/numtick/numtick/protocol/ErrorCode", name := "code", desc := "()I" } : Jvm.MethodName) prog_50_method_4_code (1 : Nat) (Option.some Jvm.ClassFile.FieldType.int)]
set_option maxRecDepth 65536 in
theorem codes_eq : words1.filter isCode = codes1 := rfl
theorem w_codes : ∀ c ∈ words1.filter isCode, c.before args0 about1 = true := by
  rw [codes_eq]
  intro c hc
  simp only [codes1, List.mem_cons, List.not_mem_nil, or_false] at hc
  rcases hc with rfl | rfl | rfl | rfl
  · exact w_c0
  · exact w_c1
  · exact w_c2
  · exact w_c3
set_option maxRecDepth 65536 in
theorem w_t1 : (words1.take 24).all (fun c => isCode c || c.before args0 about1) = true := by decide +kernel
set_option maxRecDepth 65536 in
theorem w_t2 : (words1.drop 24).all (fun c => isCode c || c.before args0 about1) = true := by decide +kernel
theorem w_tables : (allAtoms (Jvm.Cond.code x code maxLocals ret :: tables_1)).before args0 about1 = true := by
  rw [allAtoms_all]
  show words1.all (fun c => c.before args0 about1) = true
  refine all_split ?_ w_codes
  rw [← List.take_append_drop 24 words1, List.all_append, w_t1, w_t2]
  rfl
set_option maxRecDepth 65536 in
theorem w_case : (Jvm.Cond.and given_1 narrow_1).before args0 about1 = true := by decide +kernel
theorem w_applies : (headSpec (Jvm.Cond.code x code maxLocals ret :: tables_1) room_1).applies x e0.platform about1 = true :=
  (Spec.applies_iff w_frames).mpr ⟨w_running, w_runnable, w_alone, w_named, w_hears, w_ripe, w_room, w_tables⟩
theorem atStart : AtStart classFile x code maxLocals ret World_1 tables_1 room_1 Calls_1 rest_1 Pre_1 launch0 p0 e0 about1 theMethod args0 below0 :=
  ⟨lists_1, trivial, launch0.admits_env _ _ _, launch0.least_env, fairChoices_fair.cas, fairChoices_fair.clock, w_frames, w_args, w_heap, w_applies, trivial, trivial, w_case⟩
end start1
theorem witness_1 : WitnessClaimed_1 := ⟨start1.p0, start1.e0, start1.about1, start1.theMethod, start1.args0, start1.below0, start1.atStart⟩
end Jvm.Pilot.@@N@@
