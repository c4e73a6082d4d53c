import JvmDerived
import JvmDerived.Pilot.@@N@@Statement
import JvmDerived.Pilot.@@N@@Code
set_option linter.unusedVariables false
set_option linter.unusedSimpArgs false
namespace Jvm.RoadKit
open Sem ClassFile Op Lib Jvm.Stand Jvm.Free Jvm.LawKit
section New
variable {p : Program} {l : Launch} {e : Env} {R : Room} {s : State} {m : MethodId} {args : Array Value} {below : List Frame} {meth : Method} {c : Code} {T : State} {locs : List Loc} {cells slots : Nat}
theorem retI (X : Stand p l e R s m args below meth c T locs cells slots) (hx : p.tables.exec = Jvm.exec) {pc : Nat} {Ls : Array Slot} {z : Int32} {rest : List Value} (hret : meth.sig.returnType = some .int) (hd : decode c.code pc = .ok (.ireturn, 1)) {fs : List Frame}
    (hl : ∀ (f : JFrame) (acts : List Action), f.method = m → f.locked = none → f.entered = [] → (doReturn e (T.setTop f) acts (some (.int z))).1 = T.setFrames fs) : Steps p.tables e below (T.setTop (mkF m pc Ls (.int z :: rest))) (T.setFrames fs) := by
  have hm' : T.vm.method? m = some meth := X.method'
  have hn : narrow .int (.int z) = .int z := rfl
  show Steps p.tables e below (T.setTop { method := m, pc := pc, locals := Ls, stack := _ :: rest, locked := none }) _
  jvm_step X.here [X.here.top, hx, hd, hm', hret, hn]
  first | (intro acts; rw [hl _ acts rfl rfl rfl]) | rw [hl _ _ rfl rfl rfl]
  exact Steps.refl _
theorem eqv_r {Z : State} {args : Array Value} {X F : Term} {idx : List Nat} {y : Addr} (hF : F.eval args Z none idx Z = some (.ref y)) (h : (Cond.eq X F).value args Z none Z idx = some true) : X.eval args Z none idx Z = some (.ref y) := by
  obtain ⟨x, y', e1, e2, k1, k2⟩ := cmp_v (Or.inl h)
  cases hF.symm.trans e2
  have hx : x.isRef = true := k2.2
  have q : x = .ref y := gotT (eq_R e1 hF hx rfl) h
  rw [e1, q]
end New
end Jvm.RoadKit
namespace Jvm.Pilot.@@N@@
open Jvm Jvm.ClassFile Sem Op Lib Jvm.Free Jvm.Stand Jvm.LawKit Jvm.RoadKit Bundle Jvm.Pilot.@@N@@.Jvm.D
def Go (p : Program) (e : Env) (below : List Frame) (Qf : Outcome → State → Prop) (W : State) : Prop := ∃ s₂ o, Steps p.tables e below W s₂ ∧ s₂.status = .running ∧ Ended s₂ below o ∧ Qf o s₂
theorem Go.st {p : Program} {e : Env} {below : List Frame} {Qf : Outcome → State → Prop} {W V' : State} (h : ∀ t, Steps p.tables e below V' t → Steps p.tables e below W t) (g : Go p e below Qf V') : Go p e below Qf W := by
  obtain ⟨s₂, o, g1, g2⟩ := g
  exact ⟨s₂, o, h _ g1, g2⟩
theorem Go.out {p : Program} {e : Env} {below : List Frame} {Qf : Outcome → State → Prop} {W : State} (g : Go p e below Qf W) : ∃ s₂ o, Steps p.tables e below W s₂ ∧ s₂.status = .running ∧ Ended s₂ below o ∧ Qf o s₂ := g
theorem Go.mk' {p : Program} {e : Env} {below : List Frame} {Qf : Outcome → State → Prop} {W : State} (g : ∃ s₂ o, Steps p.tables e below W s₂ ∧ s₂.status = .running ∧ Ended s₂ below o ∧ Qf o s₂) : Go p e below Qf W := g
def W0 (Z : State) (s_CUSTOMER : Addr) (s_TRANSFER : Addr) (s_INTERBANK : Addr) (s_SETTLEMENT_ORDER : Addr) : Prop :=
  (Exa Z Z.heap s_CUSTOMER "com/example/settlewire/settlewire/settlement/Order$Kind") ∧
  (Sta Z Z.heap "com/example/settlewire/settlewire/settlement/Order$Kind" "CUSTOMER" "Lcom/example/settlewire/settlewire/settlement/Order$Kind;" (.ref s_CUSTOMER)) ∧
  (Exa Z Z.heap s_TRANSFER "com/example/settlewire/settlewire/settlement/Order$Kind") ∧
  (Sta Z Z.heap "com/example/settlewire/settlewire/settlement/Order$Kind" "TRANSFER" "Lcom/example/settlewire/settlewire/settlement/Order$Kind;" (.ref s_TRANSFER)) ∧
  (Exa Z Z.heap s_INTERBANK "com/example/settlewire/settlewire/settlement/Order$Kind") ∧
  (Sta Z Z.heap "com/example/settlewire/settlewire/settlement/Order$Kind" "INTERBANK" "Lcom/example/settlewire/settlewire/settlement/Order$Kind;" (.ref s_INTERBANK)) ∧
  (Exa Z Z.heap s_SETTLEMENT_ORDER "com/example/settlewire/settlewire/settlement/Order$Kind") ∧
  (Sta Z Z.heap "com/example/settlewire/settlewire/settlement/Order$Kind" "SETTLEMENT_ORDER" "Lcom/example/settlewire/settlewire/settlement/Order$Kind;" (.ref s_SETTLEMENT_ORDER)) ∧
  (Fld Z Z.heap s_CUSTOMER "com/example/settlewire/settlewire/settlement/Order$Kind" "first" "I" (.int (10 : Int32))) ∧
  (Fld Z Z.heap s_TRANSFER "com/example/settlewire/settlewire/settlement/Order$Kind" "first" "I" (.int (10 : Int32))) ∧
  (Fld Z Z.heap s_INTERBANK "com/example/settlewire/settlewire/settlement/Order$Kind" "first" "I" (.int (10 : Int32))) ∧
  (Fld Z Z.heap s_SETTLEMENT_ORDER "com/example/settlewire/settlewire/settlement/Order$Kind" "first" "I" (.int (1 : Int32)))
theorem own_d1_0 : decode prog_100_method_4_code 0 = .ok (.iload_n 1, 1) := by decide +kernel
theorem own_d1_1 : decode prog_100_method_4_code 1 = .ok (.aload_n 0, 1) := by decide +kernel
theorem own_d1_2 : decode prog_100_method_4_code 2 = .ok (.getfield 37, 3) := by decide +kernel
theorem own_d1_5 : decode prog_100_method_4_code 5 = .ok (.if_icmp .lt 13, 3) := by decide +kernel
theorem own_d1_18 : decode prog_100_method_4_code 18 = .ok (.iconst 0, 1) := by decide +kernel
theorem own_d1_19 : decode prog_100_method_4_code 19 = .ok (.ireturn, 1) := by decide +kernel
theorem own_d1_8 : decode prog_100_method_4_code 8 = .ok (.iload_n 1, 1) := by decide +kernel
theorem own_d1_9 : decode prog_100_method_4_code 9 = .ok (.bipush 98, 2) := by decide +kernel
theorem own_d1_11 : decode prog_100_method_4_code 11 = .ok (.if_icmp .gt 7, 3) := by decide +kernel
theorem own_d1_14 : decode prog_100_method_4_code 14 = .ok (.iconst 1, 1) := by decide +kernel
theorem own_d1_15 : decode prog_100_method_4_code 15 = .ok (.goto 4, 3) := by decide +kernel
theorem own_pn0 : plainName "com/example/settlewire/settlewire/settlement/Order$Kind" = true := by first | (simp [plainName, overriddenIn]; done) | decide +kernel
theorem ef1 (m : MethodId) (r0 : Addr) (p1 : Int32) : entryFrame m #[(.ref r0), (.int p1)] 2 = mkF m 0 #[.val (.ref r0), .val (.int p1)] [] := by first | (simp [entryFrame, mkF, argsToLocals, Value.category]; done) | rfl
def f1 (p1 : Int32) (w_first_r0 : Int32) : Int32 := (if p1 < w_first_r0 then (0 : Int32) else (if (98 : Int32) < p1 then (0 : Int32) else (1 : Int32)))
def Q1 (Z : State) (p1 : Int32) (w_first_r0 : Int32) (h0 : Heap) (n0 : Nat) (v : Option Value) (h : Heap) (L : List Loc) : Prop := v = some (.int (f1 p1 w_first_r0)) ∧ Fr n0 L ∧ h = h0
set_option maxRecDepth 65536 in
set_option maxHeartbeats 40000000 in
theorem rm1 (l : Launch) (Z : State) (a0 : Array Value) (hw : ∀ d ∈ tables_1, d.before a0 Z = true) (ws : List Jvm.Cond) (s_CUSTOMER : Addr) (s_TRANSFER : Addr) (s_INTERBANK : Addr) (s_SETTLEMENT_ORDER : Addr) (HW : W0 Z s_CUSTOMER s_TRANSFER s_INTERBANK s_SETTLEMENT_ORDER) (r0 : Addr) (p1 : Int32) (w_first_r0 : Int32) (h0 : Heap) (n0 : Nat) (O0 : Old Z n0 h0) (F_first_r0 : Fld Z h0 r0 "com/example/settlewire/settlewire/settlement/Order$Kind" "first" "I" (.int w_first_r0)) :
    MetFree l (⟨"com/example/settlewire/settlewire/settlement/Order$Kind", "allows", "(I)Z"⟩ : MethodName) (head1 (Jvm.Cond.code (⟨"com/example/settlewire/settlewire/settlement/Order$Kind", "allows", "(I)Z"⟩ : MethodName) prog_100_method_4_code 2 (some .boolean) :: ws) ({ frames := 0, cells := 0, slots := 0, locals := 0 } : Room)) (fun a U => a = #[(.ref r0), (.int p1)] ∧ Z.Warmed39 U.vm ∧ U.heap = h0) (fun _ _ _ _ _ => True) (fun _ U o U' => ∃ v L, o = .returned v ∧ Q1 Z p1 w_first_r0 h0 n0 v U'.heap L ∧ FrameEnd U o U' L ({ frames := 0, cells := 0, slots := 0, locals := 0 } : Room).cells ({ frames := 0, cells := 0, slots := 0, locals := 0 } : Room).slots) := by
  refine MetFree.of_bodySF (plainFor_of_name own_pn0) hisR ?_
  intro p e s m args below meth c s₁ Bd hml0 hP hK
  obtain ⟨rfl, hZ, hh⟩ := hP
  obtain ⟨E_CUSTOMER, S_CUSTOMER, E_TRANSFER, S_TRANSFER, E_INTERBANK, S_INTERBANK, E_SETTLEMENT_ORDER, S_SETTLEMENT_ORDER, F_CUSTOMER_first, F_TRANSFER_first, F_INTERBANK_first, F_SETTLEMENT_ORDER_first⟩ := id HW
  have hx := Bd.exec
  have hby := Bd.bytes
  have hml : c.maxLocals = 2 := hml0
  have hown : s.vm.findClass "com/example/settlewire/settlewire/settlement/Order$Kind" = some m.cls := findClass_of_methodNamed Bd.named
  have hnm := (name_of_methodNamed Bd.named Bd.method).1
  have X0 : Stand p l e ({ frames := 0, cells := 0, slots := 0, locals := 0 } : Room) s m #[(.ref r0), (.int p1)] below meth c s₁ [] 0 0 := Stand.of_body Bd
  have e0 : s₁.heap = h0 := by rw [← hh, Bd.state]; rfl
  have N0 := Fr.nil n0
  have K0 := Keep.refl h0 []
  refine Go.out ?_
  refine Go.st (V' := s₁.setTop (mkF m 0 #[.val (.ref r0), .val (.int p1)] [])) (fun t k => castTop (ef1 m r0 p1) k) ?_
  refine Go.st (V' := s₁.setTop (mkF m 2 #[.val (.ref r0), .val (.int p1)] [(.ref r0), (.int p1)])) (fun t k => ?_) ?_
  · refine XS.iloadN X0.here hx rfl (hb hby own_d1_0) rfl  ?_
    show Steps p.tables e below (s₁.setTop (mkF m 1 #[.val (.ref r0), .val (.int p1)] [(.int p1)])) _
    refine XS.aloadN X0.here hx rfl (hb hby own_d1_1) rfl rfl ?_
    show Steps p.tables e below (s₁.setTop (mkF m 2 #[.val (.ref r0), .val (.int p1)] [(.ref r0), (.int p1)])) _
    exact k
  obtain ⟨T1, X1, e1, st1⟩ := getF X0 hx hZ hown (host := "") (Or.inl (hw _ (List.mem_of_getElem? (i := 8) rfl))) Via.refl e0 F_first_r0 (g := (mkF m 2 #[.val (.ref r0), .val (.int p1)] [(.ref r0), (.int p1)])) rfl rfl (hb hby own_d1_2)
  refine Go.st (V' := T1.setTop (mkF m 5 #[.val (.ref r0), .val (.int p1)] [(.int w_first_r0), (.int p1)])) (fun t k => st1 t k) ?_
  by_cases hc2 : p1 < w_first_r0
  · refine Go.st (V' := T1.setTop (mkF m 19 #[.val (.ref r0), .val (.int p1)] [(.int (0 : Int32))])) (fun t k => ?_) ?_
    · refine XS.icmpYes X1.here hx rfl (pc0 := 5) (pc' := 18) rfl (hb hby own_d1_5) rfl (tlt hc2).1 (by decide) (by decide) ?_
      show Steps p.tables e below (T1.setTop (mkF m 18 #[.val (.ref r0), .val (.int p1)] [])) _
      refine XS.iconst X1.here hx rfl (hb hby own_d1_18) ?_
      show Steps p.tables e below (T1.setTop (mkF m 19 #[.val (.ref r0), .val (.int p1)] [(.int (0 : Int32))])) _
      exact k
    obtain ⟨fs, hr, hrun, hended, hW, hsame⟩ := X1.leave (v := some (.int (0 : Int32))) (fun h => by rw [Bd.returns] at h; cases h)
    refine Go.mk' ⟨_, _, retN X1 hx (t := .boolean) Bd.returns (by simp) (hb hby own_d1_19) hr, hrun, hended, _, _, rfl, ?_, ⟨_, rfl⟩, hW, hsame.mono (by decide) (by decide)⟩
    show Q1 Z p1 w_first_r0 h0 n0 _ T1.heap _
    rw [e1]
    exact ⟨(by rw [f1, if_pos hc2]), N0, rfl⟩
  · refine Go.st (V' := T1.setTop (mkF m 11 #[.val (.ref r0), .val (.int p1)] [(.int (98 : Int32)), (.int p1)])) (fun t k => ?_) ?_
    · refine XS.icmpNo X1.here hx rfl (hb hby own_d1_5) rfl (flt hc2).1 ?_
      show Steps p.tables e below (T1.setTop (mkF m 8 #[.val (.ref r0), .val (.int p1)] [])) _
      refine XS.iloadN X1.here hx rfl (hb hby own_d1_8) rfl  ?_
      show Steps p.tables e below (T1.setTop (mkF m 9 #[.val (.ref r0), .val (.int p1)] [(.int p1)])) _
      refine XS.bipush X1.here hx rfl (hb hby own_d1_9) ?_
      show Steps p.tables e below (T1.setTop (mkF m 11 #[.val (.ref r0), .val (.int p1)] [(.int (98 : Int32)), (.int p1)])) _
      exact k
    by_cases hc3 : (98 : Int32) < p1
    · refine Go.st (V' := T1.setTop (mkF m 19 #[.val (.ref r0), .val (.int p1)] [(.int (0 : Int32))])) (fun t k => ?_) ?_
      · refine XS.icmpYes X1.here hx rfl (pc0 := 11) (pc' := 18) rfl (hb hby own_d1_11) rfl (tlt hc3).2.2.1 (by decide) (by decide) ?_
        show Steps p.tables e below (T1.setTop (mkF m 18 #[.val (.ref r0), .val (.int p1)] [])) _
        refine XS.iconst X1.here hx rfl (hb hby own_d1_18) ?_
        show Steps p.tables e below (T1.setTop (mkF m 19 #[.val (.ref r0), .val (.int p1)] [(.int (0 : Int32))])) _
        exact k
      obtain ⟨fs, hr, hrun, hended, hW, hsame⟩ := X1.leave (v := some (.int (0 : Int32))) (fun h => by rw [Bd.returns] at h; cases h)
      refine Go.mk' ⟨_, _, retN X1 hx (t := .boolean) Bd.returns (by simp) (hb hby own_d1_19) hr, hrun, hended, _, _, rfl, ?_, ⟨_, rfl⟩, hW, hsame.mono (by decide) (by decide)⟩
      show Q1 Z p1 w_first_r0 h0 n0 _ T1.heap _
      rw [e1]
      exact ⟨(by rw [f1, if_neg hc2, if_pos hc3]), N0, rfl⟩
    · refine Go.st (V' := T1.setTop (mkF m 19 #[.val (.ref r0), .val (.int p1)] [(.int (1 : Int32))])) (fun t k => ?_) ?_
      · refine XS.icmpNo X1.here hx rfl (hb hby own_d1_11) rfl (flt hc3).2.2.1 ?_
        show Steps p.tables e below (T1.setTop (mkF m 14 #[.val (.ref r0), .val (.int p1)] [])) _
        refine XS.iconst X1.here hx rfl (hb hby own_d1_14) ?_
        show Steps p.tables e below (T1.setTop (mkF m 15 #[.val (.ref r0), .val (.int p1)] [(.int (1 : Int32))])) _
        refine XS.goto X1.here hx rfl (pc0 := 15) (pc' := 19) rfl (hb hby own_d1_15) (by decide) (by decide) ?_
        show Steps p.tables e below (T1.setTop (mkF m 19 #[.val (.ref r0), .val (.int p1)] [(.int (1 : Int32))])) _
        exact k
      obtain ⟨fs, hr, hrun, hended, hW, hsame⟩ := X1.leave (v := some (.int (1 : Int32))) (fun h => by rw [Bd.returns] at h; cases h)
      refine Go.mk' ⟨_, _, retN X1 hx (t := .boolean) Bd.returns (by simp) (hb hby own_d1_19) hr, hrun, hended, _, _, rfl, ?_, ⟨_, rfl⟩, hW, hsame.mono (by decide) (by decide)⟩
      show Q1 Z p1 w_first_r0 h0 n0 _ T1.heap _
      rw [e1]
      exact ⟨(by rw [f1, if_neg hc2, if_neg hc3]), N0, rfl⟩
theorem own_pd11 : parseMethodDescriptor "(I)Z" = some ⟨[.int], some .boolean⟩ := by decide +kernel
theorem own_pn1 : plainName "com/example/settlewire/settlewire/settlement/KindAllowsPinLaw" = true := by first | (simp [plainName, overriddenIn]; done) | decide +kernel
theorem ef0 (m : MethodId) (p0 : Int32) (p1 : Int32) : entryFrame m #[(.int p0), (.int p1)] maxLocals = mkF m 0 #[.val (.int p0), .val (.int p1), .unset, .unset, .unset, .unset] [] := by first | (simp [entryFrame, mkF, argsToLocals, Value.category, maxLocals]; done) | rfl
def Q0 (Z : State) (p0 : Int32) (p1 : Int32) (h0 : Heap) (n0 : Nat) (v : Option Value) (h : Heap) (L : List Loc) : Prop := v = some (.int 1) ∧ Fr n0 L
set_option maxRecDepth 65536 in
set_option maxHeartbeats 40000000 in
theorem rm0 (l : Launch) (Z : State) (a0 : Array Value) (hw : ∀ d ∈ tables_1, d.before a0 Z = true) (ws : List Jvm.Cond) (s_CUSTOMER : Addr) (s_TRANSFER : Addr) (s_INTERBANK : Addr) (s_SETTLEMENT_ORDER : Addr) (HW : W0 Z s_CUSTOMER s_TRANSFER s_INTERBANK s_SETTLEMENT_ORDER) (p0 : Int32) (p1 : Int32) (h0 : Heap) (n0 : Nat) (O0 : Old Z n0 h0) :
    MetFree l x (head1 (Jvm.Cond.code x code maxLocals ret :: ws) room_1) (fun a U => a = #[(.int p0), (.int p1)] ∧ Z.Warmed39 U.vm ∧ U.heap = h0) (fun _ _ _ _ _ => True) (fun _ U o U' => ∃ v L, o = .returned v ∧ Q0 Z p0 p1 h0 n0 v U'.heap L ∧ FrameEnd U o U' L room_1.cells room_1.slots) := by
  refine MetFree.of_bodySF (plainFor_of_name own_pn1) hisR ?_
  intro p e s m args below meth c s₁ Bd hml0 hP hK
  obtain ⟨rfl, hZ, hh⟩ := hP
  obtain ⟨E_CUSTOMER, S_CUSTOMER, E_TRANSFER, S_TRANSFER, E_INTERBANK, S_INTERBANK, E_SETTLEMENT_ORDER, S_SETTLEMENT_ORDER, F_CUSTOMER_first, F_TRANSFER_first, F_INTERBANK_first, F_SETTLEMENT_ORDER_first⟩ := id HW
  have hx := Bd.exec
  have hby := Bd.bytes
  have hml : c.maxLocals = 6 := hml0
  have hown : s.vm.findClass "com/example/settlewire/settlewire/settlement/KindAllowsPinLaw" = some m.cls := findClass_of_methodNamed Bd.named
  have hnm := (name_of_methodNamed Bd.named Bd.method).1
  have X0 : Stand p l e room_1 s m #[(.int p0), (.int p1)] below meth c s₁ [] 0 0 := Stand.of_body Bd
  have e0 : s₁.heap = h0 := by rw [← hh, Bd.state]; rfl
  have N0 := Fr.nil n0
  refine Go.out ?_
  refine Go.st (V' := s₁.setTop (mkF m 0 #[.val (.int p0), .val (.int p1), .unset, .unset, .unset, .unset] [])) (fun t k => castTop (ef0 m p0 p1) k) ?_
  refine Go.st (V' := s₁.setTop (mkF m 5 #[.val (.int p0), .val (.int p1), .val (.int (p0 &&& (3 : Int32))), .unset, .unset, .unset] [(.int (p0 &&& (3 : Int32)))])) (fun t k => ?_) ?_
  · refine XS.iloadN X0.here hx rfl (hb hby at_0) rfl  ?_
    show Steps p.tables e below (s₁.setTop (mkF m 1 #[.val (.int p0), .val (.int p1), .unset, .unset, .unset, .unset] [(.int p0)])) _
    refine XS.iconst X0.here hx rfl (hb hby at_1) ?_
    show Steps p.tables e below (s₁.setTop (mkF m 2 #[.val (.int p0), .val (.int p1), .unset, .unset, .unset, .unset] [(.int (3 : Int32)), (.int p0)])) _
    refine XS.iand X0.here hx rfl (hb hby at_2) rfl ?_
    show Steps p.tables e below (s₁.setTop (mkF m 3 #[.val (.int p0), .val (.int p1), .unset, .unset, .unset, .unset] [(.int (p0 &&& (3 : Int32)))])) _
    refine XS.istoreN X0.here hx rfl (hb hby at_3) rfl (l' := #[.val (.int p0), .val (.int p1), .val (.int (p0 &&& (3 : Int32))), .unset, .unset, .unset]) rfl ?_
    show Steps p.tables e below (s₁.setTop (mkF m 4 #[.val (.int p0), .val (.int p1), .val (.int (p0 &&& (3 : Int32))), .unset, .unset, .unset] [])) _
    refine XS.iloadN X0.here hx rfl (hb hby at_4) rfl  ?_
    show Steps p.tables e below (s₁.setTop (mkF m 5 #[.val (.int p0), .val (.int p1), .val (.int (p0 &&& (3 : Int32))), .unset, .unset, .unset] [(.int (p0 &&& (3 : Int32)))])) _
    exact k
  by_cases hc4 : (p0 &&& (3 : Int32)) = (0 : Int32)
  · refine Go.st (V' := s₁.setTop (mkF m 8 #[.val (.int p0), .val (.int p1), .val (.int (p0 &&& (3 : Int32))), .unset, .unset, .unset] [])) (fun t k => ?_) ?_
    · refine XS.ifNo X0.here hx rfl (hb hby at_5) rfl ((if0 _ _).trans (teq hc4).2) ?_
      show Steps p.tables e below (s₁.setTop (mkF m 8 #[.val (.int p0), .val (.int p1), .val (.int (p0 &&& (3 : Int32))), .unset, .unset, .unset] [])) _
      exact k
    obtain ⟨T5, X5, e5, st5⟩ := getS2 X0 hx hZ hown (host := "") (Or.inl (hw _ (List.mem_of_getElem? (i := 0) rfl))) Via.refl e0 (S_CUSTOMER.ext O0.2) (g := (mkF m 8 #[.val (.int p0), .val (.int p1), .val (.int (p0 &&& (3 : Int32))), .unset, .unset, .unset] [])) rfl (hb hby at_8)
    refine Go.st (V' := T5.setTop (mkF m 11 #[.val (.int p0), .val (.int p1), .val (.int (p0 &&& (3 : Int32))), .unset, .unset, .unset] [(.ref s_CUSTOMER)])) (fun t k => st5 t k) ?_
    refine Go.st (V' := T5.setTop (mkF m 61 #[.val (.int p0), .val (.int p1), .val (.int (p0 &&& (3 : Int32))), .val (.ref s_CUSTOMER), .val (.int (10 : Int32)), .unset] [(.int p1), (.int (10 : Int32))])) (fun t k => ?_) ?_
    · refine XS.astoreN X5.here hx rfl (hb hby at_11) rfl rfl (l' := #[.val (.int p0), .val (.int p1), .val (.int (p0 &&& (3 : Int32))), .val (.ref s_CUSTOMER), .unset, .unset]) rfl ?_
      show Steps p.tables e below (T5.setTop (mkF m 12 #[.val (.int p0), .val (.int p1), .val (.int (p0 &&& (3 : Int32))), .val (.ref s_CUSTOMER), .unset, .unset] [])) _
      refine XS.bipush X5.here hx rfl (hb hby at_12) ?_
      show Steps p.tables e below (T5.setTop (mkF m 14 #[.val (.int p0), .val (.int p1), .val (.int (p0 &&& (3 : Int32))), .val (.ref s_CUSTOMER), .unset, .unset] [(.int (10 : Int32))])) _
      refine XS.istore X5.here hx rfl (hb hby at_14) rfl (l' := #[.val (.int p0), .val (.int p1), .val (.int (p0 &&& (3 : Int32))), .val (.ref s_CUSTOMER), .val (.int (10 : Int32)), .unset]) rfl ?_
      show Steps p.tables e below (T5.setTop (mkF m 16 #[.val (.int p0), .val (.int p1), .val (.int (p0 &&& (3 : Int32))), .val (.ref s_CUSTOMER), .val (.int (10 : Int32)), .unset] [])) _
      refine XS.goto X5.here hx rfl (pc0 := 16) (pc' := 58) rfl (hb hby at_16) (by decide) (by decide) ?_
      show Steps p.tables e below (T5.setTop (mkF m 58 #[.val (.int p0), .val (.int p1), .val (.int (p0 &&& (3 : Int32))), .val (.ref s_CUSTOMER), .val (.int (10 : Int32)), .unset] [])) _
      refine XS.iload X5.here hx rfl (hb hby at_58) rfl  ?_
      show Steps p.tables e below (T5.setTop (mkF m 60 #[.val (.int p0), .val (.int p1), .val (.int (p0 &&& (3 : Int32))), .val (.ref s_CUSTOMER), .val (.int (10 : Int32)), .unset] [(.int (10 : Int32))])) _
      refine XS.iloadN X5.here hx rfl (hb hby at_60) rfl  ?_
      show Steps p.tables e below (T5.setTop (mkF m 61 #[.val (.int p0), .val (.int p1), .val (.int (p0 &&& (3 : Int32))), .val (.ref s_CUSTOMER), .val (.int (10 : Int32)), .unset] [(.int p1), (.int (10 : Int32))])) _
      exact k
    by_cases hc6 : p1 < (10 : Int32)
    · refine Go.st (V' := T5.setTop (mkF m 79 #[.val (.int p0), .val (.int p1), .val (.int (p0 &&& (3 : Int32))), .val (.ref s_CUSTOMER), .val (.int (10 : Int32)), .val (.int (0 : Int32))] [(.int p1), (.ref s_CUSTOMER)])) (fun t k => ?_) ?_
      · refine XS.icmpYes X5.here hx rfl (pc0 := 61) (pc' := 74) rfl (hb hby at_61) rfl (tlt hc6).2.2.1 (by decide) (by decide) ?_
        show Steps p.tables e below (T5.setTop (mkF m 74 #[.val (.int p0), .val (.int p1), .val (.int (p0 &&& (3 : Int32))), .val (.ref s_CUSTOMER), .val (.int (10 : Int32)), .unset] [])) _
        refine XS.iconst X5.here hx rfl (hb hby at_74) ?_
        show Steps p.tables e below (T5.setTop (mkF m 75 #[.val (.int p0), .val (.int p1), .val (.int (p0 &&& (3 : Int32))), .val (.ref s_CUSTOMER), .val (.int (10 : Int32)), .unset] [(.int (0 : Int32))])) _
        refine XS.istore X5.here hx rfl (hb hby at_75) rfl (l' := #[.val (.int p0), .val (.int p1), .val (.int (p0 &&& (3 : Int32))), .val (.ref s_CUSTOMER), .val (.int (10 : Int32)), .val (.int (0 : Int32))]) rfl ?_
        show Steps p.tables e below (T5.setTop (mkF m 77 #[.val (.int p0), .val (.int p1), .val (.int (p0 &&& (3 : Int32))), .val (.ref s_CUSTOMER), .val (.int (10 : Int32)), .val (.int (0 : Int32))] [])) _
        refine XS.aloadN X5.here hx rfl (hb hby at_77) rfl rfl ?_
        show Steps p.tables e below (T5.setTop (mkF m 78 #[.val (.int p0), .val (.int p1), .val (.int (p0 &&& (3 : Int32))), .val (.ref s_CUSTOMER), .val (.int (10 : Int32)), .val (.int (0 : Int32))] [(.ref s_CUSTOMER)])) _
        refine XS.iloadN X5.here hx rfl (hb hby at_78) rfl  ?_
        show Steps p.tables e below (T5.setTop (mkF m 79 #[.val (.int p0), .val (.int p1), .val (.int (p0 &&& (3 : Int32))), .val (.ref s_CUSTOMER), .val (.int (10 : Int32)), .val (.int (0 : Int32))] [(.int p1), (.ref s_CUSTOMER)])) _
        exact k
      obtain ⟨cq7, kq7, q7a, q7b, q7c⟩ := isOf hZ e5 (E_CUSTOMER.ext O0.2)
      obtain ⟨_, _, ⟨T7, L7, k7, n7⟩, -, X7, ⟨Lc7, hQ7, l7, y7, z7⟩, st7⟩ := X5.virtualBack hx (y := (⟨"com/example/settlewire/settlewire/settlement/Order$Kind", "allows", "(I)Z"⟩ : MethodName)) (z := (⟨"com/example/settlewire/settlewire/settlement/Order$Kind", "allows", "(I)Z"⟩ : MethodName)) hown (mvT hZ (hw _ (List.mem_of_getElem? (i := 3) rfl))) (mvT hZ (hw _ (List.mem_of_getElem? (i := 4) rfl))) (notFace_of_selects (args := #[]) (mvT hZ (hw _ (List.mem_of_getElem? (i := 6) rfl)))) (mvT hZ (hw _ (List.mem_of_getElem? (i := 6) rfl))) (mvT hZ (hw _ (List.mem_of_getElem? (i := 5) rfl))) (by decide) (backOf (W := 0) (rm1 l Z a0 hw [] s_CUSTOMER s_TRANSFER s_INTERBANK s_SETTLEMENT_ORDER HW s_CUSTOMER p1 (10 : Int32) h0 n0 O0 (F_CUSTOMER_first.ext O0.2)) hZ (hw _ (List.mem_of_getElem? (i := 7) rfl)) (hw _ (List.mem_of_getElem? (i := 1) rfl)) (by decide) (by decide)) q7a q7c (g := (mkF m 79 #[.val (.int p0), .val (.int p1), .val (.int (p0 &&& (3 : Int32))), .val (.ref s_CUSTOMER), .val (.int (10 : Int32)), .val (.int (0 : Int32))] [(.int p1), (.ref s_CUSTOMER)])) rfl (by rw [hml]; rfl) (Steps.refl _) (argsL := [(.int p1)]) (rest := []) (lenOf own_pd11 rfl) rfl (by show 2 * 0 + _ ≤ _; exact Nat.le_of_eq rfl) (hb hby at_79) (fun _ _ => ⟨rfl, e5, (by decide : 0 + 0 ≤ _), (by decide : 0 + 0 ≤ _)⟩)
      dsimp only [Pt.U, Pt.locs, Pt.cells, Pt.slots] at X7 l7 y7 z7 st7 hQ7
      subst l7 y7 z7
      obtain ⟨rfl, N7q, e7⟩ := hQ7
      have N7 := Fr.app N0 N7q
      refine Go.st (V' := T7.setTop (mkF m 82 #[.val (.int p0), .val (.int p1), .val (.int (p0 &&& (3 : Int32))), .val (.ref s_CUSTOMER), .val (.int (10 : Int32)), .val (.int (0 : Int32))] [(.int (f1 p1 (10 : Int32)))])) (fun t k => st7.trans k) ?_
      have r8 : (f1 p1 (10 : Int32)) = (0 : Int32) := by rw [f1, if_pos hc6]
      rw [r8]
      refine Go.st (V' := T7.setTop (mkF m 92 #[.val (.int p0), .val (.int p1), .val (.int (p0 &&& (3 : Int32))), .val (.ref s_CUSTOMER), .val (.int (10 : Int32)), .val (.int (0 : Int32))] [(.int (1 : Int32))])) (fun t k => ?_) ?_
      · refine XS.iload X7.here hx rfl (hb hby at_82) rfl  ?_
        show Steps p.tables e below (T7.setTop (mkF m 84 #[.val (.int p0), .val (.int p1), .val (.int (p0 &&& (3 : Int32))), .val (.ref s_CUSTOMER), .val (.int (10 : Int32)), .val (.int (0 : Int32))] [(.int (0 : Int32)), (.int (0 : Int32))])) _
        refine XS.icmpNo X7.here hx rfl (hb hby at_84) rfl (teq (by decide : ((0 : Int32) = (0 : Int32)))).2 ?_
        show Steps p.tables e below (T7.setTop (mkF m 87 #[.val (.int p0), .val (.int p1), .val (.int (p0 &&& (3 : Int32))), .val (.ref s_CUSTOMER), .val (.int (10 : Int32)), .val (.int (0 : Int32))] [])) _
        refine XS.iconst X7.here hx rfl (hb hby at_87) ?_
        show Steps p.tables e below (T7.setTop (mkF m 88 #[.val (.int p0), .val (.int p1), .val (.int (p0 &&& (3 : Int32))), .val (.ref s_CUSTOMER), .val (.int (10 : Int32)), .val (.int (0 : Int32))] [(.int (1 : Int32))])) _
        refine XS.goto X7.here hx rfl (pc0 := 88) (pc' := 92) rfl (hb hby at_88) (by decide) (by decide) ?_
        show Steps p.tables e below (T7.setTop (mkF m 92 #[.val (.int p0), .val (.int p1), .val (.int (p0 &&& (3 : Int32))), .val (.ref s_CUSTOMER), .val (.int (10 : Int32)), .val (.int (0 : Int32))] [(.int (1 : Int32))])) _
        exact k
      obtain ⟨fs, hr, hrun, hended, hW, hsame⟩ := X7.leave (v := some (.int (1 : Int32))) (fun h => by rw [Bd.returns] at h; cases h)
      refine Go.mk' ⟨_, _, retN X7 hx (t := .boolean) Bd.returns (by simp) (hb hby at_92) hr, hrun, hended, _, _, rfl, ?_, ⟨_, rfl⟩, hW, hsame.mono (by decide) (by decide)⟩
      show Q0 Z p0 p1 h0 n0 _ T7.heap _
      rw [e7]
      exact ⟨rfl, N7⟩
    · refine Go.st (V' := T5.setTop (mkF m 67 #[.val (.int p0), .val (.int p1), .val (.int (p0 &&& (3 : Int32))), .val (.ref s_CUSTOMER), .val (.int (10 : Int32)), .unset] [(.int (98 : Int32)), (.int p1)])) (fun t k => ?_) ?_
      · refine XS.icmpNo X5.here hx rfl (hb hby at_61) rfl (flt hc6).2.2.1 ?_
        show Steps p.tables e below (T5.setTop (mkF m 64 #[.val (.int p0), .val (.int p1), .val (.int (p0 &&& (3 : Int32))), .val (.ref s_CUSTOMER), .val (.int (10 : Int32)), .unset] [])) _
        refine XS.iloadN X5.here hx rfl (hb hby at_64) rfl  ?_
        show Steps p.tables e below (T5.setTop (mkF m 65 #[.val (.int p0), .val (.int p1), .val (.int (p0 &&& (3 : Int32))), .val (.ref s_CUSTOMER), .val (.int (10 : Int32)), .unset] [(.int p1)])) _
        refine XS.bipush X5.here hx rfl (hb hby at_65) ?_
        show Steps p.tables e below (T5.setTop (mkF m 67 #[.val (.int p0), .val (.int p1), .val (.int (p0 &&& (3 : Int32))), .val (.ref s_CUSTOMER), .val (.int (10 : Int32)), .unset] [(.int (98 : Int32)), (.int p1)])) _
        exact k
      by_cases hc9 : (98 : Int32) < p1
      · refine Go.st (V' := T5.setTop (mkF m 79 #[.val (.int p0), .val (.int p1), .val (.int (p0 &&& (3 : Int32))), .val (.ref s_CUSTOMER), .val (.int (10 : Int32)), .val (.int (0 : Int32))] [(.int p1), (.ref s_CUSTOMER)])) (fun t k => ?_) ?_
        · refine XS.icmpYes X5.here hx rfl (pc0 := 67) (pc' := 74) rfl (hb hby at_67) rfl (tlt hc9).2.2.1 (by decide) (by decide) ?_
          show Steps p.tables e below (T5.setTop (mkF m 74 #[.val (.int p0), .val (.int p1), .val (.int (p0 &&& (3 : Int32))), .val (.ref s_CUSTOMER), .val (.int (10 : Int32)), .unset] [])) _
          refine XS.iconst X5.here hx rfl (hb hby at_74) ?_
          show Steps p.tables e below (T5.setTop (mkF m 75 #[.val (.int p0), .val (.int p1), .val (.int (p0 &&& (3 : Int32))), .val (.ref s_CUSTOMER), .val (.int (10 : Int32)), .unset] [(.int (0 : Int32))])) _
          refine XS.istore X5.here hx rfl (hb hby at_75) rfl (l' := #[.val (.int p0), .val (.int p1), .val (.int (p0 &&& (3 : Int32))), .val (.ref s_CUSTOMER), .val (.int (10 : Int32)), .val (.int (0 : Int32))]) rfl ?_
          show Steps p.tables e below (T5.setTop (mkF m 77 #[.val (.int p0), .val (.int p1), .val (.int (p0 &&& (3 : Int32))), .val (.ref s_CUSTOMER), .val (.int (10 : Int32)), .val (.int (0 : Int32))] [])) _
          refine XS.aloadN X5.here hx rfl (hb hby at_77) rfl rfl ?_
          show Steps p.tables e below (T5.setTop (mkF m 78 #[.val (.int p0), .val (.int p1), .val (.int (p0 &&& (3 : Int32))), .val (.ref s_CUSTOMER), .val (.int (10 : Int32)), .val (.int (0 : Int32))] [(.ref s_CUSTOMER)])) _
          refine XS.iloadN X5.here hx rfl (hb hby at_78) rfl  ?_
          show Steps p.tables e below (T5.setTop (mkF m 79 #[.val (.int p0), .val (.int p1), .val (.int (p0 &&& (3 : Int32))), .val (.ref s_CUSTOMER), .val (.int (10 : Int32)), .val (.int (0 : Int32))] [(.int p1), (.ref s_CUSTOMER)])) _
          exact k
        obtain ⟨cq10, kq10, q10a, q10b, q10c⟩ := isOf hZ e5 (E_CUSTOMER.ext O0.2)
        obtain ⟨_, _, ⟨T10, L10, k10, n10⟩, -, X10, ⟨Lc10, hQ10, l10, y10, z10⟩, st10⟩ := X5.virtualBack hx (y := (⟨"com/example/settlewire/settlewire/settlement/Order$Kind", "allows", "(I)Z"⟩ : MethodName)) (z := (⟨"com/example/settlewire/settlewire/settlement/Order$Kind", "allows", "(I)Z"⟩ : MethodName)) hown (mvT hZ (hw _ (List.mem_of_getElem? (i := 3) rfl))) (mvT hZ (hw _ (List.mem_of_getElem? (i := 4) rfl))) (notFace_of_selects (args := #[]) (mvT hZ (hw _ (List.mem_of_getElem? (i := 6) rfl)))) (mvT hZ (hw _ (List.mem_of_getElem? (i := 6) rfl))) (mvT hZ (hw _ (List.mem_of_getElem? (i := 5) rfl))) (by decide) (backOf (W := 0) (rm1 l Z a0 hw [] s_CUSTOMER s_TRANSFER s_INTERBANK s_SETTLEMENT_ORDER HW s_CUSTOMER p1 (10 : Int32) h0 n0 O0 (F_CUSTOMER_first.ext O0.2)) hZ (hw _ (List.mem_of_getElem? (i := 7) rfl)) (hw _ (List.mem_of_getElem? (i := 1) rfl)) (by decide) (by decide)) q10a q10c (g := (mkF m 79 #[.val (.int p0), .val (.int p1), .val (.int (p0 &&& (3 : Int32))), .val (.ref s_CUSTOMER), .val (.int (10 : Int32)), .val (.int (0 : Int32))] [(.int p1), (.ref s_CUSTOMER)])) rfl (by rw [hml]; rfl) (Steps.refl _) (argsL := [(.int p1)]) (rest := []) (lenOf own_pd11 rfl) rfl (by show 2 * 0 + _ ≤ _; exact Nat.le_of_eq rfl) (hb hby at_79) (fun _ _ => ⟨rfl, e5, (by decide : 0 + 0 ≤ _), (by decide : 0 + 0 ≤ _)⟩)
        dsimp only [Pt.U, Pt.locs, Pt.cells, Pt.slots] at X10 l10 y10 z10 st10 hQ10
        subst l10 y10 z10
        obtain ⟨rfl, N10q, e10⟩ := hQ10
        have N10 := Fr.app N0 N10q
        refine Go.st (V' := T10.setTop (mkF m 82 #[.val (.int p0), .val (.int p1), .val (.int (p0 &&& (3 : Int32))), .val (.ref s_CUSTOMER), .val (.int (10 : Int32)), .val (.int (0 : Int32))] [(.int (f1 p1 (10 : Int32)))])) (fun t k => st10.trans k) ?_
        have r11 : (f1 p1 (10 : Int32)) = (0 : Int32) := by rw [f1, if_neg hc6, if_pos hc9]
        rw [r11]
        refine Go.st (V' := T10.setTop (mkF m 92 #[.val (.int p0), .val (.int p1), .val (.int (p0 &&& (3 : Int32))), .val (.ref s_CUSTOMER), .val (.int (10 : Int32)), .val (.int (0 : Int32))] [(.int (1 : Int32))])) (fun t k => ?_) ?_
        · refine XS.iload X10.here hx rfl (hb hby at_82) rfl  ?_
          show Steps p.tables e below (T10.setTop (mkF m 84 #[.val (.int p0), .val (.int p1), .val (.int (p0 &&& (3 : Int32))), .val (.ref s_CUSTOMER), .val (.int (10 : Int32)), .val (.int (0 : Int32))] [(.int (0 : Int32)), (.int (0 : Int32))])) _
          refine XS.icmpNo X10.here hx rfl (hb hby at_84) rfl (teq (by decide : ((0 : Int32) = (0 : Int32)))).2 ?_
          show Steps p.tables e below (T10.setTop (mkF m 87 #[.val (.int p0), .val (.int p1), .val (.int (p0 &&& (3 : Int32))), .val (.ref s_CUSTOMER), .val (.int (10 : Int32)), .val (.int (0 : Int32))] [])) _
          refine XS.iconst X10.here hx rfl (hb hby at_87) ?_
          show Steps p.tables e below (T10.setTop (mkF m 88 #[.val (.int p0), .val (.int p1), .val (.int (p0 &&& (3 : Int32))), .val (.ref s_CUSTOMER), .val (.int (10 : Int32)), .val (.int (0 : Int32))] [(.int (1 : Int32))])) _
          refine XS.goto X10.here hx rfl (pc0 := 88) (pc' := 92) rfl (hb hby at_88) (by decide) (by decide) ?_
          show Steps p.tables e below (T10.setTop (mkF m 92 #[.val (.int p0), .val (.int p1), .val (.int (p0 &&& (3 : Int32))), .val (.ref s_CUSTOMER), .val (.int (10 : Int32)), .val (.int (0 : Int32))] [(.int (1 : Int32))])) _
          exact k
        obtain ⟨fs, hr, hrun, hended, hW, hsame⟩ := X10.leave (v := some (.int (1 : Int32))) (fun h => by rw [Bd.returns] at h; cases h)
        refine Go.mk' ⟨_, _, retN X10 hx (t := .boolean) Bd.returns (by simp) (hb hby at_92) hr, hrun, hended, _, _, rfl, ?_, ⟨_, rfl⟩, hW, hsame.mono (by decide) (by decide)⟩
        show Q0 Z p0 p1 h0 n0 _ T10.heap _
        rw [e10]
        exact ⟨rfl, N10⟩
      · refine Go.st (V' := T5.setTop (mkF m 79 #[.val (.int p0), .val (.int p1), .val (.int (p0 &&& (3 : Int32))), .val (.ref s_CUSTOMER), .val (.int (10 : Int32)), .val (.int (1 : Int32))] [(.int p1), (.ref s_CUSTOMER)])) (fun t k => ?_) ?_
        · refine XS.icmpNo X5.here hx rfl (hb hby at_67) rfl (flt hc9).2.2.1 ?_
          show Steps p.tables e below (T5.setTop (mkF m 70 #[.val (.int p0), .val (.int p1), .val (.int (p0 &&& (3 : Int32))), .val (.ref s_CUSTOMER), .val (.int (10 : Int32)), .unset] [])) _
          refine XS.iconst X5.here hx rfl (hb hby at_70) ?_
          show Steps p.tables e below (T5.setTop (mkF m 71 #[.val (.int p0), .val (.int p1), .val (.int (p0 &&& (3 : Int32))), .val (.ref s_CUSTOMER), .val (.int (10 : Int32)), .unset] [(.int (1 : Int32))])) _
          refine XS.goto X5.here hx rfl (pc0 := 71) (pc' := 75) rfl (hb hby at_71) (by decide) (by decide) ?_
          show Steps p.tables e below (T5.setTop (mkF m 75 #[.val (.int p0), .val (.int p1), .val (.int (p0 &&& (3 : Int32))), .val (.ref s_CUSTOMER), .val (.int (10 : Int32)), .unset] [(.int (1 : Int32))])) _
          refine XS.istore X5.here hx rfl (hb hby at_75) rfl (l' := #[.val (.int p0), .val (.int p1), .val (.int (p0 &&& (3 : Int32))), .val (.ref s_CUSTOMER), .val (.int (10 : Int32)), .val (.int (1 : Int32))]) rfl ?_
          show Steps p.tables e below (T5.setTop (mkF m 77 #[.val (.int p0), .val (.int p1), .val (.int (p0 &&& (3 : Int32))), .val (.ref s_CUSTOMER), .val (.int (10 : Int32)), .val (.int (1 : Int32))] [])) _
          refine XS.aloadN X5.here hx rfl (hb hby at_77) rfl rfl ?_
          show Steps p.tables e below (T5.setTop (mkF m 78 #[.val (.int p0), .val (.int p1), .val (.int (p0 &&& (3 : Int32))), .val (.ref s_CUSTOMER), .val (.int (10 : Int32)), .val (.int (1 : Int32))] [(.ref s_CUSTOMER)])) _
          refine XS.iloadN X5.here hx rfl (hb hby at_78) rfl  ?_
          show Steps p.tables e below (T5.setTop (mkF m 79 #[.val (.int p0), .val (.int p1), .val (.int (p0 &&& (3 : Int32))), .val (.ref s_CUSTOMER), .val (.int (10 : Int32)), .val (.int (1 : Int32))] [(.int p1), (.ref s_CUSTOMER)])) _
          exact k
        obtain ⟨cq12, kq12, q12a, q12b, q12c⟩ := isOf hZ e5 (E_CUSTOMER.ext O0.2)
        obtain ⟨_, _, ⟨T12, L12, k12, n12⟩, -, X12, ⟨Lc12, hQ12, l12, y12, z12⟩, st12⟩ := X5.virtualBack hx (y := (⟨"com/example/settlewire/settlewire/settlement/Order$Kind", "allows", "(I)Z"⟩ : MethodName)) (z := (⟨"com/example/settlewire/settlewire/settlement/Order$Kind", "allows", "(I)Z"⟩ : MethodName)) hown (mvT hZ (hw _ (List.mem_of_getElem? (i := 3) rfl))) (mvT hZ (hw _ (List.mem_of_getElem? (i := 4) rfl))) (notFace_of_selects (args := #[]) (mvT hZ (hw _ (List.mem_of_getElem? (i := 6) rfl)))) (mvT hZ (hw _ (List.mem_of_getElem? (i := 6) rfl))) (mvT hZ (hw _ (List.mem_of_getElem? (i := 5) rfl))) (by decide) (backOf (W := 0) (rm1 l Z a0 hw [] s_CUSTOMER s_TRANSFER s_INTERBANK s_SETTLEMENT_ORDER HW s_CUSTOMER p1 (10 : Int32) h0 n0 O0 (F_CUSTOMER_first.ext O0.2)) hZ (hw _ (List.mem_of_getElem? (i := 7) rfl)) (hw _ (List.mem_of_getElem? (i := 1) rfl)) (by decide) (by decide)) q12a q12c (g := (mkF m 79 #[.val (.int p0), .val (.int p1), .val (.int (p0 &&& (3 : Int32))), .val (.ref s_CUSTOMER), .val (.int (10 : Int32)), .val (.int (1 : Int32))] [(.int p1), (.ref s_CUSTOMER)])) rfl (by rw [hml]; rfl) (Steps.refl _) (argsL := [(.int p1)]) (rest := []) (lenOf own_pd11 rfl) rfl (by show 2 * 0 + _ ≤ _; exact Nat.le_of_eq rfl) (hb hby at_79) (fun _ _ => ⟨rfl, e5, (by decide : 0 + 0 ≤ _), (by decide : 0 + 0 ≤ _)⟩)
        dsimp only [Pt.U, Pt.locs, Pt.cells, Pt.slots] at X12 l12 y12 z12 st12 hQ12
        subst l12 y12 z12
        obtain ⟨rfl, N12q, e12⟩ := hQ12
        have N12 := Fr.app N0 N12q
        refine Go.st (V' := T12.setTop (mkF m 82 #[.val (.int p0), .val (.int p1), .val (.int (p0 &&& (3 : Int32))), .val (.ref s_CUSTOMER), .val (.int (10 : Int32)), .val (.int (1 : Int32))] [(.int (f1 p1 (10 : Int32)))])) (fun t k => st12.trans k) ?_
        have r13 : (f1 p1 (10 : Int32)) = (1 : Int32) := by rw [f1, if_neg hc6, if_neg hc9]
        rw [r13]
        refine Go.st (V' := T12.setTop (mkF m 92 #[.val (.int p0), .val (.int p1), .val (.int (p0 &&& (3 : Int32))), .val (.ref s_CUSTOMER), .val (.int (10 : Int32)), .val (.int (1 : Int32))] [(.int (1 : Int32))])) (fun t k => ?_) ?_
        · refine XS.iload X12.here hx rfl (hb hby at_82) rfl  ?_
          show Steps p.tables e below (T12.setTop (mkF m 84 #[.val (.int p0), .val (.int p1), .val (.int (p0 &&& (3 : Int32))), .val (.ref s_CUSTOMER), .val (.int (10 : Int32)), .val (.int (1 : Int32))] [(.int (1 : Int32)), (.int (1 : Int32))])) _
          refine XS.icmpNo X12.here hx rfl (hb hby at_84) rfl (teq (by decide : ((1 : Int32) = (1 : Int32)))).2 ?_
          show Steps p.tables e below (T12.setTop (mkF m 87 #[.val (.int p0), .val (.int p1), .val (.int (p0 &&& (3 : Int32))), .val (.ref s_CUSTOMER), .val (.int (10 : Int32)), .val (.int (1 : Int32))] [])) _
          refine XS.iconst X12.here hx rfl (hb hby at_87) ?_
          show Steps p.tables e below (T12.setTop (mkF m 88 #[.val (.int p0), .val (.int p1), .val (.int (p0 &&& (3 : Int32))), .val (.ref s_CUSTOMER), .val (.int (10 : Int32)), .val (.int (1 : Int32))] [(.int (1 : Int32))])) _
          refine XS.goto X12.here hx rfl (pc0 := 88) (pc' := 92) rfl (hb hby at_88) (by decide) (by decide) ?_
          show Steps p.tables e below (T12.setTop (mkF m 92 #[.val (.int p0), .val (.int p1), .val (.int (p0 &&& (3 : Int32))), .val (.ref s_CUSTOMER), .val (.int (10 : Int32)), .val (.int (1 : Int32))] [(.int (1 : Int32))])) _
          exact k
        obtain ⟨fs, hr, hrun, hended, hW, hsame⟩ := X12.leave (v := some (.int (1 : Int32))) (fun h => by rw [Bd.returns] at h; cases h)
        refine Go.mk' ⟨_, _, retN X12 hx (t := .boolean) Bd.returns (by simp) (hb hby at_92) hr, hrun, hended, _, _, rfl, ?_, ⟨_, rfl⟩, hW, hsame.mono (by decide) (by decide)⟩
        show Q0 Z p0 p1 h0 n0 _ T12.heap _
        rw [e12]
        exact ⟨rfl, N12⟩
  · refine Go.st (V' := s₁.setTop (mkF m 21 #[.val (.int p0), .val (.int p1), .val (.int (p0 &&& (3 : Int32))), .unset, .unset, .unset] [(.int (1 : Int32)), (.int (p0 &&& (3 : Int32)))])) (fun t k => ?_) ?_
    · refine XS.ifYes X0.here hx rfl (pc0 := 5) (pc' := 19) rfl (hb hby at_5) rfl ((if0 _ _).trans (feq hc4).2) (by decide) (by decide) ?_
      show Steps p.tables e below (s₁.setTop (mkF m 19 #[.val (.int p0), .val (.int p1), .val (.int (p0 &&& (3 : Int32))), .unset, .unset, .unset] [])) _
      refine XS.iloadN X0.here hx rfl (hb hby at_19) rfl  ?_
      show Steps p.tables e below (s₁.setTop (mkF m 20 #[.val (.int p0), .val (.int p1), .val (.int (p0 &&& (3 : Int32))), .unset, .unset, .unset] [(.int (p0 &&& (3 : Int32)))])) _
      refine XS.iconst X0.here hx rfl (hb hby at_20) ?_
      show Steps p.tables e below (s₁.setTop (mkF m 21 #[.val (.int p0), .val (.int p1), .val (.int (p0 &&& (3 : Int32))), .unset, .unset, .unset] [(.int (1 : Int32)), (.int (p0 &&& (3 : Int32)))])) _
      exact k
    by_cases hc14 : (p0 &&& (3 : Int32)) = (1 : Int32)
    · refine Go.st (V' := s₁.setTop (mkF m 24 #[.val (.int p0), .val (.int p1), .val (.int (p0 &&& (3 : Int32))), .unset, .unset, .unset] [])) (fun t k => ?_) ?_
      · refine XS.icmpNo X0.here hx rfl (hb hby at_21) rfl (teq hc14).2 ?_
        show Steps p.tables e below (s₁.setTop (mkF m 24 #[.val (.int p0), .val (.int p1), .val (.int (p0 &&& (3 : Int32))), .unset, .unset, .unset] [])) _
        exact k
      obtain ⟨T15, X15, e15, st15⟩ := getS2 X0 hx hZ hown (host := "") (Or.inl (hw _ (List.mem_of_getElem? (i := 12) rfl))) Via.refl e0 (S_INTERBANK.ext O0.2) (g := (mkF m 24 #[.val (.int p0), .val (.int p1), .val (.int (p0 &&& (3 : Int32))), .unset, .unset, .unset] [])) rfl (hb hby at_24)
      refine Go.st (V' := T15.setTop (mkF m 27 #[.val (.int p0), .val (.int p1), .val (.int (p0 &&& (3 : Int32))), .unset, .unset, .unset] [(.ref s_INTERBANK)])) (fun t k => st15 t k) ?_
      refine Go.st (V' := T15.setTop (mkF m 61 #[.val (.int p0), .val (.int p1), .val (.int (p0 &&& (3 : Int32))), .val (.ref s_INTERBANK), .val (.int (10 : Int32)), .unset] [(.int p1), (.int (10 : Int32))])) (fun t k => ?_) ?_
      · refine XS.astoreN X15.here hx rfl (hb hby at_27) rfl rfl (l' := #[.val (.int p0), .val (.int p1), .val (.int (p0 &&& (3 : Int32))), .val (.ref s_INTERBANK), .unset, .unset]) rfl ?_
        show Steps p.tables e below (T15.setTop (mkF m 28 #[.val (.int p0), .val (.int p1), .val (.int (p0 &&& (3 : Int32))), .val (.ref s_INTERBANK), .unset, .unset] [])) _
        refine XS.bipush X15.here hx rfl (hb hby at_28) ?_
        show Steps p.tables e below (T15.setTop (mkF m 30 #[.val (.int p0), .val (.int p1), .val (.int (p0 &&& (3 : Int32))), .val (.ref s_INTERBANK), .unset, .unset] [(.int (10 : Int32))])) _
        refine XS.istore X15.here hx rfl (hb hby at_30) rfl (l' := #[.val (.int p0), .val (.int p1), .val (.int (p0 &&& (3 : Int32))), .val (.ref s_INTERBANK), .val (.int (10 : Int32)), .unset]) rfl ?_
        show Steps p.tables e below (T15.setTop (mkF m 32 #[.val (.int p0), .val (.int p1), .val (.int (p0 &&& (3 : Int32))), .val (.ref s_INTERBANK), .val (.int (10 : Int32)), .unset] [])) _
        refine XS.goto X15.here hx rfl (pc0 := 32) (pc' := 58) rfl (hb hby at_32) (by decide) (by decide) ?_
        show Steps p.tables e below (T15.setTop (mkF m 58 #[.val (.int p0), .val (.int p1), .val (.int (p0 &&& (3 : Int32))), .val (.ref s_INTERBANK), .val (.int (10 : Int32)), .unset] [])) _
        refine XS.iload X15.here hx rfl (hb hby at_58) rfl  ?_
        show Steps p.tables e below (T15.setTop (mkF m 60 #[.val (.int p0), .val (.int p1), .val (.int (p0 &&& (3 : Int32))), .val (.ref s_INTERBANK), .val (.int (10 : Int32)), .unset] [(.int (10 : Int32))])) _
        refine XS.iloadN X15.here hx rfl (hb hby at_60) rfl  ?_
        show Steps p.tables e below (T15.setTop (mkF m 61 #[.val (.int p0), .val (.int p1), .val (.int (p0 &&& (3 : Int32))), .val (.ref s_INTERBANK), .val (.int (10 : Int32)), .unset] [(.int p1), (.int (10 : Int32))])) _
        exact k
      by_cases hc16 : p1 < (10 : Int32)
      · refine Go.st (V' := T15.setTop (mkF m 79 #[.val (.int p0), .val (.int p1), .val (.int (p0 &&& (3 : Int32))), .val (.ref s_INTERBANK), .val (.int (10 : Int32)), .val (.int (0 : Int32))] [(.int p1), (.ref s_INTERBANK)])) (fun t k => ?_) ?_
        · refine XS.icmpYes X15.here hx rfl (pc0 := 61) (pc' := 74) rfl (hb hby at_61) rfl (tlt hc16).2.2.1 (by decide) (by decide) ?_
          show Steps p.tables e below (T15.setTop (mkF m 74 #[.val (.int p0), .val (.int p1), .val (.int (p0 &&& (3 : Int32))), .val (.ref s_INTERBANK), .val (.int (10 : Int32)), .unset] [])) _
          refine XS.iconst X15.here hx rfl (hb hby at_74) ?_
          show Steps p.tables e below (T15.setTop (mkF m 75 #[.val (.int p0), .val (.int p1), .val (.int (p0 &&& (3 : Int32))), .val (.ref s_INTERBANK), .val (.int (10 : Int32)), .unset] [(.int (0 : Int32))])) _
          refine XS.istore X15.here hx rfl (hb hby at_75) rfl (l' := #[.val (.int p0), .val (.int p1), .val (.int (p0 &&& (3 : Int32))), .val (.ref s_INTERBANK), .val (.int (10 : Int32)), .val (.int (0 : Int32))]) rfl ?_
          show Steps p.tables e below (T15.setTop (mkF m 77 #[.val (.int p0), .val (.int p1), .val (.int (p0 &&& (3 : Int32))), .val (.ref s_INTERBANK), .val (.int (10 : Int32)), .val (.int (0 : Int32))] [])) _
          refine XS.aloadN X15.here hx rfl (hb hby at_77) rfl rfl ?_
          show Steps p.tables e below (T15.setTop (mkF m 78 #[.val (.int p0), .val (.int p1), .val (.int (p0 &&& (3 : Int32))), .val (.ref s_INTERBANK), .val (.int (10 : Int32)), .val (.int (0 : Int32))] [(.ref s_INTERBANK)])) _
          refine XS.iloadN X15.here hx rfl (hb hby at_78) rfl  ?_
          show Steps p.tables e below (T15.setTop (mkF m 79 #[.val (.int p0), .val (.int p1), .val (.int (p0 &&& (3 : Int32))), .val (.ref s_INTERBANK), .val (.int (10 : Int32)), .val (.int (0 : Int32))] [(.int p1), (.ref s_INTERBANK)])) _
          exact k
        obtain ⟨cq17, kq17, q17a, q17b, q17c⟩ := isOf hZ e15 (E_INTERBANK.ext O0.2)
        obtain ⟨_, _, ⟨T17, L17, k17, n17⟩, -, X17, ⟨Lc17, hQ17, l17, y17, z17⟩, st17⟩ := X15.virtualBack hx (y := (⟨"com/example/settlewire/settlewire/settlement/Order$Kind", "allows", "(I)Z"⟩ : MethodName)) (z := (⟨"com/example/settlewire/settlewire/settlement/Order$Kind", "allows", "(I)Z"⟩ : MethodName)) hown (mvT hZ (hw _ (List.mem_of_getElem? (i := 3) rfl))) (mvT hZ (hw _ (List.mem_of_getElem? (i := 4) rfl))) (notFace_of_selects (args := #[]) (mvT hZ (hw _ (List.mem_of_getElem? (i := 6) rfl)))) (mvT hZ (hw _ (List.mem_of_getElem? (i := 6) rfl))) (mvT hZ (hw _ (List.mem_of_getElem? (i := 5) rfl))) (by decide) (backOf (W := 0) (rm1 l Z a0 hw [] s_CUSTOMER s_TRANSFER s_INTERBANK s_SETTLEMENT_ORDER HW s_INTERBANK p1 (10 : Int32) h0 n0 O0 (F_INTERBANK_first.ext O0.2)) hZ (hw _ (List.mem_of_getElem? (i := 7) rfl)) (hw _ (List.mem_of_getElem? (i := 1) rfl)) (by decide) (by decide)) q17a q17c (g := (mkF m 79 #[.val (.int p0), .val (.int p1), .val (.int (p0 &&& (3 : Int32))), .val (.ref s_INTERBANK), .val (.int (10 : Int32)), .val (.int (0 : Int32))] [(.int p1), (.ref s_INTERBANK)])) rfl (by rw [hml]; rfl) (Steps.refl _) (argsL := [(.int p1)]) (rest := []) (lenOf own_pd11 rfl) rfl (by show 2 * 0 + _ ≤ _; exact Nat.le_of_eq rfl) (hb hby at_79) (fun _ _ => ⟨rfl, e15, (by decide : 0 + 0 ≤ _), (by decide : 0 + 0 ≤ _)⟩)
        dsimp only [Pt.U, Pt.locs, Pt.cells, Pt.slots] at X17 l17 y17 z17 st17 hQ17
        subst l17 y17 z17
        obtain ⟨rfl, N17q, e17⟩ := hQ17
        have N17 := Fr.app N0 N17q
        refine Go.st (V' := T17.setTop (mkF m 82 #[.val (.int p0), .val (.int p1), .val (.int (p0 &&& (3 : Int32))), .val (.ref s_INTERBANK), .val (.int (10 : Int32)), .val (.int (0 : Int32))] [(.int (f1 p1 (10 : Int32)))])) (fun t k => st17.trans k) ?_
        have r18 : (f1 p1 (10 : Int32)) = (0 : Int32) := by rw [f1, if_pos hc16]
        rw [r18]
        refine Go.st (V' := T17.setTop (mkF m 92 #[.val (.int p0), .val (.int p1), .val (.int (p0 &&& (3 : Int32))), .val (.ref s_INTERBANK), .val (.int (10 : Int32)), .val (.int (0 : Int32))] [(.int (1 : Int32))])) (fun t k => ?_) ?_
        · refine XS.iload X17.here hx rfl (hb hby at_82) rfl  ?_
          show Steps p.tables e below (T17.setTop (mkF m 84 #[.val (.int p0), .val (.int p1), .val (.int (p0 &&& (3 : Int32))), .val (.ref s_INTERBANK), .val (.int (10 : Int32)), .val (.int (0 : Int32))] [(.int (0 : Int32)), (.int (0 : Int32))])) _
          refine XS.icmpNo X17.here hx rfl (hb hby at_84) rfl (teq (by decide : ((0 : Int32) = (0 : Int32)))).2 ?_
          show Steps p.tables e below (T17.setTop (mkF m 87 #[.val (.int p0), .val (.int p1), .val (.int (p0 &&& (3 : Int32))), .val (.ref s_INTERBANK), .val (.int (10 : Int32)), .val (.int (0 : Int32))] [])) _
          refine XS.iconst X17.here hx rfl (hb hby at_87) ?_
          show Steps p.tables e below (T17.setTop (mkF m 88 #[.val (.int p0), .val (.int p1), .val (.int (p0 &&& (3 : Int32))), .val (.ref s_INTERBANK), .val (.int (10 : Int32)), .val (.int (0 : Int32))] [(.int (1 : Int32))])) _
          refine XS.goto X17.here hx rfl (pc0 := 88) (pc' := 92) rfl (hb hby at_88) (by decide) (by decide) ?_
          show Steps p.tables e below (T17.setTop (mkF m 92 #[.val (.int p0), .val (.int p1), .val (.int (p0 &&& (3 : Int32))), .val (.ref s_INTERBANK), .val (.int (10 : Int32)), .val (.int (0 : Int32))] [(.int (1 : Int32))])) _
          exact k
        obtain ⟨fs, hr, hrun, hended, hW, hsame⟩ := X17.leave (v := some (.int (1 : Int32))) (fun h => by rw [Bd.returns] at h; cases h)
        refine Go.mk' ⟨_, _, retN X17 hx (t := .boolean) Bd.returns (by simp) (hb hby at_92) hr, hrun, hended, _, _, rfl, ?_, ⟨_, rfl⟩, hW, hsame.mono (by decide) (by decide)⟩
        show Q0 Z p0 p1 h0 n0 _ T17.heap _
        rw [e17]
        exact ⟨rfl, N17⟩
      · refine Go.st (V' := T15.setTop (mkF m 67 #[.val (.int p0), .val (.int p1), .val (.int (p0 &&& (3 : Int32))), .val (.ref s_INTERBANK), .val (.int (10 : Int32)), .unset] [(.int (98 : Int32)), (.int p1)])) (fun t k => ?_) ?_
        · refine XS.icmpNo X15.here hx rfl (hb hby at_61) rfl (flt hc16).2.2.1 ?_
          show Steps p.tables e below (T15.setTop (mkF m 64 #[.val (.int p0), .val (.int p1), .val (.int (p0 &&& (3 : Int32))), .val (.ref s_INTERBANK), .val (.int (10 : Int32)), .unset] [])) _
          refine XS.iloadN X15.here hx rfl (hb hby at_64) rfl  ?_
          show Steps p.tables e below (T15.setTop (mkF m 65 #[.val (.int p0), .val (.int p1), .val (.int (p0 &&& (3 : Int32))), .val (.ref s_INTERBANK), .val (.int (10 : Int32)), .unset] [(.int p1)])) _
          refine XS.bipush X15.here hx rfl (hb hby at_65) ?_
          show Steps p.tables e below (T15.setTop (mkF m 67 #[.val (.int p0), .val (.int p1), .val (.int (p0 &&& (3 : Int32))), .val (.ref s_INTERBANK), .val (.int (10 : Int32)), .unset] [(.int (98 : Int32)), (.int p1)])) _
          exact k
        by_cases hc19 : (98 : Int32) < p1
        · refine Go.st (V' := T15.setTop (mkF m 79 #[.val (.int p0), .val (.int p1), .val (.int (p0 &&& (3 : Int32))), .val (.ref s_INTERBANK), .val (.int (10 : Int32)), .val (.int (0 : Int32))] [(.int p1), (.ref s_INTERBANK)])) (fun t k => ?_) ?_
          · refine XS.icmpYes X15.here hx rfl (pc0 := 67) (pc' := 74) rfl (hb hby at_67) rfl (tlt hc19).2.2.1 (by decide) (by decide) ?_
            show Steps p.tables e below (T15.setTop (mkF m 74 #[.val (.int p0), .val (.int p1), .val (.int (p0 &&& (3 : Int32))), .val (.ref s_INTERBANK), .val (.int (10 : Int32)), .unset] [])) _
            refine XS.iconst X15.here hx rfl (hb hby at_74) ?_
            show Steps p.tables e below (T15.setTop (mkF m 75 #[.val (.int p0), .val (.int p1), .val (.int (p0 &&& (3 : Int32))), .val (.ref s_INTERBANK), .val (.int (10 : Int32)), .unset] [(.int (0 : Int32))])) _
            refine XS.istore X15.here hx rfl (hb hby at_75) rfl (l' := #[.val (.int p0), .val (.int p1), .val (.int (p0 &&& (3 : Int32))), .val (.ref s_INTERBANK), .val (.int (10 : Int32)), .val (.int (0 : Int32))]) rfl ?_
            show Steps p.tables e below (T15.setTop (mkF m 77 #[.val (.int p0), .val (.int p1), .val (.int (p0 &&& (3 : Int32))), .val (.ref s_INTERBANK), .val (.int (10 : Int32)), .val (.int (0 : Int32))] [])) _
            refine XS.aloadN X15.here hx rfl (hb hby at_77) rfl rfl ?_
            show Steps p.tables e below (T15.setTop (mkF m 78 #[.val (.int p0), .val (.int p1), .val (.int (p0 &&& (3 : Int32))), .val (.ref s_INTERBANK), .val (.int (10 : Int32)), .val (.int (0 : Int32))] [(.ref s_INTERBANK)])) _
            refine XS.iloadN X15.here hx rfl (hb hby at_78) rfl  ?_
            show Steps p.tables e below (T15.setTop (mkF m 79 #[.val (.int p0), .val (.int p1), .val (.int (p0 &&& (3 : Int32))), .val (.ref s_INTERBANK), .val (.int (10 : Int32)), .val (.int (0 : Int32))] [(.int p1), (.ref s_INTERBANK)])) _
            exact k
          obtain ⟨cq20, kq20, q20a, q20b, q20c⟩ := isOf hZ e15 (E_INTERBANK.ext O0.2)
          obtain ⟨_, _, ⟨T20, L20, k20, n20⟩, -, X20, ⟨Lc20, hQ20, l20, y20, z20⟩, st20⟩ := X15.virtualBack hx (y := (⟨"com/example/settlewire/settlewire/settlement/Order$Kind", "allows", "(I)Z"⟩ : MethodName)) (z := (⟨"com/example/settlewire/settlewire/settlement/Order$Kind", "allows", "(I)Z"⟩ : MethodName)) hown (mvT hZ (hw _ (List.mem_of_getElem? (i := 3) rfl))) (mvT hZ (hw _ (List.mem_of_getElem? (i := 4) rfl))) (notFace_of_selects (args := #[]) (mvT hZ (hw _ (List.mem_of_getElem? (i := 6) rfl)))) (mvT hZ (hw _ (List.mem_of_getElem? (i := 6) rfl))) (mvT hZ (hw _ (List.mem_of_getElem? (i := 5) rfl))) (by decide) (backOf (W := 0) (rm1 l Z a0 hw [] s_CUSTOMER s_TRANSFER s_INTERBANK s_SETTLEMENT_ORDER HW s_INTERBANK p1 (10 : Int32) h0 n0 O0 (F_INTERBANK_first.ext O0.2)) hZ (hw _ (List.mem_of_getElem? (i := 7) rfl)) (hw _ (List.mem_of_getElem? (i := 1) rfl)) (by decide) (by decide)) q20a q20c (g := (mkF m 79 #[.val (.int p0), .val (.int p1), .val (.int (p0 &&& (3 : Int32))), .val (.ref s_INTERBANK), .val (.int (10 : Int32)), .val (.int (0 : Int32))] [(.int p1), (.ref s_INTERBANK)])) rfl (by rw [hml]; rfl) (Steps.refl _) (argsL := [(.int p1)]) (rest := []) (lenOf own_pd11 rfl) rfl (by show 2 * 0 + _ ≤ _; exact Nat.le_of_eq rfl) (hb hby at_79) (fun _ _ => ⟨rfl, e15, (by decide : 0 + 0 ≤ _), (by decide : 0 + 0 ≤ _)⟩)
          dsimp only [Pt.U, Pt.locs, Pt.cells, Pt.slots] at X20 l20 y20 z20 st20 hQ20
          subst l20 y20 z20
          obtain ⟨rfl, N20q, e20⟩ := hQ20
          have N20 := Fr.app N0 N20q
          refine Go.st (V' := T20.setTop (mkF m 82 #[.val (.int p0), .val (.int p1), .val (.int (p0 &&& (3 : Int32))), .val (.ref s_INTERBANK), .val (.int (10 : Int32)), .val (.int (0 : Int32))] [(.int (f1 p1 (10 : Int32)))])) (fun t k => st20.trans k) ?_
          have r21 : (f1 p1 (10 : Int32)) = (0 : Int32) := by rw [f1, if_neg hc16, if_pos hc19]
          rw [r21]
          refine Go.st (V' := T20.setTop (mkF m 92 #[.val (.int p0), .val (.int p1), .val (.int (p0 &&& (3 : Int32))), .val (.ref s_INTERBANK), .val (.int (10 : Int32)), .val (.int (0 : Int32))] [(.int (1 : Int32))])) (fun t k => ?_) ?_
          · refine XS.iload X20.here hx rfl (hb hby at_82) rfl  ?_
            show Steps p.tables e below (T20.setTop (mkF m 84 #[.val (.int p0), .val (.int p1), .val (.int (p0 &&& (3 : Int32))), .val (.ref s_INTERBANK), .val (.int (10 : Int32)), .val (.int (0 : Int32))] [(.int (0 : Int32)), (.int (0 : Int32))])) _
            refine XS.icmpNo X20.here hx rfl (hb hby at_84) rfl (teq (by decide : ((0 : Int32) = (0 : Int32)))).2 ?_
            show Steps p.tables e below (T20.setTop (mkF m 87 #[.val (.int p0), .val (.int p1), .val (.int (p0 &&& (3 : Int32))), .val (.ref s_INTERBANK), .val (.int (10 : Int32)), .val (.int (0 : Int32))] [])) _
            refine XS.iconst X20.here hx rfl (hb hby at_87) ?_
            show Steps p.tables e below (T20.setTop (mkF m 88 #[.val (.int p0), .val (.int p1), .val (.int (p0 &&& (3 : Int32))), .val (.ref s_INTERBANK), .val (.int (10 : Int32)), .val (.int (0 : Int32))] [(.int (1 : Int32))])) _
            refine XS.goto X20.here hx rfl (pc0 := 88) (pc' := 92) rfl (hb hby at_88) (by decide) (by decide) ?_
            show Steps p.tables e below (T20.setTop (mkF m 92 #[.val (.int p0), .val (.int p1), .val (.int (p0 &&& (3 : Int32))), .val (.ref s_INTERBANK), .val (.int (10 : Int32)), .val (.int (0 : Int32))] [(.int (1 : Int32))])) _
            exact k
          obtain ⟨fs, hr, hrun, hended, hW, hsame⟩ := X20.leave (v := some (.int (1 : Int32))) (fun h => by rw [Bd.returns] at h; cases h)
          refine Go.mk' ⟨_, _, retN X20 hx (t := .boolean) Bd.returns (by simp) (hb hby at_92) hr, hrun, hended, _, _, rfl, ?_, ⟨_, rfl⟩, hW, hsame.mono (by decide) (by decide)⟩
          show Q0 Z p0 p1 h0 n0 _ T20.heap _
          rw [e20]
          exact ⟨rfl, N20⟩
        · refine Go.st (V' := T15.setTop (mkF m 79 #[.val (.int p0), .val (.int p1), .val (.int (p0 &&& (3 : Int32))), .val (.ref s_INTERBANK), .val (.int (10 : Int32)), .val (.int (1 : Int32))] [(.int p1), (.ref s_INTERBANK)])) (fun t k => ?_) ?_
          · refine XS.icmpNo X15.here hx rfl (hb hby at_67) rfl (flt hc19).2.2.1 ?_
            show Steps p.tables e below (T15.setTop (mkF m 70 #[.val (.int p0), .val (.int p1), .val (.int (p0 &&& (3 : Int32))), .val (.ref s_INTERBANK), .val (.int (10 : Int32)), .unset] [])) _
            refine XS.iconst X15.here hx rfl (hb hby at_70) ?_
            show Steps p.tables e below (T15.setTop (mkF m 71 #[.val (.int p0), .val (.int p1), .val (.int (p0 &&& (3 : Int32))), .val (.ref s_INTERBANK), .val (.int (10 : Int32)), .unset] [(.int (1 : Int32))])) _
            refine XS.goto X15.here hx rfl (pc0 := 71) (pc' := 75) rfl (hb hby at_71) (by decide) (by decide) ?_
            show Steps p.tables e below (T15.setTop (mkF m 75 #[.val (.int p0), .val (.int p1), .val (.int (p0 &&& (3 : Int32))), .val (.ref s_INTERBANK), .val (.int (10 : Int32)), .unset] [(.int (1 : Int32))])) _
            refine XS.istore X15.here hx rfl (hb hby at_75) rfl (l' := #[.val (.int p0), .val (.int p1), .val (.int (p0 &&& (3 : Int32))), .val (.ref s_INTERBANK), .val (.int (10 : Int32)), .val (.int (1 : Int32))]) rfl ?_
            show Steps p.tables e below (T15.setTop (mkF m 77 #[.val (.int p0), .val (.int p1), .val (.int (p0 &&& (3 : Int32))), .val (.ref s_INTERBANK), .val (.int (10 : Int32)), .val (.int (1 : Int32))] [])) _
            refine XS.aloadN X15.here hx rfl (hb hby at_77) rfl rfl ?_
            show Steps p.tables e below (T15.setTop (mkF m 78 #[.val (.int p0), .val (.int p1), .val (.int (p0 &&& (3 : Int32))), .val (.ref s_INTERBANK), .val (.int (10 : Int32)), .val (.int (1 : Int32))] [(.ref s_INTERBANK)])) _
            refine XS.iloadN X15.here hx rfl (hb hby at_78) rfl  ?_
            show Steps p.tables e below (T15.setTop (mkF m 79 #[.val (.int p0), .val (.int p1), .val (.int (p0 &&& (3 : Int32))), .val (.ref s_INTERBANK), .val (.int (10 : Int32)), .val (.int (1 : Int32))] [(.int p1), (.ref s_INTERBANK)])) _
            exact k
          obtain ⟨cq22, kq22, q22a, q22b, q22c⟩ := isOf hZ e15 (E_INTERBANK.ext O0.2)
          obtain ⟨_, _, ⟨T22, L22, k22, n22⟩, -, X22, ⟨Lc22, hQ22, l22, y22, z22⟩, st22⟩ := X15.virtualBack hx (y := (⟨"com/example/settlewire/settlewire/settlement/Order$Kind", "allows", "(I)Z"⟩ : MethodName)) (z := (⟨"com/example/settlewire/settlewire/settlement/Order$Kind", "allows", "(I)Z"⟩ : MethodName)) hown (mvT hZ (hw _ (List.mem_of_getElem? (i := 3) rfl))) (mvT hZ (hw _ (List.mem_of_getElem? (i := 4) rfl))) (notFace_of_selects (args := #[]) (mvT hZ (hw _ (List.mem_of_getElem? (i := 6) rfl)))) (mvT hZ (hw _ (List.mem_of_getElem? (i := 6) rfl))) (mvT hZ (hw _ (List.mem_of_getElem? (i := 5) rfl))) (by decide) (backOf (W := 0) (rm1 l Z a0 hw [] s_CUSTOMER s_TRANSFER s_INTERBANK s_SETTLEMENT_ORDER HW s_INTERBANK p1 (10 : Int32) h0 n0 O0 (F_INTERBANK_first.ext O0.2)) hZ (hw _ (List.mem_of_getElem? (i := 7) rfl)) (hw _ (List.mem_of_getElem? (i := 1) rfl)) (by decide) (by decide)) q22a q22c (g := (mkF m 79 #[.val (.int p0), .val (.int p1), .val (.int (p0 &&& (3 : Int32))), .val (.ref s_INTERBANK), .val (.int (10 : Int32)), .val (.int (1 : Int32))] [(.int p1), (.ref s_INTERBANK)])) rfl (by rw [hml]; rfl) (Steps.refl _) (argsL := [(.int p1)]) (rest := []) (lenOf own_pd11 rfl) rfl (by show 2 * 0 + _ ≤ _; exact Nat.le_of_eq rfl) (hb hby at_79) (fun _ _ => ⟨rfl, e15, (by decide : 0 + 0 ≤ _), (by decide : 0 + 0 ≤ _)⟩)
          dsimp only [Pt.U, Pt.locs, Pt.cells, Pt.slots] at X22 l22 y22 z22 st22 hQ22
          subst l22 y22 z22
          obtain ⟨rfl, N22q, e22⟩ := hQ22
          have N22 := Fr.app N0 N22q
          refine Go.st (V' := T22.setTop (mkF m 82 #[.val (.int p0), .val (.int p1), .val (.int (p0 &&& (3 : Int32))), .val (.ref s_INTERBANK), .val (.int (10 : Int32)), .val (.int (1 : Int32))] [(.int (f1 p1 (10 : Int32)))])) (fun t k => st22.trans k) ?_
          have r23 : (f1 p1 (10 : Int32)) = (1 : Int32) := by rw [f1, if_neg hc16, if_neg hc19]
          rw [r23]
          refine Go.st (V' := T22.setTop (mkF m 92 #[.val (.int p0), .val (.int p1), .val (.int (p0 &&& (3 : Int32))), .val (.ref s_INTERBANK), .val (.int (10 : Int32)), .val (.int (1 : Int32))] [(.int (1 : Int32))])) (fun t k => ?_) ?_
          · refine XS.iload X22.here hx rfl (hb hby at_82) rfl  ?_
            show Steps p.tables e below (T22.setTop (mkF m 84 #[.val (.int p0), .val (.int p1), .val (.int (p0 &&& (3 : Int32))), .val (.ref s_INTERBANK), .val (.int (10 : Int32)), .val (.int (1 : Int32))] [(.int (1 : Int32)), (.int (1 : Int32))])) _
            refine XS.icmpNo X22.here hx rfl (hb hby at_84) rfl (teq (by decide : ((1 : Int32) = (1 : Int32)))).2 ?_
            show Steps p.tables e below (T22.setTop (mkF m 87 #[.val (.int p0), .val (.int p1), .val (.int (p0 &&& (3 : Int32))), .val (.ref s_INTERBANK), .val (.int (10 : Int32)), .val (.int (1 : Int32))] [])) _
            refine XS.iconst X22.here hx rfl (hb hby at_87) ?_
            show Steps p.tables e below (T22.setTop (mkF m 88 #[.val (.int p0), .val (.int p1), .val (.int (p0 &&& (3 : Int32))), .val (.ref s_INTERBANK), .val (.int (10 : Int32)), .val (.int (1 : Int32))] [(.int (1 : Int32))])) _
            refine XS.goto X22.here hx rfl (pc0 := 88) (pc' := 92) rfl (hb hby at_88) (by decide) (by decide) ?_
            show Steps p.tables e below (T22.setTop (mkF m 92 #[.val (.int p0), .val (.int p1), .val (.int (p0 &&& (3 : Int32))), .val (.ref s_INTERBANK), .val (.int (10 : Int32)), .val (.int (1 : Int32))] [(.int (1 : Int32))])) _
            exact k
          obtain ⟨fs, hr, hrun, hended, hW, hsame⟩ := X22.leave (v := some (.int (1 : Int32))) (fun h => by rw [Bd.returns] at h; cases h)
          refine Go.mk' ⟨_, _, retN X22 hx (t := .boolean) Bd.returns (by simp) (hb hby at_92) hr, hrun, hended, _, _, rfl, ?_, ⟨_, rfl⟩, hW, hsame.mono (by decide) (by decide)⟩
          show Q0 Z p0 p1 h0 n0 _ T22.heap _
          rw [e22]
          exact ⟨rfl, N22⟩
    · refine Go.st (V' := s₁.setTop (mkF m 37 #[.val (.int p0), .val (.int p1), .val (.int (p0 &&& (3 : Int32))), .unset, .unset, .unset] [(.int (2 : Int32)), (.int (p0 &&& (3 : Int32)))])) (fun t k => ?_) ?_
      · refine XS.icmpYes X0.here hx rfl (pc0 := 21) (pc' := 35) rfl (hb hby at_21) rfl (feq hc14).2 (by decide) (by decide) ?_
        show Steps p.tables e below (s₁.setTop (mkF m 35 #[.val (.int p0), .val (.int p1), .val (.int (p0 &&& (3 : Int32))), .unset, .unset, .unset] [])) _
        refine XS.iloadN X0.here hx rfl (hb hby at_35) rfl  ?_
        show Steps p.tables e below (s₁.setTop (mkF m 36 #[.val (.int p0), .val (.int p1), .val (.int (p0 &&& (3 : Int32))), .unset, .unset, .unset] [(.int (p0 &&& (3 : Int32)))])) _
        refine XS.iconst X0.here hx rfl (hb hby at_36) ?_
        show Steps p.tables e below (s₁.setTop (mkF m 37 #[.val (.int p0), .val (.int p1), .val (.int (p0 &&& (3 : Int32))), .unset, .unset, .unset] [(.int (2 : Int32)), (.int (p0 &&& (3 : Int32)))])) _
        exact k
      by_cases hc24 : (p0 &&& (3 : Int32)) = (2 : Int32)
      · refine Go.st (V' := s₁.setTop (mkF m 40 #[.val (.int p0), .val (.int p1), .val (.int (p0 &&& (3 : Int32))), .unset, .unset, .unset] [])) (fun t k => ?_) ?_
        · refine XS.icmpNo X0.here hx rfl (hb hby at_37) rfl (teq hc24).2 ?_
          show Steps p.tables e below (s₁.setTop (mkF m 40 #[.val (.int p0), .val (.int p1), .val (.int (p0 &&& (3 : Int32))), .unset, .unset, .unset] [])) _
          exact k
        obtain ⟨T25, X25, e25, st25⟩ := getS2 X0 hx hZ hown (host := "") (Or.inl (hw _ (List.mem_of_getElem? (i := 10) rfl))) Via.refl e0 (S_TRANSFER.ext O0.2) (g := (mkF m 40 #[.val (.int p0), .val (.int p1), .val (.int (p0 &&& (3 : Int32))), .unset, .unset, .unset] [])) rfl (hb hby at_40)
        refine Go.st (V' := T25.setTop (mkF m 43 #[.val (.int p0), .val (.int p1), .val (.int (p0 &&& (3 : Int32))), .unset, .unset, .unset] [(.ref s_TRANSFER)])) (fun t k => st25 t k) ?_
        refine Go.st (V' := T25.setTop (mkF m 61 #[.val (.int p0), .val (.int p1), .val (.int (p0 &&& (3 : Int32))), .val (.ref s_TRANSFER), .val (.int (10 : Int32)), .unset] [(.int p1), (.int (10 : Int32))])) (fun t k => ?_) ?_
        · refine XS.astoreN X25.here hx rfl (hb hby at_43) rfl rfl (l' := #[.val (.int p0), .val (.int p1), .val (.int (p0 &&& (3 : Int32))), .val (.ref s_TRANSFER), .unset, .unset]) rfl ?_
          show Steps p.tables e below (T25.setTop (mkF m 44 #[.val (.int p0), .val (.int p1), .val (.int (p0 &&& (3 : Int32))), .val (.ref s_TRANSFER), .unset, .unset] [])) _
          refine XS.bipush X25.here hx rfl (hb hby at_44) ?_
          show Steps p.tables e below (T25.setTop (mkF m 46 #[.val (.int p0), .val (.int p1), .val (.int (p0 &&& (3 : Int32))), .val (.ref s_TRANSFER), .unset, .unset] [(.int (10 : Int32))])) _
          refine XS.istore X25.here hx rfl (hb hby at_46) rfl (l' := #[.val (.int p0), .val (.int p1), .val (.int (p0 &&& (3 : Int32))), .val (.ref s_TRANSFER), .val (.int (10 : Int32)), .unset]) rfl ?_
          show Steps p.tables e below (T25.setTop (mkF m 48 #[.val (.int p0), .val (.int p1), .val (.int (p0 &&& (3 : Int32))), .val (.ref s_TRANSFER), .val (.int (10 : Int32)), .unset] [])) _
          refine XS.goto X25.here hx rfl (pc0 := 48) (pc' := 58) rfl (hb hby at_48) (by decide) (by decide) ?_
          show Steps p.tables e below (T25.setTop (mkF m 58 #[.val (.int p0), .val (.int p1), .val (.int (p0 &&& (3 : Int32))), .val (.ref s_TRANSFER), .val (.int (10 : Int32)), .unset] [])) _
          refine XS.iload X25.here hx rfl (hb hby at_58) rfl  ?_
          show Steps p.tables e below (T25.setTop (mkF m 60 #[.val (.int p0), .val (.int p1), .val (.int (p0 &&& (3 : Int32))), .val (.ref s_TRANSFER), .val (.int (10 : Int32)), .unset] [(.int (10 : Int32))])) _
          refine XS.iloadN X25.here hx rfl (hb hby at_60) rfl  ?_
          show Steps p.tables e below (T25.setTop (mkF m 61 #[.val (.int p0), .val (.int p1), .val (.int (p0 &&& (3 : Int32))), .val (.ref s_TRANSFER), .val (.int (10 : Int32)), .unset] [(.int p1), (.int (10 : Int32))])) _
          exact k
        by_cases hc26 : p1 < (10 : Int32)
        · refine Go.st (V' := T25.setTop (mkF m 79 #[.val (.int p0), .val (.int p1), .val (.int (p0 &&& (3 : Int32))), .val (.ref s_TRANSFER), .val (.int (10 : Int32)), .val (.int (0 : Int32))] [(.int p1), (.ref s_TRANSFER)])) (fun t k => ?_) ?_
          · refine XS.icmpYes X25.here hx rfl (pc0 := 61) (pc' := 74) rfl (hb hby at_61) rfl (tlt hc26).2.2.1 (by decide) (by decide) ?_
            show Steps p.tables e below (T25.setTop (mkF m 74 #[.val (.int p0), .val (.int p1), .val (.int (p0 &&& (3 : Int32))), .val (.ref s_TRANSFER), .val (.int (10 : Int32)), .unset] [])) _
            refine XS.iconst X25.here hx rfl (hb hby at_74) ?_
            show Steps p.tables e below (T25.setTop (mkF m 75 #[.val (.int p0), .val (.int p1), .val (.int (p0 &&& (3 : Int32))), .val (.ref s_TRANSFER), .val (.int (10 : Int32)), .unset] [(.int (0 : Int32))])) _
            refine XS.istore X25.here hx rfl (hb hby at_75) rfl (l' := #[.val (.int p0), .val (.int p1), .val (.int (p0 &&& (3 : Int32))), .val (.ref s_TRANSFER), .val (.int (10 : Int32)), .val (.int (0 : Int32))]) rfl ?_
            show Steps p.tables e below (T25.setTop (mkF m 77 #[.val (.int p0), .val (.int p1), .val (.int (p0 &&& (3 : Int32))), .val (.ref s_TRANSFER), .val (.int (10 : Int32)), .val (.int (0 : Int32))] [])) _
            refine XS.aloadN X25.here hx rfl (hb hby at_77) rfl rfl ?_
            show Steps p.tables e below (T25.setTop (mkF m 78 #[.val (.int p0), .val (.int p1), .val (.int (p0 &&& (3 : Int32))), .val (.ref s_TRANSFER), .val (.int (10 : Int32)), .val (.int (0 : Int32))] [(.ref s_TRANSFER)])) _
            refine XS.iloadN X25.here hx rfl (hb hby at_78) rfl  ?_
            show Steps p.tables e below (T25.setTop (mkF m 79 #[.val (.int p0), .val (.int p1), .val (.int (p0 &&& (3 : Int32))), .val (.ref s_TRANSFER), .val (.int (10 : Int32)), .val (.int (0 : Int32))] [(.int p1), (.ref s_TRANSFER)])) _
            exact k
          obtain ⟨cq27, kq27, q27a, q27b, q27c⟩ := isOf hZ e25 (E_TRANSFER.ext O0.2)
          obtain ⟨_, _, ⟨T27, L27, k27, n27⟩, -, X27, ⟨Lc27, hQ27, l27, y27, z27⟩, st27⟩ := X25.virtualBack hx (y := (⟨"com/example/settlewire/settlewire/settlement/Order$Kind", "allows", "(I)Z"⟩ : MethodName)) (z := (⟨"com/example/settlewire/settlewire/settlement/Order$Kind", "allows", "(I)Z"⟩ : MethodName)) hown (mvT hZ (hw _ (List.mem_of_getElem? (i := 3) rfl))) (mvT hZ (hw _ (List.mem_of_getElem? (i := 4) rfl))) (notFace_of_selects (args := #[]) (mvT hZ (hw _ (List.mem_of_getElem? (i := 6) rfl)))) (mvT hZ (hw _ (List.mem_of_getElem? (i := 6) rfl))) (mvT hZ (hw _ (List.mem_of_getElem? (i := 5) rfl))) (by decide) (backOf (W := 0) (rm1 l Z a0 hw [] s_CUSTOMER s_TRANSFER s_INTERBANK s_SETTLEMENT_ORDER HW s_TRANSFER p1 (10 : Int32) h0 n0 O0 (F_TRANSFER_first.ext O0.2)) hZ (hw _ (List.mem_of_getElem? (i := 7) rfl)) (hw _ (List.mem_of_getElem? (i := 1) rfl)) (by decide) (by decide)) q27a q27c (g := (mkF m 79 #[.val (.int p0), .val (.int p1), .val (.int (p0 &&& (3 : Int32))), .val (.ref s_TRANSFER), .val (.int (10 : Int32)), .val (.int (0 : Int32))] [(.int p1), (.ref s_TRANSFER)])) rfl (by rw [hml]; rfl) (Steps.refl _) (argsL := [(.int p1)]) (rest := []) (lenOf own_pd11 rfl) rfl (by show 2 * 0 + _ ≤ _; exact Nat.le_of_eq rfl) (hb hby at_79) (fun _ _ => ⟨rfl, e25, (by decide : 0 + 0 ≤ _), (by decide : 0 + 0 ≤ _)⟩)
          dsimp only [Pt.U, Pt.locs, Pt.cells, Pt.slots] at X27 l27 y27 z27 st27 hQ27
          subst l27 y27 z27
          obtain ⟨rfl, N27q, e27⟩ := hQ27
          have N27 := Fr.app N0 N27q
          refine Go.st (V' := T27.setTop (mkF m 82 #[.val (.int p0), .val (.int p1), .val (.int (p0 &&& (3 : Int32))), .val (.ref s_TRANSFER), .val (.int (10 : Int32)), .val (.int (0 : Int32))] [(.int (f1 p1 (10 : Int32)))])) (fun t k => st27.trans k) ?_
          have r28 : (f1 p1 (10 : Int32)) = (0 : Int32) := by rw [f1, if_pos hc26]
          rw [r28]
          refine Go.st (V' := T27.setTop (mkF m 92 #[.val (.int p0), .val (.int p1), .val (.int (p0 &&& (3 : Int32))), .val (.ref s_TRANSFER), .val (.int (10 : Int32)), .val (.int (0 : Int32))] [(.int (1 : Int32))])) (fun t k => ?_) ?_
          · refine XS.iload X27.here hx rfl (hb hby at_82) rfl  ?_
            show Steps p.tables e below (T27.setTop (mkF m 84 #[.val (.int p0), .val (.int p1), .val (.int (p0 &&& (3 : Int32))), .val (.ref s_TRANSFER), .val (.int (10 : Int32)), .val (.int (0 : Int32))] [(.int (0 : Int32)), (.int (0 : Int32))])) _
            refine XS.icmpNo X27.here hx rfl (hb hby at_84) rfl (teq (by decide : ((0 : Int32) = (0 : Int32)))).2 ?_
            show Steps p.tables e below (T27.setTop (mkF m 87 #[.val (.int p0), .val (.int p1), .val (.int (p0 &&& (3 : Int32))), .val (.ref s_TRANSFER), .val (.int (10 : Int32)), .val (.int (0 : Int32))] [])) _
            refine XS.iconst X27.here hx rfl (hb hby at_87) ?_
            show Steps p.tables e below (T27.setTop (mkF m 88 #[.val (.int p0), .val (.int p1), .val (.int (p0 &&& (3 : Int32))), .val (.ref s_TRANSFER), .val (.int (10 : Int32)), .val (.int (0 : Int32))] [(.int (1 : Int32))])) _
            refine XS.goto X27.here hx rfl (pc0 := 88) (pc' := 92) rfl (hb hby at_88) (by decide) (by decide) ?_
            show Steps p.tables e below (T27.setTop (mkF m 92 #[.val (.int p0), .val (.int p1), .val (.int (p0 &&& (3 : Int32))), .val (.ref s_TRANSFER), .val (.int (10 : Int32)), .val (.int (0 : Int32))] [(.int (1 : Int32))])) _
            exact k
          obtain ⟨fs, hr, hrun, hended, hW, hsame⟩ := X27.leave (v := some (.int (1 : Int32))) (fun h => by rw [Bd.returns] at h; cases h)
          refine Go.mk' ⟨_, _, retN X27 hx (t := .boolean) Bd.returns (by simp) (hb hby at_92) hr, hrun, hended, _, _, rfl, ?_, ⟨_, rfl⟩, hW, hsame.mono (by decide) (by decide)⟩
          show Q0 Z p0 p1 h0 n0 _ T27.heap _
          rw [e27]
          exact ⟨rfl, N27⟩
        · refine Go.st (V' := T25.setTop (mkF m 67 #[.val (.int p0), .val (.int p1), .val (.int (p0 &&& (3 : Int32))), .val (.ref s_TRANSFER), .val (.int (10 : Int32)), .unset] [(.int (98 : Int32)), (.int p1)])) (fun t k => ?_) ?_
          · refine XS.icmpNo X25.here hx rfl (hb hby at_61) rfl (flt hc26).2.2.1 ?_
            show Steps p.tables e below (T25.setTop (mkF m 64 #[.val (.int p0), .val (.int p1), .val (.int (p0 &&& (3 : Int32))), .val (.ref s_TRANSFER), .val (.int (10 : Int32)), .unset] [])) _
            refine XS.iloadN X25.here hx rfl (hb hby at_64) rfl  ?_
            show Steps p.tables e below (T25.setTop (mkF m 65 #[.val (.int p0), .val (.int p1), .val (.int (p0 &&& (3 : Int32))), .val (.ref s_TRANSFER), .val (.int (10 : Int32)), .unset] [(.int p1)])) _
            refine XS.bipush X25.here hx rfl (hb hby at_65) ?_
            show Steps p.tables e below (T25.setTop (mkF m 67 #[.val (.int p0), .val (.int p1), .val (.int (p0 &&& (3 : Int32))), .val (.ref s_TRANSFER), .val (.int (10 : Int32)), .unset] [(.int (98 : Int32)), (.int p1)])) _
            exact k
          by_cases hc29 : (98 : Int32) < p1
          · refine Go.st (V' := T25.setTop (mkF m 79 #[.val (.int p0), .val (.int p1), .val (.int (p0 &&& (3 : Int32))), .val (.ref s_TRANSFER), .val (.int (10 : Int32)), .val (.int (0 : Int32))] [(.int p1), (.ref s_TRANSFER)])) (fun t k => ?_) ?_
            · refine XS.icmpYes X25.here hx rfl (pc0 := 67) (pc' := 74) rfl (hb hby at_67) rfl (tlt hc29).2.2.1 (by decide) (by decide) ?_
              show Steps p.tables e below (T25.setTop (mkF m 74 #[.val (.int p0), .val (.int p1), .val (.int (p0 &&& (3 : Int32))), .val (.ref s_TRANSFER), .val (.int (10 : Int32)), .unset] [])) _
              refine XS.iconst X25.here hx rfl (hb hby at_74) ?_
              show Steps p.tables e below (T25.setTop (mkF m 75 #[.val (.int p0), .val (.int p1), .val (.int (p0 &&& (3 : Int32))), .val (.ref s_TRANSFER), .val (.int (10 : Int32)), .unset] [(.int (0 : Int32))])) _
              refine XS.istore X25.here hx rfl (hb hby at_75) rfl (l' := #[.val (.int p0), .val (.int p1), .val (.int (p0 &&& (3 : Int32))), .val (.ref s_TRANSFER), .val (.int (10 : Int32)), .val (.int (0 : Int32))]) rfl ?_
              show Steps p.tables e below (T25.setTop (mkF m 77 #[.val (.int p0), .val (.int p1), .val (.int (p0 &&& (3 : Int32))), .val (.ref s_TRANSFER), .val (.int (10 : Int32)), .val (.int (0 : Int32))] [])) _
              refine XS.aloadN X25.here hx rfl (hb hby at_77) rfl rfl ?_
              show Steps p.tables e below (T25.setTop (mkF m 78 #[.val (.int p0), .val (.int p1), .val (.int (p0 &&& (3 : Int32))), .val (.ref s_TRANSFER), .val (.int (10 : Int32)), .val (.int (0 : Int32))] [(.ref s_TRANSFER)])) _
              refine XS.iloadN X25.here hx rfl (hb hby at_78) rfl  ?_
              show Steps p.tables e below (T25.setTop (mkF m 79 #[.val (.int p0), .val (.int p1), .val (.int (p0 &&& (3 : Int32))), .val (.ref s_TRANSFER), .val (.int (10 : Int32)), .val (.int (0 : Int32))] [(.int p1), (.ref s_TRANSFER)])) _
              exact k
            obtain ⟨cq30, kq30, q30a, q30b, q30c⟩ := isOf hZ e25 (E_TRANSFER.ext O0.2)
            obtain ⟨_, _, ⟨T30, L30, k30, n30⟩, -, X30, ⟨Lc30, hQ30, l30, y30, z30⟩, st30⟩ := X25.virtualBack hx (y := (⟨"com/example/settlewire/settlewire/settlement/Order$Kind", "allows", "(I)Z"⟩ : MethodName)) (z := (⟨"com/example/settlewire/settlewire/settlement/Order$Kind", "allows", "(I)Z"⟩ : MethodName)) hown (mvT hZ (hw _ (List.mem_of_getElem? (i := 3) rfl))) (mvT hZ (hw _ (List.mem_of_getElem? (i := 4) rfl))) (notFace_of_selects (args := #[]) (mvT hZ (hw _ (List.mem_of_getElem? (i := 6) rfl)))) (mvT hZ (hw _ (List.mem_of_getElem? (i := 6) rfl))) (mvT hZ (hw _ (List.mem_of_getElem? (i := 5) rfl))) (by decide) (backOf (W := 0) (rm1 l Z a0 hw [] s_CUSTOMER s_TRANSFER s_INTERBANK s_SETTLEMENT_ORDER HW s_TRANSFER p1 (10 : Int32) h0 n0 O0 (F_TRANSFER_first.ext O0.2)) hZ (hw _ (List.mem_of_getElem? (i := 7) rfl)) (hw _ (List.mem_of_getElem? (i := 1) rfl)) (by decide) (by decide)) q30a q30c (g := (mkF m 79 #[.val (.int p0), .val (.int p1), .val (.int (p0 &&& (3 : Int32))), .val (.ref s_TRANSFER), .val (.int (10 : Int32)), .val (.int (0 : Int32))] [(.int p1), (.ref s_TRANSFER)])) rfl (by rw [hml]; rfl) (Steps.refl _) (argsL := [(.int p1)]) (rest := []) (lenOf own_pd11 rfl) rfl (by show 2 * 0 + _ ≤ _; exact Nat.le_of_eq rfl) (hb hby at_79) (fun _ _ => ⟨rfl, e25, (by decide : 0 + 0 ≤ _), (by decide : 0 + 0 ≤ _)⟩)
            dsimp only [Pt.U, Pt.locs, Pt.cells, Pt.slots] at X30 l30 y30 z30 st30 hQ30
            subst l30 y30 z30
            obtain ⟨rfl, N30q, e30⟩ := hQ30
            have N30 := Fr.app N0 N30q
            refine Go.st (V' := T30.setTop (mkF m 82 #[.val (.int p0), .val (.int p1), .val (.int (p0 &&& (3 : Int32))), .val (.ref s_TRANSFER), .val (.int (10 : Int32)), .val (.int (0 : Int32))] [(.int (f1 p1 (10 : Int32)))])) (fun t k => st30.trans k) ?_
            have r31 : (f1 p1 (10 : Int32)) = (0 : Int32) := by rw [f1, if_neg hc26, if_pos hc29]
            rw [r31]
            refine Go.st (V' := T30.setTop (mkF m 92 #[.val (.int p0), .val (.int p1), .val (.int (p0 &&& (3 : Int32))), .val (.ref s_TRANSFER), .val (.int (10 : Int32)), .val (.int (0 : Int32))] [(.int (1 : Int32))])) (fun t k => ?_) ?_
            · refine XS.iload X30.here hx rfl (hb hby at_82) rfl  ?_
              show Steps p.tables e below (T30.setTop (mkF m 84 #[.val (.int p0), .val (.int p1), .val (.int (p0 &&& (3 : Int32))), .val (.ref s_TRANSFER), .val (.int (10 : Int32)), .val (.int (0 : Int32))] [(.int (0 : Int32)), (.int (0 : Int32))])) _
              refine XS.icmpNo X30.here hx rfl (hb hby at_84) rfl (teq (by decide : ((0 : Int32) = (0 : Int32)))).2 ?_
              show Steps p.tables e below (T30.setTop (mkF m 87 #[.val (.int p0), .val (.int p1), .val (.int (p0 &&& (3 : Int32))), .val (.ref s_TRANSFER), .val (.int (10 : Int32)), .val (.int (0 : Int32))] [])) _
              refine XS.iconst X30.here hx rfl (hb hby at_87) ?_
              show Steps p.tables e below (T30.setTop (mkF m 88 #[.val (.int p0), .val (.int p1), .val (.int (p0 &&& (3 : Int32))), .val (.ref s_TRANSFER), .val (.int (10 : Int32)), .val (.int (0 : Int32))] [(.int (1 : Int32))])) _
              refine XS.goto X30.here hx rfl (pc0 := 88) (pc' := 92) rfl (hb hby at_88) (by decide) (by decide) ?_
              show Steps p.tables e below (T30.setTop (mkF m 92 #[.val (.int p0), .val (.int p1), .val (.int (p0 &&& (3 : Int32))), .val (.ref s_TRANSFER), .val (.int (10 : Int32)), .val (.int (0 : Int32))] [(.int (1 : Int32))])) _
              exact k
            obtain ⟨fs, hr, hrun, hended, hW, hsame⟩ := X30.leave (v := some (.int (1 : Int32))) (fun h => by rw [Bd.returns] at h; cases h)
            refine Go.mk' ⟨_, _, retN X30 hx (t := .boolean) Bd.returns (by simp) (hb hby at_92) hr, hrun, hended, _, _, rfl, ?_, ⟨_, rfl⟩, hW, hsame.mono (by decide) (by decide)⟩
            show Q0 Z p0 p1 h0 n0 _ T30.heap _
            rw [e30]
            exact ⟨rfl, N30⟩
          · refine Go.st (V' := T25.setTop (mkF m 79 #[.val (.int p0), .val (.int p1), .val (.int (p0 &&& (3 : Int32))), .val (.ref s_TRANSFER), .val (.int (10 : Int32)), .val (.int (1 : Int32))] [(.int p1), (.ref s_TRANSFER)])) (fun t k => ?_) ?_
            · refine XS.icmpNo X25.here hx rfl (hb hby at_67) rfl (flt hc29).2.2.1 ?_
              show Steps p.tables e below (T25.setTop (mkF m 70 #[.val (.int p0), .val (.int p1), .val (.int (p0 &&& (3 : Int32))), .val (.ref s_TRANSFER), .val (.int (10 : Int32)), .unset] [])) _
              refine XS.iconst X25.here hx rfl (hb hby at_70) ?_
              show Steps p.tables e below (T25.setTop (mkF m 71 #[.val (.int p0), .val (.int p1), .val (.int (p0 &&& (3 : Int32))), .val (.ref s_TRANSFER), .val (.int (10 : Int32)), .unset] [(.int (1 : Int32))])) _
              refine XS.goto X25.here hx rfl (pc0 := 71) (pc' := 75) rfl (hb hby at_71) (by decide) (by decide) ?_
              show Steps p.tables e below (T25.setTop (mkF m 75 #[.val (.int p0), .val (.int p1), .val (.int (p0 &&& (3 : Int32))), .val (.ref s_TRANSFER), .val (.int (10 : Int32)), .unset] [(.int (1 : Int32))])) _
              refine XS.istore X25.here hx rfl (hb hby at_75) rfl (l' := #[.val (.int p0), .val (.int p1), .val (.int (p0 &&& (3 : Int32))), .val (.ref s_TRANSFER), .val (.int (10 : Int32)), .val (.int (1 : Int32))]) rfl ?_
              show Steps p.tables e below (T25.setTop (mkF m 77 #[.val (.int p0), .val (.int p1), .val (.int (p0 &&& (3 : Int32))), .val (.ref s_TRANSFER), .val (.int (10 : Int32)), .val (.int (1 : Int32))] [])) _
              refine XS.aloadN X25.here hx rfl (hb hby at_77) rfl rfl ?_
              show Steps p.tables e below (T25.setTop (mkF m 78 #[.val (.int p0), .val (.int p1), .val (.int (p0 &&& (3 : Int32))), .val (.ref s_TRANSFER), .val (.int (10 : Int32)), .val (.int (1 : Int32))] [(.ref s_TRANSFER)])) _
              refine XS.iloadN X25.here hx rfl (hb hby at_78) rfl  ?_
              show Steps p.tables e below (T25.setTop (mkF m 79 #[.val (.int p0), .val (.int p1), .val (.int (p0 &&& (3 : Int32))), .val (.ref s_TRANSFER), .val (.int (10 : Int32)), .val (.int (1 : Int32))] [(.int p1), (.ref s_TRANSFER)])) _
              exact k
            obtain ⟨cq32, kq32, q32a, q32b, q32c⟩ := isOf hZ e25 (E_TRANSFER.ext O0.2)
            obtain ⟨_, _, ⟨T32, L32, k32, n32⟩, -, X32, ⟨Lc32, hQ32, l32, y32, z32⟩, st32⟩ := X25.virtualBack hx (y := (⟨"com/example/settlewire/settlewire/settlement/Order$Kind", "allows", "(I)Z"⟩ : MethodName)) (z := (⟨"com/example/settlewire/settlewire/settlement/Order$Kind", "allows", "(I)Z"⟩ : MethodName)) hown (mvT hZ (hw _ (List.mem_of_getElem? (i := 3) rfl))) (mvT hZ (hw _ (List.mem_of_getElem? (i := 4) rfl))) (notFace_of_selects (args := #[]) (mvT hZ (hw _ (List.mem_of_getElem? (i := 6) rfl)))) (mvT hZ (hw _ (List.mem_of_getElem? (i := 6) rfl))) (mvT hZ (hw _ (List.mem_of_getElem? (i := 5) rfl))) (by decide) (backOf (W := 0) (rm1 l Z a0 hw [] s_CUSTOMER s_TRANSFER s_INTERBANK s_SETTLEMENT_ORDER HW s_TRANSFER p1 (10 : Int32) h0 n0 O0 (F_TRANSFER_first.ext O0.2)) hZ (hw _ (List.mem_of_getElem? (i := 7) rfl)) (hw _ (List.mem_of_getElem? (i := 1) rfl)) (by decide) (by decide)) q32a q32c (g := (mkF m 79 #[.val (.int p0), .val (.int p1), .val (.int (p0 &&& (3 : Int32))), .val (.ref s_TRANSFER), .val (.int (10 : Int32)), .val (.int (1 : Int32))] [(.int p1), (.ref s_TRANSFER)])) rfl (by rw [hml]; rfl) (Steps.refl _) (argsL := [(.int p1)]) (rest := []) (lenOf own_pd11 rfl) rfl (by show 2 * 0 + _ ≤ _; exact Nat.le_of_eq rfl) (hb hby at_79) (fun _ _ => ⟨rfl, e25, (by decide : 0 + 0 ≤ _), (by decide : 0 + 0 ≤ _)⟩)
            dsimp only [Pt.U, Pt.locs, Pt.cells, Pt.slots] at X32 l32 y32 z32 st32 hQ32
            subst l32 y32 z32
            obtain ⟨rfl, N32q, e32⟩ := hQ32
            have N32 := Fr.app N0 N32q
            refine Go.st (V' := T32.setTop (mkF m 82 #[.val (.int p0), .val (.int p1), .val (.int (p0 &&& (3 : Int32))), .val (.ref s_TRANSFER), .val (.int (10 : Int32)), .val (.int (1 : Int32))] [(.int (f1 p1 (10 : Int32)))])) (fun t k => st32.trans k) ?_
            have r33 : (f1 p1 (10 : Int32)) = (1 : Int32) := by rw [f1, if_neg hc26, if_neg hc29]
            rw [r33]
            refine Go.st (V' := T32.setTop (mkF m 92 #[.val (.int p0), .val (.int p1), .val (.int (p0 &&& (3 : Int32))), .val (.ref s_TRANSFER), .val (.int (10 : Int32)), .val (.int (1 : Int32))] [(.int (1 : Int32))])) (fun t k => ?_) ?_
            · refine XS.iload X32.here hx rfl (hb hby at_82) rfl  ?_
              show Steps p.tables e below (T32.setTop (mkF m 84 #[.val (.int p0), .val (.int p1), .val (.int (p0 &&& (3 : Int32))), .val (.ref s_TRANSFER), .val (.int (10 : Int32)), .val (.int (1 : Int32))] [(.int (1 : Int32)), (.int (1 : Int32))])) _
              refine XS.icmpNo X32.here hx rfl (hb hby at_84) rfl (teq (by decide : ((1 : Int32) = (1 : Int32)))).2 ?_
              show Steps p.tables e below (T32.setTop (mkF m 87 #[.val (.int p0), .val (.int p1), .val (.int (p0 &&& (3 : Int32))), .val (.ref s_TRANSFER), .val (.int (10 : Int32)), .val (.int (1 : Int32))] [])) _
              refine XS.iconst X32.here hx rfl (hb hby at_87) ?_
              show Steps p.tables e below (T32.setTop (mkF m 88 #[.val (.int p0), .val (.int p1), .val (.int (p0 &&& (3 : Int32))), .val (.ref s_TRANSFER), .val (.int (10 : Int32)), .val (.int (1 : Int32))] [(.int (1 : Int32))])) _
              refine XS.goto X32.here hx rfl (pc0 := 88) (pc' := 92) rfl (hb hby at_88) (by decide) (by decide) ?_
              show Steps p.tables e below (T32.setTop (mkF m 92 #[.val (.int p0), .val (.int p1), .val (.int (p0 &&& (3 : Int32))), .val (.ref s_TRANSFER), .val (.int (10 : Int32)), .val (.int (1 : Int32))] [(.int (1 : Int32))])) _
              exact k
            obtain ⟨fs, hr, hrun, hended, hW, hsame⟩ := X32.leave (v := some (.int (1 : Int32))) (fun h => by rw [Bd.returns] at h; cases h)
            refine Go.mk' ⟨_, _, retN X32 hx (t := .boolean) Bd.returns (by simp) (hb hby at_92) hr, hrun, hended, _, _, rfl, ?_, ⟨_, rfl⟩, hW, hsame.mono (by decide) (by decide)⟩
            show Q0 Z p0 p1 h0 n0 _ T32.heap _
            rw [e32]
            exact ⟨rfl, N32⟩
      · refine Go.st (V' := s₁.setTop (mkF m 51 #[.val (.int p0), .val (.int p1), .val (.int (p0 &&& (3 : Int32))), .unset, .unset, .unset] [])) (fun t k => ?_) ?_
        · refine XS.icmpYes X0.here hx rfl (pc0 := 37) (pc' := 51) rfl (hb hby at_37) rfl (feq hc24).2 (by decide) (by decide) ?_
          show Steps p.tables e below (s₁.setTop (mkF m 51 #[.val (.int p0), .val (.int p1), .val (.int (p0 &&& (3 : Int32))), .unset, .unset, .unset] [])) _
          exact k
        obtain ⟨T34, X34, e34, st34⟩ := getS2 X0 hx hZ hown (host := "") (Or.inl (hw _ (List.mem_of_getElem? (i := 14) rfl))) Via.refl e0 (S_SETTLEMENT_ORDER.ext O0.2) (g := (mkF m 51 #[.val (.int p0), .val (.int p1), .val (.int (p0 &&& (3 : Int32))), .unset, .unset, .unset] [])) rfl (hb hby at_51)
        refine Go.st (V' := T34.setTop (mkF m 54 #[.val (.int p0), .val (.int p1), .val (.int (p0 &&& (3 : Int32))), .unset, .unset, .unset] [(.ref s_SETTLEMENT_ORDER)])) (fun t k => st34 t k) ?_
        refine Go.st (V' := T34.setTop (mkF m 61 #[.val (.int p0), .val (.int p1), .val (.int (p0 &&& (3 : Int32))), .val (.ref s_SETTLEMENT_ORDER), .val (.int (1 : Int32)), .unset] [(.int p1), (.int (1 : Int32))])) (fun t k => ?_) ?_
        · refine XS.astoreN X34.here hx rfl (hb hby at_54) rfl rfl (l' := #[.val (.int p0), .val (.int p1), .val (.int (p0 &&& (3 : Int32))), .val (.ref s_SETTLEMENT_ORDER), .unset, .unset]) rfl ?_
          show Steps p.tables e below (T34.setTop (mkF m 55 #[.val (.int p0), .val (.int p1), .val (.int (p0 &&& (3 : Int32))), .val (.ref s_SETTLEMENT_ORDER), .unset, .unset] [])) _
          refine XS.iconst X34.here hx rfl (hb hby at_55) ?_
          show Steps p.tables e below (T34.setTop (mkF m 56 #[.val (.int p0), .val (.int p1), .val (.int (p0 &&& (3 : Int32))), .val (.ref s_SETTLEMENT_ORDER), .unset, .unset] [(.int (1 : Int32))])) _
          refine XS.istore X34.here hx rfl (hb hby at_56) rfl (l' := #[.val (.int p0), .val (.int p1), .val (.int (p0 &&& (3 : Int32))), .val (.ref s_SETTLEMENT_ORDER), .val (.int (1 : Int32)), .unset]) rfl ?_
          show Steps p.tables e below (T34.setTop (mkF m 58 #[.val (.int p0), .val (.int p1), .val (.int (p0 &&& (3 : Int32))), .val (.ref s_SETTLEMENT_ORDER), .val (.int (1 : Int32)), .unset] [])) _
          refine XS.iload X34.here hx rfl (hb hby at_58) rfl  ?_
          show Steps p.tables e below (T34.setTop (mkF m 60 #[.val (.int p0), .val (.int p1), .val (.int (p0 &&& (3 : Int32))), .val (.ref s_SETTLEMENT_ORDER), .val (.int (1 : Int32)), .unset] [(.int (1 : Int32))])) _
          refine XS.iloadN X34.here hx rfl (hb hby at_60) rfl  ?_
          show Steps p.tables e below (T34.setTop (mkF m 61 #[.val (.int p0), .val (.int p1), .val (.int (p0 &&& (3 : Int32))), .val (.ref s_SETTLEMENT_ORDER), .val (.int (1 : Int32)), .unset] [(.int p1), (.int (1 : Int32))])) _
          exact k
        by_cases hc35 : p1 < (1 : Int32)
        · refine Go.st (V' := T34.setTop (mkF m 79 #[.val (.int p0), .val (.int p1), .val (.int (p0 &&& (3 : Int32))), .val (.ref s_SETTLEMENT_ORDER), .val (.int (1 : Int32)), .val (.int (0 : Int32))] [(.int p1), (.ref s_SETTLEMENT_ORDER)])) (fun t k => ?_) ?_
          · refine XS.icmpYes X34.here hx rfl (pc0 := 61) (pc' := 74) rfl (hb hby at_61) rfl (tlt hc35).2.2.1 (by decide) (by decide) ?_
            show Steps p.tables e below (T34.setTop (mkF m 74 #[.val (.int p0), .val (.int p1), .val (.int (p0 &&& (3 : Int32))), .val (.ref s_SETTLEMENT_ORDER), .val (.int (1 : Int32)), .unset] [])) _
            refine XS.iconst X34.here hx rfl (hb hby at_74) ?_
            show Steps p.tables e below (T34.setTop (mkF m 75 #[.val (.int p0), .val (.int p1), .val (.int (p0 &&& (3 : Int32))), .val (.ref s_SETTLEMENT_ORDER), .val (.int (1 : Int32)), .unset] [(.int (0 : Int32))])) _
            refine XS.istore X34.here hx rfl (hb hby at_75) rfl (l' := #[.val (.int p0), .val (.int p1), .val (.int (p0 &&& (3 : Int32))), .val (.ref s_SETTLEMENT_ORDER), .val (.int (1 : Int32)), .val (.int (0 : Int32))]) rfl ?_
            show Steps p.tables e below (T34.setTop (mkF m 77 #[.val (.int p0), .val (.int p1), .val (.int (p0 &&& (3 : Int32))), .val (.ref s_SETTLEMENT_ORDER), .val (.int (1 : Int32)), .val (.int (0 : Int32))] [])) _
            refine XS.aloadN X34.here hx rfl (hb hby at_77) rfl rfl ?_
            show Steps p.tables e below (T34.setTop (mkF m 78 #[.val (.int p0), .val (.int p1), .val (.int (p0 &&& (3 : Int32))), .val (.ref s_SETTLEMENT_ORDER), .val (.int (1 : Int32)), .val (.int (0 : Int32))] [(.ref s_SETTLEMENT_ORDER)])) _
            refine XS.iloadN X34.here hx rfl (hb hby at_78) rfl  ?_
            show Steps p.tables e below (T34.setTop (mkF m 79 #[.val (.int p0), .val (.int p1), .val (.int (p0 &&& (3 : Int32))), .val (.ref s_SETTLEMENT_ORDER), .val (.int (1 : Int32)), .val (.int (0 : Int32))] [(.int p1), (.ref s_SETTLEMENT_ORDER)])) _
            exact k
          obtain ⟨cq36, kq36, q36a, q36b, q36c⟩ := isOf hZ e34 (E_SETTLEMENT_ORDER.ext O0.2)
          obtain ⟨_, _, ⟨T36, L36, k36, n36⟩, -, X36, ⟨Lc36, hQ36, l36, y36, z36⟩, st36⟩ := X34.virtualBack hx (y := (⟨"com/example/settlewire/settlewire/settlement/Order$Kind", "allows", "(I)Z"⟩ : MethodName)) (z := (⟨"com/example/settlewire/settlewire/settlement/Order$Kind", "allows", "(I)Z"⟩ : MethodName)) hown (mvT hZ (hw _ (List.mem_of_getElem? (i := 3) rfl))) (mvT hZ (hw _ (List.mem_of_getElem? (i := 4) rfl))) (notFace_of_selects (args := #[]) (mvT hZ (hw _ (List.mem_of_getElem? (i := 6) rfl)))) (mvT hZ (hw _ (List.mem_of_getElem? (i := 6) rfl))) (mvT hZ (hw _ (List.mem_of_getElem? (i := 5) rfl))) (by decide) (backOf (W := 0) (rm1 l Z a0 hw [] s_CUSTOMER s_TRANSFER s_INTERBANK s_SETTLEMENT_ORDER HW s_SETTLEMENT_ORDER p1 (1 : Int32) h0 n0 O0 (F_SETTLEMENT_ORDER_first.ext O0.2)) hZ (hw _ (List.mem_of_getElem? (i := 7) rfl)) (hw _ (List.mem_of_getElem? (i := 1) rfl)) (by decide) (by decide)) q36a q36c (g := (mkF m 79 #[.val (.int p0), .val (.int p1), .val (.int (p0 &&& (3 : Int32))), .val (.ref s_SETTLEMENT_ORDER), .val (.int (1 : Int32)), .val (.int (0 : Int32))] [(.int p1), (.ref s_SETTLEMENT_ORDER)])) rfl (by rw [hml]; rfl) (Steps.refl _) (argsL := [(.int p1)]) (rest := []) (lenOf own_pd11 rfl) rfl (by show 2 * 0 + _ ≤ _; exact Nat.le_of_eq rfl) (hb hby at_79) (fun _ _ => ⟨rfl, e34, (by decide : 0 + 0 ≤ _), (by decide : 0 + 0 ≤ _)⟩)
          dsimp only [Pt.U, Pt.locs, Pt.cells, Pt.slots] at X36 l36 y36 z36 st36 hQ36
          subst l36 y36 z36
          obtain ⟨rfl, N36q, e36⟩ := hQ36
          have N36 := Fr.app N0 N36q
          refine Go.st (V' := T36.setTop (mkF m 82 #[.val (.int p0), .val (.int p1), .val (.int (p0 &&& (3 : Int32))), .val (.ref s_SETTLEMENT_ORDER), .val (.int (1 : Int32)), .val (.int (0 : Int32))] [(.int (f1 p1 (1 : Int32)))])) (fun t k => st36.trans k) ?_
          have r37 : (f1 p1 (1 : Int32)) = (0 : Int32) := by rw [f1, if_pos hc35]
          rw [r37]
          refine Go.st (V' := T36.setTop (mkF m 92 #[.val (.int p0), .val (.int p1), .val (.int (p0 &&& (3 : Int32))), .val (.ref s_SETTLEMENT_ORDER), .val (.int (1 : Int32)), .val (.int (0 : Int32))] [(.int (1 : Int32))])) (fun t k => ?_) ?_
          · refine XS.iload X36.here hx rfl (hb hby at_82) rfl  ?_
            show Steps p.tables e below (T36.setTop (mkF m 84 #[.val (.int p0), .val (.int p1), .val (.int (p0 &&& (3 : Int32))), .val (.ref s_SETTLEMENT_ORDER), .val (.int (1 : Int32)), .val (.int (0 : Int32))] [(.int (0 : Int32)), (.int (0 : Int32))])) _
            refine XS.icmpNo X36.here hx rfl (hb hby at_84) rfl (teq (by decide : ((0 : Int32) = (0 : Int32)))).2 ?_
            show Steps p.tables e below (T36.setTop (mkF m 87 #[.val (.int p0), .val (.int p1), .val (.int (p0 &&& (3 : Int32))), .val (.ref s_SETTLEMENT_ORDER), .val (.int (1 : Int32)), .val (.int (0 : Int32))] [])) _
            refine XS.iconst X36.here hx rfl (hb hby at_87) ?_
            show Steps p.tables e below (T36.setTop (mkF m 88 #[.val (.int p0), .val (.int p1), .val (.int (p0 &&& (3 : Int32))), .val (.ref s_SETTLEMENT_ORDER), .val (.int (1 : Int32)), .val (.int (0 : Int32))] [(.int (1 : Int32))])) _
            refine XS.goto X36.here hx rfl (pc0 := 88) (pc' := 92) rfl (hb hby at_88) (by decide) (by decide) ?_
            show Steps p.tables e below (T36.setTop (mkF m 92 #[.val (.int p0), .val (.int p1), .val (.int (p0 &&& (3 : Int32))), .val (.ref s_SETTLEMENT_ORDER), .val (.int (1 : Int32)), .val (.int (0 : Int32))] [(.int (1 : Int32))])) _
            exact k
          obtain ⟨fs, hr, hrun, hended, hW, hsame⟩ := X36.leave (v := some (.int (1 : Int32))) (fun h => by rw [Bd.returns] at h; cases h)
          refine Go.mk' ⟨_, _, retN X36 hx (t := .boolean) Bd.returns (by simp) (hb hby at_92) hr, hrun, hended, _, _, rfl, ?_, ⟨_, rfl⟩, hW, hsame.mono (by decide) (by decide)⟩
          show Q0 Z p0 p1 h0 n0 _ T36.heap _
          rw [e36]
          exact ⟨rfl, N36⟩
        · refine Go.st (V' := T34.setTop (mkF m 67 #[.val (.int p0), .val (.int p1), .val (.int (p0 &&& (3 : Int32))), .val (.ref s_SETTLEMENT_ORDER), .val (.int (1 : Int32)), .unset] [(.int (98 : Int32)), (.int p1)])) (fun t k => ?_) ?_
          · refine XS.icmpNo X34.here hx rfl (hb hby at_61) rfl (flt hc35).2.2.1 ?_
            show Steps p.tables e below (T34.setTop (mkF m 64 #[.val (.int p0), .val (.int p1), .val (.int (p0 &&& (3 : Int32))), .val (.ref s_SETTLEMENT_ORDER), .val (.int (1 : Int32)), .unset] [])) _
            refine XS.iloadN X34.here hx rfl (hb hby at_64) rfl  ?_
            show Steps p.tables e below (T34.setTop (mkF m 65 #[.val (.int p0), .val (.int p1), .val (.int (p0 &&& (3 : Int32))), .val (.ref s_SETTLEMENT_ORDER), .val (.int (1 : Int32)), .unset] [(.int p1)])) _
            refine XS.bipush X34.here hx rfl (hb hby at_65) ?_
            show Steps p.tables e below (T34.setTop (mkF m 67 #[.val (.int p0), .val (.int p1), .val (.int (p0 &&& (3 : Int32))), .val (.ref s_SETTLEMENT_ORDER), .val (.int (1 : Int32)), .unset] [(.int (98 : Int32)), (.int p1)])) _
            exact k
          by_cases hc38 : (98 : Int32) < p1
          · refine Go.st (V' := T34.setTop (mkF m 79 #[.val (.int p0), .val (.int p1), .val (.int (p0 &&& (3 : Int32))), .val (.ref s_SETTLEMENT_ORDER), .val (.int (1 : Int32)), .val (.int (0 : Int32))] [(.int p1), (.ref s_SETTLEMENT_ORDER)])) (fun t k => ?_) ?_
            · refine XS.icmpYes X34.here hx rfl (pc0 := 67) (pc' := 74) rfl (hb hby at_67) rfl (tlt hc38).2.2.1 (by decide) (by decide) ?_
              show Steps p.tables e below (T34.setTop (mkF m 74 #[.val (.int p0), .val (.int p1), .val (.int (p0 &&& (3 : Int32))), .val (.ref s_SETTLEMENT_ORDER), .val (.int (1 : Int32)), .unset] [])) _
              refine XS.iconst X34.here hx rfl (hb hby at_74) ?_
              show Steps p.tables e below (T34.setTop (mkF m 75 #[.val (.int p0), .val (.int p1), .val (.int (p0 &&& (3 : Int32))), .val (.ref s_SETTLEMENT_ORDER), .val (.int (1 : Int32)), .unset] [(.int (0 : Int32))])) _
              refine XS.istore X34.here hx rfl (hb hby at_75) rfl (l' := #[.val (.int p0), .val (.int p1), .val (.int (p0 &&& (3 : Int32))), .val (.ref s_SETTLEMENT_ORDER), .val (.int (1 : Int32)), .val (.int (0 : Int32))]) rfl ?_
              show Steps p.tables e below (T34.setTop (mkF m 77 #[.val (.int p0), .val (.int p1), .val (.int (p0 &&& (3 : Int32))), .val (.ref s_SETTLEMENT_ORDER), .val (.int (1 : Int32)), .val (.int (0 : Int32))] [])) _
              refine XS.aloadN X34.here hx rfl (hb hby at_77) rfl rfl ?_
              show Steps p.tables e below (T34.setTop (mkF m 78 #[.val (.int p0), .val (.int p1), .val (.int (p0 &&& (3 : Int32))), .val (.ref s_SETTLEMENT_ORDER), .val (.int (1 : Int32)), .val (.int (0 : Int32))] [(.ref s_SETTLEMENT_ORDER)])) _
              refine XS.iloadN X34.here hx rfl (hb hby at_78) rfl  ?_
              show Steps p.tables e below (T34.setTop (mkF m 79 #[.val (.int p0), .val (.int p1), .val (.int (p0 &&& (3 : Int32))), .val (.ref s_SETTLEMENT_ORDER), .val (.int (1 : Int32)), .val (.int (0 : Int32))] [(.int p1), (.ref s_SETTLEMENT_ORDER)])) _
              exact k
            obtain ⟨cq39, kq39, q39a, q39b, q39c⟩ := isOf hZ e34 (E_SETTLEMENT_ORDER.ext O0.2)
            obtain ⟨_, _, ⟨T39, L39, k39, n39⟩, -, X39, ⟨Lc39, hQ39, l39, y39, z39⟩, st39⟩ := X34.virtualBack hx (y := (⟨"com/example/settlewire/settlewire/settlement/Order$Kind", "allows", "(I)Z"⟩ : MethodName)) (z := (⟨"com/example/settlewire/settlewire/settlement/Order$Kind", "allows", "(I)Z"⟩ : MethodName)) hown (mvT hZ (hw _ (List.mem_of_getElem? (i := 3) rfl))) (mvT hZ (hw _ (List.mem_of_getElem? (i := 4) rfl))) (notFace_of_selects (args := #[]) (mvT hZ (hw _ (List.mem_of_getElem? (i := 6) rfl)))) (mvT hZ (hw _ (List.mem_of_getElem? (i := 6) rfl))) (mvT hZ (hw _ (List.mem_of_getElem? (i := 5) rfl))) (by decide) (backOf (W := 0) (rm1 l Z a0 hw [] s_CUSTOMER s_TRANSFER s_INTERBANK s_SETTLEMENT_ORDER HW s_SETTLEMENT_ORDER p1 (1 : Int32) h0 n0 O0 (F_SETTLEMENT_ORDER_first.ext O0.2)) hZ (hw _ (List.mem_of_getElem? (i := 7) rfl)) (hw _ (List.mem_of_getElem? (i := 1) rfl)) (by decide) (by decide)) q39a q39c (g := (mkF m 79 #[.val (.int p0), .val (.int p1), .val (.int (p0 &&& (3 : Int32))), .val (.ref s_SETTLEMENT_ORDER), .val (.int (1 : Int32)), .val (.int (0 : Int32))] [(.int p1), (.ref s_SETTLEMENT_ORDER)])) rfl (by rw [hml]; rfl) (Steps.refl _) (argsL := [(.int p1)]) (rest := []) (lenOf own_pd11 rfl) rfl (by show 2 * 0 + _ ≤ _; exact Nat.le_of_eq rfl) (hb hby at_79) (fun _ _ => ⟨rfl, e34, (by decide : 0 + 0 ≤ _), (by decide : 0 + 0 ≤ _)⟩)
            dsimp only [Pt.U, Pt.locs, Pt.cells, Pt.slots] at X39 l39 y39 z39 st39 hQ39
            subst l39 y39 z39
            obtain ⟨rfl, N39q, e39⟩ := hQ39
            have N39 := Fr.app N0 N39q
            refine Go.st (V' := T39.setTop (mkF m 82 #[.val (.int p0), .val (.int p1), .val (.int (p0 &&& (3 : Int32))), .val (.ref s_SETTLEMENT_ORDER), .val (.int (1 : Int32)), .val (.int (0 : Int32))] [(.int (f1 p1 (1 : Int32)))])) (fun t k => st39.trans k) ?_
            have r40 : (f1 p1 (1 : Int32)) = (0 : Int32) := by rw [f1, if_neg hc35, if_pos hc38]
            rw [r40]
            refine Go.st (V' := T39.setTop (mkF m 92 #[.val (.int p0), .val (.int p1), .val (.int (p0 &&& (3 : Int32))), .val (.ref s_SETTLEMENT_ORDER), .val (.int (1 : Int32)), .val (.int (0 : Int32))] [(.int (1 : Int32))])) (fun t k => ?_) ?_
            · refine XS.iload X39.here hx rfl (hb hby at_82) rfl  ?_
              show Steps p.tables e below (T39.setTop (mkF m 84 #[.val (.int p0), .val (.int p1), .val (.int (p0 &&& (3 : Int32))), .val (.ref s_SETTLEMENT_ORDER), .val (.int (1 : Int32)), .val (.int (0 : Int32))] [(.int (0 : Int32)), (.int (0 : Int32))])) _
              refine XS.icmpNo X39.here hx rfl (hb hby at_84) rfl (teq (by decide : ((0 : Int32) = (0 : Int32)))).2 ?_
              show Steps p.tables e below (T39.setTop (mkF m 87 #[.val (.int p0), .val (.int p1), .val (.int (p0 &&& (3 : Int32))), .val (.ref s_SETTLEMENT_ORDER), .val (.int (1 : Int32)), .val (.int (0 : Int32))] [])) _
              refine XS.iconst X39.here hx rfl (hb hby at_87) ?_
              show Steps p.tables e below (T39.setTop (mkF m 88 #[.val (.int p0), .val (.int p1), .val (.int (p0 &&& (3 : Int32))), .val (.ref s_SETTLEMENT_ORDER), .val (.int (1 : Int32)), .val (.int (0 : Int32))] [(.int (1 : Int32))])) _
              refine XS.goto X39.here hx rfl (pc0 := 88) (pc' := 92) rfl (hb hby at_88) (by decide) (by decide) ?_
              show Steps p.tables e below (T39.setTop (mkF m 92 #[.val (.int p0), .val (.int p1), .val (.int (p0 &&& (3 : Int32))), .val (.ref s_SETTLEMENT_ORDER), .val (.int (1 : Int32)), .val (.int (0 : Int32))] [(.int (1 : Int32))])) _
              exact k
            obtain ⟨fs, hr, hrun, hended, hW, hsame⟩ := X39.leave (v := some (.int (1 : Int32))) (fun h => by rw [Bd.returns] at h; cases h)
            refine Go.mk' ⟨_, _, retN X39 hx (t := .boolean) Bd.returns (by simp) (hb hby at_92) hr, hrun, hended, _, _, rfl, ?_, ⟨_, rfl⟩, hW, hsame.mono (by decide) (by decide)⟩
            show Q0 Z p0 p1 h0 n0 _ T39.heap _
            rw [e39]
            exact ⟨rfl, N39⟩
          · refine Go.st (V' := T34.setTop (mkF m 79 #[.val (.int p0), .val (.int p1), .val (.int (p0 &&& (3 : Int32))), .val (.ref s_SETTLEMENT_ORDER), .val (.int (1 : Int32)), .val (.int (1 : Int32))] [(.int p1), (.ref s_SETTLEMENT_ORDER)])) (fun t k => ?_) ?_
            · refine XS.icmpNo X34.here hx rfl (hb hby at_67) rfl (flt hc38).2.2.1 ?_
              show Steps p.tables e below (T34.setTop (mkF m 70 #[.val (.int p0), .val (.int p1), .val (.int (p0 &&& (3 : Int32))), .val (.ref s_SETTLEMENT_ORDER), .val (.int (1 : Int32)), .unset] [])) _
              refine XS.iconst X34.here hx rfl (hb hby at_70) ?_
              show Steps p.tables e below (T34.setTop (mkF m 71 #[.val (.int p0), .val (.int p1), .val (.int (p0 &&& (3 : Int32))), .val (.ref s_SETTLEMENT_ORDER), .val (.int (1 : Int32)), .unset] [(.int (1 : Int32))])) _
              refine XS.goto X34.here hx rfl (pc0 := 71) (pc' := 75) rfl (hb hby at_71) (by decide) (by decide) ?_
              show Steps p.tables e below (T34.setTop (mkF m 75 #[.val (.int p0), .val (.int p1), .val (.int (p0 &&& (3 : Int32))), .val (.ref s_SETTLEMENT_ORDER), .val (.int (1 : Int32)), .unset] [(.int (1 : Int32))])) _
              refine XS.istore X34.here hx rfl (hb hby at_75) rfl (l' := #[.val (.int p0), .val (.int p1), .val (.int (p0 &&& (3 : Int32))), .val (.ref s_SETTLEMENT_ORDER), .val (.int (1 : Int32)), .val (.int (1 : Int32))]) rfl ?_
              show Steps p.tables e below (T34.setTop (mkF m 77 #[.val (.int p0), .val (.int p1), .val (.int (p0 &&& (3 : Int32))), .val (.ref s_SETTLEMENT_ORDER), .val (.int (1 : Int32)), .val (.int (1 : Int32))] [])) _
              refine XS.aloadN X34.here hx rfl (hb hby at_77) rfl rfl ?_
              show Steps p.tables e below (T34.setTop (mkF m 78 #[.val (.int p0), .val (.int p1), .val (.int (p0 &&& (3 : Int32))), .val (.ref s_SETTLEMENT_ORDER), .val (.int (1 : Int32)), .val (.int (1 : Int32))] [(.ref s_SETTLEMENT_ORDER)])) _
              refine XS.iloadN X34.here hx rfl (hb hby at_78) rfl  ?_
              show Steps p.tables e below (T34.setTop (mkF m 79 #[.val (.int p0), .val (.int p1), .val (.int (p0 &&& (3 : Int32))), .val (.ref s_SETTLEMENT_ORDER), .val (.int (1 : Int32)), .val (.int (1 : Int32))] [(.int p1), (.ref s_SETTLEMENT_ORDER)])) _
              exact k
            obtain ⟨cq41, kq41, q41a, q41b, q41c⟩ := isOf hZ e34 (E_SETTLEMENT_ORDER.ext O0.2)
            obtain ⟨_, _, ⟨T41, L41, k41, n41⟩, -, X41, ⟨Lc41, hQ41, l41, y41, z41⟩, st41⟩ := X34.virtualBack hx (y := (⟨"com/example/settlewire/settlewire/settlement/Order$Kind", "allows", "(I)Z"⟩ : MethodName)) (z := (⟨"com/example/settlewire/settlewire/settlement/Order$Kind", "allows", "(I)Z"⟩ : MethodName)) hown (mvT hZ (hw _ (List.mem_of_getElem? (i := 3) rfl))) (mvT hZ (hw _ (List.mem_of_getElem? (i := 4) rfl))) (notFace_of_selects (args := #[]) (mvT hZ (hw _ (List.mem_of_getElem? (i := 6) rfl)))) (mvT hZ (hw _ (List.mem_of_getElem? (i := 6) rfl))) (mvT hZ (hw _ (List.mem_of_getElem? (i := 5) rfl))) (by decide) (backOf (W := 0) (rm1 l Z a0 hw [] s_CUSTOMER s_TRANSFER s_INTERBANK s_SETTLEMENT_ORDER HW s_SETTLEMENT_ORDER p1 (1 : Int32) h0 n0 O0 (F_SETTLEMENT_ORDER_first.ext O0.2)) hZ (hw _ (List.mem_of_getElem? (i := 7) rfl)) (hw _ (List.mem_of_getElem? (i := 1) rfl)) (by decide) (by decide)) q41a q41c (g := (mkF m 79 #[.val (.int p0), .val (.int p1), .val (.int (p0 &&& (3 : Int32))), .val (.ref s_SETTLEMENT_ORDER), .val (.int (1 : Int32)), .val (.int (1 : Int32))] [(.int p1), (.ref s_SETTLEMENT_ORDER)])) rfl (by rw [hml]; rfl) (Steps.refl _) (argsL := [(.int p1)]) (rest := []) (lenOf own_pd11 rfl) rfl (by show 2 * 0 + _ ≤ _; exact Nat.le_of_eq rfl) (hb hby at_79) (fun _ _ => ⟨rfl, e34, (by decide : 0 + 0 ≤ _), (by decide : 0 + 0 ≤ _)⟩)
            dsimp only [Pt.U, Pt.locs, Pt.cells, Pt.slots] at X41 l41 y41 z41 st41 hQ41
            subst l41 y41 z41
            obtain ⟨rfl, N41q, e41⟩ := hQ41
            have N41 := Fr.app N0 N41q
            refine Go.st (V' := T41.setTop (mkF m 82 #[.val (.int p0), .val (.int p1), .val (.int (p0 &&& (3 : Int32))), .val (.ref s_SETTLEMENT_ORDER), .val (.int (1 : Int32)), .val (.int (1 : Int32))] [(.int (f1 p1 (1 : Int32)))])) (fun t k => st41.trans k) ?_
            have r42 : (f1 p1 (1 : Int32)) = (1 : Int32) := by rw [f1, if_neg hc35, if_neg hc38]
            rw [r42]
            refine Go.st (V' := T41.setTop (mkF m 92 #[.val (.int p0), .val (.int p1), .val (.int (p0 &&& (3 : Int32))), .val (.ref s_SETTLEMENT_ORDER), .val (.int (1 : Int32)), .val (.int (1 : Int32))] [(.int (1 : Int32))])) (fun t k => ?_) ?_
            · refine XS.iload X41.here hx rfl (hb hby at_82) rfl  ?_
              show Steps p.tables e below (T41.setTop (mkF m 84 #[.val (.int p0), .val (.int p1), .val (.int (p0 &&& (3 : Int32))), .val (.ref s_SETTLEMENT_ORDER), .val (.int (1 : Int32)), .val (.int (1 : Int32))] [(.int (1 : Int32)), (.int (1 : Int32))])) _
              refine XS.icmpNo X41.here hx rfl (hb hby at_84) rfl (teq (by decide : ((1 : Int32) = (1 : Int32)))).2 ?_
              show Steps p.tables e below (T41.setTop (mkF m 87 #[.val (.int p0), .val (.int p1), .val (.int (p0 &&& (3 : Int32))), .val (.ref s_SETTLEMENT_ORDER), .val (.int (1 : Int32)), .val (.int (1 : Int32))] [])) _
              refine XS.iconst X41.here hx rfl (hb hby at_87) ?_
              show Steps p.tables e below (T41.setTop (mkF m 88 #[.val (.int p0), .val (.int p1), .val (.int (p0 &&& (3 : Int32))), .val (.ref s_SETTLEMENT_ORDER), .val (.int (1 : Int32)), .val (.int (1 : Int32))] [(.int (1 : Int32))])) _
              refine XS.goto X41.here hx rfl (pc0 := 88) (pc' := 92) rfl (hb hby at_88) (by decide) (by decide) ?_
              show Steps p.tables e below (T41.setTop (mkF m 92 #[.val (.int p0), .val (.int p1), .val (.int (p0 &&& (3 : Int32))), .val (.ref s_SETTLEMENT_ORDER), .val (.int (1 : Int32)), .val (.int (1 : Int32))] [(.int (1 : Int32))])) _
              exact k
            obtain ⟨fs, hr, hrun, hended, hW, hsame⟩ := X41.leave (v := some (.int (1 : Int32))) (fun h => by rw [Bd.returns] at h; cases h)
            refine Go.mk' ⟨_, _, retN X41 hx (t := .boolean) Bd.returns (by simp) (hb hby at_92) hr, hrun, hended, _, _, rfl, ?_, ⟨_, rfl⟩, hW, hsame.mono (by decide) (by decide)⟩
            show Q0 Z p0 p1 h0 n0 _ T41.heap _
            rw [e41]
            exact ⟨rfl, N41⟩
set_option maxRecDepth 65536 in
set_option maxHeartbeats 40000000 in
theorem comes_1 {Post : Tables → Env → Array Value → State → Outcome → State → Prop} (hpost : ∀ tb e args s v u, (limb_1_1.after args s (.returned v) u = true ∧ limb_1_2.after args s (.returned v) u = true ∧ True) → FrameEnd s (.returned v) u (Jvm.fieldLocs frame_1_writes args s ++ Jvm.arrayLocs frame_1_arrays args s ++ Jvm.staticLocs frame_1_statics s) 0 0 → Post tb e args s (.returned v) u) :
    ArmFor flags0 classFile x code maxLocals ret World_1 tables_1 room_1 Calls_1 rest_1 Pre_1 Post := by
  intro l hfl _ _ p e ha hc hk s m args below hf hA hF happ hP
  obtain ⟨hcalls, hrest, hpre⟩ := hP
  obtain ⟨-, -, -, hnamed, -, -, -, hat⟩ := (Spec.applies_iff hf).mp happ
  obtain ⟨hg, hn⟩ := and_e (Cond.before_iff.mp (show (Jvm.Cond.and given_1 narrow_1).before args s = true from hpre))
  obtain ⟨gg0, hg⟩ := and_e hg
  obtain ⟨gg1, hg⟩ := and_e hg
  have gg2 := hg
  obtain ⟨w0, w1, rfl⟩ : ∃ w0 w1 : Value, args = #[w0, w1] := by
    have hs : args.size = 2 := by simpa [Cond.value, given_1] using gg0
    obtain ⟨L⟩ := args
    match L, hs with
    | [w0, w1], _ => exact ⟨w0, w1, rfl⟩
  have hw := fun d (hd : d ∈ tables_1) => atoms_spec (ws := Jvm.Cond.code x code maxLocals ret :: tables_1) hat d (List.mem_cons_of_mem _ hd)
  have hfit : Fit s := fun {y c} hc i hi => by
    obtain ⟨ha, rfl⟩ := Array.getElem?_eq_some_iff.mp hc
    have q := List.all_eq_true.mp ((Array.all_eq_true_iff_forall_mem.mp hF) _ (Array.getElem_mem ha)) i (List.mem_range.mpr hi)
    simpa [Array.getElem?_eq_getElem hi] using q
  obtain ⟨i0, ei0⟩ := is_v gg1
  obtain rfl : w0 = (.int i0) := Option.some.inj ei0
  obtain ⟨i1, ei1⟩ := is_v gg2
  obtain rfl : w1 = (.int i1) := Option.some.inj ei1
  obtain ⟨c0, hn⟩ := and_e hn
  obtain ⟨c1, hn⟩ := and_e hn
  obtain ⟨c2, hn⟩ := and_e hn
  obtain ⟨c3, hn⟩ := and_e hn
  obtain ⟨c4, hn⟩ := and_e hn
  obtain ⟨c5, hn⟩ := and_e hn
  obtain ⟨c6, hn⟩ := and_e hn
  have c7 := hn
  obtain ⟨s_CUSTOMER, ev_CUSTOMER⟩ := exa_v c0
  have E_CUSTOMER := Exa.start ev_CUSTOMER c0
  have S_CUSTOMER := Sta.start ev_CUSTOMER (Or.inr ⟨(hw _ (List.mem_of_getElem? (i := 1) rfl)), (hw _ (List.mem_of_getElem? (i := 2) rfl))⟩)
  obtain ⟨s_TRANSFER, ev_TRANSFER⟩ := exa_v c2
  have E_TRANSFER := Exa.start ev_TRANSFER c2
  have S_TRANSFER := Sta.start ev_TRANSFER (Or.inr ⟨(hw _ (List.mem_of_getElem? (i := 1) rfl)), (hw _ (List.mem_of_getElem? (i := 11) rfl))⟩)
  obtain ⟨s_INTERBANK, ev_INTERBANK⟩ := exa_v c4
  have E_INTERBANK := Exa.start ev_INTERBANK c4
  have S_INTERBANK := Sta.start ev_INTERBANK (Or.inr ⟨(hw _ (List.mem_of_getElem? (i := 1) rfl)), (hw _ (List.mem_of_getElem? (i := 13) rfl))⟩)
  obtain ⟨s_SETTLEMENT_ORDER, ev_SETTLEMENT_ORDER⟩ := exa_v c6
  have E_SETTLEMENT_ORDER := Exa.start ev_SETTLEMENT_ORDER c6
  have S_SETTLEMENT_ORDER := Sta.start ev_SETTLEMENT_ORDER (Or.inr ⟨(hw _ (List.mem_of_getElem? (i := 1) rfl)), (hw _ (List.mem_of_getElem? (i := 15) rfl))⟩)
  have F_CUSTOMER_first := Fld.start ((fld_at ev_CUSTOMER).symm.trans (eqv_i (Term.int_eval _) c1))
  have F_TRANSFER_first := Fld.start ((fld_at ev_TRANSFER).symm.trans (eqv_i (Term.int_eval _) c3))
  have F_INTERBANK_first := Fld.start ((fld_at ev_INTERBANK).symm.trans (eqv_i (Term.int_eval _) c5))
  have F_SETTLEMENT_ORDER_first := Fld.start ((fld_at ev_SETTLEMENT_ORDER).symm.trans (eqv_i (Term.int_eval _) c7))
  obtain ⟨n, o, h1, h2, h3, _, L, rfl, ⟨rfl, N⟩, hq⟩ := rm0 l s _ hw tables_1 s_CUSTOMER s_TRANSFER s_INTERBANK s_SETTLEMENT_ORDER (show W0 s s_CUSTOMER s_TRANSFER s_INTERBANK s_SETTLEMENT_ORDER from ⟨E_CUSTOMER, S_CUSTOMER, E_TRANSFER, S_TRANSFER, E_INTERBANK, S_INTERBANK, E_SETTLEMENT_ORDER, S_SETTLEMENT_ORDER, F_CUSTOMER_first, F_TRANSFER_first, F_INTERBANK_first, F_SETTLEMENT_ORDER_first⟩) i0 i1 s.heap s.heap.size (Old.start s) p e ha hc hk s m _ below hf ((Spec.applies_iff_loose hf).mp happ).1 ⟨rfl, State.Warmed39.refl s, rfl⟩ trivial
  refine ⟨n, _, h1, h2, h3, hpost _ _ _ _ _ _ ⟨Cond.after_iff.mpr rfl, Cond.after_iff.mpr (eq_i res_at (Term.int_eval (1)) rfl), trivial⟩ ⟨hq.1, hq.2.1, (hq.2.2.sift fun y hy => Or.inr (N y hy)).mono (by decide) (by decide)⟩⟩
theorem main_1_1 : Claimed_1_1 := comes_1 fun _ _ _ _ _ _ h hF => ⟨h.1, hF⟩
theorem main_1_2 : Claimed_1_2 := comes_1 fun _ _ _ _ _ _ h hF => ⟨h.2.1, hF⟩
end Jvm.Pilot.@@N@@
namespace Jvm.Pilot.@@N@@
open Jvm Jvm.ClassFile Sem Op Lib Jvm.Free Jvm.Stand Jvm.Pilot.@@N@@.Jvm.D
/-! MADE BY PROGRAM (witnessworld.py) out of the Statement's table words and the real class files: 12 classes; the members and pool entries that the words name. The judged class is class 1, her method 1. -/
namespace start1
open Jvm.ClassFile
def u (s : String) : CpInfo := .utf8 (stringToUtf16 s)
/-- a pool by its gaps: so many unusable entries, then the entry; so many at the end -/
def gap : Nat → List CpInfo → List CpInfo
  | 0, r => r
  | n + 1, r => .unusable :: gap n r
def poolList (es : List (Nat × CpInfo)) (last : Nat) : List CpInfo := es.foldr (fun e r => gap e.1 (e.2 :: r)) (gap last [])
def pool (es : List (Nat × CpInfo)) (last : Nat) : Array CpInfo := ⟨poolList es last⟩
def fileOf (pool : Array CpInfo) (this : Nat) (attrs : Array Attribute := #[]) (ms : Array MethodInfo := #[]) (fl : Nat := 33) (sup : Nat := 0) (ifs : Array Nat := #[]) (fds : Array FieldInfo := #[]) : ClassFile where
  minorVersion := 0
  majorVersion := 65
  constantPool := pool
  accessFlags := fl
  thisClass := this
  superClass := sup
  interfaces := ifs
  fields := fds
  methods := ms
  attributes := attrs
def plain (name : String) (sup : Option ClassId) : Class where
  name := name
  kind := .ordinary
  loader := none
  accessFlags := 33
  super := sup
  interfaces := #[]
  cf := none
  fields := #[]
  methods := #[]
  instanceTypes := #[]
  staticTypes := #[]
  resolved := #[]
  callSites := []
  init := .initialized
  statics := none
  mirror := none

def pool0 : Array CpInfo := pool [(5, u "<init>"), (0, u "()V"), (1, .class_ 10), (1, u "java/lang/Object")] 113

def k0m0 : Method := { name := "<init>", desc := "()V", sig := { parameters := [], returnType := none }, accessFlags := 1, code := none }
/-- java/lang/Object -/
def k0 : Class := { plain "java/lang/Object" none with
  accessFlags := 33
  interfaces := #[]
  cf := some (fileOf pool0 8 #[] #[{ accessFlags := 1, nameIndex := 5, descriptorIndex := 6, attributes := #[] }] 33 0 #[] #[])
  fields := #[]
  methods := #[k0m0]
  instanceTypes := #[]
  staticTypes := #[]
  resolved := Array.replicate 124 none
  statics := none }

def pool1 : Array CpInfo := pool [(2, .class_ 4), (1, u "java/lang/Object"), (0, u "<init>"), (0, u "()V"), (0, .fieldref 8 9), (0, .class_ 10), (0, .nameAndType 11 12), (0, u "com/example/settlewire/settlewire/settlement/Order$Kind"), (0, u "CUSTOMER"), (0, u "Lcom/example/settlewire/settlewire/settlement/Order$Kind;"), (0, .fieldref 8 14), (0, .nameAndType 15 12), (0, u "INTERBANK"), (0, .fieldref 8 17), (0, .nameAndType 18 12), (0, u "TRANSFER"), (0, .fieldref 8 20), (0, .nameAndType 21 12), (0, u "SETTLEMENT_ORDER"), (0, .methodref 8 23), (0, .nameAndType 24 25), (0, u "allows"), (0, u "(I)Z"), (0, .class_ 27), (0, u "com/example/settlewire/settlewire/settlement/KindAllowsPinLaw"), (2, u "law"), (0, u "(II)Z")] 7

def k1m0 : Method := { name := "<init>", desc := "()V", sig := { parameters := [], returnType := none }, accessFlags := 1, code := none }
def k1c1 : Code := { maxStack := 2, maxLocals := 6, code := code, exceptionTable := #[], attributes := #[] }
def k1m1 : Method := { name := "law", desc := "(II)Z", sig := { parameters := [.int, .int], returnType := some .boolean }, accessFlags := 9, code := some k1c1 }
/-- com/example/settlewire/settlewire/settlement/KindAllowsPinLaw -/
def k1 : Class := { plain "com/example/settlewire/settlewire/settlement/KindAllowsPinLaw" (some 0) with
  accessFlags := 49
  interfaces := #[]
  cf := some (fileOf pool1 26 #[] #[{ accessFlags := 1, nameIndex := 5, descriptorIndex := 6, attributes := #[] }, { accessFlags := 9, nameIndex := 30, descriptorIndex := 31, attributes := #[] }] 49 2 #[] #[])
  fields := #[]
  methods := #[k1m0, k1m1]
  instanceTypes := #[]
  staticTypes := #[]
  resolved := Array.replicate 39 none
  statics := none }

def pool2 : Array CpInfo := pool [(1, .class_ 2), (0, u "java/lang/constant/Constable"), (0, .class_ 4), (0, u "java/lang/Object")] 6

/-- java/lang/constant/Constable -/
def k2 : Class := { plain "java/lang/constant/Constable" (some 0) with
  accessFlags := 1537
  interfaces := #[]
  cf := some (fileOf pool2 1 #[] #[] 1537 3 #[] #[])
  fields := #[]
  methods := #[]
  instanceTypes := #[]
  staticTypes := #[]
  resolved := Array.replicate 11 none
  statics := none }

def pool3 : Array CpInfo := pool [(1, .class_ 2), (0, u "java/lang/Comparable"), (0, .class_ 4), (0, u "java/lang/Object")] 7

/-- java/lang/Comparable -/
def k3 : Class := { plain "java/lang/Comparable" (some 0) with
  accessFlags := 1537
  interfaces := #[]
  cf := some (fileOf pool3 1 #[] #[] 1537 3 #[] #[])
  fields := #[]
  methods := #[]
  instanceTypes := #[]
  staticTypes := #[]
  resolved := Array.replicate 12 none
  statics := none }

def pool4 : Array CpInfo := pool [(1, .class_ 2), (0, u "java/io/Serializable"), (0, .class_ 4), (0, u "java/lang/Object")] 2

/-- java/io/Serializable -/
def k4 : Class := { plain "java/io/Serializable" (some 0) with
  accessFlags := 1537
  interfaces := #[]
  cf := some (fileOf pool4 1 #[] #[] 1537 3 #[] #[])
  fields := #[]
  methods := #[]
  instanceTypes := #[]
  staticTypes := #[]
  resolved := Array.replicate 7 none
  statics := none }

def pool5 : Array CpInfo := pool [(2, .class_ 4), (1, u "java/lang/Enum"), (0, u "name"), (0, u "Ljava/lang/String;"), (2, u "ordinal"), (0, u "I"), (1, .class_ 14), (1, u "java/lang/Object"), (4, u "hash"), (86, .class_ 108), (1, u "java/lang/Enum$EnumDesc"), (2, .class_ 112), (0, u "java/lang/constant/Constable"), (0, .class_ 114), (0, u "java/lang/Comparable"), (0, .class_ 116), (0, u "java/io/Serializable")] 87

/-- java/lang/Enum -/
def k5 : Class := { plain "java/lang/Enum" (some 0) with
  accessFlags := 1057
  interfaces := #[2, 3, 4]
  cf := some (fileOf pool5 2 #[.nestMembers #[106]] #[] 1057 12 #[111, 113, 115] #[{ accessFlags := 18, nameIndex := 5, descriptorIndex := 6, attributes := #[] }, { accessFlags := 18, nameIndex := 9, descriptorIndex := 10, attributes := #[] }, { accessFlags := 2, nameIndex := 19, descriptorIndex := 10, attributes := #[] }])
  fields := #[{ name := "name", type := (.object "java/lang/String"), accessFlags := 18, slot := 0, constantValue := 0 }, { name := "ordinal", type := .int, accessFlags := 18, slot := 1, constantValue := 0 }, { name := "hash", type := .int, accessFlags := 2, slot := 2, constantValue := 0 }]
  methods := #[]
  instanceTypes := #[(.object "java/lang/String"), .int, .int]
  staticTypes := #[]
  resolved := Array.replicate 204 none
  statics := none }

def pool6 : Array CpInfo := pool [(1, .class_ 2), (0, u "com/example/settlewire/settlewire/settlement/Order"), (0, .class_ 4), (0, u "com/example/settlewire/settlewire/settlement/Order$Kind"), (2, u "CUSTOMER"), (0, u "Lcom/example/settlewire/settlewire/settlement/Order$Kind;"), (2, u "INTERBANK"), (2, u "TRANSFER"), (2, u "SETTLEMENT_ORDER"), (2, u "$VALUES"), (0, u "[Lcom/example/settlewire/settlewire/settlement/Order$Kind;"), (6, .class_ 30), (1, u "java/lang/Enum"), (6, .fieldref 3 38), (0, .nameAndType 39 40), (0, u "first"), (0, u "I"), (18, u "allows"), (0, u "(I)Z")] 9

def k6c0 : Code := { maxStack := 2, maxLocals := 2, code := prog_100_method_4_code, exceptionTable := #[], attributes := #[] }
def k6m0 : Method := { name := "allows", desc := "(I)Z", sig := { parameters := [.int], returnType := some .boolean }, accessFlags := 1, code := some k6c0 }
/-- com/example/settlewire/settlewire/settlement/Order$Kind -/
def k6 : Class := { plain "com/example/settlewire/settlewire/settlement/Order$Kind" (some 5) with
  accessFlags := 16433
  interfaces := #[]
  cf := some (fileOf pool6 3 #[.nestHost 1] #[{ accessFlags := 1, nameIndex := 59, descriptorIndex := 60, attributes := #[] }] 16433 28 #[] #[{ accessFlags := 16409, nameIndex := 7, descriptorIndex := 8, attributes := #[] }, { accessFlags := 16409, nameIndex := 11, descriptorIndex := 8, attributes := #[] }, { accessFlags := 16409, nameIndex := 14, descriptorIndex := 8, attributes := #[] }, { accessFlags := 16409, nameIndex := 17, descriptorIndex := 8, attributes := #[] }, { accessFlags := 18, nameIndex := 39, descriptorIndex := 40, attributes := #[] }, { accessFlags := 4122, nameIndex := 20, descriptorIndex := 21, attributes := #[] }])
  fields := #[{ name := "CUSTOMER", type := (.object "com/example/settlewire/settlewire/settlement/Order$Kind"), accessFlags := 16409, slot := 0, constantValue := 0 }, { name := "INTERBANK", type := (.object "com/example/settlewire/settlewire/settlement/Order$Kind"), accessFlags := 16409, slot := 1, constantValue := 0 }, { name := "TRANSFER", type := (.object "com/example/settlewire/settlewire/settlement/Order$Kind"), accessFlags := 16409, slot := 2, constantValue := 0 }, { name := "SETTLEMENT_ORDER", type := (.object "com/example/settlewire/settlewire/settlement/Order$Kind"), accessFlags := 16409, slot := 3, constantValue := 0 }, { name := "first", type := .int, accessFlags := 18, slot := 3, constantValue := 0 }, { name := "$VALUES", type := (.array (.object "com/example/settlewire/settlewire/settlement/Order$Kind")), accessFlags := 4122, slot := 4, constantValue := 0 }]
  methods := #[k6m0]
  instanceTypes := #[(.object "java/lang/String"), .int, .int, .int]
  staticTypes := #[(.object "com/example/settlewire/settlewire/settlement/Order$Kind"), (.object "com/example/settlewire/settlewire/settlement/Order$Kind"), (.object "com/example/settlewire/settlewire/settlement/Order$Kind"), (.object "com/example/settlewire/settlewire/settlement/Order$Kind"), (.array (.object "com/example/settlewire/settlewire/settlement/Order$Kind"))]
  resolved := Array.replicate 70 none
  statics := some 0 }

def pool7 : Array CpInfo := pool [(1, u "java/lang/Cloneable"), (0, .class_ 1), (0, u "java/lang/Object"), (0, .class_ 3)] 3

/-- java/lang/Cloneable -/
def k7 : Class := { plain "java/lang/Cloneable" (some 0) with
  accessFlags := 1537
  interfaces := #[]
  cf := some (fileOf pool7 2 #[] #[] 1537 4 #[] #[])
  fields := #[]
  methods := #[]
  instanceTypes := #[]
  staticTypes := #[]
  resolved := Array.replicate 8 none
  statics := none }

/-- the primitive byte -/
def k8 : Class := { plain "byte" none with kind := .primitive 'B', accessFlags := 0x411 }
/-- [B -/
def k9 : Class := { plain "[B" (some 0) with kind := .array 8 .byte, interfaces := #[7, 4], accessFlags := 1041 }

/-- the primitive int -/
def k10 : Class := { plain "int" none with kind := .primitive 'I', accessFlags := 0x411 }
/-- [I -/
def k11 : Class := { plain "[I" (some 0) with kind := .array 10 .int, interfaces := #[7, 4], accessFlags := 1041 }

def heap : Heap := #[{ cls := 6, slots := #[.ref 1, .ref 3, .ref 2, .ref 4, .null], vm := .statics 6 },
  { cls := 6, slots := #[.null, .int 0, .int 0, .int 10], vm := .none },
  { cls := 6, slots := #[.null, .int 0, .int 0, .int 10], vm := .none },
  { cls := 6, slots := #[.null, .int 0, .int 0, .int 10], vm := .none },
  { cls := 6, slots := #[.null, .int 0, .int 0, .int 1], vm := .none }]
def classes : Array Class := #[k0, k1, k2, k3, k4, k5, k6, k7, k8, k9, k10, k11]
def interned : List (Array UInt16 × Addr) := []
def slotsUsed : Nat := 21
def theMethod : MethodId := ⟨1, 1⟩
def args0 : Array Value := #[.int 5, .int 50]
def aboutOver (below : List Frame) : State where
  vm := { classes := classes, interned := interned.toArray }
  heap := heap
  slotsUsed := slotsUsed
  threads := #[{ frames := .invoking theMethod args0 :: below }]
def below0 : List Frame := [.native { method := ⟨0, 0⟩, args := #[] }]
def about1 : State := aboutOver below0
def p0 : Program := .bare "" "" ""
def e0 : Env := launch0.env 0 0 0
theorem w_frames : about1.frames = Frame.invoking theMethod args0 :: below0 := rfl
set_option maxRecDepth 65536 in
theorem w_args : argsFit about1.vm theMethod args0 = true := by decide +kernel
set_option maxRecDepth 65536 in
theorem w_heap : heapFits about1 = true := by decide +kernel
set_option maxRecDepth 65536 in
theorem w_runnable : about1.curStatus? = some .runnable := by decide +kernel
set_option maxRecDepth 65536 in
theorem w_alone : about1.alone = true := by decide +kernel
set_option maxRecDepth 65536 in
theorem w_named : about1.methodNamed? x = some theMethod := by decide +kernel
set_option maxRecDepth 65536 in
theorem w_hears : about1.hears theMethod below0 = true := by decide +kernel
set_option maxRecDepth 65536 in
theorem w_ripe : about1.ripe theMethod args0 below0 = true := by decide +kernel
theorem w_running : about1.status = .running := rfl
set_option maxRecDepth 65536 in
theorem w_room : about1.hasRoom e0.platform room_1 = true :=
  launch0.hasRoom_least _ room_1 (by decide +kernel) (by decide +kernel) (by decide +kernel) (by decide +kernel) (by decide +kernel) (by decide +kernel)
theorem allAtoms_all (ts : List Jvm.Cond) (a : Array Jvm.Value) (st : Jvm.State) : (allAtoms ts).before a st = ts.all (fun c => c.before a st) := by
  induction ts with
  | nil => rfl
  | cons c t ih =>
    show (Jvm.Cond.and c (allAtoms t)).before a st = _
    rw [Jvm.Cond.before_and, ih, List.all_cons]
def words1 : List Jvm.Cond := Jvm.Cond.code x code maxLocals ret :: tables_1
/-- a 'code' word, met by the world's own term for the bytes: nothing is compared byte by byte -/
theorem code_word {y : MethodName} {bytes : ByteArray} {mx : Nat} {rt : Option FieldType} {a : Array Value} {s : State} {m : MethodId} {meth : Method} {c : Code} (h1 : s.methodNamed? y = some m) (h2 : s.vm.method? m = some meth) (h3 : meth.code = some c) (h4 : c.code = bytes)
    (h5 : (c.maxLocals == mx && c.exceptionTable.isEmpty && decide (c.maxStack ≤ mostOperands) && decide (meth.sig.returnType = rt) && !meth.locks && decide (parseMethodDescriptor y.desc = some meth.sig)) = true) : (Jvm.Cond.code y bytes mx rt).before a s = true := by
  simp only [Bool.and_eq_true, beq_iff_eq, Bool.not_eq_true', decide_eq_true_eq] at h5
  obtain ⟨⟨⟨⟨⟨g1, g2⟩, g3⟩, g4⟩, g5⟩, g6⟩ := h5
  simp [Cond.before, Cond.holds, Cond.value, h1, h2, h3, h4, g1, g2, g3, g4, g5, g6]
def isCode : Jvm.Cond → Bool
  | .code _ _ _ _ => true
  | _ => false
theorem all_split {L : List Jvm.Cond} {P : Jvm.Cond → Bool} (h1 : L.all (fun c => isCode c || P c) = true) (h2 : ∀ c ∈ L.filter isCode, P c = true) : L.all P = true := by
  refine List.all_eq_true.mpr fun c hc => ?_
  have h := List.all_eq_true.mp h1 c hc
  rcases Bool.eq_false_or_eq_true (isCode c) with hi | hi
  · exact h2 c (List.mem_filter.mpr ⟨hc, hi⟩)
  · simpa [hi] using h
set_option maxRecDepth 65536 in
theorem w_c0 : (Jvm.Cond.code x code maxLocals ret).before args0 about1 = true := code_word (m := ⟨1, 1⟩) (meth := k1m1) (c := k1c1) (by decide +kernel) rfl rfl rfl (by decide +kernel)
set_option maxRecDepth 65536 in
theorem w_c1 : (Jvm.Cond.code ({ cls := "com/example/settlewire/settlewire/settlement/Order$Kind", name := "allows", desc := "(I)Z" } : Jvm.MethodName) prog_100_method_4_code (2 : Nat) (Option.some Jvm.ClassFile.FieldType.boolean)).before args0 about1 = true := code_word (m := ⟨6, 0⟩) (meth := k6m0) (c := k6c0) (by decide +kernel) rfl rfl rfl (by decide +kernel)
def codes1 : List Jvm.Cond := [Jvm.Cond.code x code maxLocals ret, Jvm.Cond.code ({ cls := "com/example/settlewire/settlewire/settlement/Order$Kind", name := "allows", desc := "(I)Z" } : Jvm.MethodName) prog_100_method_4_code (2 : Nat) (Option.some Jvm.ClassFile.FieldType.boolean)]
set_option maxRecDepth 65536 in
theorem codes_eq : words1.filter isCode = codes1 := rfl
theorem w_codes : ∀ c ∈ words1.filter isCode, c.before args0 about1 = true := by
  rw [codes_eq]
  intro c hc
  simp only [codes1, List.mem_cons, List.not_mem_nil, or_false] at hc
  rcases hc with rfl | rfl
  · exact w_c0
  · exact w_c1
set_option maxRecDepth 65536 in
theorem w_t1 : words1.all (fun c => isCode c || c.before args0 about1) = true := by decide +kernel
theorem w_tables : (allAtoms (Jvm.Cond.code x code maxLocals ret :: tables_1)).before args0 about1 = true := by
  rw [allAtoms_all]
  show words1.all (fun c => c.before args0 about1) = true
  refine all_split ?_ w_codes
  rw [w_t1]
set_option maxRecDepth 65536 in
theorem w_case : (Jvm.Cond.and given_1 narrow_1).before args0 about1 = true := by decide +kernel
theorem w_applies : (headSpec (Jvm.Cond.code x code maxLocals ret :: tables_1) room_1).applies x e0.platform about1 = true :=
  (Spec.applies_iff w_frames).mpr ⟨w_running, w_runnable, w_alone, w_named, w_hears, w_ripe, w_room, w_tables⟩
theorem atStart : AtStart classFile x code maxLocals ret World_1 tables_1 room_1 Calls_1 rest_1 Pre_1 launch0 p0 e0 about1 theMethod args0 below0 :=
  ⟨lists_1, trivial, launch0.admits_env _ _ _, launch0.least_env, fairChoices_fair.cas, fairChoices_fair.clock, w_frames, w_args, w_heap, w_applies, trivial, trivial, w_case⟩
end start1
theorem witness_1 : WitnessClaimed_1 := ⟨start1.p0, start1.e0, start1.about1, start1.theMethod, start1.args0, start1.below0, start1.atStart⟩
end Jvm.Pilot.@@N@@
