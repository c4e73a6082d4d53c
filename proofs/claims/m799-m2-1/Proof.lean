import JvmDerived
import JvmDerived.Pilot.@@N@@Statement
import JvmDerived.Pilot.@@N@@Code
set_option linter.unusedVariables false
set_option linter.unusedSimpArgs false
namespace Jvm.RoadKit
open Sem ClassFile Op Lib Jvm.Stand Jvm.Free Jvm.LawKit
section New
variable {p : Program} {l : Launch} {e : Env} {R : Room} {s : State} {m : MethodId} {args : Array Value} {below : List Frame} {meth : Method} {c : Code} {T : State} {locs : List Loc} {cells slots : Nat}
theorem retI (X : Stand p l e R s m args below meth c T locs cells slots) (hx : p.tables.exec = Jvm.exec) {pc : Nat} {Ls : Array Slot} {z : Int32} {rest : List Value} (hret : meth.sig.returnType = some .int) (hd : decode c.code pc = .ok (.ireturn, 1)) {fs : List Frame}
    (hl : ∀ (f : JFrame) (acts : List Action), f.method = m → f.locked = none → f.entered = [] → (doReturn e (T.setTop f) acts (some (.int z))).1 = T.setFrames fs) : Steps p.tables e below (T.setTop (mkF m pc Ls (.int z :: rest))) (T.setFrames fs) := by
  have hm' : T.vm.method? m = some meth := X.method'
  have hn : narrow .int (.int z) = .int z := rfl
  show Steps p.tables e below (T.setTop { method := m, pc := pc, locals := Ls, stack := _ :: rest, locked := none }) _
  jvm_step X.here [X.here.top, hx, hd, hm', hret, hn]
  first | (intro acts; rw [hl _ acts rfl rfl rfl]) | rw [hl _ _ rfl rfl rfl]
  exact Steps.refl _
theorem eqv_r {Z : State} {args : Array Value} {X F : Term} {idx : List Nat} {y : Addr} (hF : F.eval args Z none idx Z = some (.ref y)) (h : (Cond.eq X F).value args Z none Z idx = some true) : X.eval args Z none idx Z = some (.ref y) := by
  obtain ⟨x, y', e1, e2, k1, k2⟩ := cmp_v (Or.inl h)
  cases hF.symm.trans e2
  have hx : x.isRef = true := k2.2
  have q : x = .ref y := gotT (eq_R e1 hF hx rfl) h
  rw [e1, q]
end New
end Jvm.RoadKit
namespace Jvm.Pilot.@@N@@
open Jvm Jvm.ClassFile Sem Op Lib Jvm.Free Jvm.Stand Jvm.LawKit Jvm.RoadKit Bundle Jvm.Pilot.@@N@@.Jvm.D
def Go (p : Program) (e : Env) (below : List Frame) (Qf : Outcome → State → Prop) (W : State) : Prop := ∃ s₂ o, Steps p.tables e below W s₂ ∧ s₂.status = .running ∧ Ended s₂ below o ∧ Qf o s₂
theorem Go.st {p : Program} {e : Env} {below : List Frame} {Qf : Outcome → State → Prop} {W V' : State} (h : ∀ t, Steps p.tables e below V' t → Steps p.tables e below W t) (g : Go p e below Qf V') : Go p e below Qf W := by
  obtain ⟨s₂, o, g1, g2⟩ := g
  exact ⟨s₂, o, h _ g1, g2⟩
theorem Go.out {p : Program} {e : Env} {below : List Frame} {Qf : Outcome → State → Prop} {W : State} (g : Go p e below Qf W) : ∃ s₂ o, Steps p.tables e below W s₂ ∧ s₂.status = .running ∧ Ended s₂ below o ∧ Qf o s₂ := g
theorem Go.mk' {p : Program} {e : Env} {below : List Frame} {Qf : Outcome → State → Prop} {W : State} (g : ∃ s₂ o, Steps p.tables e below W s₂ ∧ s₂.status = .running ∧ Ended s₂ below o ∧ Qf o s₂) : Go p e below Qf W := g
theorem own_sa {a0 : Array Value} {Z : State} (hw : ∀ d ∈ tables_1, d.before a0 Z = true) : ∀ a ∈ Bundle.stringAtoms, a.before a0 Z = true := by
  intro a ha
  simp only [Bundle.stringAtoms, List.mem_cons, List.not_mem_nil, or_false] at ha
  rcases ha with rfl | rfl | rfl | rfl | rfl | rfl | rfl
  · exact (hw _ (List.mem_of_getElem? (i := 40) rfl))
  · exact (hw _ (List.mem_of_getElem? (i := 41) rfl))
  · exact (hw _ (List.mem_of_getElem? (i := 42) rfl))
  · exact (hw _ (List.mem_of_getElem? (i := 43) rfl))
  · exact (hw _ (List.mem_of_getElem? (i := 44) rfl))
  · exact (hw _ (List.mem_of_getElem? (i := 45) rfl))
  · exact (hw _ (List.mem_of_getElem? (i := 46) rfl))
def W0 (Z : State) (s_MAX_ATTEMPTS : Addr) (s_SUCCEEDED : Addr) (s_PARKED : Addr) (s_PENDING : Addr) (s_EXPIRED : Addr) (s_REJECTED : Addr) : Prop :=
  (Exa Z Z.heap s_MAX_ATTEMPTS "com/example/reprise/reprise/core/ParkReason") ∧
  (Sta Z Z.heap "com/example/reprise/reprise/core/ParkReason" "MAX_ATTEMPTS" "Lcom/example/reprise/reprise/core/ParkReason;" (.ref s_MAX_ATTEMPTS)) ∧
  (Exa Z Z.heap s_SUCCEEDED "com/example/reprise/reprise/core/TaskState") ∧
  (Sta Z Z.heap "com/example/reprise/reprise/core/TaskState" "SUCCEEDED" "Lcom/example/reprise/reprise/core/TaskState;" (.ref s_SUCCEEDED)) ∧
  (Exa Z Z.heap s_PARKED "com/example/reprise/reprise/core/TaskState") ∧
  (Sta Z Z.heap "com/example/reprise/reprise/core/TaskState" "PARKED" "Lcom/example/reprise/reprise/core/TaskState;" (.ref s_PARKED)) ∧
  (Exa Z Z.heap s_PENDING "com/example/reprise/reprise/core/TaskState") ∧
  (Sta Z Z.heap "com/example/reprise/reprise/core/TaskState" "PENDING" "Lcom/example/reprise/reprise/core/TaskState;" (.ref s_PENDING)) ∧
  (Exa Z Z.heap s_EXPIRED "com/example/reprise/reprise/core/ParkReason") ∧
  (Sta Z Z.heap "com/example/reprise/reprise/core/ParkReason" "EXPIRED" "Lcom/example/reprise/reprise/core/ParkReason;" (.ref s_EXPIRED)) ∧
  (Exa Z Z.heap s_REJECTED "com/example/reprise/reprise/core/ParkReason") ∧
  (Sta Z Z.heap "com/example/reprise/reprise/core/ParkReason" "REJECTED" "Lcom/example/reprise/reprise/core/ParkReason;" (.ref s_REJECTED)) ∧
  (Fld Z Z.heap s_SUCCEEDED "java/lang/Enum" "ordinal" "I" (.int (2 : Int32))) ∧
  (Fld Z Z.heap s_PENDING "java/lang/Enum" "ordinal" "I" (.int (0 : Int32))) ∧
  (Fld Z Z.heap s_PARKED "java/lang/Enum" "ordinal" "I" (.int (3 : Int32)))
theorem own_d1_0 : decode method_2_code 0 = .ok (.iload_n 0, 1) := by decide +kernel
theorem own_d1_1 : decode method_2_code 1 = .ok (.ldc 7, 2) := by decide +kernel
theorem own_d1_3 : decode method_2_code 3 = .ok (.iand, 1) := by decide +kernel
theorem own_d1_4 : decode method_2_code 4 = .ok (.iconst 3, 1) := by decide +kernel
theorem own_d1_5 : decode method_2_code 5 = .ok (.irem, 1) := by decide +kernel
theorem own_d1_6 : decode method_2_code 6 = .ok (.istore_n 1, 1) := by decide +kernel
theorem own_d1_7 : decode method_2_code 7 = .ok (.iload_n 1, 1) := by decide +kernel
theorem own_d1_8 : decode method_2_code 8 = .ok (.ifCond .ne 7, 3) := by decide +kernel
theorem own_d1_11 : decode method_2_code 11 = .ok (.getstatic 8, 3) := by decide +kernel
theorem own_d1_14 : decode method_2_code 14 = .ok (.areturn, 1) := by decide +kernel
theorem own_d1_15 : decode method_2_code 15 = .ok (.iload_n 1, 1) := by decide +kernel
theorem own_d1_16 : decode method_2_code 16 = .ok (.iconst 1, 1) := by decide +kernel
theorem own_d1_17 : decode method_2_code 17 = .ok (.if_icmp .ne 7, 3) := by decide +kernel
theorem own_d1_20 : decode method_2_code 20 = .ok (.getstatic 14, 3) := by decide +kernel
theorem own_d1_23 : decode method_2_code 23 = .ok (.areturn, 1) := by decide +kernel
theorem own_d1_24 : decode method_2_code 24 = .ok (.getstatic 17, 3) := by decide +kernel
theorem own_d1_27 : decode method_2_code 27 = .ok (.areturn, 1) := by decide +kernel
theorem own_pn0 : plainName "com/example/reprise/reprise/core/NextStepSucceededPinLaw" = true := by first | (simp [plainName, overriddenIn]; done) | decide +kernel
theorem ef1 (m : MethodId) (p0 : Int32) : entryFrame m #[(.int p0)] 2 = mkF m 0 #[.val (.int p0), .unset] [] := by first | (simp [entryFrame, mkF, argsToLocals, Value.category]; done) | rfl
def f1 (s_MAX_ATTEMPTS : Addr) (s_EXPIRED : Addr) (s_REJECTED : Addr) (p0 : Int32) : Addr := (if ((p0 &&& (2147483647 : Int32)) % (3 : Int32)) = (0 : Int32) then s_MAX_ATTEMPTS else (if ((p0 &&& (2147483647 : Int32)) % (3 : Int32)) = (1 : Int32) then s_REJECTED else s_EXPIRED))
def Q1 (Z : State) (s_MAX_ATTEMPTS : Addr) (s_EXPIRED : Addr) (s_REJECTED : Addr) (p0 : Int32) (h0 : Heap) (n0 : Nat) (v : Option Value) (h : Heap) (L : List Loc) : Prop := v = some (.ref (f1 s_MAX_ATTEMPTS s_EXPIRED s_REJECTED p0)) ∧ Fr n0 L ∧ h = h0
set_option maxRecDepth 65536 in
set_option maxHeartbeats 40000000 in
theorem rm1 (l : Launch) (Z : State) (a0 : Array Value) (hw : ∀ d ∈ tables_1, d.before a0 Z = true) (ws : List Jvm.Cond) (s_MAX_ATTEMPTS : Addr) (s_SUCCEEDED : Addr) (s_PARKED : Addr) (s_PENDING : Addr) (s_EXPIRED : Addr) (s_REJECTED : Addr) (HW : W0 Z s_MAX_ATTEMPTS s_SUCCEEDED s_PARKED s_PENDING s_EXPIRED s_REJECTED) (p0 : Int32) (h0 : Heap) (n0 : Nat) (O0 : Old Z n0 h0) :
    MetFree l (⟨"com/example/reprise/reprise/core/NextStepSucceededPinLaw", "reasonOf", "(I)Lcom/example/reprise/reprise/core/ParkReason;"⟩ : MethodName) (head1 (Jvm.Cond.code (⟨"com/example/reprise/reprise/core/NextStepSucceededPinLaw", "reasonOf", "(I)Lcom/example/reprise/reprise/core/ParkReason;"⟩ : MethodName) method_2_code 2 (some (.object "com/example/reprise/reprise/core/ParkReason")) :: ws) ({ frames := 0, cells := 0, slots := 0, locals := 0 } : Room)) (fun a U => a = #[(.int p0)] ∧ Z.Warmed39 U.vm ∧ U.heap = h0) (fun _ _ _ _ _ => True) (fun _ U o U' => ∃ v L, o = .returned v ∧ Q1 Z s_MAX_ATTEMPTS s_EXPIRED s_REJECTED p0 h0 n0 v U'.heap L ∧ FrameEnd U o U' L ({ frames := 0, cells := 0, slots := 0, locals := 0 } : Room).cells ({ frames := 0, cells := 0, slots := 0, locals := 0 } : Room).slots) := by
  refine MetFree.of_bodySF (plainFor_of_name own_pn0) hisR ?_
  intro p e s m args below meth c s₁ Bd hml0 hP hK
  obtain ⟨rfl, hZ, hh⟩ := hP
  obtain ⟨E_MAX_ATTEMPTS, S_MAX_ATTEMPTS, E_SUCCEEDED, S_SUCCEEDED, E_PARKED, S_PARKED, E_PENDING, S_PENDING, E_EXPIRED, S_EXPIRED, E_REJECTED, S_REJECTED, F_SUCCEEDED_ordinal, F_PENDING_ordinal, F_PARKED_ordinal⟩ := id HW
  have hx := Bd.exec
  have hby := Bd.bytes
  have hml : c.maxLocals = 2 := hml0
  have hown : s.vm.findClass "com/example/reprise/reprise/core/NextStepSucceededPinLaw" = some m.cls := findClass_of_methodNamed Bd.named
  have hnm := (name_of_methodNamed Bd.named Bd.method).1
  have X0 : Stand p l e ({ frames := 0, cells := 0, slots := 0, locals := 0 } : Room) s m #[(.int p0)] below meth c s₁ [] 0 0 := Stand.of_body Bd
  have e0 : s₁.heap = h0 := by rw [← hh, Bd.state]; rfl
  have N0 := Fr.nil n0
  have K0 := Keep.refl h0 []
  refine Go.out ?_
  refine Go.st (V' := s₁.setTop (mkF m 0 #[.val (.int p0), .unset] [])) (fun t k => castTop (ef1 m p0) k) ?_
  refine Go.st (V' := s₁.setTop (mkF m 8 #[.val (.int p0), .val (.int ((p0 &&& (2147483647 : Int32)) % (3 : Int32)))] [(.int ((p0 &&& (2147483647 : Int32)) % (3 : Int32)))])) (fun t k => ?_) ?_
  · refine XS.iloadN X0.here hx rfl (hb hby own_d1_0) rfl  ?_
    show Steps p.tables e below (s₁.setTop (mkF m 1 #[.val (.int p0), .unset] [(.int p0)])) _
    refine X0.ldcInt hx hown (mvT hZ (hw _ (List.mem_of_getElem? (i := 4) rfl))) (g := (mkF m 1 #[.val (.int p0), .unset] [(.int p0)])) rfl (hb hby own_d1_1) _ ?_
    show Steps p.tables e below (s₁.setTop (mkF m 3 #[.val (.int p0), .unset] [(.int (2147483647 : Int32)), (.int p0)])) _
    refine XS.iand X0.here hx rfl (hb hby own_d1_3) rfl ?_
    show Steps p.tables e below (s₁.setTop (mkF m 4 #[.val (.int p0), .unset] [(.int (p0 &&& (2147483647 : Int32)))])) _
    refine XS.iconst X0.here hx rfl (hb hby own_d1_4) ?_
    show Steps p.tables e below (s₁.setTop (mkF m 5 #[.val (.int p0), .unset] [(.int (3 : Int32)), (.int (p0 &&& (2147483647 : Int32)))])) _
    refine iremM X0 hx rfl (hb hby own_d1_5) rfl (by decide) ?_
    show Steps p.tables e below (s₁.setTop (mkF m 6 #[.val (.int p0), .unset] [(.int ((p0 &&& (2147483647 : Int32)) % (3 : Int32)))])) _
    refine XS.istoreN X0.here hx rfl (hb hby own_d1_6) rfl (l' := #[.val (.int p0), .val (.int ((p0 &&& (2147483647 : Int32)) % (3 : Int32)))]) rfl ?_
    show Steps p.tables e below (s₁.setTop (mkF m 7 #[.val (.int p0), .val (.int ((p0 &&& (2147483647 : Int32)) % (3 : Int32)))] [])) _
    refine XS.iloadN X0.here hx rfl (hb hby own_d1_7) rfl  ?_
    show Steps p.tables e below (s₁.setTop (mkF m 8 #[.val (.int p0), .val (.int ((p0 &&& (2147483647 : Int32)) % (3 : Int32)))] [(.int ((p0 &&& (2147483647 : Int32)) % (3 : Int32)))])) _
    exact k
  by_cases hc1 : ((p0 &&& (2147483647 : Int32)) % (3 : Int32)) = (0 : Int32)
  · refine Go.st (V' := s₁.setTop (mkF m 11 #[.val (.int p0), .val (.int ((p0 &&& (2147483647 : Int32)) % (3 : Int32)))] [])) (fun t k => ?_) ?_
    · refine XS.ifNo X0.here hx rfl (hb hby own_d1_8) rfl ((if0 _ _).trans (teq hc1).2) ?_
      show Steps p.tables e below (s₁.setTop (mkF m 11 #[.val (.int p0), .val (.int ((p0 &&& (2147483647 : Int32)) % (3 : Int32)))] [])) _
      exact k
    obtain ⟨T2, X2, e2, st2⟩ := getS2 X0 hx hZ hown (host := "") (Or.inl (hw _ (List.mem_of_getElem? (i := 5) rfl))) Via.refl e0 (S_MAX_ATTEMPTS.ext O0.2) (g := (mkF m 11 #[.val (.int p0), .val (.int ((p0 &&& (2147483647 : Int32)) % (3 : Int32)))] [])) rfl (hb hby own_d1_11)
    refine Go.st (V' := T2.setTop (mkF m 14 #[.val (.int p0), .val (.int ((p0 &&& (2147483647 : Int32)) % (3 : Int32)))] [(.ref s_MAX_ATTEMPTS)])) (fun t k => st2 t k) ?_
    obtain ⟨fs, hr, hrun, hended, hW, hsame⟩ := X2.leave (v := some (.ref s_MAX_ATTEMPTS)) (fun h => by rw [Bd.returns] at h; cases h)
    refine Go.mk' ⟨_, _, retOut X2 hx Bd.returns rfl (Or.inr (Or.inr (Or.inr (Or.inr ⟨rfl, rfl, rfl⟩)))) (hb hby own_d1_14) hr, hrun, hended, _, _, rfl, ?_, ⟨_, rfl⟩, hW, hsame.mono (by decide) (by decide)⟩
    show Q1 Z s_MAX_ATTEMPTS s_EXPIRED s_REJECTED p0 h0 n0 _ T2.heap _
    rw [e2]
    exact ⟨(by rw [f1, if_pos hc1]), N0, rfl⟩
  · refine Go.st (V' := s₁.setTop (mkF m 17 #[.val (.int p0), .val (.int ((p0 &&& (2147483647 : Int32)) % (3 : Int32)))] [(.int (1 : Int32)), (.int ((p0 &&& (2147483647 : Int32)) % (3 : Int32)))])) (fun t k => ?_) ?_
    · refine XS.ifYes X0.here hx rfl (pc0 := 8) (pc' := 15) rfl (hb hby own_d1_8) rfl ((if0 _ _).trans (feq hc1).2) (by decide) (by decide) ?_
      show Steps p.tables e below (s₁.setTop (mkF m 15 #[.val (.int p0), .val (.int ((p0 &&& (2147483647 : Int32)) % (3 : Int32)))] [])) _
      refine XS.iloadN X0.here hx rfl (hb hby own_d1_15) rfl  ?_
      show Steps p.tables e below (s₁.setTop (mkF m 16 #[.val (.int p0), .val (.int ((p0 &&& (2147483647 : Int32)) % (3 : Int32)))] [(.int ((p0 &&& (2147483647 : Int32)) % (3 : Int32)))])) _
      refine XS.iconst X0.here hx rfl (hb hby own_d1_16) ?_
      show Steps p.tables e below (s₁.setTop (mkF m 17 #[.val (.int p0), .val (.int ((p0 &&& (2147483647 : Int32)) % (3 : Int32)))] [(.int (1 : Int32)), (.int ((p0 &&& (2147483647 : Int32)) % (3 : Int32)))])) _
      exact k
    by_cases hc3 : ((p0 &&& (2147483647 : Int32)) % (3 : Int32)) = (1 : Int32)
    · refine Go.st (V' := s₁.setTop (mkF m 20 #[.val (.int p0), .val (.int ((p0 &&& (2147483647 : Int32)) % (3 : Int32)))] [])) (fun t k => ?_) ?_
      · refine XS.icmpNo X0.here hx rfl (hb hby own_d1_17) rfl (teq hc3).2 ?_
        show Steps p.tables e below (s₁.setTop (mkF m 20 #[.val (.int p0), .val (.int ((p0 &&& (2147483647 : Int32)) % (3 : Int32)))] [])) _
        exact k
      obtain ⟨T4, X4, e4, st4⟩ := getS2 X0 hx hZ hown (host := "") (Or.inl (hw _ (List.mem_of_getElem? (i := 79) rfl))) Via.refl e0 (S_REJECTED.ext O0.2) (g := (mkF m 20 #[.val (.int p0), .val (.int ((p0 &&& (2147483647 : Int32)) % (3 : Int32)))] [])) rfl (hb hby own_d1_20)
      refine Go.st (V' := T4.setTop (mkF m 23 #[.val (.int p0), .val (.int ((p0 &&& (2147483647 : Int32)) % (3 : Int32)))] [(.ref s_REJECTED)])) (fun t k => st4 t k) ?_
      obtain ⟨fs, hr, hrun, hended, hW, hsame⟩ := X4.leave (v := some (.ref s_REJECTED)) (fun h => by rw [Bd.returns] at h; cases h)
      refine Go.mk' ⟨_, _, retOut X4 hx Bd.returns rfl (Or.inr (Or.inr (Or.inr (Or.inr ⟨rfl, rfl, rfl⟩)))) (hb hby own_d1_23) hr, hrun, hended, _, _, rfl, ?_, ⟨_, rfl⟩, hW, hsame.mono (by decide) (by decide)⟩
      show Q1 Z s_MAX_ATTEMPTS s_EXPIRED s_REJECTED p0 h0 n0 _ T4.heap _
      rw [e4]
      exact ⟨(by rw [f1, if_neg hc1, if_pos hc3]), N0, rfl⟩
    · refine Go.st (V' := s₁.setTop (mkF m 24 #[.val (.int p0), .val (.int ((p0 &&& (2147483647 : Int32)) % (3 : Int32)))] [])) (fun t k => ?_) ?_
      · refine XS.icmpYes X0.here hx rfl (pc0 := 17) (pc' := 24) rfl (hb hby own_d1_17) rfl (feq hc3).2 (by decide) (by decide) ?_
        show Steps p.tables e below (s₁.setTop (mkF m 24 #[.val (.int p0), .val (.int ((p0 &&& (2147483647 : Int32)) % (3 : Int32)))] [])) _
        exact k
      obtain ⟨T5, X5, e5, st5⟩ := getS2 X0 hx hZ hown (host := "") (Or.inl (hw _ (List.mem_of_getElem? (i := 77) rfl))) Via.refl e0 (S_EXPIRED.ext O0.2) (g := (mkF m 24 #[.val (.int p0), .val (.int ((p0 &&& (2147483647 : Int32)) % (3 : Int32)))] [])) rfl (hb hby own_d1_24)
      refine Go.st (V' := T5.setTop (mkF m 27 #[.val (.int p0), .val (.int ((p0 &&& (2147483647 : Int32)) % (3 : Int32)))] [(.ref s_EXPIRED)])) (fun t k => st5 t k) ?_
      obtain ⟨fs, hr, hrun, hended, hW, hsame⟩ := X5.leave (v := some (.ref s_EXPIRED)) (fun h => by rw [Bd.returns] at h; cases h)
      refine Go.mk' ⟨_, _, retOut X5 hx Bd.returns rfl (Or.inr (Or.inr (Or.inr (Or.inr ⟨rfl, rfl, rfl⟩)))) (hb hby own_d1_27) hr, hrun, hended, _, _, rfl, ?_, ⟨_, rfl⟩, hW, hsame.mono (by decide) (by decide)⟩
      show Q1 Z s_MAX_ATTEMPTS s_EXPIRED s_REJECTED p0 h0 n0 _ T5.heap _
      rw [e5]
      exact ⟨(by rw [f1, if_neg hc1, if_neg hc3]), N0, rfl⟩
theorem own_pickE (Z : State) (s_MAX_ATTEMPTS : Addr) (s_SUCCEEDED : Addr) (s_PARKED : Addr) (s_PENDING : Addr) (s_EXPIRED : Addr) (s_REJECTED : Addr) (HW : W0 Z s_MAX_ATTEMPTS s_SUCCEEDED s_PARKED s_PENDING s_EXPIRED s_REJECTED) (p0 : Int32) : Exa Z Z.heap (f1 s_MAX_ATTEMPTS s_EXPIRED s_REJECTED p0) "com/example/reprise/reprise/core/ParkReason" := by
  obtain ⟨E_MAX_ATTEMPTS, S_MAX_ATTEMPTS, E_SUCCEEDED, S_SUCCEEDED, E_PARKED, S_PARKED, E_PENDING, S_PENDING, E_EXPIRED, S_EXPIRED, E_REJECTED, S_REJECTED, F_SUCCEEDED_ordinal, F_PENDING_ordinal, F_PARKED_ordinal⟩ := id HW
  unfold f1
  repeat' split
  all_goals assumption
theorem own_d7_0 : decode jdk_31_method_11_code 0 = .ok (.aload_n 0, 1) := by decide +kernel
theorem own_d7_1 : decode jdk_31_method_11_code 1 = .ok (.ifnonnull 12, 3) := by decide +kernel
theorem own_d7_13 : decode jdk_31_method_11_code 13 = .ok (.aload_n 0, 1) := by decide +kernel
theorem own_d7_14 : decode jdk_31_method_11_code 14 = .ok (.areturn, 1) := by decide +kernel
theorem own_pn1 : plainName "java/util/Objects" = true := by first | (simp [plainName, overriddenIn]; done) | decide +kernel
theorem ef7 (m : MethodId) (r0 : Addr) (r1 : Addr) : entryFrame m #[(.ref r0), (.ref r1)] 2 = mkF m 0 #[.val (.ref r0), .val (.ref r1)] [] := by first | (simp [entryFrame, mkF, argsToLocals, Value.category]; done) | rfl
def Q7 (Z : State) (r0 : Addr) (h0 : Heap) (n0 : Nat) (v : Option Value) (h : Heap) (L : List Loc) : Prop := v = some (.ref r0) ∧ Fr n0 L ∧ h = h0
set_option maxRecDepth 65536 in
set_option maxHeartbeats 40000000 in
theorem rm7 (l : Launch) (Z : State) (a0 : Array Value) (hw : ∀ d ∈ tables_1, d.before a0 Z = true) (ws : List Jvm.Cond) (s_MAX_ATTEMPTS : Addr) (s_SUCCEEDED : Addr) (s_PARKED : Addr) (s_PENDING : Addr) (s_EXPIRED : Addr) (s_REJECTED : Addr) (HW : W0 Z s_MAX_ATTEMPTS s_SUCCEEDED s_PARKED s_PENDING s_EXPIRED s_REJECTED) (r0 : Addr) (r1 : Addr) (h0 : Heap) (n0 : Nat) (O0 : Old Z n0 h0) :
    MetFree l (⟨"java/util/Objects", "requireNonNull", "(Ljava/lang/Object;Ljava/lang/String;)Ljava/lang/Object;"⟩ : MethodName) (head1 (Jvm.Cond.code (⟨"java/util/Objects", "requireNonNull", "(Ljava/lang/Object;Ljava/lang/String;)Ljava/lang/Object;"⟩ : MethodName) jdk_31_method_11_code 2 (some (.object "java/lang/Object")) :: ws) ({ frames := 0, cells := 0, slots := 0, locals := 0 } : Room)) (fun a U => a = #[(.ref r0), (.ref r1)] ∧ Z.Warmed39 U.vm ∧ U.heap = h0) (fun _ _ _ _ _ => True) (fun _ U o U' => ∃ v L, o = .returned v ∧ Q7 Z r0 h0 n0 v U'.heap L ∧ FrameEnd U o U' L ({ frames := 0, cells := 0, slots := 0, locals := 0 } : Room).cells ({ frames := 0, cells := 0, slots := 0, locals := 0 } : Room).slots) := by
  refine MetFree.of_bodySF (plainFor_of_name own_pn1) hisR ?_
  intro p e s m args below meth c s₁ Bd hml0 hP hK
  obtain ⟨rfl, hZ, hh⟩ := hP
  obtain ⟨E_MAX_ATTEMPTS, S_MAX_ATTEMPTS, E_SUCCEEDED, S_SUCCEEDED, E_PARKED, S_PARKED, E_PENDING, S_PENDING, E_EXPIRED, S_EXPIRED, E_REJECTED, S_REJECTED, F_SUCCEEDED_ordinal, F_PENDING_ordinal, F_PARKED_ordinal⟩ := id HW
  have hx := Bd.exec
  have hby := Bd.bytes
  have hml : c.maxLocals = 2 := hml0
  have hown : s.vm.findClass "java/util/Objects" = some m.cls := findClass_of_methodNamed Bd.named
  have hnm := (name_of_methodNamed Bd.named Bd.method).1
  have X0 : Stand p l e ({ frames := 0, cells := 0, slots := 0, locals := 0 } : Room) s m #[(.ref r0), (.ref r1)] below meth c s₁ [] 0 0 := Stand.of_body Bd
  have e0 : s₁.heap = h0 := by rw [← hh, Bd.state]; rfl
  have N0 := Fr.nil n0
  have K0 := Keep.refl h0 []
  refine Go.out ?_
  refine Go.st (V' := s₁.setTop (mkF m 0 #[.val (.ref r0), .val (.ref r1)] [])) (fun t k => castTop (ef7 m r0 r1) k) ?_
  refine Go.st (V' := s₁.setTop (mkF m 14 #[.val (.ref r0), .val (.ref r1)] [(.ref r0)])) (fun t k => ?_) ?_
  · refine XS.aloadN X0.here hx rfl (hb hby own_d7_0) rfl rfl ?_
    show Steps p.tables e below (s₁.setTop (mkF m 1 #[.val (.ref r0), .val (.ref r1)] [(.ref r0)])) _
    refine XS.ifnonnullYes X0.here hx rfl (pc0 := 1) (pc' := 13) rfl (hb hby own_d7_1) rfl (by decide) (by decide) ?_
    show Steps p.tables e below (s₁.setTop (mkF m 13 #[.val (.ref r0), .val (.ref r1)] [])) _
    refine XS.aloadN X0.here hx rfl (hb hby own_d7_13) rfl rfl ?_
    show Steps p.tables e below (s₁.setTop (mkF m 14 #[.val (.ref r0), .val (.ref r1)] [(.ref r0)])) _
    exact k
  obtain ⟨fs, hr, hrun, hended, hW, hsame⟩ := X0.leave (v := some (.ref r0)) (fun h => by rw [Bd.returns] at h; cases h)
  refine Go.mk' ⟨_, _, retOut X0 hx Bd.returns rfl (Or.inr (Or.inr (Or.inr (Or.inr ⟨rfl, rfl, rfl⟩)))) (hb hby own_d7_14) hr, hrun, hended, _, _, rfl, ?_, ⟨_, rfl⟩, hW, hsame.mono (by decide) (by decide)⟩
  show Q7 Z r0 h0 n0 _ s₁.heap _
  rw [e0]
  exact ⟨rfl, N0, rfl⟩
theorem own_d4_0 : decode jdk_30_method_1_code 0 = .ok (.aload_n 0, 1) := by decide +kernel
theorem own_d4_1 : decode jdk_30_method_1_code 1 = .ok (.invokespecial 1, 3) := by decide +kernel
theorem own_d4_4 : decode jdk_30_method_1_code 4 = .ok (.return_, 1) := by decide +kernel
theorem own_pn2 : plainName "java/lang/Record" = true := by first | (simp [plainName, overriddenIn]; done) | decide +kernel
theorem ef4 (m : MethodId) (r0 : Addr) : entryFrame m #[(.ref r0)] 1 = mkF m 0 #[.val (.ref r0)] [] := by first | (simp [entryFrame, mkF, argsToLocals, Value.category]; done) | rfl
def Q4 (Z : State) (s_MAX_ATTEMPTS : Addr) (s_SUCCEEDED : Addr) (s_PARKED : Addr) (s_PENDING : Addr) (s_EXPIRED : Addr) (s_REJECTED : Addr) (r0 : Addr) (h0 : Heap) (n0 : Nat) (v : Option Value) (h : Heap) (L : List Loc) : Prop := v = none ∧ Fr n0 L ∧ Keep h0 h []
set_option maxRecDepth 65536 in
set_option maxHeartbeats 40000000 in
theorem rm4 (l : Launch) (Z : State) (a0 : Array Value) (hw : ∀ d ∈ tables_1, d.before a0 Z = true) (ws : List Jvm.Cond) (s_MAX_ATTEMPTS : Addr) (s_SUCCEEDED : Addr) (s_PARKED : Addr) (s_PENDING : Addr) (s_EXPIRED : Addr) (s_REJECTED : Addr) (HW : W0 Z s_MAX_ATTEMPTS s_SUCCEEDED s_PARKED s_PENDING s_EXPIRED s_REJECTED) (r0 : Addr) (h0 : Heap) (n0 : Nat) (O0 : Old Z n0 h0) :
    MetFree l (⟨"java/lang/Record", "<init>", "()V"⟩ : MethodName) (head1 (Jvm.Cond.code (⟨"java/lang/Record", "<init>", "()V"⟩ : MethodName) jdk_30_method_1_code 1 none :: ws) ({ frames := 1, cells := 0, slots := 0, locals := 12 } : Room)) (fun a U => a = #[(.ref r0)] ∧ Z.Warmed39 U.vm ∧ U.heap = h0) (fun _ _ _ _ _ => True) (fun _ U o U' => ∃ v L, o = .returned v ∧ Q4 Z s_MAX_ATTEMPTS s_SUCCEEDED s_PARKED s_PENDING s_EXPIRED s_REJECTED r0 h0 n0 v U'.heap L ∧ FrameEnd U o U' L ({ frames := 1, cells := 0, slots := 0, locals := 12 } : Room).cells ({ frames := 1, cells := 0, slots := 0, locals := 12 } : Room).slots) := by
  refine MetFree.of_bodySF (plainFor_of_name own_pn2) hisR ?_
  intro p e s m args below meth c s₁ Bd hml0 hP hK
  obtain ⟨rfl, hZ, hh⟩ := hP
  obtain ⟨E_MAX_ATTEMPTS, S_MAX_ATTEMPTS, E_SUCCEEDED, S_SUCCEEDED, E_PARKED, S_PARKED, E_PENDING, S_PENDING, E_EXPIRED, S_EXPIRED, E_REJECTED, S_REJECTED, F_SUCCEEDED_ordinal, F_PENDING_ordinal, F_PARKED_ordinal⟩ := id HW
  have hx := Bd.exec
  have hby := Bd.bytes
  have hml : c.maxLocals = 1 := hml0
  have hown : s.vm.findClass "java/lang/Record" = some m.cls := findClass_of_methodNamed Bd.named
  have hnm := (name_of_methodNamed Bd.named Bd.method).1
  have X0 : Stand p l e ({ frames := 1, cells := 0, slots := 0, locals := 12 } : Room) s m #[(.ref r0)] below meth c s₁ [] 0 0 := Stand.of_body Bd
  have e0 : s₁.heap = h0 := by rw [← hh, Bd.state]; rfl
  have N0 := Fr.nil n0
  have K0 := Keep.refl h0 []
  refine Go.out ?_
  refine Go.st (V' := s₁.setTop (mkF m 0 #[.val (.ref r0)] [])) (fun t k => castTop (ef4 m r0) k) ?_
  refine Go.st (V' := s₁.setTop (mkF m 1 #[.val (.ref r0)] [(.ref r0)])) (fun t k => ?_) ?_
  · refine XS.aloadN X0.here hx rfl (hb hby own_d4_0) rfl rfl ?_
    show Steps p.tables e below (s₁.setTop (mkF m 1 #[.val (.ref r0)] [(.ref r0)])) _
    exact k
  obtain ⟨T6, X6, e6, st6⟩ := initO X0 hx hZ hown (hw _ (List.mem_of_getElem? (i := 25) rfl)) (hw _ (List.mem_of_getElem? (i := 26) rfl)) (hw _ (List.mem_of_getElem? (i := 27) rfl)) e0 (g := (mkF m 1 #[.val (.ref r0)] [(.ref r0)])) rfl (by rw [hml]; rfl) rfl (hb hby own_d4_1) (by decide) (W := 0) (by show 2 * 0 + _ ≤ _; exact Nat.le_of_eq rfl) (by decide)
  refine Go.st (V' := T6.setTop (mkF m 4 #[.val (.ref r0)] [])) (fun t k => st6 t k) ?_
  obtain ⟨fs, hr, hrun, hended, hW, hsame⟩ := X6.leave (v := none) (fun _ => rfl)
  refine Go.mk' ⟨_, _, X6.returnOut hx Bd.returns (hb hby own_d4_4) hr, hrun, hended, _, _, rfl, ?_, ⟨_, rfl⟩, hW, hsame.mono (by decide) (by decide)⟩
  show Q4 Z s_MAX_ATTEMPTS s_SUCCEEDED s_PARKED s_PENDING s_EXPIRED s_REJECTED r0 h0 n0 _ T6.heap _
  rw [e6]
  exact ⟨rfl, N0, K0⟩
theorem own_d3_0 : decode prog_14_method_1_code 0 = .ok (.aload_n 0, 1) := by decide +kernel
theorem own_d3_1 : decode prog_14_method_1_code 1 = .ok (.invokespecial 1, 3) := by decide +kernel
theorem own_pd26 : parseMethodDescriptor "()V" = some ⟨[], none⟩ := by decide +kernel
theorem own_d3_4 : decode prog_14_method_1_code 4 = .ok (.aload_n 0, 1) := by decide +kernel
theorem own_d3_5 : decode prog_14_method_1_code 5 = .ok (.aload_n 1, 1) := by decide +kernel
theorem own_d3_6 : decode prog_14_method_1_code 6 = .ok (.putfield 7, 3) := by decide +kernel
theorem own_d3_9 : decode prog_14_method_1_code 9 = .ok (.aload_n 0, 1) := by decide +kernel
theorem own_d3_10 : decode prog_14_method_1_code 10 = .ok (.aload_n 2, 1) := by decide +kernel
theorem own_d3_11 : decode prog_14_method_1_code 11 = .ok (.putfield 13, 3) := by decide +kernel
theorem own_d3_14 : decode prog_14_method_1_code 14 = .ok (.aload_n 0, 1) := by decide +kernel
theorem own_d3_15 : decode prog_14_method_1_code 15 = .ok (.aload_n 3, 1) := by decide +kernel
theorem own_d3_16 : decode prog_14_method_1_code 16 = .ok (.putfield 17, 3) := by decide +kernel
theorem own_d3_19 : decode prog_14_method_1_code 19 = .ok (.return_, 1) := by decide +kernel
theorem own_pn3 : plainName "com/example/reprise/reprise/core/NextStep" = true := by first | (simp [plainName, overriddenIn]; done) | decide +kernel
theorem ef3s (m : MethodId) (r0 : Addr) (r1 : Addr) : entryFrame m #[(.ref r0), (.ref r1), .null, .null] 4 = mkF m 0 #[.val (.ref r0), .val (.ref r1), .val .null, .val .null] [] := by first | (simp [entryFrame, mkF, argsToLocals, Value.category]; done) | rfl
def Q3s (Z : State) (s_MAX_ATTEMPTS : Addr) (s_SUCCEEDED : Addr) (s_PARKED : Addr) (s_PENDING : Addr) (s_EXPIRED : Addr) (s_REJECTED : Addr) (r0 : Addr) (r1 : Addr) (u_state_r0 : Value) (u_reason_r0 : Value) (u_dueAt_r0 : Value) (h0 : Heap) (n0 : Nat) (v : Option Value) (h : Heap) (L : List Loc) : Prop := v = none ∧ Fr n0 L ∧ Keep h0 h [r0] ∧ Fld Z h r0 "com/example/reprise/reprise/core/NextStep" "state" "Lcom/example/reprise/reprise/core/TaskState;" (.ref r1) ∧ Fld Z h r0 "com/example/reprise/reprise/core/NextStep" "reason" "Lcom/example/reprise/reprise/core/ParkReason;" .null ∧ Fld Z h r0 "com/example/reprise/reprise/core/NextStep" "dueAt" "Ljava/time/Instant;" .null ∧ Exa Z h r0 "com/example/reprise/reprise/core/NextStep"
set_option maxRecDepth 65536 in
set_option maxHeartbeats 40000000 in
theorem rm3s (l : Launch) (Z : State) (a0 : Array Value) (hw : ∀ d ∈ tables_1, d.before a0 Z = true) (ws : List Jvm.Cond) (s_MAX_ATTEMPTS : Addr) (s_SUCCEEDED : Addr) (s_PARKED : Addr) (s_PENDING : Addr) (s_EXPIRED : Addr) (s_REJECTED : Addr) (HW : W0 Z s_MAX_ATTEMPTS s_SUCCEEDED s_PARKED s_PENDING s_EXPIRED s_REJECTED) (r0 : Addr) (r1 : Addr) (u_state_r0 : Value) (u_reason_r0 : Value) (u_dueAt_r0 : Value) (h0 : Heap) (n0 : Nat) (O0 : Old Z n0 h0) (E_r0 : Exa Z h0 r0 "com/example/reprise/reprise/core/NextStep") (F_state_r0 : Fld Z h0 r0 "com/example/reprise/reprise/core/NextStep" "state" "Lcom/example/reprise/reprise/core/TaskState;" u_state_r0) (g_r0 : n0 ≤ r0) (F_reason_r0 : Fld Z h0 r0 "com/example/reprise/reprise/core/NextStep" "reason" "Lcom/example/reprise/reprise/core/ParkReason;" u_reason_r0) (F_dueAt_r0 : Fld Z h0 r0 "com/example/reprise/reprise/core/NextStep" "dueAt" "Ljava/time/Instant;" u_dueAt_r0) :
    MetFree l (⟨"com/example/reprise/reprise/core/NextStep", "<init>", "(Lcom/example/reprise/reprise/core/TaskState;Lcom/example/reprise/reprise/core/ParkReason;Ljava/time/Instant;)V"⟩ : MethodName) (head1 (Jvm.Cond.code (⟨"com/example/reprise/reprise/core/NextStep", "<init>", "(Lcom/example/reprise/reprise/core/TaskState;Lcom/example/reprise/reprise/core/ParkReason;Ljava/time/Instant;)V"⟩ : MethodName) prog_14_method_1_code 4 none :: ws) ({ frames := 2, cells := 0, slots := 0, locals := 24 } : Room)) (fun a U => a = #[(.ref r0), (.ref r1), .null, .null] ∧ Z.Warmed39 U.vm ∧ U.heap = h0) (fun _ _ _ _ _ => True) (fun _ U o U' => ∃ v L, o = .returned v ∧ Q3s Z s_MAX_ATTEMPTS s_SUCCEEDED s_PARKED s_PENDING s_EXPIRED s_REJECTED r0 r1 u_state_r0 u_reason_r0 u_dueAt_r0 h0 n0 v U'.heap L ∧ FrameEnd U o U' L ({ frames := 2, cells := 0, slots := 0, locals := 24 } : Room).cells ({ frames := 2, cells := 0, slots := 0, locals := 24 } : Room).slots) := by
  refine MetFree.of_bodySF (plainFor_of_name own_pn3) hisR ?_
  intro p e s m args below meth c s₁ Bd hml0 hP hK
  obtain ⟨rfl, hZ, hh⟩ := hP
  obtain ⟨E_MAX_ATTEMPTS, S_MAX_ATTEMPTS, E_SUCCEEDED, S_SUCCEEDED, E_PARKED, S_PARKED, E_PENDING, S_PENDING, E_EXPIRED, S_EXPIRED, E_REJECTED, S_REJECTED, F_SUCCEEDED_ordinal, F_PENDING_ordinal, F_PARKED_ordinal⟩ := id HW
  have hx := Bd.exec
  have hby := Bd.bytes
  have hml : c.maxLocals = 4 := hml0
  have hown : s.vm.findClass "com/example/reprise/reprise/core/NextStep" = some m.cls := findClass_of_methodNamed Bd.named
  have hnm := (name_of_methodNamed Bd.named Bd.method).1
  have X0 : Stand p l e ({ frames := 2, cells := 0, slots := 0, locals := 24 } : Room) s m #[(.ref r0), (.ref r1), .null, .null] below meth c s₁ [] 0 0 := Stand.of_body Bd
  have e0 : s₁.heap = h0 := by rw [← hh, Bd.state]; rfl
  have N0 := Fr.nil n0
  have K0 := Keep.refl h0 [r0]
  refine Go.out ?_
  refine Go.st (V' := s₁.setTop (mkF m 0 #[.val (.ref r0), .val (.ref r1), .val .null, .val .null] [])) (fun t k => castTop (ef3s m r0 r1) k) ?_
  refine Go.st (V' := s₁.setTop (mkF m 1 #[.val (.ref r0), .val (.ref r1), .val .null, .val .null] [(.ref r0)])) (fun t k => ?_) ?_
  · refine XS.aloadN X0.here hx rfl (hb hby own_d3_0) rfl rfl ?_
    show Steps p.tables e below (s₁.setTop (mkF m 1 #[.val (.ref r0), .val (.ref r1), .val .null, .val .null] [(.ref r0)])) _
    exact k
  obtain ⟨_, _, ⟨T7, L7, k7, n7⟩, -, X7, ⟨Lc7, hQ7, l7, y7, z7⟩, st7⟩ := X0.specialBack hx (y := (⟨"java/lang/Record", "<init>", "()V"⟩ : MethodName)) rfl hown (mvT hZ (hw _ (List.mem_of_getElem? (i := 20) rfl))) (mvT hZ (hw _ (List.mem_of_getElem? (i := 21) rfl))) (mvT hZ (hw _ (List.mem_of_getElem? (i := 24) rfl))) (by decide) (backOf (W := 0) (rm4 l Z a0 hw [] s_MAX_ATTEMPTS s_SUCCEEDED s_PARKED s_PENDING s_EXPIRED s_REJECTED HW r0 h0 n0 O0) hZ (hw _ (List.mem_of_getElem? (i := 24) rfl)) (hw _ (List.mem_of_getElem? (i := 23) rfl)) (by decide) (by decide)) (g := (mkF m 1 #[.val (.ref r0), .val (.ref r1), .val .null, .val .null] [(.ref r0)])) rfl (by rw [hml]; rfl) (Steps.refl _) (a := r0) (argsL := []) (rest := []) (lenOf own_pd26 rfl) rfl (by show 2 * 0 + _ ≤ _; exact Nat.le_of_eq rfl) (hb hby own_d3_1) (fun _ _ => ⟨rfl, e0, (by decide : 0 + 0 ≤ _), (by decide : 0 + 0 ≤ _)⟩)
  dsimp only [Pt.U, Pt.locs, Pt.cells, Pt.slots] at X7 l7 y7 z7 st7 hQ7
  subst l7 y7 z7
  obtain ⟨rfl, N7q, K7⟩ := hQ7
  have N7 := Fr.app N0 N7q
  have O7 := O0.keep K7 all0
  have KA7 := K0.trans K7 all0
  refine Go.st (V' := T7.setTop (mkF m 4 #[.val (.ref r0), .val (.ref r1), .val .null, .val .null] [])) (fun t k => st7.trans k) ?_
  refine Go.st (V' := T7.setTop (mkF m 6 #[.val (.ref r0), .val (.ref r1), .val .null, .val .null] [(.ref r1), (.ref r0)])) (fun t k => ?_) ?_
  · refine XS.aloadN X7.here hx rfl (hb hby own_d3_4) rfl rfl ?_
    show Steps p.tables e below (T7.setTop (mkF m 5 #[.val (.ref r0), .val (.ref r1), .val .null, .val .null] [(.ref r0)])) _
    refine XS.aloadN X7.here hx rfl (hb hby own_d3_5) rfl rfl ?_
    show Steps p.tables e below (T7.setTop (mkF m 6 #[.val (.ref r0), .val (.ref r1), .val .null, .val .null] [(.ref r1), (.ref r0)])) _
    exact k
  obtain ⟨T8, h8, X8, e8, W8, st8⟩ := putF X7 hx hZ hown (host := "") (Or.inl (hw _ (List.mem_of_getElem? (i := 28) rfl))) Via.refl rfl (F_state_r0.keep K7 nin0) (E_r0.keep K7) (Or.inr ⟨(hw _ (List.mem_of_getElem? (i := 29) rfl)), rfl, hnm⟩) (hw _ (List.mem_of_getElem? (i := 13) rfl)) (ty := (.object "com/example/reprise/reprise/core/TaskState")) (by decide) rfl rfl (g := (mkF m 6 #[.val (.ref r0), .val (.ref r1), .val .null, .val .null] [(.ref r1), (.ref r0)])) rfl rfl (hb hby own_d3_6)
  have O8 := O7.wr W8 g_r0
  have F8 := (F_state_r0.keep K7 nin0).same W8
  have N8 := Fr.snoc X8 N7 g_r0
  have K8 := KA7.wr W8 (Or.inl (List.mem_of_getElem? (i := 0) rfl))
  refine Go.st (V' := T8.setTop (mkF m 9 #[.val (.ref r0), .val (.ref r1), .val .null, .val .null] [])) (fun t k => st8 t k) ?_
  refine Go.st (V' := T8.setTop (mkF m 11 #[.val (.ref r0), .val (.ref r1), .val .null, .val .null] [.null, (.ref r0)])) (fun t k => ?_) ?_
  · refine XS.aloadN X8.here hx rfl (hb hby own_d3_9) rfl rfl ?_
    show Steps p.tables e below (T8.setTop (mkF m 10 #[.val (.ref r0), .val (.ref r1), .val .null, .val .null] [(.ref r0)])) _
    refine XS.aloadN X8.here hx rfl (hb hby own_d3_10) rfl rfl ?_
    show Steps p.tables e below (T8.setTop (mkF m 11 #[.val (.ref r0), .val (.ref r1), .val .null, .val .null] [.null, (.ref r0)])) _
    exact k
  obtain ⟨T9, h9, X9, e9, W9, st9⟩ := putF X8 hx hZ hown (host := "") (Or.inl (hw _ (List.mem_of_getElem? (i := 30) rfl))) Via.refl e8 ((F_reason_r0.keep K7 nin0).other W8 (Or.inr (slot_ne (Or.inr (hw _ (List.mem_of_getElem? (i := 31) rfl))) (Or.inr (hw _ (List.mem_of_getElem? (i := 29) rfl))) (by decide) (t := (.object "com/example/reprise/reprise/core/ParkReason")) (t' := (.object "com/example/reprise/reprise/core/TaskState")) (by decide) (by decide)))) ((E_r0.keep K7).wr W8) (Or.inr ⟨(hw _ (List.mem_of_getElem? (i := 31) rfl)), rfl, hnm⟩) (hw _ (List.mem_of_getElem? (i := 13) rfl)) (ty := (.object "com/example/reprise/reprise/core/ParkReason")) (by decide) rfl rfl (g := (mkF m 11 #[.val (.ref r0), .val (.ref r1), .val .null, .val .null] [.null, (.ref r0)])) rfl rfl (hb hby own_d3_11)
  have O9 := O8.wr W9 g_r0
  have F9 := ((F_reason_r0.keep K7 nin0).other W8 (Or.inr (slot_ne (Or.inr (hw _ (List.mem_of_getElem? (i := 31) rfl))) (Or.inr (hw _ (List.mem_of_getElem? (i := 29) rfl))) (by decide) (t := (.object "com/example/reprise/reprise/core/ParkReason")) (t' := (.object "com/example/reprise/reprise/core/TaskState")) (by decide) (by decide)))).same W9
  have N9 := Fr.snoc X9 N8 g_r0
  have K9 := K8.wr W9 (Or.inl (List.mem_of_getElem? (i := 0) rfl))
  refine Go.st (V' := T9.setTop (mkF m 14 #[.val (.ref r0), .val (.ref r1), .val .null, .val .null] [])) (fun t k => st9 t k) ?_
  refine Go.st (V' := T9.setTop (mkF m 16 #[.val (.ref r0), .val (.ref r1), .val .null, .val .null] [.null, (.ref r0)])) (fun t k => ?_) ?_
  · refine XS.aloadN X9.here hx rfl (hb hby own_d3_14) rfl rfl ?_
    show Steps p.tables e below (T9.setTop (mkF m 15 #[.val (.ref r0), .val (.ref r1), .val .null, .val .null] [(.ref r0)])) _
    refine XS.aloadN X9.here hx rfl (hb hby own_d3_15) rfl rfl ?_
    show Steps p.tables e below (T9.setTop (mkF m 16 #[.val (.ref r0), .val (.ref r1), .val .null, .val .null] [.null, (.ref r0)])) _
    exact k
  obtain ⟨T10, h10, X10, e10, W10, st10⟩ := putF X9 hx hZ hown (host := "") (Or.inl (hw _ (List.mem_of_getElem? (i := 32) rfl))) Via.refl e9 (((F_dueAt_r0.keep K7 nin0).other W8 (Or.inr (slot_ne (Or.inr (hw _ (List.mem_of_getElem? (i := 33) rfl))) (Or.inr (hw _ (List.mem_of_getElem? (i := 29) rfl))) (by decide) (t := (.object "java/time/Instant")) (t' := (.object "com/example/reprise/reprise/core/TaskState")) (by decide) (by decide)))).other W9 (Or.inr (slot_ne (Or.inr (hw _ (List.mem_of_getElem? (i := 33) rfl))) (Or.inr (hw _ (List.mem_of_getElem? (i := 31) rfl))) (by decide) (t := (.object "java/time/Instant")) (t' := (.object "com/example/reprise/reprise/core/ParkReason")) (by decide) (by decide)))) (((E_r0.keep K7).wr W8).wr W9) (Or.inr ⟨(hw _ (List.mem_of_getElem? (i := 33) rfl)), rfl, hnm⟩) (hw _ (List.mem_of_getElem? (i := 13) rfl)) (ty := (.object "java/time/Instant")) (by decide) rfl rfl (g := (mkF m 16 #[.val (.ref r0), .val (.ref r1), .val .null, .val .null] [.null, (.ref r0)])) rfl rfl (hb hby own_d3_16)
  have O10 := O9.wr W10 g_r0
  have F10 := (((F_dueAt_r0.keep K7 nin0).other W8 (Or.inr (slot_ne (Or.inr (hw _ (List.mem_of_getElem? (i := 33) rfl))) (Or.inr (hw _ (List.mem_of_getElem? (i := 29) rfl))) (by decide) (t := (.object "java/time/Instant")) (t' := (.object "com/example/reprise/reprise/core/TaskState")) (by decide) (by decide)))).other W9 (Or.inr (slot_ne (Or.inr (hw _ (List.mem_of_getElem? (i := 33) rfl))) (Or.inr (hw _ (List.mem_of_getElem? (i := 31) rfl))) (by decide) (t := (.object "java/time/Instant")) (t' := (.object "com/example/reprise/reprise/core/ParkReason")) (by decide) (by decide)))).same W10
  have N10 := Fr.snoc X10 N9 g_r0
  have K10 := K9.wr W10 (Or.inl (List.mem_of_getElem? (i := 0) rfl))
  refine Go.st (V' := T10.setTop (mkF m 19 #[.val (.ref r0), .val (.ref r1), .val .null, .val .null] [])) (fun t k => st10 t k) ?_
  obtain ⟨fs, hr, hrun, hended, hW, hsame⟩ := X10.leave (v := none) (fun _ => rfl)
  refine Go.mk' ⟨_, _, X10.returnOut hx Bd.returns (hb hby own_d3_19) hr, hrun, hended, _, _, rfl, ?_, ⟨_, rfl⟩, hW, hsame.mono (by decide) (by decide)⟩
  show Q3s Z s_MAX_ATTEMPTS s_SUCCEEDED s_PARKED s_PENDING s_EXPIRED s_REJECTED r0 r1 u_state_r0 u_reason_r0 u_dueAt_r0 h0 n0 _ T10.heap _
  rw [e10]
  exact ⟨rfl, N10, K10, ((F8.other W9 (Or.inr (slot_ne (Or.inr (hw _ (List.mem_of_getElem? (i := 29) rfl))) (Or.inr (hw _ (List.mem_of_getElem? (i := 31) rfl))) (by decide) (t := (.object "com/example/reprise/reprise/core/TaskState")) (t' := (.object "com/example/reprise/reprise/core/ParkReason")) (by decide) (by decide)))).other W10 (Or.inr (slot_ne (Or.inr (hw _ (List.mem_of_getElem? (i := 29) rfl))) (Or.inr (hw _ (List.mem_of_getElem? (i := 33) rfl))) (by decide) (t := (.object "com/example/reprise/reprise/core/TaskState")) (t' := (.object "java/time/Instant")) (by decide) (by decide)))), (F9.other W10 (Or.inr (slot_ne (Or.inr (hw _ (List.mem_of_getElem? (i := 31) rfl))) (Or.inr (hw _ (List.mem_of_getElem? (i := 33) rfl))) (by decide) (t := (.object "com/example/reprise/reprise/core/ParkReason")) (t' := (.object "java/time/Instant")) (by decide) (by decide)))), F10, ((((E_r0.keep K7).wr W8).wr W9).wr W10)⟩
theorem own_d2_0 : decode prog_14_method_2_code 0 = .ok (.new 8, 3) := by decide +kernel
theorem own_d2_3 : decode prog_14_method_2_code 3 = .ok (.dup, 1) := by decide +kernel
theorem own_d2_4 : decode prog_14_method_2_code 4 = .ok (.getstatic 21, 3) := by decide +kernel
theorem own_d2_7 : decode prog_14_method_2_code 7 = .ok (.aconst_null, 1) := by decide +kernel
theorem own_d2_8 : decode prog_14_method_2_code 8 = .ok (.aconst_null, 1) := by decide +kernel
theorem own_d2_9 : decode prog_14_method_2_code 9 = .ok (.invokespecial 26, 3) := by decide +kernel
theorem own_pd43 : parseMethodDescriptor "(Lcom/example/reprise/reprise/core/TaskState;Lcom/example/reprise/reprise/core/ParkReason;Ljava/time/Instant;)V" = some ⟨[(.object "com/example/reprise/reprise/core/TaskState"), (.object "com/example/reprise/reprise/core/ParkReason"), (.object "java/time/Instant")], none⟩ := by decide +kernel
theorem own_d2_12 : decode prog_14_method_2_code 12 = .ok (.areturn, 1) := by decide +kernel
theorem ef2 (m : MethodId) : entryFrame m #[] 0 = mkF m 0 #[] [] := by first | (simp [entryFrame, mkF, argsToLocals, Value.category]; done) | rfl
def Q2 (Z : State) (s_MAX_ATTEMPTS : Addr) (s_SUCCEEDED : Addr) (s_PARKED : Addr) (s_PENDING : Addr) (s_EXPIRED : Addr) (s_REJECTED : Addr) (h0 : Heap) (n0 : Nat) (v : Option Value) (h : Heap) (L : List Loc) : Prop := ∃ y0 : Addr, v = some (.ref y0) ∧ Fr n0 L ∧ Keep h0 h [] ∧ h0.size ≤ y0 ∧ Exa Z h y0 "com/example/reprise/reprise/core/NextStep" ∧ Fld Z h y0 "com/example/reprise/reprise/core/NextStep" "state" "Lcom/example/reprise/reprise/core/TaskState;" (.ref s_SUCCEEDED) ∧ Fld Z h y0 "com/example/reprise/reprise/core/NextStep" "reason" "Lcom/example/reprise/reprise/core/ParkReason;" .null ∧ Fld Z h y0 "com/example/reprise/reprise/core/NextStep" "dueAt" "Ljava/time/Instant;" .null
set_option maxRecDepth 65536 in
set_option maxHeartbeats 40000000 in
theorem rm2 (l : Launch) (Z : State) (a0 : Array Value) (hw : ∀ d ∈ tables_1, d.before a0 Z = true) (ws : List Jvm.Cond) (s_MAX_ATTEMPTS : Addr) (s_SUCCEEDED : Addr) (s_PARKED : Addr) (s_PENDING : Addr) (s_EXPIRED : Addr) (s_REJECTED : Addr) (HW : W0 Z s_MAX_ATTEMPTS s_SUCCEEDED s_PARKED s_PENDING s_EXPIRED s_REJECTED) (h0 : Heap) (n0 : Nat) (O0 : Old Z n0 h0) :
    MetFree l (⟨"com/example/reprise/reprise/core/NextStep", "succeeded", "()Lcom/example/reprise/reprise/core/NextStep;"⟩ : MethodName) (head1 (Jvm.Cond.code (⟨"com/example/reprise/reprise/core/NextStep", "succeeded", "()Lcom/example/reprise/reprise/core/NextStep;"⟩ : MethodName) prog_14_method_2_code 0 (some (.object "com/example/reprise/reprise/core/NextStep")) :: ws) ({ frames := 3, cells := 1, slots := 3, locals := 40 } : Room)) (fun a U => a = #[] ∧ Z.Warmed39 U.vm ∧ U.heap = h0) (fun _ _ _ _ _ => True) (fun _ U o U' => ∃ v L, o = .returned v ∧ Q2 Z s_MAX_ATTEMPTS s_SUCCEEDED s_PARKED s_PENDING s_EXPIRED s_REJECTED h0 n0 v U'.heap L ∧ FrameEnd U o U' L ({ frames := 3, cells := 1, slots := 3, locals := 40 } : Room).cells ({ frames := 3, cells := 1, slots := 3, locals := 40 } : Room).slots) := by
  refine MetFree.of_bodySF (plainFor_of_name own_pn3) hisR ?_
  intro p e s m args below meth c s₁ Bd hml0 hP hK
  obtain ⟨rfl, hZ, hh⟩ := hP
  obtain ⟨E_MAX_ATTEMPTS, S_MAX_ATTEMPTS, E_SUCCEEDED, S_SUCCEEDED, E_PARKED, S_PARKED, E_PENDING, S_PENDING, E_EXPIRED, S_EXPIRED, E_REJECTED, S_REJECTED, F_SUCCEEDED_ordinal, F_PENDING_ordinal, F_PARKED_ordinal⟩ := id HW
  have hx := Bd.exec
  have hby := Bd.bytes
  have hml : c.maxLocals = 0 := hml0
  have hown : s.vm.findClass "com/example/reprise/reprise/core/NextStep" = some m.cls := findClass_of_methodNamed Bd.named
  have hnm := (name_of_methodNamed Bd.named Bd.method).1
  have X0 : Stand p l e ({ frames := 3, cells := 1, slots := 3, locals := 40 } : Room) s m #[] below meth c s₁ [] 0 0 := Stand.of_body Bd
  have e0 : s₁.heap = h0 := by rw [← hh, Bd.state]; rfl
  have N0 := Fr.nil n0
  have K0 := Keep.refl h0 []
  refine Go.out ?_
  refine Go.st (V' := s₁.setTop (mkF m 0 #[] [])) (fun t k => castTop (ef2 m) k) ?_
  obtain ⟨T11, h11, X11, e11, E11, A11, D11, U11, st11⟩ := newO X0 hx hZ hown (hw _ (List.mem_of_getElem? (i := 12) rfl)) (hw _ (List.mem_of_getElem? (i := 13) rfl)) (hw _ (List.mem_of_getElem? (i := 10) rfl)) e0 (g := (mkF m 0 #[] [])) rfl (hb hby own_d2_0) (by decide) (by decide)
  obtain ⟨b11, g11⟩ : ∃ z, z = h0.size := ⟨_, rfl⟩
  rw [← g11] at A11 D11 U11 st11
  have g_b11 : n0 ≤ b11 := Nat.le_trans (Nat.le_trans (Nat.le_of_eq O0.1.symm) O0.2.1) (Nat.le_of_eq g11.symm)
  have sz_b11 : h0.size ≤ b11 := Nat.le_trans K0.1 (Nat.le_of_eq g11.symm)
  have K11 := K0.ext E11
  have O11 := O0.ext E11
  have F_state_b11 : Fld Z h11 b11 "com/example/reprise/reprise/core/NextStep" "state" "Lcom/example/reprise/reprise/core/TaskState;" .null := D11 (Or.inr (hw _ (List.mem_of_getElem? (i := 29) rfl))) (ty := (.object "com/example/reprise/reprise/core/TaskState")) (by decide)
  have F_reason_b11 : Fld Z h11 b11 "com/example/reprise/reprise/core/NextStep" "reason" "Lcom/example/reprise/reprise/core/ParkReason;" .null := D11 (Or.inr (hw _ (List.mem_of_getElem? (i := 31) rfl))) (ty := (.object "com/example/reprise/reprise/core/ParkReason")) (by decide)
  have F_dueAt_b11 : Fld Z h11 b11 "com/example/reprise/reprise/core/NextStep" "dueAt" "Ljava/time/Instant;" .null := D11 (Or.inr (hw _ (List.mem_of_getElem? (i := 33) rfl))) (ty := (.object "java/time/Instant")) (by decide)
  refine Go.st (V' := T11.setTop (mkF m 3 #[] [(.ref b11)])) (fun t k => st11 t k) ?_
  refine Go.st (V' := T11.setTop (mkF m 4 #[] [(.ref b11), (.ref b11)])) (fun t k => ?_) ?_
  · refine XS.dup X11.here hx rfl (hb hby own_d2_3) rfl rfl ?_
    show Steps p.tables e below (T11.setTop (mkF m 4 #[] [(.ref b11), (.ref b11)])) _
    exact k
  obtain ⟨T12, X12, e12, st12⟩ := getS2 X11 hx hZ hown (host := "") (Or.inl (hw _ (List.mem_of_getElem? (i := 14) rfl))) Via.refl e11 (S_SUCCEEDED.ext O11.2) (g := (mkF m 4 #[] [(.ref b11), (.ref b11)])) rfl (hb hby own_d2_4)
  refine Go.st (V' := T12.setTop (mkF m 7 #[] [(.ref s_SUCCEEDED), (.ref b11), (.ref b11)])) (fun t k => st12 t k) ?_
  refine Go.st (V' := T12.setTop (mkF m 9 #[] [.null, .null, (.ref s_SUCCEEDED), (.ref b11), (.ref b11)])) (fun t k => ?_) ?_
  · refine XS.aconstNull X12.here hx rfl (hb hby own_d2_7) ?_
    show Steps p.tables e below (T12.setTop (mkF m 8 #[] [.null, (.ref s_SUCCEEDED), (.ref b11), (.ref b11)])) _
    refine XS.aconstNull X12.here hx rfl (hb hby own_d2_8) ?_
    show Steps p.tables e below (T12.setTop (mkF m 9 #[] [.null, .null, (.ref s_SUCCEEDED), (.ref b11), (.ref b11)])) _
    exact k
  obtain ⟨_, _, ⟨T13, L13, k13, n13⟩, -, X13, ⟨Lc13, hQ13, l13, y13, z13⟩, st13⟩ := X12.specialBack hx (y := (⟨"com/example/reprise/reprise/core/NextStep", "<init>", "(Lcom/example/reprise/reprise/core/TaskState;Lcom/example/reprise/reprise/core/ParkReason;Ljava/time/Instant;)V"⟩ : MethodName)) rfl hown (mvT hZ (hw _ (List.mem_of_getElem? (i := 17) rfl))) (mvT hZ (hw _ (List.mem_of_getElem? (i := 18) rfl))) (mvT hZ (hw _ (List.mem_of_getElem? (i := 19) rfl))) (by decide) (backOf (W := 1) (rm3s l Z a0 hw [] s_MAX_ATTEMPTS s_SUCCEEDED s_PARKED s_PENDING s_EXPIRED s_REJECTED HW b11 s_SUCCEEDED .null .null .null h11 n0 O11 A11 F_state_b11 g_b11 F_reason_b11 F_dueAt_b11) hZ (hw _ (List.mem_of_getElem? (i := 19) rfl)) (hw _ (List.mem_of_getElem? (i := 10) rfl)) (by decide) (by decide)) (g := (mkF m 9 #[] [.null, .null, (.ref s_SUCCEEDED), (.ref b11), (.ref b11)])) rfl (by rw [hml]; rfl) (Steps.refl _) (a := b11) (argsL := [(.ref s_SUCCEEDED), .null, .null]) (rest := [(.ref b11)]) (lenOf own_pd43 rfl) rfl (by show 2 * 0 + _ ≤ _; exact Nat.le_of_eq rfl) (hb hby own_d2_9) (fun _ _ => ⟨rfl, e12, (by decide : 1 + 0 ≤ _), (by decide : 3 + 0 ≤ _)⟩)
  dsimp only [Pt.U, Pt.locs, Pt.cells, Pt.slots] at X13 l13 y13 z13 st13 hQ13
  subst l13 y13 z13
  obtain ⟨rfl, N13q, K13, f13_0, f13_1, f13_2, f13_3⟩ := hQ13
  have N13 := Fr.app N0 N13q
  have O13 := O11.keep K13 (allS g_b11 all0)
  have KA13 := K11.trans K13 (allS (Or.inr sz_b11) all0)
  refine Go.st (V' := T13.setTop (mkF m 12 #[] [(.ref b11)])) (fun t k => st13.trans k) ?_
  obtain ⟨fs, hr, hrun, hended, hW, hsame⟩ := X13.leave (v := some (.ref b11)) (fun h => by rw [Bd.returns] at h; cases h)
  refine Go.mk' ⟨_, _, retOut X13 hx Bd.returns rfl (Or.inr (Or.inr (Or.inr (Or.inr ⟨rfl, rfl, rfl⟩)))) (hb hby own_d2_12) hr, hrun, hended, _, _, rfl, ?_, ⟨_, rfl⟩, hW, hsame.mono (by decide) (by decide)⟩
  show Q2 Z s_MAX_ATTEMPTS s_SUCCEEDED s_PARKED s_PENDING s_EXPIRED s_REJECTED h0 n0 _ T13.heap _
  exact ⟨b11, rfl, N13, KA13, sz_b11, f13_3, f13_0, f13_1, f13_2⟩
theorem ef3 (m : MethodId) (r0 : Addr) (r1 : Addr) (r2 : Addr) : entryFrame m #[(.ref r0), (.ref r1), (.ref r2), .null] 4 = mkF m 0 #[.val (.ref r0), .val (.ref r1), .val (.ref r2), .val .null] [] := by first | (simp [entryFrame, mkF, argsToLocals, Value.category]; done) | rfl
def Q3 (Z : State) (s_MAX_ATTEMPTS : Addr) (s_SUCCEEDED : Addr) (s_PARKED : Addr) (s_PENDING : Addr) (s_EXPIRED : Addr) (s_REJECTED : Addr) (r0 : Addr) (r1 : Addr) (r2 : Addr) (u_state_r0 : Value) (u_reason_r0 : Value) (u_dueAt_r0 : Value) (h0 : Heap) (n0 : Nat) (v : Option Value) (h : Heap) (L : List Loc) : Prop := v = none ∧ Fr n0 L ∧ Keep h0 h [r0] ∧ Fld Z h r0 "com/example/reprise/reprise/core/NextStep" "state" "Lcom/example/reprise/reprise/core/TaskState;" (.ref r1) ∧ Fld Z h r0 "com/example/reprise/reprise/core/NextStep" "reason" "Lcom/example/reprise/reprise/core/ParkReason;" (.ref r2) ∧ Fld Z h r0 "com/example/reprise/reprise/core/NextStep" "dueAt" "Ljava/time/Instant;" .null ∧ Exa Z h r0 "com/example/reprise/reprise/core/NextStep"
set_option maxRecDepth 65536 in
set_option maxHeartbeats 40000000 in
theorem rm3 (l : Launch) (Z : State) (a0 : Array Value) (hw : ∀ d ∈ tables_1, d.before a0 Z = true) (ws : List Jvm.Cond) (s_MAX_ATTEMPTS : Addr) (s_SUCCEEDED : Addr) (s_PARKED : Addr) (s_PENDING : Addr) (s_EXPIRED : Addr) (s_REJECTED : Addr) (HW : W0 Z s_MAX_ATTEMPTS s_SUCCEEDED s_PARKED s_PENDING s_EXPIRED s_REJECTED) (r0 : Addr) (r1 : Addr) (r2 : Addr) (u_state_r0 : Value) (u_reason_r0 : Value) (u_dueAt_r0 : Value) (h0 : Heap) (n0 : Nat) (O0 : Old Z n0 h0) (E_r0 : Exa Z h0 r0 "com/example/reprise/reprise/core/NextStep") (F_state_r0 : Fld Z h0 r0 "com/example/reprise/reprise/core/NextStep" "state" "Lcom/example/reprise/reprise/core/TaskState;" u_state_r0) (g_r0 : n0 ≤ r0) (F_reason_r0 : Fld Z h0 r0 "com/example/reprise/reprise/core/NextStep" "reason" "Lcom/example/reprise/reprise/core/ParkReason;" u_reason_r0) (F_dueAt_r0 : Fld Z h0 r0 "com/example/reprise/reprise/core/NextStep" "dueAt" "Ljava/time/Instant;" u_dueAt_r0) :
    MetFree l (⟨"com/example/reprise/reprise/core/NextStep", "<init>", "(Lcom/example/reprise/reprise/core/TaskState;Lcom/example/reprise/reprise/core/ParkReason;Ljava/time/Instant;)V"⟩ : MethodName) (head1 (Jvm.Cond.code (⟨"com/example/reprise/reprise/core/NextStep", "<init>", "(Lcom/example/reprise/reprise/core/TaskState;Lcom/example/reprise/reprise/core/ParkReason;Ljava/time/Instant;)V"⟩ : MethodName) prog_14_method_1_code 4 none :: ws) ({ frames := 2, cells := 0, slots := 0, locals := 24 } : Room)) (fun a U => a = #[(.ref r0), (.ref r1), (.ref r2), .null] ∧ Z.Warmed39 U.vm ∧ U.heap = h0) (fun _ _ _ _ _ => True) (fun _ U o U' => ∃ v L, o = .returned v ∧ Q3 Z s_MAX_ATTEMPTS s_SUCCEEDED s_PARKED s_PENDING s_EXPIRED s_REJECTED r0 r1 r2 u_state_r0 u_reason_r0 u_dueAt_r0 h0 n0 v U'.heap L ∧ FrameEnd U o U' L ({ frames := 2, cells := 0, slots := 0, locals := 24 } : Room).cells ({ frames := 2, cells := 0, slots := 0, locals := 24 } : Room).slots) := by
  refine MetFree.of_bodySF (plainFor_of_name own_pn3) hisR ?_
  intro p e s m args below meth c s₁ Bd hml0 hP hK
  obtain ⟨rfl, hZ, hh⟩ := hP
  obtain ⟨E_MAX_ATTEMPTS, S_MAX_ATTEMPTS, E_SUCCEEDED, S_SUCCEEDED, E_PARKED, S_PARKED, E_PENDING, S_PENDING, E_EXPIRED, S_EXPIRED, E_REJECTED, S_REJECTED, F_SUCCEEDED_ordinal, F_PENDING_ordinal, F_PARKED_ordinal⟩ := id HW
  have hx := Bd.exec
  have hby := Bd.bytes
  have hml : c.maxLocals = 4 := hml0
  have hown : s.vm.findClass "com/example/reprise/reprise/core/NextStep" = some m.cls := findClass_of_methodNamed Bd.named
  have hnm := (name_of_methodNamed Bd.named Bd.method).1
  have X0 : Stand p l e ({ frames := 2, cells := 0, slots := 0, locals := 24 } : Room) s m #[(.ref r0), (.ref r1), (.ref r2), .null] below meth c s₁ [] 0 0 := Stand.of_body Bd
  have e0 : s₁.heap = h0 := by rw [← hh, Bd.state]; rfl
  have N0 := Fr.nil n0
  have K0 := Keep.refl h0 [r0]
  refine Go.out ?_
  refine Go.st (V' := s₁.setTop (mkF m 0 #[.val (.ref r0), .val (.ref r1), .val (.ref r2), .val .null] [])) (fun t k => castTop (ef3 m r0 r1 r2) k) ?_
  refine Go.st (V' := s₁.setTop (mkF m 1 #[.val (.ref r0), .val (.ref r1), .val (.ref r2), .val .null] [(.ref r0)])) (fun t k => ?_) ?_
  · refine XS.aloadN X0.here hx rfl (hb hby own_d3_0) rfl rfl ?_
    show Steps p.tables e below (s₁.setTop (mkF m 1 #[.val (.ref r0), .val (.ref r1), .val (.ref r2), .val .null] [(.ref r0)])) _
    exact k
  obtain ⟨_, _, ⟨T14, L14, k14, n14⟩, -, X14, ⟨Lc14, hQ14, l14, y14, z14⟩, st14⟩ := X0.specialBack hx (y := (⟨"java/lang/Record", "<init>", "()V"⟩ : MethodName)) rfl hown (mvT hZ (hw _ (List.mem_of_getElem? (i := 20) rfl))) (mvT hZ (hw _ (List.mem_of_getElem? (i := 21) rfl))) (mvT hZ (hw _ (List.mem_of_getElem? (i := 24) rfl))) (by decide) (backOf (W := 0) (rm4 l Z a0 hw [] s_MAX_ATTEMPTS s_SUCCEEDED s_PARKED s_PENDING s_EXPIRED s_REJECTED HW r0 h0 n0 O0) hZ (hw _ (List.mem_of_getElem? (i := 24) rfl)) (hw _ (List.mem_of_getElem? (i := 23) rfl)) (by decide) (by decide)) (g := (mkF m 1 #[.val (.ref r0), .val (.ref r1), .val (.ref r2), .val .null] [(.ref r0)])) rfl (by rw [hml]; rfl) (Steps.refl _) (a := r0) (argsL := []) (rest := []) (lenOf own_pd26 rfl) rfl (by show 2 * 0 + _ ≤ _; exact Nat.le_of_eq rfl) (hb hby own_d3_1) (fun _ _ => ⟨rfl, e0, (by decide : 0 + 0 ≤ _), (by decide : 0 + 0 ≤ _)⟩)
  dsimp only [Pt.U, Pt.locs, Pt.cells, Pt.slots] at X14 l14 y14 z14 st14 hQ14
  subst l14 y14 z14
  obtain ⟨rfl, N14q, K14⟩ := hQ14
  have N14 := Fr.app N0 N14q
  have O14 := O0.keep K14 all0
  have KA14 := K0.trans K14 all0
  refine Go.st (V' := T14.setTop (mkF m 4 #[.val (.ref r0), .val (.ref r1), .val (.ref r2), .val .null] [])) (fun t k => st14.trans k) ?_
  refine Go.st (V' := T14.setTop (mkF m 6 #[.val (.ref r0), .val (.ref r1), .val (.ref r2), .val .null] [(.ref r1), (.ref r0)])) (fun t k => ?_) ?_
  · refine XS.aloadN X14.here hx rfl (hb hby own_d3_4) rfl rfl ?_
    show Steps p.tables e below (T14.setTop (mkF m 5 #[.val (.ref r0), .val (.ref r1), .val (.ref r2), .val .null] [(.ref r0)])) _
    refine XS.aloadN X14.here hx rfl (hb hby own_d3_5) rfl rfl ?_
    show Steps p.tables e below (T14.setTop (mkF m 6 #[.val (.ref r0), .val (.ref r1), .val (.ref r2), .val .null] [(.ref r1), (.ref r0)])) _
    exact k
  obtain ⟨T15, h15, X15, e15, W15, st15⟩ := putF X14 hx hZ hown (host := "") (Or.inl (hw _ (List.mem_of_getElem? (i := 28) rfl))) Via.refl rfl (F_state_r0.keep K14 nin0) (E_r0.keep K14) (Or.inr ⟨(hw _ (List.mem_of_getElem? (i := 29) rfl)), rfl, hnm⟩) (hw _ (List.mem_of_getElem? (i := 13) rfl)) (ty := (.object "com/example/reprise/reprise/core/TaskState")) (by decide) rfl rfl (g := (mkF m 6 #[.val (.ref r0), .val (.ref r1), .val (.ref r2), .val .null] [(.ref r1), (.ref r0)])) rfl rfl (hb hby own_d3_6)
  have O15 := O14.wr W15 g_r0
  have F15 := (F_state_r0.keep K14 nin0).same W15
  have N15 := Fr.snoc X15 N14 g_r0
  have K15 := KA14.wr W15 (Or.inl (List.mem_of_getElem? (i := 0) rfl))
  refine Go.st (V' := T15.setTop (mkF m 9 #[.val (.ref r0), .val (.ref r1), .val (.ref r2), .val .null] [])) (fun t k => st15 t k) ?_
  refine Go.st (V' := T15.setTop (mkF m 11 #[.val (.ref r0), .val (.ref r1), .val (.ref r2), .val .null] [(.ref r2), (.ref r0)])) (fun t k => ?_) ?_
  · refine XS.aloadN X15.here hx rfl (hb hby own_d3_9) rfl rfl ?_
    show Steps p.tables e below (T15.setTop (mkF m 10 #[.val (.ref r0), .val (.ref r1), .val (.ref r2), .val .null] [(.ref r0)])) _
    refine XS.aloadN X15.here hx rfl (hb hby own_d3_10) rfl rfl ?_
    show Steps p.tables e below (T15.setTop (mkF m 11 #[.val (.ref r0), .val (.ref r1), .val (.ref r2), .val .null] [(.ref r2), (.ref r0)])) _
    exact k
  obtain ⟨T16, h16, X16, e16, W16, st16⟩ := putF X15 hx hZ hown (host := "") (Or.inl (hw _ (List.mem_of_getElem? (i := 30) rfl))) Via.refl e15 ((F_reason_r0.keep K14 nin0).other W15 (Or.inr (slot_ne (Or.inr (hw _ (List.mem_of_getElem? (i := 31) rfl))) (Or.inr (hw _ (List.mem_of_getElem? (i := 29) rfl))) (by decide) (t := (.object "com/example/reprise/reprise/core/ParkReason")) (t' := (.object "com/example/reprise/reprise/core/TaskState")) (by decide) (by decide)))) ((E_r0.keep K14).wr W15) (Or.inr ⟨(hw _ (List.mem_of_getElem? (i := 31) rfl)), rfl, hnm⟩) (hw _ (List.mem_of_getElem? (i := 13) rfl)) (ty := (.object "com/example/reprise/reprise/core/ParkReason")) (by decide) rfl rfl (g := (mkF m 11 #[.val (.ref r0), .val (.ref r1), .val (.ref r2), .val .null] [(.ref r2), (.ref r0)])) rfl rfl (hb hby own_d3_11)
  have O16 := O15.wr W16 g_r0
  have F16 := ((F_reason_r0.keep K14 nin0).other W15 (Or.inr (slot_ne (Or.inr (hw _ (List.mem_of_getElem? (i := 31) rfl))) (Or.inr (hw _ (List.mem_of_getElem? (i := 29) rfl))) (by decide) (t := (.object "com/example/reprise/reprise/core/ParkReason")) (t' := (.object "com/example/reprise/reprise/core/TaskState")) (by decide) (by decide)))).same W16
  have N16 := Fr.snoc X16 N15 g_r0
  have K16 := K15.wr W16 (Or.inl (List.mem_of_getElem? (i := 0) rfl))
  refine Go.st (V' := T16.setTop (mkF m 14 #[.val (.ref r0), .val (.ref r1), .val (.ref r2), .val .null] [])) (fun t k => st16 t k) ?_
  refine Go.st (V' := T16.setTop (mkF m 16 #[.val (.ref r0), .val (.ref r1), .val (.ref r2), .val .null] [.null, (.ref r0)])) (fun t k => ?_) ?_
  · refine XS.aloadN X16.here hx rfl (hb hby own_d3_14) rfl rfl ?_
    show Steps p.tables e below (T16.setTop (mkF m 15 #[.val (.ref r0), .val (.ref r1), .val (.ref r2), .val .null] [(.ref r0)])) _
    refine XS.aloadN X16.here hx rfl (hb hby own_d3_15) rfl rfl ?_
    show Steps p.tables e below (T16.setTop (mkF m 16 #[.val (.ref r0), .val (.ref r1), .val (.ref r2), .val .null] [.null, (.ref r0)])) _
    exact k
  obtain ⟨T17, h17, X17, e17, W17, st17⟩ := putF X16 hx hZ hown (host := "") (Or.inl (hw _ (List.mem_of_getElem? (i := 32) rfl))) Via.refl e16 (((F_dueAt_r0.keep K14 nin0).other W15 (Or.inr (slot_ne (Or.inr (hw _ (List.mem_of_getElem? (i := 33) rfl))) (Or.inr (hw _ (List.mem_of_getElem? (i := 29) rfl))) (by decide) (t := (.object "java/time/Instant")) (t' := (.object "com/example/reprise/reprise/core/TaskState")) (by decide) (by decide)))).other W16 (Or.inr (slot_ne (Or.inr (hw _ (List.mem_of_getElem? (i := 33) rfl))) (Or.inr (hw _ (List.mem_of_getElem? (i := 31) rfl))) (by decide) (t := (.object "java/time/Instant")) (t' := (.object "com/example/reprise/reprise/core/ParkReason")) (by decide) (by decide)))) (((E_r0.keep K14).wr W15).wr W16) (Or.inr ⟨(hw _ (List.mem_of_getElem? (i := 33) rfl)), rfl, hnm⟩) (hw _ (List.mem_of_getElem? (i := 13) rfl)) (ty := (.object "java/time/Instant")) (by decide) rfl rfl (g := (mkF m 16 #[.val (.ref r0), .val (.ref r1), .val (.ref r2), .val .null] [.null, (.ref r0)])) rfl rfl (hb hby own_d3_16)
  have O17 := O16.wr W17 g_r0
  have F17 := (((F_dueAt_r0.keep K14 nin0).other W15 (Or.inr (slot_ne (Or.inr (hw _ (List.mem_of_getElem? (i := 33) rfl))) (Or.inr (hw _ (List.mem_of_getElem? (i := 29) rfl))) (by decide) (t := (.object "java/time/Instant")) (t' := (.object "com/example/reprise/reprise/core/TaskState")) (by decide) (by decide)))).other W16 (Or.inr (slot_ne (Or.inr (hw _ (List.mem_of_getElem? (i := 33) rfl))) (Or.inr (hw _ (List.mem_of_getElem? (i := 31) rfl))) (by decide) (t := (.object "java/time/Instant")) (t' := (.object "com/example/reprise/reprise/core/ParkReason")) (by decide) (by decide)))).same W17
  have N17 := Fr.snoc X17 N16 g_r0
  have K17 := K16.wr W17 (Or.inl (List.mem_of_getElem? (i := 0) rfl))
  refine Go.st (V' := T17.setTop (mkF m 19 #[.val (.ref r0), .val (.ref r1), .val (.ref r2), .val .null] [])) (fun t k => st17 t k) ?_
  obtain ⟨fs, hr, hrun, hended, hW, hsame⟩ := X17.leave (v := none) (fun _ => rfl)
  refine Go.mk' ⟨_, _, X17.returnOut hx Bd.returns (hb hby own_d3_19) hr, hrun, hended, _, _, rfl, ?_, ⟨_, rfl⟩, hW, hsame.mono (by decide) (by decide)⟩
  show Q3 Z s_MAX_ATTEMPTS s_SUCCEEDED s_PARKED s_PENDING s_EXPIRED s_REJECTED r0 r1 r2 u_state_r0 u_reason_r0 u_dueAt_r0 h0 n0 _ T17.heap _
  rw [e17]
  exact ⟨rfl, N17, K17, ((F15.other W16 (Or.inr (slot_ne (Or.inr (hw _ (List.mem_of_getElem? (i := 29) rfl))) (Or.inr (hw _ (List.mem_of_getElem? (i := 31) rfl))) (by decide) (t := (.object "com/example/reprise/reprise/core/TaskState")) (t' := (.object "com/example/reprise/reprise/core/ParkReason")) (by decide) (by decide)))).other W17 (Or.inr (slot_ne (Or.inr (hw _ (List.mem_of_getElem? (i := 29) rfl))) (Or.inr (hw _ (List.mem_of_getElem? (i := 33) rfl))) (by decide) (t := (.object "com/example/reprise/reprise/core/TaskState")) (t' := (.object "java/time/Instant")) (by decide) (by decide)))), (F16.other W17 (Or.inr (slot_ne (Or.inr (hw _ (List.mem_of_getElem? (i := 31) rfl))) (Or.inr (hw _ (List.mem_of_getElem? (i := 33) rfl))) (by decide) (t := (.object "com/example/reprise/reprise/core/ParkReason")) (t' := (.object "java/time/Instant")) (by decide) (by decide)))), F17, ((((E_r0.keep K14).wr W15).wr W16).wr W17)⟩
theorem own_d6_0 : decode prog_14_method_4_code 0 = .ok (.new 8, 3) := by decide +kernel
theorem own_d6_3 : decode prog_14_method_4_code 3 = .ok (.dup, 1) := by decide +kernel
theorem own_d6_4 : decode prog_14_method_4_code 4 = .ok (.getstatic 41, 3) := by decide +kernel
theorem own_d6_7 : decode prog_14_method_4_code 7 = .ok (.aload_n 0, 1) := by decide +kernel
theorem own_d6_8 : decode prog_14_method_4_code 8 = .ok (.ldc 44, 2) := by decide +kernel
theorem own_d6_10 : decode prog_14_method_4_code 10 = .ok (.invokestatic 33, 3) := by decide +kernel
theorem own_pd51 : parseMethodDescriptor "(Ljava/lang/Object;Ljava/lang/String;)Ljava/lang/Object;" = some ⟨[(.object "java/lang/Object"), (.object "java/lang/String")], some (.object "java/lang/Object")⟩ := by decide +kernel
theorem own_d6_13 : decode prog_14_method_4_code 13 = .ok (.checkcast 45, 3) := by decide +kernel
theorem own_d6_16 : decode prog_14_method_4_code 16 = .ok (.aconst_null, 1) := by decide +kernel
theorem own_d6_17 : decode prog_14_method_4_code 17 = .ok (.invokespecial 26, 3) := by decide +kernel
theorem own_d6_20 : decode prog_14_method_4_code 20 = .ok (.areturn, 1) := by decide +kernel
theorem ef6 (m : MethodId) (r0 : Addr) : entryFrame m #[(.ref r0)] 1 = mkF m 0 #[.val (.ref r0)] [] := by first | (simp [entryFrame, mkF, argsToLocals, Value.category]; done) | rfl
def Q6 (Z : State) (s_MAX_ATTEMPTS : Addr) (s_SUCCEEDED : Addr) (s_PARKED : Addr) (s_PENDING : Addr) (s_EXPIRED : Addr) (s_REJECTED : Addr) (r0 : Addr) (h0 : Heap) (n0 : Nat) (v : Option Value) (h : Heap) (L : List Loc) : Prop := ∃ y0 : Addr, v = some (.ref y0) ∧ Fr n0 L ∧ Keep h0 h [] ∧ h0.size ≤ y0 ∧ Exa Z h y0 "com/example/reprise/reprise/core/NextStep" ∧ Fld Z h y0 "com/example/reprise/reprise/core/NextStep" "state" "Lcom/example/reprise/reprise/core/TaskState;" (.ref s_PARKED) ∧ Fld Z h y0 "com/example/reprise/reprise/core/NextStep" "reason" "Lcom/example/reprise/reprise/core/ParkReason;" (.ref r0) ∧ Fld Z h y0 "com/example/reprise/reprise/core/NextStep" "dueAt" "Ljava/time/Instant;" .null
set_option maxRecDepth 65536 in
set_option maxHeartbeats 40000000 in
theorem rm6 (l : Launch) (Z : State) (a0 : Array Value) (hw : ∀ d ∈ tables_1, d.before a0 Z = true) (ws : List Jvm.Cond) (s_MAX_ATTEMPTS : Addr) (s_SUCCEEDED : Addr) (s_PARKED : Addr) (s_PENDING : Addr) (s_EXPIRED : Addr) (s_REJECTED : Addr) (HW : W0 Z s_MAX_ATTEMPTS s_SUCCEEDED s_PARKED s_PENDING s_EXPIRED s_REJECTED) (r0 : Addr) (h0 : Heap) (n0 : Nat) (O0 : Old Z n0 h0) (E_r0 : Exa Z h0 r0 "com/example/reprise/reprise/core/ParkReason") :
    MetFree l (⟨"com/example/reprise/reprise/core/NextStep", "parked", "(Lcom/example/reprise/reprise/core/ParkReason;)Lcom/example/reprise/reprise/core/NextStep;"⟩ : MethodName) (head1 (Jvm.Cond.code (⟨"com/example/reprise/reprise/core/NextStep", "parked", "(Lcom/example/reprise/reprise/core/ParkReason;)Lcom/example/reprise/reprise/core/NextStep;"⟩ : MethodName) prog_14_method_4_code 1 (some (.object "com/example/reprise/reprise/core/NextStep")) :: ws) ({ frames := 3, cells := 3, slots := 31, locals := 40 } : Room)) (fun a U => a = #[(.ref r0)] ∧ Z.Warmed39 U.vm ∧ U.heap = h0) (fun _ _ _ _ _ => True) (fun _ U o U' => ∃ v L, o = .returned v ∧ Q6 Z s_MAX_ATTEMPTS s_SUCCEEDED s_PARKED s_PENDING s_EXPIRED s_REJECTED r0 h0 n0 v U'.heap L ∧ ReturnedEndW U o U' L ({ frames := 3, cells := 3, slots := 31, locals := 40 } : Room).cells ({ frames := 3, cells := 3, slots := 31, locals := 40 } : Room).slots) := by
  refine MetFree.of_bodySF (plainFor_of_name own_pn3) hisR ?_
  intro p e s m args below meth c s₁ Bd hml0 hP hK
  obtain ⟨rfl, hZ, hh⟩ := hP
  obtain ⟨E_MAX_ATTEMPTS, S_MAX_ATTEMPTS, E_SUCCEEDED, S_SUCCEEDED, E_PARKED, S_PARKED, E_PENDING, S_PENDING, E_EXPIRED, S_EXPIRED, E_REJECTED, S_REJECTED, F_SUCCEEDED_ordinal, F_PENDING_ordinal, F_PARKED_ordinal⟩ := id HW
  have hx := Bd.exec
  have hby := Bd.bytes
  have hml : c.maxLocals = 1 := hml0
  have hown : s.vm.findClass "com/example/reprise/reprise/core/NextStep" = some m.cls := findClass_of_methodNamed Bd.named
  have hnm := (name_of_methodNamed Bd.named Bd.method).1
  have X0 : Stand p l e ({ frames := 3, cells := 3, slots := 31, locals := 40 } : Room) (s.setVm s.vm) m #[(.ref r0)] below meth c s₁ [] 0 0 := Stand.of_body Bd
  have e0 : s₁.heap = h0 := by rw [← hh, Bd.state]; rfl
  have N0 := Fr.nil n0
  have hS : s.Since s.vm 0 := (State.WarmedH.refl s).since 0
  have hk : 0 ≤ h0.size := Nat.zero_le _
  have K0 := Keep.refl h0 []
  refine Go.out ?_
  refine Go.st (V' := s₁.setTop (mkF m 0 #[.val (.ref r0)] [])) (fun t k => castTop (ef6 m r0) k) ?_
  obtain ⟨T18, h18, X18, e18, E18, A18, D18, U18, st18⟩ := newO X0 hx hZ hown (hw _ (List.mem_of_getElem? (i := 12) rfl)) (hw _ (List.mem_of_getElem? (i := 13) rfl)) (hw _ (List.mem_of_getElem? (i := 10) rfl)) e0 (g := (mkF m 0 #[.val (.ref r0)] [])) rfl (hb hby own_d6_0) (by decide) (by decide)
  obtain ⟨b18, g18⟩ : ∃ z, z = h0.size := ⟨_, rfl⟩
  rw [← g18] at A18 D18 U18 st18
  have g_b18 : n0 ≤ b18 := Nat.le_trans (Nat.le_trans (Nat.le_of_eq O0.1.symm) O0.2.1) (Nat.le_of_eq g18.symm)
  have sz_b18 : h0.size ≤ b18 := Nat.le_trans K0.1 (Nat.le_of_eq g18.symm)
  have K18 := K0.ext E18
  have O18 := O0.ext E18
  have hk := Nat.le_trans hk E18.1
  have F_state_b18 : Fld Z h18 b18 "com/example/reprise/reprise/core/NextStep" "state" "Lcom/example/reprise/reprise/core/TaskState;" .null := D18 (Or.inr (hw _ (List.mem_of_getElem? (i := 29) rfl))) (ty := (.object "com/example/reprise/reprise/core/TaskState")) (by decide)
  have F_reason_b18 : Fld Z h18 b18 "com/example/reprise/reprise/core/NextStep" "reason" "Lcom/example/reprise/reprise/core/ParkReason;" .null := D18 (Or.inr (hw _ (List.mem_of_getElem? (i := 31) rfl))) (ty := (.object "com/example/reprise/reprise/core/ParkReason")) (by decide)
  have F_dueAt_b18 : Fld Z h18 b18 "com/example/reprise/reprise/core/NextStep" "dueAt" "Ljava/time/Instant;" .null := D18 (Or.inr (hw _ (List.mem_of_getElem? (i := 33) rfl))) (ty := (.object "java/time/Instant")) (by decide)
  refine Go.st (V' := T18.setTop (mkF m 3 #[.val (.ref r0)] [(.ref b18)])) (fun t k => st18 t k) ?_
  refine Go.st (V' := T18.setTop (mkF m 4 #[.val (.ref r0)] [(.ref b18), (.ref b18)])) (fun t k => ?_) ?_
  · refine XS.dup X18.here hx rfl (hb hby own_d6_3) rfl rfl ?_
    show Steps p.tables e below (T18.setTop (mkF m 4 #[.val (.ref r0)] [(.ref b18), (.ref b18)])) _
    exact k
  obtain ⟨T19, X19, e19, st19⟩ := getS2 X18 hx hZ hown (host := "") (Or.inl (hw _ (List.mem_of_getElem? (i := 37) rfl))) Via.refl e18 (S_PARKED.ext O18.2) (g := (mkF m 4 #[.val (.ref r0)] [(.ref b18), (.ref b18)])) rfl (hb hby own_d6_4)
  refine Go.st (V' := T19.setTop (mkF m 7 #[.val (.ref r0)] [(.ref s_PARKED), (.ref b18), (.ref b18)])) (fun t k => st19 t k) ?_
  refine Go.st (V' := T19.setTop (mkF m 8 #[.val (.ref r0)] [(.ref r0), (.ref s_PARKED), (.ref b18), (.ref b18)])) (fun t k => ?_) ?_
  · refine XS.aloadN X19.here hx rfl (hb hby own_d6_7) rfl rfl ?_
    show Steps p.tables e below (T19.setTop (mkF m 8 #[.val (.ref r0)] [(.ref r0), (.ref s_PARKED), (.ref b18), (.ref b18)])) _
    exact k
  obtain ⟨a20, T20, h20, k20, X20, e20, E20, hS, hk, hZ, hown, st20⟩ := ldcS (s := s) X19 hx hZ hown (hw _ (List.mem_of_getElem? (i := 39) rfl)) (own_sa hw) e19 hS hk (g := (mkF m 8 #[.val (.ref r0)] [(.ref r0), (.ref s_PARKED), (.ref b18), (.ref b18)])) rfl (hb hby own_d6_8) (n := 24) (by decide) (by decide) (by decide) (by decide)
  have K20 := K18.ext E20
  have O20 := O18.ext E20
  refine Go.st (V' := T20.setTop (mkF m 10 #[.val (.ref r0)] [(.ref a20), (.ref r0), (.ref s_PARKED), (.ref b18), (.ref b18)])) (fun t k => st20 t k) ?_
  obtain ⟨_, _, ⟨T21, L21, k21, n21⟩, -, X21, ⟨Lc21, hQ21, l21, y21, z21⟩, st21⟩ := Jvm.LawKit.callS X20 hx (y := (⟨"java/util/Objects", "requireNonNull", "(Ljava/lang/Object;Ljava/lang/String;)Ljava/lang/Object;"⟩ : MethodName)) hown (mvT hZ (hw _ (List.mem_of_getElem? (i := 47) rfl))) (mvT hZ (hw _ (List.mem_of_getElem? (i := 48) rfl))) (mvT hZ (hw _ (List.mem_of_getElem? (i := 49) rfl))) (mvT hZ (hw _ (List.mem_of_getElem? (i := 50) rfl))) (by decide) (backOf (W := 3) (rm7 l Z a0 hw [] s_MAX_ATTEMPTS s_SUCCEEDED s_PARKED s_PENDING s_EXPIRED s_REJECTED HW r0 a20 h20 n0 O20) hZ (hw _ (List.mem_of_getElem? (i := 50) rfl)) (hw _ (List.mem_of_getElem? (i := 49) rfl)) (by decide) (by decide)) (g := (mkF m 10 #[.val (.ref r0)] [(.ref a20), (.ref r0), (.ref s_PARKED), (.ref b18), (.ref b18)])) rfl (by rw [hml]; rfl) (argsL := [(.ref r0), (.ref a20)]) (rest := [(.ref s_PARKED), (.ref b18), (.ref b18)]) (lenOf own_pd51 rfl) rfl (by show 2 * 0 + _ ≤ _; exact Nat.le_of_eq rfl) (hb hby own_d6_10) (fun _ _ => ⟨rfl, e20, (by decide : 3 + 0 ≤ _), (by decide : 31 + 0 ≤ _)⟩)
  dsimp only [Pt.U, Pt.locs, Pt.cells, Pt.slots] at X21 l21 y21 z21 st21 hQ21
  subst l21 y21 z21
  obtain ⟨rfl, N21q, e21⟩ := hQ21
  have N21 := Fr.app N0 N21q
  refine Go.st (V' := T21.setTop (mkF m 13 #[.val (.ref r0)] [(.ref r0), (.ref s_PARKED), (.ref b18), (.ref b18)])) (fun t k => st21 t k) ?_
  obtain ⟨T22, X22, e22, st22⟩ := castY X21 hx hZ hown (hw _ (List.mem_of_getElem? (i := 51) rfl)) e21 (Ins.self ((E_r0.ext E18).ext E20)) (g := (mkF m 13 #[.val (.ref r0)] [(.ref r0), (.ref s_PARKED), (.ref b18), (.ref b18)])) rfl rfl (hb hby own_d6_13)
  refine Go.st (V' := T22.setTop (mkF m 16 #[.val (.ref r0)] [(.ref r0), (.ref s_PARKED), (.ref b18), (.ref b18)])) (fun t k => st22 t k) ?_
  refine Go.st (V' := T22.setTop (mkF m 17 #[.val (.ref r0)] [.null, (.ref r0), (.ref s_PARKED), (.ref b18), (.ref b18)])) (fun t k => ?_) ?_
  · refine XS.aconstNull X22.here hx rfl (hb hby own_d6_16) ?_
    show Steps p.tables e below (T22.setTop (mkF m 17 #[.val (.ref r0)] [.null, (.ref r0), (.ref s_PARKED), (.ref b18), (.ref b18)])) _
    exact k
  obtain ⟨_, _, ⟨T23, L23, k23, n23⟩, -, X23, ⟨Lc23, hQ23, l23, y23, z23⟩, st23⟩ := X22.specialBack hx (y := (⟨"com/example/reprise/reprise/core/NextStep", "<init>", "(Lcom/example/reprise/reprise/core/TaskState;Lcom/example/reprise/reprise/core/ParkReason;Ljava/time/Instant;)V"⟩ : MethodName)) rfl hown (mvT hZ (hw _ (List.mem_of_getElem? (i := 17) rfl))) (mvT hZ (hw _ (List.mem_of_getElem? (i := 18) rfl))) (mvT hZ (hw _ (List.mem_of_getElem? (i := 19) rfl))) (by decide) (backOf (W := 1) (rm3 l Z a0 hw [] s_MAX_ATTEMPTS s_SUCCEEDED s_PARKED s_PENDING s_EXPIRED s_REJECTED HW b18 s_PARKED r0 .null .null .null h20 n0 O20 (A18.ext E20) (F_state_b18.ext E20) g_b18 (F_reason_b18.ext E20) (F_dueAt_b18.ext E20)) hZ (hw _ (List.mem_of_getElem? (i := 19) rfl)) (hw _ (List.mem_of_getElem? (i := 10) rfl)) (by decide) (by decide)) (g := (mkF m 17 #[.val (.ref r0)] [.null, (.ref r0), (.ref s_PARKED), (.ref b18), (.ref b18)])) rfl (by rw [hml]; rfl) (Steps.refl _) (a := b18) (argsL := [(.ref s_PARKED), (.ref r0), .null]) (rest := [(.ref b18)]) (lenOf own_pd43 rfl) rfl (by show 2 * 0 + _ ≤ _; exact Nat.le_of_eq rfl) (hb hby own_d6_17) (fun _ _ => ⟨rfl, e22, (by decide : 3 + 0 ≤ _), (by decide : 31 + 0 ≤ _)⟩)
  dsimp only [Pt.U, Pt.locs, Pt.cells, Pt.slots] at X23 l23 y23 z23 st23 hQ23
  subst l23 y23 z23
  obtain ⟨rfl, N23q, K23, f23_0, f23_1, f23_2, f23_3⟩ := hQ23
  have N23 := Fr.app N21 N23q
  have O23 := O20.keep K23 (allS g_b18 all0)
  have KA23 := K20.trans K23 (allS (Or.inr sz_b18) all0)
  have hk := Nat.le_trans hk K23.1
  refine Go.st (V' := T23.setTop (mkF m 20 #[.val (.ref r0)] [(.ref b18)])) (fun t k => st23.trans k) ?_
  obtain ⟨fs, hr, hrun, hended, hW⟩ := X23.leaveW hS hk (v := some (.ref b18)) (fun h => by rw [Bd.returns] at h; cases h)
  refine Go.mk' ⟨_, _, retOut X23 hx Bd.returns rfl (Or.inr (Or.inr (Or.inr (Or.inr ⟨rfl, rfl, rfl⟩)))) (hb hby own_d6_20) hr, hrun, hended, _, _, rfl, ?_, hW.1, hW.2.1, hW.2.2.1, hW.2.2.2.mono (by decide) (by decide)⟩
  show Q6 Z s_MAX_ATTEMPTS s_SUCCEEDED s_PARKED s_PENDING s_EXPIRED s_REJECTED r0 h0 n0 _ T23.heap _
  exact ⟨b18, rfl, N23, KA23, sz_b18, f23_3, f23_0, f23_1, f23_2⟩
theorem own_d8_0 : decode prog_14_method_8_code 0 = .ok (.aload_n 0, 1) := by decide +kernel
theorem own_d8_1 : decode prog_14_method_8_code 1 = .ok (.getfield 7, 3) := by decide +kernel
theorem own_d8_4 : decode prog_14_method_8_code 4 = .ok (.areturn, 1) := by decide +kernel
theorem ef8 (m : MethodId) (r0 : Addr) : entryFrame m #[(.ref r0)] 1 = mkF m 0 #[.val (.ref r0)] [] := by first | (simp [entryFrame, mkF, argsToLocals, Value.category]; done) | rfl
def Q8 (Z : State) (w_state_r0 : Addr) (h0 : Heap) (n0 : Nat) (v : Option Value) (h : Heap) (L : List Loc) : Prop := v = some (.ref w_state_r0) ∧ Fr n0 L ∧ h = h0
set_option maxRecDepth 65536 in
set_option maxHeartbeats 40000000 in
theorem rm8 (l : Launch) (Z : State) (a0 : Array Value) (hw : ∀ d ∈ tables_1, d.before a0 Z = true) (ws : List Jvm.Cond) (s_MAX_ATTEMPTS : Addr) (s_SUCCEEDED : Addr) (s_PARKED : Addr) (s_PENDING : Addr) (s_EXPIRED : Addr) (s_REJECTED : Addr) (HW : W0 Z s_MAX_ATTEMPTS s_SUCCEEDED s_PARKED s_PENDING s_EXPIRED s_REJECTED) (r0 : Addr) (w_state_r0 : Addr) (h0 : Heap) (n0 : Nat) (O0 : Old Z n0 h0) (F_state_r0 : Fld Z h0 r0 "com/example/reprise/reprise/core/NextStep" "state" "Lcom/example/reprise/reprise/core/TaskState;" (.ref w_state_r0)) :
    MetFree l (⟨"com/example/reprise/reprise/core/NextStep", "state", "()Lcom/example/reprise/reprise/core/TaskState;"⟩ : MethodName) (head1 (Jvm.Cond.code (⟨"com/example/reprise/reprise/core/NextStep", "state", "()Lcom/example/reprise/reprise/core/TaskState;"⟩ : MethodName) prog_14_method_8_code 1 (some (.object "com/example/reprise/reprise/core/TaskState")) :: ws) ({ frames := 0, cells := 0, slots := 0, locals := 0 } : Room)) (fun a U => a = #[(.ref r0)] ∧ Z.Warmed39 U.vm ∧ U.heap = h0) (fun _ _ _ _ _ => True) (fun _ U o U' => ∃ v L, o = .returned v ∧ Q8 Z w_state_r0 h0 n0 v U'.heap L ∧ FrameEnd U o U' L ({ frames := 0, cells := 0, slots := 0, locals := 0 } : Room).cells ({ frames := 0, cells := 0, slots := 0, locals := 0 } : Room).slots) := by
  refine MetFree.of_bodySF (plainFor_of_name own_pn3) hisR ?_
  intro p e s m args below meth c s₁ Bd hml0 hP hK
  obtain ⟨rfl, hZ, hh⟩ := hP
  obtain ⟨E_MAX_ATTEMPTS, S_MAX_ATTEMPTS, E_SUCCEEDED, S_SUCCEEDED, E_PARKED, S_PARKED, E_PENDING, S_PENDING, E_EXPIRED, S_EXPIRED, E_REJECTED, S_REJECTED, F_SUCCEEDED_ordinal, F_PENDING_ordinal, F_PARKED_ordinal⟩ := id HW
  have hx := Bd.exec
  have hby := Bd.bytes
  have hml : c.maxLocals = 1 := hml0
  have hown : s.vm.findClass "com/example/reprise/reprise/core/NextStep" = some m.cls := findClass_of_methodNamed Bd.named
  have hnm := (name_of_methodNamed Bd.named Bd.method).1
  have X0 : Stand p l e ({ frames := 0, cells := 0, slots := 0, locals := 0 } : Room) s m #[(.ref r0)] below meth c s₁ [] 0 0 := Stand.of_body Bd
  have e0 : s₁.heap = h0 := by rw [← hh, Bd.state]; rfl
  have N0 := Fr.nil n0
  have K0 := Keep.refl h0 []
  refine Go.out ?_
  refine Go.st (V' := s₁.setTop (mkF m 0 #[.val (.ref r0)] [])) (fun t k => castTop (ef8 m r0) k) ?_
  refine Go.st (V' := s₁.setTop (mkF m 1 #[.val (.ref r0)] [(.ref r0)])) (fun t k => ?_) ?_
  · refine XS.aloadN X0.here hx rfl (hb hby own_d8_0) rfl rfl ?_
    show Steps p.tables e below (s₁.setTop (mkF m 1 #[.val (.ref r0)] [(.ref r0)])) _
    exact k
  obtain ⟨T24, X24, e24, st24⟩ := getF X0 hx hZ hown (host := "") (Or.inl (hw _ (List.mem_of_getElem? (i := 28) rfl))) Via.refl e0 F_state_r0 (g := (mkF m 1 #[.val (.ref r0)] [(.ref r0)])) rfl rfl (hb hby own_d8_1)
  refine Go.st (V' := T24.setTop (mkF m 4 #[.val (.ref r0)] [(.ref w_state_r0)])) (fun t k => st24 t k) ?_
  obtain ⟨fs, hr, hrun, hended, hW, hsame⟩ := X24.leave (v := some (.ref w_state_r0)) (fun h => by rw [Bd.returns] at h; cases h)
  refine Go.mk' ⟨_, _, retOut X24 hx Bd.returns rfl (Or.inr (Or.inr (Or.inr (Or.inr ⟨rfl, rfl, rfl⟩)))) (hb hby own_d8_4) hr, hrun, hended, _, _, rfl, ?_, ⟨_, rfl⟩, hW, hsame.mono (by decide) (by decide)⟩
  show Q8 Z w_state_r0 h0 n0 _ T24.heap _
  rw [e24]
  exact ⟨rfl, N0, rfl⟩
theorem own_d9_0 : decode prog_14_method_9_code 0 = .ok (.aload_n 0, 1) := by decide +kernel
theorem own_d9_1 : decode prog_14_method_9_code 1 = .ok (.getfield 13, 3) := by decide +kernel
theorem own_d9_4 : decode prog_14_method_9_code 4 = .ok (.areturn, 1) := by decide +kernel
theorem ef9 (m : MethodId) (r0 : Addr) : entryFrame m #[(.ref r0)] 1 = mkF m 0 #[.val (.ref r0)] [] := by first | (simp [entryFrame, mkF, argsToLocals, Value.category]; done) | rfl
def Q9 (Z : State) (h0 : Heap) (n0 : Nat) (v : Option Value) (h : Heap) (L : List Loc) : Prop := v = some .null ∧ Fr n0 L ∧ h = h0
set_option maxRecDepth 65536 in
set_option maxHeartbeats 40000000 in
theorem rm9 (l : Launch) (Z : State) (a0 : Array Value) (hw : ∀ d ∈ tables_1, d.before a0 Z = true) (ws : List Jvm.Cond) (s_MAX_ATTEMPTS : Addr) (s_SUCCEEDED : Addr) (s_PARKED : Addr) (s_PENDING : Addr) (s_EXPIRED : Addr) (s_REJECTED : Addr) (HW : W0 Z s_MAX_ATTEMPTS s_SUCCEEDED s_PARKED s_PENDING s_EXPIRED s_REJECTED) (r0 : Addr) (h0 : Heap) (n0 : Nat) (O0 : Old Z n0 h0) (F_reason_r0 : Fld Z h0 r0 "com/example/reprise/reprise/core/NextStep" "reason" "Lcom/example/reprise/reprise/core/ParkReason;" .null) :
    MetFree l (⟨"com/example/reprise/reprise/core/NextStep", "reason", "()Lcom/example/reprise/reprise/core/ParkReason;"⟩ : MethodName) (head1 (Jvm.Cond.code (⟨"com/example/reprise/reprise/core/NextStep", "reason", "()Lcom/example/reprise/reprise/core/ParkReason;"⟩ : MethodName) prog_14_method_9_code 1 (some (.object "com/example/reprise/reprise/core/ParkReason")) :: ws) ({ frames := 0, cells := 0, slots := 0, locals := 0 } : Room)) (fun a U => a = #[(.ref r0)] ∧ Z.Warmed39 U.vm ∧ U.heap = h0) (fun _ _ _ _ _ => True) (fun _ U o U' => ∃ v L, o = .returned v ∧ Q9 Z h0 n0 v U'.heap L ∧ FrameEnd U o U' L ({ frames := 0, cells := 0, slots := 0, locals := 0 } : Room).cells ({ frames := 0, cells := 0, slots := 0, locals := 0 } : Room).slots) := by
  refine MetFree.of_bodySF (plainFor_of_name own_pn3) hisR ?_
  intro p e s m args below meth c s₁ Bd hml0 hP hK
  obtain ⟨rfl, hZ, hh⟩ := hP
  obtain ⟨E_MAX_ATTEMPTS, S_MAX_ATTEMPTS, E_SUCCEEDED, S_SUCCEEDED, E_PARKED, S_PARKED, E_PENDING, S_PENDING, E_EXPIRED, S_EXPIRED, E_REJECTED, S_REJECTED, F_SUCCEEDED_ordinal, F_PENDING_ordinal, F_PARKED_ordinal⟩ := id HW
  have hx := Bd.exec
  have hby := Bd.bytes
  have hml : c.maxLocals = 1 := hml0
  have hown : s.vm.findClass "com/example/reprise/reprise/core/NextStep" = some m.cls := findClass_of_methodNamed Bd.named
  have hnm := (name_of_methodNamed Bd.named Bd.method).1
  have X0 : Stand p l e ({ frames := 0, cells := 0, slots := 0, locals := 0 } : Room) s m #[(.ref r0)] below meth c s₁ [] 0 0 := Stand.of_body Bd
  have e0 : s₁.heap = h0 := by rw [← hh, Bd.state]; rfl
  have N0 := Fr.nil n0
  have K0 := Keep.refl h0 []
  refine Go.out ?_
  refine Go.st (V' := s₁.setTop (mkF m 0 #[.val (.ref r0)] [])) (fun t k => castTop (ef9 m r0) k) ?_
  refine Go.st (V' := s₁.setTop (mkF m 1 #[.val (.ref r0)] [(.ref r0)])) (fun t k => ?_) ?_
  · refine XS.aloadN X0.here hx rfl (hb hby own_d9_0) rfl rfl ?_
    show Steps p.tables e below (s₁.setTop (mkF m 1 #[.val (.ref r0)] [(.ref r0)])) _
    exact k
  obtain ⟨T25, X25, e25, st25⟩ := getF X0 hx hZ hown (host := "") (Or.inl (hw _ (List.mem_of_getElem? (i := 30) rfl))) Via.refl e0 F_reason_r0 (g := (mkF m 1 #[.val (.ref r0)] [(.ref r0)])) rfl rfl (hb hby own_d9_1)
  refine Go.st (V' := T25.setTop (mkF m 4 #[.val (.ref r0)] [.null])) (fun t k => st25 t k) ?_
  obtain ⟨fs, hr, hrun, hended, hW, hsame⟩ := X25.leave (v := some .null) (fun h => by rw [Bd.returns] at h; cases h)
  refine Go.mk' ⟨_, _, retOut X25 hx Bd.returns rfl (Or.inr (Or.inr (Or.inr (Or.inr ⟨rfl, rfl, rfl⟩)))) (hb hby own_d9_4) hr, hrun, hended, _, _, rfl, ?_, ⟨_, rfl⟩, hW, hsame.mono (by decide) (by decide)⟩
  show Q9 Z h0 n0 _ T25.heap _
  rw [e25]
  exact ⟨rfl, N0, rfl⟩
theorem own_d10_0 : decode prog_14_method_10_code 0 = .ok (.aload_n 0, 1) := by decide +kernel
theorem own_d10_1 : decode prog_14_method_10_code 1 = .ok (.getfield 17, 3) := by decide +kernel
theorem own_d10_4 : decode prog_14_method_10_code 4 = .ok (.areturn, 1) := by decide +kernel
theorem ef10 (m : MethodId) (r0 : Addr) : entryFrame m #[(.ref r0)] 1 = mkF m 0 #[.val (.ref r0)] [] := by first | (simp [entryFrame, mkF, argsToLocals, Value.category]; done) | rfl
def Q10 (Z : State) (h0 : Heap) (n0 : Nat) (v : Option Value) (h : Heap) (L : List Loc) : Prop := v = some .null ∧ Fr n0 L ∧ h = h0
set_option maxRecDepth 65536 in
set_option maxHeartbeats 40000000 in
theorem rm10 (l : Launch) (Z : State) (a0 : Array Value) (hw : ∀ d ∈ tables_1, d.before a0 Z = true) (ws : List Jvm.Cond) (s_MAX_ATTEMPTS : Addr) (s_SUCCEEDED : Addr) (s_PARKED : Addr) (s_PENDING : Addr) (s_EXPIRED : Addr) (s_REJECTED : Addr) (HW : W0 Z s_MAX_ATTEMPTS s_SUCCEEDED s_PARKED s_PENDING s_EXPIRED s_REJECTED) (r0 : Addr) (h0 : Heap) (n0 : Nat) (O0 : Old Z n0 h0) (F_dueAt_r0 : Fld Z h0 r0 "com/example/reprise/reprise/core/NextStep" "dueAt" "Ljava/time/Instant;" .null) :
    MetFree l (⟨"com/example/reprise/reprise/core/NextStep", "dueAt", "()Ljava/time/Instant;"⟩ : MethodName) (head1 (Jvm.Cond.code (⟨"com/example/reprise/reprise/core/NextStep", "dueAt", "()Ljava/time/Instant;"⟩ : MethodName) prog_14_method_10_code 1 (some (.object "java/time/Instant")) :: ws) ({ frames := 0, cells := 0, slots := 0, locals := 0 } : Room)) (fun a U => a = #[(.ref r0)] ∧ Z.Warmed39 U.vm ∧ U.heap = h0) (fun _ _ _ _ _ => True) (fun _ U o U' => ∃ v L, o = .returned v ∧ Q10 Z h0 n0 v U'.heap L ∧ FrameEnd U o U' L ({ frames := 0, cells := 0, slots := 0, locals := 0 } : Room).cells ({ frames := 0, cells := 0, slots := 0, locals := 0 } : Room).slots) := by
  refine MetFree.of_bodySF (plainFor_of_name own_pn3) hisR ?_
  intro p e s m args below meth c s₁ Bd hml0 hP hK
  obtain ⟨rfl, hZ, hh⟩ := hP
  obtain ⟨E_MAX_ATTEMPTS, S_MAX_ATTEMPTS, E_SUCCEEDED, S_SUCCEEDED, E_PARKED, S_PARKED, E_PENDING, S_PENDING, E_EXPIRED, S_EXPIRED, E_REJECTED, S_REJECTED, F_SUCCEEDED_ordinal, F_PENDING_ordinal, F_PARKED_ordinal⟩ := id HW
  have hx := Bd.exec
  have hby := Bd.bytes
  have hml : c.maxLocals = 1 := hml0
  have hown : s.vm.findClass "com/example/reprise/reprise/core/NextStep" = some m.cls := findClass_of_methodNamed Bd.named
  have hnm := (name_of_methodNamed Bd.named Bd.method).1
  have X0 : Stand p l e ({ frames := 0, cells := 0, slots := 0, locals := 0 } : Room) s m #[(.ref r0)] below meth c s₁ [] 0 0 := Stand.of_body Bd
  have e0 : s₁.heap = h0 := by rw [← hh, Bd.state]; rfl
  have N0 := Fr.nil n0
  have K0 := Keep.refl h0 []
  refine Go.out ?_
  refine Go.st (V' := s₁.setTop (mkF m 0 #[.val (.ref r0)] [])) (fun t k => castTop (ef10 m r0) k) ?_
  refine Go.st (V' := s₁.setTop (mkF m 1 #[.val (.ref r0)] [(.ref r0)])) (fun t k => ?_) ?_
  · refine XS.aloadN X0.here hx rfl (hb hby own_d10_0) rfl rfl ?_
    show Steps p.tables e below (s₁.setTop (mkF m 1 #[.val (.ref r0)] [(.ref r0)])) _
    exact k
  obtain ⟨T26, X26, e26, st26⟩ := getF X0 hx hZ hown (host := "") (Or.inl (hw _ (List.mem_of_getElem? (i := 32) rfl))) Via.refl e0 F_dueAt_r0 (g := (mkF m 1 #[.val (.ref r0)] [(.ref r0)])) rfl rfl (hb hby own_d10_1)
  refine Go.st (V' := T26.setTop (mkF m 4 #[.val (.ref r0)] [.null])) (fun t k => st26 t k) ?_
  obtain ⟨fs, hr, hrun, hended, hW, hsame⟩ := X26.leave (v := some .null) (fun h => by rw [Bd.returns] at h; cases h)
  refine Go.mk' ⟨_, _, retOut X26 hx Bd.returns rfl (Or.inr (Or.inr (Or.inr (Or.inr ⟨rfl, rfl, rfl⟩)))) (hb hby own_d10_4) hr, hrun, hended, _, _, rfl, ?_, ⟨_, rfl⟩, hW, hsame.mono (by decide) (by decide)⟩
  show Q10 Z h0 n0 _ T26.heap _
  rw [e26]
  exact ⟨rfl, N0, rfl⟩
theorem own_d11_0 : decode prog_28_method_4_code 0 = .ok (.aload_n 0, 1) := by decide +kernel
theorem own_d11_1 : decode prog_28_method_4_code 1 = .ok (.getstatic 3, 3) := by decide +kernel
theorem own_d11_4 : decode prog_28_method_4_code 4 = .ok (.if_acmp .eq 10, 3) := by decide +kernel
theorem own_d11_14 : decode prog_28_method_4_code 14 = .ok (.iconst 1, 1) := by decide +kernel
theorem own_d11_15 : decode prog_28_method_4_code 15 = .ok (.goto 4, 3) := by decide +kernel
theorem own_d11_19 : decode prog_28_method_4_code 19 = .ok (.ireturn, 1) := by decide +kernel
theorem own_d11_7 : decode prog_28_method_4_code 7 = .ok (.aload_n 0, 1) := by decide +kernel
theorem own_d11_8 : decode prog_28_method_4_code 8 = .ok (.getstatic 13, 3) := by decide +kernel
theorem own_d11_11 : decode prog_28_method_4_code 11 = .ok (.if_acmp .ne 7, 3) := by decide +kernel
theorem own_d11_18 : decode prog_28_method_4_code 18 = .ok (.iconst 0, 1) := by decide +kernel
theorem own_pn4 : plainName "com/example/reprise/reprise/core/TaskState" = true := by first | (simp [plainName, overriddenIn]; done) | decide +kernel
theorem ef11 (m : MethodId) (r0 : Addr) : entryFrame m #[(.ref r0)] 1 = mkF m 0 #[.val (.ref r0)] [] := by first | (simp [entryFrame, mkF, argsToLocals, Value.category]; done) | rfl
def f11 (s_PARKED : Addr) (s_PENDING : Addr) (r0 : Addr) : Int32 := (if r0 = s_PENDING then (1 : Int32) else (if r0 = s_PARKED then (1 : Int32) else (0 : Int32)))
def Q11 (Z : State) (s_PARKED : Addr) (s_PENDING : Addr) (r0 : Addr) (h0 : Heap) (n0 : Nat) (v : Option Value) (h : Heap) (L : List Loc) : Prop := v = some (.int (f11 s_PARKED s_PENDING r0)) ∧ Fr n0 L ∧ h = h0
set_option maxRecDepth 65536 in
set_option maxHeartbeats 40000000 in
theorem rm11 (l : Launch) (Z : State) (a0 : Array Value) (hw : ∀ d ∈ tables_1, d.before a0 Z = true) (ws : List Jvm.Cond) (s_MAX_ATTEMPTS : Addr) (s_SUCCEEDED : Addr) (s_PARKED : Addr) (s_PENDING : Addr) (s_EXPIRED : Addr) (s_REJECTED : Addr) (HW : W0 Z s_MAX_ATTEMPTS s_SUCCEEDED s_PARKED s_PENDING s_EXPIRED s_REJECTED) (r0 : Addr) (h0 : Heap) (n0 : Nat) (O0 : Old Z n0 h0) :
    MetFree l (⟨"com/example/reprise/reprise/core/TaskState", "cancellable", "()Z"⟩ : MethodName) (head1 (Jvm.Cond.code (⟨"com/example/reprise/reprise/core/TaskState", "cancellable", "()Z"⟩ : MethodName) prog_28_method_4_code 1 (some .boolean) :: ws) ({ frames := 0, cells := 0, slots := 0, locals := 0 } : Room)) (fun a U => a = #[(.ref r0)] ∧ Z.Warmed39 U.vm ∧ U.heap = h0) (fun _ _ _ _ _ => True) (fun _ U o U' => ∃ v L, o = .returned v ∧ Q11 Z s_PARKED s_PENDING r0 h0 n0 v U'.heap L ∧ FrameEnd U o U' L ({ frames := 0, cells := 0, slots := 0, locals := 0 } : Room).cells ({ frames := 0, cells := 0, slots := 0, locals := 0 } : Room).slots) := by
  refine MetFree.of_bodySF (plainFor_of_name own_pn4) hisR ?_
  intro p e s m args below meth c s₁ Bd hml0 hP hK
  obtain ⟨rfl, hZ, hh⟩ := hP
  obtain ⟨E_MAX_ATTEMPTS, S_MAX_ATTEMPTS, E_SUCCEEDED, S_SUCCEEDED, E_PARKED, S_PARKED, E_PENDING, S_PENDING, E_EXPIRED, S_EXPIRED, E_REJECTED, S_REJECTED, F_SUCCEEDED_ordinal, F_PENDING_ordinal, F_PARKED_ordinal⟩ := id HW
  have hx := Bd.exec
  have hby := Bd.bytes
  have hml : c.maxLocals = 1 := hml0
  have hown : s.vm.findClass "com/example/reprise/reprise/core/TaskState" = some m.cls := findClass_of_methodNamed Bd.named
  have hnm := (name_of_methodNamed Bd.named Bd.method).1
  have X0 : Stand p l e ({ frames := 0, cells := 0, slots := 0, locals := 0 } : Room) s m #[(.ref r0)] below meth c s₁ [] 0 0 := Stand.of_body Bd
  have e0 : s₁.heap = h0 := by rw [← hh, Bd.state]; rfl
  have N0 := Fr.nil n0
  have K0 := Keep.refl h0 []
  refine Go.out ?_
  refine Go.st (V' := s₁.setTop (mkF m 0 #[.val (.ref r0)] [])) (fun t k => castTop (ef11 m r0) k) ?_
  refine Go.st (V' := s₁.setTop (mkF m 1 #[.val (.ref r0)] [(.ref r0)])) (fun t k => ?_) ?_
  · refine XS.aloadN X0.here hx rfl (hb hby own_d11_0) rfl rfl ?_
    show Steps p.tables e below (s₁.setTop (mkF m 1 #[.val (.ref r0)] [(.ref r0)])) _
    exact k
  obtain ⟨T27, X27, e27, st27⟩ := getS2 X0 hx hZ hown (host := "") (Or.inl (hw _ (List.mem_of_getElem? (i := 74) rfl))) Via.refl e0 (S_PENDING.ext O0.2) (g := (mkF m 1 #[.val (.ref r0)] [(.ref r0)])) rfl (hb hby own_d11_1)
  refine Go.st (V' := T27.setTop (mkF m 4 #[.val (.ref r0)] [(.ref s_PENDING), (.ref r0)])) (fun t k => st27 t k) ?_
  by_cases hc28 : r0 = s_PENDING
  · refine Go.st (V' := T27.setTop (mkF m 19 #[.val (.ref r0)] [(.int (1 : Int32))])) (fun t k => ?_) ?_
    · refine Jvm.RoadKit.acmp (g := (mkF m 4 #[.val (.ref r0)] [(.ref s_PENDING), (.ref r0)])) X27 hx rfl rfl rfl (pc0 := 4) (pc' := 14) (same := true) rfl (hb hby own_d11_4) rfl (decide_eq_true (congrArg Value.ref hc28)) (by decide) (by decide) ?_
      show Steps p.tables e below (T27.setTop (mkF m 14 #[.val (.ref r0)] [])) _
      refine XS.iconst X27.here hx rfl (hb hby own_d11_14) ?_
      show Steps p.tables e below (T27.setTop (mkF m 15 #[.val (.ref r0)] [(.int (1 : Int32))])) _
      refine XS.goto X27.here hx rfl (pc0 := 15) (pc' := 19) rfl (hb hby own_d11_15) (by decide) (by decide) ?_
      show Steps p.tables e below (T27.setTop (mkF m 19 #[.val (.ref r0)] [(.int (1 : Int32))])) _
      exact k
    obtain ⟨fs, hr, hrun, hended, hW, hsame⟩ := X27.leave (v := some (.int (1 : Int32))) (fun h => by rw [Bd.returns] at h; cases h)
    refine Go.mk' ⟨_, _, retN X27 hx (t := .boolean) Bd.returns (by simp) (hb hby own_d11_19) hr, hrun, hended, _, _, rfl, ?_, ⟨_, rfl⟩, hW, hsame.mono (by decide) (by decide)⟩
    show Q11 Z s_PARKED s_PENDING r0 h0 n0 _ T27.heap _
    rw [e27]
    exact ⟨(by rw [f11, if_pos hc28]), N0, rfl⟩
  · refine Go.st (V' := T27.setTop (mkF m 8 #[.val (.ref r0)] [(.ref r0)])) (fun t k => ?_) ?_
    · refine Jvm.RoadKit.acmp (g := (mkF m 4 #[.val (.ref r0)] [(.ref s_PENDING), (.ref r0)])) X27 hx rfl rfl rfl (pc0 := 4) (pc' := 7) (same := false) rfl (hb hby own_d11_4) rfl (decide_eq_false fun q => hc28 (Value.ref.inj q)) (by decide) (by decide) ?_
      show Steps p.tables e below (T27.setTop (mkF m 7 #[.val (.ref r0)] [])) _
      refine XS.aloadN X27.here hx rfl (hb hby own_d11_7) rfl rfl ?_
      show Steps p.tables e below (T27.setTop (mkF m 8 #[.val (.ref r0)] [(.ref r0)])) _
      exact k
    obtain ⟨T29, X29, e29, st29⟩ := getS2 X27 hx hZ hown (host := "") (Or.inl (hw _ (List.mem_of_getElem? (i := 76) rfl))) Via.refl e27 (S_PARKED.ext O0.2) (g := (mkF m 8 #[.val (.ref r0)] [(.ref r0)])) rfl (hb hby own_d11_8)
    refine Go.st (V' := T29.setTop (mkF m 11 #[.val (.ref r0)] [(.ref s_PARKED), (.ref r0)])) (fun t k => st29 t k) ?_
    by_cases hc30 : r0 = s_PARKED
    · refine Go.st (V' := T29.setTop (mkF m 19 #[.val (.ref r0)] [(.int (1 : Int32))])) (fun t k => ?_) ?_
      · refine Jvm.RoadKit.acmp (g := (mkF m 11 #[.val (.ref r0)] [(.ref s_PARKED), (.ref r0)])) X29 hx rfl rfl rfl (pc0 := 11) (pc' := 14) (same := true) rfl (hb hby own_d11_11) rfl (decide_eq_true (congrArg Value.ref hc30)) (by decide) (by decide) ?_
        show Steps p.tables e below (T29.setTop (mkF m 14 #[.val (.ref r0)] [])) _
        refine XS.iconst X29.here hx rfl (hb hby own_d11_14) ?_
        show Steps p.tables e below (T29.setTop (mkF m 15 #[.val (.ref r0)] [(.int (1 : Int32))])) _
        refine XS.goto X29.here hx rfl (pc0 := 15) (pc' := 19) rfl (hb hby own_d11_15) (by decide) (by decide) ?_
        show Steps p.tables e below (T29.setTop (mkF m 19 #[.val (.ref r0)] [(.int (1 : Int32))])) _
        exact k
      obtain ⟨fs, hr, hrun, hended, hW, hsame⟩ := X29.leave (v := some (.int (1 : Int32))) (fun h => by rw [Bd.returns] at h; cases h)
      refine Go.mk' ⟨_, _, retN X29 hx (t := .boolean) Bd.returns (by simp) (hb hby own_d11_19) hr, hrun, hended, _, _, rfl, ?_, ⟨_, rfl⟩, hW, hsame.mono (by decide) (by decide)⟩
      show Q11 Z s_PARKED s_PENDING r0 h0 n0 _ T29.heap _
      rw [e29]
      exact ⟨(by rw [f11, if_neg hc28, if_pos hc30]), N0, rfl⟩
    · refine Go.st (V' := T29.setTop (mkF m 19 #[.val (.ref r0)] [(.int (0 : Int32))])) (fun t k => ?_) ?_
      · refine Jvm.RoadKit.acmp (g := (mkF m 11 #[.val (.ref r0)] [(.ref s_PARKED), (.ref r0)])) X29 hx rfl rfl rfl (pc0 := 11) (pc' := 18) (same := false) rfl (hb hby own_d11_11) rfl (decide_eq_false fun q => hc30 (Value.ref.inj q)) (by decide) (by decide) ?_
        show Steps p.tables e below (T29.setTop (mkF m 18 #[.val (.ref r0)] [])) _
        refine XS.iconst X29.here hx rfl (hb hby own_d11_18) ?_
        show Steps p.tables e below (T29.setTop (mkF m 19 #[.val (.ref r0)] [(.int (0 : Int32))])) _
        exact k
      obtain ⟨fs, hr, hrun, hended, hW, hsame⟩ := X29.leave (v := some (.int (0 : Int32))) (fun h => by rw [Bd.returns] at h; cases h)
      refine Go.mk' ⟨_, _, retN X29 hx (t := .boolean) Bd.returns (by simp) (hb hby own_d11_19) hr, hrun, hended, _, _, rfl, ?_, ⟨_, rfl⟩, hW, hsame.mono (by decide) (by decide)⟩
      show Q11 Z s_PARKED s_PENDING r0 h0 n0 _ T29.heap _
      rw [e29]
      exact ⟨(by rw [f11, if_neg hc28, if_neg hc30]), N0, rfl⟩
theorem own_pd75 : parseMethodDescriptor "(I)Lcom/example/reprise/reprise/core/ParkReason;" = some ⟨[.int], some (.object "com/example/reprise/reprise/core/ParkReason")⟩ := by decide +kernel
theorem own_pd76 : parseMethodDescriptor "()Lcom/example/reprise/reprise/core/NextStep;" = some ⟨[], some (.object "com/example/reprise/reprise/core/NextStep")⟩ := by decide +kernel
theorem own_pd77 : parseMethodDescriptor "(Lcom/example/reprise/reprise/core/ParkReason;)Lcom/example/reprise/reprise/core/NextStep;" = some ⟨[(.object "com/example/reprise/reprise/core/ParkReason")], some (.object "com/example/reprise/reprise/core/NextStep")⟩ := by decide +kernel
theorem own_pd78 : parseMethodDescriptor "()Lcom/example/reprise/reprise/core/TaskState;" = some ⟨[], some (.object "com/example/reprise/reprise/core/TaskState")⟩ := by decide +kernel
theorem own_pd79 : parseMethodDescriptor "()Lcom/example/reprise/reprise/core/ParkReason;" = some ⟨[], some (.object "com/example/reprise/reprise/core/ParkReason")⟩ := by decide +kernel
theorem own_pd80 : parseMethodDescriptor "()Ljava/time/Instant;" = some ⟨[], some (.object "java/time/Instant")⟩ := by decide +kernel
theorem own_pd81 : parseMethodDescriptor "()Z" = some ⟨[], some .boolean⟩ := by decide +kernel
theorem ef0 (m : MethodId) (p0 : Int32) : entryFrame m #[(.int p0)] maxLocals = mkF m 0 #[.val (.int p0), .unset, .unset, .unset] [] := by first | (simp [entryFrame, mkF, argsToLocals, Value.category, maxLocals]; done) | rfl
def Q0 (Z : State) (p0 : Int32) (h0 : Heap) (n0 : Nat) (v : Option Value) (h : Heap) (L : List Loc) : Prop := v = some (.int 1) ∧ Fr n0 L
set_option maxRecDepth 65536 in
set_option maxHeartbeats 40000000 in
theorem rm0 (l : Launch) (Z : State) (a0 : Array Value) (hw : ∀ d ∈ tables_1, d.before a0 Z = true) (ws : List Jvm.Cond) (s_MAX_ATTEMPTS : Addr) (s_SUCCEEDED : Addr) (s_PARKED : Addr) (s_PENDING : Addr) (s_EXPIRED : Addr) (s_REJECTED : Addr) (HW : W0 Z s_MAX_ATTEMPTS s_SUCCEEDED s_PARKED s_PENDING s_EXPIRED s_REJECTED) (p0 : Int32) (h0 : Heap) (n0 : Nat) (O0 : Old Z n0 h0) :
    MetFree l x (head1 (Jvm.Cond.code x code maxLocals ret :: ws) room_1) (fun a U => a = #[(.int p0)] ∧ Z.Warmed39 U.vm ∧ U.heap = h0) (fun _ _ _ _ _ => True) (fun _ U o U' => ∃ v L, o = .returned v ∧ Q0 Z p0 h0 n0 v U'.heap L ∧ ReturnedEndW U o U' L room_1.cells room_1.slots) := by
  refine MetFree.of_bodySF (plainFor_of_name own_pn0) hisR ?_
  intro p e s m args below meth c s₁ Bd hml0 hP hK
  obtain ⟨rfl, hZ, hh⟩ := hP
  obtain ⟨E_MAX_ATTEMPTS, S_MAX_ATTEMPTS, E_SUCCEEDED, S_SUCCEEDED, E_PARKED, S_PARKED, E_PENDING, S_PENDING, E_EXPIRED, S_EXPIRED, E_REJECTED, S_REJECTED, F_SUCCEEDED_ordinal, F_PENDING_ordinal, F_PARKED_ordinal⟩ := id HW
  have hx := Bd.exec
  have hby := Bd.bytes
  have hml : c.maxLocals = 4 := hml0
  have hown : s.vm.findClass "com/example/reprise/reprise/core/NextStepSucceededPinLaw" = some m.cls := findClass_of_methodNamed Bd.named
  have hnm := (name_of_methodNamed Bd.named Bd.method).1
  have X0 : Stand p l e room_1 (s.setVm s.vm) m #[(.int p0)] below meth c s₁ [] 0 0 := Stand.of_body Bd
  have e0 : s₁.heap = h0 := by rw [← hh, Bd.state]; rfl
  have N0 := Fr.nil n0
  have hS : s.Since s.vm 0 := (State.WarmedH.refl s).since 0
  have hk : 0 ≤ h0.size := Nat.zero_le _
  refine Go.out ?_
  refine Go.st (V' := s₁.setTop (mkF m 0 #[.val (.int p0), .unset, .unset, .unset] [])) (fun t k => castTop (ef0 m p0) k) ?_
  refine Go.st (V' := s₁.setTop (mkF m 1 #[.val (.int p0), .unset, .unset, .unset] [(.int p0)])) (fun t k => ?_) ?_
  · refine XS.iloadN X0.here hx rfl (hb hby at_0) rfl  ?_
    show Steps p.tables e below (s₁.setTop (mkF m 1 #[.val (.int p0), .unset, .unset, .unset] [(.int p0)])) _
    exact k
  obtain ⟨_, _, ⟨T31, L31, k31, n31⟩, -, X31, ⟨Lc31, hQ31, l31, y31, z31⟩, st31⟩ := Jvm.LawKit.callS X0 hx (y := (⟨"com/example/reprise/reprise/core/NextStepSucceededPinLaw", "reasonOf", "(I)Lcom/example/reprise/reprise/core/ParkReason;"⟩ : MethodName)) hown (mvT hZ (hw _ (List.mem_of_getElem? (i := 0) rfl))) (mvT hZ (hw _ (List.mem_of_getElem? (i := 1) rfl))) (mvT hZ (hw _ (List.mem_of_getElem? (i := 2) rfl))) (mvT hZ (hw _ (List.mem_of_getElem? (i := 3) rfl))) (by decide) (backOf (W := 0) (rm1 l Z a0 hw [] s_MAX_ATTEMPTS s_SUCCEEDED s_PARKED s_PENDING s_EXPIRED s_REJECTED HW p0 h0 n0 O0) hZ (hw _ (List.mem_of_getElem? (i := 3) rfl)) (hw _ (List.mem_of_getElem? (i := 2) rfl)) (by decide) (by decide)) (g := (mkF m 1 #[.val (.int p0), .unset, .unset, .unset] [(.int p0)])) rfl (by rw [hml]; rfl) (argsL := [(.int p0)]) (rest := []) (lenOf own_pd75 rfl) rfl (by show 2 * 0 + _ ≤ _; exact Nat.le_of_eq rfl) (hb hby at_1) (fun _ _ => ⟨rfl, e0, (by decide : 0 + 0 ≤ _), (by decide : 0 + 0 ≤ _)⟩)
  dsimp only [Pt.U, Pt.locs, Pt.cells, Pt.slots] at X31 l31 y31 z31 st31 hQ31
  subst l31 y31 z31
  obtain ⟨rfl, N31q, e31⟩ := hQ31
  have N31 := Fr.app N0 N31q
  refine Go.st (V' := T31.setTop (mkF m 4 #[.val (.int p0), .unset, .unset, .unset] [(.ref (f1 s_MAX_ATTEMPTS s_EXPIRED s_REJECTED p0))])) (fun t k => st31 t k) ?_
  obtain ⟨oa, h_oa⟩ : ∃ z, z = (f1 s_MAX_ATTEMPTS s_EXPIRED s_REJECTED p0) := ⟨_, rfl⟩
  rw [← h_oa]
  have E_oa : Exa Z Z.heap oa "com/example/reprise/reprise/core/ParkReason" := by rw [h_oa]; exact own_pickE Z s_MAX_ATTEMPTS s_SUCCEEDED s_PARKED s_PENDING s_EXPIRED s_REJECTED HW p0
  refine Go.st (V' := T31.setTop (mkF m 5 #[.val (.int p0), .val (.ref oa), .unset, .unset] [])) (fun t k => ?_) ?_
  · refine XS.astoreN X31.here hx rfl (hb hby at_4) rfl rfl (l' := #[.val (.int p0), .val (.ref oa), .unset, .unset]) rfl ?_
    show Steps p.tables e below (T31.setTop (mkF m 5 #[.val (.int p0), .val (.ref oa), .unset, .unset] [])) _
    exact k
  obtain ⟨_, _, ⟨T32, L32, k32, n32⟩, -, X32, ⟨Lc32, hQ32, l32, y32, z32⟩, st32⟩ := Jvm.LawKit.callS X31 hx (y := (⟨"com/example/reprise/reprise/core/NextStep", "succeeded", "()Lcom/example/reprise/reprise/core/NextStep;"⟩ : MethodName)) hown (mvT hZ (hw _ (List.mem_of_getElem? (i := 8) rfl))) (mvT hZ (hw _ (List.mem_of_getElem? (i := 9) rfl))) (mvT hZ (hw _ (List.mem_of_getElem? (i := 10) rfl))) (mvT hZ (hw _ (List.mem_of_getElem? (i := 11) rfl))) (by decide) (backOf (W := 0) (rm2 l Z a0 hw [] s_MAX_ATTEMPTS s_SUCCEEDED s_PARKED s_PENDING s_EXPIRED s_REJECTED HW h0 n0 O0) hZ (hw _ (List.mem_of_getElem? (i := 11) rfl)) (hw _ (List.mem_of_getElem? (i := 10) rfl)) (by decide) (by decide)) (g := (mkF m 5 #[.val (.int p0), .val (.ref oa), .unset, .unset] [])) rfl (by rw [hml]; rfl) (argsL := []) (rest := []) (lenOf own_pd76 rfl) rfl (by show 2 * 0 + _ ≤ _; exact Nat.le_of_eq rfl) (hb hby at_5) (fun _ _ => ⟨rfl, e31, (by decide : 0 + 1 ≤ _), (by decide : 0 + 3 ≤ _)⟩)
  dsimp only [Pt.U, Pt.locs, Pt.cells, Pt.slots] at X32 l32 y32 z32 st32 hQ32
  subst l32 y32 z32
  obtain ⟨b32_y0, rfl, N32q, K32, sz32_y0, f32_0, f32_1, f32_2, f32_3⟩ := hQ32
  have N32 := Fr.app N31 N32q
  have O32 := O0.keep K32 all0
  have g_b32_y0 : n0 ≤ b32_y0 := Nat.le_trans (Nat.le_trans (Nat.le_of_eq O0.1.symm) O0.2.1) sz32_y0
  have hk := Nat.le_trans hk K32.1
  refine Go.st (V' := T32.setTop (mkF m 8 #[.val (.int p0), .val (.ref oa), .unset, .unset] [(.ref b32_y0)])) (fun t k => st32 t k) ?_
  refine Go.st (V' := T32.setTop (mkF m 10 #[.val (.int p0), .val (.ref oa), .val (.ref b32_y0), .unset] [(.ref oa)])) (fun t k => ?_) ?_
  · refine XS.astoreN X32.here hx rfl (hb hby at_8) rfl rfl (l' := #[.val (.int p0), .val (.ref oa), .val (.ref b32_y0), .unset]) rfl ?_
    show Steps p.tables e below (T32.setTop (mkF m 9 #[.val (.int p0), .val (.ref oa), .val (.ref b32_y0), .unset] [])) _
    refine XS.aloadN X32.here hx rfl (hb hby at_9) rfl rfl ?_
    show Steps p.tables e below (T32.setTop (mkF m 10 #[.val (.int p0), .val (.ref oa), .val (.ref b32_y0), .unset] [(.ref oa)])) _
    exact k
  obtain ⟨_, _, ⟨T33, L33, k33, n33⟩, -, X33, hS2, hg2, ⟨Lc33, hQ33, l33, y33, z33⟩, st33⟩ := callSS X32 hx (y := (⟨"com/example/reprise/reprise/core/NextStep", "parked", "(Lcom/example/reprise/reprise/core/ParkReason;)Lcom/example/reprise/reprise/core/NextStep;"⟩ : MethodName)) hown (mvT hZ (hw _ (List.mem_of_getElem? (i := 34) rfl))) (mvT hZ (hw _ (List.mem_of_getElem? (i := 35) rfl))) (mvT hZ (hw _ (List.mem_of_getElem? (i := 10) rfl))) (mvT hZ (hw _ (List.mem_of_getElem? (i := 36) rfl))) (by decide) (backOfS (W := 0) (rm6 l Z a0 hw [] s_MAX_ATTEMPTS s_SUCCEEDED s_PARKED s_PENDING s_EXPIRED s_REJECTED HW oa T32.heap n0 O32 (E_oa.ext O32.2)) hZ (hw _ (List.mem_of_getElem? (i := 36) rfl)) (hw _ (List.mem_of_getElem? (i := 10) rfl)) (by decide) (by decide)) (g := (mkF m 10 #[.val (.int p0), .val (.ref oa), .val (.ref b32_y0), .unset] [(.ref oa)])) rfl (by rw [hml]; rfl) (argsL := [(.ref oa)]) (rest := []) (lenOf own_pd77 rfl) rfl (by show 2 * 0 + _ ≤ _; exact Nat.le_of_eq rfl) (hb hby at_10) (fun _ _ => ⟨rfl, rfl, (by decide : 1 + 3 ≤ _), (by decide : 3 + 31 ≤ _)⟩)
  dsimp only [Pt.U, Pt.locs, Pt.cells, Pt.slots] at X33 l33 y33 z33 st33 hQ33 hS2 hg2
  subst l33 y33 z33
  obtain ⟨X33, hS, hZ, hown⟩ := rebS (s := s) hS hk X33 hS2 hg2 hZ hown
  have hk := Nat.le_refl T33.heap.size
  obtain ⟨b33_y0, rfl, N33q, K33, sz33_y0, f33_0, f33_1, f33_2, f33_3⟩ := hQ33
  have N33 := Fr.app N32 N33q
  have O33 := O32.keep K33 all0
  have g_b33_y0 : n0 ≤ b33_y0 := Nat.le_trans (Nat.le_trans (Nat.le_of_eq O32.1.symm) O32.2.1) sz33_y0
  refine Go.st (V' := T33.setTop (mkF m 13 #[.val (.int p0), .val (.ref oa), .val (.ref b32_y0), .unset] [(.ref b33_y0)])) (fun t k => st33.trans k) ?_
  refine Go.st (V' := T33.setTop (mkF m 15 #[.val (.int p0), .val (.ref oa), .val (.ref b32_y0), .val (.ref b33_y0)] [(.ref b32_y0)])) (fun t k => ?_) ?_
  · refine XS.astoreN X33.here hx rfl (hb hby at_13) rfl rfl (l' := #[.val (.int p0), .val (.ref oa), .val (.ref b32_y0), .val (.ref b33_y0)]) rfl ?_
    show Steps p.tables e below (T33.setTop (mkF m 14 #[.val (.int p0), .val (.ref oa), .val (.ref b32_y0), .val (.ref b33_y0)] [])) _
    refine XS.aloadN X33.here hx rfl (hb hby at_14) rfl rfl ?_
    show Steps p.tables e below (T33.setTop (mkF m 15 #[.val (.int p0), .val (.ref oa), .val (.ref b32_y0), .val (.ref b33_y0)] [(.ref b32_y0)])) _
    exact k
  obtain ⟨cq34, kq34, q34a, q34b, q34c⟩ := isOf hZ rfl (f32_0.keep K33)
  obtain ⟨_, _, ⟨T34, L34, k34, n34⟩, -, X34, ⟨Lc34, hQ34, l34, y34, z34⟩, st34⟩ := X33.virtualBack hx (y := (⟨"com/example/reprise/reprise/core/NextStep", "state", "()Lcom/example/reprise/reprise/core/TaskState;"⟩ : MethodName)) (z := (⟨"com/example/reprise/reprise/core/NextStep", "state", "()Lcom/example/reprise/reprise/core/TaskState;"⟩ : MethodName)) hown (mvT hZ (hw _ (List.mem_of_getElem? (i := 53) rfl))) (mvT hZ (hw _ (List.mem_of_getElem? (i := 54) rfl))) (notFace_of_selects (args := #[]) (mvT hZ (hw _ (List.mem_of_getElem? (i := 56) rfl)))) (mvT hZ (hw _ (List.mem_of_getElem? (i := 56) rfl))) (mvT hZ (hw _ (List.mem_of_getElem? (i := 55) rfl))) (by decide) (backOf (W := 0) (rm8 l Z a0 hw [] s_MAX_ATTEMPTS s_SUCCEEDED s_PARKED s_PENDING s_EXPIRED s_REJECTED HW b32_y0 s_SUCCEEDED T33.heap n0 O33 (f32_1.keep K33 nin0)) hZ (hw _ (List.mem_of_getElem? (i := 57) rfl)) (hw _ (List.mem_of_getElem? (i := 10) rfl)) (by decide) (by decide)) q34a q34c (g := (mkF m 15 #[.val (.int p0), .val (.ref oa), .val (.ref b32_y0), .val (.ref b33_y0)] [(.ref b32_y0)])) rfl (by rw [hml]; rfl) (Steps.refl _) (argsL := []) (rest := []) (lenOf own_pd78 rfl) rfl (by show 2 * 0 + _ ≤ _; exact Nat.le_of_eq rfl) (hb hby at_15) (fun _ _ => ⟨rfl, rfl, (by decide : 4 + 0 ≤ _), (by decide : 34 + 0 ≤ _)⟩)
  dsimp only [Pt.U, Pt.locs, Pt.cells, Pt.slots] at X34 l34 y34 z34 st34 hQ34
  subst l34 y34 z34
  obtain ⟨rfl, N34q, e34⟩ := hQ34
  have N34 := Fr.app N33 N34q
  refine Go.st (V' := T34.setTop (mkF m 18 #[.val (.int p0), .val (.ref oa), .val (.ref b32_y0), .val (.ref b33_y0)] [(.ref s_SUCCEEDED)])) (fun t k => st34.trans k) ?_
  obtain ⟨T35, X35, e35, st35⟩ := getS2 X34 hx hZ hown (host := "") (Or.inl (hw _ (List.mem_of_getElem? (i := 58) rfl))) Via.refl e34 (S_SUCCEEDED.ext O33.2) (g := (mkF m 18 #[.val (.int p0), .val (.ref oa), .val (.ref b32_y0), .val (.ref b33_y0)] [(.ref s_SUCCEEDED)])) rfl (hb hby at_18)
  refine Go.st (V' := T35.setTop (mkF m 21 #[.val (.int p0), .val (.ref oa), .val (.ref b32_y0), .val (.ref b33_y0)] [(.ref s_SUCCEEDED), (.ref s_SUCCEEDED)])) (fun t k => st35 t k) ?_
  refine Go.st (V' := T35.setTop (mkF m 25 #[.val (.int p0), .val (.ref oa), .val (.ref b32_y0), .val (.ref b33_y0)] [(.ref b32_y0)])) (fun t k => ?_) ?_
  · refine Jvm.RoadKit.acmp (g := (mkF m 21 #[.val (.int p0), .val (.ref oa), .val (.ref b32_y0), .val (.ref b33_y0)] [(.ref s_SUCCEEDED), (.ref s_SUCCEEDED)])) X35 hx rfl rfl rfl (pc0 := 21) (pc' := 24) (same := true) rfl (hb hby at_21) rfl (decide_eq_true (congrArg Value.ref rfl)) (by decide) (by decide) ?_
    show Steps p.tables e below (T35.setTop (mkF m 24 #[.val (.int p0), .val (.ref oa), .val (.ref b32_y0), .val (.ref b33_y0)] [])) _
    refine XS.aloadN X35.here hx rfl (hb hby at_24) rfl rfl ?_
    show Steps p.tables e below (T35.setTop (mkF m 25 #[.val (.int p0), .val (.ref oa), .val (.ref b32_y0), .val (.ref b33_y0)] [(.ref b32_y0)])) _
    exact k
  obtain ⟨cq36, kq36, q36a, q36b, q36c⟩ := isOf hZ e35 (f32_0.keep K33)
  obtain ⟨_, _, ⟨T36, L36, k36, n36⟩, -, X36, ⟨Lc36, hQ36, l36, y36, z36⟩, st36⟩ := X35.virtualBack hx (y := (⟨"com/example/reprise/reprise/core/NextStep", "reason", "()Lcom/example/reprise/reprise/core/ParkReason;"⟩ : MethodName)) (z := (⟨"com/example/reprise/reprise/core/NextStep", "reason", "()Lcom/example/reprise/reprise/core/ParkReason;"⟩ : MethodName)) hown (mvT hZ (hw _ (List.mem_of_getElem? (i := 59) rfl))) (mvT hZ (hw _ (List.mem_of_getElem? (i := 60) rfl))) (notFace_of_selects (args := #[]) (mvT hZ (hw _ (List.mem_of_getElem? (i := 62) rfl)))) (mvT hZ (hw _ (List.mem_of_getElem? (i := 62) rfl))) (mvT hZ (hw _ (List.mem_of_getElem? (i := 61) rfl))) (by decide) (backOf (W := 0) (rm9 l Z a0 hw [] s_MAX_ATTEMPTS s_SUCCEEDED s_PARKED s_PENDING s_EXPIRED s_REJECTED HW b32_y0 T33.heap n0 O33 (f32_2.keep K33 nin0)) hZ (hw _ (List.mem_of_getElem? (i := 63) rfl)) (hw _ (List.mem_of_getElem? (i := 10) rfl)) (by decide) (by decide)) q36a q36c (g := (mkF m 25 #[.val (.int p0), .val (.ref oa), .val (.ref b32_y0), .val (.ref b33_y0)] [(.ref b32_y0)])) rfl (by rw [hml]; rfl) (Steps.refl _) (argsL := []) (rest := []) (lenOf own_pd79 rfl) rfl (by show 2 * 0 + _ ≤ _; exact Nat.le_of_eq rfl) (hb hby at_25) (fun _ _ => ⟨rfl, e35, (by decide : 4 + 0 ≤ _), (by decide : 34 + 0 ≤ _)⟩)
  dsimp only [Pt.U, Pt.locs, Pt.cells, Pt.slots] at X36 l36 y36 z36 st36 hQ36
  subst l36 y36 z36
  obtain ⟨rfl, N36q, e36⟩ := hQ36
  have N36 := Fr.app N34 N36q
  refine Go.st (V' := T36.setTop (mkF m 28 #[.val (.int p0), .val (.ref oa), .val (.ref b32_y0), .val (.ref b33_y0)] [.null])) (fun t k => st36.trans k) ?_
  refine Go.st (V' := T36.setTop (mkF m 32 #[.val (.int p0), .val (.ref oa), .val (.ref b32_y0), .val (.ref b33_y0)] [(.ref b32_y0)])) (fun t k => ?_) ?_
  · refine XS.ifnonnullNo X36.here hx rfl (hb hby at_28) rfl ?_
    show Steps p.tables e below (T36.setTop (mkF m 31 #[.val (.int p0), .val (.ref oa), .val (.ref b32_y0), .val (.ref b33_y0)] [])) _
    refine XS.aloadN X36.here hx rfl (hb hby at_31) rfl rfl ?_
    show Steps p.tables e below (T36.setTop (mkF m 32 #[.val (.int p0), .val (.ref oa), .val (.ref b32_y0), .val (.ref b33_y0)] [(.ref b32_y0)])) _
    exact k
  obtain ⟨cq37, kq37, q37a, q37b, q37c⟩ := isOf hZ e36 (f32_0.keep K33)
  obtain ⟨_, _, ⟨T37, L37, k37, n37⟩, -, X37, ⟨Lc37, hQ37, l37, y37, z37⟩, st37⟩ := X36.virtualBack hx (y := (⟨"com/example/reprise/reprise/core/NextStep", "dueAt", "()Ljava/time/Instant;"⟩ : MethodName)) (z := (⟨"com/example/reprise/reprise/core/NextStep", "dueAt", "()Ljava/time/Instant;"⟩ : MethodName)) hown (mvT hZ (hw _ (List.mem_of_getElem? (i := 64) rfl))) (mvT hZ (hw _ (List.mem_of_getElem? (i := 65) rfl))) (notFace_of_selects (args := #[]) (mvT hZ (hw _ (List.mem_of_getElem? (i := 67) rfl)))) (mvT hZ (hw _ (List.mem_of_getElem? (i := 67) rfl))) (mvT hZ (hw _ (List.mem_of_getElem? (i := 66) rfl))) (by decide) (backOf (W := 0) (rm10 l Z a0 hw [] s_MAX_ATTEMPTS s_SUCCEEDED s_PARKED s_PENDING s_EXPIRED s_REJECTED HW b32_y0 T33.heap n0 O33 (f32_3.keep K33 nin0)) hZ (hw _ (List.mem_of_getElem? (i := 68) rfl)) (hw _ (List.mem_of_getElem? (i := 10) rfl)) (by decide) (by decide)) q37a q37c (g := (mkF m 32 #[.val (.int p0), .val (.ref oa), .val (.ref b32_y0), .val (.ref b33_y0)] [(.ref b32_y0)])) rfl (by rw [hml]; rfl) (Steps.refl _) (argsL := []) (rest := []) (lenOf own_pd80 rfl) rfl (by show 2 * 0 + _ ≤ _; exact Nat.le_of_eq rfl) (hb hby at_32) (fun _ _ => ⟨rfl, e36, (by decide : 4 + 0 ≤ _), (by decide : 34 + 0 ≤ _)⟩)
  dsimp only [Pt.U, Pt.locs, Pt.cells, Pt.slots] at X37 l37 y37 z37 st37 hQ37
  subst l37 y37 z37
  obtain ⟨rfl, N37q, e37⟩ := hQ37
  have N37 := Fr.app N36 N37q
  refine Go.st (V' := T37.setTop (mkF m 35 #[.val (.int p0), .val (.ref oa), .val (.ref b32_y0), .val (.ref b33_y0)] [.null])) (fun t k => st37.trans k) ?_
  refine Go.st (V' := T37.setTop (mkF m 39 #[.val (.int p0), .val (.ref oa), .val (.ref b32_y0), .val (.ref b33_y0)] [(.ref b32_y0)])) (fun t k => ?_) ?_
  · refine XS.ifnonnullNo X37.here hx rfl (hb hby at_35) rfl ?_
    show Steps p.tables e below (T37.setTop (mkF m 38 #[.val (.int p0), .val (.ref oa), .val (.ref b32_y0), .val (.ref b33_y0)] [])) _
    refine XS.aloadN X37.here hx rfl (hb hby at_38) rfl rfl ?_
    show Steps p.tables e below (T37.setTop (mkF m 39 #[.val (.int p0), .val (.ref oa), .val (.ref b32_y0), .val (.ref b33_y0)] [(.ref b32_y0)])) _
    exact k
  obtain ⟨cq38, kq38, q38a, q38b, q38c⟩ := isOf hZ e37 (f32_0.keep K33)
  obtain ⟨_, _, ⟨T38, L38, k38, n38⟩, -, X38, ⟨Lc38, hQ38, l38, y38, z38⟩, st38⟩ := X37.virtualBack hx (y := (⟨"com/example/reprise/reprise/core/NextStep", "state", "()Lcom/example/reprise/reprise/core/TaskState;"⟩ : MethodName)) (z := (⟨"com/example/reprise/reprise/core/NextStep", "state", "()Lcom/example/reprise/reprise/core/TaskState;"⟩ : MethodName)) hown (mvT hZ (hw _ (List.mem_of_getElem? (i := 53) rfl))) (mvT hZ (hw _ (List.mem_of_getElem? (i := 54) rfl))) (notFace_of_selects (args := #[]) (mvT hZ (hw _ (List.mem_of_getElem? (i := 56) rfl)))) (mvT hZ (hw _ (List.mem_of_getElem? (i := 56) rfl))) (mvT hZ (hw _ (List.mem_of_getElem? (i := 55) rfl))) (by decide) (backOf (W := 0) (rm8 l Z a0 hw [] s_MAX_ATTEMPTS s_SUCCEEDED s_PARKED s_PENDING s_EXPIRED s_REJECTED HW b32_y0 s_SUCCEEDED T33.heap n0 O33 (f32_1.keep K33 nin0)) hZ (hw _ (List.mem_of_getElem? (i := 57) rfl)) (hw _ (List.mem_of_getElem? (i := 10) rfl)) (by decide) (by decide)) q38a q38c (g := (mkF m 39 #[.val (.int p0), .val (.ref oa), .val (.ref b32_y0), .val (.ref b33_y0)] [(.ref b32_y0)])) rfl (by rw [hml]; rfl) (Steps.refl _) (argsL := []) (rest := []) (lenOf own_pd78 rfl) rfl (by show 2 * 0 + _ ≤ _; exact Nat.le_of_eq rfl) (hb hby at_39) (fun _ _ => ⟨rfl, e37, (by decide : 4 + 0 ≤ _), (by decide : 34 + 0 ≤ _)⟩)
  dsimp only [Pt.U, Pt.locs, Pt.cells, Pt.slots] at X38 l38 y38 z38 st38 hQ38
  subst l38 y38 z38
  obtain ⟨rfl, N38q, e38⟩ := hQ38
  have N38 := Fr.app N37 N38q
  refine Go.st (V' := T38.setTop (mkF m 42 #[.val (.int p0), .val (.ref oa), .val (.ref b32_y0), .val (.ref b33_y0)] [(.ref s_SUCCEEDED)])) (fun t k => st38.trans k) ?_
  obtain ⟨cq39, kq39, q39a, q39b, q39c⟩ := isOf hZ e38 (E_SUCCEEDED.ext O33.2)
  obtain ⟨_, _, ⟨T39, L39, k39, n39⟩, -, X39, ⟨Lc39, hQ39, l39, y39, z39⟩, st39⟩ := X38.virtualBack hx (y := (⟨"com/example/reprise/reprise/core/TaskState", "cancellable", "()Z"⟩ : MethodName)) (z := (⟨"com/example/reprise/reprise/core/TaskState", "cancellable", "()Z"⟩ : MethodName)) hown (mvT hZ (hw _ (List.mem_of_getElem? (i := 69) rfl))) (mvT hZ (hw _ (List.mem_of_getElem? (i := 70) rfl))) (notFace_of_selects (args := #[]) (mvT hZ (hw _ (List.mem_of_getElem? (i := 72) rfl)))) (mvT hZ (hw _ (List.mem_of_getElem? (i := 72) rfl))) (mvT hZ (hw _ (List.mem_of_getElem? (i := 71) rfl))) (by decide) (backOf (W := 0) (rm11 l Z a0 hw [] s_MAX_ATTEMPTS s_SUCCEEDED s_PARKED s_PENDING s_EXPIRED s_REJECTED HW s_SUCCEEDED T33.heap n0 O33) hZ (hw _ (List.mem_of_getElem? (i := 73) rfl)) (hw _ (List.mem_of_getElem? (i := 15) rfl)) (by decide) (by decide)) q39a q39c (g := (mkF m 42 #[.val (.int p0), .val (.ref oa), .val (.ref b32_y0), .val (.ref b33_y0)] [(.ref s_SUCCEEDED)])) rfl (by rw [hml]; rfl) (Steps.refl _) (argsL := []) (rest := []) (lenOf own_pd81 rfl) rfl (by show 2 * 0 + _ ≤ _; exact Nat.le_of_eq rfl) (hb hby at_42) (fun _ _ => ⟨rfl, e38, (by decide : 4 + 0 ≤ _), (by decide : 34 + 0 ≤ _)⟩)
  dsimp only [Pt.U, Pt.locs, Pt.cells, Pt.slots] at X39 l39 y39 z39 st39 hQ39
  subst l39 y39 z39
  obtain ⟨rfl, N39q, e39⟩ := hQ39
  have N39 := Fr.app N38 N39q
  refine Go.st (V' := T39.setTop (mkF m 45 #[.val (.int p0), .val (.ref oa), .val (.ref b32_y0), .val (.ref b33_y0)] [(.int (f11 s_PARKED s_PENDING s_SUCCEEDED))])) (fun t k => st39.trans k) ?_
  have r40 : (f11 s_PARKED s_PENDING s_SUCCEEDED) = (0 : Int32) := by rw [f11, if_neg (Fld.ne (F_SUCCEEDED_ordinal.ext O33.2) (F_PENDING_ordinal.ext O33.2) (by decide)), if_neg (Fld.ne (F_SUCCEEDED_ordinal.ext O33.2) (F_PARKED_ordinal.ext O33.2) (by decide))]
  rw [r40]
  refine Go.st (V' := T39.setTop (mkF m 49 #[.val (.int p0), .val (.ref oa), .val (.ref b32_y0), .val (.ref b33_y0)] [(.ref b33_y0)])) (fun t k => ?_) ?_
  · refine XS.ifNo X39.here hx rfl (hb hby at_45) rfl ((if0 _ _).trans (teq (by decide : ((0 : Int32) = (0 : Int32)))).2) ?_
    show Steps p.tables e below (T39.setTop (mkF m 48 #[.val (.int p0), .val (.ref oa), .val (.ref b32_y0), .val (.ref b33_y0)] [])) _
    refine XS.aloadN X39.here hx rfl (hb hby at_48) rfl rfl ?_
    show Steps p.tables e below (T39.setTop (mkF m 49 #[.val (.int p0), .val (.ref oa), .val (.ref b32_y0), .val (.ref b33_y0)] [(.ref b33_y0)])) _
    exact k
  obtain ⟨cq41, kq41, q41a, q41b, q41c⟩ := isOf hZ e39 f33_0
  obtain ⟨_, _, ⟨T41, L41, k41, n41⟩, -, X41, ⟨Lc41, hQ41, l41, y41, z41⟩, st41⟩ := X39.virtualBack hx (y := (⟨"com/example/reprise/reprise/core/NextStep", "state", "()Lcom/example/reprise/reprise/core/TaskState;"⟩ : MethodName)) (z := (⟨"com/example/reprise/reprise/core/NextStep", "state", "()Lcom/example/reprise/reprise/core/TaskState;"⟩ : MethodName)) hown (mvT hZ (hw _ (List.mem_of_getElem? (i := 53) rfl))) (mvT hZ (hw _ (List.mem_of_getElem? (i := 54) rfl))) (notFace_of_selects (args := #[]) (mvT hZ (hw _ (List.mem_of_getElem? (i := 56) rfl)))) (mvT hZ (hw _ (List.mem_of_getElem? (i := 56) rfl))) (mvT hZ (hw _ (List.mem_of_getElem? (i := 55) rfl))) (by decide) (backOf (W := 0) (rm8 l Z a0 hw [] s_MAX_ATTEMPTS s_SUCCEEDED s_PARKED s_PENDING s_EXPIRED s_REJECTED HW b33_y0 s_PARKED T33.heap n0 O33 f33_1) hZ (hw _ (List.mem_of_getElem? (i := 57) rfl)) (hw _ (List.mem_of_getElem? (i := 10) rfl)) (by decide) (by decide)) q41a q41c (g := (mkF m 49 #[.val (.int p0), .val (.ref oa), .val (.ref b32_y0), .val (.ref b33_y0)] [(.ref b33_y0)])) rfl (by rw [hml]; rfl) (Steps.refl _) (argsL := []) (rest := []) (lenOf own_pd78 rfl) rfl (by show 2 * 0 + _ ≤ _; exact Nat.le_of_eq rfl) (hb hby at_49) (fun _ _ => ⟨rfl, e39, (by decide : 4 + 0 ≤ _), (by decide : 34 + 0 ≤ _)⟩)
  dsimp only [Pt.U, Pt.locs, Pt.cells, Pt.slots] at X41 l41 y41 z41 st41 hQ41
  subst l41 y41 z41
  obtain ⟨rfl, N41q, e41⟩ := hQ41
  have N41 := Fr.app N39 N41q
  refine Go.st (V' := T41.setTop (mkF m 52 #[.val (.int p0), .val (.ref oa), .val (.ref b32_y0), .val (.ref b33_y0)] [(.ref s_PARKED)])) (fun t k => st41.trans k) ?_
  refine Go.st (V' := T41.setTop (mkF m 53 #[.val (.int p0), .val (.ref oa), .val (.ref b32_y0), .val (.ref b33_y0)] [(.ref b32_y0), (.ref s_PARKED)])) (fun t k => ?_) ?_
  · refine XS.aloadN X41.here hx rfl (hb hby at_52) rfl rfl ?_
    show Steps p.tables e below (T41.setTop (mkF m 53 #[.val (.int p0), .val (.ref oa), .val (.ref b32_y0), .val (.ref b33_y0)] [(.ref b32_y0), (.ref s_PARKED)])) _
    exact k
  obtain ⟨cq42, kq42, q42a, q42b, q42c⟩ := isOf hZ e41 (f32_0.keep K33)
  obtain ⟨_, _, ⟨T42, L42, k42, n42⟩, -, X42, ⟨Lc42, hQ42, l42, y42, z42⟩, st42⟩ := X41.virtualBack hx (y := (⟨"com/example/reprise/reprise/core/NextStep", "state", "()Lcom/example/reprise/reprise/core/TaskState;"⟩ : MethodName)) (z := (⟨"com/example/reprise/reprise/core/NextStep", "state", "()Lcom/example/reprise/reprise/core/TaskState;"⟩ : MethodName)) hown (mvT hZ (hw _ (List.mem_of_getElem? (i := 53) rfl))) (mvT hZ (hw _ (List.mem_of_getElem? (i := 54) rfl))) (notFace_of_selects (args := #[]) (mvT hZ (hw _ (List.mem_of_getElem? (i := 56) rfl)))) (mvT hZ (hw _ (List.mem_of_getElem? (i := 56) rfl))) (mvT hZ (hw _ (List.mem_of_getElem? (i := 55) rfl))) (by decide) (backOf (W := 1) (rm8 l Z a0 hw [] s_MAX_ATTEMPTS s_SUCCEEDED s_PARKED s_PENDING s_EXPIRED s_REJECTED HW b32_y0 s_SUCCEEDED T33.heap n0 O33 (f32_1.keep K33 nin0)) hZ (hw _ (List.mem_of_getElem? (i := 57) rfl)) (hw _ (List.mem_of_getElem? (i := 10) rfl)) (by decide) (by decide)) q42a q42c (g := (mkF m 53 #[.val (.int p0), .val (.ref oa), .val (.ref b32_y0), .val (.ref b33_y0)] [(.ref b32_y0), (.ref s_PARKED)])) rfl (by rw [hml]; rfl) (Steps.refl _) (argsL := []) (rest := [(.ref s_PARKED)]) (lenOf own_pd78 rfl) rfl (by show 2 * 0 + _ ≤ _; exact Nat.le_of_eq rfl) (hb hby at_53) (fun _ _ => ⟨rfl, e41, (by decide : 4 + 0 ≤ _), (by decide : 34 + 0 ≤ _)⟩)
  dsimp only [Pt.U, Pt.locs, Pt.cells, Pt.slots] at X42 l42 y42 z42 st42 hQ42
  subst l42 y42 z42
  obtain ⟨rfl, N42q, e42⟩ := hQ42
  have N42 := Fr.app N41 N42q
  refine Go.st (V' := T42.setTop (mkF m 56 #[.val (.int p0), .val (.ref oa), .val (.ref b32_y0), .val (.ref b33_y0)] [(.ref s_SUCCEEDED), (.ref s_PARKED)])) (fun t k => st42.trans k) ?_
  refine Go.st (V' := T42.setTop (mkF m 64 #[.val (.int p0), .val (.ref oa), .val (.ref b32_y0), .val (.ref b33_y0)] [(.int (1 : Int32))])) (fun t k => ?_) ?_
  · refine Jvm.RoadKit.acmp (g := (mkF m 56 #[.val (.int p0), .val (.ref oa), .val (.ref b32_y0), .val (.ref b33_y0)] [(.ref s_SUCCEEDED), (.ref s_PARKED)])) X42 hx rfl rfl rfl (pc0 := 56) (pc' := 59) (same := false) rfl (hb hby at_56) rfl (decide_eq_false fun q => (Fld.ne (F_PARKED_ordinal.ext O33.2) (F_SUCCEEDED_ordinal.ext O33.2) (by decide)) (Value.ref.inj q)) (by decide) (by decide) ?_
    show Steps p.tables e below (T42.setTop (mkF m 59 #[.val (.int p0), .val (.ref oa), .val (.ref b32_y0), .val (.ref b33_y0)] [])) _
    refine XS.iconst X42.here hx rfl (hb hby at_59) ?_
    show Steps p.tables e below (T42.setTop (mkF m 60 #[.val (.int p0), .val (.ref oa), .val (.ref b32_y0), .val (.ref b33_y0)] [(.int (1 : Int32))])) _
    refine XS.goto X42.here hx rfl (pc0 := 60) (pc' := 64) rfl (hb hby at_60) (by decide) (by decide) ?_
    show Steps p.tables e below (T42.setTop (mkF m 64 #[.val (.int p0), .val (.ref oa), .val (.ref b32_y0), .val (.ref b33_y0)] [(.int (1 : Int32))])) _
    exact k
  obtain ⟨fs, hr, hrun, hended, hW⟩ := X42.leaveW hS (by rw [e42]; exact hk) (v := some (.int (1 : Int32))) (fun h => by rw [Bd.returns] at h; cases h)
  refine Go.mk' ⟨_, _, retN X42 hx (t := .boolean) Bd.returns (by simp) (hb hby at_64) hr, hrun, hended, _, _, rfl, ?_, hW.1, hW.2.1, hW.2.2.1, hW.2.2.2.mono (by decide) (by decide)⟩
  show Q0 Z p0 h0 n0 _ T42.heap _
  rw [e42]
  exact ⟨rfl, N42⟩
set_option maxRecDepth 65536 in
set_option maxHeartbeats 40000000 in
theorem comes_1 {Post : Tables → Env → Array Value → State → Outcome → State → Prop} (hpost : ∀ tb e args s v u, (limb_1_1.after args s (.returned v) u = true ∧ limb_1_2.after args s (.returned v) u = true ∧ True) → ReturnedEndW s (.returned v) u (Jvm.fieldLocs frame_1_writes args s ++ Jvm.arrayLocs frame_1_arrays args s ++ Jvm.staticLocs frame_1_statics s) 16 1152 → Post tb e args s (.returned v) u) :
    ArmFor flags0 classFile x code maxLocals ret World_1 tables_1 room_1 Calls_1 rest_1 Pre_1 Post := by
  intro l hfl _ _ p e ha hc hk s m args below hf hA hF happ hP
  obtain ⟨hcalls, hrest, hpre⟩ := hP
  obtain ⟨-, -, -, hnamed, -, -, -, hat⟩ := (Spec.applies_iff hf).mp happ
  obtain ⟨hg, hn⟩ := and_e (Cond.before_iff.mp (show (Jvm.Cond.and given_1 narrow_1).before args s = true from hpre))
  obtain ⟨gg0, hg⟩ := and_e hg
  have gg1 := hg
  obtain ⟨w0, rfl⟩ : ∃ w0 : Value, args = #[w0] := by
    have hs : args.size = 1 := by simpa [Cond.value, given_1] using gg0
    obtain ⟨L⟩ := args
    match L, hs with
    | [w0], _ => exact ⟨w0, rfl⟩
  have hw := fun d (hd : d ∈ tables_1) => atoms_spec (ws := Jvm.Cond.code x code maxLocals ret :: tables_1) hat d (List.mem_cons_of_mem _ hd)
  have hfit : Fit s := fun {y c} hc i hi => by
    obtain ⟨ha, rfl⟩ := Array.getElem?_eq_some_iff.mp hc
    have q := List.all_eq_true.mp ((Array.all_eq_true_iff_forall_mem.mp hF) _ (Array.getElem_mem ha)) i (List.mem_range.mpr hi)
    simpa [Array.getElem?_eq_getElem hi] using q
  obtain ⟨i0, ei0⟩ := is_v gg1
  obtain rfl : w0 = (.int i0) := Option.some.inj ei0
  obtain ⟨c0, hn⟩ := and_e hn
  obtain ⟨c1, hn⟩ := and_e hn
  obtain ⟨c2, hn⟩ := and_e hn
  obtain ⟨c3, hn⟩ := and_e hn
  obtain ⟨c4, hn⟩ := and_e hn
  obtain ⟨c5, hn⟩ := and_e hn
  obtain ⟨c6, hn⟩ := and_e hn
  obtain ⟨c7, hn⟩ := and_e hn
  have c8 := hn
  obtain ⟨s_MAX_ATTEMPTS, ev_MAX_ATTEMPTS⟩ := exa_v c0
  have E_MAX_ATTEMPTS := Exa.start ev_MAX_ATTEMPTS c0
  have S_MAX_ATTEMPTS := Sta.start ev_MAX_ATTEMPTS (Or.inr ⟨(hw _ (List.mem_of_getElem? (i := 6) rfl)), (hw _ (List.mem_of_getElem? (i := 7) rfl))⟩)
  obtain ⟨s_SUCCEEDED, ev_SUCCEEDED⟩ := exa_v c1
  have E_SUCCEEDED := Exa.start ev_SUCCEEDED c1
  have S_SUCCEEDED := Sta.start ev_SUCCEEDED (Or.inr ⟨(hw _ (List.mem_of_getElem? (i := 15) rfl)), (hw _ (List.mem_of_getElem? (i := 16) rfl))⟩)
  obtain ⟨s_PARKED, ev_PARKED⟩ := exa_v c2
  have E_PARKED := Exa.start ev_PARKED c2
  have S_PARKED := Sta.start ev_PARKED (Or.inr ⟨(hw _ (List.mem_of_getElem? (i := 15) rfl)), (hw _ (List.mem_of_getElem? (i := 38) rfl))⟩)
  obtain ⟨s_PENDING, ev_PENDING⟩ := exa_v c3
  have E_PENDING := Exa.start ev_PENDING c3
  have S_PENDING := Sta.start ev_PENDING (Or.inr ⟨(hw _ (List.mem_of_getElem? (i := 15) rfl)), (hw _ (List.mem_of_getElem? (i := 75) rfl))⟩)
  obtain ⟨s_EXPIRED, ev_EXPIRED⟩ := exa_v c7
  have E_EXPIRED := Exa.start ev_EXPIRED c7
  have S_EXPIRED := Sta.start ev_EXPIRED (Or.inr ⟨(hw _ (List.mem_of_getElem? (i := 6) rfl)), (hw _ (List.mem_of_getElem? (i := 78) rfl))⟩)
  obtain ⟨s_REJECTED, ev_REJECTED⟩ := exa_v c8
  have E_REJECTED := Exa.start ev_REJECTED c8
  have S_REJECTED := Sta.start ev_REJECTED (Or.inr ⟨(hw _ (List.mem_of_getElem? (i := 6) rfl)), (hw _ (List.mem_of_getElem? (i := 80) rfl))⟩)
  have F_SUCCEEDED_ordinal := Fld.start ((fld_at ev_SUCCEEDED).symm.trans (eqv_i (Term.int_eval _) c4))
  have F_PENDING_ordinal := Fld.start ((fld_at ev_PENDING).symm.trans (eqv_i (Term.int_eval _) c5))
  have F_PARKED_ordinal := Fld.start ((fld_at ev_PARKED).symm.trans (eqv_i (Term.int_eval _) c6))
  obtain ⟨n, o, h1, h2, h3, _, L, rfl, ⟨rfl, N⟩, hq⟩ := rm0 l s _ hw tables_1 s_MAX_ATTEMPTS s_SUCCEEDED s_PARKED s_PENDING s_EXPIRED s_REJECTED (show W0 s s_MAX_ATTEMPTS s_SUCCEEDED s_PARKED s_PENDING s_EXPIRED s_REJECTED from ⟨E_MAX_ATTEMPTS, S_MAX_ATTEMPTS, E_SUCCEEDED, S_SUCCEEDED, E_PARKED, S_PARKED, E_PENDING, S_PENDING, E_EXPIRED, S_EXPIRED, E_REJECTED, S_REJECTED, F_SUCCEEDED_ordinal, F_PENDING_ordinal, F_PARKED_ordinal⟩) i0 s.heap s.heap.size (Old.start s) p e ha hc hk s m _ below hf ((Spec.applies_iff_loose hf).mp happ).1 ⟨rfl, State.Warmed39.refl s, rfl⟩ trivial
  refine ⟨n, _, h1, h2, h3, hpost _ _ _ _ _ _ ⟨Cond.after_iff.mpr rfl, Cond.after_iff.mpr (eq_i res_at (Term.int_eval (1)) rfl), trivial⟩ ⟨hq.1, hq.2.1, hq.2.2.1, (hq.2.2.2.sift fun y hy => Or.inr (N y hy)).mono (by decide) (by decide)⟩⟩
theorem main_1_1 : Claimed_1_1 := comes_1 fun _ _ _ _ _ _ h hF => ⟨h.1, hF⟩
theorem main_1_2 : Claimed_1_2 := comes_1 fun _ _ _ _ _ _ h hF => ⟨h.2.1, hF⟩
end Jvm.Pilot.@@N@@
namespace Jvm.Pilot.@@N@@
open Jvm Jvm.ClassFile Sem Op Lib Jvm.Free Jvm.Stand Jvm.Pilot.@@N@@.Jvm.D
/-! MADE BY PROGRAM (witnessworld.py) out of the Statement's table words and the real class files: 19 classes; the members and pool entries that the words name. The judged class is class 1, her method 2. -/
namespace start1
open Jvm.ClassFile
def u (s : String) : CpInfo := .utf8 (stringToUtf16 s)
/-- a pool by its gaps: so many unusable entries, then the entry; so many at the end -/
def gap : Nat → List CpInfo → List CpInfo
  | 0, r => r
  | n + 1, r => .unusable :: gap n r
def poolList (es : List (Nat × CpInfo)) (last : Nat) : List CpInfo := es.foldr (fun e r => gap e.1 (e.2 :: r)) (gap last [])
def pool (es : List (Nat × CpInfo)) (last : Nat) : Array CpInfo := ⟨poolList es last⟩
def fileOf (pool : Array CpInfo) (this : Nat) (attrs : Array Attribute := #[]) (ms : Array MethodInfo := #[]) (fl : Nat := 33) (sup : Nat := 0) (ifs : Array Nat := #[]) (fds : Array FieldInfo := #[]) : ClassFile where
  minorVersion := 0
  majorVersion := 65
  constantPool := pool
  accessFlags := fl
  thisClass := this
  superClass := sup
  interfaces := ifs
  fields := fds
  methods := ms
  attributes := attrs
def plain (name : String) (sup : Option ClassId) : Class where
  name := name
  kind := .ordinary
  loader := none
  accessFlags := 33
  super := sup
  interfaces := #[]
  cf := none
  fields := #[]
  methods := #[]
  instanceTypes := #[]
  staticTypes := #[]
  resolved := #[]
  callSites := []
  init := .initialized
  statics := none
  mirror := none

def pool0 : Array CpInfo := pool [(5, u "<init>"), (0, u "()V"), (1, .class_ 10), (1, u "java/lang/Object")] 113

def k0c0 : Code := { maxStack := 0, maxLocals := 1, code := object_method_1_code, exceptionTable := #[], attributes := #[] }
def k0m0 : Method := { name := "<init>", desc := "()V", sig := { parameters := [], returnType := none }, accessFlags := 1, code := some k0c0 }
/-- java/lang/Object -/
def k0 : Class := { plain "java/lang/Object" none with
  accessFlags := 33
  interfaces := #[]
  cf := some (fileOf pool0 8 #[] #[{ accessFlags := 1, nameIndex := 5, descriptorIndex := 6, attributes := #[] }] 33 0 #[] #[])
  fields := #[]
  methods := #[k0m0]
  instanceTypes := #[]
  staticTypes := #[]
  resolved := Array.replicate 124 none
  statics := none }

def pool1 : Array CpInfo := pool [(2, .class_ 4), (1, u "java/lang/Object"), (0, u "<init>"), (0, u "()V"), (0, .integer 2147483647), (0, .fieldref 9 10), (0, .class_ 11), (0, .nameAndType 12 13), (0, u "com/example/reprise/reprise/core/ParkReason"), (0, u "MAX_ATTEMPTS"), (0, u "Lcom/example/reprise/reprise/core/ParkReason;"), (0, .fieldref 9 15), (0, .nameAndType 16 13), (0, u "REJECTED"), (0, .fieldref 9 18), (0, .nameAndType 19 13), (0, u "EXPIRED"), (0, .methodref 21 22), (0, .class_ 23), (0, .nameAndType 24 25), (0, u "com/example/reprise/reprise/core/NextStepSucceededPinLaw"), (0, u "reasonOf"), (0, u "(I)Lcom/example/reprise/reprise/core/ParkReason;"), (0, .methodref 27 28), (0, .class_ 29), (0, .nameAndType 30 31), (0, u "com/example/reprise/reprise/core/NextStep"), (0, u "succeeded"), (0, u "()Lcom/example/reprise/reprise/core/NextStep;"), (0, .methodref 27 33), (0, .nameAndType 34 35), (0, u "parked"), (0, u "(Lcom/example/reprise/reprise/core/ParkReason;)Lcom/example/reprise/reprise/core/NextStep;"), (0, .methodref 27 37), (0, .nameAndType 38 39), (0, u "state"), (0, u "()Lcom/example/reprise/reprise/core/TaskState;"), (0, .fieldref 41 42), (0, .class_ 43), (0, .nameAndType 44 45), (0, u "com/example/reprise/reprise/core/TaskState"), (0, u "SUCCEEDED"), (0, u "Lcom/example/reprise/reprise/core/TaskState;"), (0, .methodref 27 47), (0, .nameAndType 48 49), (0, u "reason"), (0, u "()Lcom/example/reprise/reprise/core/ParkReason;"), (0, .methodref 27 51), (0, .nameAndType 52 53), (0, u "dueAt"), (0, u "()Ljava/time/Instant;"), (0, .methodref 41 55), (0, .nameAndType 56 57), (0, u "cancellable"), (0, u "()Z"), (3, u "law"), (0, u "(I)Z")] 2

def k1m0 : Method := { name := "<init>", desc := "()V", sig := { parameters := [], returnType := none }, accessFlags := 1, code := none }
def k1c1 : Code := { maxStack := 2, maxLocals := 2, code := method_2_code, exceptionTable := #[], attributes := #[] }
def k1m1 : Method := { name := "reasonOf", desc := "(I)Lcom/example/reprise/reprise/core/ParkReason;", sig := { parameters := [.int], returnType := some (.object "com/example/reprise/reprise/core/ParkReason") }, accessFlags := 10, code := some k1c1 }
def k1c2 : Code := { maxStack := 2, maxLocals := 4, code := code, exceptionTable := #[], attributes := #[] }
def k1m2 : Method := { name := "law", desc := "(I)Z", sig := { parameters := [.int], returnType := some .boolean }, accessFlags := 9, code := some k1c2 }
/-- com/example/reprise/reprise/core/NextStepSucceededPinLaw -/
def k1 : Class := { plain "com/example/reprise/reprise/core/NextStepSucceededPinLaw" (some 0) with
  accessFlags := 49
  interfaces := #[]
  cf := some (fileOf pool1 21 #[] #[{ accessFlags := 1, nameIndex := 5, descriptorIndex := 6, attributes := #[] }, { accessFlags := 10, nameIndex := 24, descriptorIndex := 25, attributes := #[] }, { accessFlags := 9, nameIndex := 61, descriptorIndex := 62, attributes := #[] }] 49 2 #[] #[])
  fields := #[]
  methods := #[k1m0, k1m1, k1m2]
  instanceTypes := #[]
  staticTypes := #[]
  resolved := Array.replicate 65 none
  statics := none }

def pool2 : Array CpInfo := pool [(1, .class_ 2), (0, u "java/lang/constant/Constable"), (0, .class_ 4), (0, u "java/lang/Object")] 6

/-- java/lang/constant/Constable -/
def k2 : Class := { plain "java/lang/constant/Constable" (some 0) with
  accessFlags := 1537
  interfaces := #[]
  cf := some (fileOf pool2 1 #[] #[] 1537 3 #[] #[])
  fields := #[]
  methods := #[]
  instanceTypes := #[]
  staticTypes := #[]
  resolved := Array.replicate 11 none
  statics := none }

def pool3 : Array CpInfo := pool [(1, .class_ 2), (0, u "java/lang/Comparable"), (0, .class_ 4), (0, u "java/lang/Object")] 7

/-- java/lang/Comparable -/
def k3 : Class := { plain "java/lang/Comparable" (some 0) with
  accessFlags := 1537
  interfaces := #[]
  cf := some (fileOf pool3 1 #[] #[] 1537 3 #[] #[])
  fields := #[]
  methods := #[]
  instanceTypes := #[]
  staticTypes := #[]
  resolved := Array.replicate 12 none
  statics := none }

def pool4 : Array CpInfo := pool [(1, .class_ 2), (0, u "java/io/Serializable"), (0, .class_ 4), (0, u "java/lang/Object")] 2

/-- java/io/Serializable -/
def k4 : Class := { plain "java/io/Serializable" (some 0) with
  accessFlags := 1537
  interfaces := #[]
  cf := some (fileOf pool4 1 #[] #[] 1537 3 #[] #[])
  fields := #[]
  methods := #[]
  instanceTypes := #[]
  staticTypes := #[]
  resolved := Array.replicate 7 none
  statics := none }

def pool5 : Array CpInfo := pool [(2, .class_ 4), (1, u "java/lang/Enum"), (0, u "name"), (0, u "Ljava/lang/String;"), (2, u "ordinal"), (0, u "I"), (1, .class_ 14), (1, u "java/lang/Object"), (4, u "hash"), (86, .class_ 108), (1, u "java/lang/Enum$EnumDesc"), (2, .class_ 112), (0, u "java/lang/constant/Constable"), (0, .class_ 114), (0, u "java/lang/Comparable"), (0, .class_ 116), (0, u "java/io/Serializable")] 87

/-- java/lang/Enum -/
def k5 : Class := { plain "java/lang/Enum" (some 0) with
  accessFlags := 1057
  interfaces := #[2, 3, 4]
  cf := some (fileOf pool5 2 #[.nestMembers #[106]] #[] 1057 12 #[111, 113, 115] #[{ accessFlags := 18, nameIndex := 5, descriptorIndex := 6, attributes := #[] }, { accessFlags := 18, nameIndex := 9, descriptorIndex := 10, attributes := #[] }, { accessFlags := 2, nameIndex := 19, descriptorIndex := 10, attributes := #[] }])
  fields := #[{ name := "name", type := (.object "java/lang/String"), accessFlags := 18, slot := 0, constantValue := 0 }, { name := "ordinal", type := .int, accessFlags := 18, slot := 1, constantValue := 0 }, { name := "hash", type := .int, accessFlags := 2, slot := 2, constantValue := 0 }]
  methods := #[]
  instanceTypes := #[(.object "java/lang/String"), .int, .int]
  staticTypes := #[]
  resolved := Array.replicate 204 none
  statics := none }

def pool6 : Array CpInfo := pool [(1, .class_ 2), (0, u "com/example/reprise/reprise/core/ParkReason"), (2, u "MAX_ATTEMPTS"), (0, u "Lcom/example/reprise/reprise/core/ParkReason;"), (2, u "REJECTED"), (2, u "EXPIRED"), (2, u "$VALUES"), (0, u "[Lcom/example/reprise/reprise/core/ParkReason;"), (6, .class_ 25), (1, u "java/lang/Enum")] 40

/-- com/example/reprise/reprise/core/ParkReason -/
def k6 : Class := { plain "com/example/reprise/reprise/core/ParkReason" (some 5) with
  accessFlags := 16433
  interfaces := #[]
  cf := some (fileOf pool6 1 #[] #[] 16433 23 #[] #[{ accessFlags := 16409, nameIndex := 5, descriptorIndex := 6, attributes := #[] }, { accessFlags := 16409, nameIndex := 9, descriptorIndex := 6, attributes := #[] }, { accessFlags := 16409, nameIndex := 12, descriptorIndex := 6, attributes := #[] }, { accessFlags := 4122, nameIndex := 15, descriptorIndex := 16, attributes := #[] }])
  fields := #[{ name := "MAX_ATTEMPTS", type := (.object "com/example/reprise/reprise/core/ParkReason"), accessFlags := 16409, slot := 0, constantValue := 0 }, { name := "REJECTED", type := (.object "com/example/reprise/reprise/core/ParkReason"), accessFlags := 16409, slot := 1, constantValue := 0 }, { name := "EXPIRED", type := (.object "com/example/reprise/reprise/core/ParkReason"), accessFlags := 16409, slot := 2, constantValue := 0 }, { name := "$VALUES", type := (.array (.object "com/example/reprise/reprise/core/ParkReason")), accessFlags := 4122, slot := 3, constantValue := 0 }]
  methods := #[]
  instanceTypes := #[(.object "java/lang/String"), .int, .int]
  staticTypes := #[(.object "com/example/reprise/reprise/core/ParkReason"), (.object "com/example/reprise/reprise/core/ParkReason"), (.object "com/example/reprise/reprise/core/ParkReason"), (.array (.object "com/example/reprise/reprise/core/ParkReason"))]
  resolved := Array.replicate 66 none
  statics := some 0 }

def pool7 : Array CpInfo := pool [(1, .methodref 2 3), (0, .class_ 4), (0, .nameAndType 5 6), (0, u "java/lang/Object"), (0, u "<init>"), (0, u "()V"), (0, .class_ 8), (0, u "java/lang/Record")] 13

def k7c0 : Code := { maxStack := 1, maxLocals := 1, code := jdk_30_method_1_code, exceptionTable := #[], attributes := #[] }
def k7m0 : Method := { name := "<init>", desc := "()V", sig := { parameters := [], returnType := none }, accessFlags := 4, code := some k7c0 }
/-- java/lang/Record -/
def k7 : Class := { plain "java/lang/Record" (some 0) with
  accessFlags := 1057
  interfaces := #[]
  cf := some (fileOf pool7 7 #[] #[{ accessFlags := 4, nameIndex := 5, descriptorIndex := 6, attributes := #[] }] 1057 2 #[] #[])
  fields := #[]
  methods := #[k7m0]
  instanceTypes := #[]
  staticTypes := #[]
  resolved := Array.replicate 22 none
  statics := none }

def pool8 : Array CpInfo := pool [(1, .methodref 2 3), (0, .class_ 4), (0, .nameAndType 5 6), (0, u "java/lang/Record"), (0, u "<init>"), (0, u "()V"), (0, .fieldref 8 9), (0, .class_ 10), (0, .nameAndType 11 12), (0, u "com/example/reprise/reprise/core/NextStep"), (0, u "state"), (0, u "Lcom/example/reprise/reprise/core/TaskState;"), (0, .fieldref 8 14), (0, .nameAndType 15 16), (0, u "reason"), (0, u "Lcom/example/reprise/reprise/core/ParkReason;"), (0, .fieldref 8 18), (0, .nameAndType 19 20), (0, u "dueAt"), (0, u "Ljava/time/Instant;"), (0, .fieldref 22 23), (0, .class_ 24), (0, .nameAndType 25 12), (0, u "com/example/reprise/reprise/core/TaskState"), (0, u "SUCCEEDED"), (0, .methodref 8 27), (0, .nameAndType 5 28), (0, u "(Lcom/example/reprise/reprise/core/TaskState;Lcom/example/reprise/reprise/core/ParkReason;Ljava/time/Instant;)V"), (4, .methodref 34 35), (0, .class_ 36), (0, .nameAndType 37 38), (0, u "java/util/Objects"), (0, u "requireNonNull"), (0, u "(Ljava/lang/Object;Ljava/lang/String;)Ljava/lang/Object;"), (2, .fieldref 22 42), (0, .nameAndType 43 12), (0, u "PARKED"), (0, .string 15), (0, .class_ 46), (0, u "com/example/reprise/reprise/core/ParkReason"), (15, u "succeeded"), (0, u "()Lcom/example/reprise/reprise/core/NextStep;"), (2, u "parked"), (0, u "(Lcom/example/reprise/reprise/core/ParkReason;)Lcom/example/reprise/reprise/core/NextStep;"), (3, u "()Lcom/example/reprise/reprise/core/TaskState;"), (0, u "()Lcom/example/reprise/reprise/core/ParkReason;"), (0, u "()Ljava/time/Instant;")] 22

def k8c0 : Code := { maxStack := 2, maxLocals := 4, code := prog_14_method_1_code, exceptionTable := #[], attributes := #[] }
def k8m0 : Method := { name := "<init>", desc := "(Lcom/example/reprise/reprise/core/TaskState;Lcom/example/reprise/reprise/core/ParkReason;Ljava/time/Instant;)V", sig := { parameters := [(.object "com/example/reprise/reprise/core/TaskState"), (.object "com/example/reprise/reprise/core/ParkReason"), (.object "java/time/Instant")], returnType := none }, accessFlags := 1, code := some k8c0 }
def k8c1 : Code := { maxStack := 5, maxLocals := 0, code := prog_14_method_2_code, exceptionTable := #[], attributes := #[] }
def k8m1 : Method := { name := "succeeded", desc := "()Lcom/example/reprise/reprise/core/NextStep;", sig := { parameters := [], returnType := some (.object "com/example/reprise/reprise/core/NextStep") }, accessFlags := 9, code := some k8c1 }
def k8c2 : Code := { maxStack := 5, maxLocals := 1, code := prog_14_method_4_code, exceptionTable := #[], attributes := #[] }
def k8m2 : Method := { name := "parked", desc := "(Lcom/example/reprise/reprise/core/ParkReason;)Lcom/example/reprise/reprise/core/NextStep;", sig := { parameters := [(.object "com/example/reprise/reprise/core/ParkReason")], returnType := some (.object "com/example/reprise/reprise/core/NextStep") }, accessFlags := 9, code := some k8c2 }
def k8c3 : Code := { maxStack := 1, maxLocals := 1, code := prog_14_method_8_code, exceptionTable := #[], attributes := #[] }
def k8m3 : Method := { name := "state", desc := "()Lcom/example/reprise/reprise/core/TaskState;", sig := { parameters := [], returnType := some (.object "com/example/reprise/reprise/core/TaskState") }, accessFlags := 1, code := some k8c3 }
def k8c4 : Code := { maxStack := 1, maxLocals := 1, code := prog_14_method_9_code, exceptionTable := #[], attributes := #[] }
def k8m4 : Method := { name := "reason", desc := "()Lcom/example/reprise/reprise/core/ParkReason;", sig := { parameters := [], returnType := some (.object "com/example/reprise/reprise/core/ParkReason") }, accessFlags := 1, code := some k8c4 }
def k8c5 : Code := { maxStack := 1, maxLocals := 1, code := prog_14_method_10_code, exceptionTable := #[], attributes := #[] }
def k8m5 : Method := { name := "dueAt", desc := "()Ljava/time/Instant;", sig := { parameters := [], returnType := some (.object "java/time/Instant") }, accessFlags := 1, code := some k8c5 }
/-- com/example/reprise/reprise/core/NextStep -/
def k8 : Class := { plain "com/example/reprise/reprise/core/NextStep" (some 7) with
  accessFlags := 49
  interfaces := #[]
  cf := some (fileOf pool8 8 #[] #[{ accessFlags := 1, nameIndex := 5, descriptorIndex := 28, attributes := #[] }, { accessFlags := 9, nameIndex := 62, descriptorIndex := 63, attributes := #[] }, { accessFlags := 9, nameIndex := 66, descriptorIndex := 67, attributes := #[] }, { accessFlags := 1, nameIndex := 11, descriptorIndex := 71, attributes := #[] }, { accessFlags := 1, nameIndex := 15, descriptorIndex := 72, attributes := #[] }, { accessFlags := 1, nameIndex := 19, descriptorIndex := 73, attributes := #[] }] 49 2 #[] #[{ accessFlags := 18, nameIndex := 11, descriptorIndex := 12, attributes := #[] }, { accessFlags := 18, nameIndex := 15, descriptorIndex := 16, attributes := #[] }, { accessFlags := 18, nameIndex := 19, descriptorIndex := 20, attributes := #[] }])
  fields := #[{ name := "state", type := (.object "com/example/reprise/reprise/core/TaskState"), accessFlags := 18, slot := 0, constantValue := 0 }, { name := "reason", type := (.object "com/example/reprise/reprise/core/ParkReason"), accessFlags := 18, slot := 1, constantValue := 0 }, { name := "dueAt", type := (.object "java/time/Instant"), accessFlags := 18, slot := 2, constantValue := 0 }]
  methods := #[k8m0, k8m1, k8m2, k8m3, k8m4, k8m5]
  instanceTypes := #[(.object "com/example/reprise/reprise/core/TaskState"), (.object "com/example/reprise/reprise/core/ParkReason"), (.object "java/time/Instant")]
  staticTypes := #[]
  resolved := Array.replicate 96 none
  statics := none }

def pool9 : Array CpInfo := pool [(1, .class_ 2), (0, u "com/example/reprise/reprise/core/TaskState"), (0, .fieldref 1 4), (0, .nameAndType 5 6), (0, u "PENDING"), (0, u "Lcom/example/reprise/reprise/core/TaskState;"), (2, u "RUNNING"), (2, u "SUCCEEDED"), (0, .fieldref 1 14), (0, .nameAndType 15 6), (0, u "PARKED"), (2, u "CANCELLED"), (2, u "$VALUES"), (0, u "[Lcom/example/reprise/reprise/core/TaskState;"), (6, .class_ 31), (1, u "java/lang/Enum"), (35, u "cancellable"), (0, u "()Z")] 8

def k9c0 : Code := { maxStack := 2, maxLocals := 1, code := prog_28_method_4_code, exceptionTable := #[], attributes := #[] }
def k9m0 : Method := { name := "cancellable", desc := "()Z", sig := { parameters := [], returnType := some .boolean }, accessFlags := 1, code := some k9c0 }
/-- com/example/reprise/reprise/core/TaskState -/
def k9 : Class := { plain "com/example/reprise/reprise/core/TaskState" (some 5) with
  accessFlags := 16433
  interfaces := #[]
  cf := some (fileOf pool9 1 #[] #[{ accessFlags := 1, nameIndex := 67, descriptorIndex := 68, attributes := #[] }] 16433 29 #[] #[{ accessFlags := 16409, nameIndex := 5, descriptorIndex := 6, attributes := #[] }, { accessFlags := 16409, nameIndex := 9, descriptorIndex := 6, attributes := #[] }, { accessFlags := 16409, nameIndex := 12, descriptorIndex := 6, attributes := #[] }, { accessFlags := 16409, nameIndex := 15, descriptorIndex := 6, attributes := #[] }, { accessFlags := 16409, nameIndex := 18, descriptorIndex := 6, attributes := #[] }, { accessFlags := 4122, nameIndex := 21, descriptorIndex := 22, attributes := #[] }])
  fields := #[{ name := "PENDING", type := (.object "com/example/reprise/reprise/core/TaskState"), accessFlags := 16409, slot := 0, constantValue := 0 }, { name := "RUNNING", type := (.object "com/example/reprise/reprise/core/TaskState"), accessFlags := 16409, slot := 1, constantValue := 0 }, { name := "SUCCEEDED", type := (.object "com/example/reprise/reprise/core/TaskState"), accessFlags := 16409, slot := 2, constantValue := 0 }, { name := "PARKED", type := (.object "com/example/reprise/reprise/core/TaskState"), accessFlags := 16409, slot := 3, constantValue := 0 }, { name := "CANCELLED", type := (.object "com/example/reprise/reprise/core/TaskState"), accessFlags := 16409, slot := 4, constantValue := 0 }, { name := "$VALUES", type := (.array (.object "com/example/reprise/reprise/core/TaskState")), accessFlags := 4122, slot := 5, constantValue := 0 }]
  methods := #[k9m0]
  instanceTypes := #[(.object "java/lang/String"), .int, .int]
  staticTypes := #[(.object "com/example/reprise/reprise/core/TaskState"), (.object "com/example/reprise/reprise/core/TaskState"), (.object "com/example/reprise/reprise/core/TaskState"), (.object "com/example/reprise/reprise/core/TaskState"), (.object "com/example/reprise/reprise/core/TaskState"), (.array (.object "com/example/reprise/reprise/core/TaskState"))]
  resolved := Array.replicate 77 none
  statics := some 1 }

def pool10 : Array CpInfo := pool [(2, .class_ 4), (1, u "java/lang/CharSequence"), (42, .class_ 48), (0, u "java/lang/CharSequence$1CodePointIterator"), (10, .class_ 60), (0, u "java/lang/CharSequence$1CharIterator"), (5, .class_ 67), (0, u "java/lang/Object")] 63

/-- java/lang/CharSequence -/
def k10 : Class := { plain "java/lang/CharSequence" (some 0) with
  accessFlags := 1537
  interfaces := #[]
  cf := some (fileOf pool10 2 #[.nestMembers #[47, 59]] #[] 1537 66 #[] #[])
  fields := #[]
  methods := #[]
  instanceTypes := #[]
  staticTypes := #[]
  resolved := Array.replicate 131 none
  statics := none }

def pool11 : Array CpInfo := pool [(1, .class_ 2), (0, u "java/lang/constant/ConstantDesc"), (0, .class_ 4), (0, u "java/lang/Object")] 32

/-- java/lang/constant/ConstantDesc -/
def k11 : Class := { plain "java/lang/constant/ConstantDesc" (some 0) with
  accessFlags := 1537
  interfaces := #[]
  cf := some (fileOf pool11 1 #[] #[] 1537 3 #[] #[])
  fields := #[]
  methods := #[]
  instanceTypes := #[]
  staticTypes := #[]
  resolved := Array.replicate 37 none
  statics := none }

def pool12 : Array CpInfo := pool [(2, .class_ 4), (1, u "java/lang/Object"), (0, u "<init>"), (0, u "()V"), (3, .class_ 12), (1, u "java/lang/String"), (0, u "value"), (0, u "[B"), (2, u "coder"), (0, u "B"), (2, u "hash"), (0, u "I"), (2, u "hashIsZero"), (0, u "Z"), (13, u "COMPACT_STRINGS"), (534, .class_ 576), (0, u "java/lang/CharSequence"), (22, u "CASE_INSENSITIVE_ORDER"), (0, u "Ljava/util/Comparator;"), (500, u "serialPersistentFields"), (0, u "[Ljava/io/ObjectStreamField;"), (0, .class_ 1104), (0, u "java/lang/String$CaseInsensitiveComparator"), (1, .class_ 1107), (0, u "java/io/Serializable"), (0, .class_ 1109), (0, u "java/lang/Comparable"), (0, .class_ 1111), (0, u "java/lang/constant/Constable"), (0, .class_ 1113), (0, u "java/lang/constant/ConstantDesc"), (2, u "serialVersionUID"), (0, u "J"), (3, u "REPL"), (0, u "C"), (2, u "LATIN1"), (1, u "UTF16")] 323

def k12m0 : Method := { name := "<init>", desc := "()V", sig := { parameters := [], returnType := none }, accessFlags := 1, code := none }
/-- java/lang/String -/
def k12 : Class := { plain "java/lang/String" (some 0) with
  accessFlags := 49
  interfaces := #[4, 3, 10, 2, 11]
  cf := some (fileOf pool12 10 #[.nestMembers #[1103]] #[{ accessFlags := 1, nameIndex := 5, descriptorIndex := 6, attributes := #[] }] 49 2 #[1106, 1108, 575, 1110, 1112] #[{ accessFlags := 18, nameIndex := 13, descriptorIndex := 14, attributes := #[] }, { accessFlags := 18, nameIndex := 17, descriptorIndex := 18, attributes := #[] }, { accessFlags := 2, nameIndex := 21, descriptorIndex := 22, attributes := #[] }, { accessFlags := 2, nameIndex := 25, descriptorIndex := 26, attributes := #[] }, { accessFlags := 26, nameIndex := 1116, descriptorIndex := 1117, attributes := #[] }, { accessFlags := 24, nameIndex := 40, descriptorIndex := 26, attributes := #[] }, { accessFlags := 26, nameIndex := 1101, descriptorIndex := 1102, attributes := #[] }, { accessFlags := 26, nameIndex := 1121, descriptorIndex := 1122, attributes := #[] }, { accessFlags := 25, nameIndex := 599, descriptorIndex := 600, attributes := #[] }, { accessFlags := 24, nameIndex := 1125, descriptorIndex := 18, attributes := #[] }, { accessFlags := 24, nameIndex := 1127, descriptorIndex := 18, attributes := #[] }])
  fields := #[{ name := "value", type := (.array .byte), accessFlags := 18, slot := 0, constantValue := 0 }, { name := "coder", type := .byte, accessFlags := 18, slot := 1, constantValue := 0 }, { name := "hash", type := .int, accessFlags := 2, slot := 2, constantValue := 0 }, { name := "hashIsZero", type := .boolean, accessFlags := 2, slot := 3, constantValue := 0 }, { name := "serialVersionUID", type := .long, accessFlags := 26, slot := 0, constantValue := 0 }, { name := "COMPACT_STRINGS", type := .boolean, accessFlags := 24, slot := 1, constantValue := 0 }, { name := "serialPersistentFields", type := (.array (.object "java/io/ObjectStreamField")), accessFlags := 26, slot := 2, constantValue := 0 }, { name := "REPL", type := .char, accessFlags := 26, slot := 3, constantValue := 0 }, { name := "CASE_INSENSITIVE_ORDER", type := (.object "java/util/Comparator"), accessFlags := 25, slot := 4, constantValue := 0 }, { name := "LATIN1", type := .byte, accessFlags := 24, slot := 5, constantValue := 0 }, { name := "UTF16", type := .byte, accessFlags := 24, slot := 6, constantValue := 0 }]
  methods := #[k12m0]
  instanceTypes := #[(.array .byte), .byte, .int, .boolean]
  staticTypes := #[.long, .boolean, (.array (.object "java/io/ObjectStreamField")), .char, (.object "java/util/Comparator"), .byte, .byte]
  resolved := Array.replicate 1451 none
  statics := none }

def pool13 : Array CpInfo := pool [(2, .class_ 4), (1, u "java/lang/Object"), (0, u "<init>"), (0, u "()V"), (35, .class_ 44), (1, u "java/util/Objects"), (0, u "requireNonNull"), (48, u "(Ljava/lang/Object;Ljava/lang/String;)Ljava/lang/Object;")] 89

def k13m0 : Method := { name := "<init>", desc := "()V", sig := { parameters := [], returnType := none }, accessFlags := 2, code := none }
def k13c1 : Code := { maxStack := 3, maxLocals := 2, code := jdk_31_method_11_code, exceptionTable := #[], attributes := #[] }
def k13m1 : Method := { name := "requireNonNull", desc := "(Ljava/lang/Object;Ljava/lang/String;)Ljava/lang/Object;", sig := { parameters := [(.object "java/lang/Object"), (.object "java/lang/String")], returnType := some (.object "java/lang/Object") }, accessFlags := 9, code := some k13c1 }
/-- java/util/Objects -/
def k13 : Class := { plain "java/util/Objects" (some 0) with
  accessFlags := 49
  interfaces := #[]
  cf := some (fileOf pool13 42 #[] #[{ accessFlags := 2, nameIndex := 5, descriptorIndex := 6, attributes := #[] }, { accessFlags := 9, nameIndex := 45, descriptorIndex := 94, attributes := #[] }] 49 2 #[] #[])
  fields := #[]
  methods := #[k13m0, k13m1]
  instanceTypes := #[]
  staticTypes := #[]
  resolved := Array.replicate 184 none
  statics := none }

def pool14 : Array CpInfo := pool [(1, u "java/lang/Cloneable"), (0, .class_ 1), (0, u "java/lang/Object"), (0, .class_ 3)] 3

/-- java/lang/Cloneable -/
def k14 : Class := { plain "java/lang/Cloneable" (some 0) with
  accessFlags := 1537
  interfaces := #[]
  cf := some (fileOf pool14 2 #[] #[] 1537 4 #[] #[])
  fields := #[]
  methods := #[]
  instanceTypes := #[]
  staticTypes := #[]
  resolved := Array.replicate 8 none
  statics := none }

/-- the primitive byte -/
def k15 : Class := { plain "byte" none with kind := .primitive 'B', accessFlags := 0x411 }
/-- [B -/
def k16 : Class := { plain "[B" (some 0) with kind := .array 15 .byte, interfaces := #[14, 4], accessFlags := 1041 }

/-- the primitive int -/
def k17 : Class := { plain "int" none with kind := .primitive 'I', accessFlags := 0x411 }
/-- [I -/
def k18 : Class := { plain "[I" (some 0) with kind := .array 17 .int, interfaces := #[14, 4], accessFlags := 1041 }

def heap : Heap := #[{ cls := 6, slots := #[.ref 2, .ref 7, .ref 6, .null], vm := .statics 6 },
  { cls := 9, slots := #[.ref 5, .null, .ref 3, .ref 4, .null, .null], vm := .statics 9 },
  { cls := 6, slots := #[.null, .int 0, .int 0], vm := .none },
  { cls := 9, slots := #[.null, .int 2, .int 0], vm := .none },
  { cls := 9, slots := #[.null, .int 3, .int 0], vm := .none },
  { cls := 9, slots := #[.null, .int 0, .int 0], vm := .none },
  { cls := 6, slots := #[.null, .int 0, .int 0], vm := .none },
  { cls := 6, slots := #[.null, .int 0, .int 0], vm := .none }]
def classes : Array Class := #[k0, k1, k2, k3, k4, k5, k6, k7, k8, k9, k10, k11, k12, k13, k14, k15, k16, k17, k18]
def interned : List (Array UInt16 × Addr) := []
def slotsUsed : Nat := 28
def theMethod : MethodId := ⟨1, 2⟩
def args0 : Array Value := #[.int 5]
def aboutOver (below : List Frame) : State where
  vm := { classes := classes, interned := interned.toArray }
  heap := heap
  slotsUsed := slotsUsed
  threads := #[{ frames := .invoking theMethod args0 :: below }]
def below0 : List Frame := [.native { method := ⟨0, 0⟩, args := #[] }]
def about1 : State := aboutOver below0
def p0 : Program := .bare "" "" ""
def e0 : Env := launch0.env 0 0 0
theorem w_frames : about1.frames = Frame.invoking theMethod args0 :: below0 := rfl
set_option maxRecDepth 65536 in
theorem w_args : argsFit about1.vm theMethod args0 = true := by decide +kernel
set_option maxRecDepth 65536 in
theorem w_heap : heapFits about1 = true := by decide +kernel
set_option maxRecDepth 65536 in
theorem w_runnable : about1.curStatus? = some .runnable := by decide +kernel
set_option maxRecDepth 65536 in
theorem w_alone : about1.alone = true := by decide +kernel
set_option maxRecDepth 65536 in
theorem w_named : about1.methodNamed? x = some theMethod := by decide +kernel
set_option maxRecDepth 65536 in
theorem w_hears : about1.hears theMethod below0 = true := by decide +kernel
set_option maxRecDepth 65536 in
theorem w_ripe : about1.ripe theMethod args0 below0 = true := by decide +kernel
theorem w_running : about1.status = .running := rfl
set_option maxRecDepth 65536 in
theorem w_room : about1.hasRoom e0.platform room_1 = true :=
  launch0.hasRoom_least _ room_1 (by decide +kernel) (by decide +kernel) (by decide +kernel) (by decide +kernel) (by decide +kernel) (by decide +kernel)
theorem allAtoms_all (ts : List Jvm.Cond) (a : Array Jvm.Value) (st : Jvm.State) : (allAtoms ts).before a st = ts.all (fun c => c.before a st) := by
  induction ts with
  | nil => rfl
  | cons c t ih =>
    show (Jvm.Cond.and c (allAtoms t)).before a st = _
    rw [Jvm.Cond.before_and, ih, List.all_cons]
def words1 : List Jvm.Cond := Jvm.Cond.code x code maxLocals ret :: tables_1
/-- a 'code' word, met by the world's own term for the bytes: nothing is compared byte by byte -/
theorem code_word {y : MethodName} {bytes : ByteArray} {mx : Nat} {rt : Option FieldType} {a : Array Value} {s : State} {m : MethodId} {meth : Method} {c : Code} (h1 : s.methodNamed? y = some m) (h2 : s.vm.method? m = some meth) (h3 : meth.code = some c) (h4 : c.code = bytes)
    (h5 : (c.maxLocals == mx && c.exceptionTable.isEmpty && decide (c.maxStack ≤ mostOperands) && decide (meth.sig.returnType = rt) && !meth.locks && decide (parseMethodDescriptor y.desc = some meth.sig)) = true) : (Jvm.Cond.code y bytes mx rt).before a s = true := by
  simp only [Bool.and_eq_true, beq_iff_eq, Bool.not_eq_true', decide_eq_true_eq] at h5
  obtain ⟨⟨⟨⟨⟨g1, g2⟩, g3⟩, g4⟩, g5⟩, g6⟩ := h5
  simp [Cond.before, Cond.holds, Cond.value, h1, h2, h3, h4, g1, g2, g3, g4, g5, g6]
def isCode : Jvm.Cond → Bool
  | .code _ _ _ _ => true
  | _ => false
theorem all_split {L : List Jvm.Cond} {P : Jvm.Cond → Bool} (h1 : L.all (fun c => isCode c || P c) = true) (h2 : ∀ c ∈ L.filter isCode, P c = true) : L.all P = true := by
  refine List.all_eq_true.mpr fun c hc => ?_
  have h := List.all_eq_true.mp h1 c hc
  rcases Bool.eq_false_or_eq_true (isCode c) with hi | hi
  · exact h2 c (List.mem_filter.mpr ⟨hc, hi⟩)
  · simpa [hi] using h
set_option maxRecDepth 65536 in
theorem w_c0 : (Jvm.Cond.code x code maxLocals ret).before args0 about1 = true := code_word (m := ⟨1, 2⟩) (meth := k1m2) (c := k1c2) (by decide +kernel) rfl rfl rfl (by decide +kernel)
set_option maxRecDepth 65536 in
theorem w_c1 : (Jvm.Cond.code ({ cls := "com/example/reprise/reprise/core/NextStepSucceededPinLaw", name := "reasonOf", desc := "(I)Lcom/example/reprise/reprise/core/ParkReason;" } : Jvm.MethodName) method_2_code (2 : Nat) (Option.some (Jvm.ClassFile.FieldType.object "com/example/reprise/reprise/core/ParkReason"))).before args0 about1 = true := code_word (m := ⟨1, 1⟩) (meth := k1m1) (c := k1c1) (by decide +kernel) rfl rfl rfl (by decide +kernel)
set_option maxRecDepth 65536 in
theorem w_c2 : (Jvm.Cond.code ({ cls := "com/example/reprise/reprise/core/NextStep", name := "succeeded", desc := "()Lcom/example/reprise/reprise/core/NextStep;" } : Jvm.MethodName) prog_14_method_2_code (0 : Nat) (Option.some (Jvm.ClassFile.FieldType.object "com/example/reprise/reprise/core/NextStep"))).before args0 about1 = true := code_word (m := ⟨8, 1⟩) (meth := k8m1) (c := k8c1) (by decide +kernel) rfl rfl rfl (by decide +kernel)
set_option maxRecDepth 65536 in
theorem w_c3 : (Jvm.Cond.code ({ cls := "com/example/reprise/reprise/core/NextStep", name := "<init>", desc := "(Lcom/example/reprise/reprise/core/TaskState;Lcom/example/reprise/reprise/core/ParkReason;Ljava/time/Instant;)V" } : Jvm.MethodName) prog_14_method_1_code (4 : Nat) (Option.none : Option Jvm.ClassFile.FieldType)).before args0 about1 = true := code_word (m := ⟨8, 0⟩) (meth := k8m0) (c := k8c0) (by decide +kernel) rfl rfl rfl (by decide +kernel)
set_option maxRecDepth 65536 in
theorem w_c4 : (Jvm.Cond.code ({ cls := "java/lang/Record", name := "<init>", desc := "()V" } : Jvm.MethodName) jdk_30_method_1_code (1 : Nat) (Option.none : Option Jvm.ClassFile.FieldType)).before args0 about1 = true := code_word (m := ⟨7, 0⟩) (meth := k7m0) (c := k7c0) (by decide +kernel) rfl rfl rfl (by decide +kernel)
set_option maxRecDepth 65536 in
theorem w_c5 : (Jvm.Cond.code ({ cls := "java/lang/Object", name := "<init>", desc := "()V" } : Jvm.MethodName) object_method_1_code (1 : Nat) (Option.none : Option Jvm.ClassFile.FieldType)).before args0 about1 = true := code_word (m := ⟨0, 0⟩) (meth := k0m0) (c := k0c0) (by decide +kernel) rfl rfl rfl (by decide +kernel)
set_option maxRecDepth 65536 in
theorem w_c6 : (Jvm.Cond.code ({ cls := "com/example/reprise/reprise/core/NextStep", name := "parked", desc := "(Lcom/example/reprise/reprise/core/ParkReason;)Lcom/example/reprise/reprise/core/NextStep;" } : Jvm.MethodName) prog_14_method_4_code (1 : Nat) (Option.some (Jvm.ClassFile.FieldType.object "com/example/reprise/reprise/core/NextStep"))).before args0 about1 = true := code_word (m := ⟨8, 2⟩) (meth := k8m2) (c := k8c2) (by decide +kernel) rfl rfl rfl (by decide +kernel)
set_option maxRecDepth 65536 in
theorem w_c7 : (Jvm.Cond.code ({ cls := "java/util/Objects", name := "requireNonNull", desc := "(Ljava/lang/Object;Ljava/lang/String;)Ljava/lang/Object;" } : Jvm.MethodName) jdk_31_method_11_code (2 : Nat) (Option.some (Jvm.ClassFile.FieldType.object "java/lang/Object"))).before args0 about1 = true := code_word (m := ⟨13, 1⟩) (meth := k13m1) (c := k13c1) (by decide +kernel) rfl rfl rfl (by decide +kernel)
set_option maxRecDepth 65536 in
theorem w_c8 : (Jvm.Cond.code ({ cls := "com/example/reprise/reprise/core/NextStep", name := "state", desc := "()Lcom/example/reprise/reprise/core/TaskState;" } : Jvm.MethodName) prog_14_method_8_code (1 : Nat) (Option.some (Jvm.ClassFile.FieldType.object "com/example/reprise/reprise/core/TaskState"))).before args0 about1 = true := code_word (m := ⟨8, 3⟩) (meth := k8m3) (c := k8c3) (by decide +kernel) rfl rfl rfl (by decide +kernel)
set_option maxRecDepth 65536 in
theorem w_c9 : (Jvm.Cond.code ({ cls := "com/example/reprise/reprise/core/NextStep", name := "reason", desc := "()Lcom/example/reprise/reprise/core/ParkReason;" } : Jvm.MethodName) prog_14_method_9_code (1 : Nat) (Option.some (Jvm.ClassFile.FieldType.object "com/example/reprise/reprise/core/ParkReason"))).before args0 about1 = true := code_word (m := ⟨8, 4⟩) (meth := k8m4) (c := k8c4) (by decide +kernel) rfl rfl rfl (by decide +kernel)
set_option maxRecDepth 65536 in
theorem w_c10 : (Jvm.Cond.code ({ cls := "com/example/reprise/reprise/core/NextStep", name := "dueAt", desc := "()Ljava/time/Instant;" } : Jvm.MethodName) prog_14_method_10_code (1 : Nat) (Option.some (Jvm.ClassFile.FieldType.object "java/time/Instant"))).before args0 about1 = true := code_word (m := ⟨8, 5⟩) (meth := k8m5) (c := k8c5) (by decide +kernel) rfl rfl rfl (by decide +kernel)
set_option maxRecDepth 65536 in
theorem w_c11 : (Jvm.Cond.code ({ cls := "com/example/reprise/reprise/core/TaskState", name := "cancellable", desc := "()Z" } : Jvm.MethodName) prog_28_method_4_code (1 : Nat) (Option.some Jvm.ClassFile.FieldType.boolean)).before args0 about1 = true := code_word (m := ⟨9, 0⟩) (meth := k9m0) (c := k9c0) (by decide +kernel) rfl rfl rfl (by decide +kernel)
def codes1 : List Jvm.Cond := [Jvm.Cond.code x code maxLocals ret, Jvm.Cond.code ({ cls := "com/example/reprise/reprise/core/NextStepSucceededPinLaw", name := "reasonOf", desc := "(I)Lcom/example/reprise/reprise/core/ParkReason;" } : Jvm.MethodName) method_2_code (2 : Nat) (Option.some (Jvm.ClassFile.FieldType.object "com/example/reprise/reprise/core/ParkReason")), Jvm.Cond.code ({ cls := "com/example/reprise/reprise/core/NextStep", name := "succeeded", desc := "()Lcom/example/reprise/reprise/core/NextStep;" } : Jvm.MethodName) prog_14_method_2_code (0 : Nat) (Option.some (Jvm.ClassFile.FieldType.object "com/example/reprise/reprise/core/NextStep")), Jvm.Cond.code ({ cls := "com/example/reprise/reprise/core/NextStep", name := "<init>", desc := "(Lcom/example/reprise/reprise/core/TaskState;Lcom/example/reprise/reprise/core/ParkReason;Ljava/time/Instant;)V" } : Jvm.MethodName) prog_14_method_1_code (4 : Nat) (Option.none : Option Jvm.ClassFile.FieldType), Jvm.Cond.code ({ cls := "java/lang/Record", name := "<init>", desc := "()V" } : Jvm.MethodName) jdk_30_method_1_code (1 : Nat) (Option.none : Option Jvm.ClassFile.FieldType), Jvm.Cond.code ({ cls := "java/lang/Object", name := "<init>", desc := "()V" } : Jvm.MethodName) object_method_1_code (1 : Nat) (Option.none : Option Jvm.ClassFile.FieldType), Jvm.Cond.code ({ cls := "com/example/reprise/reprise/core/NextStep", name := "parked", desc := "(Lcom/example/reprise/reprise/core/ParkReason;)Lcom/example/reprise/reprise/core/NextStep;" } : Jvm.MethodName) prog_14_method_4_code (1 : Nat) (Option.some (Jvm.ClassFile.FieldType.object "com/example/reprise/reprise/core/NextStep")), Jvm.Cond.code ({ cls := "java/util/Objects", name := "requireNonNull", desc := "(Ljava/lang/Object;Ljava/lang/String;)Ljava/lang/Object;" } : Jvm.MethodName) jdk_31_method_11_code (2 : Nat) (Option.some (Jvm.ClassFile.FieldType.object "java/lang/Object")), Jvm.Cond.code ({ cls := "com/example/reprise/reprise/core/NextStep", name := "state", desc := "()Lcom/example/reprise/reprise/core/TaskState;" } : Jvm.MethodName) prog_14_method_8_code (1 : Nat) (Option.some (Jvm.ClassFile.FieldType.object "com/example/reprise/reprise/core/TaskState")), Jvm.Cond.code ({ cls := "com/example/reprise/reprise/core/NextStep", name := "reason", desc := "()Lcom/example/reprise/reprise/core/ParkReason;" } : Jvm.MethodName) prog_14_method_9_code (1 : Nat) (Option.some (Jvm.ClassFile.FieldType.object "com/example/reprise/reprise/core/ParkReason")), Jvm.Cond.code ({ cls := "com/example/reprise/reprise/core/NextStep", name := "dueAt", desc := "()Ljava/time/Instant;" } : Jvm.MethodName) prog_14_method_10_code (1 : Nat) (Option.some (Jvm.ClassFile.FieldType.object "java/time/Instant")), Jvm.Cond.code ({ cls := "com/example/reprise/reprise/core/TaskState", name := "cancellable", desc := "()Z" } : Jvm.MethodName) prog_28_method_4_code (1 : Nat) (Option.some Jvm.ClassFile.FieldType.boolean)]
set_option maxRecDepth 65536 in
theorem codes_eq : words1.filter isCode = codes1 := rfl
theorem w_codes : ∀ c ∈ words1.filter isCode, c.before args0 about1 = true := by
  rw [codes_eq]
  intro c hc
  simp only [codes1, List.mem_cons, List.not_mem_nil, or_false] at hc
  rcases hc with rfl | rfl | rfl | rfl | rfl | rfl | rfl | rfl | rfl | rfl | rfl | rfl
  · exact w_c0
  · exact w_c1
  · exact w_c2
  · exact w_c3
  · exact w_c4
  · exact w_c5
  · exact w_c6
  · exact w_c7
  · exact w_c8
  · exact w_c9
  · exact w_c10
  · exact w_c11
set_option maxRecDepth 65536 in
theorem w_t1 : (words1.take 24).all (fun c => isCode c || c.before args0 about1) = true := by decide +kernel
set_option maxRecDepth 65536 in
theorem w_t2 : ((words1.drop 24).take 24).all (fun c => isCode c || c.before args0 about1) = true := by decide +kernel
set_option maxRecDepth 65536 in
theorem w_t3 : (((words1.drop 24).drop 24).take 24).all (fun c => isCode c || c.before args0 about1) = true := by decide +kernel
set_option maxRecDepth 65536 in
theorem w_t4 : (((words1.drop 24).drop 24).drop 24).all (fun c => isCode c || c.before args0 about1) = true := by decide +kernel
theorem w_tables : (allAtoms (Jvm.Cond.code x code maxLocals ret :: tables_1)).before args0 about1 = true := by
  rw [allAtoms_all]
  show words1.all (fun c => c.before args0 about1) = true
  refine all_split ?_ w_codes
  rw [← List.take_append_drop 24 words1, List.all_append, w_t1, ← List.take_append_drop 24 (words1.drop 24), List.all_append, w_t2, ← List.take_append_drop 24 ((words1.drop 24).drop 24), List.all_append, w_t3, w_t4]
  rfl
set_option maxRecDepth 65536 in
theorem w_case : (Jvm.Cond.and given_1 narrow_1).before args0 about1 = true := by decide +kernel
theorem w_applies : (headSpec (Jvm.Cond.code x code maxLocals ret :: tables_1) room_1).applies x e0.platform about1 = true :=
  (Spec.applies_iff w_frames).mpr ⟨w_running, w_runnable, w_alone, w_named, w_hears, w_ripe, w_room, w_tables⟩
theorem atStart : AtStart classFile x code maxLocals ret World_1 tables_1 room_1 Calls_1 rest_1 Pre_1 launch0 p0 e0 about1 theMethod args0 below0 :=
  ⟨lists_1, trivial, launch0.admits_env _ _ _, launch0.least_env, fairChoices_fair.cas, fairChoices_fair.clock, w_frames, w_args, w_heap, w_applies, trivial, trivial, w_case⟩
end start1
theorem witness_1 : WitnessClaimed_1 := ⟨start1.p0, start1.e0, start1.about1, start1.theMethod, start1.args0, start1.below0, start1.atStart⟩
end Jvm.Pilot.@@N@@
