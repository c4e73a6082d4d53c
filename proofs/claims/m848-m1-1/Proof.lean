import JvmDerived
import JvmDerived.Pilot.@@N@@Statement
import JvmDerived.Pilot.@@N@@Code
set_option linter.unusedVariables false
set_option linter.unusedSimpArgs false
namespace Jvm.RoadKit
open Sem ClassFile Op Lib Jvm.Stand Jvm.Free Jvm.LawKit
section New
variable {p : Program} {l : Launch} {e : Env} {R : Room} {s : State} {m : MethodId} {args : Array Value} {below : List Frame} {meth : Method} {c : Code} {T : State} {locs : List Loc} {cells slots : Nat}
theorem retI (X : Stand p l e R s m args below meth c T locs cells slots) (hx : p.tables.exec = Jvm.exec) {pc : Nat} {Ls : Array Slot} {z : Int32} {rest : List Value} (hret : meth.sig.returnType = some .int) (hd : decode c.code pc = .ok (.ireturn, 1)) {fs : List Frame}
    (hl : ∀ (f : JFrame) (acts : List Action), f.method = m → f.locked = none → f.entered = [] → (doReturn e (T.setTop f) acts (some (.int z))).1 = T.setFrames fs) : Steps p.tables e below (T.setTop (mkF m pc Ls (.int z :: rest))) (T.setFrames fs) := by
  have hm' : T.vm.method? m = some meth := X.method'
  have hn : narrow .int (.int z) = .int z := rfl
  show Steps p.tables e below (T.setTop { method := m, pc := pc, locals := Ls, stack := _ :: rest, locked := none }) _
  jvm_step X.here [X.here.top, hx, hd, hm', hret, hn]
  first | (intro acts; rw [hl _ acts rfl rfl rfl]) | rw [hl _ _ rfl rfl rfl]
  exact Steps.refl _
theorem eqv_r {Z : State} {args : Array Value} {X F : Term} {idx : List Nat} {y : Addr} (hF : F.eval args Z none idx Z = some (.ref y)) (h : (Cond.eq X F).value args Z none Z idx = some true) : X.eval args Z none idx Z = some (.ref y) := by
  obtain ⟨x, y', e1, e2, k1, k2⟩ := cmp_v (Or.inl h)
  cases hF.symm.trans e2
  have hx : x.isRef = true := k2.2
  have q : x = .ref y := gotT (eq_R e1 hF hx rfl) h
  rw [e1, q]
end New
end Jvm.RoadKit
namespace Jvm.Pilot.@@N@@
open Jvm Jvm.ClassFile Sem Op Lib Jvm.Free Jvm.Stand Jvm.LawKit Jvm.RoadKit Bundle Jvm.Pilot.@@N@@.Jvm.D
def Go (p : Program) (e : Env) (below : List Frame) (Qf : Outcome → State → Prop) (W : State) : Prop := ∃ s₂ o, Steps p.tables e below W s₂ ∧ s₂.status = .running ∧ Ended s₂ below o ∧ Qf o s₂
theorem Go.st {p : Program} {e : Env} {below : List Frame} {Qf : Outcome → State → Prop} {W V' : State} (h : ∀ t, Steps p.tables e below V' t → Steps p.tables e below W t) (g : Go p e below Qf V') : Go p e below Qf W := by
  obtain ⟨s₂, o, g1, g2⟩ := g
  exact ⟨s₂, o, h _ g1, g2⟩
theorem Go.out {p : Program} {e : Env} {below : List Frame} {Qf : Outcome → State → Prop} {W : State} (g : Go p e below Qf W) : ∃ s₂ o, Steps p.tables e below W s₂ ∧ s₂.status = .running ∧ Ended s₂ below o ∧ Qf o s₂ := g
theorem Go.mk' {p : Program} {e : Env} {below : List Frame} {Qf : Outcome → State → Prop} {W : State} (g : ∃ s₂ o, Steps p.tables e below W s₂ ∧ s₂.status = .running ∧ Ended s₂ below o ∧ Qf o s₂) : Go p e below Qf W := g
def W0 (Z : State) (s_INBOX : Addr) (s_END : Addr) (s_FEED : Addr) (s_OPERATOR : Addr) (s_CLOCK : Addr) : Prop :=
  (Exa Z Z.heap s_INBOX "com/example/settlewire/settlewire/files/Journal$Origin") ∧
  (Sta Z Z.heap "com/example/settlewire/settlewire/files/Journal$Origin" "INBOX" "Lcom/example/settlewire/settlewire/files/Journal$Origin;" (.ref s_INBOX)) ∧
  (Exa Z Z.heap s_END "com/example/settlewire/settlewire/files/Journal$Origin") ∧
  (Sta Z Z.heap "com/example/settlewire/settlewire/files/Journal$Origin" "END" "Lcom/example/settlewire/settlewire/files/Journal$Origin;" (.ref s_END)) ∧
  (Exa Z Z.heap s_FEED "com/example/settlewire/settlewire/files/Journal$Origin") ∧
  (Sta Z Z.heap "com/example/settlewire/settlewire/files/Journal$Origin" "FEED" "Lcom/example/settlewire/settlewire/files/Journal$Origin;" (.ref s_FEED)) ∧
  (Exa Z Z.heap s_OPERATOR "com/example/settlewire/settlewire/files/Journal$Origin") ∧
  (Sta Z Z.heap "com/example/settlewire/settlewire/files/Journal$Origin" "OPERATOR" "Lcom/example/settlewire/settlewire/files/Journal$Origin;" (.ref s_OPERATOR)) ∧
  (Exa Z Z.heap s_CLOCK "com/example/settlewire/settlewire/files/Journal$Origin") ∧
  (Sta Z Z.heap "com/example/settlewire/settlewire/files/Journal$Origin" "CLOCK" "Lcom/example/settlewire/settlewire/files/Journal$Origin;" (.ref s_CLOCK)) ∧
  (Fld Z Z.heap s_END "java/lang/Enum" "ordinal" "I" (.int (3 : Int32))) ∧
  (Fld Z Z.heap s_INBOX "java/lang/Enum" "ordinal" "I" (.int (0 : Int32))) ∧
  (Fld Z Z.heap s_FEED "java/lang/Enum" "ordinal" "I" (.int (1 : Int32))) ∧
  (Fld Z Z.heap s_OPERATOR "java/lang/Enum" "ordinal" "I" (.int (4 : Int32))) ∧
  (Fld Z Z.heap s_CLOCK "java/lang/Enum" "ordinal" "I" (.int (2 : Int32)))
theorem own_d1_0 : decode method_2_code 0 = .ok (.iload_n 0, 1) := by decide +kernel
theorem own_d1_1 : decode method_2_code 1 = .ok (.ifCond .ne 7, 3) := by decide +kernel
theorem own_d1_4 : decode method_2_code 4 = .ok (.getstatic 7, 3) := by decide +kernel
theorem own_d1_7 : decode method_2_code 7 = .ok (.areturn, 1) := by decide +kernel
theorem own_d1_8 : decode method_2_code 8 = .ok (.iload_n 0, 1) := by decide +kernel
theorem own_d1_9 : decode method_2_code 9 = .ok (.iconst 1, 1) := by decide +kernel
theorem own_d1_10 : decode method_2_code 10 = .ok (.if_icmp .ne 7, 3) := by decide +kernel
theorem own_d1_13 : decode method_2_code 13 = .ok (.getstatic 13, 3) := by decide +kernel
theorem own_d1_16 : decode method_2_code 16 = .ok (.areturn, 1) := by decide +kernel
theorem own_d1_17 : decode method_2_code 17 = .ok (.iload_n 0, 1) := by decide +kernel
theorem own_d1_18 : decode method_2_code 18 = .ok (.iconst 2, 1) := by decide +kernel
theorem own_d1_19 : decode method_2_code 19 = .ok (.if_icmp .ne 7, 3) := by decide +kernel
theorem own_d1_22 : decode method_2_code 22 = .ok (.getstatic 16, 3) := by decide +kernel
theorem own_d1_25 : decode method_2_code 25 = .ok (.areturn, 1) := by decide +kernel
theorem own_d1_26 : decode method_2_code 26 = .ok (.iload_n 0, 1) := by decide +kernel
theorem own_d1_27 : decode method_2_code 27 = .ok (.iconst 3, 1) := by decide +kernel
theorem own_d1_28 : decode method_2_code 28 = .ok (.if_icmp .ne 7, 3) := by decide +kernel
theorem own_d1_31 : decode method_2_code 31 = .ok (.getstatic 19, 3) := by decide +kernel
theorem own_d1_34 : decode method_2_code 34 = .ok (.areturn, 1) := by decide +kernel
theorem own_d1_35 : decode method_2_code 35 = .ok (.getstatic 22, 3) := by decide +kernel
theorem own_d1_38 : decode method_2_code 38 = .ok (.areturn, 1) := by decide +kernel
theorem own_pn0 : plainName "com/example/settlewire/settlewire/files/OriginIsMessagePinLaw" = true := by first | (simp [plainName, overriddenIn]; done) | decide +kernel
theorem ef1 (m : MethodId) (p0 : Int32) : entryFrame m #[(.int p0)] 1 = mkF m 0 #[.val (.int p0)] [] := by first | (simp [entryFrame, mkF, argsToLocals, Value.category]; done) | rfl
def f1 (s_INBOX : Addr) (s_END : Addr) (s_FEED : Addr) (s_OPERATOR : Addr) (s_CLOCK : Addr) (p0 : Int32) : Addr := (if p0 = (0 : Int32) then s_INBOX else (if p0 = (1 : Int32) then s_FEED else (if p0 = (2 : Int32) then s_CLOCK else (if p0 = (3 : Int32) then s_END else s_OPERATOR))))
def Q1 (Z : State) (s_INBOX : Addr) (s_END : Addr) (s_FEED : Addr) (s_OPERATOR : Addr) (s_CLOCK : Addr) (p0 : Int32) (h0 : Heap) (n0 : Nat) (v : Option Value) (h : Heap) (L : List Loc) : Prop := v = some (.ref (f1 s_INBOX s_END s_FEED s_OPERATOR s_CLOCK p0)) ∧ Fr n0 L ∧ h = h0
set_option maxRecDepth 65536 in
set_option maxHeartbeats 40000000 in
theorem rm1 (l : Launch) (Z : State) (a0 : Array Value) (hw : ∀ d ∈ tables_1, d.before a0 Z = true) (ws : List Jvm.Cond) (s_INBOX : Addr) (s_END : Addr) (s_FEED : Addr) (s_OPERATOR : Addr) (s_CLOCK : Addr) (HW : W0 Z s_INBOX s_END s_FEED s_OPERATOR s_CLOCK) (p0 : Int32) (h0 : Heap) (n0 : Nat) (O0 : Old Z n0 h0) :
    MetFree l (⟨"com/example/settlewire/settlewire/files/OriginIsMessagePinLaw", "pick", "(I)Lcom/example/settlewire/settlewire/files/Journal$Origin;"⟩ : MethodName) (head1 (Jvm.Cond.code (⟨"com/example/settlewire/settlewire/files/OriginIsMessagePinLaw", "pick", "(I)Lcom/example/settlewire/settlewire/files/Journal$Origin;"⟩ : MethodName) method_2_code 1 (some (.object "com/example/settlewire/settlewire/files/Journal$Origin")) :: ws) ({ frames := 0, cells := 0, slots := 0, locals := 0 } : Room)) (fun a U => a = #[(.int p0)] ∧ Z.Warmed39 U.vm ∧ U.heap = h0) (fun _ _ _ _ _ => True) (fun _ U o U' => ∃ v L, o = .returned v ∧ Q1 Z s_INBOX s_END s_FEED s_OPERATOR s_CLOCK p0 h0 n0 v U'.heap L ∧ FrameEnd U o U' L ({ frames := 0, cells := 0, slots := 0, locals := 0 } : Room).cells ({ frames := 0, cells := 0, slots := 0, locals := 0 } : Room).slots) := by
  refine MetFree.of_bodySF (plainFor_of_name own_pn0) hisR ?_
  intro p e s m args below meth c s₁ Bd hml0 hP hK
  obtain ⟨rfl, hZ, hh⟩ := hP
  obtain ⟨E_INBOX, S_INBOX, E_END, S_END, E_FEED, S_FEED, E_OPERATOR, S_OPERATOR, E_CLOCK, S_CLOCK, F_END_ordinal, F_INBOX_ordinal, F_FEED_ordinal, F_OPERATOR_ordinal, F_CLOCK_ordinal⟩ := id HW
  have hx := Bd.exec
  have hby := Bd.bytes
  have hml : c.maxLocals = 1 := hml0
  have hown : s.vm.findClass "com/example/settlewire/settlewire/files/OriginIsMessagePinLaw" = some m.cls := findClass_of_methodNamed Bd.named
  have hnm := (name_of_methodNamed Bd.named Bd.method).1
  have X0 : Stand p l e ({ frames := 0, cells := 0, slots := 0, locals := 0 } : Room) s m #[(.int p0)] below meth c s₁ [] 0 0 := Stand.of_body Bd
  have e0 : s₁.heap = h0 := by rw [← hh, Bd.state]; rfl
  have N0 := Fr.nil n0
  have K0 := Keep.refl h0 []
  refine Go.out ?_
  refine Go.st (V' := s₁.setTop (mkF m 0 #[.val (.int p0)] [])) (fun t k => castTop (ef1 m p0) k) ?_
  refine Go.st (V' := s₁.setTop (mkF m 1 #[.val (.int p0)] [(.int p0)])) (fun t k => ?_) ?_
  · refine XS.iloadN X0.here hx rfl (hb hby own_d1_0) rfl  ?_
    show Steps p.tables e below (s₁.setTop (mkF m 1 #[.val (.int p0)] [(.int p0)])) _
    exact k
  by_cases hc1 : p0 = (0 : Int32)
  · refine Go.st (V' := s₁.setTop (mkF m 4 #[.val (.int p0)] [])) (fun t k => ?_) ?_
    · refine XS.ifNo X0.here hx rfl (hb hby own_d1_1) rfl ((if0 _ _).trans (teq hc1).2) ?_
      show Steps p.tables e below (s₁.setTop (mkF m 4 #[.val (.int p0)] [])) _
      exact k
    obtain ⟨T2, X2, e2, st2⟩ := getS2 X0 hx hZ hown (host := "") (Or.inl (hw _ (List.mem_of_getElem? (i := 5) rfl))) Via.refl e0 (S_INBOX.ext O0.2) (g := (mkF m 4 #[.val (.int p0)] [])) rfl (hb hby own_d1_4)
    refine Go.st (V' := T2.setTop (mkF m 7 #[.val (.int p0)] [(.ref s_INBOX)])) (fun t k => st2 t k) ?_
    obtain ⟨fs, hr, hrun, hended, hW, hsame⟩ := X2.leave (v := some (.ref s_INBOX)) (fun h => by rw [Bd.returns] at h; cases h)
    refine Go.mk' ⟨_, _, retOut X2 hx Bd.returns rfl (Or.inr (Or.inr (Or.inr (Or.inr ⟨rfl, rfl, rfl⟩)))) (hb hby own_d1_7) hr, hrun, hended, _, _, rfl, ?_, ⟨_, rfl⟩, hW, hsame.mono (by decide) (by decide)⟩
    show Q1 Z s_INBOX s_END s_FEED s_OPERATOR s_CLOCK p0 h0 n0 _ T2.heap _
    rw [e2]
    exact ⟨(by rw [f1, if_pos hc1]), N0, rfl⟩
  · refine Go.st (V' := s₁.setTop (mkF m 10 #[.val (.int p0)] [(.int (1 : Int32)), (.int p0)])) (fun t k => ?_) ?_
    · refine XS.ifYes X0.here hx rfl (pc0 := 1) (pc' := 8) rfl (hb hby own_d1_1) rfl ((if0 _ _).trans (feq hc1).2) (by decide) (by decide) ?_
      show Steps p.tables e below (s₁.setTop (mkF m 8 #[.val (.int p0)] [])) _
      refine XS.iloadN X0.here hx rfl (hb hby own_d1_8) rfl  ?_
      show Steps p.tables e below (s₁.setTop (mkF m 9 #[.val (.int p0)] [(.int p0)])) _
      refine XS.iconst X0.here hx rfl (hb hby own_d1_9) ?_
      show Steps p.tables e below (s₁.setTop (mkF m 10 #[.val (.int p0)] [(.int (1 : Int32)), (.int p0)])) _
      exact k
    by_cases hc3 : p0 = (1 : Int32)
    · refine Go.st (V' := s₁.setTop (mkF m 13 #[.val (.int p0)] [])) (fun t k => ?_) ?_
      · refine XS.icmpNo X0.here hx rfl (hb hby own_d1_10) rfl (teq hc3).2 ?_
        show Steps p.tables e below (s₁.setTop (mkF m 13 #[.val (.int p0)] [])) _
        exact k
      obtain ⟨T4, X4, e4, st4⟩ := getS2 X0 hx hZ hown (host := "") (Or.inl (hw _ (List.mem_of_getElem? (i := 20) rfl))) Via.refl e0 (S_FEED.ext O0.2) (g := (mkF m 13 #[.val (.int p0)] [])) rfl (hb hby own_d1_13)
      refine Go.st (V' := T4.setTop (mkF m 16 #[.val (.int p0)] [(.ref s_FEED)])) (fun t k => st4 t k) ?_
      obtain ⟨fs, hr, hrun, hended, hW, hsame⟩ := X4.leave (v := some (.ref s_FEED)) (fun h => by rw [Bd.returns] at h; cases h)
      refine Go.mk' ⟨_, _, retOut X4 hx Bd.returns rfl (Or.inr (Or.inr (Or.inr (Or.inr ⟨rfl, rfl, rfl⟩)))) (hb hby own_d1_16) hr, hrun, hended, _, _, rfl, ?_, ⟨_, rfl⟩, hW, hsame.mono (by decide) (by decide)⟩
      show Q1 Z s_INBOX s_END s_FEED s_OPERATOR s_CLOCK p0 h0 n0 _ T4.heap _
      rw [e4]
      exact ⟨(by rw [f1, if_neg hc1, if_pos hc3]), N0, rfl⟩
    · refine Go.st (V' := s₁.setTop (mkF m 19 #[.val (.int p0)] [(.int (2 : Int32)), (.int p0)])) (fun t k => ?_) ?_
      · refine XS.icmpYes X0.here hx rfl (pc0 := 10) (pc' := 17) rfl (hb hby own_d1_10) rfl (feq hc3).2 (by decide) (by decide) ?_
        show Steps p.tables e below (s₁.setTop (mkF m 17 #[.val (.int p0)] [])) _
        refine XS.iloadN X0.here hx rfl (hb hby own_d1_17) rfl  ?_
        show Steps p.tables e below (s₁.setTop (mkF m 18 #[.val (.int p0)] [(.int p0)])) _
        refine XS.iconst X0.here hx rfl (hb hby own_d1_18) ?_
        show Steps p.tables e below (s₁.setTop (mkF m 19 #[.val (.int p0)] [(.int (2 : Int32)), (.int p0)])) _
        exact k
      by_cases hc5 : p0 = (2 : Int32)
      · refine Go.st (V' := s₁.setTop (mkF m 22 #[.val (.int p0)] [])) (fun t k => ?_) ?_
        · refine XS.icmpNo X0.here hx rfl (hb hby own_d1_19) rfl (teq hc5).2 ?_
          show Steps p.tables e below (s₁.setTop (mkF m 22 #[.val (.int p0)] [])) _
          exact k
        obtain ⟨T6, X6, e6, st6⟩ := getS2 X0 hx hZ hown (host := "") (Or.inl (hw _ (List.mem_of_getElem? (i := 22) rfl))) Via.refl e0 (S_CLOCK.ext O0.2) (g := (mkF m 22 #[.val (.int p0)] [])) rfl (hb hby own_d1_22)
        refine Go.st (V' := T6.setTop (mkF m 25 #[.val (.int p0)] [(.ref s_CLOCK)])) (fun t k => st6 t k) ?_
        obtain ⟨fs, hr, hrun, hended, hW, hsame⟩ := X6.leave (v := some (.ref s_CLOCK)) (fun h => by rw [Bd.returns] at h; cases h)
        refine Go.mk' ⟨_, _, retOut X6 hx Bd.returns rfl (Or.inr (Or.inr (Or.inr (Or.inr ⟨rfl, rfl, rfl⟩)))) (hb hby own_d1_25) hr, hrun, hended, _, _, rfl, ?_, ⟨_, rfl⟩, hW, hsame.mono (by decide) (by decide)⟩
        show Q1 Z s_INBOX s_END s_FEED s_OPERATOR s_CLOCK p0 h0 n0 _ T6.heap _
        rw [e6]
        exact ⟨(by rw [f1, if_neg hc1, if_neg hc3, if_pos hc5]), N0, rfl⟩
      · refine Go.st (V' := s₁.setTop (mkF m 28 #[.val (.int p0)] [(.int (3 : Int32)), (.int p0)])) (fun t k => ?_) ?_
        · refine XS.icmpYes X0.here hx rfl (pc0 := 19) (pc' := 26) rfl (hb hby own_d1_19) rfl (feq hc5).2 (by decide) (by decide) ?_
          show Steps p.tables e below (s₁.setTop (mkF m 26 #[.val (.int p0)] [])) _
          refine XS.iloadN X0.here hx rfl (hb hby own_d1_26) rfl  ?_
          show Steps p.tables e below (s₁.setTop (mkF m 27 #[.val (.int p0)] [(.int p0)])) _
          refine XS.iconst X0.here hx rfl (hb hby own_d1_27) ?_
          show Steps p.tables e below (s₁.setTop (mkF m 28 #[.val (.int p0)] [(.int (3 : Int32)), (.int p0)])) _
          exact k
        by_cases hc7 : p0 = (3 : Int32)
        · refine Go.st (V' := s₁.setTop (mkF m 31 #[.val (.int p0)] [])) (fun t k => ?_) ?_
          · refine XS.icmpNo X0.here hx rfl (hb hby own_d1_28) rfl (teq hc7).2 ?_
            show Steps p.tables e below (s₁.setTop (mkF m 31 #[.val (.int p0)] [])) _
            exact k
          obtain ⟨T8, X8, e8, st8⟩ := getS2 X0 hx hZ hown (host := "") (Or.inl (hw _ (List.mem_of_getElem? (i := 14) rfl))) Via.refl e0 (S_END.ext O0.2) (g := (mkF m 31 #[.val (.int p0)] [])) rfl (hb hby own_d1_31)
          refine Go.st (V' := T8.setTop (mkF m 34 #[.val (.int p0)] [(.ref s_END)])) (fun t k => st8 t k) ?_
          obtain ⟨fs, hr, hrun, hended, hW, hsame⟩ := X8.leave (v := some (.ref s_END)) (fun h => by rw [Bd.returns] at h; cases h)
          refine Go.mk' ⟨_, _, retOut X8 hx Bd.returns rfl (Or.inr (Or.inr (Or.inr (Or.inr ⟨rfl, rfl, rfl⟩)))) (hb hby own_d1_34) hr, hrun, hended, _, _, rfl, ?_, ⟨_, rfl⟩, hW, hsame.mono (by decide) (by decide)⟩
          show Q1 Z s_INBOX s_END s_FEED s_OPERATOR s_CLOCK p0 h0 n0 _ T8.heap _
          rw [e8]
          exact ⟨(by rw [f1, if_neg hc1, if_neg hc3, if_neg hc5, if_pos hc7]), N0, rfl⟩
        · refine Go.st (V' := s₁.setTop (mkF m 35 #[.val (.int p0)] [])) (fun t k => ?_) ?_
          · refine XS.icmpYes X0.here hx rfl (pc0 := 28) (pc' := 35) rfl (hb hby own_d1_28) rfl (feq hc7).2 (by decide) (by decide) ?_
            show Steps p.tables e below (s₁.setTop (mkF m 35 #[.val (.int p0)] [])) _
            exact k
          obtain ⟨T9, X9, e9, st9⟩ := getS2 X0 hx hZ hown (host := "") (Or.inl (hw _ (List.mem_of_getElem? (i := 21) rfl))) Via.refl e0 (S_OPERATOR.ext O0.2) (g := (mkF m 35 #[.val (.int p0)] [])) rfl (hb hby own_d1_35)
          refine Go.st (V' := T9.setTop (mkF m 38 #[.val (.int p0)] [(.ref s_OPERATOR)])) (fun t k => st9 t k) ?_
          obtain ⟨fs, hr, hrun, hended, hW, hsame⟩ := X9.leave (v := some (.ref s_OPERATOR)) (fun h => by rw [Bd.returns] at h; cases h)
          refine Go.mk' ⟨_, _, retOut X9 hx Bd.returns rfl (Or.inr (Or.inr (Or.inr (Or.inr ⟨rfl, rfl, rfl⟩)))) (hb hby own_d1_38) hr, hrun, hended, _, _, rfl, ?_, ⟨_, rfl⟩, hW, hsame.mono (by decide) (by decide)⟩
          show Q1 Z s_INBOX s_END s_FEED s_OPERATOR s_CLOCK p0 h0 n0 _ T9.heap _
          rw [e9]
          exact ⟨(by rw [f1, if_neg hc1, if_neg hc3, if_neg hc5, if_neg hc7]), N0, rfl⟩
theorem own_d2_0 : decode prog_22_method_4_code 0 = .ok (.aload_n 0, 1) := by decide +kernel
theorem own_d2_1 : decode prog_22_method_4_code 1 = .ok (.getstatic 3, 3) := by decide +kernel
theorem own_d2_4 : decode prog_22_method_4_code 4 = .ok (.if_acmp .eq 17, 3) := by decide +kernel
theorem own_d2_21 : decode prog_22_method_4_code 21 = .ok (.iconst 1, 1) := by decide +kernel
theorem own_d2_22 : decode prog_22_method_4_code 22 = .ok (.goto 4, 3) := by decide +kernel
theorem own_d2_26 : decode prog_22_method_4_code 26 = .ok (.ireturn, 1) := by decide +kernel
theorem own_d2_7 : decode prog_22_method_4_code 7 = .ok (.aload_n 0, 1) := by decide +kernel
theorem own_d2_8 : decode prog_22_method_4_code 8 = .ok (.getstatic 7, 3) := by decide +kernel
theorem own_d2_11 : decode prog_22_method_4_code 11 = .ok (.if_acmp .eq 10, 3) := by decide +kernel
theorem own_d2_14 : decode prog_22_method_4_code 14 = .ok (.aload_n 0, 1) := by decide +kernel
theorem own_d2_15 : decode prog_22_method_4_code 15 = .ok (.getstatic 16, 3) := by decide +kernel
theorem own_d2_18 : decode prog_22_method_4_code 18 = .ok (.if_acmp .ne 7, 3) := by decide +kernel
theorem own_d2_25 : decode prog_22_method_4_code 25 = .ok (.iconst 0, 1) := by decide +kernel
theorem own_pn1 : plainName "com/example/settlewire/settlewire/files/Journal$Origin" = true := by first | (simp [plainName, overriddenIn]; done) | decide +kernel
theorem ef2 (m : MethodId) (r0 : Addr) : entryFrame m #[(.ref r0)] 1 = mkF m 0 #[.val (.ref r0)] [] := by first | (simp [entryFrame, mkF, argsToLocals, Value.category]; done) | rfl
def f2 (s_INBOX : Addr) (s_FEED : Addr) (s_OPERATOR : Addr) (r0 : Addr) : Int32 := (if r0 = s_INBOX then (1 : Int32) else (if r0 = s_FEED then (1 : Int32) else (if r0 = s_OPERATOR then (1 : Int32) else (0 : Int32))))
def Q2 (Z : State) (s_INBOX : Addr) (s_FEED : Addr) (s_OPERATOR : Addr) (r0 : Addr) (h0 : Heap) (n0 : Nat) (v : Option Value) (h : Heap) (L : List Loc) : Prop := v = some (.int (f2 s_INBOX s_FEED s_OPERATOR r0)) ∧ Fr n0 L ∧ h = h0
set_option maxRecDepth 65536 in
set_option maxHeartbeats 40000000 in
theorem rm2 (l : Launch) (Z : State) (a0 : Array Value) (hw : ∀ d ∈ tables_1, d.before a0 Z = true) (ws : List Jvm.Cond) (s_INBOX : Addr) (s_END : Addr) (s_FEED : Addr) (s_OPERATOR : Addr) (s_CLOCK : Addr) (HW : W0 Z s_INBOX s_END s_FEED s_OPERATOR s_CLOCK) (r0 : Addr) (h0 : Heap) (n0 : Nat) (O0 : Old Z n0 h0) :
    MetFree l (⟨"com/example/settlewire/settlewire/files/Journal$Origin", "isMessage", "()Z"⟩ : MethodName) (head1 (Jvm.Cond.code (⟨"com/example/settlewire/settlewire/files/Journal$Origin", "isMessage", "()Z"⟩ : MethodName) prog_22_method_4_code 1 (some .boolean) :: ws) ({ frames := 0, cells := 0, slots := 0, locals := 0 } : Room)) (fun a U => a = #[(.ref r0)] ∧ Z.Warmed39 U.vm ∧ U.heap = h0) (fun _ _ _ _ _ => True) (fun _ U o U' => ∃ v L, o = .returned v ∧ Q2 Z s_INBOX s_FEED s_OPERATOR r0 h0 n0 v U'.heap L ∧ FrameEnd U o U' L ({ frames := 0, cells := 0, slots := 0, locals := 0 } : Room).cells ({ frames := 0, cells := 0, slots := 0, locals := 0 } : Room).slots) := by
  refine MetFree.of_bodySF (plainFor_of_name own_pn1) hisR ?_
  intro p e s m args below meth c s₁ Bd hml0 hP hK
  obtain ⟨rfl, hZ, hh⟩ := hP
  obtain ⟨E_INBOX, S_INBOX, E_END, S_END, E_FEED, S_FEED, E_OPERATOR, S_OPERATOR, E_CLOCK, S_CLOCK, F_END_ordinal, F_INBOX_ordinal, F_FEED_ordinal, F_OPERATOR_ordinal, F_CLOCK_ordinal⟩ := id HW
  have hx := Bd.exec
  have hby := Bd.bytes
  have hml : c.maxLocals = 1 := hml0
  have hown : s.vm.findClass "com/example/settlewire/settlewire/files/Journal$Origin" = some m.cls := findClass_of_methodNamed Bd.named
  have hnm := (name_of_methodNamed Bd.named Bd.method).1
  have X0 : Stand p l e ({ frames := 0, cells := 0, slots := 0, locals := 0 } : Room) s m #[(.ref r0)] below meth c s₁ [] 0 0 := Stand.of_body Bd
  have e0 : s₁.heap = h0 := by rw [← hh, Bd.state]; rfl
  have N0 := Fr.nil n0
  have K0 := Keep.refl h0 []
  refine Go.out ?_
  refine Go.st (V' := s₁.setTop (mkF m 0 #[.val (.ref r0)] [])) (fun t k => castTop (ef2 m r0) k) ?_
  refine Go.st (V' := s₁.setTop (mkF m 1 #[.val (.ref r0)] [(.ref r0)])) (fun t k => ?_) ?_
  · refine XS.aloadN X0.here hx rfl (hb hby own_d2_0) rfl rfl ?_
    show Steps p.tables e below (s₁.setTop (mkF m 1 #[.val (.ref r0)] [(.ref r0)])) _
    exact k
  obtain ⟨T10, X10, e10, st10⟩ := getS2 X0 hx hZ hown (host := "") (Or.inl (hw _ (List.mem_of_getElem? (i := 13) rfl))) Via.refl e0 (S_INBOX.ext O0.2) (g := (mkF m 1 #[.val (.ref r0)] [(.ref r0)])) rfl (hb hby own_d2_1)
  refine Go.st (V' := T10.setTop (mkF m 4 #[.val (.ref r0)] [(.ref s_INBOX), (.ref r0)])) (fun t k => st10 t k) ?_
  by_cases hc11 : r0 = s_INBOX
  · refine Go.st (V' := T10.setTop (mkF m 26 #[.val (.ref r0)] [(.int (1 : Int32))])) (fun t k => ?_) ?_
    · refine Jvm.RoadKit.acmp (g := (mkF m 4 #[.val (.ref r0)] [(.ref s_INBOX), (.ref r0)])) X10 hx rfl rfl rfl (pc0 := 4) (pc' := 21) (same := true) rfl (hb hby own_d2_4) rfl (decide_eq_true (congrArg Value.ref hc11)) (by decide) (by decide) ?_
      show Steps p.tables e below (T10.setTop (mkF m 21 #[.val (.ref r0)] [])) _
      refine XS.iconst X10.here hx rfl (hb hby own_d2_21) ?_
      show Steps p.tables e below (T10.setTop (mkF m 22 #[.val (.ref r0)] [(.int (1 : Int32))])) _
      refine XS.goto X10.here hx rfl (pc0 := 22) (pc' := 26) rfl (hb hby own_d2_22) (by decide) (by decide) ?_
      show Steps p.tables e below (T10.setTop (mkF m 26 #[.val (.ref r0)] [(.int (1 : Int32))])) _
      exact k
    obtain ⟨fs, hr, hrun, hended, hW, hsame⟩ := X10.leave (v := some (.int (1 : Int32))) (fun h => by rw [Bd.returns] at h; cases h)
    refine Go.mk' ⟨_, _, retN X10 hx (t := .boolean) Bd.returns (by simp) (hb hby own_d2_26) hr, hrun, hended, _, _, rfl, ?_, ⟨_, rfl⟩, hW, hsame.mono (by decide) (by decide)⟩
    show Q2 Z s_INBOX s_FEED s_OPERATOR r0 h0 n0 _ T10.heap _
    rw [e10]
    exact ⟨(by rw [f2, if_pos hc11]), N0, rfl⟩
  · refine Go.st (V' := T10.setTop (mkF m 8 #[.val (.ref r0)] [(.ref r0)])) (fun t k => ?_) ?_
    · refine Jvm.RoadKit.acmp (g := (mkF m 4 #[.val (.ref r0)] [(.ref s_INBOX), (.ref r0)])) X10 hx rfl rfl rfl (pc0 := 4) (pc' := 7) (same := false) rfl (hb hby own_d2_4) rfl (decide_eq_false fun q => hc11 (Value.ref.inj q)) (by decide) (by decide) ?_
      show Steps p.tables e below (T10.setTop (mkF m 7 #[.val (.ref r0)] [])) _
      refine XS.aloadN X10.here hx rfl (hb hby own_d2_7) rfl rfl ?_
      show Steps p.tables e below (T10.setTop (mkF m 8 #[.val (.ref r0)] [(.ref r0)])) _
      exact k
    obtain ⟨T12, X12, e12, st12⟩ := getS2 X10 hx hZ hown (host := "") (Or.inl (hw _ (List.mem_of_getElem? (i := 16) rfl))) Via.refl e10 (S_FEED.ext O0.2) (g := (mkF m 8 #[.val (.ref r0)] [(.ref r0)])) rfl (hb hby own_d2_8)
    refine Go.st (V' := T12.setTop (mkF m 11 #[.val (.ref r0)] [(.ref s_FEED), (.ref r0)])) (fun t k => st12 t k) ?_
    by_cases hc13 : r0 = s_FEED
    · refine Go.st (V' := T12.setTop (mkF m 26 #[.val (.ref r0)] [(.int (1 : Int32))])) (fun t k => ?_) ?_
      · refine Jvm.RoadKit.acmp (g := (mkF m 11 #[.val (.ref r0)] [(.ref s_FEED), (.ref r0)])) X12 hx rfl rfl rfl (pc0 := 11) (pc' := 21) (same := true) rfl (hb hby own_d2_11) rfl (decide_eq_true (congrArg Value.ref hc13)) (by decide) (by decide) ?_
        show Steps p.tables e below (T12.setTop (mkF m 21 #[.val (.ref r0)] [])) _
        refine XS.iconst X12.here hx rfl (hb hby own_d2_21) ?_
        show Steps p.tables e below (T12.setTop (mkF m 22 #[.val (.ref r0)] [(.int (1 : Int32))])) _
        refine XS.goto X12.here hx rfl (pc0 := 22) (pc' := 26) rfl (hb hby own_d2_22) (by decide) (by decide) ?_
        show Steps p.tables e below (T12.setTop (mkF m 26 #[.val (.ref r0)] [(.int (1 : Int32))])) _
        exact k
      obtain ⟨fs, hr, hrun, hended, hW, hsame⟩ := X12.leave (v := some (.int (1 : Int32))) (fun h => by rw [Bd.returns] at h; cases h)
      refine Go.mk' ⟨_, _, retN X12 hx (t := .boolean) Bd.returns (by simp) (hb hby own_d2_26) hr, hrun, hended, _, _, rfl, ?_, ⟨_, rfl⟩, hW, hsame.mono (by decide) (by decide)⟩
      show Q2 Z s_INBOX s_FEED s_OPERATOR r0 h0 n0 _ T12.heap _
      rw [e12]
      exact ⟨(by rw [f2, if_neg hc11, if_pos hc13]), N0, rfl⟩
    · refine Go.st (V' := T12.setTop (mkF m 15 #[.val (.ref r0)] [(.ref r0)])) (fun t k => ?_) ?_
      · refine Jvm.RoadKit.acmp (g := (mkF m 11 #[.val (.ref r0)] [(.ref s_FEED), (.ref r0)])) X12 hx rfl rfl rfl (pc0 := 11) (pc' := 14) (same := false) rfl (hb hby own_d2_11) rfl (decide_eq_false fun q => hc13 (Value.ref.inj q)) (by decide) (by decide) ?_
        show Steps p.tables e below (T12.setTop (mkF m 14 #[.val (.ref r0)] [])) _
        refine XS.aloadN X12.here hx rfl (hb hby own_d2_14) rfl rfl ?_
        show Steps p.tables e below (T12.setTop (mkF m 15 #[.val (.ref r0)] [(.ref r0)])) _
        exact k
      obtain ⟨T14, X14, e14, st14⟩ := getS2 X12 hx hZ hown (host := "") (Or.inl (hw _ (List.mem_of_getElem? (i := 18) rfl))) Via.refl e12 (S_OPERATOR.ext O0.2) (g := (mkF m 15 #[.val (.ref r0)] [(.ref r0)])) rfl (hb hby own_d2_15)
      refine Go.st (V' := T14.setTop (mkF m 18 #[.val (.ref r0)] [(.ref s_OPERATOR), (.ref r0)])) (fun t k => st14 t k) ?_
      by_cases hc15 : r0 = s_OPERATOR
      · refine Go.st (V' := T14.setTop (mkF m 26 #[.val (.ref r0)] [(.int (1 : Int32))])) (fun t k => ?_) ?_
        · refine Jvm.RoadKit.acmp (g := (mkF m 18 #[.val (.ref r0)] [(.ref s_OPERATOR), (.ref r0)])) X14 hx rfl rfl rfl (pc0 := 18) (pc' := 21) (same := true) rfl (hb hby own_d2_18) rfl (decide_eq_true (congrArg Value.ref hc15)) (by decide) (by decide) ?_
          show Steps p.tables e below (T14.setTop (mkF m 21 #[.val (.ref r0)] [])) _
          refine XS.iconst X14.here hx rfl (hb hby own_d2_21) ?_
          show Steps p.tables e below (T14.setTop (mkF m 22 #[.val (.ref r0)] [(.int (1 : Int32))])) _
          refine XS.goto X14.here hx rfl (pc0 := 22) (pc' := 26) rfl (hb hby own_d2_22) (by decide) (by decide) ?_
          show Steps p.tables e below (T14.setTop (mkF m 26 #[.val (.ref r0)] [(.int (1 : Int32))])) _
          exact k
        obtain ⟨fs, hr, hrun, hended, hW, hsame⟩ := X14.leave (v := some (.int (1 : Int32))) (fun h => by rw [Bd.returns] at h; cases h)
        refine Go.mk' ⟨_, _, retN X14 hx (t := .boolean) Bd.returns (by simp) (hb hby own_d2_26) hr, hrun, hended, _, _, rfl, ?_, ⟨_, rfl⟩, hW, hsame.mono (by decide) (by decide)⟩
        show Q2 Z s_INBOX s_FEED s_OPERATOR r0 h0 n0 _ T14.heap _
        rw [e14]
        exact ⟨(by rw [f2, if_neg hc11, if_neg hc13, if_pos hc15]), N0, rfl⟩
      · refine Go.st (V' := T14.setTop (mkF m 26 #[.val (.ref r0)] [(.int (0 : Int32))])) (fun t k => ?_) ?_
        · refine Jvm.RoadKit.acmp (g := (mkF m 18 #[.val (.ref r0)] [(.ref s_OPERATOR), (.ref r0)])) X14 hx rfl rfl rfl (pc0 := 18) (pc' := 25) (same := false) rfl (hb hby own_d2_18) rfl (decide_eq_false fun q => hc15 (Value.ref.inj q)) (by decide) (by decide) ?_
          show Steps p.tables e below (T14.setTop (mkF m 25 #[.val (.ref r0)] [])) _
          refine XS.iconst X14.here hx rfl (hb hby own_d2_25) ?_
          show Steps p.tables e below (T14.setTop (mkF m 26 #[.val (.ref r0)] [(.int (0 : Int32))])) _
          exact k
        obtain ⟨fs, hr, hrun, hended, hW, hsame⟩ := X14.leave (v := some (.int (0 : Int32))) (fun h => by rw [Bd.returns] at h; cases h)
        refine Go.mk' ⟨_, _, retN X14 hx (t := .boolean) Bd.returns (by simp) (hb hby own_d2_26) hr, hrun, hended, _, _, rfl, ?_, ⟨_, rfl⟩, hW, hsame.mono (by decide) (by decide)⟩
        show Q2 Z s_INBOX s_FEED s_OPERATOR r0 h0 n0 _ T14.heap _
        rw [e14]
        exact ⟨(by rw [f2, if_neg hc11, if_neg hc13, if_neg hc15]), N0, rfl⟩
theorem own_pd34 : parseMethodDescriptor "(I)Lcom/example/settlewire/settlewire/files/Journal$Origin;" = some ⟨[.int], some (.object "com/example/settlewire/settlewire/files/Journal$Origin")⟩ := by decide +kernel
theorem own_pd35 : parseMethodDescriptor "()Z" = some ⟨[], some .boolean⟩ := by decide +kernel
theorem ef0 (m : MethodId) (p0 : Int32) : entryFrame m #[(.int p0)] maxLocals = mkF m 0 #[.val (.int p0), .unset, .unset, .unset, .unset] [] := by first | (simp [entryFrame, mkF, argsToLocals, Value.category, maxLocals]; done) | rfl
def Q0 (Z : State) (p0 : Int32) (h0 : Heap) (n0 : Nat) (v : Option Value) (h : Heap) (L : List Loc) : Prop := v = some (.int 1) ∧ Fr n0 L
set_option maxRecDepth 65536 in
set_option maxHeartbeats 40000000 in
theorem rm0 (l : Launch) (Z : State) (a0 : Array Value) (hw : ∀ d ∈ tables_1, d.before a0 Z = true) (ws : List Jvm.Cond) (s_INBOX : Addr) (s_END : Addr) (s_FEED : Addr) (s_OPERATOR : Addr) (s_CLOCK : Addr) (HW : W0 Z s_INBOX s_END s_FEED s_OPERATOR s_CLOCK) (p0 : Int32) (h0 : Heap) (n0 : Nat) (O0 : Old Z n0 h0) :
    MetFree l x (head1 (Jvm.Cond.code x code maxLocals ret :: ws) room_1) (fun a U => a = #[(.int p0)] ∧ Z.Warmed39 U.vm ∧ U.heap = h0) (fun _ _ _ _ _ => True) (fun _ U o U' => ∃ v L, o = .returned v ∧ Q0 Z p0 h0 n0 v U'.heap L ∧ FrameEnd U o U' L room_1.cells room_1.slots) := by
  refine MetFree.of_bodySF (plainFor_of_name own_pn0) hisR ?_
  intro p e s m args below meth c s₁ Bd hml0 hP hK
  obtain ⟨rfl, hZ, hh⟩ := hP
  obtain ⟨E_INBOX, S_INBOX, E_END, S_END, E_FEED, S_FEED, E_OPERATOR, S_OPERATOR, E_CLOCK, S_CLOCK, F_END_ordinal, F_INBOX_ordinal, F_FEED_ordinal, F_OPERATOR_ordinal, F_CLOCK_ordinal⟩ := id HW
  have hx := Bd.exec
  have hby := Bd.bytes
  have hml : c.maxLocals = 5 := hml0
  have hown : s.vm.findClass "com/example/settlewire/settlewire/files/OriginIsMessagePinLaw" = some m.cls := findClass_of_methodNamed Bd.named
  have hnm := (name_of_methodNamed Bd.named Bd.method).1
  have X0 : Stand p l e room_1 s m #[(.int p0)] below meth c s₁ [] 0 0 := Stand.of_body Bd
  have e0 : s₁.heap = h0 := by rw [← hh, Bd.state]; rfl
  have N0 := Fr.nil n0
  refine Go.out ?_
  refine Go.st (V' := s₁.setTop (mkF m 0 #[.val (.int p0), .unset, .unset, .unset, .unset] [])) (fun t k => castTop (ef0 m p0) k) ?_
  refine Go.st (V' := s₁.setTop (mkF m 8 #[.val (.int p0), .val (.int ((p0 &&& (2147483647 : Int32)) % (5 : Int32))), .unset, .unset, .unset] [(.int ((p0 &&& (2147483647 : Int32)) % (5 : Int32)))])) (fun t k => ?_) ?_
  · refine XS.iloadN X0.here hx rfl (hb hby at_0) rfl  ?_
    show Steps p.tables e below (s₁.setTop (mkF m 1 #[.val (.int p0), .unset, .unset, .unset, .unset] [(.int p0)])) _
    refine X0.ldcInt hx hown (mvT hZ (hw _ (List.mem_of_getElem? (i := 0) rfl))) (g := (mkF m 1 #[.val (.int p0), .unset, .unset, .unset, .unset] [(.int p0)])) rfl (hb hby at_1) _ ?_
    show Steps p.tables e below (s₁.setTop (mkF m 3 #[.val (.int p0), .unset, .unset, .unset, .unset] [(.int (2147483647 : Int32)), (.int p0)])) _
    refine XS.iand X0.here hx rfl (hb hby at_3) rfl ?_
    show Steps p.tables e below (s₁.setTop (mkF m 4 #[.val (.int p0), .unset, .unset, .unset, .unset] [(.int (p0 &&& (2147483647 : Int32)))])) _
    refine XS.iconst X0.here hx rfl (hb hby at_4) ?_
    show Steps p.tables e below (s₁.setTop (mkF m 5 #[.val (.int p0), .unset, .unset, .unset, .unset] [(.int (5 : Int32)), (.int (p0 &&& (2147483647 : Int32)))])) _
    refine iremM X0 hx rfl (hb hby at_5) rfl (by decide) ?_
    show Steps p.tables e below (s₁.setTop (mkF m 6 #[.val (.int p0), .unset, .unset, .unset, .unset] [(.int ((p0 &&& (2147483647 : Int32)) % (5 : Int32)))])) _
    refine XS.istoreN X0.here hx rfl (hb hby at_6) rfl (l' := #[.val (.int p0), .val (.int ((p0 &&& (2147483647 : Int32)) % (5 : Int32))), .unset, .unset, .unset]) rfl ?_
    show Steps p.tables e below (s₁.setTop (mkF m 7 #[.val (.int p0), .val (.int ((p0 &&& (2147483647 : Int32)) % (5 : Int32))), .unset, .unset, .unset] [])) _
    refine XS.iloadN X0.here hx rfl (hb hby at_7) rfl  ?_
    show Steps p.tables e below (s₁.setTop (mkF m 8 #[.val (.int p0), .val (.int ((p0 &&& (2147483647 : Int32)) % (5 : Int32))), .unset, .unset, .unset] [(.int ((p0 &&& (2147483647 : Int32)) % (5 : Int32)))])) _
    exact k
  obtain ⟨_, _, ⟨T16, L16, k16, n16⟩, -, X16, ⟨Lc16, hQ16, l16, y16, z16⟩, st16⟩ := Jvm.LawKit.callS X0 hx (y := (⟨"com/example/settlewire/settlewire/files/OriginIsMessagePinLaw", "pick", "(I)Lcom/example/settlewire/settlewire/files/Journal$Origin;"⟩ : MethodName)) hown (mvT hZ (hw _ (List.mem_of_getElem? (i := 1) rfl))) (mvT hZ (hw _ (List.mem_of_getElem? (i := 2) rfl))) (mvT hZ (hw _ (List.mem_of_getElem? (i := 3) rfl))) (mvT hZ (hw _ (List.mem_of_getElem? (i := 4) rfl))) (by decide) (backOf (W := 0) (rm1 l Z a0 hw [] s_INBOX s_END s_FEED s_OPERATOR s_CLOCK HW ((p0 &&& (2147483647 : Int32)) % (5 : Int32)) h0 n0 O0) hZ (hw _ (List.mem_of_getElem? (i := 4) rfl)) (hw _ (List.mem_of_getElem? (i := 3) rfl)) (by decide) (by decide)) (g := (mkF m 8 #[.val (.int p0), .val (.int ((p0 &&& (2147483647 : Int32)) % (5 : Int32))), .unset, .unset, .unset] [(.int ((p0 &&& (2147483647 : Int32)) % (5 : Int32)))])) rfl (by rw [hml]; rfl) (argsL := [(.int ((p0 &&& (2147483647 : Int32)) % (5 : Int32)))]) (rest := []) (lenOf own_pd34 rfl) rfl (by show 2 * 0 + _ ≤ _; exact Nat.le_of_eq rfl) (hb hby at_8) (fun _ _ => ⟨rfl, e0, (by decide : 0 + 0 ≤ _), (by decide : 0 + 0 ≤ _)⟩)
  dsimp only [Pt.U, Pt.locs, Pt.cells, Pt.slots] at X16 l16 y16 z16 st16 hQ16
  subst l16 y16 z16
  obtain ⟨rfl, N16q, e16⟩ := hQ16
  have N16 := Fr.app N0 N16q
  refine Go.st (V' := T16.setTop (mkF m 11 #[.val (.int p0), .val (.int ((p0 &&& (2147483647 : Int32)) % (5 : Int32))), .unset, .unset, .unset] [(.ref (f1 s_INBOX s_END s_FEED s_OPERATOR s_CLOCK ((p0 &&& (2147483647 : Int32)) % (5 : Int32))))])) (fun t k => st16 t k) ?_
  by_cases hc17 : ((p0 &&& (2147483647 : Int32)) % (5 : Int32)) = (0 : Int32)
  · have r18 : (f1 s_INBOX s_END s_FEED s_OPERATOR s_CLOCK ((p0 &&& (2147483647 : Int32)) % (5 : Int32))) = s_INBOX := by rw [f1, if_pos hc17]
    rw [r18]
    refine Go.st (V' := T16.setTop (mkF m 40 #[.val (.int p0), .val (.int ((p0 &&& (2147483647 : Int32)) % (5 : Int32))), .val (.ref s_INBOX), .val (.int (0 : Int32)), .val (.int (1 : Int32))] [(.ref s_INBOX)])) (fun t k => ?_) ?_
    · refine XS.astoreN X16.here hx rfl (hb hby at_11) rfl rfl (l' := #[.val (.int p0), .val (.int ((p0 &&& (2147483647 : Int32)) % (5 : Int32))), .val (.ref s_INBOX), .unset, .unset]) rfl ?_
      show Steps p.tables e below (T16.setTop (mkF m 12 #[.val (.int p0), .val (.int ((p0 &&& (2147483647 : Int32)) % (5 : Int32))), .val (.ref s_INBOX), .unset, .unset] [])) _
      refine XS.iloadN X16.here hx rfl (hb hby at_12) rfl  ?_
      show Steps p.tables e below (T16.setTop (mkF m 13 #[.val (.int p0), .val (.int ((p0 &&& (2147483647 : Int32)) % (5 : Int32))), .val (.ref s_INBOX), .unset, .unset] [(.int ((p0 &&& (2147483647 : Int32)) % (5 : Int32)))])) _
      refine XS.iconst X16.here hx rfl (hb hby at_13) ?_
      show Steps p.tables e below (T16.setTop (mkF m 14 #[.val (.int p0), .val (.int ((p0 &&& (2147483647 : Int32)) % (5 : Int32))), .val (.ref s_INBOX), .unset, .unset] [(.int (2 : Int32)), (.int ((p0 &&& (2147483647 : Int32)) % (5 : Int32)))])) _
      refine XS.icmpNo X16.here hx rfl (hb hby at_14) rfl (feq (fun q => absurd (hc17.symm.trans q) (by decide))).1 ?_
      show Steps p.tables e below (T16.setTop (mkF m 17 #[.val (.int p0), .val (.int ((p0 &&& (2147483647 : Int32)) % (5 : Int32))), .val (.ref s_INBOX), .unset, .unset] [])) _
      refine XS.iloadN X16.here hx rfl (hb hby at_17) rfl  ?_
      show Steps p.tables e below (T16.setTop (mkF m 18 #[.val (.int p0), .val (.int ((p0 &&& (2147483647 : Int32)) % (5 : Int32))), .val (.ref s_INBOX), .unset, .unset] [(.int ((p0 &&& (2147483647 : Int32)) % (5 : Int32)))])) _
      refine XS.iconst X16.here hx rfl (hb hby at_18) ?_
      show Steps p.tables e below (T16.setTop (mkF m 19 #[.val (.int p0), .val (.int ((p0 &&& (2147483647 : Int32)) % (5 : Int32))), .val (.ref s_INBOX), .unset, .unset] [(.int (3 : Int32)), (.int ((p0 &&& (2147483647 : Int32)) % (5 : Int32)))])) _
      refine XS.icmpYes X16.here hx rfl (pc0 := 19) (pc' := 26) rfl (hb hby at_19) rfl (feq (fun q => absurd (hc17.symm.trans q) (by decide))).2 (by decide) (by decide) ?_
      show Steps p.tables e below (T16.setTop (mkF m 26 #[.val (.int p0), .val (.int ((p0 &&& (2147483647 : Int32)) % (5 : Int32))), .val (.ref s_INBOX), .unset, .unset] [])) _
      refine XS.iconst X16.here hx rfl (hb hby at_26) ?_
      show Steps p.tables e below (T16.setTop (mkF m 27 #[.val (.int p0), .val (.int ((p0 &&& (2147483647 : Int32)) % (5 : Int32))), .val (.ref s_INBOX), .unset, .unset] [(.int (0 : Int32))])) _
      refine XS.istoreN X16.here hx rfl (hb hby at_27) rfl (l' := #[.val (.int p0), .val (.int ((p0 &&& (2147483647 : Int32)) % (5 : Int32))), .val (.ref s_INBOX), .val (.int (0 : Int32)), .unset]) rfl ?_
      show Steps p.tables e below (T16.setTop (mkF m 28 #[.val (.int p0), .val (.int ((p0 &&& (2147483647 : Int32)) % (5 : Int32))), .val (.ref s_INBOX), .val (.int (0 : Int32)), .unset] [])) _
      refine XS.iloadN X16.here hx rfl (hb hby at_28) rfl  ?_
      show Steps p.tables e below (T16.setTop (mkF m 29 #[.val (.int p0), .val (.int ((p0 &&& (2147483647 : Int32)) % (5 : Int32))), .val (.ref s_INBOX), .val (.int (0 : Int32)), .unset] [(.int (0 : Int32))])) _
      refine XS.ifNo X16.here hx rfl (hb hby at_29) rfl ((if0 _ _).trans (teq (by decide : ((0 : Int32) = (0 : Int32)))).2) ?_
      show Steps p.tables e below (T16.setTop (mkF m 32 #[.val (.int p0), .val (.int ((p0 &&& (2147483647 : Int32)) % (5 : Int32))), .val (.ref s_INBOX), .val (.int (0 : Int32)), .unset] [])) _
      refine XS.iconst X16.here hx rfl (hb hby at_32) ?_
      show Steps p.tables e below (T16.setTop (mkF m 33 #[.val (.int p0), .val (.int ((p0 &&& (2147483647 : Int32)) % (5 : Int32))), .val (.ref s_INBOX), .val (.int (0 : Int32)), .unset] [(.int (1 : Int32))])) _
      refine XS.goto X16.here hx rfl (pc0 := 33) (pc' := 37) rfl (hb hby at_33) (by decide) (by decide) ?_
      show Steps p.tables e below (T16.setTop (mkF m 37 #[.val (.int p0), .val (.int ((p0 &&& (2147483647 : Int32)) % (5 : Int32))), .val (.ref s_INBOX), .val (.int (0 : Int32)), .unset] [(.int (1 : Int32))])) _
      refine XS.istore X16.here hx rfl (hb hby at_37) rfl (l' := #[.val (.int p0), .val (.int ((p0 &&& (2147483647 : Int32)) % (5 : Int32))), .val (.ref s_INBOX), .val (.int (0 : Int32)), .val (.int (1 : Int32))]) rfl ?_
      show Steps p.tables e below (T16.setTop (mkF m 39 #[.val (.int p0), .val (.int ((p0 &&& (2147483647 : Int32)) % (5 : Int32))), .val (.ref s_INBOX), .val (.int (0 : Int32)), .val (.int (1 : Int32))] [])) _
      refine XS.aloadN X16.here hx rfl (hb hby at_39) rfl rfl ?_
      show Steps p.tables e below (T16.setTop (mkF m 40 #[.val (.int p0), .val (.int ((p0 &&& (2147483647 : Int32)) % (5 : Int32))), .val (.ref s_INBOX), .val (.int (0 : Int32)), .val (.int (1 : Int32))] [(.ref s_INBOX)])) _
      exact k
    obtain ⟨cq19, kq19, q19a, q19b, q19c⟩ := isOf hZ e16 (E_INBOX.ext O0.2)
    obtain ⟨_, _, ⟨T19, L19, k19, n19⟩, -, X19, ⟨Lc19, hQ19, l19, y19, z19⟩, st19⟩ := X16.virtualBack hx (y := (⟨"com/example/settlewire/settlewire/files/Journal$Origin", "isMessage", "()Z"⟩ : MethodName)) (z := (⟨"com/example/settlewire/settlewire/files/Journal$Origin", "isMessage", "()Z"⟩ : MethodName)) hown (mvT hZ (hw _ (List.mem_of_getElem? (i := 8) rfl))) (mvT hZ (hw _ (List.mem_of_getElem? (i := 9) rfl))) (notFace_of_selects (args := #[]) (mvT hZ (hw _ (List.mem_of_getElem? (i := 11) rfl)))) (mvT hZ (hw _ (List.mem_of_getElem? (i := 11) rfl))) (mvT hZ (hw _ (List.mem_of_getElem? (i := 10) rfl))) (by decide) (backOf (W := 0) (rm2 l Z a0 hw [] s_INBOX s_END s_FEED s_OPERATOR s_CLOCK HW s_INBOX h0 n0 O0) hZ (hw _ (List.mem_of_getElem? (i := 12) rfl)) (hw _ (List.mem_of_getElem? (i := 6) rfl)) (by decide) (by decide)) q19a q19c (g := (mkF m 40 #[.val (.int p0), .val (.int ((p0 &&& (2147483647 : Int32)) % (5 : Int32))), .val (.ref s_INBOX), .val (.int (0 : Int32)), .val (.int (1 : Int32))] [(.ref s_INBOX)])) rfl (by rw [hml]; rfl) (Steps.refl _) (argsL := []) (rest := []) (lenOf own_pd35 rfl) rfl (by show 2 * 0 + _ ≤ _; exact Nat.le_of_eq rfl) (hb hby at_40) (fun _ _ => ⟨rfl, e16, (by decide : 0 + 0 ≤ _), (by decide : 0 + 0 ≤ _)⟩)
    dsimp only [Pt.U, Pt.locs, Pt.cells, Pt.slots] at X19 l19 y19 z19 st19 hQ19
    subst l19 y19 z19
    obtain ⟨rfl, N19q, e19⟩ := hQ19
    have N19 := Fr.app N16 N19q
    refine Go.st (V' := T19.setTop (mkF m 43 #[.val (.int p0), .val (.int ((p0 &&& (2147483647 : Int32)) % (5 : Int32))), .val (.ref s_INBOX), .val (.int (0 : Int32)), .val (.int (1 : Int32))] [(.int (f2 s_INBOX s_FEED s_OPERATOR s_INBOX))])) (fun t k => st19.trans k) ?_
    have r20 : (f2 s_INBOX s_FEED s_OPERATOR s_INBOX) = (1 : Int32) := by rw [f2, if_pos (rfl : s_INBOX = s_INBOX)]
    rw [r20]
    refine Go.st (V' := T19.setTop (mkF m 53 #[.val (.int p0), .val (.int ((p0 &&& (2147483647 : Int32)) % (5 : Int32))), .val (.ref s_INBOX), .val (.int (0 : Int32)), .val (.int (1 : Int32))] [(.int (1 : Int32))])) (fun t k => ?_) ?_
    · refine XS.iload X19.here hx rfl (hb hby at_43) rfl  ?_
      show Steps p.tables e below (T19.setTop (mkF m 45 #[.val (.int p0), .val (.int ((p0 &&& (2147483647 : Int32)) % (5 : Int32))), .val (.ref s_INBOX), .val (.int (0 : Int32)), .val (.int (1 : Int32))] [(.int (1 : Int32)), (.int (1 : Int32))])) _
      refine XS.icmpNo X19.here hx rfl (hb hby at_45) rfl (teq (by decide : ((1 : Int32) = (1 : Int32)))).2 ?_
      show Steps p.tables e below (T19.setTop (mkF m 48 #[.val (.int p0), .val (.int ((p0 &&& (2147483647 : Int32)) % (5 : Int32))), .val (.ref s_INBOX), .val (.int (0 : Int32)), .val (.int (1 : Int32))] [])) _
      refine XS.iconst X19.here hx rfl (hb hby at_48) ?_
      show Steps p.tables e below (T19.setTop (mkF m 49 #[.val (.int p0), .val (.int ((p0 &&& (2147483647 : Int32)) % (5 : Int32))), .val (.ref s_INBOX), .val (.int (0 : Int32)), .val (.int (1 : Int32))] [(.int (1 : Int32))])) _
      refine XS.goto X19.here hx rfl (pc0 := 49) (pc' := 53) rfl (hb hby at_49) (by decide) (by decide) ?_
      show Steps p.tables e below (T19.setTop (mkF m 53 #[.val (.int p0), .val (.int ((p0 &&& (2147483647 : Int32)) % (5 : Int32))), .val (.ref s_INBOX), .val (.int (0 : Int32)), .val (.int (1 : Int32))] [(.int (1 : Int32))])) _
      exact k
    obtain ⟨fs, hr, hrun, hended, hW, hsame⟩ := X19.leave (v := some (.int (1 : Int32))) (fun h => by rw [Bd.returns] at h; cases h)
    refine Go.mk' ⟨_, _, retN X19 hx (t := .boolean) Bd.returns (by simp) (hb hby at_53) hr, hrun, hended, _, _, rfl, ?_, ⟨_, rfl⟩, hW, hsame.mono (by decide) (by decide)⟩
    show Q0 Z p0 h0 n0 _ T19.heap _
    rw [e19]
    exact ⟨rfl, N19⟩
  · by_cases hc21 : ((p0 &&& (2147483647 : Int32)) % (5 : Int32)) = (1 : Int32)
    · have r22 : (f1 s_INBOX s_END s_FEED s_OPERATOR s_CLOCK ((p0 &&& (2147483647 : Int32)) % (5 : Int32))) = s_FEED := by rw [f1, if_neg hc17, if_pos hc21]
      rw [r22]
      refine Go.st (V' := T16.setTop (mkF m 40 #[.val (.int p0), .val (.int ((p0 &&& (2147483647 : Int32)) % (5 : Int32))), .val (.ref s_FEED), .val (.int (0 : Int32)), .val (.int (1 : Int32))] [(.ref s_FEED)])) (fun t k => ?_) ?_
      · refine XS.astoreN X16.here hx rfl (hb hby at_11) rfl rfl (l' := #[.val (.int p0), .val (.int ((p0 &&& (2147483647 : Int32)) % (5 : Int32))), .val (.ref s_FEED), .unset, .unset]) rfl ?_
        show Steps p.tables e below (T16.setTop (mkF m 12 #[.val (.int p0), .val (.int ((p0 &&& (2147483647 : Int32)) % (5 : Int32))), .val (.ref s_FEED), .unset, .unset] [])) _
        refine XS.iloadN X16.here hx rfl (hb hby at_12) rfl  ?_
        show Steps p.tables e below (T16.setTop (mkF m 13 #[.val (.int p0), .val (.int ((p0 &&& (2147483647 : Int32)) % (5 : Int32))), .val (.ref s_FEED), .unset, .unset] [(.int ((p0 &&& (2147483647 : Int32)) % (5 : Int32)))])) _
        refine XS.iconst X16.here hx rfl (hb hby at_13) ?_
        show Steps p.tables e below (T16.setTop (mkF m 14 #[.val (.int p0), .val (.int ((p0 &&& (2147483647 : Int32)) % (5 : Int32))), .val (.ref s_FEED), .unset, .unset] [(.int (2 : Int32)), (.int ((p0 &&& (2147483647 : Int32)) % (5 : Int32)))])) _
        refine XS.icmpNo X16.here hx rfl (hb hby at_14) rfl (feq (fun q => absurd (hc21.symm.trans q) (by decide))).1 ?_
        show Steps p.tables e below (T16.setTop (mkF m 17 #[.val (.int p0), .val (.int ((p0 &&& (2147483647 : Int32)) % (5 : Int32))), .val (.ref s_FEED), .unset, .unset] [])) _
        refine XS.iloadN X16.here hx rfl (hb hby at_17) rfl  ?_
        show Steps p.tables e below (T16.setTop (mkF m 18 #[.val (.int p0), .val (.int ((p0 &&& (2147483647 : Int32)) % (5 : Int32))), .val (.ref s_FEED), .unset, .unset] [(.int ((p0 &&& (2147483647 : Int32)) % (5 : Int32)))])) _
        refine XS.iconst X16.here hx rfl (hb hby at_18) ?_
        show Steps p.tables e below (T16.setTop (mkF m 19 #[.val (.int p0), .val (.int ((p0 &&& (2147483647 : Int32)) % (5 : Int32))), .val (.ref s_FEED), .unset, .unset] [(.int (3 : Int32)), (.int ((p0 &&& (2147483647 : Int32)) % (5 : Int32)))])) _
        refine XS.icmpYes X16.here hx rfl (pc0 := 19) (pc' := 26) rfl (hb hby at_19) rfl (feq (fun q => absurd (hc21.symm.trans q) (by decide))).2 (by decide) (by decide) ?_
        show Steps p.tables e below (T16.setTop (mkF m 26 #[.val (.int p0), .val (.int ((p0 &&& (2147483647 : Int32)) % (5 : Int32))), .val (.ref s_FEED), .unset, .unset] [])) _
        refine XS.iconst X16.here hx rfl (hb hby at_26) ?_
        show Steps p.tables e below (T16.setTop (mkF m 27 #[.val (.int p0), .val (.int ((p0 &&& (2147483647 : Int32)) % (5 : Int32))), .val (.ref s_FEED), .unset, .unset] [(.int (0 : Int32))])) _
        refine XS.istoreN X16.here hx rfl (hb hby at_27) rfl (l' := #[.val (.int p0), .val (.int ((p0 &&& (2147483647 : Int32)) % (5 : Int32))), .val (.ref s_FEED), .val (.int (0 : Int32)), .unset]) rfl ?_
        show Steps p.tables e below (T16.setTop (mkF m 28 #[.val (.int p0), .val (.int ((p0 &&& (2147483647 : Int32)) % (5 : Int32))), .val (.ref s_FEED), .val (.int (0 : Int32)), .unset] [])) _
        refine XS.iloadN X16.here hx rfl (hb hby at_28) rfl  ?_
        show Steps p.tables e below (T16.setTop (mkF m 29 #[.val (.int p0), .val (.int ((p0 &&& (2147483647 : Int32)) % (5 : Int32))), .val (.ref s_FEED), .val (.int (0 : Int32)), .unset] [(.int (0 : Int32))])) _
        refine XS.ifNo X16.here hx rfl (hb hby at_29) rfl ((if0 _ _).trans (teq (by decide : ((0 : Int32) = (0 : Int32)))).2) ?_
        show Steps p.tables e below (T16.setTop (mkF m 32 #[.val (.int p0), .val (.int ((p0 &&& (2147483647 : Int32)) % (5 : Int32))), .val (.ref s_FEED), .val (.int (0 : Int32)), .unset] [])) _
        refine XS.iconst X16.here hx rfl (hb hby at_32) ?_
        show Steps p.tables e below (T16.setTop (mkF m 33 #[.val (.int p0), .val (.int ((p0 &&& (2147483647 : Int32)) % (5 : Int32))), .val (.ref s_FEED), .val (.int (0 : Int32)), .unset] [(.int (1 : Int32))])) _
        refine XS.goto X16.here hx rfl (pc0 := 33) (pc' := 37) rfl (hb hby at_33) (by decide) (by decide) ?_
        show Steps p.tables e below (T16.setTop (mkF m 37 #[.val (.int p0), .val (.int ((p0 &&& (2147483647 : Int32)) % (5 : Int32))), .val (.ref s_FEED), .val (.int (0 : Int32)), .unset] [(.int (1 : Int32))])) _
        refine XS.istore X16.here hx rfl (hb hby at_37) rfl (l' := #[.val (.int p0), .val (.int ((p0 &&& (2147483647 : Int32)) % (5 : Int32))), .val (.ref s_FEED), .val (.int (0 : Int32)), .val (.int (1 : Int32))]) rfl ?_
        show Steps p.tables e below (T16.setTop (mkF m 39 #[.val (.int p0), .val (.int ((p0 &&& (2147483647 : Int32)) % (5 : Int32))), .val (.ref s_FEED), .val (.int (0 : Int32)), .val (.int (1 : Int32))] [])) _
        refine XS.aloadN X16.here hx rfl (hb hby at_39) rfl rfl ?_
        show Steps p.tables e below (T16.setTop (mkF m 40 #[.val (.int p0), .val (.int ((p0 &&& (2147483647 : Int32)) % (5 : Int32))), .val (.ref s_FEED), .val (.int (0 : Int32)), .val (.int (1 : Int32))] [(.ref s_FEED)])) _
        exact k
      obtain ⟨cq23, kq23, q23a, q23b, q23c⟩ := isOf hZ e16 (E_FEED.ext O0.2)
      obtain ⟨_, _, ⟨T23, L23, k23, n23⟩, -, X23, ⟨Lc23, hQ23, l23, y23, z23⟩, st23⟩ := X16.virtualBack hx (y := (⟨"com/example/settlewire/settlewire/files/Journal$Origin", "isMessage", "()Z"⟩ : MethodName)) (z := (⟨"com/example/settlewire/settlewire/files/Journal$Origin", "isMessage", "()Z"⟩ : MethodName)) hown (mvT hZ (hw _ (List.mem_of_getElem? (i := 8) rfl))) (mvT hZ (hw _ (List.mem_of_getElem? (i := 9) rfl))) (notFace_of_selects (args := #[]) (mvT hZ (hw _ (List.mem_of_getElem? (i := 11) rfl)))) (mvT hZ (hw _ (List.mem_of_getElem? (i := 11) rfl))) (mvT hZ (hw _ (List.mem_of_getElem? (i := 10) rfl))) (by decide) (backOf (W := 0) (rm2 l Z a0 hw [] s_INBOX s_END s_FEED s_OPERATOR s_CLOCK HW s_FEED h0 n0 O0) hZ (hw _ (List.mem_of_getElem? (i := 12) rfl)) (hw _ (List.mem_of_getElem? (i := 6) rfl)) (by decide) (by decide)) q23a q23c (g := (mkF m 40 #[.val (.int p0), .val (.int ((p0 &&& (2147483647 : Int32)) % (5 : Int32))), .val (.ref s_FEED), .val (.int (0 : Int32)), .val (.int (1 : Int32))] [(.ref s_FEED)])) rfl (by rw [hml]; rfl) (Steps.refl _) (argsL := []) (rest := []) (lenOf own_pd35 rfl) rfl (by show 2 * 0 + _ ≤ _; exact Nat.le_of_eq rfl) (hb hby at_40) (fun _ _ => ⟨rfl, e16, (by decide : 0 + 0 ≤ _), (by decide : 0 + 0 ≤ _)⟩)
      dsimp only [Pt.U, Pt.locs, Pt.cells, Pt.slots] at X23 l23 y23 z23 st23 hQ23
      subst l23 y23 z23
      obtain ⟨rfl, N23q, e23⟩ := hQ23
      have N23 := Fr.app N16 N23q
      refine Go.st (V' := T23.setTop (mkF m 43 #[.val (.int p0), .val (.int ((p0 &&& (2147483647 : Int32)) % (5 : Int32))), .val (.ref s_FEED), .val (.int (0 : Int32)), .val (.int (1 : Int32))] [(.int (f2 s_INBOX s_FEED s_OPERATOR s_FEED))])) (fun t k => st23.trans k) ?_
      have r24 : (f2 s_INBOX s_FEED s_OPERATOR s_FEED) = (1 : Int32) := by rw [f2, if_neg (Fld.ne (F_FEED_ordinal.ext O0.2) (F_INBOX_ordinal.ext O0.2) (by decide)), if_pos (rfl : s_FEED = s_FEED)]
      rw [r24]
      refine Go.st (V' := T23.setTop (mkF m 53 #[.val (.int p0), .val (.int ((p0 &&& (2147483647 : Int32)) % (5 : Int32))), .val (.ref s_FEED), .val (.int (0 : Int32)), .val (.int (1 : Int32))] [(.int (1 : Int32))])) (fun t k => ?_) ?_
      · refine XS.iload X23.here hx rfl (hb hby at_43) rfl  ?_
        show Steps p.tables e below (T23.setTop (mkF m 45 #[.val (.int p0), .val (.int ((p0 &&& (2147483647 : Int32)) % (5 : Int32))), .val (.ref s_FEED), .val (.int (0 : Int32)), .val (.int (1 : Int32))] [(.int (1 : Int32)), (.int (1 : Int32))])) _
        refine XS.icmpNo X23.here hx rfl (hb hby at_45) rfl (teq (by decide : ((1 : Int32) = (1 : Int32)))).2 ?_
        show Steps p.tables e below (T23.setTop (mkF m 48 #[.val (.int p0), .val (.int ((p0 &&& (2147483647 : Int32)) % (5 : Int32))), .val (.ref s_FEED), .val (.int (0 : Int32)), .val (.int (1 : Int32))] [])) _
        refine XS.iconst X23.here hx rfl (hb hby at_48) ?_
        show Steps p.tables e below (T23.setTop (mkF m 49 #[.val (.int p0), .val (.int ((p0 &&& (2147483647 : Int32)) % (5 : Int32))), .val (.ref s_FEED), .val (.int (0 : Int32)), .val (.int (1 : Int32))] [(.int (1 : Int32))])) _
        refine XS.goto X23.here hx rfl (pc0 := 49) (pc' := 53) rfl (hb hby at_49) (by decide) (by decide) ?_
        show Steps p.tables e below (T23.setTop (mkF m 53 #[.val (.int p0), .val (.int ((p0 &&& (2147483647 : Int32)) % (5 : Int32))), .val (.ref s_FEED), .val (.int (0 : Int32)), .val (.int (1 : Int32))] [(.int (1 : Int32))])) _
        exact k
      obtain ⟨fs, hr, hrun, hended, hW, hsame⟩ := X23.leave (v := some (.int (1 : Int32))) (fun h => by rw [Bd.returns] at h; cases h)
      refine Go.mk' ⟨_, _, retN X23 hx (t := .boolean) Bd.returns (by simp) (hb hby at_53) hr, hrun, hended, _, _, rfl, ?_, ⟨_, rfl⟩, hW, hsame.mono (by decide) (by decide)⟩
      show Q0 Z p0 h0 n0 _ T23.heap _
      rw [e23]
      exact ⟨rfl, N23⟩
    · by_cases hc25 : ((p0 &&& (2147483647 : Int32)) % (5 : Int32)) = (2 : Int32)
      · have r26 : (f1 s_INBOX s_END s_FEED s_OPERATOR s_CLOCK ((p0 &&& (2147483647 : Int32)) % (5 : Int32))) = s_CLOCK := by rw [f1, if_neg hc17, if_neg hc21, if_pos hc25]
        rw [r26]
        refine Go.st (V' := T16.setTop (mkF m 40 #[.val (.int p0), .val (.int ((p0 &&& (2147483647 : Int32)) % (5 : Int32))), .val (.ref s_CLOCK), .val (.int (1 : Int32)), .val (.int (0 : Int32))] [(.ref s_CLOCK)])) (fun t k => ?_) ?_
        · refine XS.astoreN X16.here hx rfl (hb hby at_11) rfl rfl (l' := #[.val (.int p0), .val (.int ((p0 &&& (2147483647 : Int32)) % (5 : Int32))), .val (.ref s_CLOCK), .unset, .unset]) rfl ?_
          show Steps p.tables e below (T16.setTop (mkF m 12 #[.val (.int p0), .val (.int ((p0 &&& (2147483647 : Int32)) % (5 : Int32))), .val (.ref s_CLOCK), .unset, .unset] [])) _
          refine XS.iloadN X16.here hx rfl (hb hby at_12) rfl  ?_
          show Steps p.tables e below (T16.setTop (mkF m 13 #[.val (.int p0), .val (.int ((p0 &&& (2147483647 : Int32)) % (5 : Int32))), .val (.ref s_CLOCK), .unset, .unset] [(.int ((p0 &&& (2147483647 : Int32)) % (5 : Int32)))])) _
          refine XS.iconst X16.here hx rfl (hb hby at_13) ?_
          show Steps p.tables e below (T16.setTop (mkF m 14 #[.val (.int p0), .val (.int ((p0 &&& (2147483647 : Int32)) % (5 : Int32))), .val (.ref s_CLOCK), .unset, .unset] [(.int (2 : Int32)), (.int ((p0 &&& (2147483647 : Int32)) % (5 : Int32)))])) _
          refine XS.icmpYes X16.here hx rfl (pc0 := 14) (pc' := 22) rfl (hb hby at_14) rfl (teq hc25).1 (by decide) (by decide) ?_
          show Steps p.tables e below (T16.setTop (mkF m 22 #[.val (.int p0), .val (.int ((p0 &&& (2147483647 : Int32)) % (5 : Int32))), .val (.ref s_CLOCK), .unset, .unset] [])) _
          refine XS.iconst X16.here hx rfl (hb hby at_22) ?_
          show Steps p.tables e below (T16.setTop (mkF m 23 #[.val (.int p0), .val (.int ((p0 &&& (2147483647 : Int32)) % (5 : Int32))), .val (.ref s_CLOCK), .unset, .unset] [(.int (1 : Int32))])) _
          refine XS.goto X16.here hx rfl (pc0 := 23) (pc' := 27) rfl (hb hby at_23) (by decide) (by decide) ?_
          show Steps p.tables e below (T16.setTop (mkF m 27 #[.val (.int p0), .val (.int ((p0 &&& (2147483647 : Int32)) % (5 : Int32))), .val (.ref s_CLOCK), .unset, .unset] [(.int (1 : Int32))])) _
          refine XS.istoreN X16.here hx rfl (hb hby at_27) rfl (l' := #[.val (.int p0), .val (.int ((p0 &&& (2147483647 : Int32)) % (5 : Int32))), .val (.ref s_CLOCK), .val (.int (1 : Int32)), .unset]) rfl ?_
          show Steps p.tables e below (T16.setTop (mkF m 28 #[.val (.int p0), .val (.int ((p0 &&& (2147483647 : Int32)) % (5 : Int32))), .val (.ref s_CLOCK), .val (.int (1 : Int32)), .unset] [])) _
          refine XS.iloadN X16.here hx rfl (hb hby at_28) rfl  ?_
          show Steps p.tables e below (T16.setTop (mkF m 29 #[.val (.int p0), .val (.int ((p0 &&& (2147483647 : Int32)) % (5 : Int32))), .val (.ref s_CLOCK), .val (.int (1 : Int32)), .unset] [(.int (1 : Int32))])) _
          refine XS.ifYes X16.here hx rfl (pc0 := 29) (pc' := 36) rfl (hb hby at_29) rfl ((if0 _ _).trans (feq (by decide : ¬ ((1 : Int32) = (0 : Int32)))).2) (by decide) (by decide) ?_
          show Steps p.tables e below (T16.setTop (mkF m 36 #[.val (.int p0), .val (.int ((p0 &&& (2147483647 : Int32)) % (5 : Int32))), .val (.ref s_CLOCK), .val (.int (1 : Int32)), .unset] [])) _
          refine XS.iconst X16.here hx rfl (hb hby at_36) ?_
          show Steps p.tables e below (T16.setTop (mkF m 37 #[.val (.int p0), .val (.int ((p0 &&& (2147483647 : Int32)) % (5 : Int32))), .val (.ref s_CLOCK), .val (.int (1 : Int32)), .unset] [(.int (0 : Int32))])) _
          refine XS.istore X16.here hx rfl (hb hby at_37) rfl (l' := #[.val (.int p0), .val (.int ((p0 &&& (2147483647 : Int32)) % (5 : Int32))), .val (.ref s_CLOCK), .val (.int (1 : Int32)), .val (.int (0 : Int32))]) rfl ?_
          show Steps p.tables e below (T16.setTop (mkF m 39 #[.val (.int p0), .val (.int ((p0 &&& (2147483647 : Int32)) % (5 : Int32))), .val (.ref s_CLOCK), .val (.int (1 : Int32)), .val (.int (0 : Int32))] [])) _
          refine XS.aloadN X16.here hx rfl (hb hby at_39) rfl rfl ?_
          show Steps p.tables e below (T16.setTop (mkF m 40 #[.val (.int p0), .val (.int ((p0 &&& (2147483647 : Int32)) % (5 : Int32))), .val (.ref s_CLOCK), .val (.int (1 : Int32)), .val (.int (0 : Int32))] [(.ref s_CLOCK)])) _
          exact k
        obtain ⟨cq27, kq27, q27a, q27b, q27c⟩ := isOf hZ e16 (E_CLOCK.ext O0.2)
        obtain ⟨_, _, ⟨T27, L27, k27, n27⟩, -, X27, ⟨Lc27, hQ27, l27, y27, z27⟩, st27⟩ := X16.virtualBack hx (y := (⟨"com/example/settlewire/settlewire/files/Journal$Origin", "isMessage", "()Z"⟩ : MethodName)) (z := (⟨"com/example/settlewire/settlewire/files/Journal$Origin", "isMessage", "()Z"⟩ : MethodName)) hown (mvT hZ (hw _ (List.mem_of_getElem? (i := 8) rfl))) (mvT hZ (hw _ (List.mem_of_getElem? (i := 9) rfl))) (notFace_of_selects (args := #[]) (mvT hZ (hw _ (List.mem_of_getElem? (i := 11) rfl)))) (mvT hZ (hw _ (List.mem_of_getElem? (i := 11) rfl))) (mvT hZ (hw _ (List.mem_of_getElem? (i := 10) rfl))) (by decide) (backOf (W := 0) (rm2 l Z a0 hw [] s_INBOX s_END s_FEED s_OPERATOR s_CLOCK HW s_CLOCK h0 n0 O0) hZ (hw _ (List.mem_of_getElem? (i := 12) rfl)) (hw _ (List.mem_of_getElem? (i := 6) rfl)) (by decide) (by decide)) q27a q27c (g := (mkF m 40 #[.val (.int p0), .val (.int ((p0 &&& (2147483647 : Int32)) % (5 : Int32))), .val (.ref s_CLOCK), .val (.int (1 : Int32)), .val (.int (0 : Int32))] [(.ref s_CLOCK)])) rfl (by rw [hml]; rfl) (Steps.refl _) (argsL := []) (rest := []) (lenOf own_pd35 rfl) rfl (by show 2 * 0 + _ ≤ _; exact Nat.le_of_eq rfl) (hb hby at_40) (fun _ _ => ⟨rfl, e16, (by decide : 0 + 0 ≤ _), (by decide : 0 + 0 ≤ _)⟩)
        dsimp only [Pt.U, Pt.locs, Pt.cells, Pt.slots] at X27 l27 y27 z27 st27 hQ27
        subst l27 y27 z27
        obtain ⟨rfl, N27q, e27⟩ := hQ27
        have N27 := Fr.app N16 N27q
        refine Go.st (V' := T27.setTop (mkF m 43 #[.val (.int p0), .val (.int ((p0 &&& (2147483647 : Int32)) % (5 : Int32))), .val (.ref s_CLOCK), .val (.int (1 : Int32)), .val (.int (0 : Int32))] [(.int (f2 s_INBOX s_FEED s_OPERATOR s_CLOCK))])) (fun t k => st27.trans k) ?_
        have r28 : (f2 s_INBOX s_FEED s_OPERATOR s_CLOCK) = (0 : Int32) := by rw [f2, if_neg (Fld.ne (F_CLOCK_ordinal.ext O0.2) (F_INBOX_ordinal.ext O0.2) (by decide)), if_neg (Fld.ne (F_CLOCK_ordinal.ext O0.2) (F_FEED_ordinal.ext O0.2) (by decide)), if_neg (Fld.ne (F_CLOCK_ordinal.ext O0.2) (F_OPERATOR_ordinal.ext O0.2) (by decide))]
        rw [r28]
        refine Go.st (V' := T27.setTop (mkF m 53 #[.val (.int p0), .val (.int ((p0 &&& (2147483647 : Int32)) % (5 : Int32))), .val (.ref s_CLOCK), .val (.int (1 : Int32)), .val (.int (0 : Int32))] [(.int (1 : Int32))])) (fun t k => ?_) ?_
        · refine XS.iload X27.here hx rfl (hb hby at_43) rfl  ?_
          show Steps p.tables e below (T27.setTop (mkF m 45 #[.val (.int p0), .val (.int ((p0 &&& (2147483647 : Int32)) % (5 : Int32))), .val (.ref s_CLOCK), .val (.int (1 : Int32)), .val (.int (0 : Int32))] [(.int (0 : Int32)), (.int (0 : Int32))])) _
          refine XS.icmpNo X27.here hx rfl (hb hby at_45) rfl (teq (by decide : ((0 : Int32) = (0 : Int32)))).2 ?_
          show Steps p.tables e below (T27.setTop (mkF m 48 #[.val (.int p0), .val (.int ((p0 &&& (2147483647 : Int32)) % (5 : Int32))), .val (.ref s_CLOCK), .val (.int (1 : Int32)), .val (.int (0 : Int32))] [])) _
          refine XS.iconst X27.here hx rfl (hb hby at_48) ?_
          show Steps p.tables e below (T27.setTop (mkF m 49 #[.val (.int p0), .val (.int ((p0 &&& (2147483647 : Int32)) % (5 : Int32))), .val (.ref s_CLOCK), .val (.int (1 : Int32)), .val (.int (0 : Int32))] [(.int (1 : Int32))])) _
          refine XS.goto X27.here hx rfl (pc0 := 49) (pc' := 53) rfl (hb hby at_49) (by decide) (by decide) ?_
          show Steps p.tables e below (T27.setTop (mkF m 53 #[.val (.int p0), .val (.int ((p0 &&& (2147483647 : Int32)) % (5 : Int32))), .val (.ref s_CLOCK), .val (.int (1 : Int32)), .val (.int (0 : Int32))] [(.int (1 : Int32))])) _
          exact k
        obtain ⟨fs, hr, hrun, hended, hW, hsame⟩ := X27.leave (v := some (.int (1 : Int32))) (fun h => by rw [Bd.returns] at h; cases h)
        refine Go.mk' ⟨_, _, retN X27 hx (t := .boolean) Bd.returns (by simp) (hb hby at_53) hr, hrun, hended, _, _, rfl, ?_, ⟨_, rfl⟩, hW, hsame.mono (by decide) (by decide)⟩
        show Q0 Z p0 h0 n0 _ T27.heap _
        rw [e27]
        exact ⟨rfl, N27⟩
      · by_cases hc29 : ((p0 &&& (2147483647 : Int32)) % (5 : Int32)) = (3 : Int32)
        · have r30 : (f1 s_INBOX s_END s_FEED s_OPERATOR s_CLOCK ((p0 &&& (2147483647 : Int32)) % (5 : Int32))) = s_END := by rw [f1, if_neg hc17, if_neg hc21, if_neg hc25, if_pos hc29]
          rw [r30]
          refine Go.st (V' := T16.setTop (mkF m 40 #[.val (.int p0), .val (.int ((p0 &&& (2147483647 : Int32)) % (5 : Int32))), .val (.ref s_END), .val (.int (1 : Int32)), .val (.int (0 : Int32))] [(.ref s_END)])) (fun t k => ?_) ?_
          · refine XS.astoreN X16.here hx rfl (hb hby at_11) rfl rfl (l' := #[.val (.int p0), .val (.int ((p0 &&& (2147483647 : Int32)) % (5 : Int32))), .val (.ref s_END), .unset, .unset]) rfl ?_
            show Steps p.tables e below (T16.setTop (mkF m 12 #[.val (.int p0), .val (.int ((p0 &&& (2147483647 : Int32)) % (5 : Int32))), .val (.ref s_END), .unset, .unset] [])) _
            refine XS.iloadN X16.here hx rfl (hb hby at_12) rfl  ?_
            show Steps p.tables e below (T16.setTop (mkF m 13 #[.val (.int p0), .val (.int ((p0 &&& (2147483647 : Int32)) % (5 : Int32))), .val (.ref s_END), .unset, .unset] [(.int ((p0 &&& (2147483647 : Int32)) % (5 : Int32)))])) _
            refine XS.iconst X16.here hx rfl (hb hby at_13) ?_
            show Steps p.tables e below (T16.setTop (mkF m 14 #[.val (.int p0), .val (.int ((p0 &&& (2147483647 : Int32)) % (5 : Int32))), .val (.ref s_END), .unset, .unset] [(.int (2 : Int32)), (.int ((p0 &&& (2147483647 : Int32)) % (5 : Int32)))])) _
            refine XS.icmpNo X16.here hx rfl (hb hby at_14) rfl (feq hc25).1 ?_
            show Steps p.tables e below (T16.setTop (mkF m 17 #[.val (.int p0), .val (.int ((p0 &&& (2147483647 : Int32)) % (5 : Int32))), .val (.ref s_END), .unset, .unset] [])) _
            refine XS.iloadN X16.here hx rfl (hb hby at_17) rfl  ?_
            show Steps p.tables e below (T16.setTop (mkF m 18 #[.val (.int p0), .val (.int ((p0 &&& (2147483647 : Int32)) % (5 : Int32))), .val (.ref s_END), .unset, .unset] [(.int ((p0 &&& (2147483647 : Int32)) % (5 : Int32)))])) _
            refine XS.iconst X16.here hx rfl (hb hby at_18) ?_
            show Steps p.tables e below (T16.setTop (mkF m 19 #[.val (.int p0), .val (.int ((p0 &&& (2147483647 : Int32)) % (5 : Int32))), .val (.ref s_END), .unset, .unset] [(.int (3 : Int32)), (.int ((p0 &&& (2147483647 : Int32)) % (5 : Int32)))])) _
            refine XS.icmpNo X16.here hx rfl (hb hby at_19) rfl (teq hc29).2 ?_
            show Steps p.tables e below (T16.setTop (mkF m 22 #[.val (.int p0), .val (.int ((p0 &&& (2147483647 : Int32)) % (5 : Int32))), .val (.ref s_END), .unset, .unset] [])) _
            refine XS.iconst X16.here hx rfl (hb hby at_22) ?_
            show Steps p.tables e below (T16.setTop (mkF m 23 #[.val (.int p0), .val (.int ((p0 &&& (2147483647 : Int32)) % (5 : Int32))), .val (.ref s_END), .unset, .unset] [(.int (1 : Int32))])) _
            refine XS.goto X16.here hx rfl (pc0 := 23) (pc' := 27) rfl (hb hby at_23) (by decide) (by decide) ?_
            show Steps p.tables e below (T16.setTop (mkF m 27 #[.val (.int p0), .val (.int ((p0 &&& (2147483647 : Int32)) % (5 : Int32))), .val (.ref s_END), .unset, .unset] [(.int (1 : Int32))])) _
            refine XS.istoreN X16.here hx rfl (hb hby at_27) rfl (l' := #[.val (.int p0), .val (.int ((p0 &&& (2147483647 : Int32)) % (5 : Int32))), .val (.ref s_END), .val (.int (1 : Int32)), .unset]) rfl ?_
            show Steps p.tables e below (T16.setTop (mkF m 28 #[.val (.int p0), .val (.int ((p0 &&& (2147483647 : Int32)) % (5 : Int32))), .val (.ref s_END), .val (.int (1 : Int32)), .unset] [])) _
            refine XS.iloadN X16.here hx rfl (hb hby at_28) rfl  ?_
            show Steps p.tables e below (T16.setTop (mkF m 29 #[.val (.int p0), .val (.int ((p0 &&& (2147483647 : Int32)) % (5 : Int32))), .val (.ref s_END), .val (.int (1 : Int32)), .unset] [(.int (1 : Int32))])) _
            refine XS.ifYes X16.here hx rfl (pc0 := 29) (pc' := 36) rfl (hb hby at_29) rfl ((if0 _ _).trans (feq (by decide : ¬ ((1 : Int32) = (0 : Int32)))).2) (by decide) (by decide) ?_
            show Steps p.tables e below (T16.setTop (mkF m 36 #[.val (.int p0), .val (.int ((p0 &&& (2147483647 : Int32)) % (5 : Int32))), .val (.ref s_END), .val (.int (1 : Int32)), .unset] [])) _
            refine XS.iconst X16.here hx rfl (hb hby at_36) ?_
            show Steps p.tables e below (T16.setTop (mkF m 37 #[.val (.int p0), .val (.int ((p0 &&& (2147483647 : Int32)) % (5 : Int32))), .val (.ref s_END), .val (.int (1 : Int32)), .unset] [(.int (0 : Int32))])) _
            refine XS.istore X16.here hx rfl (hb hby at_37) rfl (l' := #[.val (.int p0), .val (.int ((p0 &&& (2147483647 : Int32)) % (5 : Int32))), .val (.ref s_END), .val (.int (1 : Int32)), .val (.int (0 : Int32))]) rfl ?_
            show Steps p.tables e below (T16.setTop (mkF m 39 #[.val (.int p0), .val (.int ((p0 &&& (2147483647 : Int32)) % (5 : Int32))), .val (.ref s_END), .val (.int (1 : Int32)), .val (.int (0 : Int32))] [])) _
            refine XS.aloadN X16.here hx rfl (hb hby at_39) rfl rfl ?_
            show Steps p.tables e below (T16.setTop (mkF m 40 #[.val (.int p0), .val (.int ((p0 &&& (2147483647 : Int32)) % (5 : Int32))), .val (.ref s_END), .val (.int (1 : Int32)), .val (.int (0 : Int32))] [(.ref s_END)])) _
            exact k
          obtain ⟨cq31, kq31, q31a, q31b, q31c⟩ := isOf hZ e16 (E_END.ext O0.2)
          obtain ⟨_, _, ⟨T31, L31, k31, n31⟩, -, X31, ⟨Lc31, hQ31, l31, y31, z31⟩, st31⟩ := X16.virtualBack hx (y := (⟨"com/example/settlewire/settlewire/files/Journal$Origin", "isMessage", "()Z"⟩ : MethodName)) (z := (⟨"com/example/settlewire/settlewire/files/Journal$Origin", "isMessage", "()Z"⟩ : MethodName)) hown (mvT hZ (hw _ (List.mem_of_getElem? (i := 8) rfl))) (mvT hZ (hw _ (List.mem_of_getElem? (i := 9) rfl))) (notFace_of_selects (args := #[]) (mvT hZ (hw _ (List.mem_of_getElem? (i := 11) rfl)))) (mvT hZ (hw _ (List.mem_of_getElem? (i := 11) rfl))) (mvT hZ (hw _ (List.mem_of_getElem? (i := 10) rfl))) (by decide) (backOf (W := 0) (rm2 l Z a0 hw [] s_INBOX s_END s_FEED s_OPERATOR s_CLOCK HW s_END h0 n0 O0) hZ (hw _ (List.mem_of_getElem? (i := 12) rfl)) (hw _ (List.mem_of_getElem? (i := 6) rfl)) (by decide) (by decide)) q31a q31c (g := (mkF m 40 #[.val (.int p0), .val (.int ((p0 &&& (2147483647 : Int32)) % (5 : Int32))), .val (.ref s_END), .val (.int (1 : Int32)), .val (.int (0 : Int32))] [(.ref s_END)])) rfl (by rw [hml]; rfl) (Steps.refl _) (argsL := []) (rest := []) (lenOf own_pd35 rfl) rfl (by show 2 * 0 + _ ≤ _; exact Nat.le_of_eq rfl) (hb hby at_40) (fun _ _ => ⟨rfl, e16, (by decide : 0 + 0 ≤ _), (by decide : 0 + 0 ≤ _)⟩)
          dsimp only [Pt.U, Pt.locs, Pt.cells, Pt.slots] at X31 l31 y31 z31 st31 hQ31
          subst l31 y31 z31
          obtain ⟨rfl, N31q, e31⟩ := hQ31
          have N31 := Fr.app N16 N31q
          refine Go.st (V' := T31.setTop (mkF m 43 #[.val (.int p0), .val (.int ((p0 &&& (2147483647 : Int32)) % (5 : Int32))), .val (.ref s_END), .val (.int (1 : Int32)), .val (.int (0 : Int32))] [(.int (f2 s_INBOX s_FEED s_OPERATOR s_END))])) (fun t k => st31.trans k) ?_
          have r32 : (f2 s_INBOX s_FEED s_OPERATOR s_END) = (0 : Int32) := by rw [f2, if_neg (Fld.ne (F_END_ordinal.ext O0.2) (F_INBOX_ordinal.ext O0.2) (by decide)), if_neg (Fld.ne (F_END_ordinal.ext O0.2) (F_FEED_ordinal.ext O0.2) (by decide)), if_neg (Fld.ne (F_END_ordinal.ext O0.2) (F_OPERATOR_ordinal.ext O0.2) (by decide))]
          rw [r32]
          refine Go.st (V' := T31.setTop (mkF m 53 #[.val (.int p0), .val (.int ((p0 &&& (2147483647 : Int32)) % (5 : Int32))), .val (.ref s_END), .val (.int (1 : Int32)), .val (.int (0 : Int32))] [(.int (1 : Int32))])) (fun t k => ?_) ?_
          · refine XS.iload X31.here hx rfl (hb hby at_43) rfl  ?_
            show Steps p.tables e below (T31.setTop (mkF m 45 #[.val (.int p0), .val (.int ((p0 &&& (2147483647 : Int32)) % (5 : Int32))), .val (.ref s_END), .val (.int (1 : Int32)), .val (.int (0 : Int32))] [(.int (0 : Int32)), (.int (0 : Int32))])) _
            refine XS.icmpNo X31.here hx rfl (hb hby at_45) rfl (teq (by decide : ((0 : Int32) = (0 : Int32)))).2 ?_
            show Steps p.tables e below (T31.setTop (mkF m 48 #[.val (.int p0), .val (.int ((p0 &&& (2147483647 : Int32)) % (5 : Int32))), .val (.ref s_END), .val (.int (1 : Int32)), .val (.int (0 : Int32))] [])) _
            refine XS.iconst X31.here hx rfl (hb hby at_48) ?_
            show Steps p.tables e below (T31.setTop (mkF m 49 #[.val (.int p0), .val (.int ((p0 &&& (2147483647 : Int32)) % (5 : Int32))), .val (.ref s_END), .val (.int (1 : Int32)), .val (.int (0 : Int32))] [(.int (1 : Int32))])) _
            refine XS.goto X31.here hx rfl (pc0 := 49) (pc' := 53) rfl (hb hby at_49) (by decide) (by decide) ?_
            show Steps p.tables e below (T31.setTop (mkF m 53 #[.val (.int p0), .val (.int ((p0 &&& (2147483647 : Int32)) % (5 : Int32))), .val (.ref s_END), .val (.int (1 : Int32)), .val (.int (0 : Int32))] [(.int (1 : Int32))])) _
            exact k
          obtain ⟨fs, hr, hrun, hended, hW, hsame⟩ := X31.leave (v := some (.int (1 : Int32))) (fun h => by rw [Bd.returns] at h; cases h)
          refine Go.mk' ⟨_, _, retN X31 hx (t := .boolean) Bd.returns (by simp) (hb hby at_53) hr, hrun, hended, _, _, rfl, ?_, ⟨_, rfl⟩, hW, hsame.mono (by decide) (by decide)⟩
          show Q0 Z p0 h0 n0 _ T31.heap _
          rw [e31]
          exact ⟨rfl, N31⟩
        · have r33 : (f1 s_INBOX s_END s_FEED s_OPERATOR s_CLOCK ((p0 &&& (2147483647 : Int32)) % (5 : Int32))) = s_OPERATOR := by rw [f1, if_neg hc17, if_neg hc21, if_neg hc25, if_neg hc29]
          rw [r33]
          refine Go.st (V' := T16.setTop (mkF m 40 #[.val (.int p0), .val (.int ((p0 &&& (2147483647 : Int32)) % (5 : Int32))), .val (.ref s_OPERATOR), .val (.int (0 : Int32)), .val (.int (1 : Int32))] [(.ref s_OPERATOR)])) (fun t k => ?_) ?_
          · refine XS.astoreN X16.here hx rfl (hb hby at_11) rfl rfl (l' := #[.val (.int p0), .val (.int ((p0 &&& (2147483647 : Int32)) % (5 : Int32))), .val (.ref s_OPERATOR), .unset, .unset]) rfl ?_
            show Steps p.tables e below (T16.setTop (mkF m 12 #[.val (.int p0), .val (.int ((p0 &&& (2147483647 : Int32)) % (5 : Int32))), .val (.ref s_OPERATOR), .unset, .unset] [])) _
            refine XS.iloadN X16.here hx rfl (hb hby at_12) rfl  ?_
            show Steps p.tables e below (T16.setTop (mkF m 13 #[.val (.int p0), .val (.int ((p0 &&& (2147483647 : Int32)) % (5 : Int32))), .val (.ref s_OPERATOR), .unset, .unset] [(.int ((p0 &&& (2147483647 : Int32)) % (5 : Int32)))])) _
            refine XS.iconst X16.here hx rfl (hb hby at_13) ?_
            show Steps p.tables e below (T16.setTop (mkF m 14 #[.val (.int p0), .val (.int ((p0 &&& (2147483647 : Int32)) % (5 : Int32))), .val (.ref s_OPERATOR), .unset, .unset] [(.int (2 : Int32)), (.int ((p0 &&& (2147483647 : Int32)) % (5 : Int32)))])) _
            refine XS.icmpNo X16.here hx rfl (hb hby at_14) rfl (feq hc25).1 ?_
            show Steps p.tables e below (T16.setTop (mkF m 17 #[.val (.int p0), .val (.int ((p0 &&& (2147483647 : Int32)) % (5 : Int32))), .val (.ref s_OPERATOR), .unset, .unset] [])) _
            refine XS.iloadN X16.here hx rfl (hb hby at_17) rfl  ?_
            show Steps p.tables e below (T16.setTop (mkF m 18 #[.val (.int p0), .val (.int ((p0 &&& (2147483647 : Int32)) % (5 : Int32))), .val (.ref s_OPERATOR), .unset, .unset] [(.int ((p0 &&& (2147483647 : Int32)) % (5 : Int32)))])) _
            refine XS.iconst X16.here hx rfl (hb hby at_18) ?_
            show Steps p.tables e below (T16.setTop (mkF m 19 #[.val (.int p0), .val (.int ((p0 &&& (2147483647 : Int32)) % (5 : Int32))), .val (.ref s_OPERATOR), .unset, .unset] [(.int (3 : Int32)), (.int ((p0 &&& (2147483647 : Int32)) % (5 : Int32)))])) _
            refine XS.icmpYes X16.here hx rfl (pc0 := 19) (pc' := 26) rfl (hb hby at_19) rfl (feq hc29).2 (by decide) (by decide) ?_
            show Steps p.tables e below (T16.setTop (mkF m 26 #[.val (.int p0), .val (.int ((p0 &&& (2147483647 : Int32)) % (5 : Int32))), .val (.ref s_OPERATOR), .unset, .unset] [])) _
            refine XS.iconst X16.here hx rfl (hb hby at_26) ?_
            show Steps p.tables e below (T16.setTop (mkF m 27 #[.val (.int p0), .val (.int ((p0 &&& (2147483647 : Int32)) % (5 : Int32))), .val (.ref s_OPERATOR), .unset, .unset] [(.int (0 : Int32))])) _
            refine XS.istoreN X16.here hx rfl (hb hby at_27) rfl (l' := #[.val (.int p0), .val (.int ((p0 &&& (2147483647 : Int32)) % (5 : Int32))), .val (.ref s_OPERATOR), .val (.int (0 : Int32)), .unset]) rfl ?_
            show Steps p.tables e below (T16.setTop (mkF m 28 #[.val (.int p0), .val (.int ((p0 &&& (2147483647 : Int32)) % (5 : Int32))), .val (.ref s_OPERATOR), .val (.int (0 : Int32)), .unset] [])) _
            refine XS.iloadN X16.here hx rfl (hb hby at_28) rfl  ?_
            show Steps p.tables e below (T16.setTop (mkF m 29 #[.val (.int p0), .val (.int ((p0 &&& (2147483647 : Int32)) % (5 : Int32))), .val (.ref s_OPERATOR), .val (.int (0 : Int32)), .unset] [(.int (0 : Int32))])) _
            refine XS.ifNo X16.here hx rfl (hb hby at_29) rfl ((if0 _ _).trans (teq (by decide : ((0 : Int32) = (0 : Int32)))).2) ?_
            show Steps p.tables e below (T16.setTop (mkF m 32 #[.val (.int p0), .val (.int ((p0 &&& (2147483647 : Int32)) % (5 : Int32))), .val (.ref s_OPERATOR), .val (.int (0 : Int32)), .unset] [])) _
            refine XS.iconst X16.here hx rfl (hb hby at_32) ?_
            show Steps p.tables e below (T16.setTop (mkF m 33 #[.val (.int p0), .val (.int ((p0 &&& (2147483647 : Int32)) % (5 : Int32))), .val (.ref s_OPERATOR), .val (.int (0 : Int32)), .unset] [(.int (1 : Int32))])) _
            refine XS.goto X16.here hx rfl (pc0 := 33) (pc' := 37) rfl (hb hby at_33) (by decide) (by decide) ?_
            show Steps p.tables e below (T16.setTop (mkF m 37 #[.val (.int p0), .val (.int ((p0 &&& (2147483647 : Int32)) % (5 : Int32))), .val (.ref s_OPERATOR), .val (.int (0 : Int32)), .unset] [(.int (1 : Int32))])) _
            refine XS.istore X16.here hx rfl (hb hby at_37) rfl (l' := #[.val (.int p0), .val (.int ((p0 &&& (2147483647 : Int32)) % (5 : Int32))), .val (.ref s_OPERATOR), .val (.int (0 : Int32)), .val (.int (1 : Int32))]) rfl ?_
            show Steps p.tables e below (T16.setTop (mkF m 39 #[.val (.int p0), .val (.int ((p0 &&& (2147483647 : Int32)) % (5 : Int32))), .val (.ref s_OPERATOR), .val (.int (0 : Int32)), .val (.int (1 : Int32))] [])) _
            refine XS.aloadN X16.here hx rfl (hb hby at_39) rfl rfl ?_
            show Steps p.tables e below (T16.setTop (mkF m 40 #[.val (.int p0), .val (.int ((p0 &&& (2147483647 : Int32)) % (5 : Int32))), .val (.ref s_OPERATOR), .val (.int (0 : Int32)), .val (.int (1 : Int32))] [(.ref s_OPERATOR)])) _
            exact k
          obtain ⟨cq34, kq34, q34a, q34b, q34c⟩ := isOf hZ e16 (E_OPERATOR.ext O0.2)
          obtain ⟨_, _, ⟨T34, L34, k34, n34⟩, -, X34, ⟨Lc34, hQ34, l34, y34, z34⟩, st34⟩ := X16.virtualBack hx (y := (⟨"com/example/settlewire/settlewire/files/Journal$Origin", "isMessage", "()Z"⟩ : MethodName)) (z := (⟨"com/example/settlewire/settlewire/files/Journal$Origin", "isMessage", "()Z"⟩ : MethodName)) hown (mvT hZ (hw _ (List.mem_of_getElem? (i := 8) rfl))) (mvT hZ (hw _ (List.mem_of_getElem? (i := 9) rfl))) (notFace_of_selects (args := #[]) (mvT hZ (hw _ (List.mem_of_getElem? (i := 11) rfl)))) (mvT hZ (hw _ (List.mem_of_getElem? (i := 11) rfl))) (mvT hZ (hw _ (List.mem_of_getElem? (i := 10) rfl))) (by decide) (backOf (W := 0) (rm2 l Z a0 hw [] s_INBOX s_END s_FEED s_OPERATOR s_CLOCK HW s_OPERATOR h0 n0 O0) hZ (hw _ (List.mem_of_getElem? (i := 12) rfl)) (hw _ (List.mem_of_getElem? (i := 6) rfl)) (by decide) (by decide)) q34a q34c (g := (mkF m 40 #[.val (.int p0), .val (.int ((p0 &&& (2147483647 : Int32)) % (5 : Int32))), .val (.ref s_OPERATOR), .val (.int (0 : Int32)), .val (.int (1 : Int32))] [(.ref s_OPERATOR)])) rfl (by rw [hml]; rfl) (Steps.refl _) (argsL := []) (rest := []) (lenOf own_pd35 rfl) rfl (by show 2 * 0 + _ ≤ _; exact Nat.le_of_eq rfl) (hb hby at_40) (fun _ _ => ⟨rfl, e16, (by decide : 0 + 0 ≤ _), (by decide : 0 + 0 ≤ _)⟩)
          dsimp only [Pt.U, Pt.locs, Pt.cells, Pt.slots] at X34 l34 y34 z34 st34 hQ34
          subst l34 y34 z34
          obtain ⟨rfl, N34q, e34⟩ := hQ34
          have N34 := Fr.app N16 N34q
          refine Go.st (V' := T34.setTop (mkF m 43 #[.val (.int p0), .val (.int ((p0 &&& (2147483647 : Int32)) % (5 : Int32))), .val (.ref s_OPERATOR), .val (.int (0 : Int32)), .val (.int (1 : Int32))] [(.int (f2 s_INBOX s_FEED s_OPERATOR s_OPERATOR))])) (fun t k => st34.trans k) ?_
          have r35 : (f2 s_INBOX s_FEED s_OPERATOR s_OPERATOR) = (1 : Int32) := by rw [f2, if_neg (Fld.ne (F_OPERATOR_ordinal.ext O0.2) (F_INBOX_ordinal.ext O0.2) (by decide)), if_neg (Fld.ne (F_OPERATOR_ordinal.ext O0.2) (F_FEED_ordinal.ext O0.2) (by decide)), if_pos (rfl : s_OPERATOR = s_OPERATOR)]
          rw [r35]
          refine Go.st (V' := T34.setTop (mkF m 53 #[.val (.int p0), .val (.int ((p0 &&& (2147483647 : Int32)) % (5 : Int32))), .val (.ref s_OPERATOR), .val (.int (0 : Int32)), .val (.int (1 : Int32))] [(.int (1 : Int32))])) (fun t k => ?_) ?_
          · refine XS.iload X34.here hx rfl (hb hby at_43) rfl  ?_
            show Steps p.tables e below (T34.setTop (mkF m 45 #[.val (.int p0), .val (.int ((p0 &&& (2147483647 : Int32)) % (5 : Int32))), .val (.ref s_OPERATOR), .val (.int (0 : Int32)), .val (.int (1 : Int32))] [(.int (1 : Int32)), (.int (1 : Int32))])) _
            refine XS.icmpNo X34.here hx rfl (hb hby at_45) rfl (teq (by decide : ((1 : Int32) = (1 : Int32)))).2 ?_
            show Steps p.tables e below (T34.setTop (mkF m 48 #[.val (.int p0), .val (.int ((p0 &&& (2147483647 : Int32)) % (5 : Int32))), .val (.ref s_OPERATOR), .val (.int (0 : Int32)), .val (.int (1 : Int32))] [])) _
            refine XS.iconst X34.here hx rfl (hb hby at_48) ?_
            show Steps p.tables e below (T34.setTop (mkF m 49 #[.val (.int p0), .val (.int ((p0 &&& (2147483647 : Int32)) % (5 : Int32))), .val (.ref s_OPERATOR), .val (.int (0 : Int32)), .val (.int (1 : Int32))] [(.int (1 : Int32))])) _
            refine XS.goto X34.here hx rfl (pc0 := 49) (pc' := 53) rfl (hb hby at_49) (by decide) (by decide) ?_
            show Steps p.tables e below (T34.setTop (mkF m 53 #[.val (.int p0), .val (.int ((p0 &&& (2147483647 : Int32)) % (5 : Int32))), .val (.ref s_OPERATOR), .val (.int (0 : Int32)), .val (.int (1 : Int32))] [(.int (1 : Int32))])) _
            exact k
          obtain ⟨fs, hr, hrun, hended, hW, hsame⟩ := X34.leave (v := some (.int (1 : Int32))) (fun h => by rw [Bd.returns] at h; cases h)
          refine Go.mk' ⟨_, _, retN X34 hx (t := .boolean) Bd.returns (by simp) (hb hby at_53) hr, hrun, hended, _, _, rfl, ?_, ⟨_, rfl⟩, hW, hsame.mono (by decide) (by decide)⟩
          show Q0 Z p0 h0 n0 _ T34.heap _
          rw [e34]
          exact ⟨rfl, N34⟩
set_option maxRecDepth 65536 in
set_option maxHeartbeats 40000000 in
theorem comes_1 {Post : Tables → Env → Array Value → State → Outcome → State → Prop} (hpost : ∀ tb e args s v u, (limb_1_1.after args s (.returned v) u = true ∧ limb_1_2.after args s (.returned v) u = true ∧ True) → FrameEnd s (.returned v) u (Jvm.fieldLocs frame_1_writes args s ++ Jvm.arrayLocs frame_1_arrays args s ++ Jvm.staticLocs frame_1_statics s) 0 0 → Post tb e args s (.returned v) u) :
    ArmFor flags0 classFile x code maxLocals ret World_1 tables_1 room_1 Calls_1 rest_1 Pre_1 Post := by
  intro l hfl _ _ p e ha hc hk s m args below hf hA hF happ hP
  obtain ⟨hcalls, hrest, hpre⟩ := hP
  obtain ⟨-, -, -, hnamed, -, -, -, hat⟩ := (Spec.applies_iff hf).mp happ
  obtain ⟨hg, hn⟩ := and_e (Cond.before_iff.mp (show (Jvm.Cond.and given_1 narrow_1).before args s = true from hpre))
  obtain ⟨gg0, hg⟩ := and_e hg
  have gg1 := hg
  obtain ⟨w0, rfl⟩ : ∃ w0 : Value, args = #[w0] := by
    have hs : args.size = 1 := by simpa [Cond.value, given_1] using gg0
    obtain ⟨L⟩ := args
    match L, hs with
    | [w0], _ => exact ⟨w0, rfl⟩
  have hw := fun d (hd : d ∈ tables_1) => atoms_spec (ws := Jvm.Cond.code x code maxLocals ret :: tables_1) hat d (List.mem_cons_of_mem _ hd)
  have hfit : Fit s := fun {y c} hc i hi => by
    obtain ⟨ha, rfl⟩ := Array.getElem?_eq_some_iff.mp hc
    have q := List.all_eq_true.mp ((Array.all_eq_true_iff_forall_mem.mp hF) _ (Array.getElem_mem ha)) i (List.mem_range.mpr hi)
    simpa [Array.getElem?_eq_getElem hi] using q
  obtain ⟨i0, ei0⟩ := is_v gg1
  obtain rfl : w0 = (.int i0) := Option.some.inj ei0
  obtain ⟨c0, hn⟩ := and_e hn
  obtain ⟨c1, hn⟩ := and_e hn
  obtain ⟨c2, hn⟩ := and_e hn
  obtain ⟨c3, hn⟩ := and_e hn
  obtain ⟨c4, hn⟩ := and_e hn
  obtain ⟨c5, hn⟩ := and_e hn
  obtain ⟨c6, hn⟩ := and_e hn
  obtain ⟨c7, hn⟩ := and_e hn
  obtain ⟨c8, hn⟩ := and_e hn
  have c9 := hn
  obtain ⟨s_INBOX, ev_INBOX⟩ := exa_v c0
  have E_INBOX := Exa.start ev_INBOX c0
  have S_INBOX := Sta.start ev_INBOX (Or.inr ⟨(hw _ (List.mem_of_getElem? (i := 6) rfl)), (hw _ (List.mem_of_getElem? (i := 7) rfl))⟩)
  obtain ⟨s_END, ev_END⟩ := exa_v c1
  have E_END := Exa.start ev_END c1
  have S_END := Sta.start ev_END (Or.inr ⟨(hw _ (List.mem_of_getElem? (i := 6) rfl)), (hw _ (List.mem_of_getElem? (i := 15) rfl))⟩)
  obtain ⟨s_FEED, ev_FEED⟩ := exa_v c4
  have E_FEED := Exa.start ev_FEED c4
  have S_FEED := Sta.start ev_FEED (Or.inr ⟨(hw _ (List.mem_of_getElem? (i := 6) rfl)), (hw _ (List.mem_of_getElem? (i := 17) rfl))⟩)
  obtain ⟨s_OPERATOR, ev_OPERATOR⟩ := exa_v c6
  have E_OPERATOR := Exa.start ev_OPERATOR c6
  have S_OPERATOR := Sta.start ev_OPERATOR (Or.inr ⟨(hw _ (List.mem_of_getElem? (i := 6) rfl)), (hw _ (List.mem_of_getElem? (i := 19) rfl))⟩)
  obtain ⟨s_CLOCK, ev_CLOCK⟩ := exa_v c8
  have E_CLOCK := Exa.start ev_CLOCK c8
  have S_CLOCK := Sta.start ev_CLOCK (Or.inr ⟨(hw _ (List.mem_of_getElem? (i := 6) rfl)), (hw _ (List.mem_of_getElem? (i := 23) rfl))⟩)
  have F_END_ordinal := Fld.start ((fld_at ev_END).symm.trans (eqv_i (Term.int_eval _) c2))
  have F_INBOX_ordinal := Fld.start ((fld_at ev_INBOX).symm.trans (eqv_i (Term.int_eval _) c3))
  have F_FEED_ordinal := Fld.start ((fld_at ev_FEED).symm.trans (eqv_i (Term.int_eval _) c5))
  have F_OPERATOR_ordinal := Fld.start ((fld_at ev_OPERATOR).symm.trans (eqv_i (Term.int_eval _) c7))
  have F_CLOCK_ordinal := Fld.start ((fld_at ev_CLOCK).symm.trans (eqv_i (Term.int_eval _) c9))
  obtain ⟨n, o, h1, h2, h3, _, L, rfl, ⟨rfl, N⟩, hq⟩ := rm0 l s _ hw tables_1 s_INBOX s_END s_FEED s_OPERATOR s_CLOCK (show W0 s s_INBOX s_END s_FEED s_OPERATOR s_CLOCK from ⟨E_INBOX, S_INBOX, E_END, S_END, E_FEED, S_FEED, E_OPERATOR, S_OPERATOR, E_CLOCK, S_CLOCK, F_END_ordinal, F_INBOX_ordinal, F_FEED_ordinal, F_OPERATOR_ordinal, F_CLOCK_ordinal⟩) i0 s.heap s.heap.size (Old.start s) p e ha hc hk s m _ below hf ((Spec.applies_iff_loose hf).mp happ).1 ⟨rfl, State.Warmed39.refl s, rfl⟩ trivial
  refine ⟨n, _, h1, h2, h3, hpost _ _ _ _ _ _ ⟨Cond.after_iff.mpr rfl, Cond.after_iff.mpr (eq_i res_at (Term.int_eval (1)) rfl), trivial⟩ ⟨hq.1, hq.2.1, (hq.2.2.sift fun y hy => Or.inr (N y hy)).mono (by decide) (by decide)⟩⟩
theorem main_1_1 : Claimed_1_1 := comes_1 fun _ _ _ _ _ _ h hF => ⟨h.1, hF⟩
theorem main_1_2 : Claimed_1_2 := comes_1 fun _ _ _ _ _ _ h hF => ⟨h.2.1, hF⟩
end Jvm.Pilot.@@N@@
namespace Jvm.Pilot.@@N@@
open Jvm Jvm.ClassFile Sem Op Lib Jvm.Free Jvm.Stand Jvm.Pilot.@@N@@.Jvm.D
/-! MADE BY PROGRAM (witnessworld.py) out of the Statement's table words and the real class files: 12 classes; the members and pool entries that the words name. The judged class is class 1, her method 2. -/
namespace start1
open Jvm.ClassFile
def u (s : String) : CpInfo := .utf8 (stringToUtf16 s)
/-- a pool by its gaps: so many unusable entries, then the entry; so many at the end -/
def gap : Nat → List CpInfo → List CpInfo
  | 0, r => r
  | n + 1, r => .unusable :: gap n r
def poolList (es : List (Nat × CpInfo)) (last : Nat) : List CpInfo := es.foldr (fun e r => gap e.1 (e.2 :: r)) (gap last [])
def pool (es : List (Nat × CpInfo)) (last : Nat) : Array CpInfo := ⟨poolList es last⟩
def fileOf (pool : Array CpInfo) (this : Nat) (attrs : Array Attribute := #[]) (ms : Array MethodInfo := #[]) (fl : Nat := 33) (sup : Nat := 0) (ifs : Array Nat := #[]) (fds : Array FieldInfo := #[]) : ClassFile where
  minorVersion := 0
  majorVersion := 65
  constantPool := pool
  accessFlags := fl
  thisClass := this
  superClass := sup
  interfaces := ifs
  fields := fds
  methods := ms
  attributes := attrs
def plain (name : String) (sup : Option ClassId) : Class where
  name := name
  kind := .ordinary
  loader := none
  accessFlags := 33
  super := sup
  interfaces := #[]
  cf := none
  fields := #[]
  methods := #[]
  instanceTypes := #[]
  staticTypes := #[]
  resolved := #[]
  callSites := []
  init := .initialized
  statics := none
  mirror := none

def pool0 : Array CpInfo := pool [(5, u "<init>"), (0, u "()V"), (1, .class_ 10), (1, u "java/lang/Object")] 113

def k0m0 : Method := { name := "<init>", desc := "()V", sig := { parameters := [], returnType := none }, accessFlags := 1, code := none }
/-- java/lang/Object -/
def k0 : Class := { plain "java/lang/Object" none with
  accessFlags := 33
  interfaces := #[]
  cf := some (fileOf pool0 8 #[] #[{ accessFlags := 1, nameIndex := 5, descriptorIndex := 6, attributes := #[] }] 33 0 #[] #[])
  fields := #[]
  methods := #[k0m0]
  instanceTypes := #[]
  staticTypes := #[]
  resolved := Array.replicate 124 none
  statics := none }

def pool1 : Array CpInfo := pool [(2, .class_ 4), (1, u "java/lang/Object"), (0, u "<init>"), (0, u "()V"), (0, .fieldref 8 9), (0, .class_ 10), (0, .nameAndType 11 12), (0, u "com/example/settlewire/settlewire/files/Journal$Origin"), (0, u "INBOX"), (0, u "Lcom/example/settlewire/settlewire/files/Journal$Origin;"), (0, .fieldref 8 14), (0, .nameAndType 15 12), (0, u "FEED"), (0, .fieldref 8 17), (0, .nameAndType 18 12), (0, u "CLOCK"), (0, .fieldref 8 20), (0, .nameAndType 21 12), (0, u "END"), (0, .fieldref 8 23), (0, .nameAndType 24 12), (0, u "OPERATOR"), (0, .integer 2147483647), (0, .methodref 27 28), (0, .class_ 29), (0, .nameAndType 30 31), (0, u "com/example/settlewire/settlewire/files/OriginIsMessagePinLaw"), (0, u "pick"), (0, u "(I)Lcom/example/settlewire/settlewire/files/Journal$Origin;"), (0, .methodref 8 33), (0, .nameAndType 34 35), (0, u "isMessage"), (0, u "()Z"), (3, u "law"), (0, u "(I)Z")] 6

def k1m0 : Method := { name := "<init>", desc := "()V", sig := { parameters := [], returnType := none }, accessFlags := 2, code := none }
def k1c1 : Code := { maxStack := 2, maxLocals := 1, code := method_2_code, exceptionTable := #[], attributes := #[] }
def k1m1 : Method := { name := "pick", desc := "(I)Lcom/example/settlewire/settlewire/files/Journal$Origin;", sig := { parameters := [.int], returnType := some (.object "com/example/settlewire/settlewire/files/Journal$Origin") }, accessFlags := 10, code := some k1c1 }
def k1c2 : Code := { maxStack := 2, maxLocals := 5, code := code, exceptionTable := #[], attributes := #[] }
def k1m2 : Method := { name := "law", desc := "(I)Z", sig := { parameters := [.int], returnType := some .boolean }, accessFlags := 9, code := some k1c2 }
/-- com/example/settlewire/settlewire/files/OriginIsMessagePinLaw -/
def k1 : Class := { plain "com/example/settlewire/settlewire/files/OriginIsMessagePinLaw" (some 0) with
  accessFlags := 49
  interfaces := #[]
  cf := some (fileOf pool1 27 #[] #[{ accessFlags := 2, nameIndex := 5, descriptorIndex := 6, attributes := #[] }, { accessFlags := 10, nameIndex := 30, descriptorIndex := 31, attributes := #[] }, { accessFlags := 9, nameIndex := 39, descriptorIndex := 40, attributes := #[] }] 49 2 #[] #[])
  fields := #[]
  methods := #[k1m0, k1m1, k1m2]
  instanceTypes := #[]
  staticTypes := #[]
  resolved := Array.replicate 47 none
  statics := none }

def pool2 : Array CpInfo := pool [(1, .class_ 2), (0, u "java/lang/constant/Constable"), (0, .class_ 4), (0, u "java/lang/Object")] 6

/-- java/lang/constant/Constable -/
def k2 : Class := { plain "java/lang/constant/Constable" (some 0) with
  accessFlags := 1537
  interfaces := #[]
  cf := some (fileOf pool2 1 #[] #[] 1537 3 #[] #[])
  fields := #[]
  methods := #[]
  instanceTypes := #[]
  staticTypes := #[]
  resolved := Array.replicate 11 none
  statics := none }

def pool3 : Array CpInfo := pool [(1, .class_ 2), (0, u "java/lang/Comparable"), (0, .class_ 4), (0, u "java/lang/Object")] 7

/-- java/lang/Comparable -/
def k3 : Class := { plain "java/lang/Comparable" (some 0) with
  accessFlags := 1537
  interfaces := #[]
  cf := some (fileOf pool3 1 #[] #[] 1537 3 #[] #[])
  fields := #[]
  methods := #[]
  instanceTypes := #[]
  staticTypes := #[]
  resolved := Array.replicate 12 none
  statics := none }

def pool4 : Array CpInfo := pool [(1, .class_ 2), (0, u "java/io/Serializable"), (0, .class_ 4), (0, u "java/lang/Object")] 2

/-- java/io/Serializable -/
def k4 : Class := { plain "java/io/Serializable" (some 0) with
  accessFlags := 1537
  interfaces := #[]
  cf := some (fileOf pool4 1 #[] #[] 1537 3 #[] #[])
  fields := #[]
  methods := #[]
  instanceTypes := #[]
  staticTypes := #[]
  resolved := Array.replicate 7 none
  statics := none }

def pool5 : Array CpInfo := pool [(2, .class_ 4), (1, u "java/lang/Enum"), (0, u "name"), (0, u "Ljava/lang/String;"), (2, u "ordinal"), (0, u "I"), (1, .class_ 14), (1, u "java/lang/Object"), (4, u "hash"), (86, .class_ 108), (1, u "java/lang/Enum$EnumDesc"), (2, .class_ 112), (0, u "java/lang/constant/Constable"), (0, .class_ 114), (0, u "java/lang/Comparable"), (0, .class_ 116), (0, u "java/io/Serializable")] 87

/-- java/lang/Enum -/
def k5 : Class := { plain "java/lang/Enum" (some 0) with
  accessFlags := 1057
  interfaces := #[2, 3, 4]
  cf := some (fileOf pool5 2 #[.nestMembers #[106]] #[] 1057 12 #[111, 113, 115] #[{ accessFlags := 18, nameIndex := 5, descriptorIndex := 6, attributes := #[] }, { accessFlags := 18, nameIndex := 9, descriptorIndex := 10, attributes := #[] }, { accessFlags := 2, nameIndex := 19, descriptorIndex := 10, attributes := #[] }])
  fields := #[{ name := "name", type := (.object "java/lang/String"), accessFlags := 18, slot := 0, constantValue := 0 }, { name := "ordinal", type := .int, accessFlags := 18, slot := 1, constantValue := 0 }, { name := "hash", type := .int, accessFlags := 2, slot := 2, constantValue := 0 }]
  methods := #[]
  instanceTypes := #[(.object "java/lang/String"), .int, .int]
  staticTypes := #[]
  resolved := Array.replicate 204 none
  statics := none }

def pool6 : Array CpInfo := pool [(1, .class_ 2), (0, u "com/example/settlewire/settlewire/files/Journal$Origin"), (0, .fieldref 1 4), (0, .nameAndType 5 6), (0, u "INBOX"), (0, u "Lcom/example/settlewire/settlewire/files/Journal$Origin;"), (0, .fieldref 1 8), (0, .nameAndType 9 6), (0, u "FEED"), (2, u "CLOCK"), (2, u "END"), (0, .fieldref 1 17), (0, .nameAndType 18 6), (0, u "OPERATOR"), (2, u "$VALUES"), (0, u "[Lcom/example/settlewire/settlewire/files/Journal$Origin;"), (6, .class_ 31), (1, u "java/lang/Enum"), (23, u "isMessage"), (0, u "()Z"), (6, .class_ 64), (0, u "com/example/settlewire/settlewire/files/Journal")] 2

def k6c0 : Code := { maxStack := 2, maxLocals := 1, code := prog_22_method_4_code, exceptionTable := #[], attributes := #[] }
def k6m0 : Method := { name := "isMessage", desc := "()Z", sig := { parameters := [], returnType := some .boolean }, accessFlags := 1, code := some k6c0 }
/-- com/example/settlewire/settlewire/files/Journal$Origin -/
def k6 : Class := { plain "com/example/settlewire/settlewire/files/Journal$Origin" (some 5) with
  accessFlags := 16433
  interfaces := #[]
  cf := some (fileOf pool6 1 #[.nestHost 63] #[{ accessFlags := 1, nameIndex := 55, descriptorIndex := 56, attributes := #[] }] 16433 29 #[] #[{ accessFlags := 16409, nameIndex := 5, descriptorIndex := 6, attributes := #[] }, { accessFlags := 16409, nameIndex := 9, descriptorIndex := 6, attributes := #[] }, { accessFlags := 16409, nameIndex := 12, descriptorIndex := 6, attributes := #[] }, { accessFlags := 16409, nameIndex := 15, descriptorIndex := 6, attributes := #[] }, { accessFlags := 16409, nameIndex := 18, descriptorIndex := 6, attributes := #[] }, { accessFlags := 4122, nameIndex := 21, descriptorIndex := 22, attributes := #[] }])
  fields := #[{ name := "INBOX", type := (.object "com/example/settlewire/settlewire/files/Journal$Origin"), accessFlags := 16409, slot := 0, constantValue := 0 }, { name := "FEED", type := (.object "com/example/settlewire/settlewire/files/Journal$Origin"), accessFlags := 16409, slot := 1, constantValue := 0 }, { name := "CLOCK", type := (.object "com/example/settlewire/settlewire/files/Journal$Origin"), accessFlags := 16409, slot := 2, constantValue := 0 }, { name := "END", type := (.object "com/example/settlewire/settlewire/files/Journal$Origin"), accessFlags := 16409, slot := 3, constantValue := 0 }, { name := "OPERATOR", type := (.object "com/example/settlewire/settlewire/files/Journal$Origin"), accessFlags := 16409, slot := 4, constantValue := 0 }, { name := "$VALUES", type := (.array (.object "com/example/settlewire/settlewire/files/Journal$Origin")), accessFlags := 4122, slot := 5, constantValue := 0 }]
  methods := #[k6m0]
  instanceTypes := #[(.object "java/lang/String"), .int, .int]
  staticTypes := #[(.object "com/example/settlewire/settlewire/files/Journal$Origin"), (.object "com/example/settlewire/settlewire/files/Journal$Origin"), (.object "com/example/settlewire/settlewire/files/Journal$Origin"), (.object "com/example/settlewire/settlewire/files/Journal$Origin"), (.object "com/example/settlewire/settlewire/files/Journal$Origin"), (.array (.object "com/example/settlewire/settlewire/files/Journal$Origin"))]
  resolved := Array.replicate 67 none
  statics := some 0 }

def pool7 : Array CpInfo := pool [(1, u "java/lang/Cloneable"), (0, .class_ 1), (0, u "java/lang/Object"), (0, .class_ 3)] 3

/-- java/lang/Cloneable -/
def k7 : Class := { plain "java/lang/Cloneable" (some 0) with
  accessFlags := 1537
  interfaces := #[]
  cf := some (fileOf pool7 2 #[] #[] 1537 4 #[] #[])
  fields := #[]
  methods := #[]
  instanceTypes := #[]
  staticTypes := #[]
  resolved := Array.replicate 8 none
  statics := none }

/-- the primitive byte -/
def k8 : Class := { plain "byte" none with kind := .primitive 'B', accessFlags := 0x411 }
/-- [B -/
def k9 : Class := { plain "[B" (some 0) with kind := .array 8 .byte, interfaces := #[7, 4], accessFlags := 1041 }

/-- the primitive int -/
def k10 : Class := { plain "int" none with kind := .primitive 'I', accessFlags := 0x411 }
/-- [I -/
def k11 : Class := { plain "[I" (some 0) with kind := .array 10 .int, interfaces := #[7, 4], accessFlags := 1041 }

def heap : Heap := #[{ cls := 6, slots := #[.ref 1, .ref 3, .ref 5, .ref 2, .ref 4, .null], vm := .statics 6 },
  { cls := 6, slots := #[.null, .int 0, .int 0], vm := .none },
  { cls := 6, slots := #[.null, .int 3, .int 0], vm := .none },
  { cls := 6, slots := #[.null, .int 1, .int 0], vm := .none },
  { cls := 6, slots := #[.null, .int 4, .int 0], vm := .none },
  { cls := 6, slots := #[.null, .int 2, .int 0], vm := .none }]
def classes : Array Class := #[k0, k1, k2, k3, k4, k5, k6, k7, k8, k9, k10, k11]
def interned : List (Array UInt16 × Addr) := []
def slotsUsed : Nat := 21
def theMethod : MethodId := ⟨1, 2⟩
def args0 : Array Value := #[.int 5]
def aboutOver (below : List Frame) : State where
  vm := { classes := classes, interned := interned.toArray }
  heap := heap
  slotsUsed := slotsUsed
  threads := #[{ frames := .invoking theMethod args0 :: below }]
def below0 : List Frame := [.native { method := ⟨0, 0⟩, args := #[] }]
def about1 : State := aboutOver below0
def p0 : Program := .bare "" "" ""
def e0 : Env := launch0.env 0 0 0
theorem w_frames : about1.frames = Frame.invoking theMethod args0 :: below0 := rfl
set_option maxRecDepth 65536 in
theorem w_args : argsFit about1.vm theMethod args0 = true := by decide +kernel
set_option maxRecDepth 65536 in
theorem w_heap : heapFits about1 = true := by decide +kernel
set_option maxRecDepth 65536 in
theorem w_runnable : about1.curStatus? = some .runnable := by decide +kernel
set_option maxRecDepth 65536 in
theorem w_alone : about1.alone = true := by decide +kernel
set_option maxRecDepth 65536 in
theorem w_named : about1.methodNamed? x = some theMethod := by decide +kernel
set_option maxRecDepth 65536 in
theorem w_hears : about1.hears theMethod below0 = true := by decide +kernel
set_option maxRecDepth 65536 in
theorem w_ripe : about1.ripe theMethod args0 below0 = true := by decide +kernel
theorem w_running : about1.status = .running := rfl
set_option maxRecDepth 65536 in
theorem w_room : about1.hasRoom e0.platform room_1 = true :=
  launch0.hasRoom_least _ room_1 (by decide +kernel) (by decide +kernel) (by decide +kernel) (by decide +kernel) (by decide +kernel) (by decide +kernel)
theorem allAtoms_all (ts : List Jvm.Cond) (a : Array Jvm.Value) (st : Jvm.State) : (allAtoms ts).before a st = ts.all (fun c => c.before a st) := by
  induction ts with
  | nil => rfl
  | cons c t ih =>
    show (Jvm.Cond.and c (allAtoms t)).before a st = _
    rw [Jvm.Cond.before_and, ih, List.all_cons]
def words1 : List Jvm.Cond := Jvm.Cond.code x code maxLocals ret :: tables_1
/-- a 'code' word, met by the world's own term for the bytes: nothing is compared byte by byte -/
theorem code_word {y : MethodName} {bytes : ByteArray} {mx : Nat} {rt : Option FieldType} {a : Array Value} {s : State} {m : MethodId} {meth : Method} {c : Code} (h1 : s.methodNamed? y = some m) (h2 : s.vm.method? m = some meth) (h3 : meth.code = some c) (h4 : c.code = bytes)
    (h5 : (c.maxLocals == mx && c.exceptionTable.isEmpty && decide (c.maxStack ≤ mostOperands) && decide (meth.sig.returnType = rt) && !meth.locks && decide (parseMethodDescriptor y.desc = some meth.sig)) = true) : (Jvm.Cond.code y bytes mx rt).before a s = true := by
  simp only [Bool.and_eq_true, beq_iff_eq, Bool.not_eq_true', decide_eq_true_eq] at h5
  obtain ⟨⟨⟨⟨⟨g1, g2⟩, g3⟩, g4⟩, g5⟩, g6⟩ := h5
  simp [Cond.before, Cond.holds, Cond.value, h1, h2, h3, h4, g1, g2, g3, g4, g5, g6]
def isCode : Jvm.Cond → Bool
  | .code _ _ _ _ => true
  | _ => false
theorem all_split {L : List Jvm.Cond} {P : Jvm.Cond → Bool} (h1 : L.all (fun c => isCode c || P c) = true) (h2 : ∀ c ∈ L.filter isCode, P c = true) : L.all P = true := by
  refine List.all_eq_true.mpr fun c hc => ?_
  have h := List.all_eq_true.mp h1 c hc
  rcases Bool.eq_false_or_eq_true (isCode c) with hi | hi
  · exact h2 c (List.mem_filter.mpr ⟨hc, hi⟩)
  · simpa [hi] using h
set_option maxRecDepth 65536 in
theorem w_c0 : (Jvm.Cond.code x code maxLocals ret).before args0 about1 = true := code_word (m := ⟨1, 2⟩) (meth := k1m2) (c := k1c2) (by decide +kernel) rfl rfl rfl (by decide +kernel)
set_option maxRecDepth 65536 in
theorem w_c1 : (Jvm.Cond.code ({ cls := "com/example/settlewire/settlewire/files/OriginIsMessagePinLaw", name := "pick", desc := "(I)Lcom/example/settlewire/settlewire/files/Journal$Origin;" } : Jvm.MethodName) method_2_code (1 : Nat) (Option.some (Jvm.ClassFile.FieldType.object "com/example/settlewire/settlewire/files/Journal$Origin"))).before args0 about1 = true := code_word (m := ⟨1, 1⟩) (meth := k1m1) (c := k1c1) (by decide +kernel) rfl rfl rfl (by decide +kernel)
set_option maxRecDepth 65536 in
theorem w_c2 : (Jvm.Cond.code ({ cls := "com/example/settlewire/settlewire/files/Journal$Origin", name := "isMessage", desc := "()Z" } : Jvm.MethodName) prog_22_method_4_code (1 : Nat) (Option.some Jvm.ClassFile.FieldType.boolean)).before args0 about1 = true := code_word (m := ⟨6, 0⟩) (meth := k6m0) (c := k6c0) (by decide +kernel) rfl rfl rfl (by decide +kernel)
def codes1 : List Jvm.Cond := [Jvm.Cond.code x code maxLocals ret, Jvm.Cond.code ({ cls := "com/example/settlewire/settlewire/files/OriginIsMessagePinLaw", name := "pick", desc := "(I)Lcom/example/settlewire/settlewire/files/Journal$Origin;" } : Jvm.MethodName) method_2_code (1 : Nat) (Option.some (Jvm.ClassFile.FieldType.object "com/example/settlewire/settlewire/files/Journal$Origin")), Jvm.Cond.code ({ cls := "com/example/settlewire/settlewire/files/Journal$Origin", name := "isMessage", desc := "()Z" } : Jvm.MethodName) prog_22_method_4_code (1 : Nat) (Option.some Jvm.ClassFile.FieldType.boolean)]
set_option maxRecDepth 65536 in
theorem codes_eq : words1.filter isCode = codes1 := rfl
theorem w_codes : ∀ c ∈ words1.filter isCode, c.before args0 about1 = true := by
  rw [codes_eq]
  intro c hc
  simp only [codes1, List.mem_cons, List.not_mem_nil, or_false] at hc
  rcases hc with rfl | rfl | rfl
  · exact w_c0
  · exact w_c1
  · exact w_c2
set_option maxRecDepth 65536 in
theorem w_t1 : (words1.take 24).all (fun c => isCode c || c.before args0 about1) = true := by decide +kernel
set_option maxRecDepth 65536 in
theorem w_t2 : (words1.drop 24).all (fun c => isCode c || c.before args0 about1) = true := by decide +kernel
theorem w_tables : (allAtoms (Jvm.Cond.code x code maxLocals ret :: tables_1)).before args0 about1 = true := by
  rw [allAtoms_all]
  show words1.all (fun c => c.before args0 about1) = true
  refine all_split ?_ w_codes
  rw [← List.take_append_drop 24 words1, List.all_append, w_t1, w_t2]
  rfl
set_option maxRecDepth 65536 in
theorem w_case : (Jvm.Cond.and given_1 narrow_1).before args0 about1 = true := by decide +kernel
theorem w_applies : (headSpec (Jvm.Cond.code x code maxLocals ret :: tables_1) room_1).applies x e0.platform about1 = true :=
  (Spec.applies_iff w_frames).mpr ⟨w_running, w_runnable, w_alone, w_named, w_hears, w_ripe, w_room, w_tables⟩
theorem atStart : AtStart classFile x code maxLocals ret World_1 tables_1 room_1 Calls_1 rest_1 Pre_1 launch0 p0 e0 about1 theMethod args0 below0 :=
  ⟨lists_1, trivial, launch0.admits_env _ _ _, launch0.least_env, fairChoices_fair.cas, fairChoices_fair.clock, w_frames, w_args, w_heap, w_applies, trivial, trivial, w_case⟩
end start1
theorem witness_1 : WitnessClaimed_1 := ⟨start1.p0, start1.e0, start1.about1, start1.theMethod, start1.args0, start1.below0, start1.atStart⟩
end Jvm.Pilot.@@N@@
