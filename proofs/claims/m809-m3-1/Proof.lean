import JvmDerived
import JvmDerived.Pilot.@@N@@Statement
import JvmDerived.Pilot.@@N@@Code
set_option linter.unusedVariables false
set_option linter.unusedSimpArgs false
namespace Jvm.RoadKit
open Sem ClassFile Op Lib Jvm.Stand Jvm.Free Jvm.LawKit
section New
variable {p : Program} {l : Launch} {e : Env} {R : Room} {s : State} {m : MethodId} {args : Array Value} {below : List Frame} {meth : Method} {c : Code} {T : State} {locs : List Loc} {cells slots : Nat}
theorem retI (X : Stand p l e R s m args below meth c T locs cells slots) (hx : p.tables.exec = Jvm.exec) {pc : Nat} {Ls : Array Slot} {z : Int32} {rest : List Value} (hret : meth.sig.returnType = some .int) (hd : decode c.code pc = .ok (.ireturn, 1)) {fs : List Frame}
    (hl : ∀ (f : JFrame) (acts : List Action), f.method = m → f.locked = none → f.entered = [] → (doReturn e (T.setTop f) acts (some (.int z))).1 = T.setFrames fs) : Steps p.tables e below (T.setTop (mkF m pc Ls (.int z :: rest))) (T.setFrames fs) := by
  have hm' : T.vm.method? m = some meth := X.method'
  have hn : narrow .int (.int z) = .int z := rfl
  show Steps p.tables e below (T.setTop { method := m, pc := pc, locals := Ls, stack := _ :: rest, locked := none }) _
  jvm_step X.here [X.here.top, hx, hd, hm', hret, hn]
  first | (intro acts; rw [hl _ acts rfl rfl rfl]) | rw [hl _ _ rfl rfl rfl]
  exact Steps.refl _
theorem eqv_r {Z : State} {args : Array Value} {X F : Term} {idx : List Nat} {y : Addr} (hF : F.eval args Z none idx Z = some (.ref y)) (h : (Cond.eq X F).value args Z none Z idx = some true) : X.eval args Z none idx Z = some (.ref y) := by
  obtain ⟨x, y', e1, e2, k1, k2⟩ := cmp_v (Or.inl h)
  cases hF.symm.trans e2
  have hx : x.isRef = true := k2.2
  have q : x = .ref y := gotT (eq_R e1 hF hx rfl) h
  rw [e1, q]
end New
end Jvm.RoadKit
namespace Jvm.Pilot.@@N@@
open Jvm Jvm.ClassFile Sem Op Lib Jvm.Free Jvm.Stand Jvm.LawKit Jvm.RoadKit Bundle Jvm.Pilot.@@N@@.Jvm.D
def Go (p : Program) (e : Env) (below : List Frame) (Qf : Outcome → State → Prop) (W : State) : Prop := ∃ s₂ o, Steps p.tables e below W s₂ ∧ s₂.status = .running ∧ Ended s₂ below o ∧ Qf o s₂
theorem Go.st {p : Program} {e : Env} {below : List Frame} {Qf : Outcome → State → Prop} {W V' : State} (h : ∀ t, Steps p.tables e below V' t → Steps p.tables e below W t) (g : Go p e below Qf V') : Go p e below Qf W := by
  obtain ⟨s₂, o, g1, g2⟩ := g
  exact ⟨s₂, o, h _ g1, g2⟩
theorem Go.out {p : Program} {e : Env} {below : List Frame} {Qf : Outcome → State → Prop} {W : State} (g : Go p e below Qf W) : ∃ s₂ o, Steps p.tables e below W s₂ ∧ s₂.status = .running ∧ Ended s₂ below o ∧ Qf o s₂ := g
theorem Go.mk' {p : Program} {e : Env} {below : List Frame} {Qf : Outcome → State → Prop} {W : State} (g : ∃ s₂ o, Steps p.tables e below W s₂ ∧ s₂.status = .running ∧ Ended s₂ below o ∧ Qf o s₂) : Go p e below Qf W := g
theorem own_rng (x d : Int32) (D : Int) (hd : d.toInt = D) (h0 : 0 < D) : 0 ≤ ((x &&& (2147483647 : Int32)) % d).toInt ∧ ((x &&& (2147483647 : Int32)) % d).toInt < D := by
  have a := c_and x 2147483647 (by decide)
  have b := (c_irem (x &&& 2147483647) d D hd).1 a.1
  rw [b]
  exact ⟨Int.emod_nonneg _ (by omega), Int.emod_lt_of_pos _ h0⟩
theorem own_cases5 {k : Int32} (h : 0 ≤ k.toInt ∧ k.toInt < 5) : k = (0 : Int32) ∨ k = (1 : Int32) ∨ k = (2 : Int32) ∨ k = (3 : Int32) ∨ k = (4 : Int32) := by
  have e : ∀ n : Int32, k.toInt = n.toInt → k = n := fun n h => Int32.toInt_inj.mp h
  have q : k.toInt = 0 ∨ k.toInt = 1 ∨ k.toInt = 2 ∨ k.toInt = 3 ∨ k.toInt = 4 := by omega
  rcases q with q | q | q | q | q
  · exact Or.inl (e 0 (q.trans (by decide)))
  · exact Or.inr (Or.inl (e 1 (q.trans (by decide))))
  · exact Or.inr (Or.inr (Or.inl (e 2 (q.trans (by decide)))))
  · exact Or.inr (Or.inr (Or.inr (Or.inl (e 3 (q.trans (by decide))))))
  · exact Or.inr (Or.inr (Or.inr (Or.inr (e 4 (q.trans (by decide))))))
theorem own_sa {a0 : Array Value} {Z : State} (hw : ∀ d ∈ tables_1, d.before a0 Z = true) : ∀ a ∈ Bundle.stringAtoms, a.before a0 Z = true := by
  intro a ha
  simp only [Bundle.stringAtoms, List.mem_cons, List.not_mem_nil, or_false] at ha
  rcases ha with rfl | rfl | rfl | rfl | rfl | rfl | rfl
  · exact (hw _ (List.mem_of_getElem? (i := 19) rfl))
  · exact (hw _ (List.mem_of_getElem? (i := 20) rfl))
  · exact (hw _ (List.mem_of_getElem? (i := 21) rfl))
  · exact (hw _ (List.mem_of_getElem? (i := 22) rfl))
  · exact (hw _ (List.mem_of_getElem? (i := 23) rfl))
  · exact (hw _ (List.mem_of_getElem? (i := 24) rfl))
  · exact (hw _ (List.mem_of_getElem? (i := 25) rfl))
def W0 (Z : State) (s_BOT : Addr) (s_POS : Addr) (s_TOP : Addr) (s_ZERO : Addr) (s_NEG : Addr) : Prop :=
  (Exa Z Z.heap s_BOT "com/example/latticework/latticework/lattice/Sign") ∧
  (Sta Z Z.heap "com/example/latticework/latticework/lattice/Sign" "BOT" "Lcom/example/latticework/latticework/lattice/Sign;" (.ref s_BOT)) ∧
  (Exa Z Z.heap s_POS "com/example/latticework/latticework/lattice/Sign") ∧
  (Sta Z Z.heap "com/example/latticework/latticework/lattice/Sign" "POS" "Lcom/example/latticework/latticework/lattice/Sign;" (.ref s_POS)) ∧
  (Exa Z Z.heap s_TOP "com/example/latticework/latticework/lattice/Sign") ∧
  (Sta Z Z.heap "com/example/latticework/latticework/lattice/Sign" "TOP" "Lcom/example/latticework/latticework/lattice/Sign;" (.ref s_TOP)) ∧
  (Exa Z Z.heap s_ZERO "com/example/latticework/latticework/lattice/Sign") ∧
  (Sta Z Z.heap "com/example/latticework/latticework/lattice/Sign" "ZERO" "Lcom/example/latticework/latticework/lattice/Sign;" (.ref s_ZERO)) ∧
  (Exa Z Z.heap s_NEG "com/example/latticework/latticework/lattice/Sign") ∧
  (Sta Z Z.heap "com/example/latticework/latticework/lattice/Sign" "NEG" "Lcom/example/latticework/latticework/lattice/Sign;" (.ref s_NEG)) ∧
  (Fld Z Z.heap s_TOP "java/lang/Enum" "ordinal" "I" (.int (4 : Int32))) ∧
  (Fld Z Z.heap s_BOT "java/lang/Enum" "ordinal" "I" (.int (0 : Int32))) ∧
  (Fld Z Z.heap s_ZERO "java/lang/Enum" "ordinal" "I" (.int (1 : Int32))) ∧
  (Fld Z Z.heap s_POS "java/lang/Enum" "ordinal" "I" (.int (3 : Int32))) ∧
  (Fld Z Z.heap s_NEG "java/lang/Enum" "ordinal" "I" (.int (2 : Int32)))
theorem own_d1_0 : decode method_2_code 0 = .ok (.iload_n 0, 1) := by decide +kernel
theorem own_d1_1 : decode method_2_code 1 = .ok (.ifCond .ne 7, 3) := by decide +kernel
theorem own_d1_4 : decode method_2_code 4 = .ok (.getstatic 7, 3) := by decide +kernel
theorem own_d1_7 : decode method_2_code 7 = .ok (.areturn, 1) := by decide +kernel
theorem own_d1_8 : decode method_2_code 8 = .ok (.iload_n 0, 1) := by decide +kernel
theorem own_d1_9 : decode method_2_code 9 = .ok (.iconst 1, 1) := by decide +kernel
theorem own_d1_10 : decode method_2_code 10 = .ok (.if_icmp .ne 7, 3) := by decide +kernel
theorem own_d1_13 : decode method_2_code 13 = .ok (.getstatic 13, 3) := by decide +kernel
theorem own_d1_16 : decode method_2_code 16 = .ok (.areturn, 1) := by decide +kernel
theorem own_d1_17 : decode method_2_code 17 = .ok (.iload_n 0, 1) := by decide +kernel
theorem own_d1_18 : decode method_2_code 18 = .ok (.iconst 2, 1) := by decide +kernel
theorem own_d1_19 : decode method_2_code 19 = .ok (.if_icmp .ne 7, 3) := by decide +kernel
theorem own_d1_22 : decode method_2_code 22 = .ok (.getstatic 16, 3) := by decide +kernel
theorem own_d1_25 : decode method_2_code 25 = .ok (.areturn, 1) := by decide +kernel
theorem own_d1_26 : decode method_2_code 26 = .ok (.iload_n 0, 1) := by decide +kernel
theorem own_d1_27 : decode method_2_code 27 = .ok (.iconst 3, 1) := by decide +kernel
theorem own_d1_28 : decode method_2_code 28 = .ok (.if_icmp .ne 7, 3) := by decide +kernel
theorem own_d1_31 : decode method_2_code 31 = .ok (.getstatic 19, 3) := by decide +kernel
theorem own_d1_34 : decode method_2_code 34 = .ok (.areturn, 1) := by decide +kernel
theorem own_d1_35 : decode method_2_code 35 = .ok (.getstatic 22, 3) := by decide +kernel
theorem own_d1_38 : decode method_2_code 38 = .ok (.areturn, 1) := by decide +kernel
theorem own_pn0 : plainName "com/example/latticework/latticework/lattice/SignLeqPinLaw" = true := by first | (simp [plainName, overriddenIn]; done) | decide +kernel
theorem ef1 (m : MethodId) (p0 : Int32) : entryFrame m #[(.int p0)] 1 = mkF m 0 #[.val (.int p0)] [] := by first | (simp [entryFrame, mkF, argsToLocals, Value.category]; done) | rfl
def f1 (s_BOT : Addr) (s_POS : Addr) (s_TOP : Addr) (s_ZERO : Addr) (s_NEG : Addr) (p0 : Int32) : Addr := (if p0 = (0 : Int32) then s_BOT else (if p0 = (1 : Int32) then s_ZERO else (if p0 = (2 : Int32) then s_NEG else (if p0 = (3 : Int32) then s_POS else s_TOP))))
def Q1 (Z : State) (s_BOT : Addr) (s_POS : Addr) (s_TOP : Addr) (s_ZERO : Addr) (s_NEG : Addr) (p0 : Int32) (h0 : Heap) (n0 : Nat) (v : Option Value) (h : Heap) (L : List Loc) : Prop := v = some (.ref (f1 s_BOT s_POS s_TOP s_ZERO s_NEG p0)) ∧ Fr n0 L ∧ h = h0
set_option maxRecDepth 65536 in
set_option maxHeartbeats 40000000 in
theorem rm1 (l : Launch) (Z : State) (a0 : Array Value) (hw : ∀ d ∈ tables_1, d.before a0 Z = true) (ws : List Jvm.Cond) (s_BOT : Addr) (s_POS : Addr) (s_TOP : Addr) (s_ZERO : Addr) (s_NEG : Addr) (HW : W0 Z s_BOT s_POS s_TOP s_ZERO s_NEG) (p0 : Int32) (h0 : Heap) (n0 : Nat) (O0 : Old Z n0 h0) :
    MetFree l (⟨"com/example/latticework/latticework/lattice/SignLeqPinLaw", "pick", "(I)Lcom/example/latticework/latticework/lattice/Sign;"⟩ : MethodName) (head1 (Jvm.Cond.code (⟨"com/example/latticework/latticework/lattice/SignLeqPinLaw", "pick", "(I)Lcom/example/latticework/latticework/lattice/Sign;"⟩ : MethodName) method_2_code 1 (some (.object "com/example/latticework/latticework/lattice/Sign")) :: ws) ({ frames := 0, cells := 0, slots := 0, locals := 0 } : Room)) (fun a U => a = #[(.int p0)] ∧ Z.Warmed39 U.vm ∧ U.heap = h0) (fun _ _ _ _ _ => True) (fun _ U o U' => ∃ v L, o = .returned v ∧ Q1 Z s_BOT s_POS s_TOP s_ZERO s_NEG p0 h0 n0 v U'.heap L ∧ FrameEnd U o U' L ({ frames := 0, cells := 0, slots := 0, locals := 0 } : Room).cells ({ frames := 0, cells := 0, slots := 0, locals := 0 } : Room).slots) := by
  refine MetFree.of_bodySF (plainFor_of_name own_pn0) hisR ?_
  intro p e s m args below meth c s₁ Bd hml0 hP hK
  obtain ⟨rfl, hZ, hh⟩ := hP
  obtain ⟨E_BOT, S_BOT, E_POS, S_POS, E_TOP, S_TOP, E_ZERO, S_ZERO, E_NEG, S_NEG, F_TOP_ordinal, F_BOT_ordinal, F_ZERO_ordinal, F_POS_ordinal, F_NEG_ordinal⟩ := id HW
  have hx := Bd.exec
  have hby := Bd.bytes
  have hml : c.maxLocals = 1 := hml0
  have hown : s.vm.findClass "com/example/latticework/latticework/lattice/SignLeqPinLaw" = some m.cls := findClass_of_methodNamed Bd.named
  have hnm := (name_of_methodNamed Bd.named Bd.method).1
  have X0 : Stand p l e ({ frames := 0, cells := 0, slots := 0, locals := 0 } : Room) s m #[(.int p0)] below meth c s₁ [] 0 0 := Stand.of_body Bd
  have e0 : s₁.heap = h0 := by rw [← hh, Bd.state]; rfl
  have N0 := Fr.nil n0
  have K0 := Keep.refl h0 []
  refine Go.out ?_
  refine Go.st (V' := s₁.setTop (mkF m 0 #[.val (.int p0)] [])) (fun t k => castTop (ef1 m p0) k) ?_
  refine Go.st (V' := s₁.setTop (mkF m 1 #[.val (.int p0)] [(.int p0)])) (fun t k => ?_) ?_
  · refine XS.iloadN X0.here hx rfl (hb hby own_d1_0) rfl  ?_
    show Steps p.tables e below (s₁.setTop (mkF m 1 #[.val (.int p0)] [(.int p0)])) _
    exact k
  by_cases hc1 : p0 = (0 : Int32)
  · refine Go.st (V' := s₁.setTop (mkF m 4 #[.val (.int p0)] [])) (fun t k => ?_) ?_
    · refine XS.ifNo X0.here hx rfl (hb hby own_d1_1) rfl ((if0 _ _).trans (teq hc1).2) ?_
      show Steps p.tables e below (s₁.setTop (mkF m 4 #[.val (.int p0)] [])) _
      exact k
    obtain ⟨T2, X2, e2, st2⟩ := getS2 X0 hx hZ hown (host := "") (Or.inl (hw _ (List.mem_of_getElem? (i := 5) rfl))) Via.refl e0 (S_BOT.ext O0.2) (g := (mkF m 4 #[.val (.int p0)] [])) rfl (hb hby own_d1_4)
    refine Go.st (V' := T2.setTop (mkF m 7 #[.val (.int p0)] [(.ref s_BOT)])) (fun t k => st2 t k) ?_
    obtain ⟨fs, hr, hrun, hended, hW, hsame⟩ := X2.leave (v := some (.ref s_BOT)) (fun h => by rw [Bd.returns] at h; cases h)
    refine Go.mk' ⟨_, _, retOut X2 hx Bd.returns rfl (Or.inr (Or.inr (Or.inr (Or.inr ⟨rfl, rfl, rfl⟩)))) (hb hby own_d1_7) hr, hrun, hended, _, _, rfl, ?_, ⟨_, rfl⟩, hW, hsame.mono (by decide) (by decide)⟩
    show Q1 Z s_BOT s_POS s_TOP s_ZERO s_NEG p0 h0 n0 _ T2.heap _
    rw [e2]
    exact ⟨(by rw [f1, if_pos hc1]), N0, rfl⟩
  · refine Go.st (V' := s₁.setTop (mkF m 10 #[.val (.int p0)] [(.int (1 : Int32)), (.int p0)])) (fun t k => ?_) ?_
    · refine XS.ifYes X0.here hx rfl (pc0 := 1) (pc' := 8) rfl (hb hby own_d1_1) rfl ((if0 _ _).trans (feq hc1).2) (by decide) (by decide) ?_
      show Steps p.tables e below (s₁.setTop (mkF m 8 #[.val (.int p0)] [])) _
      refine XS.iloadN X0.here hx rfl (hb hby own_d1_8) rfl  ?_
      show Steps p.tables e below (s₁.setTop (mkF m 9 #[.val (.int p0)] [(.int p0)])) _
      refine XS.iconst X0.here hx rfl (hb hby own_d1_9) ?_
      show Steps p.tables e below (s₁.setTop (mkF m 10 #[.val (.int p0)] [(.int (1 : Int32)), (.int p0)])) _
      exact k
    by_cases hc3 : p0 = (1 : Int32)
    · refine Go.st (V' := s₁.setTop (mkF m 13 #[.val (.int p0)] [])) (fun t k => ?_) ?_
      · refine XS.icmpNo X0.here hx rfl (hb hby own_d1_10) rfl (teq hc3).2 ?_
        show Steps p.tables e below (s₁.setTop (mkF m 13 #[.val (.int p0)] [])) _
        exact k
      obtain ⟨T4, X4, e4, st4⟩ := getS2 X0 hx hZ hown (host := "") (Or.inl (hw _ (List.mem_of_getElem? (i := 33) rfl))) Via.refl e0 (S_ZERO.ext O0.2) (g := (mkF m 13 #[.val (.int p0)] [])) rfl (hb hby own_d1_13)
      refine Go.st (V' := T4.setTop (mkF m 16 #[.val (.int p0)] [(.ref s_ZERO)])) (fun t k => st4 t k) ?_
      obtain ⟨fs, hr, hrun, hended, hW, hsame⟩ := X4.leave (v := some (.ref s_ZERO)) (fun h => by rw [Bd.returns] at h; cases h)
      refine Go.mk' ⟨_, _, retOut X4 hx Bd.returns rfl (Or.inr (Or.inr (Or.inr (Or.inr ⟨rfl, rfl, rfl⟩)))) (hb hby own_d1_16) hr, hrun, hended, _, _, rfl, ?_, ⟨_, rfl⟩, hW, hsame.mono (by decide) (by decide)⟩
      show Q1 Z s_BOT s_POS s_TOP s_ZERO s_NEG p0 h0 n0 _ T4.heap _
      rw [e4]
      exact ⟨(by rw [f1, if_neg hc1, if_pos hc3]), N0, rfl⟩
    · refine Go.st (V' := s₁.setTop (mkF m 19 #[.val (.int p0)] [(.int (2 : Int32)), (.int p0)])) (fun t k => ?_) ?_
      · refine XS.icmpYes X0.here hx rfl (pc0 := 10) (pc' := 17) rfl (hb hby own_d1_10) rfl (feq hc3).2 (by decide) (by decide) ?_
        show Steps p.tables e below (s₁.setTop (mkF m 17 #[.val (.int p0)] [])) _
        refine XS.iloadN X0.here hx rfl (hb hby own_d1_17) rfl  ?_
        show Steps p.tables e below (s₁.setTop (mkF m 18 #[.val (.int p0)] [(.int p0)])) _
        refine XS.iconst X0.here hx rfl (hb hby own_d1_18) ?_
        show Steps p.tables e below (s₁.setTop (mkF m 19 #[.val (.int p0)] [(.int (2 : Int32)), (.int p0)])) _
        exact k
      by_cases hc5 : p0 = (2 : Int32)
      · refine Go.st (V' := s₁.setTop (mkF m 22 #[.val (.int p0)] [])) (fun t k => ?_) ?_
        · refine XS.icmpNo X0.here hx rfl (hb hby own_d1_19) rfl (teq hc5).2 ?_
          show Steps p.tables e below (s₁.setTop (mkF m 22 #[.val (.int p0)] [])) _
          exact k
        obtain ⟨T6, X6, e6, st6⟩ := getS2 X0 hx hZ hown (host := "") (Or.inl (hw _ (List.mem_of_getElem? (i := 36) rfl))) Via.refl e0 (S_NEG.ext O0.2) (g := (mkF m 22 #[.val (.int p0)] [])) rfl (hb hby own_d1_22)
        refine Go.st (V' := T6.setTop (mkF m 25 #[.val (.int p0)] [(.ref s_NEG)])) (fun t k => st6 t k) ?_
        obtain ⟨fs, hr, hrun, hended, hW, hsame⟩ := X6.leave (v := some (.ref s_NEG)) (fun h => by rw [Bd.returns] at h; cases h)
        refine Go.mk' ⟨_, _, retOut X6 hx Bd.returns rfl (Or.inr (Or.inr (Or.inr (Or.inr ⟨rfl, rfl, rfl⟩)))) (hb hby own_d1_25) hr, hrun, hended, _, _, rfl, ?_, ⟨_, rfl⟩, hW, hsame.mono (by decide) (by decide)⟩
        show Q1 Z s_BOT s_POS s_TOP s_ZERO s_NEG p0 h0 n0 _ T6.heap _
        rw [e6]
        exact ⟨(by rw [f1, if_neg hc1, if_neg hc3, if_pos hc5]), N0, rfl⟩
      · refine Go.st (V' := s₁.setTop (mkF m 28 #[.val (.int p0)] [(.int (3 : Int32)), (.int p0)])) (fun t k => ?_) ?_
        · refine XS.icmpYes X0.here hx rfl (pc0 := 19) (pc' := 26) rfl (hb hby own_d1_19) rfl (feq hc5).2 (by decide) (by decide) ?_
          show Steps p.tables e below (s₁.setTop (mkF m 26 #[.val (.int p0)] [])) _
          refine XS.iloadN X0.here hx rfl (hb hby own_d1_26) rfl  ?_
          show Steps p.tables e below (s₁.setTop (mkF m 27 #[.val (.int p0)] [(.int p0)])) _
          refine XS.iconst X0.here hx rfl (hb hby own_d1_27) ?_
          show Steps p.tables e below (s₁.setTop (mkF m 28 #[.val (.int p0)] [(.int (3 : Int32)), (.int p0)])) _
          exact k
        by_cases hc7 : p0 = (3 : Int32)
        · refine Go.st (V' := s₁.setTop (mkF m 31 #[.val (.int p0)] [])) (fun t k => ?_) ?_
          · refine XS.icmpNo X0.here hx rfl (hb hby own_d1_28) rfl (teq hc7).2 ?_
            show Steps p.tables e below (s₁.setTop (mkF m 31 #[.val (.int p0)] [])) _
            exact k
          obtain ⟨T8, X8, e8, st8⟩ := getS2 X0 hx hZ hown (host := "") (Or.inl (hw _ (List.mem_of_getElem? (i := 8) rfl))) Via.refl e0 (S_POS.ext O0.2) (g := (mkF m 31 #[.val (.int p0)] [])) rfl (hb hby own_d1_31)
          refine Go.st (V' := T8.setTop (mkF m 34 #[.val (.int p0)] [(.ref s_POS)])) (fun t k => st8 t k) ?_
          obtain ⟨fs, hr, hrun, hended, hW, hsame⟩ := X8.leave (v := some (.ref s_POS)) (fun h => by rw [Bd.returns] at h; cases h)
          refine Go.mk' ⟨_, _, retOut X8 hx Bd.returns rfl (Or.inr (Or.inr (Or.inr (Or.inr ⟨rfl, rfl, rfl⟩)))) (hb hby own_d1_34) hr, hrun, hended, _, _, rfl, ?_, ⟨_, rfl⟩, hW, hsame.mono (by decide) (by decide)⟩
          show Q1 Z s_BOT s_POS s_TOP s_ZERO s_NEG p0 h0 n0 _ T8.heap _
          rw [e8]
          exact ⟨(by rw [f1, if_neg hc1, if_neg hc3, if_neg hc5, if_pos hc7]), N0, rfl⟩
        · refine Go.st (V' := s₁.setTop (mkF m 35 #[.val (.int p0)] [])) (fun t k => ?_) ?_
          · refine XS.icmpYes X0.here hx rfl (pc0 := 28) (pc' := 35) rfl (hb hby own_d1_28) rfl (feq hc7).2 (by decide) (by decide) ?_
            show Steps p.tables e below (s₁.setTop (mkF m 35 #[.val (.int p0)] [])) _
            exact k
          obtain ⟨T9, X9, e9, st9⟩ := getS2 X0 hx hZ hown (host := "") (Or.inl (hw _ (List.mem_of_getElem? (i := 31) rfl))) Via.refl e0 (S_TOP.ext O0.2) (g := (mkF m 35 #[.val (.int p0)] [])) rfl (hb hby own_d1_35)
          refine Go.st (V' := T9.setTop (mkF m 38 #[.val (.int p0)] [(.ref s_TOP)])) (fun t k => st9 t k) ?_
          obtain ⟨fs, hr, hrun, hended, hW, hsame⟩ := X9.leave (v := some (.ref s_TOP)) (fun h => by rw [Bd.returns] at h; cases h)
          refine Go.mk' ⟨_, _, retOut X9 hx Bd.returns rfl (Or.inr (Or.inr (Or.inr (Or.inr ⟨rfl, rfl, rfl⟩)))) (hb hby own_d1_38) hr, hrun, hended, _, _, rfl, ?_, ⟨_, rfl⟩, hW, hsame.mono (by decide) (by decide)⟩
          show Q1 Z s_BOT s_POS s_TOP s_ZERO s_NEG p0 h0 n0 _ T9.heap _
          rw [e9]
          exact ⟨(by rw [f1, if_neg hc1, if_neg hc3, if_neg hc5, if_neg hc7]), N0, rfl⟩
theorem own_d2_0 : decode method_3_code 0 = .ok (.iload_n 0, 1) := by decide +kernel
theorem own_d2_1 : decode method_3_code 1 = .ok (.ifCond .ne 5, 3) := by decide +kernel
theorem own_d2_4 : decode method_3_code 4 = .ok (.iconst 0, 1) := by decide +kernel
theorem own_d2_5 : decode method_3_code 5 = .ok (.ireturn, 1) := by decide +kernel
theorem own_d2_6 : decode method_3_code 6 = .ok (.iload_n 0, 1) := by decide +kernel
theorem own_d2_7 : decode method_3_code 7 = .ok (.iconst 4, 1) := by decide +kernel
theorem own_d2_8 : decode method_3_code 8 = .ok (.if_icmp .ne 5, 3) := by decide +kernel
theorem own_d2_11 : decode method_3_code 11 = .ok (.iconst 2, 1) := by decide +kernel
theorem own_d2_12 : decode method_3_code 12 = .ok (.ireturn, 1) := by decide +kernel
theorem own_d2_13 : decode method_3_code 13 = .ok (.iconst 1, 1) := by decide +kernel
theorem own_d2_14 : decode method_3_code 14 = .ok (.ireturn, 1) := by decide +kernel
theorem ef2 (m : MethodId) (p0 : Int32) : entryFrame m #[(.int p0)] 1 = mkF m 0 #[.val (.int p0)] [] := by first | (simp [entryFrame, mkF, argsToLocals, Value.category]; done) | rfl
def f2 (p0 : Int32) : Int32 := (if p0 = (0 : Int32) then (0 : Int32) else (if p0 = (4 : Int32) then (2 : Int32) else (1 : Int32)))
def Q2 (Z : State) (p0 : Int32) (h0 : Heap) (n0 : Nat) (v : Option Value) (h : Heap) (L : List Loc) : Prop := v = some (.int (f2 p0)) ∧ Fr n0 L ∧ h = h0
set_option maxRecDepth 65536 in
set_option maxHeartbeats 40000000 in
theorem rm2 (l : Launch) (Z : State) (a0 : Array Value) (hw : ∀ d ∈ tables_1, d.before a0 Z = true) (ws : List Jvm.Cond) (s_BOT : Addr) (s_POS : Addr) (s_TOP : Addr) (s_ZERO : Addr) (s_NEG : Addr) (HW : W0 Z s_BOT s_POS s_TOP s_ZERO s_NEG) (p0 : Int32) (h0 : Heap) (n0 : Nat) (O0 : Old Z n0 h0) :
    MetFree l (⟨"com/example/latticework/latticework/lattice/SignLeqPinLaw", "height", "(I)I"⟩ : MethodName) (head1 (Jvm.Cond.code (⟨"com/example/latticework/latticework/lattice/SignLeqPinLaw", "height", "(I)I"⟩ : MethodName) method_3_code 1 (some .int) :: ws) ({ frames := 0, cells := 0, slots := 0, locals := 0 } : Room)) (fun a U => a = #[(.int p0)] ∧ Z.Warmed39 U.vm ∧ U.heap = h0) (fun _ _ _ _ _ => True) (fun _ U o U' => ∃ v L, o = .returned v ∧ Q2 Z p0 h0 n0 v U'.heap L ∧ FrameEnd U o U' L ({ frames := 0, cells := 0, slots := 0, locals := 0 } : Room).cells ({ frames := 0, cells := 0, slots := 0, locals := 0 } : Room).slots) := by
  refine MetFree.of_bodySF (plainFor_of_name own_pn0) hisR ?_
  intro p e s m args below meth c s₁ Bd hml0 hP hK
  obtain ⟨rfl, hZ, hh⟩ := hP
  obtain ⟨E_BOT, S_BOT, E_POS, S_POS, E_TOP, S_TOP, E_ZERO, S_ZERO, E_NEG, S_NEG, F_TOP_ordinal, F_BOT_ordinal, F_ZERO_ordinal, F_POS_ordinal, F_NEG_ordinal⟩ := id HW
  have hx := Bd.exec
  have hby := Bd.bytes
  have hml : c.maxLocals = 1 := hml0
  have hown : s.vm.findClass "com/example/latticework/latticework/lattice/SignLeqPinLaw" = some m.cls := findClass_of_methodNamed Bd.named
  have hnm := (name_of_methodNamed Bd.named Bd.method).1
  have X0 : Stand p l e ({ frames := 0, cells := 0, slots := 0, locals := 0 } : Room) s m #[(.int p0)] below meth c s₁ [] 0 0 := Stand.of_body Bd
  have e0 : s₁.heap = h0 := by rw [← hh, Bd.state]; rfl
  have N0 := Fr.nil n0
  have K0 := Keep.refl h0 []
  refine Go.out ?_
  refine Go.st (V' := s₁.setTop (mkF m 0 #[.val (.int p0)] [])) (fun t k => castTop (ef2 m p0) k) ?_
  refine Go.st (V' := s₁.setTop (mkF m 1 #[.val (.int p0)] [(.int p0)])) (fun t k => ?_) ?_
  · refine XS.iloadN X0.here hx rfl (hb hby own_d2_0) rfl  ?_
    show Steps p.tables e below (s₁.setTop (mkF m 1 #[.val (.int p0)] [(.int p0)])) _
    exact k
  by_cases hc10 : p0 = (0 : Int32)
  · refine Go.st (V' := s₁.setTop (mkF m 5 #[.val (.int p0)] [(.int (0 : Int32))])) (fun t k => ?_) ?_
    · refine XS.ifNo X0.here hx rfl (hb hby own_d2_1) rfl ((if0 _ _).trans (teq hc10).2) ?_
      show Steps p.tables e below (s₁.setTop (mkF m 4 #[.val (.int p0)] [])) _
      refine XS.iconst X0.here hx rfl (hb hby own_d2_4) ?_
      show Steps p.tables e below (s₁.setTop (mkF m 5 #[.val (.int p0)] [(.int (0 : Int32))])) _
      exact k
    obtain ⟨fs, hr, hrun, hended, hW, hsame⟩ := X0.leave (v := some (.int (0 : Int32))) (fun h => by rw [Bd.returns] at h; cases h)
    refine Go.mk' ⟨_, _, retI X0 hx Bd.returns (hb hby own_d2_5) hr, hrun, hended, _, _, rfl, ?_, ⟨_, rfl⟩, hW, hsame.mono (by decide) (by decide)⟩
    show Q2 Z p0 h0 n0 _ s₁.heap _
    rw [e0]
    exact ⟨(by rw [f2, if_pos hc10]), N0, rfl⟩
  · refine Go.st (V' := s₁.setTop (mkF m 8 #[.val (.int p0)] [(.int (4 : Int32)), (.int p0)])) (fun t k => ?_) ?_
    · refine XS.ifYes X0.here hx rfl (pc0 := 1) (pc' := 6) rfl (hb hby own_d2_1) rfl ((if0 _ _).trans (feq hc10).2) (by decide) (by decide) ?_
      show Steps p.tables e below (s₁.setTop (mkF m 6 #[.val (.int p0)] [])) _
      refine XS.iloadN X0.here hx rfl (hb hby own_d2_6) rfl  ?_
      show Steps p.tables e below (s₁.setTop (mkF m 7 #[.val (.int p0)] [(.int p0)])) _
      refine XS.iconst X0.here hx rfl (hb hby own_d2_7) ?_
      show Steps p.tables e below (s₁.setTop (mkF m 8 #[.val (.int p0)] [(.int (4 : Int32)), (.int p0)])) _
      exact k
    by_cases hc11 : p0 = (4 : Int32)
    · refine Go.st (V' := s₁.setTop (mkF m 12 #[.val (.int p0)] [(.int (2 : Int32))])) (fun t k => ?_) ?_
      · refine XS.icmpNo X0.here hx rfl (hb hby own_d2_8) rfl (teq hc11).2 ?_
        show Steps p.tables e below (s₁.setTop (mkF m 11 #[.val (.int p0)] [])) _
        refine XS.iconst X0.here hx rfl (hb hby own_d2_11) ?_
        show Steps p.tables e below (s₁.setTop (mkF m 12 #[.val (.int p0)] [(.int (2 : Int32))])) _
        exact k
      obtain ⟨fs, hr, hrun, hended, hW, hsame⟩ := X0.leave (v := some (.int (2 : Int32))) (fun h => by rw [Bd.returns] at h; cases h)
      refine Go.mk' ⟨_, _, retI X0 hx Bd.returns (hb hby own_d2_12) hr, hrun, hended, _, _, rfl, ?_, ⟨_, rfl⟩, hW, hsame.mono (by decide) (by decide)⟩
      show Q2 Z p0 h0 n0 _ s₁.heap _
      rw [e0]
      exact ⟨(by rw [f2, if_neg hc10, if_pos hc11]), N0, rfl⟩
    · refine Go.st (V' := s₁.setTop (mkF m 14 #[.val (.int p0)] [(.int (1 : Int32))])) (fun t k => ?_) ?_
      · refine XS.icmpYes X0.here hx rfl (pc0 := 8) (pc' := 13) rfl (hb hby own_d2_8) rfl (feq hc11).2 (by decide) (by decide) ?_
        show Steps p.tables e below (s₁.setTop (mkF m 13 #[.val (.int p0)] [])) _
        refine XS.iconst X0.here hx rfl (hb hby own_d2_13) ?_
        show Steps p.tables e below (s₁.setTop (mkF m 14 #[.val (.int p0)] [(.int (1 : Int32))])) _
        exact k
      obtain ⟨fs, hr, hrun, hended, hW, hsame⟩ := X0.leave (v := some (.int (1 : Int32))) (fun h => by rw [Bd.returns] at h; cases h)
      refine Go.mk' ⟨_, _, retI X0 hx Bd.returns (hb hby own_d2_14) hr, hrun, hended, _, _, rfl, ?_, ⟨_, rfl⟩, hW, hsame.mono (by decide) (by decide)⟩
      show Q2 Z p0 h0 n0 _ s₁.heap _
      rw [e0]
      exact ⟨(by rw [f2, if_neg hc10, if_neg hc11]), N0, rfl⟩
theorem own_d4_0 : decode jdk_31_method_11_code 0 = .ok (.aload_n 0, 1) := by decide +kernel
theorem own_d4_1 : decode jdk_31_method_11_code 1 = .ok (.ifnonnull 12, 3) := by decide +kernel
theorem own_d4_13 : decode jdk_31_method_11_code 13 = .ok (.aload_n 0, 1) := by decide +kernel
theorem own_d4_14 : decode jdk_31_method_11_code 14 = .ok (.areturn, 1) := by decide +kernel
theorem own_pn1 : plainName "java/util/Objects" = true := by first | (simp [plainName, overriddenIn]; done) | decide +kernel
theorem ef4 (m : MethodId) (r0 : Addr) (r1 : Addr) : entryFrame m #[(.ref r0), (.ref r1)] 2 = mkF m 0 #[.val (.ref r0), .val (.ref r1)] [] := by first | (simp [entryFrame, mkF, argsToLocals, Value.category]; done) | rfl
def Q4 (Z : State) (r0 : Addr) (h0 : Heap) (n0 : Nat) (v : Option Value) (h : Heap) (L : List Loc) : Prop := v = some (.ref r0) ∧ Fr n0 L ∧ h = h0
set_option maxRecDepth 65536 in
set_option maxHeartbeats 40000000 in
theorem rm4 (l : Launch) (Z : State) (a0 : Array Value) (hw : ∀ d ∈ tables_1, d.before a0 Z = true) (ws : List Jvm.Cond) (s_BOT : Addr) (s_POS : Addr) (s_TOP : Addr) (s_ZERO : Addr) (s_NEG : Addr) (HW : W0 Z s_BOT s_POS s_TOP s_ZERO s_NEG) (r0 : Addr) (r1 : Addr) (h0 : Heap) (n0 : Nat) (O0 : Old Z n0 h0) :
    MetFree l (⟨"java/util/Objects", "requireNonNull", "(Ljava/lang/Object;Ljava/lang/String;)Ljava/lang/Object;"⟩ : MethodName) (head1 (Jvm.Cond.code (⟨"java/util/Objects", "requireNonNull", "(Ljava/lang/Object;Ljava/lang/String;)Ljava/lang/Object;"⟩ : MethodName) jdk_31_method_11_code 2 (some (.object "java/lang/Object")) :: ws) ({ frames := 0, cells := 0, slots := 0, locals := 0 } : Room)) (fun a U => a = #[(.ref r0), (.ref r1)] ∧ Z.Warmed39 U.vm ∧ U.heap = h0) (fun _ _ _ _ _ => True) (fun _ U o U' => ∃ v L, o = .returned v ∧ Q4 Z r0 h0 n0 v U'.heap L ∧ FrameEnd U o U' L ({ frames := 0, cells := 0, slots := 0, locals := 0 } : Room).cells ({ frames := 0, cells := 0, slots := 0, locals := 0 } : Room).slots) := by
  refine MetFree.of_bodySF (plainFor_of_name own_pn1) hisR ?_
  intro p e s m args below meth c s₁ Bd hml0 hP hK
  obtain ⟨rfl, hZ, hh⟩ := hP
  obtain ⟨E_BOT, S_BOT, E_POS, S_POS, E_TOP, S_TOP, E_ZERO, S_ZERO, E_NEG, S_NEG, F_TOP_ordinal, F_BOT_ordinal, F_ZERO_ordinal, F_POS_ordinal, F_NEG_ordinal⟩ := id HW
  have hx := Bd.exec
  have hby := Bd.bytes
  have hml : c.maxLocals = 2 := hml0
  have hown : s.vm.findClass "java/util/Objects" = some m.cls := findClass_of_methodNamed Bd.named
  have hnm := (name_of_methodNamed Bd.named Bd.method).1
  have X0 : Stand p l e ({ frames := 0, cells := 0, slots := 0, locals := 0 } : Room) s m #[(.ref r0), (.ref r1)] below meth c s₁ [] 0 0 := Stand.of_body Bd
  have e0 : s₁.heap = h0 := by rw [← hh, Bd.state]; rfl
  have N0 := Fr.nil n0
  have K0 := Keep.refl h0 []
  refine Go.out ?_
  refine Go.st (V' := s₁.setTop (mkF m 0 #[.val (.ref r0), .val (.ref r1)] [])) (fun t k => castTop (ef4 m r0 r1) k) ?_
  refine Go.st (V' := s₁.setTop (mkF m 14 #[.val (.ref r0), .val (.ref r1)] [(.ref r0)])) (fun t k => ?_) ?_
  · refine XS.aloadN X0.here hx rfl (hb hby own_d4_0) rfl rfl ?_
    show Steps p.tables e below (s₁.setTop (mkF m 1 #[.val (.ref r0), .val (.ref r1)] [(.ref r0)])) _
    refine XS.ifnonnullYes X0.here hx rfl (pc0 := 1) (pc' := 13) rfl (hb hby own_d4_1) rfl (by decide) (by decide) ?_
    show Steps p.tables e below (s₁.setTop (mkF m 13 #[.val (.ref r0), .val (.ref r1)] [])) _
    refine XS.aloadN X0.here hx rfl (hb hby own_d4_13) rfl rfl ?_
    show Steps p.tables e below (s₁.setTop (mkF m 14 #[.val (.ref r0), .val (.ref r1)] [(.ref r0)])) _
    exact k
  obtain ⟨fs, hr, hrun, hended, hW, hsame⟩ := X0.leave (v := some (.ref r0)) (fun h => by rw [Bd.returns] at h; cases h)
  refine Go.mk' ⟨_, _, retOut X0 hx Bd.returns rfl (Or.inr (Or.inr (Or.inr (Or.inr ⟨rfl, rfl, rfl⟩)))) (hb hby own_d4_14) hr, hrun, hended, _, _, rfl, ?_, ⟨_, rfl⟩, hW, hsame.mono (by decide) (by decide)⟩
  show Q4 Z r0 h0 n0 _ s₁.heap _
  rw [e0]
  exact ⟨rfl, N0, rfl⟩
theorem own_d3_0 : decode prog_75_method_6_code 0 = .ok (.aload_n 1, 1) := by decide +kernel
theorem own_d3_1 : decode prog_75_method_6_code 1 = .ok (.ldc 76, 2) := by decide +kernel
theorem own_d3_3 : decode prog_75_method_6_code 3 = .ok (.invokestatic 44, 3) := by decide +kernel
theorem own_pd39 : parseMethodDescriptor "(Ljava/lang/Object;Ljava/lang/String;)Ljava/lang/Object;" = some ⟨[(.object "java/lang/Object"), (.object "java/lang/String")], some (.object "java/lang/Object")⟩ := by decide +kernel
theorem own_d3_6 : decode prog_75_method_6_code 6 = .ok (.pop, 1) := by decide +kernel
theorem own_d3_7 : decode prog_75_method_6_code 7 = .ok (.aload_n 0, 1) := by decide +kernel
theorem own_d3_8 : decode prog_75_method_6_code 8 = .ok (.getstatic 3, 3) := by decide +kernel
theorem own_d3_11 : decode prog_75_method_6_code 11 = .ok (.if_acmp .eq 15, 3) := by decide +kernel
theorem own_d3_26 : decode prog_75_method_6_code 26 = .ok (.iconst 1, 1) := by decide +kernel
theorem own_d3_27 : decode prog_75_method_6_code 27 = .ok (.goto 4, 3) := by decide +kernel
theorem own_d3_31 : decode prog_75_method_6_code 31 = .ok (.ireturn, 1) := by decide +kernel
theorem own_d3_14 : decode prog_75_method_6_code 14 = .ok (.aload_n 1, 1) := by decide +kernel
theorem own_d3_15 : decode prog_75_method_6_code 15 = .ok (.getstatic 16, 3) := by decide +kernel
theorem own_d3_18 : decode prog_75_method_6_code 18 = .ok (.if_acmp .eq 8, 3) := by decide +kernel
theorem own_d3_21 : decode prog_75_method_6_code 21 = .ok (.aload_n 0, 1) := by decide +kernel
theorem own_d3_22 : decode prog_75_method_6_code 22 = .ok (.aload_n 1, 1) := by decide +kernel
theorem own_d3_23 : decode prog_75_method_6_code 23 = .ok (.if_acmp .ne 7, 3) := by decide +kernel
theorem own_d3_30 : decode prog_75_method_6_code 30 = .ok (.iconst 0, 1) := by decide +kernel
theorem own_pn2 : plainName "com/example/latticework/latticework/lattice/Sign" = true := by first | (simp [plainName, overriddenIn]; done) | decide +kernel
theorem ef3 (m : MethodId) (r0 : Addr) (r1 : Addr) : entryFrame m #[(.ref r0), (.ref r1)] 2 = mkF m 0 #[.val (.ref r0), .val (.ref r1)] [] := by first | (simp [entryFrame, mkF, argsToLocals, Value.category]; done) | rfl
def f3 (s_BOT : Addr) (s_TOP : Addr) (r0 : Addr) (r1 : Addr) : Int32 := (if r0 = s_BOT then (1 : Int32) else (if r1 = s_TOP then (1 : Int32) else (if r0 = r1 then (1 : Int32) else (0 : Int32))))
def Q3 (Z : State) (s_BOT : Addr) (s_TOP : Addr) (r0 : Addr) (r1 : Addr) (h0 : Heap) (n0 : Nat) (v : Option Value) (h : Heap) (L : List Loc) : Prop := v = some (.int (f3 s_BOT s_TOP r0 r1)) ∧ Fr n0 L ∧ Keep h0 h []
set_option maxRecDepth 65536 in
set_option maxHeartbeats 40000000 in
theorem rm3 (l : Launch) (Z : State) (a0 : Array Value) (hw : ∀ d ∈ tables_1, d.before a0 Z = true) (ws : List Jvm.Cond) (s_BOT : Addr) (s_POS : Addr) (s_TOP : Addr) (s_ZERO : Addr) (s_NEG : Addr) (HW : W0 Z s_BOT s_POS s_TOP s_ZERO s_NEG) (r0 : Addr) (r1 : Addr) (h0 : Heap) (n0 : Nat) (O0 : Old Z n0 h0) :
    MetFree l (⟨"com/example/latticework/latticework/lattice/Sign", "leq", "(Lcom/example/latticework/latticework/lattice/Sign;)Z"⟩ : MethodName) (head1 (Jvm.Cond.code (⟨"com/example/latticework/latticework/lattice/Sign", "leq", "(Lcom/example/latticework/latticework/lattice/Sign;)Z"⟩ : MethodName) prog_75_method_6_code 2 (some .boolean) :: ws) ({ frames := 1, cells := 2, slots := 24, locals := 13 } : Room)) (fun a U => a = #[(.ref r0), (.ref r1)] ∧ Z.Warmed39 U.vm ∧ U.heap = h0) (fun _ _ _ _ _ => True) (fun _ U o U' => ∃ v L, o = .returned v ∧ Q3 Z s_BOT s_TOP r0 r1 h0 n0 v U'.heap L ∧ ReturnedEndW U o U' L ({ frames := 1, cells := 2, slots := 24, locals := 13 } : Room).cells ({ frames := 1, cells := 2, slots := 24, locals := 13 } : Room).slots) := by
  refine MetFree.of_bodySF (plainFor_of_name own_pn2) hisR ?_
  intro p e s m args below meth c s₁ Bd hml0 hP hK
  obtain ⟨rfl, hZ, hh⟩ := hP
  obtain ⟨E_BOT, S_BOT, E_POS, S_POS, E_TOP, S_TOP, E_ZERO, S_ZERO, E_NEG, S_NEG, F_TOP_ordinal, F_BOT_ordinal, F_ZERO_ordinal, F_POS_ordinal, F_NEG_ordinal⟩ := id HW
  have hx := Bd.exec
  have hby := Bd.bytes
  have hml : c.maxLocals = 2 := hml0
  have hown : s.vm.findClass "com/example/latticework/latticework/lattice/Sign" = some m.cls := findClass_of_methodNamed Bd.named
  have hnm := (name_of_methodNamed Bd.named Bd.method).1
  have X0 : Stand p l e ({ frames := 1, cells := 2, slots := 24, locals := 13 } : Room) (s.setVm s.vm) m #[(.ref r0), (.ref r1)] below meth c s₁ [] 0 0 := Stand.of_body Bd
  have e0 : s₁.heap = h0 := by rw [← hh, Bd.state]; rfl
  have N0 := Fr.nil n0
  have hS : s.Since s.vm 0 := (State.WarmedH.refl s).since 0
  have hk : 0 ≤ h0.size := Nat.zero_le _
  have K0 := Keep.refl h0 []
  refine Go.out ?_
  refine Go.st (V' := s₁.setTop (mkF m 0 #[.val (.ref r0), .val (.ref r1)] [])) (fun t k => castTop (ef3 m r0 r1) k) ?_
  refine Go.st (V' := s₁.setTop (mkF m 1 #[.val (.ref r0), .val (.ref r1)] [(.ref r1)])) (fun t k => ?_) ?_
  · refine XS.aloadN X0.here hx rfl (hb hby own_d3_0) rfl rfl ?_
    show Steps p.tables e below (s₁.setTop (mkF m 1 #[.val (.ref r0), .val (.ref r1)] [(.ref r1)])) _
    exact k
  obtain ⟨a12, T12, h12, k12, X12, e12, E12, hS, hk, hZ, hown, st12⟩ := ldcS (s := s) X0 hx hZ hown (hw _ (List.mem_of_getElem? (i := 18) rfl)) (own_sa hw) e0 hS hk (g := (mkF m 1 #[.val (.ref r0), .val (.ref r1)] [(.ref r1)])) rfl (hb hby own_d3_1) (n := 20) (by decide) (by decide) (by decide) (by decide)
  have K12 := K0.ext E12
  have O12 := O0.ext E12
  refine Go.st (V' := T12.setTop (mkF m 3 #[.val (.ref r0), .val (.ref r1)] [(.ref a12), (.ref r1)])) (fun t k => st12 t k) ?_
  obtain ⟨_, _, ⟨T13, L13, k13, n13⟩, -, X13, ⟨Lc13, hQ13, l13, y13, z13⟩, st13⟩ := Jvm.LawKit.callS X12 hx (y := (⟨"java/util/Objects", "requireNonNull", "(Ljava/lang/Object;Ljava/lang/String;)Ljava/lang/Object;"⟩ : MethodName)) hown (mvT hZ (hw _ (List.mem_of_getElem? (i := 26) rfl))) (mvT hZ (hw _ (List.mem_of_getElem? (i := 27) rfl))) (mvT hZ (hw _ (List.mem_of_getElem? (i := 28) rfl))) (mvT hZ (hw _ (List.mem_of_getElem? (i := 29) rfl))) (by decide) (backOf (W := 0) (rm4 l Z a0 hw [] s_BOT s_POS s_TOP s_ZERO s_NEG HW r1 a12 h12 n0 O12) hZ (hw _ (List.mem_of_getElem? (i := 29) rfl)) (hw _ (List.mem_of_getElem? (i := 28) rfl)) (by decide) (by decide)) (g := (mkF m 3 #[.val (.ref r0), .val (.ref r1)] [(.ref a12), (.ref r1)])) rfl (by rw [hml]; rfl) (argsL := [(.ref r1), (.ref a12)]) (rest := []) (lenOf own_pd39 rfl) rfl (by show 2 * 0 + _ ≤ _; exact Nat.le_of_eq rfl) (hb hby own_d3_3) (fun _ _ => ⟨rfl, e12, (by decide : 2 + 0 ≤ _), (by decide : 24 + 0 ≤ _)⟩)
  dsimp only [Pt.U, Pt.locs, Pt.cells, Pt.slots] at X13 l13 y13 z13 st13 hQ13
  subst l13 y13 z13
  obtain ⟨rfl, N13q, e13⟩ := hQ13
  have N13 := Fr.app N0 N13q
  refine Go.st (V' := T13.setTop (mkF m 6 #[.val (.ref r0), .val (.ref r1)] [(.ref r1)])) (fun t k => st13 t k) ?_
  refine Go.st (V' := T13.setTop (mkF m 8 #[.val (.ref r0), .val (.ref r1)] [(.ref r0)])) (fun t k => ?_) ?_
  · refine XS.pop X13.here hx rfl (hb hby own_d3_6) rfl rfl ?_
    show Steps p.tables e below (T13.setTop (mkF m 7 #[.val (.ref r0), .val (.ref r1)] [])) _
    refine XS.aloadN X13.here hx rfl (hb hby own_d3_7) rfl rfl ?_
    show Steps p.tables e below (T13.setTop (mkF m 8 #[.val (.ref r0), .val (.ref r1)] [(.ref r0)])) _
    exact k
  obtain ⟨T14, X14, e14, st14⟩ := getS2 X13 hx hZ hown (host := "") (Or.inl (hw _ (List.mem_of_getElem? (i := 30) rfl))) Via.refl e13 (S_BOT.ext O12.2) (g := (mkF m 8 #[.val (.ref r0), .val (.ref r1)] [(.ref r0)])) rfl (hb hby own_d3_8)
  refine Go.st (V' := T14.setTop (mkF m 11 #[.val (.ref r0), .val (.ref r1)] [(.ref s_BOT), (.ref r0)])) (fun t k => st14 t k) ?_
  by_cases hc15 : r0 = s_BOT
  · refine Go.st (V' := T14.setTop (mkF m 31 #[.val (.ref r0), .val (.ref r1)] [(.int (1 : Int32))])) (fun t k => ?_) ?_
    · refine Jvm.RoadKit.acmp (g := (mkF m 11 #[.val (.ref r0), .val (.ref r1)] [(.ref s_BOT), (.ref r0)])) X14 hx rfl rfl rfl (pc0 := 11) (pc' := 26) (same := true) rfl (hb hby own_d3_11) rfl (decide_eq_true (congrArg Value.ref hc15)) (by decide) (by decide) ?_
      show Steps p.tables e below (T14.setTop (mkF m 26 #[.val (.ref r0), .val (.ref r1)] [])) _
      refine XS.iconst X14.here hx rfl (hb hby own_d3_26) ?_
      show Steps p.tables e below (T14.setTop (mkF m 27 #[.val (.ref r0), .val (.ref r1)] [(.int (1 : Int32))])) _
      refine XS.goto X14.here hx rfl (pc0 := 27) (pc' := 31) rfl (hb hby own_d3_27) (by decide) (by decide) ?_
      show Steps p.tables e below (T14.setTop (mkF m 31 #[.val (.ref r0), .val (.ref r1)] [(.int (1 : Int32))])) _
      exact k
    obtain ⟨fs, hr, hrun, hended, hW⟩ := X14.leaveW hS (by rw [e14]; exact hk) (v := some (.int (1 : Int32))) (fun h => by rw [Bd.returns] at h; cases h)
    refine Go.mk' ⟨_, _, retN X14 hx (t := .boolean) Bd.returns (by simp) (hb hby own_d3_31) hr, hrun, hended, _, _, rfl, ?_, hW.1, hW.2.1, hW.2.2.1, hW.2.2.2.mono (by decide) (by decide)⟩
    show Q3 Z s_BOT s_TOP r0 r1 h0 n0 _ T14.heap _
    rw [e14]
    exact ⟨(by rw [f3, if_pos hc15]), N13, K12⟩
  · refine Go.st (V' := T14.setTop (mkF m 15 #[.val (.ref r0), .val (.ref r1)] [(.ref r1)])) (fun t k => ?_) ?_
    · refine Jvm.RoadKit.acmp (g := (mkF m 11 #[.val (.ref r0), .val (.ref r1)] [(.ref s_BOT), (.ref r0)])) X14 hx rfl rfl rfl (pc0 := 11) (pc' := 14) (same := false) rfl (hb hby own_d3_11) rfl (decide_eq_false fun q => hc15 (Value.ref.inj q)) (by decide) (by decide) ?_
      show Steps p.tables e below (T14.setTop (mkF m 14 #[.val (.ref r0), .val (.ref r1)] [])) _
      refine XS.aloadN X14.here hx rfl (hb hby own_d3_14) rfl rfl ?_
      show Steps p.tables e below (T14.setTop (mkF m 15 #[.val (.ref r0), .val (.ref r1)] [(.ref r1)])) _
      exact k
    obtain ⟨T16, X16, e16, st16⟩ := getS2 X14 hx hZ hown (host := "") (Or.inl (hw _ (List.mem_of_getElem? (i := 35) rfl))) Via.refl e14 (S_TOP.ext O12.2) (g := (mkF m 15 #[.val (.ref r0), .val (.ref r1)] [(.ref r1)])) rfl (hb hby own_d3_15)
    refine Go.st (V' := T16.setTop (mkF m 18 #[.val (.ref r0), .val (.ref r1)] [(.ref s_TOP), (.ref r1)])) (fun t k => st16 t k) ?_
    by_cases hc17 : r1 = s_TOP
    · refine Go.st (V' := T16.setTop (mkF m 31 #[.val (.ref r0), .val (.ref r1)] [(.int (1 : Int32))])) (fun t k => ?_) ?_
      · refine Jvm.RoadKit.acmp (g := (mkF m 18 #[.val (.ref r0), .val (.ref r1)] [(.ref s_TOP), (.ref r1)])) X16 hx rfl rfl rfl (pc0 := 18) (pc' := 26) (same := true) rfl (hb hby own_d3_18) rfl (decide_eq_true (congrArg Value.ref hc17)) (by decide) (by decide) ?_
        show Steps p.tables e below (T16.setTop (mkF m 26 #[.val (.ref r0), .val (.ref r1)] [])) _
        refine XS.iconst X16.here hx rfl (hb hby own_d3_26) ?_
        show Steps p.tables e below (T16.setTop (mkF m 27 #[.val (.ref r0), .val (.ref r1)] [(.int (1 : Int32))])) _
        refine XS.goto X16.here hx rfl (pc0 := 27) (pc' := 31) rfl (hb hby own_d3_27) (by decide) (by decide) ?_
        show Steps p.tables e below (T16.setTop (mkF m 31 #[.val (.ref r0), .val (.ref r1)] [(.int (1 : Int32))])) _
        exact k
      obtain ⟨fs, hr, hrun, hended, hW⟩ := X16.leaveW hS (by rw [e16]; exact hk) (v := some (.int (1 : Int32))) (fun h => by rw [Bd.returns] at h; cases h)
      refine Go.mk' ⟨_, _, retN X16 hx (t := .boolean) Bd.returns (by simp) (hb hby own_d3_31) hr, hrun, hended, _, _, rfl, ?_, hW.1, hW.2.1, hW.2.2.1, hW.2.2.2.mono (by decide) (by decide)⟩
      show Q3 Z s_BOT s_TOP r0 r1 h0 n0 _ T16.heap _
      rw [e16]
      exact ⟨(by rw [f3, if_neg hc15, if_pos hc17]), N13, K12⟩
    · refine Go.st (V' := T16.setTop (mkF m 23 #[.val (.ref r0), .val (.ref r1)] [(.ref r1), (.ref r0)])) (fun t k => ?_) ?_
      · refine Jvm.RoadKit.acmp (g := (mkF m 18 #[.val (.ref r0), .val (.ref r1)] [(.ref s_TOP), (.ref r1)])) X16 hx rfl rfl rfl (pc0 := 18) (pc' := 21) (same := false) rfl (hb hby own_d3_18) rfl (decide_eq_false fun q => hc17 (Value.ref.inj q)) (by decide) (by decide) ?_
        show Steps p.tables e below (T16.setTop (mkF m 21 #[.val (.ref r0), .val (.ref r1)] [])) _
        refine XS.aloadN X16.here hx rfl (hb hby own_d3_21) rfl rfl ?_
        show Steps p.tables e below (T16.setTop (mkF m 22 #[.val (.ref r0), .val (.ref r1)] [(.ref r0)])) _
        refine XS.aloadN X16.here hx rfl (hb hby own_d3_22) rfl rfl ?_
        show Steps p.tables e below (T16.setTop (mkF m 23 #[.val (.ref r0), .val (.ref r1)] [(.ref r1), (.ref r0)])) _
        exact k
      by_cases hc18 : r0 = r1
      · refine Go.st (V' := T16.setTop (mkF m 31 #[.val (.ref r0), .val (.ref r1)] [(.int (1 : Int32))])) (fun t k => ?_) ?_
        · refine Jvm.RoadKit.acmp (g := (mkF m 23 #[.val (.ref r0), .val (.ref r1)] [(.ref r1), (.ref r0)])) X16 hx rfl rfl rfl (pc0 := 23) (pc' := 26) (same := true) rfl (hb hby own_d3_23) rfl (decide_eq_true (congrArg Value.ref hc18)) (by decide) (by decide) ?_
          show Steps p.tables e below (T16.setTop (mkF m 26 #[.val (.ref r0), .val (.ref r1)] [])) _
          refine XS.iconst X16.here hx rfl (hb hby own_d3_26) ?_
          show Steps p.tables e below (T16.setTop (mkF m 27 #[.val (.ref r0), .val (.ref r1)] [(.int (1 : Int32))])) _
          refine XS.goto X16.here hx rfl (pc0 := 27) (pc' := 31) rfl (hb hby own_d3_27) (by decide) (by decide) ?_
          show Steps p.tables e below (T16.setTop (mkF m 31 #[.val (.ref r0), .val (.ref r1)] [(.int (1 : Int32))])) _
          exact k
        obtain ⟨fs, hr, hrun, hended, hW⟩ := X16.leaveW hS (by rw [e16]; exact hk) (v := some (.int (1 : Int32))) (fun h => by rw [Bd.returns] at h; cases h)
        refine Go.mk' ⟨_, _, retN X16 hx (t := .boolean) Bd.returns (by simp) (hb hby own_d3_31) hr, hrun, hended, _, _, rfl, ?_, hW.1, hW.2.1, hW.2.2.1, hW.2.2.2.mono (by decide) (by decide)⟩
        show Q3 Z s_BOT s_TOP r0 r1 h0 n0 _ T16.heap _
        rw [e16]
        exact ⟨(by rw [f3, if_neg hc15, if_neg hc17, if_pos hc18]), N13, K12⟩
      · refine Go.st (V' := T16.setTop (mkF m 31 #[.val (.ref r0), .val (.ref r1)] [(.int (0 : Int32))])) (fun t k => ?_) ?_
        · refine Jvm.RoadKit.acmp (g := (mkF m 23 #[.val (.ref r0), .val (.ref r1)] [(.ref r1), (.ref r0)])) X16 hx rfl rfl rfl (pc0 := 23) (pc' := 30) (same := false) rfl (hb hby own_d3_23) rfl (decide_eq_false fun q => hc18 (Value.ref.inj q)) (by decide) (by decide) ?_
          show Steps p.tables e below (T16.setTop (mkF m 30 #[.val (.ref r0), .val (.ref r1)] [])) _
          refine XS.iconst X16.here hx rfl (hb hby own_d3_30) ?_
          show Steps p.tables e below (T16.setTop (mkF m 31 #[.val (.ref r0), .val (.ref r1)] [(.int (0 : Int32))])) _
          exact k
        obtain ⟨fs, hr, hrun, hended, hW⟩ := X16.leaveW hS (by rw [e16]; exact hk) (v := some (.int (0 : Int32))) (fun h => by rw [Bd.returns] at h; cases h)
        refine Go.mk' ⟨_, _, retN X16 hx (t := .boolean) Bd.returns (by simp) (hb hby own_d3_31) hr, hrun, hended, _, _, rfl, ?_, hW.1, hW.2.1, hW.2.2.1, hW.2.2.2.mono (by decide) (by decide)⟩
        show Q3 Z s_BOT s_TOP r0 r1 h0 n0 _ T16.heap _
        rw [e16]
        exact ⟨(by rw [f3, if_neg hc15, if_neg hc17, if_neg hc18]), N13, K12⟩
theorem own_pickE (Z : State) (s_BOT : Addr) (s_POS : Addr) (s_TOP : Addr) (s_ZERO : Addr) (s_NEG : Addr) (HW : W0 Z s_BOT s_POS s_TOP s_ZERO s_NEG) (p0 : Int32) : Exa Z Z.heap (f1 s_BOT s_POS s_TOP s_ZERO s_NEG p0) "com/example/latticework/latticework/lattice/Sign" := by
  obtain ⟨E_BOT, S_BOT, E_POS, S_POS, E_TOP, S_TOP, E_ZERO, S_ZERO, E_NEG, S_NEG, F_TOP_ordinal, F_BOT_ordinal, F_ZERO_ordinal, F_POS_ordinal, F_NEG_ordinal⟩ := id HW
  unfold f1
  repeat' split
  all_goals assumption
set_option maxHeartbeats 4000000 in
theorem own_leq (Z : State) (s_BOT : Addr) (s_POS : Addr) (s_TOP : Addr) (s_ZERO : Addr) (s_NEG : Addr) (HW : W0 Z s_BOT s_POS s_TOP s_ZERO s_NEG) (i j : Int32) (hi : 0 ≤ i.toInt ∧ i.toInt < 5) (hj : 0 ≤ j.toInt ∧ j.toInt < 5) : (f3 s_BOT s_TOP (f1 s_BOT s_POS s_TOP s_ZERO s_NEG i) (f1 s_BOT s_POS s_TOP s_ZERO s_NEG j)) = if i = j then 1 else if (f2 i) < (f2 j) then 1 else 0 := by
  obtain ⟨E_BOT, S_BOT, E_POS, S_POS, E_TOP, S_TOP, E_ZERO, S_ZERO, E_NEG, S_NEG, F_TOP_ordinal, F_BOT_ordinal, F_ZERO_ordinal, F_POS_ordinal, F_NEG_ordinal⟩ := id HW
  have n_BOT_ZERO : s_BOT ≠ s_ZERO := Fld.ne F_BOT_ordinal F_ZERO_ordinal (by decide)
  have n_BOT_NEG : s_BOT ≠ s_NEG := Fld.ne F_BOT_ordinal F_NEG_ordinal (by decide)
  have n_BOT_POS : s_BOT ≠ s_POS := Fld.ne F_BOT_ordinal F_POS_ordinal (by decide)
  have n_BOT_TOP : s_BOT ≠ s_TOP := Fld.ne F_BOT_ordinal F_TOP_ordinal (by decide)
  have n_ZERO_BOT : s_ZERO ≠ s_BOT := Fld.ne F_ZERO_ordinal F_BOT_ordinal (by decide)
  have n_ZERO_NEG : s_ZERO ≠ s_NEG := Fld.ne F_ZERO_ordinal F_NEG_ordinal (by decide)
  have n_ZERO_POS : s_ZERO ≠ s_POS := Fld.ne F_ZERO_ordinal F_POS_ordinal (by decide)
  have n_ZERO_TOP : s_ZERO ≠ s_TOP := Fld.ne F_ZERO_ordinal F_TOP_ordinal (by decide)
  have n_NEG_BOT : s_NEG ≠ s_BOT := Fld.ne F_NEG_ordinal F_BOT_ordinal (by decide)
  have n_NEG_ZERO : s_NEG ≠ s_ZERO := Fld.ne F_NEG_ordinal F_ZERO_ordinal (by decide)
  have n_NEG_POS : s_NEG ≠ s_POS := Fld.ne F_NEG_ordinal F_POS_ordinal (by decide)
  have n_NEG_TOP : s_NEG ≠ s_TOP := Fld.ne F_NEG_ordinal F_TOP_ordinal (by decide)
  have n_POS_BOT : s_POS ≠ s_BOT := Fld.ne F_POS_ordinal F_BOT_ordinal (by decide)
  have n_POS_ZERO : s_POS ≠ s_ZERO := Fld.ne F_POS_ordinal F_ZERO_ordinal (by decide)
  have n_POS_NEG : s_POS ≠ s_NEG := Fld.ne F_POS_ordinal F_NEG_ordinal (by decide)
  have n_POS_TOP : s_POS ≠ s_TOP := Fld.ne F_POS_ordinal F_TOP_ordinal (by decide)
  have n_TOP_BOT : s_TOP ≠ s_BOT := Fld.ne F_TOP_ordinal F_BOT_ordinal (by decide)
  have n_TOP_ZERO : s_TOP ≠ s_ZERO := Fld.ne F_TOP_ordinal F_ZERO_ordinal (by decide)
  have n_TOP_NEG : s_TOP ≠ s_NEG := Fld.ne F_TOP_ordinal F_NEG_ordinal (by decide)
  have n_TOP_POS : s_TOP ≠ s_POS := Fld.ne F_TOP_ordinal F_POS_ordinal (by decide)
  rcases own_cases5 hi with rfl | rfl | rfl | rfl | rfl <;> rcases own_cases5 hj with rfl | rfl | rfl | rfl | rfl <;> simp [f3, f1, f2, n_BOT_ZERO, n_BOT_NEG, n_BOT_POS, n_BOT_TOP, n_ZERO_BOT, n_ZERO_NEG, n_ZERO_POS, n_ZERO_TOP, n_NEG_BOT, n_NEG_ZERO, n_NEG_POS, n_NEG_TOP, n_POS_BOT, n_POS_ZERO, n_POS_NEG, n_POS_TOP, n_TOP_BOT, n_TOP_ZERO, n_TOP_NEG, n_TOP_POS]
theorem own_pd54 : parseMethodDescriptor "(I)Lcom/example/latticework/latticework/lattice/Sign;" = some ⟨[.int], some (.object "com/example/latticework/latticework/lattice/Sign")⟩ := by decide +kernel
theorem own_pd55 : parseMethodDescriptor "(Lcom/example/latticework/latticework/lattice/Sign;)Z" = some ⟨[(.object "com/example/latticework/latticework/lattice/Sign")], some .boolean⟩ := by decide +kernel
theorem own_pd56 : parseMethodDescriptor "(I)I" = some ⟨[.int], some .int⟩ := by decide +kernel
theorem ef0 (m : MethodId) (p0 : Int32) (p1 : Int32) : entryFrame m #[(.int p0), (.int p1)] maxLocals = mkF m 0 #[.val (.int p0), .val (.int p1), .unset, .unset, .unset, .unset, .unset] [] := by first | (simp [entryFrame, mkF, argsToLocals, Value.category, maxLocals]; done) | rfl
def Q0 (Z : State) (p0 : Int32) (p1 : Int32) (h0 : Heap) (n0 : Nat) (v : Option Value) (h : Heap) (L : List Loc) : Prop := v = some (.int 1) ∧ Fr n0 L
set_option maxRecDepth 65536 in
set_option maxHeartbeats 40000000 in
theorem rm0 (l : Launch) (Z : State) (a0 : Array Value) (hw : ∀ d ∈ tables_1, d.before a0 Z = true) (ws : List Jvm.Cond) (s_BOT : Addr) (s_POS : Addr) (s_TOP : Addr) (s_ZERO : Addr) (s_NEG : Addr) (HW : W0 Z s_BOT s_POS s_TOP s_ZERO s_NEG) (p0 : Int32) (p1 : Int32) (h0 : Heap) (n0 : Nat) (O0 : Old Z n0 h0) :
    MetFree l x (head1 (Jvm.Cond.code x code maxLocals ret :: ws) room_1) (fun a U => a = #[(.int p0), (.int p1)] ∧ Z.Warmed39 U.vm ∧ U.heap = h0) (fun _ _ _ _ _ => True) (fun _ U o U' => ∃ v L, o = .returned v ∧ Q0 Z p0 p1 h0 n0 v U'.heap L ∧ ReturnedEndW U o U' L room_1.cells room_1.slots) := by
  refine MetFree.of_bodySF (plainFor_of_name own_pn0) hisR ?_
  intro p e s m args below meth c s₁ Bd hml0 hP hK
  obtain ⟨rfl, hZ, hh⟩ := hP
  obtain ⟨E_BOT, S_BOT, E_POS, S_POS, E_TOP, S_TOP, E_ZERO, S_ZERO, E_NEG, S_NEG, F_TOP_ordinal, F_BOT_ordinal, F_ZERO_ordinal, F_POS_ordinal, F_NEG_ordinal⟩ := id HW
  have hx := Bd.exec
  have hby := Bd.bytes
  have hml : c.maxLocals = 7 := hml0
  have hown : s.vm.findClass "com/example/latticework/latticework/lattice/SignLeqPinLaw" = some m.cls := findClass_of_methodNamed Bd.named
  have hnm := (name_of_methodNamed Bd.named Bd.method).1
  have X0 : Stand p l e room_1 (s.setVm s.vm) m #[(.int p0), (.int p1)] below meth c s₁ [] 0 0 := Stand.of_body Bd
  have e0 : s₁.heap = h0 := by rw [← hh, Bd.state]; rfl
  have N0 := Fr.nil n0
  have hS : s.Since s.vm 0 := (State.WarmedH.refl s).since 0
  have hk : 0 ≤ h0.size := Nat.zero_le _
  refine Go.out ?_
  refine Go.st (V' := s₁.setTop (mkF m 0 #[.val (.int p0), .val (.int p1), .unset, .unset, .unset, .unset, .unset] [])) (fun t k => castTop (ef0 m p0 p1) k) ?_
  refine Go.st (V' := s₁.setTop (mkF m 14 #[.val (.int p0), .val (.int p1), .val (.int ((p0 &&& (2147483647 : Int32)) % (5 : Int32))), .val (.int ((p1 &&& (2147483647 : Int32)) % (5 : Int32))), .unset, .unset, .unset] [])) (fun t k => ?_) ?_
  · refine XS.iloadN X0.here hx rfl (hb hby at_0) rfl  ?_
    show Steps p.tables e below (s₁.setTop (mkF m 1 #[.val (.int p0), .val (.int p1), .unset, .unset, .unset, .unset, .unset] [(.int p0)])) _
    refine X0.ldcInt hx hown (mvT hZ (hw _ (List.mem_of_getElem? (i := 0) rfl))) (g := (mkF m 1 #[.val (.int p0), .val (.int p1), .unset, .unset, .unset, .unset, .unset] [(.int p0)])) rfl (hb hby at_1) _ ?_
    show Steps p.tables e below (s₁.setTop (mkF m 3 #[.val (.int p0), .val (.int p1), .unset, .unset, .unset, .unset, .unset] [(.int (2147483647 : Int32)), (.int p0)])) _
    refine XS.iand X0.here hx rfl (hb hby at_3) rfl ?_
    show Steps p.tables e below (s₁.setTop (mkF m 4 #[.val (.int p0), .val (.int p1), .unset, .unset, .unset, .unset, .unset] [(.int (p0 &&& (2147483647 : Int32)))])) _
    refine XS.iconst X0.here hx rfl (hb hby at_4) ?_
    show Steps p.tables e below (s₁.setTop (mkF m 5 #[.val (.int p0), .val (.int p1), .unset, .unset, .unset, .unset, .unset] [(.int (5 : Int32)), (.int (p0 &&& (2147483647 : Int32)))])) _
    refine iremM X0 hx rfl (hb hby at_5) rfl (by decide) ?_
    show Steps p.tables e below (s₁.setTop (mkF m 6 #[.val (.int p0), .val (.int p1), .unset, .unset, .unset, .unset, .unset] [(.int ((p0 &&& (2147483647 : Int32)) % (5 : Int32)))])) _
    refine XS.istoreN X0.here hx rfl (hb hby at_6) rfl (l' := #[.val (.int p0), .val (.int p1), .val (.int ((p0 &&& (2147483647 : Int32)) % (5 : Int32))), .unset, .unset, .unset, .unset]) rfl ?_
    show Steps p.tables e below (s₁.setTop (mkF m 7 #[.val (.int p0), .val (.int p1), .val (.int ((p0 &&& (2147483647 : Int32)) % (5 : Int32))), .unset, .unset, .unset, .unset] [])) _
    refine XS.iloadN X0.here hx rfl (hb hby at_7) rfl  ?_
    show Steps p.tables e below (s₁.setTop (mkF m 8 #[.val (.int p0), .val (.int p1), .val (.int ((p0 &&& (2147483647 : Int32)) % (5 : Int32))), .unset, .unset, .unset, .unset] [(.int p1)])) _
    refine X0.ldcInt hx hown (mvT hZ (hw _ (List.mem_of_getElem? (i := 0) rfl))) (g := (mkF m 8 #[.val (.int p0), .val (.int p1), .val (.int ((p0 &&& (2147483647 : Int32)) % (5 : Int32))), .unset, .unset, .unset, .unset] [(.int p1)])) rfl (hb hby at_8) _ ?_
    show Steps p.tables e below (s₁.setTop (mkF m 10 #[.val (.int p0), .val (.int p1), .val (.int ((p0 &&& (2147483647 : Int32)) % (5 : Int32))), .unset, .unset, .unset, .unset] [(.int (2147483647 : Int32)), (.int p1)])) _
    refine XS.iand X0.here hx rfl (hb hby at_10) rfl ?_
    show Steps p.tables e below (s₁.setTop (mkF m 11 #[.val (.int p0), .val (.int p1), .val (.int ((p0 &&& (2147483647 : Int32)) % (5 : Int32))), .unset, .unset, .unset, .unset] [(.int (p1 &&& (2147483647 : Int32)))])) _
    refine XS.iconst X0.here hx rfl (hb hby at_11) ?_
    show Steps p.tables e below (s₁.setTop (mkF m 12 #[.val (.int p0), .val (.int p1), .val (.int ((p0 &&& (2147483647 : Int32)) % (5 : Int32))), .unset, .unset, .unset, .unset] [(.int (5 : Int32)), (.int (p1 &&& (2147483647 : Int32)))])) _
    refine iremM X0 hx rfl (hb hby at_12) rfl (by decide) ?_
    show Steps p.tables e below (s₁.setTop (mkF m 13 #[.val (.int p0), .val (.int p1), .val (.int ((p0 &&& (2147483647 : Int32)) % (5 : Int32))), .unset, .unset, .unset, .unset] [(.int ((p1 &&& (2147483647 : Int32)) % (5 : Int32)))])) _
    refine XS.istoreN X0.here hx rfl (hb hby at_13) rfl (l' := #[.val (.int p0), .val (.int p1), .val (.int ((p0 &&& (2147483647 : Int32)) % (5 : Int32))), .val (.int ((p1 &&& (2147483647 : Int32)) % (5 : Int32))), .unset, .unset, .unset]) rfl ?_
    show Steps p.tables e below (s₁.setTop (mkF m 14 #[.val (.int p0), .val (.int p1), .val (.int ((p0 &&& (2147483647 : Int32)) % (5 : Int32))), .val (.int ((p1 &&& (2147483647 : Int32)) % (5 : Int32))), .unset, .unset, .unset] [])) _
    exact k
  obtain ⟨ka, h_ka⟩ : ∃ z, z = ((p0 &&& (2147483647 : Int32)) % (5 : Int32)) := ⟨_, rfl⟩
  rw [← h_ka]
  have hrg_ka : 0 ≤ ka.toInt ∧ ka.toInt < 5 := by rw [h_ka]; exact own_rng _ _ _ (by decide) (by decide)
  obtain ⟨kb, h_kb⟩ : ∃ z, z = ((p1 &&& (2147483647 : Int32)) % (5 : Int32)) := ⟨_, rfl⟩
  rw [← h_kb]
  have hrg_kb : 0 ≤ kb.toInt ∧ kb.toInt < 5 := by rw [h_kb]; exact own_rng _ _ _ (by decide) (by decide)
  refine Go.st (V' := s₁.setTop (mkF m 15 #[.val (.int p0), .val (.int p1), .val (.int ka), .val (.int kb), .unset, .unset, .unset] [(.int ka)])) (fun t k => ?_) ?_
  · refine XS.iloadN X0.here hx rfl (hb hby at_14) rfl  ?_
    show Steps p.tables e below (s₁.setTop (mkF m 15 #[.val (.int p0), .val (.int p1), .val (.int ka), .val (.int kb), .unset, .unset, .unset] [(.int ka)])) _
    exact k
  obtain ⟨_, _, ⟨T19, L19, k19, n19⟩, -, X19, ⟨Lc19, hQ19, l19, y19, z19⟩, st19⟩ := Jvm.LawKit.callS X0 hx (y := (⟨"com/example/latticework/latticework/lattice/SignLeqPinLaw", "pick", "(I)Lcom/example/latticework/latticework/lattice/Sign;"⟩ : MethodName)) hown (mvT hZ (hw _ (List.mem_of_getElem? (i := 1) rfl))) (mvT hZ (hw _ (List.mem_of_getElem? (i := 2) rfl))) (mvT hZ (hw _ (List.mem_of_getElem? (i := 3) rfl))) (mvT hZ (hw _ (List.mem_of_getElem? (i := 4) rfl))) (by decide) (backOf (W := 0) (rm1 l Z a0 hw [] s_BOT s_POS s_TOP s_ZERO s_NEG HW ka h0 n0 O0) hZ (hw _ (List.mem_of_getElem? (i := 4) rfl)) (hw _ (List.mem_of_getElem? (i := 3) rfl)) (by decide) (by decide)) (g := (mkF m 15 #[.val (.int p0), .val (.int p1), .val (.int ka), .val (.int kb), .unset, .unset, .unset] [(.int ka)])) rfl (by rw [hml]; rfl) (argsL := [(.int ka)]) (rest := []) (lenOf own_pd54 rfl) rfl (by show 2 * 0 + _ ≤ _; exact Nat.le_of_eq rfl) (hb hby at_15) (fun _ _ => ⟨rfl, e0, (by decide : 0 + 0 ≤ _), (by decide : 0 + 0 ≤ _)⟩)
  dsimp only [Pt.U, Pt.locs, Pt.cells, Pt.slots] at X19 l19 y19 z19 st19 hQ19
  subst l19 y19 z19
  obtain ⟨rfl, N19q, e19⟩ := hQ19
  have N19 := Fr.app N0 N19q
  refine Go.st (V' := T19.setTop (mkF m 18 #[.val (.int p0), .val (.int p1), .val (.int ka), .val (.int kb), .unset, .unset, .unset] [(.ref (f1 s_BOT s_POS s_TOP s_ZERO s_NEG ka))])) (fun t k => st19 t k) ?_
  obtain ⟨oa, h_oa⟩ : ∃ z, z = (f1 s_BOT s_POS s_TOP s_ZERO s_NEG ka) := ⟨_, rfl⟩
  rw [← h_oa]
  have E_oa : Exa Z Z.heap oa "com/example/latticework/latticework/lattice/Sign" := by rw [h_oa]; exact own_pickE Z s_BOT s_POS s_TOP s_ZERO s_NEG HW ka
  refine Go.st (V' := T19.setTop (mkF m 21 #[.val (.int p0), .val (.int p1), .val (.int ka), .val (.int kb), .val (.ref oa), .unset, .unset] [(.int kb)])) (fun t k => ?_) ?_
  · refine XS.astore X19.here hx rfl (hb hby at_18) rfl rfl (l' := #[.val (.int p0), .val (.int p1), .val (.int ka), .val (.int kb), .val (.ref oa), .unset, .unset]) rfl ?_
    show Steps p.tables e below (T19.setTop (mkF m 20 #[.val (.int p0), .val (.int p1), .val (.int ka), .val (.int kb), .val (.ref oa), .unset, .unset] [])) _
    refine XS.iloadN X19.here hx rfl (hb hby at_20) rfl  ?_
    show Steps p.tables e below (T19.setTop (mkF m 21 #[.val (.int p0), .val (.int p1), .val (.int ka), .val (.int kb), .val (.ref oa), .unset, .unset] [(.int kb)])) _
    exact k
  obtain ⟨_, _, ⟨T20, L20, k20, n20⟩, -, X20, ⟨Lc20, hQ20, l20, y20, z20⟩, st20⟩ := Jvm.LawKit.callS X19 hx (y := (⟨"com/example/latticework/latticework/lattice/SignLeqPinLaw", "pick", "(I)Lcom/example/latticework/latticework/lattice/Sign;"⟩ : MethodName)) hown (mvT hZ (hw _ (List.mem_of_getElem? (i := 1) rfl))) (mvT hZ (hw _ (List.mem_of_getElem? (i := 2) rfl))) (mvT hZ (hw _ (List.mem_of_getElem? (i := 3) rfl))) (mvT hZ (hw _ (List.mem_of_getElem? (i := 4) rfl))) (by decide) (backOf (W := 0) (rm1 l Z a0 hw [] s_BOT s_POS s_TOP s_ZERO s_NEG HW kb h0 n0 O0) hZ (hw _ (List.mem_of_getElem? (i := 4) rfl)) (hw _ (List.mem_of_getElem? (i := 3) rfl)) (by decide) (by decide)) (g := (mkF m 21 #[.val (.int p0), .val (.int p1), .val (.int ka), .val (.int kb), .val (.ref oa), .unset, .unset] [(.int kb)])) rfl (by rw [hml]; rfl) (argsL := [(.int kb)]) (rest := []) (lenOf own_pd54 rfl) rfl (by show 2 * 0 + _ ≤ _; exact Nat.le_of_eq rfl) (hb hby at_21) (fun _ _ => ⟨rfl, e19, (by decide : 0 + 0 ≤ _), (by decide : 0 + 0 ≤ _)⟩)
  dsimp only [Pt.U, Pt.locs, Pt.cells, Pt.slots] at X20 l20 y20 z20 st20 hQ20
  subst l20 y20 z20
  obtain ⟨rfl, N20q, e20⟩ := hQ20
  have N20 := Fr.app N19 N20q
  refine Go.st (V' := T20.setTop (mkF m 24 #[.val (.int p0), .val (.int p1), .val (.int ka), .val (.int kb), .val (.ref oa), .unset, .unset] [(.ref (f1 s_BOT s_POS s_TOP s_ZERO s_NEG kb))])) (fun t k => st20 t k) ?_
  obtain ⟨ob, h_ob⟩ : ∃ z, z = (f1 s_BOT s_POS s_TOP s_ZERO s_NEG kb) := ⟨_, rfl⟩
  rw [← h_ob]
  have E_ob : Exa Z Z.heap ob "com/example/latticework/latticework/lattice/Sign" := by rw [h_ob]; exact own_pickE Z s_BOT s_POS s_TOP s_ZERO s_NEG HW kb
  refine Go.st (V' := T20.setTop (mkF m 28 #[.val (.int p0), .val (.int p1), .val (.int ka), .val (.int kb), .val (.ref oa), .val (.ref ob), .unset] [(.int kb), (.int ka)])) (fun t k => ?_) ?_
  · refine XS.astore X20.here hx rfl (hb hby at_24) rfl rfl (l' := #[.val (.int p0), .val (.int p1), .val (.int ka), .val (.int kb), .val (.ref oa), .val (.ref ob), .unset]) rfl ?_
    show Steps p.tables e below (T20.setTop (mkF m 26 #[.val (.int p0), .val (.int p1), .val (.int ka), .val (.int kb), .val (.ref oa), .val (.ref ob), .unset] [])) _
    refine XS.iloadN X20.here hx rfl (hb hby at_26) rfl  ?_
    show Steps p.tables e below (T20.setTop (mkF m 27 #[.val (.int p0), .val (.int p1), .val (.int ka), .val (.int kb), .val (.ref oa), .val (.ref ob), .unset] [(.int ka)])) _
    refine XS.iloadN X20.here hx rfl (hb hby at_27) rfl  ?_
    show Steps p.tables e below (T20.setTop (mkF m 28 #[.val (.int p0), .val (.int p1), .val (.int ka), .val (.int kb), .val (.ref oa), .val (.ref ob), .unset] [(.int kb), (.int ka)])) _
    exact k
  by_cases hc21 : ka = kb
  · refine Go.st (V' := T20.setTop (mkF m 53 #[.val (.int p0), .val (.int p1), .val (.int ka), .val (.int kb), .val (.ref oa), .val (.ref ob), .val (.int (1 : Int32))] [(.ref ob), (.ref oa)])) (fun t k => ?_) ?_
    · refine XS.icmpYes X20.here hx rfl (pc0 := 28) (pc' := 42) rfl (hb hby at_28) rfl (teq hc21).1 (by decide) (by decide) ?_
      show Steps p.tables e below (T20.setTop (mkF m 42 #[.val (.int p0), .val (.int p1), .val (.int ka), .val (.int kb), .val (.ref oa), .val (.ref ob), .unset] [])) _
      refine XS.iconst X20.here hx rfl (hb hby at_42) ?_
      show Steps p.tables e below (T20.setTop (mkF m 43 #[.val (.int p0), .val (.int p1), .val (.int ka), .val (.int kb), .val (.ref oa), .val (.ref ob), .unset] [(.int (1 : Int32))])) _
      refine XS.goto X20.here hx rfl (pc0 := 43) (pc' := 47) rfl (hb hby at_43) (by decide) (by decide) ?_
      show Steps p.tables e below (T20.setTop (mkF m 47 #[.val (.int p0), .val (.int p1), .val (.int ka), .val (.int kb), .val (.ref oa), .val (.ref ob), .unset] [(.int (1 : Int32))])) _
      refine XS.istore X20.here hx rfl (hb hby at_47) rfl (l' := #[.val (.int p0), .val (.int p1), .val (.int ka), .val (.int kb), .val (.ref oa), .val (.ref ob), .val (.int (1 : Int32))]) rfl ?_
      show Steps p.tables e below (T20.setTop (mkF m 49 #[.val (.int p0), .val (.int p1), .val (.int ka), .val (.int kb), .val (.ref oa), .val (.ref ob), .val (.int (1 : Int32))] [])) _
      refine XS.aload X20.here hx rfl (hb hby at_49) rfl rfl ?_
      show Steps p.tables e below (T20.setTop (mkF m 51 #[.val (.int p0), .val (.int p1), .val (.int ka), .val (.int kb), .val (.ref oa), .val (.ref ob), .val (.int (1 : Int32))] [(.ref oa)])) _
      refine XS.aload X20.here hx rfl (hb hby at_51) rfl rfl ?_
      show Steps p.tables e below (T20.setTop (mkF m 53 #[.val (.int p0), .val (.int p1), .val (.int ka), .val (.int kb), .val (.ref oa), .val (.ref ob), .val (.int (1 : Int32))] [(.ref ob), (.ref oa)])) _
      exact k
    obtain ⟨cq22, kq22, q22a, q22b, q22c⟩ := isOf hZ e20 (E_oa.ext O0.2)
    obtain ⟨_, _, ⟨T22, L22, k22, n22⟩, -, X22, hS2, hg2, ⟨Lc22, hQ22, l22, y22, z22⟩, st22⟩ := X20.virtualBackS hx (y := (⟨"com/example/latticework/latticework/lattice/Sign", "leq", "(Lcom/example/latticework/latticework/lattice/Sign;)Z"⟩ : MethodName)) (z := (⟨"com/example/latticework/latticework/lattice/Sign", "leq", "(Lcom/example/latticework/latticework/lattice/Sign;)Z"⟩ : MethodName)) hown (mvT hZ (hw _ (List.mem_of_getElem? (i := 13) rfl))) (mvT hZ (hw _ (List.mem_of_getElem? (i := 14) rfl))) (notFace_of_selects (args := #[]) (mvT hZ (hw _ (List.mem_of_getElem? (i := 16) rfl)))) (mvT hZ (hw _ (List.mem_of_getElem? (i := 16) rfl))) (mvT hZ (hw _ (List.mem_of_getElem? (i := 15) rfl))) (by decide) (backOfS (W := 0) (rm3 l Z a0 hw [] s_BOT s_POS s_TOP s_ZERO s_NEG HW oa ob h0 n0 O0) hZ (hw _ (List.mem_of_getElem? (i := 17) rfl)) (hw _ (List.mem_of_getElem? (i := 6) rfl)) (by decide) (by decide)) q22a q22c (g := (mkF m 53 #[.val (.int p0), .val (.int p1), .val (.int ka), .val (.int kb), .val (.ref oa), .val (.ref ob), .val (.int (1 : Int32))] [(.ref ob), (.ref oa)])) rfl (by rw [hml]; rfl) (Steps.refl _) (argsL := [(.ref ob)]) (rest := []) (lenOf own_pd55 rfl) rfl (by show 2 * 0 + _ ≤ _; exact Nat.le_of_eq rfl) (hb hby at_53) (fun _ _ => ⟨rfl, e20, (by decide : 0 + 2 ≤ _), (by decide : 0 + 24 ≤ _)⟩)
    dsimp only [Pt.U, Pt.locs, Pt.cells, Pt.slots] at X22 l22 y22 z22 st22 hQ22 hS2 hg2
    subst l22 y22 z22
    obtain ⟨X22, hS, hZ, hown⟩ := rebS (s := s) hS (by rw [e20]; exact hk) X22 hS2 hg2 hZ hown
    have hk := Nat.le_refl T22.heap.size
    obtain ⟨rfl, N22q, K22⟩ := hQ22
    have N22 := Fr.app N20 N22q
    have O22 := O0.keep K22 all0
    refine Go.st (V' := T22.setTop (mkF m 56 #[.val (.int p0), .val (.int p1), .val (.int ka), .val (.int kb), .val (.ref oa), .val (.ref ob), .val (.int (1 : Int32))] [(.int (f3 s_BOT s_TOP oa ob))])) (fun t k => st22.trans k) ?_
    refine Go.st (V' := T22.setTop (mkF m 66 #[.val (.int p0), .val (.int p1), .val (.int ka), .val (.int kb), .val (.ref oa), .val (.ref ob), .val (.int (1 : Int32))] [(.int (1 : Int32))])) (fun t k => ?_) ?_
    · refine XS.iload X22.here hx rfl (hb hby at_56) rfl  ?_
      show Steps p.tables e below (T22.setTop (mkF m 58 #[.val (.int p0), .val (.int p1), .val (.int ka), .val (.int kb), .val (.ref oa), .val (.ref ob), .val (.int (1 : Int32))] [(.int (1 : Int32)), (.int (f3 s_BOT s_TOP oa ob))])) _
      refine XS.icmpNo X22.here hx rfl (hb hby at_58) rfl (teq (by rw [h_oa, h_ob, own_leq Z s_BOT s_POS s_TOP s_ZERO s_NEG HW _ _ hrg_ka hrg_kb, if_pos hc21])).2 ?_
      show Steps p.tables e below (T22.setTop (mkF m 61 #[.val (.int p0), .val (.int p1), .val (.int ka), .val (.int kb), .val (.ref oa), .val (.ref ob), .val (.int (1 : Int32))] [])) _
      refine XS.iconst X22.here hx rfl (hb hby at_61) ?_
      show Steps p.tables e below (T22.setTop (mkF m 62 #[.val (.int p0), .val (.int p1), .val (.int ka), .val (.int kb), .val (.ref oa), .val (.ref ob), .val (.int (1 : Int32))] [(.int (1 : Int32))])) _
      refine XS.goto X22.here hx rfl (pc0 := 62) (pc' := 66) rfl (hb hby at_62) (by decide) (by decide) ?_
      show Steps p.tables e below (T22.setTop (mkF m 66 #[.val (.int p0), .val (.int p1), .val (.int ka), .val (.int kb), .val (.ref oa), .val (.ref ob), .val (.int (1 : Int32))] [(.int (1 : Int32))])) _
      exact k
    obtain ⟨fs, hr, hrun, hended, hW⟩ := X22.leaveW hS hk (v := some (.int (1 : Int32))) (fun h => by rw [Bd.returns] at h; cases h)
    refine Go.mk' ⟨_, _, retN X22 hx (t := .boolean) Bd.returns (by simp) (hb hby at_66) hr, hrun, hended, _, _, rfl, ?_, hW.1, hW.2.1, hW.2.2.1, hW.2.2.2.mono (by decide) (by decide)⟩
    show Q0 Z p0 p1 h0 n0 _ T22.heap _
    exact ⟨rfl, N22⟩
  · refine Go.st (V' := T20.setTop (mkF m 32 #[.val (.int p0), .val (.int p1), .val (.int ka), .val (.int kb), .val (.ref oa), .val (.ref ob), .unset] [(.int ka)])) (fun t k => ?_) ?_
    · refine XS.icmpNo X20.here hx rfl (hb hby at_28) rfl (feq hc21).1 ?_
      show Steps p.tables e below (T20.setTop (mkF m 31 #[.val (.int p0), .val (.int p1), .val (.int ka), .val (.int kb), .val (.ref oa), .val (.ref ob), .unset] [])) _
      refine XS.iloadN X20.here hx rfl (hb hby at_31) rfl  ?_
      show Steps p.tables e below (T20.setTop (mkF m 32 #[.val (.int p0), .val (.int p1), .val (.int ka), .val (.int kb), .val (.ref oa), .val (.ref ob), .unset] [(.int ka)])) _
      exact k
    obtain ⟨_, _, ⟨T23, L23, k23, n23⟩, -, X23, ⟨Lc23, hQ23, l23, y23, z23⟩, st23⟩ := Jvm.LawKit.callS X20 hx (y := (⟨"com/example/latticework/latticework/lattice/SignLeqPinLaw", "height", "(I)I"⟩ : MethodName)) hown (mvT hZ (hw _ (List.mem_of_getElem? (i := 10) rfl))) (mvT hZ (hw _ (List.mem_of_getElem? (i := 11) rfl))) (mvT hZ (hw _ (List.mem_of_getElem? (i := 3) rfl))) (mvT hZ (hw _ (List.mem_of_getElem? (i := 12) rfl))) (by decide) (backOf (W := 0) (rm2 l Z a0 hw [] s_BOT s_POS s_TOP s_ZERO s_NEG HW ka h0 n0 O0) hZ (hw _ (List.mem_of_getElem? (i := 12) rfl)) (hw _ (List.mem_of_getElem? (i := 3) rfl)) (by decide) (by decide)) (g := (mkF m 32 #[.val (.int p0), .val (.int p1), .val (.int ka), .val (.int kb), .val (.ref oa), .val (.ref ob), .unset] [(.int ka)])) rfl (by rw [hml]; rfl) (argsL := [(.int ka)]) (rest := []) (lenOf own_pd56 rfl) rfl (by show 2 * 0 + _ ≤ _; exact Nat.le_of_eq rfl) (hb hby at_32) (fun _ _ => ⟨rfl, e20, (by decide : 0 + 0 ≤ _), (by decide : 0 + 0 ≤ _)⟩)
    dsimp only [Pt.U, Pt.locs, Pt.cells, Pt.slots] at X23 l23 y23 z23 st23 hQ23
    subst l23 y23 z23
    obtain ⟨rfl, N23q, e23⟩ := hQ23
    have N23 := Fr.app N20 N23q
    refine Go.st (V' := T23.setTop (mkF m 35 #[.val (.int p0), .val (.int p1), .val (.int ka), .val (.int kb), .val (.ref oa), .val (.ref ob), .unset] [(.int (f2 ka))])) (fun t k => st23 t k) ?_
    refine Go.st (V' := T23.setTop (mkF m 36 #[.val (.int p0), .val (.int p1), .val (.int ka), .val (.int kb), .val (.ref oa), .val (.ref ob), .unset] [(.int kb), (.int (f2 ka))])) (fun t k => ?_) ?_
    · refine XS.iloadN X23.here hx rfl (hb hby at_35) rfl  ?_
      show Steps p.tables e below (T23.setTop (mkF m 36 #[.val (.int p0), .val (.int p1), .val (.int ka), .val (.int kb), .val (.ref oa), .val (.ref ob), .unset] [(.int kb), (.int (f2 ka))])) _
      exact k
    obtain ⟨_, _, ⟨T24, L24, k24, n24⟩, -, X24, ⟨Lc24, hQ24, l24, y24, z24⟩, st24⟩ := Jvm.LawKit.callS X23 hx (y := (⟨"com/example/latticework/latticework/lattice/SignLeqPinLaw", "height", "(I)I"⟩ : MethodName)) hown (mvT hZ (hw _ (List.mem_of_getElem? (i := 10) rfl))) (mvT hZ (hw _ (List.mem_of_getElem? (i := 11) rfl))) (mvT hZ (hw _ (List.mem_of_getElem? (i := 3) rfl))) (mvT hZ (hw _ (List.mem_of_getElem? (i := 12) rfl))) (by decide) (backOf (W := 1) (rm2 l Z a0 hw [] s_BOT s_POS s_TOP s_ZERO s_NEG HW kb h0 n0 O0) hZ (hw _ (List.mem_of_getElem? (i := 12) rfl)) (hw _ (List.mem_of_getElem? (i := 3) rfl)) (by decide) (by decide)) (g := (mkF m 36 #[.val (.int p0), .val (.int p1), .val (.int ka), .val (.int kb), .val (.ref oa), .val (.ref ob), .unset] [(.int kb), (.int (f2 ka))])) rfl (by rw [hml]; rfl) (argsL := [(.int kb)]) (rest := [(.int (f2 ka))]) (lenOf own_pd56 rfl) rfl (by show 2 * 0 + _ ≤ _; exact Nat.le_of_eq rfl) (hb hby at_36) (fun _ _ => ⟨rfl, e23, (by decide : 0 + 0 ≤ _), (by decide : 0 + 0 ≤ _)⟩)
    dsimp only [Pt.U, Pt.locs, Pt.cells, Pt.slots] at X24 l24 y24 z24 st24 hQ24
    subst l24 y24 z24
    obtain ⟨rfl, N24q, e24⟩ := hQ24
    have N24 := Fr.app N23 N24q
    refine Go.st (V' := T24.setTop (mkF m 39 #[.val (.int p0), .val (.int p1), .val (.int ka), .val (.int kb), .val (.ref oa), .val (.ref ob), .unset] [(.int (f2 kb)), (.int (f2 ka))])) (fun t k => st24 t k) ?_
    by_cases hc25 : (f2 ka) < (f2 kb)
    · refine Go.st (V' := T24.setTop (mkF m 53 #[.val (.int p0), .val (.int p1), .val (.int ka), .val (.int kb), .val (.ref oa), .val (.ref ob), .val (.int (1 : Int32))] [(.ref ob), (.ref oa)])) (fun t k => ?_) ?_
      · refine XS.icmpNo X24.here hx rfl (hb hby at_39) rfl (tlt hc25).2.1 ?_
        show Steps p.tables e below (T24.setTop (mkF m 42 #[.val (.int p0), .val (.int p1), .val (.int ka), .val (.int kb), .val (.ref oa), .val (.ref ob), .unset] [])) _
        refine XS.iconst X24.here hx rfl (hb hby at_42) ?_
        show Steps p.tables e below (T24.setTop (mkF m 43 #[.val (.int p0), .val (.int p1), .val (.int ka), .val (.int kb), .val (.ref oa), .val (.ref ob), .unset] [(.int (1 : Int32))])) _
        refine XS.goto X24.here hx rfl (pc0 := 43) (pc' := 47) rfl (hb hby at_43) (by decide) (by decide) ?_
        show Steps p.tables e below (T24.setTop (mkF m 47 #[.val (.int p0), .val (.int p1), .val (.int ka), .val (.int kb), .val (.ref oa), .val (.ref ob), .unset] [(.int (1 : Int32))])) _
        refine XS.istore X24.here hx rfl (hb hby at_47) rfl (l' := #[.val (.int p0), .val (.int p1), .val (.int ka), .val (.int kb), .val (.ref oa), .val (.ref ob), .val (.int (1 : Int32))]) rfl ?_
        show Steps p.tables e below (T24.setTop (mkF m 49 #[.val (.int p0), .val (.int p1), .val (.int ka), .val (.int kb), .val (.ref oa), .val (.ref ob), .val (.int (1 : Int32))] [])) _
        refine XS.aload X24.here hx rfl (hb hby at_49) rfl rfl ?_
        show Steps p.tables e below (T24.setTop (mkF m 51 #[.val (.int p0), .val (.int p1), .val (.int ka), .val (.int kb), .val (.ref oa), .val (.ref ob), .val (.int (1 : Int32))] [(.ref oa)])) _
        refine XS.aload X24.here hx rfl (hb hby at_51) rfl rfl ?_
        show Steps p.tables e below (T24.setTop (mkF m 53 #[.val (.int p0), .val (.int p1), .val (.int ka), .val (.int kb), .val (.ref oa), .val (.ref ob), .val (.int (1 : Int32))] [(.ref ob), (.ref oa)])) _
        exact k
      obtain ⟨cq26, kq26, q26a, q26b, q26c⟩ := isOf hZ e24 (E_oa.ext O0.2)
      obtain ⟨_, _, ⟨T26, L26, k26, n26⟩, -, X26, hS2, hg2, ⟨Lc26, hQ26, l26, y26, z26⟩, st26⟩ := X24.virtualBackS hx (y := (⟨"com/example/latticework/latticework/lattice/Sign", "leq", "(Lcom/example/latticework/latticework/lattice/Sign;)Z"⟩ : MethodName)) (z := (⟨"com/example/latticework/latticework/lattice/Sign", "leq", "(Lcom/example/latticework/latticework/lattice/Sign;)Z"⟩ : MethodName)) hown (mvT hZ (hw _ (List.mem_of_getElem? (i := 13) rfl))) (mvT hZ (hw _ (List.mem_of_getElem? (i := 14) rfl))) (notFace_of_selects (args := #[]) (mvT hZ (hw _ (List.mem_of_getElem? (i := 16) rfl)))) (mvT hZ (hw _ (List.mem_of_getElem? (i := 16) rfl))) (mvT hZ (hw _ (List.mem_of_getElem? (i := 15) rfl))) (by decide) (backOfS (W := 0) (rm3 l Z a0 hw [] s_BOT s_POS s_TOP s_ZERO s_NEG HW oa ob h0 n0 O0) hZ (hw _ (List.mem_of_getElem? (i := 17) rfl)) (hw _ (List.mem_of_getElem? (i := 6) rfl)) (by decide) (by decide)) q26a q26c (g := (mkF m 53 #[.val (.int p0), .val (.int p1), .val (.int ka), .val (.int kb), .val (.ref oa), .val (.ref ob), .val (.int (1 : Int32))] [(.ref ob), (.ref oa)])) rfl (by rw [hml]; rfl) (Steps.refl _) (argsL := [(.ref ob)]) (rest := []) (lenOf own_pd55 rfl) rfl (by show 2 * 0 + _ ≤ _; exact Nat.le_of_eq rfl) (hb hby at_53) (fun _ _ => ⟨rfl, e24, (by decide : 0 + 2 ≤ _), (by decide : 0 + 24 ≤ _)⟩)
      dsimp only [Pt.U, Pt.locs, Pt.cells, Pt.slots] at X26 l26 y26 z26 st26 hQ26 hS2 hg2
      subst l26 y26 z26
      obtain ⟨X26, hS, hZ, hown⟩ := rebS (s := s) hS (by rw [e24]; exact hk) X26 hS2 hg2 hZ hown
      have hk := Nat.le_refl T26.heap.size
      obtain ⟨rfl, N26q, K26⟩ := hQ26
      have N26 := Fr.app N24 N26q
      have O26 := O0.keep K26 all0
      refine Go.st (V' := T26.setTop (mkF m 56 #[.val (.int p0), .val (.int p1), .val (.int ka), .val (.int kb), .val (.ref oa), .val (.ref ob), .val (.int (1 : Int32))] [(.int (f3 s_BOT s_TOP oa ob))])) (fun t k => st26.trans k) ?_
      refine Go.st (V' := T26.setTop (mkF m 66 #[.val (.int p0), .val (.int p1), .val (.int ka), .val (.int kb), .val (.ref oa), .val (.ref ob), .val (.int (1 : Int32))] [(.int (1 : Int32))])) (fun t k => ?_) ?_
      · refine XS.iload X26.here hx rfl (hb hby at_56) rfl  ?_
        show Steps p.tables e below (T26.setTop (mkF m 58 #[.val (.int p0), .val (.int p1), .val (.int ka), .val (.int kb), .val (.ref oa), .val (.ref ob), .val (.int (1 : Int32))] [(.int (1 : Int32)), (.int (f3 s_BOT s_TOP oa ob))])) _
        refine XS.icmpNo X26.here hx rfl (hb hby at_58) rfl (teq (by rw [h_oa, h_ob, own_leq Z s_BOT s_POS s_TOP s_ZERO s_NEG HW _ _ hrg_ka hrg_kb, if_neg hc21, if_pos hc25])).2 ?_
        show Steps p.tables e below (T26.setTop (mkF m 61 #[.val (.int p0), .val (.int p1), .val (.int ka), .val (.int kb), .val (.ref oa), .val (.ref ob), .val (.int (1 : Int32))] [])) _
        refine XS.iconst X26.here hx rfl (hb hby at_61) ?_
        show Steps p.tables e below (T26.setTop (mkF m 62 #[.val (.int p0), .val (.int p1), .val (.int ka), .val (.int kb), .val (.ref oa), .val (.ref ob), .val (.int (1 : Int32))] [(.int (1 : Int32))])) _
        refine XS.goto X26.here hx rfl (pc0 := 62) (pc' := 66) rfl (hb hby at_62) (by decide) (by decide) ?_
        show Steps p.tables e below (T26.setTop (mkF m 66 #[.val (.int p0), .val (.int p1), .val (.int ka), .val (.int kb), .val (.ref oa), .val (.ref ob), .val (.int (1 : Int32))] [(.int (1 : Int32))])) _
        exact k
      obtain ⟨fs, hr, hrun, hended, hW⟩ := X26.leaveW hS hk (v := some (.int (1 : Int32))) (fun h => by rw [Bd.returns] at h; cases h)
      refine Go.mk' ⟨_, _, retN X26 hx (t := .boolean) Bd.returns (by simp) (hb hby at_66) hr, hrun, hended, _, _, rfl, ?_, hW.1, hW.2.1, hW.2.2.1, hW.2.2.2.mono (by decide) (by decide)⟩
      show Q0 Z p0 p1 h0 n0 _ T26.heap _
      exact ⟨rfl, N26⟩
    · refine Go.st (V' := T24.setTop (mkF m 53 #[.val (.int p0), .val (.int p1), .val (.int ka), .val (.int kb), .val (.ref oa), .val (.ref ob), .val (.int (0 : Int32))] [(.ref ob), (.ref oa)])) (fun t k => ?_) ?_
      · refine XS.icmpYes X24.here hx rfl (pc0 := 39) (pc' := 46) rfl (hb hby at_39) rfl (flt hc25).2.1 (by decide) (by decide) ?_
        show Steps p.tables e below (T24.setTop (mkF m 46 #[.val (.int p0), .val (.int p1), .val (.int ka), .val (.int kb), .val (.ref oa), .val (.ref ob), .unset] [])) _
        refine XS.iconst X24.here hx rfl (hb hby at_46) ?_
        show Steps p.tables e below (T24.setTop (mkF m 47 #[.val (.int p0), .val (.int p1), .val (.int ka), .val (.int kb), .val (.ref oa), .val (.ref ob), .unset] [(.int (0 : Int32))])) _
        refine XS.istore X24.here hx rfl (hb hby at_47) rfl (l' := #[.val (.int p0), .val (.int p1), .val (.int ka), .val (.int kb), .val (.ref oa), .val (.ref ob), .val (.int (0 : Int32))]) rfl ?_
        show Steps p.tables e below (T24.setTop (mkF m 49 #[.val (.int p0), .val (.int p1), .val (.int ka), .val (.int kb), .val (.ref oa), .val (.ref ob), .val (.int (0 : Int32))] [])) _
        refine XS.aload X24.here hx rfl (hb hby at_49) rfl rfl ?_
        show Steps p.tables e below (T24.setTop (mkF m 51 #[.val (.int p0), .val (.int p1), .val (.int ka), .val (.int kb), .val (.ref oa), .val (.ref ob), .val (.int (0 : Int32))] [(.ref oa)])) _
        refine XS.aload X24.here hx rfl (hb hby at_51) rfl rfl ?_
        show Steps p.tables e below (T24.setTop (mkF m 53 #[.val (.int p0), .val (.int p1), .val (.int ka), .val (.int kb), .val (.ref oa), .val (.ref ob), .val (.int (0 : Int32))] [(.ref ob), (.ref oa)])) _
        exact k
      obtain ⟨cq27, kq27, q27a, q27b, q27c⟩ := isOf hZ e24 (E_oa.ext O0.2)
      obtain ⟨_, _, ⟨T27, L27, k27, n27⟩, -, X27, hS2, hg2, ⟨Lc27, hQ27, l27, y27, z27⟩, st27⟩ := X24.virtualBackS hx (y := (⟨"com/example/latticework/latticework/lattice/Sign", "leq", "(Lcom/example/latticework/latticework/lattice/Sign;)Z"⟩ : MethodName)) (z := (⟨"com/example/latticework/latticework/lattice/Sign", "leq", "(Lcom/example/latticework/latticework/lattice/Sign;)Z"⟩ : MethodName)) hown (mvT hZ (hw _ (List.mem_of_getElem? (i := 13) rfl))) (mvT hZ (hw _ (List.mem_of_getElem? (i := 14) rfl))) (notFace_of_selects (args := #[]) (mvT hZ (hw _ (List.mem_of_getElem? (i := 16) rfl)))) (mvT hZ (hw _ (List.mem_of_getElem? (i := 16) rfl))) (mvT hZ (hw _ (List.mem_of_getElem? (i := 15) rfl))) (by decide) (backOfS (W := 0) (rm3 l Z a0 hw [] s_BOT s_POS s_TOP s_ZERO s_NEG HW oa ob h0 n0 O0) hZ (hw _ (List.mem_of_getElem? (i := 17) rfl)) (hw _ (List.mem_of_getElem? (i := 6) rfl)) (by decide) (by decide)) q27a q27c (g := (mkF m 53 #[.val (.int p0), .val (.int p1), .val (.int ka), .val (.int kb), .val (.ref oa), .val (.ref ob), .val (.int (0 : Int32))] [(.ref ob), (.ref oa)])) rfl (by rw [hml]; rfl) (Steps.refl _) (argsL := [(.ref ob)]) (rest := []) (lenOf own_pd55 rfl) rfl (by show 2 * 0 + _ ≤ _; exact Nat.le_of_eq rfl) (hb hby at_53) (fun _ _ => ⟨rfl, e24, (by decide : 0 + 2 ≤ _), (by decide : 0 + 24 ≤ _)⟩)
      dsimp only [Pt.U, Pt.locs, Pt.cells, Pt.slots] at X27 l27 y27 z27 st27 hQ27 hS2 hg2
      subst l27 y27 z27
      obtain ⟨X27, hS, hZ, hown⟩ := rebS (s := s) hS (by rw [e24]; exact hk) X27 hS2 hg2 hZ hown
      have hk := Nat.le_refl T27.heap.size
      obtain ⟨rfl, N27q, K27⟩ := hQ27
      have N27 := Fr.app N24 N27q
      have O27 := O0.keep K27 all0
      refine Go.st (V' := T27.setTop (mkF m 56 #[.val (.int p0), .val (.int p1), .val (.int ka), .val (.int kb), .val (.ref oa), .val (.ref ob), .val (.int (0 : Int32))] [(.int (f3 s_BOT s_TOP oa ob))])) (fun t k => st27.trans k) ?_
      refine Go.st (V' := T27.setTop (mkF m 66 #[.val (.int p0), .val (.int p1), .val (.int ka), .val (.int kb), .val (.ref oa), .val (.ref ob), .val (.int (0 : Int32))] [(.int (1 : Int32))])) (fun t k => ?_) ?_
      · refine XS.iload X27.here hx rfl (hb hby at_56) rfl  ?_
        show Steps p.tables e below (T27.setTop (mkF m 58 #[.val (.int p0), .val (.int p1), .val (.int ka), .val (.int kb), .val (.ref oa), .val (.ref ob), .val (.int (0 : Int32))] [(.int (0 : Int32)), (.int (f3 s_BOT s_TOP oa ob))])) _
        refine XS.icmpNo X27.here hx rfl (hb hby at_58) rfl (teq (by rw [h_oa, h_ob, own_leq Z s_BOT s_POS s_TOP s_ZERO s_NEG HW _ _ hrg_ka hrg_kb, if_neg hc21, if_neg hc25])).2 ?_
        show Steps p.tables e below (T27.setTop (mkF m 61 #[.val (.int p0), .val (.int p1), .val (.int ka), .val (.int kb), .val (.ref oa), .val (.ref ob), .val (.int (0 : Int32))] [])) _
        refine XS.iconst X27.here hx rfl (hb hby at_61) ?_
        show Steps p.tables e below (T27.setTop (mkF m 62 #[.val (.int p0), .val (.int p1), .val (.int ka), .val (.int kb), .val (.ref oa), .val (.ref ob), .val (.int (0 : Int32))] [(.int (1 : Int32))])) _
        refine XS.goto X27.here hx rfl (pc0 := 62) (pc' := 66) rfl (hb hby at_62) (by decide) (by decide) ?_
        show Steps p.tables e below (T27.setTop (mkF m 66 #[.val (.int p0), .val (.int p1), .val (.int ka), .val (.int kb), .val (.ref oa), .val (.ref ob), .val (.int (0 : Int32))] [(.int (1 : Int32))])) _
        exact k
      obtain ⟨fs, hr, hrun, hended, hW⟩ := X27.leaveW hS hk (v := some (.int (1 : Int32))) (fun h => by rw [Bd.returns] at h; cases h)
      refine Go.mk' ⟨_, _, retN X27 hx (t := .boolean) Bd.returns (by simp) (hb hby at_66) hr, hrun, hended, _, _, rfl, ?_, hW.1, hW.2.1, hW.2.2.1, hW.2.2.2.mono (by decide) (by decide)⟩
      show Q0 Z p0 p1 h0 n0 _ T27.heap _
      exact ⟨rfl, N27⟩
set_option maxRecDepth 65536 in
set_option maxHeartbeats 40000000 in
theorem comes_1 {Post : Tables → Env → Array Value → State → Outcome → State → Prop} (hpost : ∀ tb e args s v u, (limb_1_1.after args s (.returned v) u = true ∧ limb_1_2.after args s (.returned v) u = true ∧ True) → ReturnedEndW s (.returned v) u (Jvm.fieldLocs frame_1_writes args s ++ Jvm.arrayLocs frame_1_arrays args s ++ Jvm.staticLocs frame_1_statics s) 8 1088 → Post tb e args s (.returned v) u) :
    ArmFor flags0 classFile x code maxLocals ret World_1 tables_1 room_1 Calls_1 rest_1 Pre_1 Post := by
  intro l hfl _ _ p e ha hc hk s m args below hf hA hF happ hP
  obtain ⟨hcalls, hrest, hpre⟩ := hP
  obtain ⟨-, -, -, hnamed, -, -, -, hat⟩ := (Spec.applies_iff hf).mp happ
  obtain ⟨hg, hn⟩ := and_e (Cond.before_iff.mp (show (Jvm.Cond.and given_1 narrow_1).before args s = true from hpre))
  obtain ⟨gg0, hg⟩ := and_e hg
  obtain ⟨gg1, hg⟩ := and_e hg
  have gg2 := hg
  obtain ⟨w0, w1, rfl⟩ : ∃ w0 w1 : Value, args = #[w0, w1] := by
    have hs : args.size = 2 := by simpa [Cond.value, given_1] using gg0
    obtain ⟨L⟩ := args
    match L, hs with
    | [w0, w1], _ => exact ⟨w0, w1, rfl⟩
  have hw := fun d (hd : d ∈ tables_1) => atoms_spec (ws := Jvm.Cond.code x code maxLocals ret :: tables_1) hat d (List.mem_cons_of_mem _ hd)
  have hfit : Fit s := fun {y c} hc i hi => by
    obtain ⟨ha, rfl⟩ := Array.getElem?_eq_some_iff.mp hc
    have q := List.all_eq_true.mp ((Array.all_eq_true_iff_forall_mem.mp hF) _ (Array.getElem_mem ha)) i (List.mem_range.mpr hi)
    simpa [Array.getElem?_eq_getElem hi] using q
  obtain ⟨i0, ei0⟩ := is_v gg1
  obtain rfl : w0 = (.int i0) := Option.some.inj ei0
  obtain ⟨i1, ei1⟩ := is_v gg2
  obtain rfl : w1 = (.int i1) := Option.some.inj ei1
  obtain ⟨c0, hn⟩ := and_e hn
  obtain ⟨c1, hn⟩ := and_e hn
  obtain ⟨c2, hn⟩ := and_e hn
  obtain ⟨c3, hn⟩ := and_e hn
  obtain ⟨c4, hn⟩ := and_e hn
  obtain ⟨c5, hn⟩ := and_e hn
  obtain ⟨c6, hn⟩ := and_e hn
  obtain ⟨c7, hn⟩ := and_e hn
  obtain ⟨c8, hn⟩ := and_e hn
  have c9 := hn
  obtain ⟨s_BOT, ev_BOT⟩ := exa_v c0
  have E_BOT := Exa.start ev_BOT c0
  have S_BOT := Sta.start ev_BOT (Or.inr ⟨(hw _ (List.mem_of_getElem? (i := 6) rfl)), (hw _ (List.mem_of_getElem? (i := 7) rfl))⟩)
  obtain ⟨s_POS, ev_POS⟩ := exa_v c1
  have E_POS := Exa.start ev_POS c1
  have S_POS := Sta.start ev_POS (Or.inr ⟨(hw _ (List.mem_of_getElem? (i := 6) rfl)), (hw _ (List.mem_of_getElem? (i := 9) rfl))⟩)
  obtain ⟨s_TOP, ev_TOP⟩ := exa_v c2
  have E_TOP := Exa.start ev_TOP c2
  have S_TOP := Sta.start ev_TOP (Or.inr ⟨(hw _ (List.mem_of_getElem? (i := 6) rfl)), (hw _ (List.mem_of_getElem? (i := 32) rfl))⟩)
  obtain ⟨s_ZERO, ev_ZERO⟩ := exa_v c3
  have E_ZERO := Exa.start ev_ZERO c3
  have S_ZERO := Sta.start ev_ZERO (Or.inr ⟨(hw _ (List.mem_of_getElem? (i := 6) rfl)), (hw _ (List.mem_of_getElem? (i := 34) rfl))⟩)
  obtain ⟨s_NEG, ev_NEG⟩ := exa_v c8
  have E_NEG := Exa.start ev_NEG c8
  have S_NEG := Sta.start ev_NEG (Or.inr ⟨(hw _ (List.mem_of_getElem? (i := 6) rfl)), (hw _ (List.mem_of_getElem? (i := 37) rfl))⟩)
  have F_TOP_ordinal := Fld.start ((fld_at ev_TOP).symm.trans (eqv_i (Term.int_eval _) c4))
  have F_BOT_ordinal := Fld.start ((fld_at ev_BOT).symm.trans (eqv_i (Term.int_eval _) c5))
  have F_ZERO_ordinal := Fld.start ((fld_at ev_ZERO).symm.trans (eqv_i (Term.int_eval _) c6))
  have F_POS_ordinal := Fld.start ((fld_at ev_POS).symm.trans (eqv_i (Term.int_eval _) c7))
  have F_NEG_ordinal := Fld.start ((fld_at ev_NEG).symm.trans (eqv_i (Term.int_eval _) c9))
  obtain ⟨n, o, h1, h2, h3, _, L, rfl, ⟨rfl, N⟩, hq⟩ := rm0 l s _ hw tables_1 s_BOT s_POS s_TOP s_ZERO s_NEG (show W0 s s_BOT s_POS s_TOP s_ZERO s_NEG from ⟨E_BOT, S_BOT, E_POS, S_POS, E_TOP, S_TOP, E_ZERO, S_ZERO, E_NEG, S_NEG, F_TOP_ordinal, F_BOT_ordinal, F_ZERO_ordinal, F_POS_ordinal, F_NEG_ordinal⟩) i0 i1 s.heap s.heap.size (Old.start s) p e ha hc hk s m _ below hf ((Spec.applies_iff_loose hf).mp happ).1 ⟨rfl, State.Warmed39.refl s, rfl⟩ trivial
  refine ⟨n, _, h1, h2, h3, hpost _ _ _ _ _ _ ⟨Cond.after_iff.mpr rfl, Cond.after_iff.mpr (eq_i res_at (Term.int_eval (1)) rfl), trivial⟩ ⟨hq.1, hq.2.1, hq.2.2.1, (hq.2.2.2.sift fun y hy => Or.inr (N y hy)).mono (by decide) (by decide)⟩⟩
theorem main_1_1 : Claimed_1_1 := comes_1 fun _ _ _ _ _ _ h hF => ⟨h.1, hF⟩
theorem main_1_2 : Claimed_1_2 := comes_1 fun _ _ _ _ _ _ h hF => ⟨h.2.1, hF⟩
end Jvm.Pilot.@@N@@
namespace Jvm.Pilot.@@N@@
open Jvm Jvm.ClassFile Sem Op Lib Jvm.Free Jvm.Stand Jvm.Pilot.@@N@@.Jvm.D
/-! MADE BY PROGRAM (witnessworld.py) out of the Statement's table words and the real class files: 16 classes; the members and pool entries that the words name. The judged class is class 1, her method 3. -/
namespace start1
open Jvm.ClassFile
def u (s : String) : CpInfo := .utf8 (stringToUtf16 s)
/-- a pool by its gaps: so many unusable entries, then the entry; so many at the end -/
def gap : Nat → List CpInfo → List CpInfo
  | 0, r => r
  | n + 1, r => .unusable :: gap n r
def poolList (es : List (Nat × CpInfo)) (last : Nat) : List CpInfo := es.foldr (fun e r => gap e.1 (e.2 :: r)) (gap last [])
def pool (es : List (Nat × CpInfo)) (last : Nat) : Array CpInfo := ⟨poolList es last⟩
def fileOf (pool : Array CpInfo) (this : Nat) (attrs : Array Attribute := #[]) (ms : Array MethodInfo := #[]) (fl : Nat := 33) (sup : Nat := 0) (ifs : Array Nat := #[]) (fds : Array FieldInfo := #[]) : ClassFile where
  minorVersion := 0
  majorVersion := 65
  constantPool := pool
  accessFlags := fl
  thisClass := this
  superClass := sup
  interfaces := ifs
  fields := fds
  methods := ms
  attributes := attrs
def plain (name : String) (sup : Option ClassId) : Class where
  name := name
  kind := .ordinary
  loader := none
  accessFlags := 33
  super := sup
  interfaces := #[]
  cf := none
  fields := #[]
  methods := #[]
  instanceTypes := #[]
  staticTypes := #[]
  resolved := #[]
  callSites := []
  init := .initialized
  statics := none
  mirror := none

def pool0 : Array CpInfo := pool [(5, u "<init>"), (0, u "()V"), (1, .class_ 10), (1, u "java/lang/Object")] 113

def k0m0 : Method := { name := "<init>", desc := "()V", sig := { parameters := [], returnType := none }, accessFlags := 1, code := none }
/-- java/lang/Object -/
def k0 : Class := { plain "java/lang/Object" none with
  accessFlags := 33
  interfaces := #[]
  cf := some (fileOf pool0 8 #[] #[{ accessFlags := 1, nameIndex := 5, descriptorIndex := 6, attributes := #[] }] 33 0 #[] #[])
  fields := #[]
  methods := #[k0m0]
  instanceTypes := #[]
  staticTypes := #[]
  resolved := Array.replicate 124 none
  statics := none }

def pool1 : Array CpInfo := pool [(2, .class_ 4), (1, u "java/lang/Object"), (0, u "<init>"), (0, u "()V"), (0, .fieldref 8 9), (0, .class_ 10), (0, .nameAndType 11 12), (0, u "com/example/latticework/latticework/lattice/Sign"), (0, u "BOT"), (0, u "Lcom/example/latticework/latticework/lattice/Sign;"), (0, .fieldref 8 14), (0, .nameAndType 15 12), (0, u "ZERO"), (0, .fieldref 8 17), (0, .nameAndType 18 12), (0, u "NEG"), (0, .fieldref 8 20), (0, .nameAndType 21 12), (0, u "POS"), (0, .fieldref 8 23), (0, .nameAndType 24 12), (0, u "TOP"), (0, .integer 2147483647), (0, .methodref 27 28), (0, .class_ 29), (0, .nameAndType 30 31), (0, u "com/example/latticework/latticework/lattice/SignLeqPinLaw"), (0, u "pick"), (0, u "(I)Lcom/example/latticework/latticework/lattice/Sign;"), (0, .methodref 27 33), (0, .nameAndType 34 35), (0, u "height"), (0, u "(I)I"), (0, .methodref 8 37), (0, .nameAndType 38 39), (0, u "leq"), (0, u "(Lcom/example/latticework/latticework/lattice/Sign;)Z"), (3, u "law"), (0, u "(II)Z")] 2

def k1m0 : Method := { name := "<init>", desc := "()V", sig := { parameters := [], returnType := none }, accessFlags := 1, code := none }
def k1c1 : Code := { maxStack := 2, maxLocals := 1, code := method_2_code, exceptionTable := #[], attributes := #[] }
def k1m1 : Method := { name := "pick", desc := "(I)Lcom/example/latticework/latticework/lattice/Sign;", sig := { parameters := [.int], returnType := some (.object "com/example/latticework/latticework/lattice/Sign") }, accessFlags := 10, code := some k1c1 }
def k1c2 : Code := { maxStack := 2, maxLocals := 1, code := method_3_code, exceptionTable := #[], attributes := #[] }
def k1m2 : Method := { name := "height", desc := "(I)I", sig := { parameters := [.int], returnType := some .int }, accessFlags := 10, code := some k1c2 }
def k1c3 : Code := { maxStack := 2, maxLocals := 7, code := code, exceptionTable := #[], attributes := #[] }
def k1m3 : Method := { name := "law", desc := "(II)Z", sig := { parameters := [.int, .int], returnType := some .boolean }, accessFlags := 9, code := some k1c3 }
/-- com/example/latticework/latticework/lattice/SignLeqPinLaw -/
def k1 : Class := { plain "com/example/latticework/latticework/lattice/SignLeqPinLaw" (some 0) with
  accessFlags := 49
  interfaces := #[]
  cf := some (fileOf pool1 27 #[] #[{ accessFlags := 1, nameIndex := 5, descriptorIndex := 6, attributes := #[] }, { accessFlags := 10, nameIndex := 30, descriptorIndex := 31, attributes := #[] }, { accessFlags := 10, nameIndex := 34, descriptorIndex := 35, attributes := #[] }, { accessFlags := 9, nameIndex := 43, descriptorIndex := 44, attributes := #[] }] 49 2 #[] #[])
  fields := #[]
  methods := #[k1m0, k1m1, k1m2, k1m3]
  instanceTypes := #[]
  staticTypes := #[]
  resolved := Array.replicate 47 none
  statics := none }

def pool2 : Array CpInfo := pool [(1, .class_ 2), (0, u "java/lang/constant/Constable"), (0, .class_ 4), (0, u "java/lang/Object")] 6

/-- java/lang/constant/Constable -/
def k2 : Class := { plain "java/lang/constant/Constable" (some 0) with
  accessFlags := 1537
  interfaces := #[]
  cf := some (fileOf pool2 1 #[] #[] 1537 3 #[] #[])
  fields := #[]
  methods := #[]
  instanceTypes := #[]
  staticTypes := #[]
  resolved := Array.replicate 11 none
  statics := none }

def pool3 : Array CpInfo := pool [(1, .class_ 2), (0, u "java/lang/Comparable"), (0, .class_ 4), (0, u "java/lang/Object")] 7

/-- java/lang/Comparable -/
def k3 : Class := { plain "java/lang/Comparable" (some 0) with
  accessFlags := 1537
  interfaces := #[]
  cf := some (fileOf pool3 1 #[] #[] 1537 3 #[] #[])
  fields := #[]
  methods := #[]
  instanceTypes := #[]
  staticTypes := #[]
  resolved := Array.replicate 12 none
  statics := none }

def pool4 : Array CpInfo := pool [(1, .class_ 2), (0, u "java/io/Serializable"), (0, .class_ 4), (0, u "java/lang/Object")] 2

/-- java/io/Serializable -/
def k4 : Class := { plain "java/io/Serializable" (some 0) with
  accessFlags := 1537
  interfaces := #[]
  cf := some (fileOf pool4 1 #[] #[] 1537 3 #[] #[])
  fields := #[]
  methods := #[]
  instanceTypes := #[]
  staticTypes := #[]
  resolved := Array.replicate 7 none
  statics := none }

def pool5 : Array CpInfo := pool [(2, .class_ 4), (1, u "java/lang/Enum"), (0, u "name"), (0, u "Ljava/lang/String;"), (2, u "ordinal"), (0, u "I"), (1, .class_ 14), (1, u "java/lang/Object"), (4, u "hash"), (86, .class_ 108), (1, u "java/lang/Enum$EnumDesc"), (2, .class_ 112), (0, u "java/lang/constant/Constable"), (0, .class_ 114), (0, u "java/lang/Comparable"), (0, .class_ 116), (0, u "java/io/Serializable")] 87

/-- java/lang/Enum -/
def k5 : Class := { plain "java/lang/Enum" (some 0) with
  accessFlags := 1057
  interfaces := #[2, 3, 4]
  cf := some (fileOf pool5 2 #[.nestMembers #[106]] #[] 1057 12 #[111, 113, 115] #[{ accessFlags := 18, nameIndex := 5, descriptorIndex := 6, attributes := #[] }, { accessFlags := 18, nameIndex := 9, descriptorIndex := 10, attributes := #[] }, { accessFlags := 2, nameIndex := 19, descriptorIndex := 10, attributes := #[] }])
  fields := #[{ name := "name", type := (.object "java/lang/String"), accessFlags := 18, slot := 0, constantValue := 0 }, { name := "ordinal", type := .int, accessFlags := 18, slot := 1, constantValue := 0 }, { name := "hash", type := .int, accessFlags := 2, slot := 2, constantValue := 0 }]
  methods := #[]
  instanceTypes := #[(.object "java/lang/String"), .int, .int]
  staticTypes := #[]
  resolved := Array.replicate 204 none
  statics := none }

def pool6 : Array CpInfo := pool [(1, .class_ 2), (0, u "com/example/latticework/latticework/lattice/Sign"), (0, .fieldref 1 4), (0, .nameAndType 5 6), (0, u "BOT"), (0, u "Lcom/example/latticework/latticework/lattice/Sign;"), (2, u "ZERO"), (2, u "NEG"), (2, u "POS"), (0, .fieldref 1 17), (0, .nameAndType 18 6), (0, u "TOP"), (2, u "$VALUES"), (0, u "[Lcom/example/latticework/latticework/lattice/Sign;"), (6, .class_ 31), (1, u "java/lang/Enum"), (8, u "text"), (0, u "Ljava/lang/String;"), (2, .methodref 45 46), (0, .class_ 47), (0, .nameAndType 48 49), (0, u "java/util/Objects"), (0, u "requireNonNull"), (0, u "(Ljava/lang/Object;Ljava/lang/String;)Ljava/lang/Object;"), (26, .string 77), (0, u "other"), (2, u "leq"), (0, u "(Lcom/example/latticework/latticework/lattice/Sign;)Z"), (21, .class_ 104), (0, u "com/example/latticework/latticework/lattice/Sign$1"), (5, u "LATTICE"), (0, u "Lcom/example/latticework/latticework/lattice/ValueLattice;")] 34

def k6c0 : Code := { maxStack := 2, maxLocals := 2, code := prog_75_method_6_code, exceptionTable := #[], attributes := #[] }
def k6m0 : Method := { name := "leq", desc := "(Lcom/example/latticework/latticework/lattice/Sign;)Z", sig := { parameters := [(.object "com/example/latticework/latticework/lattice/Sign")], returnType := some .boolean }, accessFlags := 1, code := some k6c0 }
/-- com/example/latticework/latticework/lattice/Sign -/
def k6 : Class := { plain "com/example/latticework/latticework/lattice/Sign" (some 5) with
  accessFlags := 16433
  interfaces := #[]
  cf := some (fileOf pool6 1 #[.nestMembers #[103]] #[{ accessFlags := 1, nameIndex := 80, descriptorIndex := 81, attributes := #[] }] 16433 29 #[] #[{ accessFlags := 16409, nameIndex := 5, descriptorIndex := 6, attributes := #[] }, { accessFlags := 16409, nameIndex := 9, descriptorIndex := 6, attributes := #[] }, { accessFlags := 16409, nameIndex := 12, descriptorIndex := 6, attributes := #[] }, { accessFlags := 16409, nameIndex := 15, descriptorIndex := 6, attributes := #[] }, { accessFlags := 16409, nameIndex := 18, descriptorIndex := 6, attributes := #[] }, { accessFlags := 25, nameIndex := 110, descriptorIndex := 111, attributes := #[] }, { accessFlags := 18, nameIndex := 40, descriptorIndex := 41, attributes := #[] }, { accessFlags := 4122, nameIndex := 21, descriptorIndex := 22, attributes := #[] }])
  fields := #[{ name := "BOT", type := (.object "com/example/latticework/latticework/lattice/Sign"), accessFlags := 16409, slot := 0, constantValue := 0 }, { name := "ZERO", type := (.object "com/example/latticework/latticework/lattice/Sign"), accessFlags := 16409, slot := 1, constantValue := 0 }, { name := "NEG", type := (.object "com/example/latticework/latticework/lattice/Sign"), accessFlags := 16409, slot := 2, constantValue := 0 }, { name := "POS", type := (.object "com/example/latticework/latticework/lattice/Sign"), accessFlags := 16409, slot := 3, constantValue := 0 }, { name := "TOP", type := (.object "com/example/latticework/latticework/lattice/Sign"), accessFlags := 16409, slot := 4, constantValue := 0 }, { name := "LATTICE", type := (.object "com/example/latticework/latticework/lattice/ValueLattice"), accessFlags := 25, slot := 5, constantValue := 0 }, { name := "text", type := (.object "java/lang/String"), accessFlags := 18, slot := 3, constantValue := 0 }, { name := "$VALUES", type := (.array (.object "com/example/latticework/latticework/lattice/Sign")), accessFlags := 4122, slot := 6, constantValue := 0 }]
  methods := #[k6m0]
  instanceTypes := #[(.object "java/lang/String"), .int, .int, (.object "java/lang/String")]
  staticTypes := #[(.object "com/example/latticework/latticework/lattice/Sign"), (.object "com/example/latticework/latticework/lattice/Sign"), (.object "com/example/latticework/latticework/lattice/Sign"), (.object "com/example/latticework/latticework/lattice/Sign"), (.object "com/example/latticework/latticework/lattice/Sign"), (.object "com/example/latticework/latticework/lattice/ValueLattice"), (.array (.object "com/example/latticework/latticework/lattice/Sign"))]
  resolved := Array.replicate 146 none
  statics := some 0 }

def pool7 : Array CpInfo := pool [(2, .class_ 4), (1, u "java/lang/CharSequence"), (42, .class_ 48), (0, u "java/lang/CharSequence$1CodePointIterator"), (10, .class_ 60), (0, u "java/lang/CharSequence$1CharIterator"), (5, .class_ 67), (0, u "java/lang/Object")] 63

/-- java/lang/CharSequence -/
def k7 : Class := { plain "java/lang/CharSequence" (some 0) with
  accessFlags := 1537
  interfaces := #[]
  cf := some (fileOf pool7 2 #[.nestMembers #[47, 59]] #[] 1537 66 #[] #[])
  fields := #[]
  methods := #[]
  instanceTypes := #[]
  staticTypes := #[]
  resolved := Array.replicate 131 none
  statics := none }

def pool8 : Array CpInfo := pool [(1, .class_ 2), (0, u "java/lang/constant/ConstantDesc"), (0, .class_ 4), (0, u "java/lang/Object")] 32

/-- java/lang/constant/ConstantDesc -/
def k8 : Class := { plain "java/lang/constant/ConstantDesc" (some 0) with
  accessFlags := 1537
  interfaces := #[]
  cf := some (fileOf pool8 1 #[] #[] 1537 3 #[] #[])
  fields := #[]
  methods := #[]
  instanceTypes := #[]
  staticTypes := #[]
  resolved := Array.replicate 37 none
  statics := none }

def pool9 : Array CpInfo := pool [(2, .class_ 4), (1, u "java/lang/Object"), (0, u "<init>"), (0, u "()V"), (3, .class_ 12), (1, u "java/lang/String"), (0, u "value"), (0, u "[B"), (2, u "coder"), (0, u "B"), (2, u "hash"), (0, u "I"), (2, u "hashIsZero"), (0, u "Z"), (13, u "COMPACT_STRINGS"), (534, .class_ 576), (0, u "java/lang/CharSequence"), (22, u "CASE_INSENSITIVE_ORDER"), (0, u "Ljava/util/Comparator;"), (500, u "serialPersistentFields"), (0, u "[Ljava/io/ObjectStreamField;"), (0, .class_ 1104), (0, u "java/lang/String$CaseInsensitiveComparator"), (1, .class_ 1107), (0, u "java/io/Serializable"), (0, .class_ 1109), (0, u "java/lang/Comparable"), (0, .class_ 1111), (0, u "java/lang/constant/Constable"), (0, .class_ 1113), (0, u "java/lang/constant/ConstantDesc"), (2, u "serialVersionUID"), (0, u "J"), (3, u "REPL"), (0, u "C"), (2, u "LATIN1"), (1, u "UTF16")] 323

def k9m0 : Method := { name := "<init>", desc := "()V", sig := { parameters := [], returnType := none }, accessFlags := 1, code := none }
/-- java/lang/String -/
def k9 : Class := { plain "java/lang/String" (some 0) with
  accessFlags := 49
  interfaces := #[4, 3, 7, 2, 8]
  cf := some (fileOf pool9 10 #[.nestMembers #[1103]] #[{ accessFlags := 1, nameIndex := 5, descriptorIndex := 6, attributes := #[] }] 49 2 #[1106, 1108, 575, 1110, 1112] #[{ accessFlags := 18, nameIndex := 13, descriptorIndex := 14, attributes := #[] }, { accessFlags := 18, nameIndex := 17, descriptorIndex := 18, attributes := #[] }, { accessFlags := 2, nameIndex := 21, descriptorIndex := 22, attributes := #[] }, { accessFlags := 2, nameIndex := 25, descriptorIndex := 26, attributes := #[] }, { accessFlags := 26, nameIndex := 1116, descriptorIndex := 1117, attributes := #[] }, { accessFlags := 24, nameIndex := 40, descriptorIndex := 26, attributes := #[] }, { accessFlags := 26, nameIndex := 1101, descriptorIndex := 1102, attributes := #[] }, { accessFlags := 26, nameIndex := 1121, descriptorIndex := 1122, attributes := #[] }, { accessFlags := 25, nameIndex := 599, descriptorIndex := 600, attributes := #[] }, { accessFlags := 24, nameIndex := 1125, descriptorIndex := 18, attributes := #[] }, { accessFlags := 24, nameIndex := 1127, descriptorIndex := 18, attributes := #[] }])
  fields := #[{ name := "value", type := (.array .byte), accessFlags := 18, slot := 0, constantValue := 0 }, { name := "coder", type := .byte, accessFlags := 18, slot := 1, constantValue := 0 }, { name := "hash", type := .int, accessFlags := 2, slot := 2, constantValue := 0 }, { name := "hashIsZero", type := .boolean, accessFlags := 2, slot := 3, constantValue := 0 }, { name := "serialVersionUID", type := .long, accessFlags := 26, slot := 0, constantValue := 0 }, { name := "COMPACT_STRINGS", type := .boolean, accessFlags := 24, slot := 1, constantValue := 0 }, { name := "serialPersistentFields", type := (.array (.object "java/io/ObjectStreamField")), accessFlags := 26, slot := 2, constantValue := 0 }, { name := "REPL", type := .char, accessFlags := 26, slot := 3, constantValue := 0 }, { name := "CASE_INSENSITIVE_ORDER", type := (.object "java/util/Comparator"), accessFlags := 25, slot := 4, constantValue := 0 }, { name := "LATIN1", type := .byte, accessFlags := 24, slot := 5, constantValue := 0 }, { name := "UTF16", type := .byte, accessFlags := 24, slot := 6, constantValue := 0 }]
  methods := #[k9m0]
  instanceTypes := #[(.array .byte), .byte, .int, .boolean]
  staticTypes := #[.long, .boolean, (.array (.object "java/io/ObjectStreamField")), .char, (.object "java/util/Comparator"), .byte, .byte]
  resolved := Array.replicate 1451 none
  statics := none }

def pool10 : Array CpInfo := pool [(2, .class_ 4), (1, u "java/lang/Object"), (0, u "<init>"), (0, u "()V"), (35, .class_ 44), (1, u "java/util/Objects"), (0, u "requireNonNull"), (48, u "(Ljava/lang/Object;Ljava/lang/String;)Ljava/lang/Object;")] 89

def k10m0 : Method := { name := "<init>", desc := "()V", sig := { parameters := [], returnType := none }, accessFlags := 2, code := none }
def k10c1 : Code := { maxStack := 3, maxLocals := 2, code := jdk_31_method_11_code, exceptionTable := #[], attributes := #[] }
def k10m1 : Method := { name := "requireNonNull", desc := "(Ljava/lang/Object;Ljava/lang/String;)Ljava/lang/Object;", sig := { parameters := [(.object "java/lang/Object"), (.object "java/lang/String")], returnType := some (.object "java/lang/Object") }, accessFlags := 9, code := some k10c1 }
/-- java/util/Objects -/
def k10 : Class := { plain "java/util/Objects" (some 0) with
  accessFlags := 49
  interfaces := #[]
  cf := some (fileOf pool10 42 #[] #[{ accessFlags := 2, nameIndex := 5, descriptorIndex := 6, attributes := #[] }, { accessFlags := 9, nameIndex := 45, descriptorIndex := 94, attributes := #[] }] 49 2 #[] #[])
  fields := #[]
  methods := #[k10m0, k10m1]
  instanceTypes := #[]
  staticTypes := #[]
  resolved := Array.replicate 184 none
  statics := none }

def pool11 : Array CpInfo := pool [(1, u "java/lang/Cloneable"), (0, .class_ 1), (0, u "java/lang/Object"), (0, .class_ 3)] 3

/-- java/lang/Cloneable -/
def k11 : Class := { plain "java/lang/Cloneable" (some 0) with
  accessFlags := 1537
  interfaces := #[]
  cf := some (fileOf pool11 2 #[] #[] 1537 4 #[] #[])
  fields := #[]
  methods := #[]
  instanceTypes := #[]
  staticTypes := #[]
  resolved := Array.replicate 8 none
  statics := none }

/-- the primitive byte -/
def k12 : Class := { plain "byte" none with kind := .primitive 'B', accessFlags := 0x411 }
/-- [B -/
def k13 : Class := { plain "[B" (some 0) with kind := .array 12 .byte, interfaces := #[11, 4], accessFlags := 1041 }

/-- the primitive int -/
def k14 : Class := { plain "int" none with kind := .primitive 'I', accessFlags := 0x411 }
/-- [I -/
def k15 : Class := { plain "[I" (some 0) with kind := .array 14 .int, interfaces := #[11, 4], accessFlags := 1041 }

def heap : Heap := #[{ cls := 6, slots := #[.ref 1, .ref 4, .ref 5, .ref 2, .ref 3, .null, .null], vm := .statics 6 },
  { cls := 6, slots := #[.null, .int 0, .int 0, .null], vm := .none },
  { cls := 6, slots := #[.null, .int 3, .int 0, .null], vm := .none },
  { cls := 6, slots := #[.null, .int 4, .int 0, .null], vm := .none },
  { cls := 6, slots := #[.null, .int 1, .int 0, .null], vm := .none },
  { cls := 6, slots := #[.null, .int 2, .int 0, .null], vm := .none }]
def classes : Array Class := #[k0, k1, k2, k3, k4, k5, k6, k7, k8, k9, k10, k11, k12, k13, k14, k15]
def interned : List (Array UInt16 × Addr) := []
def slotsUsed : Nat := 27
def theMethod : MethodId := ⟨1, 3⟩
def args0 : Array Value := #[.int 5, .int 7]
def aboutOver (below : List Frame) : State where
  vm := { classes := classes, interned := interned.toArray }
  heap := heap
  slotsUsed := slotsUsed
  threads := #[{ frames := .invoking theMethod args0 :: below }]
def below0 : List Frame := [.native { method := ⟨0, 0⟩, args := #[] }]
def about1 : State := aboutOver below0
def p0 : Program := .bare "" "" ""
def e0 : Env := launch0.env 0 0 0
theorem w_frames : about1.frames = Frame.invoking theMethod args0 :: below0 := rfl
set_option maxRecDepth 65536 in
theorem w_args : argsFit about1.vm theMethod args0 = true := by decide +kernel
set_option maxRecDepth 65536 in
theorem w_heap : heapFits about1 = true := by decide +kernel
set_option maxRecDepth 65536 in
theorem w_runnable : about1.curStatus? = some .runnable := by decide +kernel
set_option maxRecDepth 65536 in
theorem w_alone : about1.alone = true := by decide +kernel
set_option maxRecDepth 65536 in
theorem w_named : about1.methodNamed? x = some theMethod := by decide +kernel
set_option maxRecDepth 65536 in
theorem w_hears : about1.hears theMethod below0 = true := by decide +kernel
set_option maxRecDepth 65536 in
theorem w_ripe : about1.ripe theMethod args0 below0 = true := by decide +kernel
theorem w_running : about1.status = .running := rfl
set_option maxRecDepth 65536 in
theorem w_room : about1.hasRoom e0.platform room_1 = true :=
  launch0.hasRoom_least _ room_1 (by decide +kernel) (by decide +kernel) (by decide +kernel) (by decide +kernel) (by decide +kernel) (by decide +kernel)
theorem allAtoms_all (ts : List Jvm.Cond) (a : Array Jvm.Value) (st : Jvm.State) : (allAtoms ts).before a st = ts.all (fun c => c.before a st) := by
  induction ts with
  | nil => rfl
  | cons c t ih =>
    show (Jvm.Cond.and c (allAtoms t)).before a st = _
    rw [Jvm.Cond.before_and, ih, List.all_cons]
def words1 : List Jvm.Cond := Jvm.Cond.code x code maxLocals ret :: tables_1
/-- a 'code' word, met by the world's own term for the bytes: nothing is compared byte by byte -/
theorem code_word {y : MethodName} {bytes : ByteArray} {mx : Nat} {rt : Option FieldType} {a : Array Value} {s : State} {m : MethodId} {meth : Method} {c : Code} (h1 : s.methodNamed? y = some m) (h2 : s.vm.method? m = some meth) (h3 : meth.code = some c) (h4 : c.code = bytes)
    (h5 : (c.maxLocals == mx && c.exceptionTable.isEmpty && decide (c.maxStack ≤ mostOperands) && decide (meth.sig.returnType = rt) && !meth.locks && decide (parseMethodDescriptor y.desc = some meth.sig)) = true) : (Jvm.Cond.code y bytes mx rt).before a s = true := by
  simp only [Bool.and_eq_true, beq_iff_eq, Bool.not_eq_true', decide_eq_true_eq] at h5
  obtain ⟨⟨⟨⟨⟨g1, g2⟩, g3⟩, g4⟩, g5⟩, g6⟩ := h5
  simp [Cond.before, Cond.holds, Cond.value, h1, h2, h3, h4, g1, g2, g3, g4, g5, g6]
def isCode : Jvm.Cond → Bool
  | .code _ _ _ _ => true
  | _ => false
theorem all_split {L : List Jvm.Cond} {P : Jvm.Cond → Bool} (h1 : L.all (fun c => isCode c || P c) = true) (h2 : ∀ c ∈ L.filter isCode, P c = true) : L.all P = true := by
  refine List.all_eq_true.mpr fun c hc => ?_
  have h := List.all_eq_true.mp h1 c hc
  rcases Bool.eq_false_or_eq_true (isCode c) with hi | hi
  · exact h2 c (List.mem_filter.mpr ⟨hc, hi⟩)
  · simpa [hi] using h
set_option maxRecDepth 65536 in
theorem w_c0 : (Jvm.Cond.code x code maxLocals ret).before args0 about1 = true := code_word (m := ⟨1, 3⟩) (meth := k1m3) (c := k1c3) (by decide +kernel) rfl rfl rfl (by decide +kernel)
set_option maxRecDepth 65536 in
theorem w_c1 : (Jvm.Cond.code ({ cls := "com/example/latticework/latticework/lattice/SignLeqPinLaw", name := "pick", desc := "(I)Lcom/example/latticework/latticework/lattice/Sign;" } : Jvm.MethodName) method_2_code (1 : Nat) (Option.some (Jvm.ClassFile.FieldType.object "com/example/latticework/latticework/lattice/Sign"))).before args0 about1 = true := code_word (m := ⟨1, 1⟩) (meth := k1m1) (c := k1c1) (by decide +kernel) rfl rfl rfl (by decide +kernel)
set_option maxRecDepth 65536 in
theorem w_c2 : (Jvm.Cond.code ({ cls := "com/example/latticework/latticework/lattice/SignLeqPinLaw", name := "height", desc := "(I)I" } : Jvm.MethodName) method_3_code (1 : Nat) (Option.some Jvm.ClassFile.FieldType.int)).before args0 about1 = true := code_word (m := ⟨1, 2⟩) (meth := k1m2) (c := k1c2) (by decide +kernel) rfl rfl rfl (by decide +kernel)
set_option maxRecDepth 65536 in
theorem w_c3 : (Jvm.Cond.code ({ cls := "com/example/latticework/latticework/lattice/Sign", name := "leq", desc := "(Lcom/example/latticework/latticework/lattice/Sign;)Z" } : Jvm.MethodName) prog_75_method_6_code (2 : Nat) (Option.some Jvm.ClassFile.FieldType.boolean)).before args0 about1 = true := code_word (m := ⟨6, 0⟩) (meth := k6m0) (c := k6c0) (by decide +kernel) rfl rfl rfl (by decide +kernel)
set_option maxRecDepth 65536 in
theorem w_c4 : (Jvm.Cond.code ({ cls := "java/util/Objects", name := "requireNonNull", desc := "(Ljava/lang/Object;Ljava/lang/String;)Ljava/lang/Object;" } : Jvm.MethodName) jdk_31_method_11_code (2 : Nat) (Option.some (Jvm.ClassFile.FieldType.object "java/lang/Object"))).before args0 about1 = true := code_word (m := ⟨10, 1⟩) (meth := k10m1) (c := k10c1) (by decide +kernel) rfl rfl rfl (by decide +kernel)
def codes1 : List Jvm.Cond := [Jvm.Cond.code x code maxLocals ret, Jvm.Cond.code ({ cls := "com/example/latticework/latticework/lattice/SignLeqPinLaw", name := "pick", desc := "(I)Lcom/example/latticework/latticework/lattice/Sign;" } : Jvm.MethodName) method_2_code (1 : Nat) (Option.some (Jvm.ClassFile.FieldType.object "com/example/latticework/latticework/lattice/Sign")), Jvm.Cond.code ({ cls := "com/example/latticework/latticework/lattice/SignLeqPinLaw", name := "height", desc := "(I)I" } : Jvm.MethodName) method_3_code (1 : Nat) (Option.some Jvm.ClassFile.FieldType.int), Jvm.Cond.code ({ cls := "com/example/latticework/latticework/lattice/Sign", name := "leq", desc := "(Lcom/example/latticework/latticework/lattice/Sign;)Z" } : Jvm.MethodName) prog_75_method_6_code (2 : Nat) (Option.some Jvm.ClassFile.FieldType.boolean), Jvm.Cond.code ({ cls := "java/util/Objects", name := "requireNonNull", desc := "(Ljava/lang/Object;Ljava/lang/String;)Ljava/lang/Object;" } : Jvm.MethodName) jdk_31_method_11_code (2 : Nat) (Option.some (Jvm.ClassFile.FieldType.object "java/lang/Object"))]
set_option maxRecDepth 65536 in
theorem codes_eq : words1.filter isCode = codes1 := rfl
theorem w_codes : ∀ c ∈ words1.filter isCode, c.before args0 about1 = true := by
  rw [codes_eq]
  intro c hc
  simp only [codes1, List.mem_cons, List.not_mem_nil, or_false] at hc
  rcases hc with rfl | rfl | rfl | rfl | rfl
  · exact w_c0
  · exact w_c1
  · exact w_c2
  · exact w_c3
  · exact w_c4
set_option maxRecDepth 65536 in
theorem w_t1 : (words1.take 24).all (fun c => isCode c || c.before args0 about1) = true := by decide +kernel
set_option maxRecDepth 65536 in
theorem w_t2 : (words1.drop 24).all (fun c => isCode c || c.before args0 about1) = true := by decide +kernel
theorem w_tables : (allAtoms (Jvm.Cond.code x code maxLocals ret :: tables_1)).before args0 about1 = true := by
  rw [allAtoms_all]
  show words1.all (fun c => c.before args0 about1) = true
  refine all_split ?_ w_codes
  rw [← List.take_append_drop 24 words1, List.all_append, w_t1, w_t2]
  rfl
set_option maxRecDepth 65536 in
theorem w_case : (Jvm.Cond.and given_1 narrow_1).before args0 about1 = true := by decide +kernel
theorem w_applies : (headSpec (Jvm.Cond.code x code maxLocals ret :: tables_1) room_1).applies x e0.platform about1 = true :=
  (Spec.applies_iff w_frames).mpr ⟨w_running, w_runnable, w_alone, w_named, w_hears, w_ripe, w_room, w_tables⟩
theorem atStart : AtStart classFile x code maxLocals ret World_1 tables_1 room_1 Calls_1 rest_1 Pre_1 launch0 p0 e0 about1 theMethod args0 below0 :=
  ⟨lists_1, trivial, launch0.admits_env _ _ _, launch0.least_env, fairChoices_fair.cas, fairChoices_fair.clock, w_frames, w_args, w_heap, w_applies, trivial, trivial, w_case⟩
end start1
theorem witness_1 : WitnessClaimed_1 := ⟨start1.p0, start1.e0, start1.about1, start1.theMethod, start1.args0, start1.below0, start1.atStart⟩
end Jvm.Pilot.@@N@@
