import JvmDerived
import JvmDerived.Pilot.@@N@@Statement
import JvmDerived.Pilot.@@N@@Code
set_option linter.unusedVariables false
set_option linter.unusedSimpArgs false
namespace Jvm.RoadKit
open Sem ClassFile Op Lib Jvm.Stand Jvm.Free Jvm.LawKit
section New
variable {p : Program} {l : Launch} {e : Env} {R : Room} {s : State} {m : MethodId} {args : Array Value} {below : List Frame} {meth : Method} {c : Code} {T : State} {locs : List Loc} {cells slots : Nat}
theorem retI (X : Stand p l e R s m args below meth c T locs cells slots) (hx : p.tables.exec = Jvm.exec) {pc : Nat} {Ls : Array Slot} {z : Int32} {rest : List Value} (hret : meth.sig.returnType = some .int) (hd : decode c.code pc = .ok (.ireturn, 1)) {fs : List Frame}
    (hl : ∀ (f : JFrame) (acts : List Action), f.method = m → f.locked = none → f.entered = [] → (doReturn e (T.setTop f) acts (some (.int z))).1 = T.setFrames fs) : Steps p.tables e below (T.setTop (mkF m pc Ls (.int z :: rest))) (T.setFrames fs) := by
  have hm' : T.vm.method? m = some meth := X.method'
  have hn : narrow .int (.int z) = .int z := rfl
  show Steps p.tables e below (T.setTop { method := m, pc := pc, locals := Ls, stack := _ :: rest, locked := none }) _
  jvm_step X.here [X.here.top, hx, hd, hm', hret, hn]
  first | (intro acts; rw [hl _ acts rfl rfl rfl]) | rw [hl _ _ rfl rfl rfl]
  exact Steps.refl _
theorem eqv_r {Z : State} {args : Array Value} {X F : Term} {idx : List Nat} {y : Addr} (hF : F.eval args Z none idx Z = some (.ref y)) (h : (Cond.eq X F).value args Z none Z idx = some true) : X.eval args Z none idx Z = some (.ref y) := by
  obtain ⟨x, y', e1, e2, k1, k2⟩ := cmp_v (Or.inl h)
  cases hF.symm.trans e2
  have hx : x.isRef = true := k2.2
  have q : x = .ref y := gotT (eq_R e1 hF hx rfl) h
  rw [e1, q]
end New
end Jvm.RoadKit
namespace Jvm.Pilot.@@N@@
open Jvm Jvm.ClassFile Sem Op Lib Jvm.Free Jvm.Stand Jvm.LawKit Jvm.RoadKit Bundle Jvm.Pilot.@@N@@.Jvm.D
theorem own_eT {Z T : State} {h : Heap} {a : Addr} {c : Cell} {ty : FieldType} (e : T.heap = h) (A : Arr Z h a c ty) : T.heap[a]? = some c := by rw [e]; exact A.1
def Go (p : Program) (e : Env) (below : List Frame) (Qf : Outcome → State → Prop) (W : State) : Prop := ∃ s₂ o, Steps p.tables e below W s₂ ∧ s₂.status = .running ∧ Ended s₂ below o ∧ Qf o s₂
theorem Go.st {p : Program} {e : Env} {below : List Frame} {Qf : Outcome → State → Prop} {W V' : State} (h : ∀ t, Steps p.tables e below V' t → Steps p.tables e below W t) (g : Go p e below Qf V') : Go p e below Qf W := by
  obtain ⟨s₂, o, g1, g2⟩ := g
  exact ⟨s₂, o, h _ g1, g2⟩
theorem Go.out {p : Program} {e : Env} {below : List Frame} {Qf : Outcome → State → Prop} {W : State} (g : Go p e below Qf W) : ∃ s₂ o, Steps p.tables e below W s₂ ∧ s₂.status = .running ∧ Ended s₂ below o ∧ Qf o s₂ := g
theorem Go.mk' {p : Program} {e : Env} {below : List Frame} {Qf : Outcome → State → Prop} {W : State} (g : ∃ s₂ o, Steps p.tables e below W s₂ ∧ s₂.status = .running ∧ Ended s₂ below o ∧ Qf o s₂) : Go p e below Qf W := g
theorem own_lits : (0 : Int32).toInt = 0 ∧ (1 : Int32).toInt = 1 ∧ (2 : Int32).toInt = 2 ∧ (3 : Int32).toInt = 3 ∧ (4 : Int32).toInt = 4 ∧ (255 : Int32).toInt = 255 := by decide
theorem own_n4 (x : Int32) : 0 < ((1 : Int32) + (x &&& (3 : Int32))).toInt ∧ ((1 : Int32) + (x &&& (3 : Int32))).toInt ≤ 4 := by
  have a := c_and x 3 (by decide)
  have c := c_iadd 1 (x &&& 3)
  have r := rng32 ((1 : Int32) + (x &&& 3))
  obtain ⟨l0, l1, l2, l3, l4, l5⟩ := own_lits
  omega
theorem own_z0 {n : Int32} (h : 0 < n.toInt ∧ n.toInt ≤ 4) : (0 : Int32) < n := by
  have l := own_lits.1
  rw [Int32.lt_iff_toInt_lt]; omega
theorem own_nn {n : Int32} (h : 0 < n.toInt ∧ n.toInt ≤ 4) : ¬ n < (0 : Int32) := by
  have l := own_lits.1
  rw [Int32.lt_iff_toInt_lt]; omega
theorem own_cap {n : Int32} (h : 0 < n.toInt ∧ n.toInt ≤ 4) : n.toNatClampNeg ≤ 4 := by
  show n.toInt.toNat ≤ 4
  omega
theorem own_j {n : Int32} (h : 0 < n.toInt ∧ n.toInt ≤ 4) : (((0 : Int32) + (1 : Int32)) + n).toInt = 1 + n.toInt := by
  have c := c_iadd ((0 : Int32) + (1 : Int32)) n
  have r := rng32 (((0 : Int32) + (1 : Int32)) + n)
  have e : ((0 : Int32) + (1 : Int32)).toInt = 1 := by decide
  omega
theorem own_jz {n : Int32} (h : 0 < n.toInt ∧ n.toInt ≤ 4) : (0 : Int32) < (((0 : Int32) + (1 : Int32)) + n) := by
  have l := own_lits.1
  have j := own_j h
  rw [Int32.lt_iff_toInt_lt]; omega
theorem own_jn {n : Int32} (h : 0 < n.toInt ∧ n.toInt ≤ 4) : ¬ (((0 : Int32) + (1 : Int32)) + n) < (0 : Int32) := by
  have l := own_lits.1
  have j := own_j h
  rw [Int32.lt_iff_toInt_lt]; omega
theorem own_jc {n : Int32} (h : 0 < n.toInt ∧ n.toInt ≤ 4) : (((0 : Int32) + (1 : Int32)) + n).toNatClampNeg ≤ 5 := by
  have j := own_j h
  show (((0 : Int32) + (1 : Int32)) + n).toInt.toNat ≤ 5
  omega
theorem own_j1 {n : Int32} (h : 0 < n.toInt ∧ n.toInt ≤ 4) : (0 : Int32).toNatClampNeg + (1 : Int32).toNatClampNeg ≤ (((0 : Int32) + (1 : Int32)) + n).toNatClampNeg := by
  have j := own_j h
  show 0 + 1 ≤ (((0 : Int32) + (1 : Int32)) + n).toInt.toNat
  omega
theorem own_j5 {n : Int32} (h : 0 < n.toInt ∧ n.toInt ≤ 4) : ((0 : Int32) + (1 : Int32)).toNatClampNeg + n.toNatClampNeg ≤ (((0 : Int32) + (1 : Int32)) + n).toNatClampNeg := by
  have j := own_j h
  have e : ((0 : Int32) + (1 : Int32)).toNatClampNeg = 1 := by decide
  rw [e]
  show 1 + n.toInt.toNat ≤ (((0 : Int32) + (1 : Int32)) + n).toInt.toNat
  omega
theorem own_j4 {n : Int32} : (0 : Int32).toNatClampNeg + n.toNatClampNeg ≤ n.toNatClampNeg := by
  have e : (0 : Int32).toNatClampNeg = 0 := by decide
  omega
theorem own_j8 {n : Int32} {v : List Value} (hv : v.length = 8) (h : 0 < n.toInt ∧ n.toInt ≤ 4) : ((0 : Int32) + (1 : Int32)).toNatClampNeg + n.toNatClampNeg ≤ v.length := by
  have e : ((0 : Int32) + (1 : Int32)).toNatClampNeg = 1 := by decide
  have c := own_cap h
  omega
theorem own_app {Z : State} {h : Heap} {a : Addr} {k : ClassId} {z : Int32} {v0 : Value} {r us : List Value} {n : Nat} {dd : Value} (V : Arv Z h a k .byte z ((v0 :: r).take ((0 : Int32) + (1 : Int32)).toNatClampNeg ++ us ++ (v0 :: r).drop n) dd) : Arv Z h a k .byte z (v0 :: (us ++ (v0 :: r).drop n)) dd := by
  have e : ((0 : Int32) + (1 : Int32)).toNatClampNeg = 1 := by decide
  rw [e] at V
  simpa using V
theorem own_nl {a b n : Int32} (h : ¬ a < n) (hab : a < b) : ¬ b < n := fun q => h (Int32.lt_trans hab q)
theorem own_nar (x : Int32) : nar .byte x.toInt8.toInt32 = x.toInt8.toInt32 := by
  have c := c_i2b x
  have c2 := c_i2b x.toInt8.toInt32
  apply Int32.toInt_inj.mp
  show (x.toInt8.toInt32.toInt8.toInt32).toInt = _
  omega
theorem own_b (x y : Int32) (hy : y = 2 ∨ y = 3) : (nar .byte x.toInt8.toInt32 = y) ↔ ((x &&& (255 : Int32)) = y) := by
  rw [own_nar]
  have c := c_i2b x
  have m := c_mask x 255 8 (by decide) (by decide)
  rw [← Int32.toInt_inj, ← Int32.toInt_inj]
  obtain ⟨l0, l1, l2, l3, l4, l5⟩ := own_lits
  rcases hy with rfl | rfl <;> omega

theorem own_d7_0 : decode prog_132_method_20_code 0 = .ok (.aload_n 0, 1) := by decide +kernel
theorem own_d7_1 : decode prog_132_method_20_code 1 = .ok (.iconst 0, 1) := by decide +kernel
theorem own_d7_2 : decode prog_132_method_20_code 2 = .ok (.baload, 1) := by decide +kernel
theorem own_d7_3 : decode prog_132_method_20_code 3 = .ok (.iconst 2, 1) := by decide +kernel
theorem own_d7_4 : decode prog_132_method_20_code 4 = .ok (.if_icmp .eq 10, 3) := by decide +kernel
theorem own_d7_14 : decode prog_132_method_20_code 14 = .ok (.iconst 1, 1) := by decide +kernel
theorem own_d7_15 : decode prog_132_method_20_code 15 = .ok (.goto 4, 3) := by decide +kernel
theorem own_d7_19 : decode prog_132_method_20_code 19 = .ok (.ireturn, 1) := by decide +kernel
theorem own_d7_7 : decode prog_132_method_20_code 7 = .ok (.aload_n 0, 1) := by decide +kernel
theorem own_d7_8 : decode prog_132_method_20_code 8 = .ok (.iconst 0, 1) := by decide +kernel
theorem own_d7_9 : decode prog_132_method_20_code 9 = .ok (.baload, 1) := by decide +kernel
theorem own_d7_10 : decode prog_132_method_20_code 10 = .ok (.iconst 3, 1) := by decide +kernel
theorem own_d7_11 : decode prog_132_method_20_code 11 = .ok (.if_icmp .ne 7, 3) := by decide +kernel
theorem own_d7_18 : decode prog_132_method_20_code 18 = .ok (.iconst 0, 1) := by decide +kernel
theorem own_pn0 : plainName "com/example/rooted_kinds/rootedkinds/storage/Rows" = true := by first | (simp [plainName, overriddenIn]; done) | decide +kernel
theorem ef7 (m : MethodId) (r0 : Addr) : entryFrame m #[(.ref r0)] 1 = mkF m 0 #[.val (.ref r0)] [] := by first | (simp [entryFrame, mkF, argsToLocals, Value.category]; done) | rfl
def f7 (v0_r0 : Int32) : Int32 := (if v0_r0 = (2 : Int32) then (1 : Int32) else (if v0_r0 = (3 : Int32) then (1 : Int32) else (0 : Int32)))
def Q7 (Z : State) (v0_r0 : Int32) (h0 : Heap) (n0 : Nat) (v : Option Value) (h : Heap) (L : List Loc) : Prop := v = some (.int (f7 v0_r0)) ∧ Fr n0 L ∧ h = h0
set_option maxRecDepth 65536 in
set_option maxHeartbeats 40000000 in
theorem rm7 (l : Launch) (Z : State) (a0 : Array Value) (hw : ∀ d ∈ tables_1, d.before a0 Z = true) (ws : List Jvm.Cond) (r0 : Addr) (k_r0 : ClassId) (z_r0 : Int32) (v0_r0 : Int32) (vs_r0 : List Value) (h0 : Heap) (n0 : Nat) (O0 : Old Z n0 h0) (V_r0 : Arv Z h0 r0 k_r0 .byte z_r0 ((.int v0_r0) :: vs_r0) (.int (0 : Int32))) (hz0 : (0 : Int32) < z_r0) :
    MetFree l (⟨"com/example/rooted_kinds/rootedkinds/storage/Rows", "holdsRecord", "([B)Z"⟩ : MethodName) (head1 (Jvm.Cond.code (⟨"com/example/rooted_kinds/rootedkinds/storage/Rows", "holdsRecord", "([B)Z"⟩ : MethodName) prog_132_method_20_code 1 (some .boolean) :: ws) ({ frames := 0, cells := 0, slots := 0, locals := 0 } : Room)) (fun a U => a = #[(.ref r0)] ∧ Z.Warmed39 U.vm ∧ U.heap = h0) (fun _ _ _ _ _ => True) (fun _ U o U' => ∃ v L, o = .returned v ∧ Q7 Z v0_r0 h0 n0 v U'.heap L ∧ FrameEnd U o U' L ({ frames := 0, cells := 0, slots := 0, locals := 0 } : Room).cells ({ frames := 0, cells := 0, slots := 0, locals := 0 } : Room).slots) := by
  refine MetFree.of_bodySF (plainFor_of_name own_pn0) hisR ?_
  intro p e s m args below meth c s₁ Bd hml0 hP hK
  obtain ⟨rfl, hZ, hh⟩ := hP
  have hx := Bd.exec
  have hby := Bd.bytes
  have hml : c.maxLocals = 1 := hml0
  have hown : s.vm.findClass "com/example/rooted_kinds/rootedkinds/storage/Rows" = some m.cls := findClass_of_methodNamed Bd.named
  have hnm := (name_of_methodNamed Bd.named Bd.method).1
  have X0 : Stand p l e ({ frames := 0, cells := 0, slots := 0, locals := 0 } : Room) s m #[(.ref r0)] below meth c s₁ [] 0 0 := Stand.of_body Bd
  have e0 : s₁.heap = h0 := by rw [← hh, Bd.state]; rfl
  have N0 := Fr.nil n0
  have K0 := Keep.refl h0 []
  refine Go.out ?_
  refine Go.st (V' := s₁.setTop (mkF m 0 #[.val (.ref r0)] [])) (fun t k => castTop (ef7 m r0) k) ?_
  refine Go.st (V' := s₁.setTop (mkF m 2 #[.val (.ref r0)] [(.int (0 : Int32)), (.ref r0)])) (fun t k => ?_) ?_
  · refine XS.aloadN X0.here hx rfl (hb hby own_d7_0) rfl rfl ?_
    show Steps p.tables e below (s₁.setTop (mkF m 1 #[.val (.ref r0)] [(.ref r0)])) _
    refine XS.iconst X0.here hx rfl (hb hby own_d7_1) ?_
    show Steps p.tables e below (s₁.setTop (mkF m 2 #[.val (.ref r0)] [(.int (0 : Int32)), (.ref r0)])) _
    exact k
  obtain ⟨cl1, Ar1, q1, Sz1, Nn1, Ha1, Ga1⟩ := id (V_r0)
  have hin1 : ¬ ((0 : Int32) < 0 ∨ cl1.slots.size ≤ ((0 : Int32)).toNatClampNeg) := inb_of Sz1 ⟨by decide, hz0⟩
  refine Go.st (V' := s₁.setTop (mkF m 4 #[.val (.ref r0)] [(.int (2 : Int32)), (.int v0_r0)])) (fun t k => ?_) ?_
  · show Steps p.tables e below (s₁.setTop (mkF m 2 #[.val (.ref r0)] [(.int (0 : Int32)), (.ref r0)])) _
    refine X0.baloadBytes hx (j := (0 : Int32)) (v := (.int v0_r0)) (own_eT e0 Ar1) (State.isArrayOf_alike hZ.alike Ar1.2.1) Ar1.2.2 hin1 (Ha1.at hin1 rfl) (g := (mkF m 2 #[.val (.ref r0)] [(.int (0 : Int32)), (.ref r0)])) rfl rfl (hb hby own_d7_2) _ ?_
    show Steps p.tables e below (s₁.setTop (mkF m 3 #[.val (.ref r0)] [(.int v0_r0)])) _
    refine XS.iconst X0.here hx rfl (hb hby own_d7_3) ?_
    show Steps p.tables e below (s₁.setTop (mkF m 4 #[.val (.ref r0)] [(.int (2 : Int32)), (.int v0_r0)])) _
    exact k
  by_cases hc2 : v0_r0 = (2 : Int32)
  · refine Go.st (V' := s₁.setTop (mkF m 19 #[.val (.ref r0)] [(.int (1 : Int32))])) (fun t k => ?_) ?_
    · refine XS.icmpYes X0.here hx rfl (pc0 := 4) (pc' := 14) rfl (hb hby own_d7_4) rfl (teq hc2).1 (by decide) (by decide) ?_
      show Steps p.tables e below (s₁.setTop (mkF m 14 #[.val (.ref r0)] [])) _
      refine XS.iconst X0.here hx rfl (hb hby own_d7_14) ?_
      show Steps p.tables e below (s₁.setTop (mkF m 15 #[.val (.ref r0)] [(.int (1 : Int32))])) _
      refine XS.goto X0.here hx rfl (pc0 := 15) (pc' := 19) rfl (hb hby own_d7_15) (by decide) (by decide) ?_
      show Steps p.tables e below (s₁.setTop (mkF m 19 #[.val (.ref r0)] [(.int (1 : Int32))])) _
      exact k
    obtain ⟨fs, hr, hrun, hended, hW, hsame⟩ := X0.leave (v := some (.int (1 : Int32))) (fun h => by rw [Bd.returns] at h; cases h)
    refine Go.mk' ⟨_, _, retN X0 hx (t := .boolean) Bd.returns (by simp) (hb hby own_d7_19) hr, hrun, hended, _, _, rfl, ?_, ⟨_, rfl⟩, hW, hsame.mono (by decide) (by decide)⟩
    show Q7 Z v0_r0 h0 n0 _ s₁.heap _
    rw [e0]
    exact ⟨(by rw [f7, if_pos hc2]), N0, rfl⟩
  · refine Go.st (V' := s₁.setTop (mkF m 9 #[.val (.ref r0)] [(.int (0 : Int32)), (.ref r0)])) (fun t k => ?_) ?_
    · refine XS.icmpNo X0.here hx rfl (hb hby own_d7_4) rfl (feq hc2).1 ?_
      show Steps p.tables e below (s₁.setTop (mkF m 7 #[.val (.ref r0)] [])) _
      refine XS.aloadN X0.here hx rfl (hb hby own_d7_7) rfl rfl ?_
      show Steps p.tables e below (s₁.setTop (mkF m 8 #[.val (.ref r0)] [(.ref r0)])) _
      refine XS.iconst X0.here hx rfl (hb hby own_d7_8) ?_
      show Steps p.tables e below (s₁.setTop (mkF m 9 #[.val (.ref r0)] [(.int (0 : Int32)), (.ref r0)])) _
      exact k
    obtain ⟨cl3, Ar3, q3, Sz3, Nn3, Ha3, Ga3⟩ := id (V_r0)
    have hin3 : ¬ ((0 : Int32) < 0 ∨ cl3.slots.size ≤ ((0 : Int32)).toNatClampNeg) := inb_of Sz3 ⟨by decide, hz0⟩
    refine Go.st (V' := s₁.setTop (mkF m 11 #[.val (.ref r0)] [(.int (3 : Int32)), (.int v0_r0)])) (fun t k => ?_) ?_
    · show Steps p.tables e below (s₁.setTop (mkF m 9 #[.val (.ref r0)] [(.int (0 : Int32)), (.ref r0)])) _
      refine X0.baloadBytes hx (j := (0 : Int32)) (v := (.int v0_r0)) (own_eT e0 Ar3) (State.isArrayOf_alike hZ.alike Ar3.2.1) Ar3.2.2 hin3 (Ha3.at hin3 rfl) (g := (mkF m 9 #[.val (.ref r0)] [(.int (0 : Int32)), (.ref r0)])) rfl rfl (hb hby own_d7_9) _ ?_
      show Steps p.tables e below (s₁.setTop (mkF m 10 #[.val (.ref r0)] [(.int v0_r0)])) _
      refine XS.iconst X0.here hx rfl (hb hby own_d7_10) ?_
      show Steps p.tables e below (s₁.setTop (mkF m 11 #[.val (.ref r0)] [(.int (3 : Int32)), (.int v0_r0)])) _
      exact k
    by_cases hc4 : v0_r0 = (3 : Int32)
    · refine Go.st (V' := s₁.setTop (mkF m 19 #[.val (.ref r0)] [(.int (1 : Int32))])) (fun t k => ?_) ?_
      · refine XS.icmpNo X0.here hx rfl (hb hby own_d7_11) rfl (teq hc4).2 ?_
        show Steps p.tables e below (s₁.setTop (mkF m 14 #[.val (.ref r0)] [])) _
        refine XS.iconst X0.here hx rfl (hb hby own_d7_14) ?_
        show Steps p.tables e below (s₁.setTop (mkF m 15 #[.val (.ref r0)] [(.int (1 : Int32))])) _
        refine XS.goto X0.here hx rfl (pc0 := 15) (pc' := 19) rfl (hb hby own_d7_15) (by decide) (by decide) ?_
        show Steps p.tables e below (s₁.setTop (mkF m 19 #[.val (.ref r0)] [(.int (1 : Int32))])) _
        exact k
      obtain ⟨fs, hr, hrun, hended, hW, hsame⟩ := X0.leave (v := some (.int (1 : Int32))) (fun h => by rw [Bd.returns] at h; cases h)
      refine Go.mk' ⟨_, _, retN X0 hx (t := .boolean) Bd.returns (by simp) (hb hby own_d7_19) hr, hrun, hended, _, _, rfl, ?_, ⟨_, rfl⟩, hW, hsame.mono (by decide) (by decide)⟩
      show Q7 Z v0_r0 h0 n0 _ s₁.heap _
      rw [e0]
      exact ⟨(by rw [f7, if_neg hc2, if_pos hc4]), N0, rfl⟩
    · refine Go.st (V' := s₁.setTop (mkF m 19 #[.val (.ref r0)] [(.int (0 : Int32))])) (fun t k => ?_) ?_
      · refine XS.icmpYes X0.here hx rfl (pc0 := 11) (pc' := 18) rfl (hb hby own_d7_11) rfl (feq hc4).2 (by decide) (by decide) ?_
        show Steps p.tables e below (s₁.setTop (mkF m 18 #[.val (.ref r0)] [])) _
        refine XS.iconst X0.here hx rfl (hb hby own_d7_18) ?_
        show Steps p.tables e below (s₁.setTop (mkF m 19 #[.val (.ref r0)] [(.int (0 : Int32))])) _
        exact k
      obtain ⟨fs, hr, hrun, hended, hW, hsame⟩ := X0.leave (v := some (.int (0 : Int32))) (fun h => by rw [Bd.returns] at h; cases h)
      refine Go.mk' ⟨_, _, retN X0 hx (t := .boolean) Bd.returns (by simp) (hb hby own_d7_19) hr, hrun, hended, _, _, rfl, ?_, ⟨_, rfl⟩, hW, hsame.mono (by decide) (by decide)⟩
      show Q7 Z v0_r0 h0 n0 _ s₁.heap _
      rw [e0]
      exact ⟨(by rw [f7, if_neg hc2, if_neg hc4]), N0, rfl⟩
theorem own_d4_0 : decode prog_132_method_13_code 0 = .ok (.aload_n 1, 1) := by decide +kernel
theorem own_d4_1 : decode prog_132_method_13_code 1 = .ok (.invokevirtual 47, 3) := by decide +kernel
theorem own_d4_4 : decode prog_132_method_13_code 4 = .ok (.checkcast 19, 3) := by decide +kernel
theorem own_d4_7 : decode prog_132_method_13_code 7 = .ok (.astore_n 2, 1) := by decide +kernel
theorem own_d4_8 : decode prog_132_method_13_code 8 = .ok (.aload_n 2, 1) := by decide +kernel
theorem own_d4_9 : decode prog_132_method_13_code 9 = .ok (.iconst 0, 1) := by decide +kernel
theorem own_d4_10 : decode prog_132_method_13_code 10 = .ok (.iload_n 0, 1) := by decide +kernel
theorem own_d4_11 : decode prog_132_method_13_code 11 = .ok (.bastore, 1) := by decide +kernel
theorem own_d4_12 : decode prog_132_method_13_code 12 = .ok (.aload_n 2, 1) := by decide +kernel
theorem own_d4_13 : decode prog_132_method_13_code 13 = .ok (.areturn, 1) := by decide +kernel
theorem ef4c6 (m : MethodId) (r1 : Addr) : entryFrame m #[(.int (6 : Int32)), (.ref r1)] 3 = mkF m 0 #[.val (.int (6 : Int32)), .val (.ref r1), .unset] [] := by first | (simp [entryFrame, mkF, argsToLocals, Value.category]; done) | rfl
def Q4c6 (Z : State) (r1 : Addr) (k_r1 : ClassId) (z_r1 : Int32) (v0_r1 : Int32) (vs_r1 : List Value) (h0 : Heap) (n0 : Nat) (v : Option Value) (h : Heap) (L : List Loc) : Prop := ∃ y0 : Addr, v = some (.ref y0) ∧ Fr n0 L ∧ Keep h0 h [] ∧ h0.size ≤ y0 ∧ Arv Z h y0 k_r1 .byte z_r1 ((.int (6 : Int32)) :: vs_r1) (.int (0 : Int32)) ∧ Exa Z h y0 "[B"
set_option maxRecDepth 65536 in
set_option maxHeartbeats 40000000 in
theorem rm4c6 (l : Launch) (Z : State) (a0 : Array Value) (hw : ∀ d ∈ tables_1, d.before a0 Z = true) (ws : List Jvm.Cond) (r1 : Addr) (k_r1 : ClassId) (z_r1 : Int32) (v0_r1 : Int32) (vs_r1 : List Value) (h0 : Heap) (n0 : Nat) (O0 : Old Z n0 h0) (V_r1 : Arv Z h0 r1 k_r1 .byte z_r1 ((.int v0_r1) :: vs_r1) (.int (0 : Int32))) (hz : 0 < z_r1.toInt ∧ z_r1.toInt ≤ 4) (E_r1 : Exa Z h0 r1 "[B") :
    MetFree l (⟨"com/example/rooted_kinds/rootedkinds/storage/Rows", "renamed", "(B[B)[B"⟩ : MethodName) (head1 (Jvm.Cond.code (⟨"com/example/rooted_kinds/rootedkinds/storage/Rows", "renamed", "(B[B)[B"⟩ : MethodName) prog_132_method_13_code 3 (some (.array .byte)) :: ws) ({ frames := 1, cells := 1, slots := 4, locals := 14 } : Room)) (fun a U => a = #[(.int (6 : Int32)), (.ref r1)] ∧ Z.Warmed39 U.vm ∧ U.heap = h0) (fun _ _ _ _ _ => True) (fun _ U o U' => ∃ v L, o = .returned v ∧ Q4c6 Z r1 k_r1 z_r1 v0_r1 vs_r1 h0 n0 v U'.heap L ∧ FrameEnd U o U' L ({ frames := 1, cells := 1, slots := 4, locals := 14 } : Room).cells ({ frames := 1, cells := 1, slots := 4, locals := 14 } : Room).slots) := by
  refine MetFree.of_bodySF (plainFor_of_name own_pn0) hisR ?_
  intro p e s m args below meth c s₁ Bd hml0 hP hK
  obtain ⟨rfl, hZ, hh⟩ := hP
  have hx := Bd.exec
  have hby := Bd.bytes
  have hml : c.maxLocals = 3 := hml0
  have hown : s.vm.findClass "com/example/rooted_kinds/rootedkinds/storage/Rows" = some m.cls := findClass_of_methodNamed Bd.named
  have hnm := (name_of_methodNamed Bd.named Bd.method).1
  have X0 : Stand p l e ({ frames := 1, cells := 1, slots := 4, locals := 14 } : Room) s m #[(.int (6 : Int32)), (.ref r1)] below meth c s₁ [] 0 0 := Stand.of_body Bd
  have e0 : s₁.heap = h0 := by rw [← hh, Bd.state]; rfl
  have N0 := Fr.nil n0
  have K0 := Keep.refl h0 []
  refine Go.out ?_
  refine Go.st (V' := s₁.setTop (mkF m 0 #[.val (.int (6 : Int32)), .val (.ref r1), .unset] [])) (fun t k => castTop (ef4c6 m r1) k) ?_
  refine Go.st (V' := s₁.setTop (mkF m 1 #[.val (.int (6 : Int32)), .val (.ref r1), .unset] [(.ref r1)])) (fun t k => ?_) ?_
  · refine XS.aloadN X0.here hx rfl (hb hby own_d4_0) rfl rfl ?_
    show Steps p.tables e below (s₁.setTop (mkF m 1 #[.val (.int (6 : Int32)), .val (.ref r1), .unset] [(.ref r1)])) _
    exact k
  obtain ⟨T5, h5, X5, e5, E5, V5, XA5, st5⟩ := cloneH X0 hx hZ hown (hw _ (List.mem_of_getElem? (i := 21) rfl)) (hw _ (List.mem_of_getElem? (i := 22) rfl)) (hw _ (List.mem_of_getElem? (i := 26) rfl)) (hw _ (List.mem_of_getElem? (i := 24) rfl)) (hw _ (List.mem_of_getElem? (i := 25) rfl)) (hw _ (List.mem_of_getElem? (i := 27) rfl)) e0 (Arv.arh V_r1) E_r1 (g := (mkF m 1 #[.val (.int (6 : Int32)), .val (.ref r1), .unset] [(.ref r1)])) rfl (by rw [hml]; rfl) rfl (hb hby own_d4_1) (by decide) (W := 0) (cap := 4) (by show 2 * 0 + _ ≤ _; exact Nat.le_of_eq rfl) (by decide) (own_cap hz) (by decide) (by decide)
  obtain ⟨b5, g5⟩ : ∃ z, z = h0.size := ⟨_, rfl⟩
  rw [← g5] at V5 XA5 st5
  have g_b5 : n0 ≤ b5 := Nat.le_trans (Nat.le_trans (Nat.le_of_eq O0.1.symm) O0.2.1) (Nat.le_of_eq g5.symm)
  have sz_b5 : h0.size ≤ b5 := Nat.le_trans K0.1 (Nat.le_of_eq g5.symm)
  have K5 := K0.ext E5
  have O5 := O0.ext E5
  have V5 : Arv Z h5 b5 k_r1 .byte z_r1 ((.int v0_r1) :: vs_r1) (.int (0 : Int32)) := V5
  refine Go.st (V' := T5.setTop (mkF m 4 #[.val (.int (6 : Int32)), .val (.ref r1), .unset] [(.ref b5)])) (fun t k => st5 t k) ?_
  obtain ⟨T6, X6, e6, st6⟩ := castY X5 hx hZ hown (hw _ (List.mem_of_getElem? (i := 5) rfl)) e5 (Ins.self XA5) (g := (mkF m 4 #[.val (.int (6 : Int32)), .val (.ref r1), .unset] [(.ref b5)])) rfl rfl (hb hby own_d4_4)
  refine Go.st (V' := T6.setTop (mkF m 7 #[.val (.int (6 : Int32)), .val (.ref r1), .unset] [(.ref b5)])) (fun t k => st6 t k) ?_
  refine Go.st (V' := T6.setTop (mkF m 11 #[.val (.int (6 : Int32)), .val (.ref r1), .val (.ref b5)] [(.int (6 : Int32)), (.int (0 : Int32)), (.ref b5)])) (fun t k => ?_) ?_
  · refine XS.astoreN X6.here hx rfl (hb hby own_d4_7) rfl rfl (l' := #[.val (.int (6 : Int32)), .val (.ref r1), .val (.ref b5)]) rfl ?_
    show Steps p.tables e below (T6.setTop (mkF m 8 #[.val (.int (6 : Int32)), .val (.ref r1), .val (.ref b5)] [])) _
    refine XS.aloadN X6.here hx rfl (hb hby own_d4_8) rfl rfl ?_
    show Steps p.tables e below (T6.setTop (mkF m 9 #[.val (.int (6 : Int32)), .val (.ref r1), .val (.ref b5)] [(.ref b5)])) _
    refine XS.iconst X6.here hx rfl (hb hby own_d4_9) ?_
    show Steps p.tables e below (T6.setTop (mkF m 10 #[.val (.int (6 : Int32)), .val (.ref r1), .val (.ref b5)] [(.int (0 : Int32)), (.ref b5)])) _
    refine XS.iloadN X6.here hx rfl (hb hby own_d4_10) rfl  ?_
    show Steps p.tables e below (T6.setTop (mkF m 11 #[.val (.int (6 : Int32)), .val (.ref r1), .val (.ref b5)] [(.int (6 : Int32)), (.int (0 : Int32)), (.ref b5)])) _
    exact k
  obtain ⟨cl7, Ar7, q7, Sz7, Nn7, Ha7, Ga7⟩ := id (V5)
  obtain ⟨T8, h8, X8, e8, W8, st8⟩ := stB X6 hx hZ e6 Ar7 (j := (0 : Int32)) (inb_of Sz7 ⟨by decide, own_z0 hz⟩) (g := (mkF m 11 #[.val (.int (6 : Int32)), .val (.ref r1), .val (.ref b5)] [(.int (6 : Int32)), (.int (0 : Int32)), (.ref b5)])) rfl rfl (hb hby own_d4_11)
  have V8 : Arv Z h8 b5 k_r1 .byte z_r1 ((.int (6 : Int32)) :: vs_r1) (.int (0 : Int32)) := Arv.set Ar7 q7 Sz7 Nn7 Ha7 Ga7 (by decide) W8 0 rfl (Nat.succ_pos _)
  have O8 := O5.wr W8 g_b5
  have N8 := Fr.snoc X8 N0 g_b5
  have K8 := K5.wr W8 (Or.inr sz_b5)
  refine Go.st (V' := T8.setTop (mkF m 12 #[.val (.int (6 : Int32)), .val (.ref r1), .val (.ref b5)] [])) (fun t k => st8 t k) ?_
  refine Go.st (V' := T8.setTop (mkF m 13 #[.val (.int (6 : Int32)), .val (.ref r1), .val (.ref b5)] [(.ref b5)])) (fun t k => ?_) ?_
  · refine XS.aloadN X8.here hx rfl (hb hby own_d4_12) rfl rfl ?_
    show Steps p.tables e below (T8.setTop (mkF m 13 #[.val (.int (6 : Int32)), .val (.ref r1), .val (.ref b5)] [(.ref b5)])) _
    exact k
  obtain ⟨fs, hr, hrun, hended, hW, hsame⟩ := X8.leave (v := some (.ref b5)) (fun h => by rw [Bd.returns] at h; cases h)
  refine Go.mk' ⟨_, _, retOut X8 hx Bd.returns rfl (Or.inr (Or.inr (Or.inr (Or.inr ⟨rfl, rfl, rfl⟩)))) (hb hby own_d4_13) hr, hrun, hended, _, _, rfl, ?_, ⟨_, rfl⟩, hW, hsame.mono (by decide) (by decide)⟩
  show Q4c6 Z r1 k_r1 z_r1 v0_r1 vs_r1 h0 n0 _ T8.heap _
  rw [e8]
  exact ⟨b5, rfl, N8, K8, sz_b5, V8, (XA5.wr W8)⟩
theorem ef4c7 (m : MethodId) (r1 : Addr) : entryFrame m #[(.int (7 : Int32)), (.ref r1)] 3 = mkF m 0 #[.val (.int (7 : Int32)), .val (.ref r1), .unset] [] := by first | (simp [entryFrame, mkF, argsToLocals, Value.category]; done) | rfl
def Q4c7 (Z : State) (r1 : Addr) (k_r1 : ClassId) (z_r1 : Int32) (v0_r1 : Int32) (vs_r1 : List Value) (h0 : Heap) (n0 : Nat) (v : Option Value) (h : Heap) (L : List Loc) : Prop := ∃ y0 : Addr, v = some (.ref y0) ∧ Fr n0 L ∧ Keep h0 h [] ∧ h0.size ≤ y0 ∧ Arv Z h y0 k_r1 .byte z_r1 ((.int (7 : Int32)) :: vs_r1) (.int (0 : Int32)) ∧ Exa Z h y0 "[B"
set_option maxRecDepth 65536 in
set_option maxHeartbeats 40000000 in
theorem rm4c7 (l : Launch) (Z : State) (a0 : Array Value) (hw : ∀ d ∈ tables_1, d.before a0 Z = true) (ws : List Jvm.Cond) (r1 : Addr) (k_r1 : ClassId) (z_r1 : Int32) (v0_r1 : Int32) (vs_r1 : List Value) (h0 : Heap) (n0 : Nat) (O0 : Old Z n0 h0) (V_r1 : Arv Z h0 r1 k_r1 .byte z_r1 ((.int v0_r1) :: vs_r1) (.int (0 : Int32))) (hz : 0 < z_r1.toInt ∧ z_r1.toInt ≤ 4) (E_r1 : Exa Z h0 r1 "[B") :
    MetFree l (⟨"com/example/rooted_kinds/rootedkinds/storage/Rows", "renamed", "(B[B)[B"⟩ : MethodName) (head1 (Jvm.Cond.code (⟨"com/example/rooted_kinds/rootedkinds/storage/Rows", "renamed", "(B[B)[B"⟩ : MethodName) prog_132_method_13_code 3 (some (.array .byte)) :: ws) ({ frames := 1, cells := 1, slots := 4, locals := 14 } : Room)) (fun a U => a = #[(.int (7 : Int32)), (.ref r1)] ∧ Z.Warmed39 U.vm ∧ U.heap = h0) (fun _ _ _ _ _ => True) (fun _ U o U' => ∃ v L, o = .returned v ∧ Q4c7 Z r1 k_r1 z_r1 v0_r1 vs_r1 h0 n0 v U'.heap L ∧ FrameEnd U o U' L ({ frames := 1, cells := 1, slots := 4, locals := 14 } : Room).cells ({ frames := 1, cells := 1, slots := 4, locals := 14 } : Room).slots) := by
  refine MetFree.of_bodySF (plainFor_of_name own_pn0) hisR ?_
  intro p e s m args below meth c s₁ Bd hml0 hP hK
  obtain ⟨rfl, hZ, hh⟩ := hP
  have hx := Bd.exec
  have hby := Bd.bytes
  have hml : c.maxLocals = 3 := hml0
  have hown : s.vm.findClass "com/example/rooted_kinds/rootedkinds/storage/Rows" = some m.cls := findClass_of_methodNamed Bd.named
  have hnm := (name_of_methodNamed Bd.named Bd.method).1
  have X0 : Stand p l e ({ frames := 1, cells := 1, slots := 4, locals := 14 } : Room) s m #[(.int (7 : Int32)), (.ref r1)] below meth c s₁ [] 0 0 := Stand.of_body Bd
  have e0 : s₁.heap = h0 := by rw [← hh, Bd.state]; rfl
  have N0 := Fr.nil n0
  have K0 := Keep.refl h0 []
  refine Go.out ?_
  refine Go.st (V' := s₁.setTop (mkF m 0 #[.val (.int (7 : Int32)), .val (.ref r1), .unset] [])) (fun t k => castTop (ef4c7 m r1) k) ?_
  refine Go.st (V' := s₁.setTop (mkF m 1 #[.val (.int (7 : Int32)), .val (.ref r1), .unset] [(.ref r1)])) (fun t k => ?_) ?_
  · refine XS.aloadN X0.here hx rfl (hb hby own_d4_0) rfl rfl ?_
    show Steps p.tables e below (s₁.setTop (mkF m 1 #[.val (.int (7 : Int32)), .val (.ref r1), .unset] [(.ref r1)])) _
    exact k
  obtain ⟨T9, h9, X9, e9, E9, V9, XA9, st9⟩ := cloneH X0 hx hZ hown (hw _ (List.mem_of_getElem? (i := 21) rfl)) (hw _ (List.mem_of_getElem? (i := 22) rfl)) (hw _ (List.mem_of_getElem? (i := 26) rfl)) (hw _ (List.mem_of_getElem? (i := 24) rfl)) (hw _ (List.mem_of_getElem? (i := 25) rfl)) (hw _ (List.mem_of_getElem? (i := 27) rfl)) e0 (Arv.arh V_r1) E_r1 (g := (mkF m 1 #[.val (.int (7 : Int32)), .val (.ref r1), .unset] [(.ref r1)])) rfl (by rw [hml]; rfl) rfl (hb hby own_d4_1) (by decide) (W := 0) (cap := 4) (by show 2 * 0 + _ ≤ _; exact Nat.le_of_eq rfl) (by decide) (own_cap hz) (by decide) (by decide)
  obtain ⟨b9, g9⟩ : ∃ z, z = h0.size := ⟨_, rfl⟩
  rw [← g9] at V9 XA9 st9
  have g_b9 : n0 ≤ b9 := Nat.le_trans (Nat.le_trans (Nat.le_of_eq O0.1.symm) O0.2.1) (Nat.le_of_eq g9.symm)
  have sz_b9 : h0.size ≤ b9 := Nat.le_trans K0.1 (Nat.le_of_eq g9.symm)
  have K9 := K0.ext E9
  have O9 := O0.ext E9
  have V9 : Arv Z h9 b9 k_r1 .byte z_r1 ((.int v0_r1) :: vs_r1) (.int (0 : Int32)) := V9
  refine Go.st (V' := T9.setTop (mkF m 4 #[.val (.int (7 : Int32)), .val (.ref r1), .unset] [(.ref b9)])) (fun t k => st9 t k) ?_
  obtain ⟨T10, X10, e10, st10⟩ := castY X9 hx hZ hown (hw _ (List.mem_of_getElem? (i := 5) rfl)) e9 (Ins.self XA9) (g := (mkF m 4 #[.val (.int (7 : Int32)), .val (.ref r1), .unset] [(.ref b9)])) rfl rfl (hb hby own_d4_4)
  refine Go.st (V' := T10.setTop (mkF m 7 #[.val (.int (7 : Int32)), .val (.ref r1), .unset] [(.ref b9)])) (fun t k => st10 t k) ?_
  refine Go.st (V' := T10.setTop (mkF m 11 #[.val (.int (7 : Int32)), .val (.ref r1), .val (.ref b9)] [(.int (7 : Int32)), (.int (0 : Int32)), (.ref b9)])) (fun t k => ?_) ?_
  · refine XS.astoreN X10.here hx rfl (hb hby own_d4_7) rfl rfl (l' := #[.val (.int (7 : Int32)), .val (.ref r1), .val (.ref b9)]) rfl ?_
    show Steps p.tables e below (T10.setTop (mkF m 8 #[.val (.int (7 : Int32)), .val (.ref r1), .val (.ref b9)] [])) _
    refine XS.aloadN X10.here hx rfl (hb hby own_d4_8) rfl rfl ?_
    show Steps p.tables e below (T10.setTop (mkF m 9 #[.val (.int (7 : Int32)), .val (.ref r1), .val (.ref b9)] [(.ref b9)])) _
    refine XS.iconst X10.here hx rfl (hb hby own_d4_9) ?_
    show Steps p.tables e below (T10.setTop (mkF m 10 #[.val (.int (7 : Int32)), .val (.ref r1), .val (.ref b9)] [(.int (0 : Int32)), (.ref b9)])) _
    refine XS.iloadN X10.here hx rfl (hb hby own_d4_10) rfl  ?_
    show Steps p.tables e below (T10.setTop (mkF m 11 #[.val (.int (7 : Int32)), .val (.ref r1), .val (.ref b9)] [(.int (7 : Int32)), (.int (0 : Int32)), (.ref b9)])) _
    exact k
  obtain ⟨cl11, Ar11, q11, Sz11, Nn11, Ha11, Ga11⟩ := id (V9)
  obtain ⟨T12, h12, X12, e12, W12, st12⟩ := stB X10 hx hZ e10 Ar11 (j := (0 : Int32)) (inb_of Sz11 ⟨by decide, own_z0 hz⟩) (g := (mkF m 11 #[.val (.int (7 : Int32)), .val (.ref r1), .val (.ref b9)] [(.int (7 : Int32)), (.int (0 : Int32)), (.ref b9)])) rfl rfl (hb hby own_d4_11)
  have V12 : Arv Z h12 b9 k_r1 .byte z_r1 ((.int (7 : Int32)) :: vs_r1) (.int (0 : Int32)) := Arv.set Ar11 q11 Sz11 Nn11 Ha11 Ga11 (by decide) W12 0 rfl (Nat.succ_pos _)
  have O12 := O9.wr W12 g_b9
  have N12 := Fr.snoc X12 N0 g_b9
  have K12 := K9.wr W12 (Or.inr sz_b9)
  refine Go.st (V' := T12.setTop (mkF m 12 #[.val (.int (7 : Int32)), .val (.ref r1), .val (.ref b9)] [])) (fun t k => st12 t k) ?_
  refine Go.st (V' := T12.setTop (mkF m 13 #[.val (.int (7 : Int32)), .val (.ref r1), .val (.ref b9)] [(.ref b9)])) (fun t k => ?_) ?_
  · refine XS.aloadN X12.here hx rfl (hb hby own_d4_12) rfl rfl ?_
    show Steps p.tables e below (T12.setTop (mkF m 13 #[.val (.int (7 : Int32)), .val (.ref r1), .val (.ref b9)] [(.ref b9)])) _
    exact k
  obtain ⟨fs, hr, hrun, hended, hW, hsame⟩ := X12.leave (v := some (.ref b9)) (fun h => by rw [Bd.returns] at h; cases h)
  refine Go.mk' ⟨_, _, retOut X12 hx Bd.returns rfl (Or.inr (Or.inr (Or.inr (Or.inr ⟨rfl, rfl, rfl⟩)))) (hb hby own_d4_13) hr, hrun, hended, _, _, rfl, ?_, ⟨_, rfl⟩, hW, hsame.mono (by decide) (by decide)⟩
  show Q4c7 Z r1 k_r1 z_r1 v0_r1 vs_r1 h0 n0 _ T12.heap _
  rw [e12]
  exact ⟨b9, rfl, N12, K12, sz_b9, V12, (XA9.wr W12)⟩
theorem ef4c8 (m : MethodId) (r1 : Addr) : entryFrame m #[(.int (8 : Int32)), (.ref r1)] 3 = mkF m 0 #[.val (.int (8 : Int32)), .val (.ref r1), .unset] [] := by first | (simp [entryFrame, mkF, argsToLocals, Value.category]; done) | rfl
def Q4c8 (Z : State) (r1 : Addr) (k_r1 : ClassId) (z_r1 : Int32) (v0_r1 : Int32) (vs_r1 : List Value) (h0 : Heap) (n0 : Nat) (v : Option Value) (h : Heap) (L : List Loc) : Prop := ∃ y0 : Addr, v = some (.ref y0) ∧ Fr n0 L ∧ Keep h0 h [] ∧ h0.size ≤ y0 ∧ Arv Z h y0 k_r1 .byte z_r1 ((.int (8 : Int32)) :: vs_r1) (.int (0 : Int32)) ∧ Exa Z h y0 "[B"
set_option maxRecDepth 65536 in
set_option maxHeartbeats 40000000 in
theorem rm4c8 (l : Launch) (Z : State) (a0 : Array Value) (hw : ∀ d ∈ tables_1, d.before a0 Z = true) (ws : List Jvm.Cond) (r1 : Addr) (k_r1 : ClassId) (z_r1 : Int32) (v0_r1 : Int32) (vs_r1 : List Value) (h0 : Heap) (n0 : Nat) (O0 : Old Z n0 h0) (V_r1 : Arv Z h0 r1 k_r1 .byte z_r1 ((.int v0_r1) :: vs_r1) (.int (0 : Int32))) (hz : 0 < z_r1.toInt ∧ z_r1.toInt ≤ 4) (E_r1 : Exa Z h0 r1 "[B") :
    MetFree l (⟨"com/example/rooted_kinds/rootedkinds/storage/Rows", "renamed", "(B[B)[B"⟩ : MethodName) (head1 (Jvm.Cond.code (⟨"com/example/rooted_kinds/rootedkinds/storage/Rows", "renamed", "(B[B)[B"⟩ : MethodName) prog_132_method_13_code 3 (some (.array .byte)) :: ws) ({ frames := 1, cells := 1, slots := 4, locals := 14 } : Room)) (fun a U => a = #[(.int (8 : Int32)), (.ref r1)] ∧ Z.Warmed39 U.vm ∧ U.heap = h0) (fun _ _ _ _ _ => True) (fun _ U o U' => ∃ v L, o = .returned v ∧ Q4c8 Z r1 k_r1 z_r1 v0_r1 vs_r1 h0 n0 v U'.heap L ∧ FrameEnd U o U' L ({ frames := 1, cells := 1, slots := 4, locals := 14 } : Room).cells ({ frames := 1, cells := 1, slots := 4, locals := 14 } : Room).slots) := by
  refine MetFree.of_bodySF (plainFor_of_name own_pn0) hisR ?_
  intro p e s m args below meth c s₁ Bd hml0 hP hK
  obtain ⟨rfl, hZ, hh⟩ := hP
  have hx := Bd.exec
  have hby := Bd.bytes
  have hml : c.maxLocals = 3 := hml0
  have hown : s.vm.findClass "com/example/rooted_kinds/rootedkinds/storage/Rows" = some m.cls := findClass_of_methodNamed Bd.named
  have hnm := (name_of_methodNamed Bd.named Bd.method).1
  have X0 : Stand p l e ({ frames := 1, cells := 1, slots := 4, locals := 14 } : Room) s m #[(.int (8 : Int32)), (.ref r1)] below meth c s₁ [] 0 0 := Stand.of_body Bd
  have e0 : s₁.heap = h0 := by rw [← hh, Bd.state]; rfl
  have N0 := Fr.nil n0
  have K0 := Keep.refl h0 []
  refine Go.out ?_
  refine Go.st (V' := s₁.setTop (mkF m 0 #[.val (.int (8 : Int32)), .val (.ref r1), .unset] [])) (fun t k => castTop (ef4c8 m r1) k) ?_
  refine Go.st (V' := s₁.setTop (mkF m 1 #[.val (.int (8 : Int32)), .val (.ref r1), .unset] [(.ref r1)])) (fun t k => ?_) ?_
  · refine XS.aloadN X0.here hx rfl (hb hby own_d4_0) rfl rfl ?_
    show Steps p.tables e below (s₁.setTop (mkF m 1 #[.val (.int (8 : Int32)), .val (.ref r1), .unset] [(.ref r1)])) _
    exact k
  obtain ⟨T13, h13, X13, e13, E13, V13, XA13, st13⟩ := cloneH X0 hx hZ hown (hw _ (List.mem_of_getElem? (i := 21) rfl)) (hw _ (List.mem_of_getElem? (i := 22) rfl)) (hw _ (List.mem_of_getElem? (i := 26) rfl)) (hw _ (List.mem_of_getElem? (i := 24) rfl)) (hw _ (List.mem_of_getElem? (i := 25) rfl)) (hw _ (List.mem_of_getElem? (i := 27) rfl)) e0 (Arv.arh V_r1) E_r1 (g := (mkF m 1 #[.val (.int (8 : Int32)), .val (.ref r1), .unset] [(.ref r1)])) rfl (by rw [hml]; rfl) rfl (hb hby own_d4_1) (by decide) (W := 0) (cap := 4) (by show 2 * 0 + _ ≤ _; exact Nat.le_of_eq rfl) (by decide) (own_cap hz) (by decide) (by decide)
  obtain ⟨b13, g13⟩ : ∃ z, z = h0.size := ⟨_, rfl⟩
  rw [← g13] at V13 XA13 st13
  have g_b13 : n0 ≤ b13 := Nat.le_trans (Nat.le_trans (Nat.le_of_eq O0.1.symm) O0.2.1) (Nat.le_of_eq g13.symm)
  have sz_b13 : h0.size ≤ b13 := Nat.le_trans K0.1 (Nat.le_of_eq g13.symm)
  have K13 := K0.ext E13
  have O13 := O0.ext E13
  have V13 : Arv Z h13 b13 k_r1 .byte z_r1 ((.int v0_r1) :: vs_r1) (.int (0 : Int32)) := V13
  refine Go.st (V' := T13.setTop (mkF m 4 #[.val (.int (8 : Int32)), .val (.ref r1), .unset] [(.ref b13)])) (fun t k => st13 t k) ?_
  obtain ⟨T14, X14, e14, st14⟩ := castY X13 hx hZ hown (hw _ (List.mem_of_getElem? (i := 5) rfl)) e13 (Ins.self XA13) (g := (mkF m 4 #[.val (.int (8 : Int32)), .val (.ref r1), .unset] [(.ref b13)])) rfl rfl (hb hby own_d4_4)
  refine Go.st (V' := T14.setTop (mkF m 7 #[.val (.int (8 : Int32)), .val (.ref r1), .unset] [(.ref b13)])) (fun t k => st14 t k) ?_
  refine Go.st (V' := T14.setTop (mkF m 11 #[.val (.int (8 : Int32)), .val (.ref r1), .val (.ref b13)] [(.int (8 : Int32)), (.int (0 : Int32)), (.ref b13)])) (fun t k => ?_) ?_
  · refine XS.astoreN X14.here hx rfl (hb hby own_d4_7) rfl rfl (l' := #[.val (.int (8 : Int32)), .val (.ref r1), .val (.ref b13)]) rfl ?_
    show Steps p.tables e below (T14.setTop (mkF m 8 #[.val (.int (8 : Int32)), .val (.ref r1), .val (.ref b13)] [])) _
    refine XS.aloadN X14.here hx rfl (hb hby own_d4_8) rfl rfl ?_
    show Steps p.tables e below (T14.setTop (mkF m 9 #[.val (.int (8 : Int32)), .val (.ref r1), .val (.ref b13)] [(.ref b13)])) _
    refine XS.iconst X14.here hx rfl (hb hby own_d4_9) ?_
    show Steps p.tables e below (T14.setTop (mkF m 10 #[.val (.int (8 : Int32)), .val (.ref r1), .val (.ref b13)] [(.int (0 : Int32)), (.ref b13)])) _
    refine XS.iloadN X14.here hx rfl (hb hby own_d4_10) rfl  ?_
    show Steps p.tables e below (T14.setTop (mkF m 11 #[.val (.int (8 : Int32)), .val (.ref r1), .val (.ref b13)] [(.int (8 : Int32)), (.int (0 : Int32)), (.ref b13)])) _
    exact k
  obtain ⟨cl15, Ar15, q15, Sz15, Nn15, Ha15, Ga15⟩ := id (V13)
  obtain ⟨T16, h16, X16, e16, W16, st16⟩ := stB X14 hx hZ e14 Ar15 (j := (0 : Int32)) (inb_of Sz15 ⟨by decide, own_z0 hz⟩) (g := (mkF m 11 #[.val (.int (8 : Int32)), .val (.ref r1), .val (.ref b13)] [(.int (8 : Int32)), (.int (0 : Int32)), (.ref b13)])) rfl rfl (hb hby own_d4_11)
  have V16 : Arv Z h16 b13 k_r1 .byte z_r1 ((.int (8 : Int32)) :: vs_r1) (.int (0 : Int32)) := Arv.set Ar15 q15 Sz15 Nn15 Ha15 Ga15 (by decide) W16 0 rfl (Nat.succ_pos _)
  have O16 := O13.wr W16 g_b13
  have N16 := Fr.snoc X16 N0 g_b13
  have K16 := K13.wr W16 (Or.inr sz_b13)
  refine Go.st (V' := T16.setTop (mkF m 12 #[.val (.int (8 : Int32)), .val (.ref r1), .val (.ref b13)] [])) (fun t k => st16 t k) ?_
  refine Go.st (V' := T16.setTop (mkF m 13 #[.val (.int (8 : Int32)), .val (.ref r1), .val (.ref b13)] [(.ref b13)])) (fun t k => ?_) ?_
  · refine XS.aloadN X16.here hx rfl (hb hby own_d4_12) rfl rfl ?_
    show Steps p.tables e below (T16.setTop (mkF m 13 #[.val (.int (8 : Int32)), .val (.ref r1), .val (.ref b13)] [(.ref b13)])) _
    exact k
  obtain ⟨fs, hr, hrun, hended, hW, hsame⟩ := X16.leave (v := some (.ref b13)) (fun h => by rw [Bd.returns] at h; cases h)
  refine Go.mk' ⟨_, _, retOut X16 hx Bd.returns rfl (Or.inr (Or.inr (Or.inr (Or.inr ⟨rfl, rfl, rfl⟩)))) (hb hby own_d4_13) hr, hrun, hended, _, _, rfl, ?_, ⟨_, rfl⟩, hW, hsame.mono (by decide) (by decide)⟩
  show Q4c8 Z r1 k_r1 z_r1 v0_r1 vs_r1 h0 n0 _ T16.heap _
  rw [e16]
  exact ⟨b13, rfl, N16, K16, sz_b13, V16, (XA13.wr W16)⟩
theorem own_d3_0 : decode prog_132_method_11_code 0 = .ok (.bipush 6, 2) := by decide +kernel
theorem own_d3_2 : decode prog_132_method_11_code 2 = .ok (.aload_n 0, 1) := by decide +kernel
theorem own_d3_3 : decode prog_132_method_11_code 3 = .ok (.invokestatic 43, 3) := by decide +kernel
theorem own_pd27 : parseMethodDescriptor "(B[B)[B" = some ⟨[.byte, (.array .byte)], some (.array .byte)⟩ := by decide +kernel
theorem own_d3_6 : decode prog_132_method_11_code 6 = .ok (.areturn, 1) := by decide +kernel
theorem ef3 (m : MethodId) (r0 : Addr) : entryFrame m #[(.ref r0)] 1 = mkF m 0 #[.val (.ref r0)] [] := by first | (simp [entryFrame, mkF, argsToLocals, Value.category]; done) | rfl
def Q3 (Z : State) (r0 : Addr) (k_r0 : ClassId) (z_r0 : Int32) (v0_r0 : Int32) (vs_r0 : List Value) (h0 : Heap) (n0 : Nat) (v : Option Value) (h : Heap) (L : List Loc) : Prop := ∃ y0 : Addr, v = some (.ref y0) ∧ Fr n0 L ∧ Keep h0 h [] ∧ h0.size ≤ y0 ∧ Arv Z h y0 k_r0 .byte z_r0 ((.int (6 : Int32)) :: vs_r0) (.int (0 : Int32)) ∧ Exa Z h y0 "[B"
set_option maxRecDepth 65536 in
set_option maxHeartbeats 40000000 in
theorem rm3 (l : Launch) (Z : State) (a0 : Array Value) (hw : ∀ d ∈ tables_1, d.before a0 Z = true) (ws : List Jvm.Cond) (r0 : Addr) (k_r0 : ClassId) (z_r0 : Int32) (v0_r0 : Int32) (vs_r0 : List Value) (h0 : Heap) (n0 : Nat) (O0 : Old Z n0 h0) (V_r0 : Arv Z h0 r0 k_r0 .byte z_r0 ((.int v0_r0) :: vs_r0) (.int (0 : Int32))) (hz : 0 < z_r0.toInt ∧ z_r0.toInt ≤ 4) (E_r0 : Exa Z h0 r0 "[B") :
    MetFree l (⟨"com/example/rooted_kinds/rootedkinds/storage/Rows", "propertyNames", "([B)[B"⟩ : MethodName) (head1 (Jvm.Cond.code (⟨"com/example/rooted_kinds/rootedkinds/storage/Rows", "propertyNames", "([B)[B"⟩ : MethodName) prog_132_method_11_code 1 (some (.array .byte)) :: ws) ({ frames := 2, cells := 1, slots := 4, locals := 28 } : Room)) (fun a U => a = #[(.ref r0)] ∧ Z.Warmed39 U.vm ∧ U.heap = h0) (fun _ _ _ _ _ => True) (fun _ U o U' => ∃ v L, o = .returned v ∧ Q3 Z r0 k_r0 z_r0 v0_r0 vs_r0 h0 n0 v U'.heap L ∧ FrameEnd U o U' L ({ frames := 2, cells := 1, slots := 4, locals := 28 } : Room).cells ({ frames := 2, cells := 1, slots := 4, locals := 28 } : Room).slots) := by
  refine MetFree.of_bodySF (plainFor_of_name own_pn0) hisR ?_
  intro p e s m args below meth c s₁ Bd hml0 hP hK
  obtain ⟨rfl, hZ, hh⟩ := hP
  have hx := Bd.exec
  have hby := Bd.bytes
  have hml : c.maxLocals = 1 := hml0
  have hown : s.vm.findClass "com/example/rooted_kinds/rootedkinds/storage/Rows" = some m.cls := findClass_of_methodNamed Bd.named
  have hnm := (name_of_methodNamed Bd.named Bd.method).1
  have X0 : Stand p l e ({ frames := 2, cells := 1, slots := 4, locals := 28 } : Room) s m #[(.ref r0)] below meth c s₁ [] 0 0 := Stand.of_body Bd
  have e0 : s₁.heap = h0 := by rw [← hh, Bd.state]; rfl
  have N0 := Fr.nil n0
  have K0 := Keep.refl h0 []
  refine Go.out ?_
  refine Go.st (V' := s₁.setTop (mkF m 0 #[.val (.ref r0)] [])) (fun t k => castTop (ef3 m r0) k) ?_
  refine Go.st (V' := s₁.setTop (mkF m 3 #[.val (.ref r0)] [(.ref r0), (.int (6 : Int32))])) (fun t k => ?_) ?_
  · refine XS.bipush X0.here hx rfl (hb hby own_d3_0) ?_
    show Steps p.tables e below (s₁.setTop (mkF m 2 #[.val (.ref r0)] [(.int (6 : Int32))])) _
    refine XS.aloadN X0.here hx rfl (hb hby own_d3_2) rfl rfl ?_
    show Steps p.tables e below (s₁.setTop (mkF m 3 #[.val (.ref r0)] [(.ref r0), (.int (6 : Int32))])) _
    exact k
  obtain ⟨_, _, ⟨T17, L17, k17, n17⟩, -, X17, ⟨Lc17, hQ17, l17, y17, z17⟩, st17⟩ := Jvm.LawKit.callS X0 hx (y := (⟨"com/example/rooted_kinds/rootedkinds/storage/Rows", "renamed", "(B[B)[B"⟩ : MethodName)) hown (mvT hZ (hw _ (List.mem_of_getElem? (i := 18) rfl))) (mvT hZ (hw _ (List.mem_of_getElem? (i := 19) rfl))) (mvT hZ (hw _ (List.mem_of_getElem? (i := 3) rfl))) (mvT hZ (hw _ (List.mem_of_getElem? (i := 20) rfl))) (by decide) (backOf (W := 0) (rm4c6 l Z a0 hw [] r0 k_r0 z_r0 v0_r0 vs_r0 h0 n0 O0 V_r0 hz E_r0) hZ (hw _ (List.mem_of_getElem? (i := 20) rfl)) (hw _ (List.mem_of_getElem? (i := 3) rfl)) (by decide) (by decide)) (g := (mkF m 3 #[.val (.ref r0)] [(.ref r0), (.int (6 : Int32))])) rfl (by rw [hml]; rfl) (argsL := [(.int (6 : Int32)), (.ref r0)]) (rest := []) (lenOf own_pd27 rfl) rfl (by show 2 * 0 + _ ≤ _; exact Nat.le_of_eq rfl) (hb hby own_d3_3) (fun _ _ => ⟨rfl, e0, (by decide : 0 + 1 ≤ _), (by decide : 0 + 4 ≤ _)⟩)
  dsimp only [Pt.U, Pt.locs, Pt.cells, Pt.slots] at X17 l17 y17 z17 st17 hQ17
  subst l17 y17 z17
  obtain ⟨b17_y0, rfl, N17q, K17, sz17_y0, f17_0, f17_1⟩ := hQ17
  have N17 := Fr.app N0 N17q
  have O17 := O0.keep K17 all0
  have g_b17_y0 : n0 ≤ b17_y0 := Nat.le_trans (Nat.le_trans (Nat.le_of_eq O0.1.symm) O0.2.1) sz17_y0
  have sz_b17_y0 : h0.size ≤ b17_y0 := Nat.le_trans K0.1 sz17_y0
  have KA17 := K0.trans K17 all0
  refine Go.st (V' := T17.setTop (mkF m 6 #[.val (.ref r0)] [(.ref b17_y0)])) (fun t k => st17 t k) ?_
  obtain ⟨fs, hr, hrun, hended, hW, hsame⟩ := X17.leave (v := some (.ref b17_y0)) (fun h => by rw [Bd.returns] at h; cases h)
  refine Go.mk' ⟨_, _, retOut X17 hx Bd.returns rfl (Or.inr (Or.inr (Or.inr (Or.inr ⟨rfl, rfl, rfl⟩)))) (hb hby own_d3_6) hr, hrun, hended, _, _, rfl, ?_, ⟨_, rfl⟩, hW, hsame.mono (by decide) (by decide)⟩
  show Q3 Z r0 k_r0 z_r0 v0_r0 vs_r0 h0 n0 _ T17.heap _
  exact ⟨b17_y0, rfl, N17, KA17, sz_b17_y0, f17_0, f17_1⟩
theorem own_d5_0 : decode prog_132_method_12_code 0 = .ok (.aload_n 0, 1) := by decide +kernel
theorem own_d5_1 : decode prog_132_method_12_code 1 = .ok (.iconst 0, 1) := by decide +kernel
theorem own_d5_2 : decode prog_132_method_12_code 2 = .ok (.baload, 1) := by decide +kernel
theorem own_d5_3 : decode prog_132_method_12_code 3 = .ok (.iconst 2, 1) := by decide +kernel
theorem own_d5_4 : decode prog_132_method_12_code 4 = .ok (.if_icmp .ne 8, 3) := by decide +kernel
theorem own_d5_7 : decode prog_132_method_12_code 7 = .ok (.bipush 8, 2) := by decide +kernel
theorem own_d5_9 : decode prog_132_method_12_code 9 = .ok (.goto 5, 3) := by decide +kernel
theorem own_d5_14 : decode prog_132_method_12_code 14 = .ok (.aload_n 0, 1) := by decide +kernel
theorem own_d5_15 : decode prog_132_method_12_code 15 = .ok (.invokestatic 43, 3) := by decide +kernel
theorem own_d5_18 : decode prog_132_method_12_code 18 = .ok (.areturn, 1) := by decide +kernel
theorem ef5y (m : MethodId) (r0 : Addr) : entryFrame m #[(.ref r0)] 1 = mkF m 0 #[.val (.ref r0)] [] := by first | (simp [entryFrame, mkF, argsToLocals, Value.category]; done) | rfl
def Q5y (Z : State) (r0 : Addr) (k_r0 : ClassId) (z_r0 : Int32) (v0_r0 : Int32) (vs_r0 : List Value) (h0 : Heap) (n0 : Nat) (v : Option Value) (h : Heap) (L : List Loc) : Prop := ∃ y0 : Addr, v = some (.ref y0) ∧ Fr n0 L ∧ Keep h0 h [] ∧ h0.size ≤ y0 ∧ Arv Z h y0 k_r0 .byte z_r0 ((.int (8 : Int32)) :: vs_r0) (.int (0 : Int32)) ∧ Exa Z h y0 "[B"
set_option maxRecDepth 65536 in
set_option maxHeartbeats 40000000 in
theorem rm5y (l : Launch) (Z : State) (a0 : Array Value) (hw : ∀ d ∈ tables_1, d.before a0 Z = true) (ws : List Jvm.Cond) (r0 : Addr) (k_r0 : ClassId) (z_r0 : Int32) (v0_r0 : Int32) (vs_r0 : List Value) (h0 : Heap) (n0 : Nat) (O0 : Old Z n0 h0) (V_r0 : Arv Z h0 r0 k_r0 .byte z_r0 ((.int v0_r0) :: vs_r0) (.int (0 : Int32))) (hz : 0 < z_r0.toInt ∧ z_r0.toInt ≤ 4) (hv : v0_r0 = (2 : Int32)) (E_r0 : Exa Z h0 r0 "[B") :
    MetFree l (⟨"com/example/rooted_kinds/rootedkinds/storage/Rows", "counts", "([B)[B"⟩ : MethodName) (head1 (Jvm.Cond.code (⟨"com/example/rooted_kinds/rootedkinds/storage/Rows", "counts", "([B)[B"⟩ : MethodName) prog_132_method_12_code 1 (some (.array .byte)) :: ws) ({ frames := 2, cells := 1, slots := 4, locals := 28 } : Room)) (fun a U => a = #[(.ref r0)] ∧ Z.Warmed39 U.vm ∧ U.heap = h0) (fun _ _ _ _ _ => True) (fun _ U o U' => ∃ v L, o = .returned v ∧ Q5y Z r0 k_r0 z_r0 v0_r0 vs_r0 h0 n0 v U'.heap L ∧ FrameEnd U o U' L ({ frames := 2, cells := 1, slots := 4, locals := 28 } : Room).cells ({ frames := 2, cells := 1, slots := 4, locals := 28 } : Room).slots) := by
  refine MetFree.of_bodySF (plainFor_of_name own_pn0) hisR ?_
  intro p e s m args below meth c s₁ Bd hml0 hP hK
  obtain ⟨rfl, hZ, hh⟩ := hP
  have hx := Bd.exec
  have hby := Bd.bytes
  have hml : c.maxLocals = 1 := hml0
  have hown : s.vm.findClass "com/example/rooted_kinds/rootedkinds/storage/Rows" = some m.cls := findClass_of_methodNamed Bd.named
  have hnm := (name_of_methodNamed Bd.named Bd.method).1
  have X0 : Stand p l e ({ frames := 2, cells := 1, slots := 4, locals := 28 } : Room) s m #[(.ref r0)] below meth c s₁ [] 0 0 := Stand.of_body Bd
  have e0 : s₁.heap = h0 := by rw [← hh, Bd.state]; rfl
  have N0 := Fr.nil n0
  have K0 := Keep.refl h0 []
  refine Go.out ?_
  refine Go.st (V' := s₁.setTop (mkF m 0 #[.val (.ref r0)] [])) (fun t k => castTop (ef5y m r0) k) ?_
  refine Go.st (V' := s₁.setTop (mkF m 2 #[.val (.ref r0)] [(.int (0 : Int32)), (.ref r0)])) (fun t k => ?_) ?_
  · refine XS.aloadN X0.here hx rfl (hb hby own_d5_0) rfl rfl ?_
    show Steps p.tables e below (s₁.setTop (mkF m 1 #[.val (.ref r0)] [(.ref r0)])) _
    refine XS.iconst X0.here hx rfl (hb hby own_d5_1) ?_
    show Steps p.tables e below (s₁.setTop (mkF m 2 #[.val (.ref r0)] [(.int (0 : Int32)), (.ref r0)])) _
    exact k
  obtain ⟨cl18, Ar18, q18, Sz18, Nn18, Ha18, Ga18⟩ := id (V_r0)
  have hin18 : ¬ ((0 : Int32) < 0 ∨ cl18.slots.size ≤ ((0 : Int32)).toNatClampNeg) := inb_of Sz18 ⟨by decide, own_z0 hz⟩
  refine Go.st (V' := s₁.setTop (mkF m 15 #[.val (.ref r0)] [(.ref r0), (.int (8 : Int32))])) (fun t k => ?_) ?_
  · show Steps p.tables e below (s₁.setTop (mkF m 2 #[.val (.ref r0)] [(.int (0 : Int32)), (.ref r0)])) _
    refine X0.baloadBytes hx (j := (0 : Int32)) (v := (.int v0_r0)) (own_eT e0 Ar18) (State.isArrayOf_alike hZ.alike Ar18.2.1) Ar18.2.2 hin18 (Ha18.at hin18 rfl) (g := (mkF m 2 #[.val (.ref r0)] [(.int (0 : Int32)), (.ref r0)])) rfl rfl (hb hby own_d5_2) _ ?_
    show Steps p.tables e below (s₁.setTop (mkF m 3 #[.val (.ref r0)] [(.int v0_r0)])) _
    refine XS.iconst X0.here hx rfl (hb hby own_d5_3) ?_
    show Steps p.tables e below (s₁.setTop (mkF m 4 #[.val (.ref r0)] [(.int (2 : Int32)), (.int v0_r0)])) _
    refine XS.icmpNo X0.here hx rfl (hb hby own_d5_4) rfl (teq hv).2 ?_
    show Steps p.tables e below (s₁.setTop (mkF m 7 #[.val (.ref r0)] [])) _
    refine XS.bipush X0.here hx rfl (hb hby own_d5_7) ?_
    show Steps p.tables e below (s₁.setTop (mkF m 9 #[.val (.ref r0)] [(.int (8 : Int32))])) _
    refine XS.goto X0.here hx rfl (pc0 := 9) (pc' := 14) rfl (hb hby own_d5_9) (by decide) (by decide) ?_
    show Steps p.tables e below (s₁.setTop (mkF m 14 #[.val (.ref r0)] [(.int (8 : Int32))])) _
    refine XS.aloadN X0.here hx rfl (hb hby own_d5_14) rfl rfl ?_
    show Steps p.tables e below (s₁.setTop (mkF m 15 #[.val (.ref r0)] [(.ref r0), (.int (8 : Int32))])) _
    exact k
  obtain ⟨_, _, ⟨T19, L19, k19, n19⟩, -, X19, ⟨Lc19, hQ19, l19, y19, z19⟩, st19⟩ := Jvm.LawKit.callS X0 hx (y := (⟨"com/example/rooted_kinds/rootedkinds/storage/Rows", "renamed", "(B[B)[B"⟩ : MethodName)) hown (mvT hZ (hw _ (List.mem_of_getElem? (i := 18) rfl))) (mvT hZ (hw _ (List.mem_of_getElem? (i := 19) rfl))) (mvT hZ (hw _ (List.mem_of_getElem? (i := 3) rfl))) (mvT hZ (hw _ (List.mem_of_getElem? (i := 20) rfl))) (by decide) (backOf (W := 0) (rm4c8 l Z a0 hw [] r0 k_r0 z_r0 v0_r0 vs_r0 h0 n0 O0 V_r0 hz E_r0) hZ (hw _ (List.mem_of_getElem? (i := 20) rfl)) (hw _ (List.mem_of_getElem? (i := 3) rfl)) (by decide) (by decide)) (g := (mkF m 15 #[.val (.ref r0)] [(.ref r0), (.int (8 : Int32))])) rfl (by rw [hml]; rfl) (argsL := [(.int (8 : Int32)), (.ref r0)]) (rest := []) (lenOf own_pd27 rfl) rfl (by show 2 * 0 + _ ≤ _; exact Nat.le_of_eq rfl) (hb hby own_d5_15) (fun _ _ => ⟨rfl, e0, (by decide : 0 + 1 ≤ _), (by decide : 0 + 4 ≤ _)⟩)
  dsimp only [Pt.U, Pt.locs, Pt.cells, Pt.slots] at X19 l19 y19 z19 st19 hQ19
  subst l19 y19 z19
  obtain ⟨b19_y0, rfl, N19q, K19, sz19_y0, f19_0, f19_1⟩ := hQ19
  have N19 := Fr.app N0 N19q
  have O19 := O0.keep K19 all0
  have g_b19_y0 : n0 ≤ b19_y0 := Nat.le_trans (Nat.le_trans (Nat.le_of_eq O0.1.symm) O0.2.1) sz19_y0
  have sz_b19_y0 : h0.size ≤ b19_y0 := Nat.le_trans K0.1 sz19_y0
  have KA19 := K0.trans K19 all0
  refine Go.st (V' := T19.setTop (mkF m 18 #[.val (.ref r0)] [(.ref b19_y0)])) (fun t k => st19 t k) ?_
  obtain ⟨fs, hr, hrun, hended, hW, hsame⟩ := X19.leave (v := some (.ref b19_y0)) (fun h => by rw [Bd.returns] at h; cases h)
  refine Go.mk' ⟨_, _, retOut X19 hx Bd.returns rfl (Or.inr (Or.inr (Or.inr (Or.inr ⟨rfl, rfl, rfl⟩)))) (hb hby own_d5_18) hr, hrun, hended, _, _, rfl, ?_, ⟨_, rfl⟩, hW, hsame.mono (by decide) (by decide)⟩
  show Q5y Z r0 k_r0 z_r0 v0_r0 vs_r0 h0 n0 _ T19.heap _
  exact ⟨b19_y0, rfl, N19, KA19, sz_b19_y0, f19_0, f19_1⟩
theorem own_d5_12 : decode prog_132_method_12_code 12 = .ok (.bipush 7, 2) := by decide +kernel
theorem ef5n (m : MethodId) (r0 : Addr) : entryFrame m #[(.ref r0)] 1 = mkF m 0 #[.val (.ref r0)] [] := by first | (simp [entryFrame, mkF, argsToLocals, Value.category]; done) | rfl
def Q5n (Z : State) (r0 : Addr) (k_r0 : ClassId) (z_r0 : Int32) (v0_r0 : Int32) (vs_r0 : List Value) (h0 : Heap) (n0 : Nat) (v : Option Value) (h : Heap) (L : List Loc) : Prop := ∃ y0 : Addr, v = some (.ref y0) ∧ Fr n0 L ∧ Keep h0 h [] ∧ h0.size ≤ y0 ∧ Arv Z h y0 k_r0 .byte z_r0 ((.int (7 : Int32)) :: vs_r0) (.int (0 : Int32)) ∧ Exa Z h y0 "[B"
set_option maxRecDepth 65536 in
set_option maxHeartbeats 40000000 in
theorem rm5n (l : Launch) (Z : State) (a0 : Array Value) (hw : ∀ d ∈ tables_1, d.before a0 Z = true) (ws : List Jvm.Cond) (r0 : Addr) (k_r0 : ClassId) (z_r0 : Int32) (v0_r0 : Int32) (vs_r0 : List Value) (h0 : Heap) (n0 : Nat) (O0 : Old Z n0 h0) (V_r0 : Arv Z h0 r0 k_r0 .byte z_r0 ((.int v0_r0) :: vs_r0) (.int (0 : Int32))) (hz : 0 < z_r0.toInt ∧ z_r0.toInt ≤ 4) (hv : ¬ v0_r0 = (2 : Int32)) (E_r0 : Exa Z h0 r0 "[B") :
    MetFree l (⟨"com/example/rooted_kinds/rootedkinds/storage/Rows", "counts", "([B)[B"⟩ : MethodName) (head1 (Jvm.Cond.code (⟨"com/example/rooted_kinds/rootedkinds/storage/Rows", "counts", "([B)[B"⟩ : MethodName) prog_132_method_12_code 1 (some (.array .byte)) :: ws) ({ frames := 2, cells := 1, slots := 4, locals := 28 } : Room)) (fun a U => a = #[(.ref r0)] ∧ Z.Warmed39 U.vm ∧ U.heap = h0) (fun _ _ _ _ _ => True) (fun _ U o U' => ∃ v L, o = .returned v ∧ Q5n Z r0 k_r0 z_r0 v0_r0 vs_r0 h0 n0 v U'.heap L ∧ FrameEnd U o U' L ({ frames := 2, cells := 1, slots := 4, locals := 28 } : Room).cells ({ frames := 2, cells := 1, slots := 4, locals := 28 } : Room).slots) := by
  refine MetFree.of_bodySF (plainFor_of_name own_pn0) hisR ?_
  intro p e s m args below meth c s₁ Bd hml0 hP hK
  obtain ⟨rfl, hZ, hh⟩ := hP
  have hx := Bd.exec
  have hby := Bd.bytes
  have hml : c.maxLocals = 1 := hml0
  have hown : s.vm.findClass "com/example/rooted_kinds/rootedkinds/storage/Rows" = some m.cls := findClass_of_methodNamed Bd.named
  have hnm := (name_of_methodNamed Bd.named Bd.method).1
  have X0 : Stand p l e ({ frames := 2, cells := 1, slots := 4, locals := 28 } : Room) s m #[(.ref r0)] below meth c s₁ [] 0 0 := Stand.of_body Bd
  have e0 : s₁.heap = h0 := by rw [← hh, Bd.state]; rfl
  have N0 := Fr.nil n0
  have K0 := Keep.refl h0 []
  refine Go.out ?_
  refine Go.st (V' := s₁.setTop (mkF m 0 #[.val (.ref r0)] [])) (fun t k => castTop (ef5n m r0) k) ?_
  refine Go.st (V' := s₁.setTop (mkF m 2 #[.val (.ref r0)] [(.int (0 : Int32)), (.ref r0)])) (fun t k => ?_) ?_
  · refine XS.aloadN X0.here hx rfl (hb hby own_d5_0) rfl rfl ?_
    show Steps p.tables e below (s₁.setTop (mkF m 1 #[.val (.ref r0)] [(.ref r0)])) _
    refine XS.iconst X0.here hx rfl (hb hby own_d5_1) ?_
    show Steps p.tables e below (s₁.setTop (mkF m 2 #[.val (.ref r0)] [(.int (0 : Int32)), (.ref r0)])) _
    exact k
  obtain ⟨cl20, Ar20, q20, Sz20, Nn20, Ha20, Ga20⟩ := id (V_r0)
  have hin20 : ¬ ((0 : Int32) < 0 ∨ cl20.slots.size ≤ ((0 : Int32)).toNatClampNeg) := inb_of Sz20 ⟨by decide, own_z0 hz⟩
  refine Go.st (V' := s₁.setTop (mkF m 15 #[.val (.ref r0)] [(.ref r0), (.int (7 : Int32))])) (fun t k => ?_) ?_
  · show Steps p.tables e below (s₁.setTop (mkF m 2 #[.val (.ref r0)] [(.int (0 : Int32)), (.ref r0)])) _
    refine X0.baloadBytes hx (j := (0 : Int32)) (v := (.int v0_r0)) (own_eT e0 Ar20) (State.isArrayOf_alike hZ.alike Ar20.2.1) Ar20.2.2 hin20 (Ha20.at hin20 rfl) (g := (mkF m 2 #[.val (.ref r0)] [(.int (0 : Int32)), (.ref r0)])) rfl rfl (hb hby own_d5_2) _ ?_
    show Steps p.tables e below (s₁.setTop (mkF m 3 #[.val (.ref r0)] [(.int v0_r0)])) _
    refine XS.iconst X0.here hx rfl (hb hby own_d5_3) ?_
    show Steps p.tables e below (s₁.setTop (mkF m 4 #[.val (.ref r0)] [(.int (2 : Int32)), (.int v0_r0)])) _
    refine XS.icmpYes X0.here hx rfl (pc0 := 4) (pc' := 12) rfl (hb hby own_d5_4) rfl (feq hv).2 (by decide) (by decide) ?_
    show Steps p.tables e below (s₁.setTop (mkF m 12 #[.val (.ref r0)] [])) _
    refine XS.bipush X0.here hx rfl (hb hby own_d5_12) ?_
    show Steps p.tables e below (s₁.setTop (mkF m 14 #[.val (.ref r0)] [(.int (7 : Int32))])) _
    refine XS.aloadN X0.here hx rfl (hb hby own_d5_14) rfl rfl ?_
    show Steps p.tables e below (s₁.setTop (mkF m 15 #[.val (.ref r0)] [(.ref r0), (.int (7 : Int32))])) _
    exact k
  obtain ⟨_, _, ⟨T21, L21, k21, n21⟩, -, X21, ⟨Lc21, hQ21, l21, y21, z21⟩, st21⟩ := Jvm.LawKit.callS X0 hx (y := (⟨"com/example/rooted_kinds/rootedkinds/storage/Rows", "renamed", "(B[B)[B"⟩ : MethodName)) hown (mvT hZ (hw _ (List.mem_of_getElem? (i := 18) rfl))) (mvT hZ (hw _ (List.mem_of_getElem? (i := 19) rfl))) (mvT hZ (hw _ (List.mem_of_getElem? (i := 3) rfl))) (mvT hZ (hw _ (List.mem_of_getElem? (i := 20) rfl))) (by decide) (backOf (W := 0) (rm4c7 l Z a0 hw [] r0 k_r0 z_r0 v0_r0 vs_r0 h0 n0 O0 V_r0 hz E_r0) hZ (hw _ (List.mem_of_getElem? (i := 20) rfl)) (hw _ (List.mem_of_getElem? (i := 3) rfl)) (by decide) (by decide)) (g := (mkF m 15 #[.val (.ref r0)] [(.ref r0), (.int (7 : Int32))])) rfl (by rw [hml]; rfl) (argsL := [(.int (7 : Int32)), (.ref r0)]) (rest := []) (lenOf own_pd27 rfl) rfl (by show 2 * 0 + _ ≤ _; exact Nat.le_of_eq rfl) (hb hby own_d5_15) (fun _ _ => ⟨rfl, e0, (by decide : 0 + 1 ≤ _), (by decide : 0 + 4 ≤ _)⟩)
  dsimp only [Pt.U, Pt.locs, Pt.cells, Pt.slots] at X21 l21 y21 z21 st21 hQ21
  subst l21 y21 z21
  obtain ⟨b21_y0, rfl, N21q, K21, sz21_y0, f21_0, f21_1⟩ := hQ21
  have N21 := Fr.app N0 N21q
  have O21 := O0.keep K21 all0
  have g_b21_y0 : n0 ≤ b21_y0 := Nat.le_trans (Nat.le_trans (Nat.le_of_eq O0.1.symm) O0.2.1) sz21_y0
  have sz_b21_y0 : h0.size ≤ b21_y0 := Nat.le_trans K0.1 sz21_y0
  have KA21 := K0.trans K21 all0
  refine Go.st (V' := T21.setTop (mkF m 18 #[.val (.ref r0)] [(.ref b21_y0)])) (fun t k => st21 t k) ?_
  obtain ⟨fs, hr, hrun, hended, hW, hsame⟩ := X21.leave (v := some (.ref b21_y0)) (fun h => by rw [Bd.returns] at h; cases h)
  refine Go.mk' ⟨_, _, retOut X21 hx Bd.returns rfl (Or.inr (Or.inr (Or.inr (Or.inr ⟨rfl, rfl, rfl⟩)))) (hb hby own_d5_18) hr, hrun, hended, _, _, rfl, ?_, ⟨_, rfl⟩, hW, hsame.mono (by decide) (by decide)⟩
  show Q5n Z r0 k_r0 z_r0 v0_r0 vs_r0 h0 n0 _ T21.heap _
  exact ⟨b21_y0, rfl, N21, KA21, sz_b21_y0, f21_0, f21_1⟩
theorem own_d2_0 : decode prog_132_method_16_code 0 = .ok (.iconst 0, 1) := by decide +kernel
theorem own_d2_1 : decode prog_132_method_16_code 1 = .ok (.istore_n 1, 1) := by decide +kernel
theorem own_d2_2 : decode prog_132_method_16_code 2 = .ok (.aload_n 0, 1) := by decide +kernel
theorem own_d2_3 : decode prog_132_method_16_code 3 = .ok (.astore_n 2, 1) := by decide +kernel
theorem own_d2_4 : decode prog_132_method_16_code 4 = .ok (.aload_n 2, 1) := by decide +kernel
theorem own_d2_5 : decode prog_132_method_16_code 5 = .ok (.arraylength, 1) := by decide +kernel
theorem own_d2_6 : decode prog_132_method_16_code 6 = .ok (.istore_n 3, 1) := by decide +kernel
theorem own_d2_7 : decode prog_132_method_16_code 7 = .ok (.iconst 0, 1) := by decide +kernel
theorem own_d2_8 : decode prog_132_method_16_code 8 = .ok (.istore 4, 2) := by decide +kernel
theorem own_d2_10 : decode prog_132_method_16_code 10 = .ok (.iload 4, 2) := by decide +kernel
theorem own_d2_12 : decode prog_132_method_16_code 12 = .ok (.iload_n 3, 1) := by decide +kernel
theorem own_d2_13 : decode prog_132_method_16_code 13 = .ok (.if_icmp .ge 21, 3) := by decide +kernel
theorem own_d2_16 : decode prog_132_method_16_code 16 = .ok (.aload_n 2, 1) := by decide +kernel
theorem own_d2_17 : decode prog_132_method_16_code 17 = .ok (.iload 4, 2) := by decide +kernel
theorem own_d2_19 : decode prog_132_method_16_code 19 = .ok (.aaload, 1) := by decide +kernel
theorem own_d2_20 : decode prog_132_method_16_code 20 = .ok (.astore 5, 2) := by decide +kernel
theorem own_d2_22 : decode prog_132_method_16_code 22 = .ok (.iload_n 1, 1) := by decide +kernel
theorem own_d2_23 : decode prog_132_method_16_code 23 = .ok (.aload 5, 2) := by decide +kernel
theorem own_d2_25 : decode prog_132_method_16_code 25 = .ok (.arraylength, 1) := by decide +kernel
theorem own_d2_26 : decode prog_132_method_16_code 26 = .ok (.iadd, 1) := by decide +kernel
theorem own_d2_27 : decode prog_132_method_16_code 27 = .ok (.istore_n 1, 1) := by decide +kernel
theorem own_d2_28 : decode prog_132_method_16_code 28 = .ok (.iinc 4 1, 3) := by decide +kernel
theorem own_d2_31 : decode prog_132_method_16_code 31 = .ok (.goto (-21), 3) := by decide +kernel
theorem own_d2_34 : decode prog_132_method_16_code 34 = .ok (.iload_n 1, 1) := by decide +kernel
theorem own_d2_35 : decode prog_132_method_16_code 35 = .ok (.newarray .byte, 2) := by decide +kernel
theorem own_d2_37 : decode prog_132_method_16_code 37 = .ok (.astore_n 2, 1) := by decide +kernel
theorem own_d2_38 : decode prog_132_method_16_code 38 = .ok (.iconst 0, 1) := by decide +kernel
theorem own_d2_39 : decode prog_132_method_16_code 39 = .ok (.istore_n 3, 1) := by decide +kernel
theorem own_d2_40 : decode prog_132_method_16_code 40 = .ok (.aload_n 0, 1) := by decide +kernel
theorem own_d2_41 : decode prog_132_method_16_code 41 = .ok (.astore 4, 2) := by decide +kernel
theorem own_d2_43 : decode prog_132_method_16_code 43 = .ok (.aload 4, 2) := by decide +kernel
theorem own_d2_45 : decode prog_132_method_16_code 45 = .ok (.arraylength, 1) := by decide +kernel
theorem own_d2_46 : decode prog_132_method_16_code 46 = .ok (.istore 5, 2) := by decide +kernel
theorem own_d2_48 : decode prog_132_method_16_code 48 = .ok (.iconst 0, 1) := by decide +kernel
theorem own_d2_49 : decode prog_132_method_16_code 49 = .ok (.istore 6, 2) := by decide +kernel
theorem own_d2_51 : decode prog_132_method_16_code 51 = .ok (.iload 6, 2) := by decide +kernel
theorem own_d2_53 : decode prog_132_method_16_code 53 = .ok (.iload 5, 2) := by decide +kernel
theorem own_d2_55 : decode prog_132_method_16_code 55 = .ok (.if_icmp .ge 33, 3) := by decide +kernel
theorem own_d2_58 : decode prog_132_method_16_code 58 = .ok (.aload 4, 2) := by decide +kernel
theorem own_d2_60 : decode prog_132_method_16_code 60 = .ok (.iload 6, 2) := by decide +kernel
theorem own_d2_62 : decode prog_132_method_16_code 62 = .ok (.aaload, 1) := by decide +kernel
theorem own_d2_63 : decode prog_132_method_16_code 63 = .ok (.astore 7, 2) := by decide +kernel
theorem own_d2_65 : decode prog_132_method_16_code 65 = .ok (.aload 7, 2) := by decide +kernel
theorem own_d2_67 : decode prog_132_method_16_code 67 = .ok (.iconst 0, 1) := by decide +kernel
theorem own_d2_68 : decode prog_132_method_16_code 68 = .ok (.aload_n 2, 1) := by decide +kernel
theorem own_d2_69 : decode prog_132_method_16_code 69 = .ok (.iload_n 3, 1) := by decide +kernel
theorem own_d2_70 : decode prog_132_method_16_code 70 = .ok (.aload 7, 2) := by decide +kernel
theorem own_d2_72 : decode prog_132_method_16_code 72 = .ok (.arraylength, 1) := by decide +kernel
theorem own_d2_73 : decode prog_132_method_16_code 73 = .ok (.invokestatic 79, 3) := by decide +kernel
theorem own_d2_76 : decode prog_132_method_16_code 76 = .ok (.iload_n 3, 1) := by decide +kernel
theorem own_d2_77 : decode prog_132_method_16_code 77 = .ok (.aload 7, 2) := by decide +kernel
theorem own_d2_79 : decode prog_132_method_16_code 79 = .ok (.arraylength, 1) := by decide +kernel
theorem own_d2_80 : decode prog_132_method_16_code 80 = .ok (.iadd, 1) := by decide +kernel
theorem own_d2_81 : decode prog_132_method_16_code 81 = .ok (.istore_n 3, 1) := by decide +kernel
theorem own_d2_82 : decode prog_132_method_16_code 82 = .ok (.iinc 6 1, 3) := by decide +kernel
theorem own_d2_85 : decode prog_132_method_16_code 85 = .ok (.goto (-34), 3) := by decide +kernel
theorem own_d2_88 : decode prog_132_method_16_code 88 = .ok (.aload_n 2, 1) := by decide +kernel
theorem own_d2_89 : decode prog_132_method_16_code 89 = .ok (.areturn, 1) := by decide +kernel
theorem ef2 (m : MethodId) (r0 : Addr) : entryFrame m #[(.ref r0)] 8 = mkF m 0 #[.val (.ref r0), .unset, .unset, .unset, .unset, .unset, .unset, .unset] [] := by first | (simp [entryFrame, mkF, argsToLocals, Value.category]; done) | rfl
def Q2 (Z : State) (r0 : Addr) (a1 : Addr) (a2 : Addr) (w1 : Int32) (k_r0 : ClassId) (k_a1 : ClassId) (k_a2 : ClassId) (z_a2 : Int32) (v0_a2 : Int32) (vs_a2 : List Value) (h0 : Heap) (n0 : Nat) (v : Option Value) (h : Heap) (L : List Loc) : Prop := ∃ y0 : Addr, ∃ z0 : ClassId, ∃ t0 : List Value, v = some (.ref y0) ∧ Fr n0 L ∧ Keep h0 h [] ∧ h0.size ≤ y0 ∧ Exa Z h y0 "[B" ∧ Arv Z h y0 z0 .byte (((0 : Int32) + (1 : Int32)) + z_a2) ((.int w1) :: t0) (.int (0 : Int32))
set_option maxRecDepth 65536 in
set_option maxHeartbeats 40000000 in
theorem rm2 (l : Launch) (Z : State) (a0 : Array Value) (hw : ∀ d ∈ tables_1, d.before a0 Z = true) (ws : List Jvm.Cond) (r0 : Addr) (a1 : Addr) (a2 : Addr) (w1 : Int32) (k_r0 : ClassId) (k_a1 : ClassId) (k_a2 : ClassId) (z_a2 : Int32) (v0_a2 : Int32) (vs_a2 : List Value) (h0 : Heap) (n0 : Nat) (O0 : Old Z n0 h0) (V_r0 : Arv Z h0 r0 k_r0 (.array .byte) (2 : Int32) [(.ref a1), (.ref a2)] .null) (V_a1 : Arv Z h0 a1 k_a1 .byte (1 : Int32) [(.int w1)] (.int (0 : Int32))) (V_a2 : Arv Z h0 a2 k_a2 .byte z_a2 ((.int v0_a2) :: vs_a2) (.int (0 : Int32))) (hz : 0 < z_a2.toInt ∧ z_a2.toInt ≤ 4) :
    MetFree l (⟨"com/example/rooted_kinds/rootedkinds/storage/Rows", "join", "([[B)[B"⟩ : MethodName) (head1 (Jvm.Cond.code (⟨"com/example/rooted_kinds/rootedkinds/storage/Rows", "join", "([[B)[B"⟩ : MethodName) prog_132_method_16_code 8 (some (.array .byte)) :: ws) ({ frames := 1, cells := 1, slots := 5, locals := 18 } : Room)) (fun a U => a = #[(.ref r0)] ∧ Z.Warmed39 U.vm ∧ U.heap = h0) (fun _ _ _ _ _ => True) (fun _ U o U' => ∃ v L, o = .returned v ∧ Q2 Z r0 a1 a2 w1 k_r0 k_a1 k_a2 z_a2 v0_a2 vs_a2 h0 n0 v U'.heap L ∧ FrameEnd U o U' L ({ frames := 1, cells := 1, slots := 5, locals := 18 } : Room).cells ({ frames := 1, cells := 1, slots := 5, locals := 18 } : Room).slots) := by
  refine MetFree.of_bodySF (plainFor_of_name own_pn0) hisR ?_
  intro p e s m args below meth c s₁ Bd hml0 hP hK
  obtain ⟨rfl, hZ, hh⟩ := hP
  have hx := Bd.exec
  have hby := Bd.bytes
  have hml : c.maxLocals = 8 := hml0
  have hown : s.vm.findClass "com/example/rooted_kinds/rootedkinds/storage/Rows" = some m.cls := findClass_of_methodNamed Bd.named
  have hnm := (name_of_methodNamed Bd.named Bd.method).1
  have X0 : Stand p l e ({ frames := 1, cells := 1, slots := 5, locals := 18 } : Room) s m #[(.ref r0)] below meth c s₁ [] 0 0 := Stand.of_body Bd
  have e0 : s₁.heap = h0 := by rw [← hh, Bd.state]; rfl
  have N0 := Fr.nil n0
  have K0 := Keep.refl h0 []
  refine Go.out ?_
  refine Go.st (V' := s₁.setTop (mkF m 0 #[.val (.ref r0), .unset, .unset, .unset, .unset, .unset, .unset, .unset] [])) (fun t k => castTop (ef2 m r0) k) ?_
  refine Go.st (V' := s₁.setTop (mkF m 5 #[.val (.ref r0), .val (.int (0 : Int32)), .val (.ref r0), .unset, .unset, .unset, .unset, .unset] [(.ref r0)])) (fun t k => ?_) ?_
  · refine XS.iconst X0.here hx rfl (hb hby own_d2_0) ?_
    show Steps p.tables e below (s₁.setTop (mkF m 1 #[.val (.ref r0), .unset, .unset, .unset, .unset, .unset, .unset, .unset] [(.int (0 : Int32))])) _
    refine XS.istoreN X0.here hx rfl (hb hby own_d2_1) rfl (l' := #[.val (.ref r0), .val (.int (0 : Int32)), .unset, .unset, .unset, .unset, .unset, .unset]) rfl ?_
    show Steps p.tables e below (s₁.setTop (mkF m 2 #[.val (.ref r0), .val (.int (0 : Int32)), .unset, .unset, .unset, .unset, .unset, .unset] [])) _
    refine XS.aloadN X0.here hx rfl (hb hby own_d2_2) rfl rfl ?_
    show Steps p.tables e below (s₁.setTop (mkF m 3 #[.val (.ref r0), .val (.int (0 : Int32)), .unset, .unset, .unset, .unset, .unset, .unset] [(.ref r0)])) _
    refine XS.astoreN X0.here hx rfl (hb hby own_d2_3) rfl rfl (l' := #[.val (.ref r0), .val (.int (0 : Int32)), .val (.ref r0), .unset, .unset, .unset, .unset, .unset]) rfl ?_
    show Steps p.tables e below (s₁.setTop (mkF m 4 #[.val (.ref r0), .val (.int (0 : Int32)), .val (.ref r0), .unset, .unset, .unset, .unset, .unset] [])) _
    refine XS.aloadN X0.here hx rfl (hb hby own_d2_4) rfl rfl ?_
    show Steps p.tables e below (s₁.setTop (mkF m 5 #[.val (.ref r0), .val (.int (0 : Int32)), .val (.ref r0), .unset, .unset, .unset, .unset, .unset] [(.ref r0)])) _
    exact k
  obtain ⟨cl22, Ar22, q22, Sz22, Nn22, Ha22, Ga22⟩ := id (V_r0)
  have Ln22 : cl22.slots.size.toInt32 = (2 : Int32) := len_of Sz22 Nn22
  refine Go.st (V' := s₁.setTop (mkF m 19 #[.val (.ref r0), .val (.int (0 : Int32)), .val (.ref r0), .val (.int (2 : Int32)), .val (.int (0 : Int32)), .unset, .unset, .unset] [(.int (0 : Int32)), (.ref r0)])) (fun t k => ?_) ?_
  · show Steps p.tables e below (s₁.setTop (mkF m 5 #[.val (.ref r0), .val (.int (0 : Int32)), .val (.ref r0), .unset, .unset, .unset, .unset, .unset] [(.ref r0)])) _
    refine X0.arraylength hx (own_eT e0 Ar22) (State.isArrayOf_alike hZ.alike Ar22.2.1) (g := (mkF m 5 #[.val (.ref r0), .val (.int (0 : Int32)), .val (.ref r0), .unset, .unset, .unset, .unset, .unset] [(.ref r0)])) rfl rfl (hb hby own_d2_5) _ ?_
    rw [Ln22]
    show Steps p.tables e below (s₁.setTop (mkF m 6 #[.val (.ref r0), .val (.int (0 : Int32)), .val (.ref r0), .unset, .unset, .unset, .unset, .unset] [(.int (2 : Int32))])) _
    refine XS.istoreN X0.here hx rfl (hb hby own_d2_6) rfl (l' := #[.val (.ref r0), .val (.int (0 : Int32)), .val (.ref r0), .val (.int (2 : Int32)), .unset, .unset, .unset, .unset]) rfl ?_
    show Steps p.tables e below (s₁.setTop (mkF m 7 #[.val (.ref r0), .val (.int (0 : Int32)), .val (.ref r0), .val (.int (2 : Int32)), .unset, .unset, .unset, .unset] [])) _
    refine XS.iconst X0.here hx rfl (hb hby own_d2_7) ?_
    show Steps p.tables e below (s₁.setTop (mkF m 8 #[.val (.ref r0), .val (.int (0 : Int32)), .val (.ref r0), .val (.int (2 : Int32)), .unset, .unset, .unset, .unset] [(.int (0 : Int32))])) _
    refine XS.istore X0.here hx rfl (hb hby own_d2_8) rfl (l' := #[.val (.ref r0), .val (.int (0 : Int32)), .val (.ref r0), .val (.int (2 : Int32)), .val (.int (0 : Int32)), .unset, .unset, .unset]) rfl ?_
    show Steps p.tables e below (s₁.setTop (mkF m 10 #[.val (.ref r0), .val (.int (0 : Int32)), .val (.ref r0), .val (.int (2 : Int32)), .val (.int (0 : Int32)), .unset, .unset, .unset] [])) _
    refine XS.iload X0.here hx rfl (hb hby own_d2_10) rfl  ?_
    show Steps p.tables e below (s₁.setTop (mkF m 12 #[.val (.ref r0), .val (.int (0 : Int32)), .val (.ref r0), .val (.int (2 : Int32)), .val (.int (0 : Int32)), .unset, .unset, .unset] [(.int (0 : Int32))])) _
    refine XS.iloadN X0.here hx rfl (hb hby own_d2_12) rfl  ?_
    show Steps p.tables e below (s₁.setTop (mkF m 13 #[.val (.ref r0), .val (.int (0 : Int32)), .val (.ref r0), .val (.int (2 : Int32)), .val (.int (0 : Int32)), .unset, .unset, .unset] [(.int (2 : Int32)), (.int (0 : Int32))])) _
    refine XS.icmpNo X0.here hx rfl (hb hby own_d2_13) rfl (tlt (by decide : ((0 : Int32) < (2 : Int32)))).2.1 ?_
    show Steps p.tables e below (s₁.setTop (mkF m 16 #[.val (.ref r0), .val (.int (0 : Int32)), .val (.ref r0), .val (.int (2 : Int32)), .val (.int (0 : Int32)), .unset, .unset, .unset] [])) _
    refine XS.aloadN X0.here hx rfl (hb hby own_d2_16) rfl rfl ?_
    show Steps p.tables e below (s₁.setTop (mkF m 17 #[.val (.ref r0), .val (.int (0 : Int32)), .val (.ref r0), .val (.int (2 : Int32)), .val (.int (0 : Int32)), .unset, .unset, .unset] [(.ref r0)])) _
    refine XS.iload X0.here hx rfl (hb hby own_d2_17) rfl  ?_
    show Steps p.tables e below (s₁.setTop (mkF m 19 #[.val (.ref r0), .val (.int (0 : Int32)), .val (.ref r0), .val (.int (2 : Int32)), .val (.int (0 : Int32)), .unset, .unset, .unset] [(.int (0 : Int32)), (.ref r0)])) _
    exact k
  obtain ⟨cl23, Ar23, q23, Sz23, Nn23, Ha23, Ga23⟩ := id (V_r0)
  have hin23 : ¬ ((0 : Int32) < 0 ∨ cl23.slots.size ≤ ((0 : Int32)).toNatClampNeg) := inb_of Sz23 ⟨by decide, by decide⟩
  refine Go.st (V' := s₁.setTop (mkF m 25 #[.val (.ref r0), .val (.int (0 : Int32)), .val (.ref r0), .val (.int (2 : Int32)), .val (.int (0 : Int32)), .val (.ref a1), .unset, .unset] [(.ref a1), (.int (0 : Int32))])) (fun t k => ?_) ?_
  · show Steps p.tables e below (s₁.setTop (mkF m 19 #[.val (.ref r0), .val (.int (0 : Int32)), .val (.ref r0), .val (.int (2 : Int32)), .val (.int (0 : Int32)), .unset, .unset, .unset] [(.int (0 : Int32)), (.ref r0)])) _
    refine X0.aaload hx (j := (0 : Int32)) (v := (.ref a1)) (own_eT e0 Ar23) (State.isArrayOf_alike hZ.alike Ar23.2.1) rfl Ar23.2.2 hin23 (Ha23.at hin23 rfl) (g := (mkF m 19 #[.val (.ref r0), .val (.int (0 : Int32)), .val (.ref r0), .val (.int (2 : Int32)), .val (.int (0 : Int32)), .unset, .unset, .unset] [(.int (0 : Int32)), (.ref r0)])) rfl rfl (hb hby own_d2_19) _ ?_
    show Steps p.tables e below (s₁.setTop (mkF m 20 #[.val (.ref r0), .val (.int (0 : Int32)), .val (.ref r0), .val (.int (2 : Int32)), .val (.int (0 : Int32)), .unset, .unset, .unset] [(.ref a1)])) _
    refine XS.astore X0.here hx rfl (hb hby own_d2_20) rfl rfl (l' := #[.val (.ref r0), .val (.int (0 : Int32)), .val (.ref r0), .val (.int (2 : Int32)), .val (.int (0 : Int32)), .val (.ref a1), .unset, .unset]) rfl ?_
    show Steps p.tables e below (s₁.setTop (mkF m 22 #[.val (.ref r0), .val (.int (0 : Int32)), .val (.ref r0), .val (.int (2 : Int32)), .val (.int (0 : Int32)), .val (.ref a1), .unset, .unset] [])) _
    refine XS.iloadN X0.here hx rfl (hb hby own_d2_22) rfl  ?_
    show Steps p.tables e below (s₁.setTop (mkF m 23 #[.val (.ref r0), .val (.int (0 : Int32)), .val (.ref r0), .val (.int (2 : Int32)), .val (.int (0 : Int32)), .val (.ref a1), .unset, .unset] [(.int (0 : Int32))])) _
    refine XS.aload X0.here hx rfl (hb hby own_d2_23) rfl rfl ?_
    show Steps p.tables e below (s₁.setTop (mkF m 25 #[.val (.ref r0), .val (.int (0 : Int32)), .val (.ref r0), .val (.int (2 : Int32)), .val (.int (0 : Int32)), .val (.ref a1), .unset, .unset] [(.ref a1), (.int (0 : Int32))])) _
    exact k
  obtain ⟨cl24, Ar24, q24, Sz24, Nn24, Ha24, Ga24⟩ := id (V_a1)
  have Ln24 : cl24.slots.size.toInt32 = (1 : Int32) := len_of Sz24 Nn24
  refine Go.st (V' := s₁.setTop (mkF m 19 #[.val (.ref r0), .val (.int ((0 : Int32) + (1 : Int32))), .val (.ref r0), .val (.int (2 : Int32)), .val (.int ((0 : Int32) + (1 : Int32))), .val (.ref a1), .unset, .unset] [(.int ((0 : Int32) + (1 : Int32))), (.ref r0)])) (fun t k => ?_) ?_
  · show Steps p.tables e below (s₁.setTop (mkF m 25 #[.val (.ref r0), .val (.int (0 : Int32)), .val (.ref r0), .val (.int (2 : Int32)), .val (.int (0 : Int32)), .val (.ref a1), .unset, .unset] [(.ref a1), (.int (0 : Int32))])) _
    refine X0.arraylength hx (own_eT e0 Ar24) (State.isArrayOf_alike hZ.alike Ar24.2.1) (g := (mkF m 25 #[.val (.ref r0), .val (.int (0 : Int32)), .val (.ref r0), .val (.int (2 : Int32)), .val (.int (0 : Int32)), .val (.ref a1), .unset, .unset] [(.ref a1), (.int (0 : Int32))])) rfl rfl (hb hby own_d2_25) _ ?_
    rw [Ln24]
    show Steps p.tables e below (s₁.setTop (mkF m 26 #[.val (.ref r0), .val (.int (0 : Int32)), .val (.ref r0), .val (.int (2 : Int32)), .val (.int (0 : Int32)), .val (.ref a1), .unset, .unset] [(.int (1 : Int32)), (.int (0 : Int32))])) _
    refine XS.iadd X0.here hx rfl (hb hby own_d2_26) rfl ?_
    show Steps p.tables e below (s₁.setTop (mkF m 27 #[.val (.ref r0), .val (.int (0 : Int32)), .val (.ref r0), .val (.int (2 : Int32)), .val (.int (0 : Int32)), .val (.ref a1), .unset, .unset] [(.int ((0 : Int32) + (1 : Int32)))])) _
    refine XS.istoreN X0.here hx rfl (hb hby own_d2_27) rfl (l' := #[.val (.ref r0), .val (.int ((0 : Int32) + (1 : Int32))), .val (.ref r0), .val (.int (2 : Int32)), .val (.int (0 : Int32)), .val (.ref a1), .unset, .unset]) rfl ?_
    show Steps p.tables e below (s₁.setTop (mkF m 28 #[.val (.ref r0), .val (.int ((0 : Int32) + (1 : Int32))), .val (.ref r0), .val (.int (2 : Int32)), .val (.int (0 : Int32)), .val (.ref a1), .unset, .unset] [])) _
    refine XS.iinc X0.here hx rfl (hb hby own_d2_28) rfl (l' := #[.val (.ref r0), .val (.int ((0 : Int32) + (1 : Int32))), .val (.ref r0), .val (.int (2 : Int32)), .val (.int ((0 : Int32) + (1 : Int32))), .val (.ref a1), .unset, .unset]) rfl ?_
    show Steps p.tables e below (s₁.setTop (mkF m 31 #[.val (.ref r0), .val (.int ((0 : Int32) + (1 : Int32))), .val (.ref r0), .val (.int (2 : Int32)), .val (.int ((0 : Int32) + (1 : Int32))), .val (.ref a1), .unset, .unset] [])) _
    refine XS.goto X0.here hx rfl (pc0 := 31) (pc' := 10) rfl (hb hby own_d2_31) (by decide) (by decide) ?_
    show Steps p.tables e below (s₁.setTop (mkF m 10 #[.val (.ref r0), .val (.int ((0 : Int32) + (1 : Int32))), .val (.ref r0), .val (.int (2 : Int32)), .val (.int ((0 : Int32) + (1 : Int32))), .val (.ref a1), .unset, .unset] [])) _
    refine XS.iload X0.here hx rfl (hb hby own_d2_10) rfl  ?_
    show Steps p.tables e below (s₁.setTop (mkF m 12 #[.val (.ref r0), .val (.int ((0 : Int32) + (1 : Int32))), .val (.ref r0), .val (.int (2 : Int32)), .val (.int ((0 : Int32) + (1 : Int32))), .val (.ref a1), .unset, .unset] [(.int ((0 : Int32) + (1 : Int32)))])) _
    refine XS.iloadN X0.here hx rfl (hb hby own_d2_12) rfl  ?_
    show Steps p.tables e below (s₁.setTop (mkF m 13 #[.val (.ref r0), .val (.int ((0 : Int32) + (1 : Int32))), .val (.ref r0), .val (.int (2 : Int32)), .val (.int ((0 : Int32) + (1 : Int32))), .val (.ref a1), .unset, .unset] [(.int (2 : Int32)), (.int ((0 : Int32) + (1 : Int32)))])) _
    refine XS.icmpNo X0.here hx rfl (hb hby own_d2_13) rfl (tlt (by decide : (((0 : Int32) + (1 : Int32)) < (2 : Int32)))).2.1 ?_
    show Steps p.tables e below (s₁.setTop (mkF m 16 #[.val (.ref r0), .val (.int ((0 : Int32) + (1 : Int32))), .val (.ref r0), .val (.int (2 : Int32)), .val (.int ((0 : Int32) + (1 : Int32))), .val (.ref a1), .unset, .unset] [])) _
    refine XS.aloadN X0.here hx rfl (hb hby own_d2_16) rfl rfl ?_
    show Steps p.tables e below (s₁.setTop (mkF m 17 #[.val (.ref r0), .val (.int ((0 : Int32) + (1 : Int32))), .val (.ref r0), .val (.int (2 : Int32)), .val (.int ((0 : Int32) + (1 : Int32))), .val (.ref a1), .unset, .unset] [(.ref r0)])) _
    refine XS.iload X0.here hx rfl (hb hby own_d2_17) rfl  ?_
    show Steps p.tables e below (s₁.setTop (mkF m 19 #[.val (.ref r0), .val (.int ((0 : Int32) + (1 : Int32))), .val (.ref r0), .val (.int (2 : Int32)), .val (.int ((0 : Int32) + (1 : Int32))), .val (.ref a1), .unset, .unset] [(.int ((0 : Int32) + (1 : Int32))), (.ref r0)])) _
    exact k
  obtain ⟨cl25, Ar25, q25, Sz25, Nn25, Ha25, Ga25⟩ := id (V_r0)
  have hin25 : ¬ (((0 : Int32) + (1 : Int32)) < 0 ∨ cl25.slots.size ≤ (((0 : Int32) + (1 : Int32))).toNatClampNeg) := inb_of Sz25 ⟨by decide, by decide⟩
  refine Go.st (V' := s₁.setTop (mkF m 25 #[.val (.ref r0), .val (.int ((0 : Int32) + (1 : Int32))), .val (.ref r0), .val (.int (2 : Int32)), .val (.int ((0 : Int32) + (1 : Int32))), .val (.ref a2), .unset, .unset] [(.ref a2), (.int ((0 : Int32) + (1 : Int32)))])) (fun t k => ?_) ?_
  · show Steps p.tables e below (s₁.setTop (mkF m 19 #[.val (.ref r0), .val (.int ((0 : Int32) + (1 : Int32))), .val (.ref r0), .val (.int (2 : Int32)), .val (.int ((0 : Int32) + (1 : Int32))), .val (.ref a1), .unset, .unset] [(.int ((0 : Int32) + (1 : Int32))), (.ref r0)])) _
    refine X0.aaload hx (j := ((0 : Int32) + (1 : Int32))) (v := (.ref a2)) (own_eT e0 Ar25) (State.isArrayOf_alike hZ.alike Ar25.2.1) rfl Ar25.2.2 hin25 (Ha25.at hin25 rfl) (g := (mkF m 19 #[.val (.ref r0), .val (.int ((0 : Int32) + (1 : Int32))), .val (.ref r0), .val (.int (2 : Int32)), .val (.int ((0 : Int32) + (1 : Int32))), .val (.ref a1), .unset, .unset] [(.int ((0 : Int32) + (1 : Int32))), (.ref r0)])) rfl rfl (hb hby own_d2_19) _ ?_
    show Steps p.tables e below (s₁.setTop (mkF m 20 #[.val (.ref r0), .val (.int ((0 : Int32) + (1 : Int32))), .val (.ref r0), .val (.int (2 : Int32)), .val (.int ((0 : Int32) + (1 : Int32))), .val (.ref a1), .unset, .unset] [(.ref a2)])) _
    refine XS.astore X0.here hx rfl (hb hby own_d2_20) rfl rfl (l' := #[.val (.ref r0), .val (.int ((0 : Int32) + (1 : Int32))), .val (.ref r0), .val (.int (2 : Int32)), .val (.int ((0 : Int32) + (1 : Int32))), .val (.ref a2), .unset, .unset]) rfl ?_
    show Steps p.tables e below (s₁.setTop (mkF m 22 #[.val (.ref r0), .val (.int ((0 : Int32) + (1 : Int32))), .val (.ref r0), .val (.int (2 : Int32)), .val (.int ((0 : Int32) + (1 : Int32))), .val (.ref a2), .unset, .unset] [])) _
    refine XS.iloadN X0.here hx rfl (hb hby own_d2_22) rfl  ?_
    show Steps p.tables e below (s₁.setTop (mkF m 23 #[.val (.ref r0), .val (.int ((0 : Int32) + (1 : Int32))), .val (.ref r0), .val (.int (2 : Int32)), .val (.int ((0 : Int32) + (1 : Int32))), .val (.ref a2), .unset, .unset] [(.int ((0 : Int32) + (1 : Int32)))])) _
    refine XS.aload X0.here hx rfl (hb hby own_d2_23) rfl rfl ?_
    show Steps p.tables e below (s₁.setTop (mkF m 25 #[.val (.ref r0), .val (.int ((0 : Int32) + (1 : Int32))), .val (.ref r0), .val (.int (2 : Int32)), .val (.int ((0 : Int32) + (1 : Int32))), .val (.ref a2), .unset, .unset] [(.ref a2), (.int ((0 : Int32) + (1 : Int32)))])) _
    exact k
  obtain ⟨cl26, Ar26, q26, Sz26, Nn26, Ha26, Ga26⟩ := id (V_a2)
  have Ln26 : cl26.slots.size.toInt32 = z_a2 := len_of Sz26 Nn26
  refine Go.st (V' := s₁.setTop (mkF m 35 #[.val (.ref r0), .val (.int (((0 : Int32) + (1 : Int32)) + z_a2)), .val (.ref r0), .val (.int (2 : Int32)), .val (.int (((0 : Int32) + (1 : Int32)) + (1 : Int32))), .val (.ref a2), .unset, .unset] [(.int (((0 : Int32) + (1 : Int32)) + z_a2))])) (fun t k => ?_) ?_
  · show Steps p.tables e below (s₁.setTop (mkF m 25 #[.val (.ref r0), .val (.int ((0 : Int32) + (1 : Int32))), .val (.ref r0), .val (.int (2 : Int32)), .val (.int ((0 : Int32) + (1 : Int32))), .val (.ref a2), .unset, .unset] [(.ref a2), (.int ((0 : Int32) + (1 : Int32)))])) _
    refine X0.arraylength hx (own_eT e0 Ar26) (State.isArrayOf_alike hZ.alike Ar26.2.1) (g := (mkF m 25 #[.val (.ref r0), .val (.int ((0 : Int32) + (1 : Int32))), .val (.ref r0), .val (.int (2 : Int32)), .val (.int ((0 : Int32) + (1 : Int32))), .val (.ref a2), .unset, .unset] [(.ref a2), (.int ((0 : Int32) + (1 : Int32)))])) rfl rfl (hb hby own_d2_25) _ ?_
    rw [Ln26]
    show Steps p.tables e below (s₁.setTop (mkF m 26 #[.val (.ref r0), .val (.int ((0 : Int32) + (1 : Int32))), .val (.ref r0), .val (.int (2 : Int32)), .val (.int ((0 : Int32) + (1 : Int32))), .val (.ref a2), .unset, .unset] [(.int z_a2), (.int ((0 : Int32) + (1 : Int32)))])) _
    refine XS.iadd X0.here hx rfl (hb hby own_d2_26) rfl ?_
    show Steps p.tables e below (s₁.setTop (mkF m 27 #[.val (.ref r0), .val (.int ((0 : Int32) + (1 : Int32))), .val (.ref r0), .val (.int (2 : Int32)), .val (.int ((0 : Int32) + (1 : Int32))), .val (.ref a2), .unset, .unset] [(.int (((0 : Int32) + (1 : Int32)) + z_a2))])) _
    refine XS.istoreN X0.here hx rfl (hb hby own_d2_27) rfl (l' := #[.val (.ref r0), .val (.int (((0 : Int32) + (1 : Int32)) + z_a2)), .val (.ref r0), .val (.int (2 : Int32)), .val (.int ((0 : Int32) + (1 : Int32))), .val (.ref a2), .unset, .unset]) rfl ?_
    show Steps p.tables e below (s₁.setTop (mkF m 28 #[.val (.ref r0), .val (.int (((0 : Int32) + (1 : Int32)) + z_a2)), .val (.ref r0), .val (.int (2 : Int32)), .val (.int ((0 : Int32) + (1 : Int32))), .val (.ref a2), .unset, .unset] [])) _
    refine XS.iinc X0.here hx rfl (hb hby own_d2_28) rfl (l' := #[.val (.ref r0), .val (.int (((0 : Int32) + (1 : Int32)) + z_a2)), .val (.ref r0), .val (.int (2 : Int32)), .val (.int (((0 : Int32) + (1 : Int32)) + (1 : Int32))), .val (.ref a2), .unset, .unset]) rfl ?_
    show Steps p.tables e below (s₁.setTop (mkF m 31 #[.val (.ref r0), .val (.int (((0 : Int32) + (1 : Int32)) + z_a2)), .val (.ref r0), .val (.int (2 : Int32)), .val (.int (((0 : Int32) + (1 : Int32)) + (1 : Int32))), .val (.ref a2), .unset, .unset] [])) _
    refine XS.goto X0.here hx rfl (pc0 := 31) (pc' := 10) rfl (hb hby own_d2_31) (by decide) (by decide) ?_
    show Steps p.tables e below (s₁.setTop (mkF m 10 #[.val (.ref r0), .val (.int (((0 : Int32) + (1 : Int32)) + z_a2)), .val (.ref r0), .val (.int (2 : Int32)), .val (.int (((0 : Int32) + (1 : Int32)) + (1 : Int32))), .val (.ref a2), .unset, .unset] [])) _
    refine XS.iload X0.here hx rfl (hb hby own_d2_10) rfl  ?_
    show Steps p.tables e below (s₁.setTop (mkF m 12 #[.val (.ref r0), .val (.int (((0 : Int32) + (1 : Int32)) + z_a2)), .val (.ref r0), .val (.int (2 : Int32)), .val (.int (((0 : Int32) + (1 : Int32)) + (1 : Int32))), .val (.ref a2), .unset, .unset] [(.int (((0 : Int32) + (1 : Int32)) + (1 : Int32)))])) _
    refine XS.iloadN X0.here hx rfl (hb hby own_d2_12) rfl  ?_
    show Steps p.tables e below (s₁.setTop (mkF m 13 #[.val (.ref r0), .val (.int (((0 : Int32) + (1 : Int32)) + z_a2)), .val (.ref r0), .val (.int (2 : Int32)), .val (.int (((0 : Int32) + (1 : Int32)) + (1 : Int32))), .val (.ref a2), .unset, .unset] [(.int (2 : Int32)), (.int (((0 : Int32) + (1 : Int32)) + (1 : Int32)))])) _
    refine XS.icmpYes X0.here hx rfl (pc0 := 13) (pc' := 34) rfl (hb hby own_d2_13) rfl (flt (by decide : ¬ ((((0 : Int32) + (1 : Int32)) + (1 : Int32)) < (2 : Int32)))).2.1 (by decide) (by decide) ?_
    show Steps p.tables e below (s₁.setTop (mkF m 34 #[.val (.ref r0), .val (.int (((0 : Int32) + (1 : Int32)) + z_a2)), .val (.ref r0), .val (.int (2 : Int32)), .val (.int (((0 : Int32) + (1 : Int32)) + (1 : Int32))), .val (.ref a2), .unset, .unset] [])) _
    refine XS.iloadN X0.here hx rfl (hb hby own_d2_34) rfl  ?_
    show Steps p.tables e below (s₁.setTop (mkF m 35 #[.val (.ref r0), .val (.int (((0 : Int32) + (1 : Int32)) + z_a2)), .val (.ref r0), .val (.int (2 : Int32)), .val (.int (((0 : Int32) + (1 : Int32)) + (1 : Int32))), .val (.ref a2), .unset, .unset] [(.int (((0 : Int32) + (1 : Int32)) + z_a2))])) _
    exact k
  obtain ⟨T27, h27, k27, X27, e27, E27, A27, XA27, st27⟩ := newPE X0 hx hZ (hw _ (List.mem_of_getElem? (i := 0) rfl)) e0 (g := (mkF m 35 #[.val (.ref r0), .val (.int (((0 : Int32) + (1 : Int32)) + z_a2)), .val (.ref r0), .val (.int (2 : Int32)), .val (.int (((0 : Int32) + (1 : Int32)) + (1 : Int32))), .val (.ref a2), .unset, .unset] [(.int (((0 : Int32) + (1 : Int32)) + z_a2))])) rfl (hb hby own_d2_35) rfl (own_jn hz) (cap := 5) (own_jc hz) (by decide) (by decide) (by decide) (ad := "[B") (by decide)
  obtain ⟨b27, g27⟩ : ∃ z, z = h0.size := ⟨_, rfl⟩
  rw [← g27] at A27 XA27 st27
  have g_b27 : n0 ≤ b27 := Nat.le_trans (Nat.le_trans (Nat.le_of_eq O0.1.symm) O0.2.1) (Nat.le_of_eq g27.symm)
  have sz_b27 : h0.size ≤ b27 := Nat.le_trans K0.1 (Nat.le_of_eq g27.symm)
  have K27 := K0.ext E27
  have O27 := O0.ext E27
  have V27 : Arv Z h27 b27 k27 .byte (((0 : Int32) + (1 : Int32)) + z_a2) [(.int (0 : Int32)), (.int (0 : Int32)), (.int (0 : Int32)), (.int (0 : Int32)), (.int (0 : Int32)), (.int (0 : Int32)), (.int (0 : Int32)), (.int (0 : Int32))] (.int (0 : Int32)) := (Arv.new A27 (own_jn hz)).pad (pad_rep [] (.int (0 : Int32)) 8)
  refine Go.st (V' := T27.setTop (mkF m 37 #[.val (.ref r0), .val (.int (((0 : Int32) + (1 : Int32)) + z_a2)), .val (.ref r0), .val (.int (2 : Int32)), .val (.int (((0 : Int32) + (1 : Int32)) + (1 : Int32))), .val (.ref a2), .unset, .unset] [(.ref b27)])) (fun t k => st27 t k) ?_
  refine Go.st (V' := T27.setTop (mkF m 45 #[.val (.ref r0), .val (.int (((0 : Int32) + (1 : Int32)) + z_a2)), .val (.ref b27), .val (.int (0 : Int32)), .val (.ref r0), .val (.ref a2), .unset, .unset] [(.ref r0)])) (fun t k => ?_) ?_
  · refine XS.astoreN X27.here hx rfl (hb hby own_d2_37) rfl rfl (l' := #[.val (.ref r0), .val (.int (((0 : Int32) + (1 : Int32)) + z_a2)), .val (.ref b27), .val (.int (2 : Int32)), .val (.int (((0 : Int32) + (1 : Int32)) + (1 : Int32))), .val (.ref a2), .unset, .unset]) rfl ?_
    show Steps p.tables e below (T27.setTop (mkF m 38 #[.val (.ref r0), .val (.int (((0 : Int32) + (1 : Int32)) + z_a2)), .val (.ref b27), .val (.int (2 : Int32)), .val (.int (((0 : Int32) + (1 : Int32)) + (1 : Int32))), .val (.ref a2), .unset, .unset] [])) _
    refine XS.iconst X27.here hx rfl (hb hby own_d2_38) ?_
    show Steps p.tables e below (T27.setTop (mkF m 39 #[.val (.ref r0), .val (.int (((0 : Int32) + (1 : Int32)) + z_a2)), .val (.ref b27), .val (.int (2 : Int32)), .val (.int (((0 : Int32) + (1 : Int32)) + (1 : Int32))), .val (.ref a2), .unset, .unset] [(.int (0 : Int32))])) _
    refine XS.istoreN X27.here hx rfl (hb hby own_d2_39) rfl (l' := #[.val (.ref r0), .val (.int (((0 : Int32) + (1 : Int32)) + z_a2)), .val (.ref b27), .val (.int (0 : Int32)), .val (.int (((0 : Int32) + (1 : Int32)) + (1 : Int32))), .val (.ref a2), .unset, .unset]) rfl ?_
    show Steps p.tables e below (T27.setTop (mkF m 40 #[.val (.ref r0), .val (.int (((0 : Int32) + (1 : Int32)) + z_a2)), .val (.ref b27), .val (.int (0 : Int32)), .val (.int (((0 : Int32) + (1 : Int32)) + (1 : Int32))), .val (.ref a2), .unset, .unset] [])) _
    refine XS.aloadN X27.here hx rfl (hb hby own_d2_40) rfl rfl ?_
    show Steps p.tables e below (T27.setTop (mkF m 41 #[.val (.ref r0), .val (.int (((0 : Int32) + (1 : Int32)) + z_a2)), .val (.ref b27), .val (.int (0 : Int32)), .val (.int (((0 : Int32) + (1 : Int32)) + (1 : Int32))), .val (.ref a2), .unset, .unset] [(.ref r0)])) _
    refine XS.astore X27.here hx rfl (hb hby own_d2_41) rfl rfl (l' := #[.val (.ref r0), .val (.int (((0 : Int32) + (1 : Int32)) + z_a2)), .val (.ref b27), .val (.int (0 : Int32)), .val (.ref r0), .val (.ref a2), .unset, .unset]) rfl ?_
    show Steps p.tables e below (T27.setTop (mkF m 43 #[.val (.ref r0), .val (.int (((0 : Int32) + (1 : Int32)) + z_a2)), .val (.ref b27), .val (.int (0 : Int32)), .val (.ref r0), .val (.ref a2), .unset, .unset] [])) _
    refine XS.aload X27.here hx rfl (hb hby own_d2_43) rfl rfl ?_
    show Steps p.tables e below (T27.setTop (mkF m 45 #[.val (.ref r0), .val (.int (((0 : Int32) + (1 : Int32)) + z_a2)), .val (.ref b27), .val (.int (0 : Int32)), .val (.ref r0), .val (.ref a2), .unset, .unset] [(.ref r0)])) _
    exact k
  obtain ⟨cl28, Ar28, q28, Sz28, Nn28, Ha28, Ga28⟩ := id ((V_r0.ext E27))
  have Ln28 : cl28.slots.size.toInt32 = (2 : Int32) := len_of Sz28 Nn28
  refine Go.st (V' := T27.setTop (mkF m 62 #[.val (.ref r0), .val (.int (((0 : Int32) + (1 : Int32)) + z_a2)), .val (.ref b27), .val (.int (0 : Int32)), .val (.ref r0), .val (.int (2 : Int32)), .val (.int (0 : Int32)), .unset] [(.int (0 : Int32)), (.ref r0)])) (fun t k => ?_) ?_
  · show Steps p.tables e below (T27.setTop (mkF m 45 #[.val (.ref r0), .val (.int (((0 : Int32) + (1 : Int32)) + z_a2)), .val (.ref b27), .val (.int (0 : Int32)), .val (.ref r0), .val (.ref a2), .unset, .unset] [(.ref r0)])) _
    refine X27.arraylength hx (own_eT e27 Ar28) (State.isArrayOf_alike hZ.alike Ar28.2.1) (g := (mkF m 45 #[.val (.ref r0), .val (.int (((0 : Int32) + (1 : Int32)) + z_a2)), .val (.ref b27), .val (.int (0 : Int32)), .val (.ref r0), .val (.ref a2), .unset, .unset] [(.ref r0)])) rfl rfl (hb hby own_d2_45) _ ?_
    rw [Ln28]
    show Steps p.tables e below (T27.setTop (mkF m 46 #[.val (.ref r0), .val (.int (((0 : Int32) + (1 : Int32)) + z_a2)), .val (.ref b27), .val (.int (0 : Int32)), .val (.ref r0), .val (.ref a2), .unset, .unset] [(.int (2 : Int32))])) _
    refine XS.istore X27.here hx rfl (hb hby own_d2_46) rfl (l' := #[.val (.ref r0), .val (.int (((0 : Int32) + (1 : Int32)) + z_a2)), .val (.ref b27), .val (.int (0 : Int32)), .val (.ref r0), .val (.int (2 : Int32)), .unset, .unset]) rfl ?_
    show Steps p.tables e below (T27.setTop (mkF m 48 #[.val (.ref r0), .val (.int (((0 : Int32) + (1 : Int32)) + z_a2)), .val (.ref b27), .val (.int (0 : Int32)), .val (.ref r0), .val (.int (2 : Int32)), .unset, .unset] [])) _
    refine XS.iconst X27.here hx rfl (hb hby own_d2_48) ?_
    show Steps p.tables e below (T27.setTop (mkF m 49 #[.val (.ref r0), .val (.int (((0 : Int32) + (1 : Int32)) + z_a2)), .val (.ref b27), .val (.int (0 : Int32)), .val (.ref r0), .val (.int (2 : Int32)), .unset, .unset] [(.int (0 : Int32))])) _
    refine XS.istore X27.here hx rfl (hb hby own_d2_49) rfl (l' := #[.val (.ref r0), .val (.int (((0 : Int32) + (1 : Int32)) + z_a2)), .val (.ref b27), .val (.int (0 : Int32)), .val (.ref r0), .val (.int (2 : Int32)), .val (.int (0 : Int32)), .unset]) rfl ?_
    show Steps p.tables e below (T27.setTop (mkF m 51 #[.val (.ref r0), .val (.int (((0 : Int32) + (1 : Int32)) + z_a2)), .val (.ref b27), .val (.int (0 : Int32)), .val (.ref r0), .val (.int (2 : Int32)), .val (.int (0 : Int32)), .unset] [])) _
    refine XS.iload X27.here hx rfl (hb hby own_d2_51) rfl  ?_
    show Steps p.tables e below (T27.setTop (mkF m 53 #[.val (.ref r0), .val (.int (((0 : Int32) + (1 : Int32)) + z_a2)), .val (.ref b27), .val (.int (0 : Int32)), .val (.ref r0), .val (.int (2 : Int32)), .val (.int (0 : Int32)), .unset] [(.int (0 : Int32))])) _
    refine XS.iload X27.here hx rfl (hb hby own_d2_53) rfl  ?_
    show Steps p.tables e below (T27.setTop (mkF m 55 #[.val (.ref r0), .val (.int (((0 : Int32) + (1 : Int32)) + z_a2)), .val (.ref b27), .val (.int (0 : Int32)), .val (.ref r0), .val (.int (2 : Int32)), .val (.int (0 : Int32)), .unset] [(.int (2 : Int32)), (.int (0 : Int32))])) _
    refine XS.icmpNo X27.here hx rfl (hb hby own_d2_55) rfl (tlt (by decide : ((0 : Int32) < (2 : Int32)))).2.1 ?_
    show Steps p.tables e below (T27.setTop (mkF m 58 #[.val (.ref r0), .val (.int (((0 : Int32) + (1 : Int32)) + z_a2)), .val (.ref b27), .val (.int (0 : Int32)), .val (.ref r0), .val (.int (2 : Int32)), .val (.int (0 : Int32)), .unset] [])) _
    refine XS.aload X27.here hx rfl (hb hby own_d2_58) rfl rfl ?_
    show Steps p.tables e below (T27.setTop (mkF m 60 #[.val (.ref r0), .val (.int (((0 : Int32) + (1 : Int32)) + z_a2)), .val (.ref b27), .val (.int (0 : Int32)), .val (.ref r0), .val (.int (2 : Int32)), .val (.int (0 : Int32)), .unset] [(.ref r0)])) _
    refine XS.iload X27.here hx rfl (hb hby own_d2_60) rfl  ?_
    show Steps p.tables e below (T27.setTop (mkF m 62 #[.val (.ref r0), .val (.int (((0 : Int32) + (1 : Int32)) + z_a2)), .val (.ref b27), .val (.int (0 : Int32)), .val (.ref r0), .val (.int (2 : Int32)), .val (.int (0 : Int32)), .unset] [(.int (0 : Int32)), (.ref r0)])) _
    exact k
  obtain ⟨cl29, Ar29, q29, Sz29, Nn29, Ha29, Ga29⟩ := id ((V_r0.ext E27))
  have hin29 : ¬ ((0 : Int32) < 0 ∨ cl29.slots.size ≤ ((0 : Int32)).toNatClampNeg) := inb_of Sz29 ⟨by decide, by decide⟩
  refine Go.st (V' := T27.setTop (mkF m 72 #[.val (.ref r0), .val (.int (((0 : Int32) + (1 : Int32)) + z_a2)), .val (.ref b27), .val (.int (0 : Int32)), .val (.ref r0), .val (.int (2 : Int32)), .val (.int (0 : Int32)), .val (.ref a1)] [(.ref a1), (.int (0 : Int32)), (.ref b27), (.int (0 : Int32)), (.ref a1)])) (fun t k => ?_) ?_
  · show Steps p.tables e below (T27.setTop (mkF m 62 #[.val (.ref r0), .val (.int (((0 : Int32) + (1 : Int32)) + z_a2)), .val (.ref b27), .val (.int (0 : Int32)), .val (.ref r0), .val (.int (2 : Int32)), .val (.int (0 : Int32)), .unset] [(.int (0 : Int32)), (.ref r0)])) _
    refine X27.aaload hx (j := (0 : Int32)) (v := (.ref a1)) (own_eT e27 Ar29) (State.isArrayOf_alike hZ.alike Ar29.2.1) rfl Ar29.2.2 hin29 (Ha29.at hin29 rfl) (g := (mkF m 62 #[.val (.ref r0), .val (.int (((0 : Int32) + (1 : Int32)) + z_a2)), .val (.ref b27), .val (.int (0 : Int32)), .val (.ref r0), .val (.int (2 : Int32)), .val (.int (0 : Int32)), .unset] [(.int (0 : Int32)), (.ref r0)])) rfl rfl (hb hby own_d2_62) _ ?_
    show Steps p.tables e below (T27.setTop (mkF m 63 #[.val (.ref r0), .val (.int (((0 : Int32) + (1 : Int32)) + z_a2)), .val (.ref b27), .val (.int (0 : Int32)), .val (.ref r0), .val (.int (2 : Int32)), .val (.int (0 : Int32)), .unset] [(.ref a1)])) _
    refine XS.astore X27.here hx rfl (hb hby own_d2_63) rfl rfl (l' := #[.val (.ref r0), .val (.int (((0 : Int32) + (1 : Int32)) + z_a2)), .val (.ref b27), .val (.int (0 : Int32)), .val (.ref r0), .val (.int (2 : Int32)), .val (.int (0 : Int32)), .val (.ref a1)]) rfl ?_
    show Steps p.tables e below (T27.setTop (mkF m 65 #[.val (.ref r0), .val (.int (((0 : Int32) + (1 : Int32)) + z_a2)), .val (.ref b27), .val (.int (0 : Int32)), .val (.ref r0), .val (.int (2 : Int32)), .val (.int (0 : Int32)), .val (.ref a1)] [])) _
    refine XS.aload X27.here hx rfl (hb hby own_d2_65) rfl rfl ?_
    show Steps p.tables e below (T27.setTop (mkF m 67 #[.val (.ref r0), .val (.int (((0 : Int32) + (1 : Int32)) + z_a2)), .val (.ref b27), .val (.int (0 : Int32)), .val (.ref r0), .val (.int (2 : Int32)), .val (.int (0 : Int32)), .val (.ref a1)] [(.ref a1)])) _
    refine XS.iconst X27.here hx rfl (hb hby own_d2_67) ?_
    show Steps p.tables e below (T27.setTop (mkF m 68 #[.val (.ref r0), .val (.int (((0 : Int32) + (1 : Int32)) + z_a2)), .val (.ref b27), .val (.int (0 : Int32)), .val (.ref r0), .val (.int (2 : Int32)), .val (.int (0 : Int32)), .val (.ref a1)] [(.int (0 : Int32)), (.ref a1)])) _
    refine XS.aloadN X27.here hx rfl (hb hby own_d2_68) rfl rfl ?_
    show Steps p.tables e below (T27.setTop (mkF m 69 #[.val (.ref r0), .val (.int (((0 : Int32) + (1 : Int32)) + z_a2)), .val (.ref b27), .val (.int (0 : Int32)), .val (.ref r0), .val (.int (2 : Int32)), .val (.int (0 : Int32)), .val (.ref a1)] [(.ref b27), (.int (0 : Int32)), (.ref a1)])) _
    refine XS.iloadN X27.here hx rfl (hb hby own_d2_69) rfl  ?_
    show Steps p.tables e below (T27.setTop (mkF m 70 #[.val (.ref r0), .val (.int (((0 : Int32) + (1 : Int32)) + z_a2)), .val (.ref b27), .val (.int (0 : Int32)), .val (.ref r0), .val (.int (2 : Int32)), .val (.int (0 : Int32)), .val (.ref a1)] [(.int (0 : Int32)), (.ref b27), (.int (0 : Int32)), (.ref a1)])) _
    refine XS.aload X27.here hx rfl (hb hby own_d2_70) rfl rfl ?_
    show Steps p.tables e below (T27.setTop (mkF m 72 #[.val (.ref r0), .val (.int (((0 : Int32) + (1 : Int32)) + z_a2)), .val (.ref b27), .val (.int (0 : Int32)), .val (.ref r0), .val (.int (2 : Int32)), .val (.int (0 : Int32)), .val (.ref a1)] [(.ref a1), (.int (0 : Int32)), (.ref b27), (.int (0 : Int32)), (.ref a1)])) _
    exact k
  obtain ⟨cl30, Ar30, q30, Sz30, Nn30, Ha30, Ga30⟩ := id ((V_a1.ext E27))
  have Ln30 : cl30.slots.size.toInt32 = (1 : Int32) := len_of Sz30 Nn30
  refine Go.st (V' := T27.setTop (mkF m 73 #[.val (.ref r0), .val (.int (((0 : Int32) + (1 : Int32)) + z_a2)), .val (.ref b27), .val (.int (0 : Int32)), .val (.ref r0), .val (.int (2 : Int32)), .val (.int (0 : Int32)), .val (.ref a1)] [(.int (1 : Int32)), (.int (0 : Int32)), (.ref b27), (.int (0 : Int32)), (.ref a1)])) (fun t k => ?_) ?_
  · show Steps p.tables e below (T27.setTop (mkF m 72 #[.val (.ref r0), .val (.int (((0 : Int32) + (1 : Int32)) + z_a2)), .val (.ref b27), .val (.int (0 : Int32)), .val (.ref r0), .val (.int (2 : Int32)), .val (.int (0 : Int32)), .val (.ref a1)] [(.ref a1), (.int (0 : Int32)), (.ref b27), (.int (0 : Int32)), (.ref a1)])) _
    refine X27.arraylength hx (own_eT e27 Ar30) (State.isArrayOf_alike hZ.alike Ar30.2.1) (g := (mkF m 72 #[.val (.ref r0), .val (.int (((0 : Int32) + (1 : Int32)) + z_a2)), .val (.ref b27), .val (.int (0 : Int32)), .val (.ref r0), .val (.int (2 : Int32)), .val (.int (0 : Int32)), .val (.ref a1)] [(.ref a1), (.int (0 : Int32)), (.ref b27), (.int (0 : Int32)), (.ref a1)])) rfl rfl (hb hby own_d2_72) _ ?_
    rw [Ln30]
    show Steps p.tables e below (T27.setTop (mkF m 73 #[.val (.ref r0), .val (.int (((0 : Int32) + (1 : Int32)) + z_a2)), .val (.ref b27), .val (.int (0 : Int32)), .val (.ref r0), .val (.int (2 : Int32)), .val (.int (0 : Int32)), .val (.ref a1)] [(.int (1 : Int32)), (.int (0 : Int32)), (.ref b27), (.int (0 : Int32)), (.ref a1)])) _
    exact k
  obtain ⟨us31, hus31⟩ : ∃ us : List Value, us = (List.range ((1 : Int32)).toNatClampNeg).map (fun i => ([(.int w1)] : List Value).getD (((0 : Int32)).toNatClampNeg + i) (.int (0 : Int32))) := ⟨_, rfl⟩
  obtain ⟨T31, h31, L31, X31, e31, N31, K31, V31, st31⟩ := cpA X27 hx hZ hown (hw _ (List.mem_of_getElem? (i := 11) rfl)) (hw _ (List.mem_of_getElem? (i := 14) rfl)) (hw _ (List.mem_of_getElem? (i := 12) rfl)) (hw _ (List.mem_of_getElem? (i := 13) rfl)) e27 (V_a1.ext E27) V27 (Or.inl ⟨rfl, rfl⟩) (by decide) (by decide) (by decide) (by decide) (own_j1 hz) hus31 (by decide) N0 g_b27 (g := (mkF m 73 #[.val (.ref r0), .val (.int (((0 : Int32) + (1 : Int32)) + z_a2)), .val (.ref b27), .val (.int (0 : Int32)), .val (.ref r0), .val (.int (2 : Int32)), .val (.int (0 : Int32)), .val (.ref a1)] [(.int (1 : Int32)), (.int (0 : Int32)), (.ref b27), (.int (0 : Int32)), (.ref a1)])) rfl (by rw [hml]; rfl) rfl (hb hby own_d2_73) (by decide) (W := 0) (by show 2 * 0 + _ ≤ _; exact Nat.le_of_eq rfl) (by decide)
  obtain ⟨tl31, htl31⟩ : ∃ tl : List Value, tl = us31 ++ ([(.int (0 : Int32)), (.int (0 : Int32)), (.int (0 : Int32)), (.int (0 : Int32)), (.int (0 : Int32)), (.int (0 : Int32)), (.int (0 : Int32)), (.int (0 : Int32))] : List Value).drop (((0 : Int32)).toNatClampNeg + ((1 : Int32)).toNatClampNeg) := ⟨_, rfl⟩
  have V31 : Arv Z h31 b27 k27 .byte (((0 : Int32) + (1 : Int32)) + z_a2) [(.int w1), (.int (0 : Int32)), (.int (0 : Int32)), (.int (0 : Int32)), (.int (0 : Int32)), (.int (0 : Int32)), (.int (0 : Int32)), (.int (0 : Int32))] (.int (0 : Int32)) := by rw [hus31] at V31; exact V31
  have O31 := O27.keep K31 (allS g_b27 all0)
  have KA31 := K27.trans K31 (allS (Or.inr sz_b27) all0)
  refine Go.st (V' := T31.setTop (mkF m 76 #[.val (.ref r0), .val (.int (((0 : Int32) + (1 : Int32)) + z_a2)), .val (.ref b27), .val (.int (0 : Int32)), .val (.ref r0), .val (.int (2 : Int32)), .val (.int (0 : Int32)), .val (.ref a1)] [])) (fun t k => st31 t k) ?_
  refine Go.st (V' := T31.setTop (mkF m 79 #[.val (.ref r0), .val (.int (((0 : Int32) + (1 : Int32)) + z_a2)), .val (.ref b27), .val (.int (0 : Int32)), .val (.ref r0), .val (.int (2 : Int32)), .val (.int (0 : Int32)), .val (.ref a1)] [(.ref a1), (.int (0 : Int32))])) (fun t k => ?_) ?_
  · refine XS.iloadN X31.here hx rfl (hb hby own_d2_76) rfl  ?_
    show Steps p.tables e below (T31.setTop (mkF m 77 #[.val (.ref r0), .val (.int (((0 : Int32) + (1 : Int32)) + z_a2)), .val (.ref b27), .val (.int (0 : Int32)), .val (.ref r0), .val (.int (2 : Int32)), .val (.int (0 : Int32)), .val (.ref a1)] [(.int (0 : Int32))])) _
    refine XS.aload X31.here hx rfl (hb hby own_d2_77) rfl rfl ?_
    show Steps p.tables e below (T31.setTop (mkF m 79 #[.val (.ref r0), .val (.int (((0 : Int32) + (1 : Int32)) + z_a2)), .val (.ref b27), .val (.int (0 : Int32)), .val (.ref r0), .val (.int (2 : Int32)), .val (.int (0 : Int32)), .val (.ref a1)] [(.ref a1), (.int (0 : Int32))])) _
    exact k
  obtain ⟨cl32, Ar32, q32, Sz32, Nn32, Ha32, Ga32⟩ := id (((V_a1.ext E27).keep K31 (ninS (Nat.ne_of_lt (Nat.lt_of_lt_of_le V_a1.lt (Nat.le_of_eq g27.symm))) nin0)))
  have Ln32 : cl32.slots.size.toInt32 = (1 : Int32) := len_of Sz32 Nn32
  refine Go.st (V' := T31.setTop (mkF m 62 #[.val (.ref r0), .val (.int (((0 : Int32) + (1 : Int32)) + z_a2)), .val (.ref b27), .val (.int ((0 : Int32) + (1 : Int32))), .val (.ref r0), .val (.int (2 : Int32)), .val (.int ((0 : Int32) + (1 : Int32))), .val (.ref a1)] [(.int ((0 : Int32) + (1 : Int32))), (.ref r0)])) (fun t k => ?_) ?_
  · show Steps p.tables e below (T31.setTop (mkF m 79 #[.val (.ref r0), .val (.int (((0 : Int32) + (1 : Int32)) + z_a2)), .val (.ref b27), .val (.int (0 : Int32)), .val (.ref r0), .val (.int (2 : Int32)), .val (.int (0 : Int32)), .val (.ref a1)] [(.ref a1), (.int (0 : Int32))])) _
    refine X31.arraylength hx (own_eT e31 Ar32) (State.isArrayOf_alike hZ.alike Ar32.2.1) (g := (mkF m 79 #[.val (.ref r0), .val (.int (((0 : Int32) + (1 : Int32)) + z_a2)), .val (.ref b27), .val (.int (0 : Int32)), .val (.ref r0), .val (.int (2 : Int32)), .val (.int (0 : Int32)), .val (.ref a1)] [(.ref a1), (.int (0 : Int32))])) rfl rfl (hb hby own_d2_79) _ ?_
    rw [Ln32]
    show Steps p.tables e below (T31.setTop (mkF m 80 #[.val (.ref r0), .val (.int (((0 : Int32) + (1 : Int32)) + z_a2)), .val (.ref b27), .val (.int (0 : Int32)), .val (.ref r0), .val (.int (2 : Int32)), .val (.int (0 : Int32)), .val (.ref a1)] [(.int (1 : Int32)), (.int (0 : Int32))])) _
    refine XS.iadd X31.here hx rfl (hb hby own_d2_80) rfl ?_
    show Steps p.tables e below (T31.setTop (mkF m 81 #[.val (.ref r0), .val (.int (((0 : Int32) + (1 : Int32)) + z_a2)), .val (.ref b27), .val (.int (0 : Int32)), .val (.ref r0), .val (.int (2 : Int32)), .val (.int (0 : Int32)), .val (.ref a1)] [(.int ((0 : Int32) + (1 : Int32)))])) _
    refine XS.istoreN X31.here hx rfl (hb hby own_d2_81) rfl (l' := #[.val (.ref r0), .val (.int (((0 : Int32) + (1 : Int32)) + z_a2)), .val (.ref b27), .val (.int ((0 : Int32) + (1 : Int32))), .val (.ref r0), .val (.int (2 : Int32)), .val (.int (0 : Int32)), .val (.ref a1)]) rfl ?_
    show Steps p.tables e below (T31.setTop (mkF m 82 #[.val (.ref r0), .val (.int (((0 : Int32) + (1 : Int32)) + z_a2)), .val (.ref b27), .val (.int ((0 : Int32) + (1 : Int32))), .val (.ref r0), .val (.int (2 : Int32)), .val (.int (0 : Int32)), .val (.ref a1)] [])) _
    refine XS.iinc X31.here hx rfl (hb hby own_d2_82) rfl (l' := #[.val (.ref r0), .val (.int (((0 : Int32) + (1 : Int32)) + z_a2)), .val (.ref b27), .val (.int ((0 : Int32) + (1 : Int32))), .val (.ref r0), .val (.int (2 : Int32)), .val (.int ((0 : Int32) + (1 : Int32))), .val (.ref a1)]) rfl ?_
    show Steps p.tables e below (T31.setTop (mkF m 85 #[.val (.ref r0), .val (.int (((0 : Int32) + (1 : Int32)) + z_a2)), .val (.ref b27), .val (.int ((0 : Int32) + (1 : Int32))), .val (.ref r0), .val (.int (2 : Int32)), .val (.int ((0 : Int32) + (1 : Int32))), .val (.ref a1)] [])) _
    refine XS.goto X31.here hx rfl (pc0 := 85) (pc' := 51) rfl (hb hby own_d2_85) (by decide) (by decide) ?_
    show Steps p.tables e below (T31.setTop (mkF m 51 #[.val (.ref r0), .val (.int (((0 : Int32) + (1 : Int32)) + z_a2)), .val (.ref b27), .val (.int ((0 : Int32) + (1 : Int32))), .val (.ref r0), .val (.int (2 : Int32)), .val (.int ((0 : Int32) + (1 : Int32))), .val (.ref a1)] [])) _
    refine XS.iload X31.here hx rfl (hb hby own_d2_51) rfl  ?_
    show Steps p.tables e below (T31.setTop (mkF m 53 #[.val (.ref r0), .val (.int (((0 : Int32) + (1 : Int32)) + z_a2)), .val (.ref b27), .val (.int ((0 : Int32) + (1 : Int32))), .val (.ref r0), .val (.int (2 : Int32)), .val (.int ((0 : Int32) + (1 : Int32))), .val (.ref a1)] [(.int ((0 : Int32) + (1 : Int32)))])) _
    refine XS.iload X31.here hx rfl (hb hby own_d2_53) rfl  ?_
    show Steps p.tables e below (T31.setTop (mkF m 55 #[.val (.ref r0), .val (.int (((0 : Int32) + (1 : Int32)) + z_a2)), .val (.ref b27), .val (.int ((0 : Int32) + (1 : Int32))), .val (.ref r0), .val (.int (2 : Int32)), .val (.int ((0 : Int32) + (1 : Int32))), .val (.ref a1)] [(.int (2 : Int32)), (.int ((0 : Int32) + (1 : Int32)))])) _
    refine XS.icmpNo X31.here hx rfl (hb hby own_d2_55) rfl (tlt (by decide : (((0 : Int32) + (1 : Int32)) < (2 : Int32)))).2.1 ?_
    show Steps p.tables e below (T31.setTop (mkF m 58 #[.val (.ref r0), .val (.int (((0 : Int32) + (1 : Int32)) + z_a2)), .val (.ref b27), .val (.int ((0 : Int32) + (1 : Int32))), .val (.ref r0), .val (.int (2 : Int32)), .val (.int ((0 : Int32) + (1 : Int32))), .val (.ref a1)] [])) _
    refine XS.aload X31.here hx rfl (hb hby own_d2_58) rfl rfl ?_
    show Steps p.tables e below (T31.setTop (mkF m 60 #[.val (.ref r0), .val (.int (((0 : Int32) + (1 : Int32)) + z_a2)), .val (.ref b27), .val (.int ((0 : Int32) + (1 : Int32))), .val (.ref r0), .val (.int (2 : Int32)), .val (.int ((0 : Int32) + (1 : Int32))), .val (.ref a1)] [(.ref r0)])) _
    refine XS.iload X31.here hx rfl (hb hby own_d2_60) rfl  ?_
    show Steps p.tables e below (T31.setTop (mkF m 62 #[.val (.ref r0), .val (.int (((0 : Int32) + (1 : Int32)) + z_a2)), .val (.ref b27), .val (.int ((0 : Int32) + (1 : Int32))), .val (.ref r0), .val (.int (2 : Int32)), .val (.int ((0 : Int32) + (1 : Int32))), .val (.ref a1)] [(.int ((0 : Int32) + (1 : Int32))), (.ref r0)])) _
    exact k
  obtain ⟨cl33, Ar33, q33, Sz33, Nn33, Ha33, Ga33⟩ := id (((V_r0.ext E27).keep K31 (ninS (Nat.ne_of_lt (Nat.lt_of_lt_of_le V_r0.lt (Nat.le_of_eq g27.symm))) nin0)))
  have hin33 : ¬ (((0 : Int32) + (1 : Int32)) < 0 ∨ cl33.slots.size ≤ (((0 : Int32) + (1 : Int32))).toNatClampNeg) := inb_of Sz33 ⟨by decide, by decide⟩
  refine Go.st (V' := T31.setTop (mkF m 72 #[.val (.ref r0), .val (.int (((0 : Int32) + (1 : Int32)) + z_a2)), .val (.ref b27), .val (.int ((0 : Int32) + (1 : Int32))), .val (.ref r0), .val (.int (2 : Int32)), .val (.int ((0 : Int32) + (1 : Int32))), .val (.ref a2)] [(.ref a2), (.int ((0 : Int32) + (1 : Int32))), (.ref b27), (.int (0 : Int32)), (.ref a2)])) (fun t k => ?_) ?_
  · show Steps p.tables e below (T31.setTop (mkF m 62 #[.val (.ref r0), .val (.int (((0 : Int32) + (1 : Int32)) + z_a2)), .val (.ref b27), .val (.int ((0 : Int32) + (1 : Int32))), .val (.ref r0), .val (.int (2 : Int32)), .val (.int ((0 : Int32) + (1 : Int32))), .val (.ref a1)] [(.int ((0 : Int32) + (1 : Int32))), (.ref r0)])) _
    refine X31.aaload hx (j := ((0 : Int32) + (1 : Int32))) (v := (.ref a2)) (own_eT e31 Ar33) (State.isArrayOf_alike hZ.alike Ar33.2.1) rfl Ar33.2.2 hin33 (Ha33.at hin33 rfl) (g := (mkF m 62 #[.val (.ref r0), .val (.int (((0 : Int32) + (1 : Int32)) + z_a2)), .val (.ref b27), .val (.int ((0 : Int32) + (1 : Int32))), .val (.ref r0), .val (.int (2 : Int32)), .val (.int ((0 : Int32) + (1 : Int32))), .val (.ref a1)] [(.int ((0 : Int32) + (1 : Int32))), (.ref r0)])) rfl rfl (hb hby own_d2_62) _ ?_
    show Steps p.tables e below (T31.setTop (mkF m 63 #[.val (.ref r0), .val (.int (((0 : Int32) + (1 : Int32)) + z_a2)), .val (.ref b27), .val (.int ((0 : Int32) + (1 : Int32))), .val (.ref r0), .val (.int (2 : Int32)), .val (.int ((0 : Int32) + (1 : Int32))), .val (.ref a1)] [(.ref a2)])) _
    refine XS.astore X31.here hx rfl (hb hby own_d2_63) rfl rfl (l' := #[.val (.ref r0), .val (.int (((0 : Int32) + (1 : Int32)) + z_a2)), .val (.ref b27), .val (.int ((0 : Int32) + (1 : Int32))), .val (.ref r0), .val (.int (2 : Int32)), .val (.int ((0 : Int32) + (1 : Int32))), .val (.ref a2)]) rfl ?_
    show Steps p.tables e below (T31.setTop (mkF m 65 #[.val (.ref r0), .val (.int (((0 : Int32) + (1 : Int32)) + z_a2)), .val (.ref b27), .val (.int ((0 : Int32) + (1 : Int32))), .val (.ref r0), .val (.int (2 : Int32)), .val (.int ((0 : Int32) + (1 : Int32))), .val (.ref a2)] [])) _
    refine XS.aload X31.here hx rfl (hb hby own_d2_65) rfl rfl ?_
    show Steps p.tables e below (T31.setTop (mkF m 67 #[.val (.ref r0), .val (.int (((0 : Int32) + (1 : Int32)) + z_a2)), .val (.ref b27), .val (.int ((0 : Int32) + (1 : Int32))), .val (.ref r0), .val (.int (2 : Int32)), .val (.int ((0 : Int32) + (1 : Int32))), .val (.ref a2)] [(.ref a2)])) _
    refine XS.iconst X31.here hx rfl (hb hby own_d2_67) ?_
    show Steps p.tables e below (T31.setTop (mkF m 68 #[.val (.ref r0), .val (.int (((0 : Int32) + (1 : Int32)) + z_a2)), .val (.ref b27), .val (.int ((0 : Int32) + (1 : Int32))), .val (.ref r0), .val (.int (2 : Int32)), .val (.int ((0 : Int32) + (1 : Int32))), .val (.ref a2)] [(.int (0 : Int32)), (.ref a2)])) _
    refine XS.aloadN X31.here hx rfl (hb hby own_d2_68) rfl rfl ?_
    show Steps p.tables e below (T31.setTop (mkF m 69 #[.val (.ref r0), .val (.int (((0 : Int32) + (1 : Int32)) + z_a2)), .val (.ref b27), .val (.int ((0 : Int32) + (1 : Int32))), .val (.ref r0), .val (.int (2 : Int32)), .val (.int ((0 : Int32) + (1 : Int32))), .val (.ref a2)] [(.ref b27), (.int (0 : Int32)), (.ref a2)])) _
    refine XS.iloadN X31.here hx rfl (hb hby own_d2_69) rfl  ?_
    show Steps p.tables e below (T31.setTop (mkF m 70 #[.val (.ref r0), .val (.int (((0 : Int32) + (1 : Int32)) + z_a2)), .val (.ref b27), .val (.int ((0 : Int32) + (1 : Int32))), .val (.ref r0), .val (.int (2 : Int32)), .val (.int ((0 : Int32) + (1 : Int32))), .val (.ref a2)] [(.int ((0 : Int32) + (1 : Int32))), (.ref b27), (.int (0 : Int32)), (.ref a2)])) _
    refine XS.aload X31.here hx rfl (hb hby own_d2_70) rfl rfl ?_
    show Steps p.tables e below (T31.setTop (mkF m 72 #[.val (.ref r0), .val (.int (((0 : Int32) + (1 : Int32)) + z_a2)), .val (.ref b27), .val (.int ((0 : Int32) + (1 : Int32))), .val (.ref r0), .val (.int (2 : Int32)), .val (.int ((0 : Int32) + (1 : Int32))), .val (.ref a2)] [(.ref a2), (.int ((0 : Int32) + (1 : Int32))), (.ref b27), (.int (0 : Int32)), (.ref a2)])) _
    exact k
  obtain ⟨cl34, Ar34, q34, Sz34, Nn34, Ha34, Ga34⟩ := id (((V_a2.ext E27).keep K31 (ninS (Nat.ne_of_lt (Nat.lt_of_lt_of_le V_a2.lt (Nat.le_of_eq g27.symm))) nin0)))
  have Ln34 : cl34.slots.size.toInt32 = z_a2 := len_of Sz34 Nn34
  refine Go.st (V' := T31.setTop (mkF m 73 #[.val (.ref r0), .val (.int (((0 : Int32) + (1 : Int32)) + z_a2)), .val (.ref b27), .val (.int ((0 : Int32) + (1 : Int32))), .val (.ref r0), .val (.int (2 : Int32)), .val (.int ((0 : Int32) + (1 : Int32))), .val (.ref a2)] [(.int z_a2), (.int ((0 : Int32) + (1 : Int32))), (.ref b27), (.int (0 : Int32)), (.ref a2)])) (fun t k => ?_) ?_
  · show Steps p.tables e below (T31.setTop (mkF m 72 #[.val (.ref r0), .val (.int (((0 : Int32) + (1 : Int32)) + z_a2)), .val (.ref b27), .val (.int ((0 : Int32) + (1 : Int32))), .val (.ref r0), .val (.int (2 : Int32)), .val (.int ((0 : Int32) + (1 : Int32))), .val (.ref a2)] [(.ref a2), (.int ((0 : Int32) + (1 : Int32))), (.ref b27), (.int (0 : Int32)), (.ref a2)])) _
    refine X31.arraylength hx (own_eT e31 Ar34) (State.isArrayOf_alike hZ.alike Ar34.2.1) (g := (mkF m 72 #[.val (.ref r0), .val (.int (((0 : Int32) + (1 : Int32)) + z_a2)), .val (.ref b27), .val (.int ((0 : Int32) + (1 : Int32))), .val (.ref r0), .val (.int (2 : Int32)), .val (.int ((0 : Int32) + (1 : Int32))), .val (.ref a2)] [(.ref a2), (.int ((0 : Int32) + (1 : Int32))), (.ref b27), (.int (0 : Int32)), (.ref a2)])) rfl rfl (hb hby own_d2_72) _ ?_
    rw [Ln34]
    show Steps p.tables e below (T31.setTop (mkF m 73 #[.val (.ref r0), .val (.int (((0 : Int32) + (1 : Int32)) + z_a2)), .val (.ref b27), .val (.int ((0 : Int32) + (1 : Int32))), .val (.ref r0), .val (.int (2 : Int32)), .val (.int ((0 : Int32) + (1 : Int32))), .val (.ref a2)] [(.int z_a2), (.int ((0 : Int32) + (1 : Int32))), (.ref b27), (.int (0 : Int32)), (.ref a2)])) _
    exact k
  obtain ⟨us35, hus35⟩ : ∃ us : List Value, us = (List.range (z_a2).toNatClampNeg).map (fun i => (((.int v0_a2) :: vs_a2) : List Value).getD (((0 : Int32)).toNatClampNeg + i) (.int (0 : Int32))) := ⟨_, rfl⟩
  obtain ⟨T35, h35, L35, X35, e35, N35, K35, V35, st35⟩ := cpA X31 hx hZ hown (hw _ (List.mem_of_getElem? (i := 11) rfl)) (hw _ (List.mem_of_getElem? (i := 14) rfl)) (hw _ (List.mem_of_getElem? (i := 12) rfl)) (hw _ (List.mem_of_getElem? (i := 13) rfl)) e31 ((V_a2.ext E27).keep K31 (ninS (Nat.ne_of_lt (Nat.lt_of_lt_of_le V_a2.lt (Nat.le_of_eq g27.symm))) nin0)) V31 (Or.inl ⟨rfl, rfl⟩) (by decide) (by decide) (own_nn hz) own_j4 (own_j5 hz) hus35 (own_j8 rfl hz) N31 g_b27 (g := (mkF m 73 #[.val (.ref r0), .val (.int (((0 : Int32) + (1 : Int32)) + z_a2)), .val (.ref b27), .val (.int ((0 : Int32) + (1 : Int32))), .val (.ref r0), .val (.int (2 : Int32)), .val (.int ((0 : Int32) + (1 : Int32))), .val (.ref a2)] [(.int z_a2), (.int ((0 : Int32) + (1 : Int32))), (.ref b27), (.int (0 : Int32)), (.ref a2)])) rfl (by rw [hml]; rfl) rfl (hb hby own_d2_73) (by decide) (W := 0) (by show 2 * 0 + _ ≤ _; exact Nat.le_of_eq rfl) (by decide)
  obtain ⟨tl35, htl35⟩ : ∃ tl : List Value, tl = us35 ++ ([(.int w1), (.int (0 : Int32)), (.int (0 : Int32)), (.int (0 : Int32)), (.int (0 : Int32)), (.int (0 : Int32)), (.int (0 : Int32)), (.int (0 : Int32))] : List Value).drop ((((0 : Int32) + (1 : Int32))).toNatClampNeg + (z_a2).toNatClampNeg) := ⟨_, rfl⟩
  have V35 : Arv Z h35 b27 k27 .byte (((0 : Int32) + (1 : Int32)) + z_a2) ((.int w1) :: tl35) (.int (0 : Int32)) := by rw [htl35]; exact own_app V35
  have O35 := O31.keep K35 (allS g_b27 all0)
  have KA35 := KA31.trans K35 (allS (Or.inr sz_b27) all0)
  refine Go.st (V' := T35.setTop (mkF m 76 #[.val (.ref r0), .val (.int (((0 : Int32) + (1 : Int32)) + z_a2)), .val (.ref b27), .val (.int ((0 : Int32) + (1 : Int32))), .val (.ref r0), .val (.int (2 : Int32)), .val (.int ((0 : Int32) + (1 : Int32))), .val (.ref a2)] [])) (fun t k => st35 t k) ?_
  refine Go.st (V' := T35.setTop (mkF m 79 #[.val (.ref r0), .val (.int (((0 : Int32) + (1 : Int32)) + z_a2)), .val (.ref b27), .val (.int ((0 : Int32) + (1 : Int32))), .val (.ref r0), .val (.int (2 : Int32)), .val (.int ((0 : Int32) + (1 : Int32))), .val (.ref a2)] [(.ref a2), (.int ((0 : Int32) + (1 : Int32)))])) (fun t k => ?_) ?_
  · refine XS.iloadN X35.here hx rfl (hb hby own_d2_76) rfl  ?_
    show Steps p.tables e below (T35.setTop (mkF m 77 #[.val (.ref r0), .val (.int (((0 : Int32) + (1 : Int32)) + z_a2)), .val (.ref b27), .val (.int ((0 : Int32) + (1 : Int32))), .val (.ref r0), .val (.int (2 : Int32)), .val (.int ((0 : Int32) + (1 : Int32))), .val (.ref a2)] [(.int ((0 : Int32) + (1 : Int32)))])) _
    refine XS.aload X35.here hx rfl (hb hby own_d2_77) rfl rfl ?_
    show Steps p.tables e below (T35.setTop (mkF m 79 #[.val (.ref r0), .val (.int (((0 : Int32) + (1 : Int32)) + z_a2)), .val (.ref b27), .val (.int ((0 : Int32) + (1 : Int32))), .val (.ref r0), .val (.int (2 : Int32)), .val (.int ((0 : Int32) + (1 : Int32))), .val (.ref a2)] [(.ref a2), (.int ((0 : Int32) + (1 : Int32)))])) _
    exact k
  obtain ⟨cl36, Ar36, q36, Sz36, Nn36, Ha36, Ga36⟩ := id ((((V_a2.ext E27).keep K31 (ninS (Nat.ne_of_lt (Nat.lt_of_lt_of_le V_a2.lt (Nat.le_of_eq g27.symm))) nin0)).keep K35 (ninS (Nat.ne_of_lt (Nat.lt_of_lt_of_le V_a2.lt (Nat.le_of_eq g27.symm))) nin0)))
  have Ln36 : cl36.slots.size.toInt32 = z_a2 := len_of Sz36 Nn36
  refine Go.st (V' := T35.setTop (mkF m 89 #[.val (.ref r0), .val (.int (((0 : Int32) + (1 : Int32)) + z_a2)), .val (.ref b27), .val (.int (((0 : Int32) + (1 : Int32)) + z_a2)), .val (.ref r0), .val (.int (2 : Int32)), .val (.int (((0 : Int32) + (1 : Int32)) + (1 : Int32))), .val (.ref a2)] [(.ref b27)])) (fun t k => ?_) ?_
  · show Steps p.tables e below (T35.setTop (mkF m 79 #[.val (.ref r0), .val (.int (((0 : Int32) + (1 : Int32)) + z_a2)), .val (.ref b27), .val (.int ((0 : Int32) + (1 : Int32))), .val (.ref r0), .val (.int (2 : Int32)), .val (.int ((0 : Int32) + (1 : Int32))), .val (.ref a2)] [(.ref a2), (.int ((0 : Int32) + (1 : Int32)))])) _
    refine X35.arraylength hx (own_eT e35 Ar36) (State.isArrayOf_alike hZ.alike Ar36.2.1) (g := (mkF m 79 #[.val (.ref r0), .val (.int (((0 : Int32) + (1 : Int32)) + z_a2)), .val (.ref b27), .val (.int ((0 : Int32) + (1 : Int32))), .val (.ref r0), .val (.int (2 : Int32)), .val (.int ((0 : Int32) + (1 : Int32))), .val (.ref a2)] [(.ref a2), (.int ((0 : Int32) + (1 : Int32)))])) rfl rfl (hb hby own_d2_79) _ ?_
    rw [Ln36]
    show Steps p.tables e below (T35.setTop (mkF m 80 #[.val (.ref r0), .val (.int (((0 : Int32) + (1 : Int32)) + z_a2)), .val (.ref b27), .val (.int ((0 : Int32) + (1 : Int32))), .val (.ref r0), .val (.int (2 : Int32)), .val (.int ((0 : Int32) + (1 : Int32))), .val (.ref a2)] [(.int z_a2), (.int ((0 : Int32) + (1 : Int32)))])) _
    refine XS.iadd X35.here hx rfl (hb hby own_d2_80) rfl ?_
    show Steps p.tables e below (T35.setTop (mkF m 81 #[.val (.ref r0), .val (.int (((0 : Int32) + (1 : Int32)) + z_a2)), .val (.ref b27), .val (.int ((0 : Int32) + (1 : Int32))), .val (.ref r0), .val (.int (2 : Int32)), .val (.int ((0 : Int32) + (1 : Int32))), .val (.ref a2)] [(.int (((0 : Int32) + (1 : Int32)) + z_a2))])) _
    refine XS.istoreN X35.here hx rfl (hb hby own_d2_81) rfl (l' := #[.val (.ref r0), .val (.int (((0 : Int32) + (1 : Int32)) + z_a2)), .val (.ref b27), .val (.int (((0 : Int32) + (1 : Int32)) + z_a2)), .val (.ref r0), .val (.int (2 : Int32)), .val (.int ((0 : Int32) + (1 : Int32))), .val (.ref a2)]) rfl ?_
    show Steps p.tables e below (T35.setTop (mkF m 82 #[.val (.ref r0), .val (.int (((0 : Int32) + (1 : Int32)) + z_a2)), .val (.ref b27), .val (.int (((0 : Int32) + (1 : Int32)) + z_a2)), .val (.ref r0), .val (.int (2 : Int32)), .val (.int ((0 : Int32) + (1 : Int32))), .val (.ref a2)] [])) _
    refine XS.iinc X35.here hx rfl (hb hby own_d2_82) rfl (l' := #[.val (.ref r0), .val (.int (((0 : Int32) + (1 : Int32)) + z_a2)), .val (.ref b27), .val (.int (((0 : Int32) + (1 : Int32)) + z_a2)), .val (.ref r0), .val (.int (2 : Int32)), .val (.int (((0 : Int32) + (1 : Int32)) + (1 : Int32))), .val (.ref a2)]) rfl ?_
    show Steps p.tables e below (T35.setTop (mkF m 85 #[.val (.ref r0), .val (.int (((0 : Int32) + (1 : Int32)) + z_a2)), .val (.ref b27), .val (.int (((0 : Int32) + (1 : Int32)) + z_a2)), .val (.ref r0), .val (.int (2 : Int32)), .val (.int (((0 : Int32) + (1 : Int32)) + (1 : Int32))), .val (.ref a2)] [])) _
    refine XS.goto X35.here hx rfl (pc0 := 85) (pc' := 51) rfl (hb hby own_d2_85) (by decide) (by decide) ?_
    show Steps p.tables e below (T35.setTop (mkF m 51 #[.val (.ref r0), .val (.int (((0 : Int32) + (1 : Int32)) + z_a2)), .val (.ref b27), .val (.int (((0 : Int32) + (1 : Int32)) + z_a2)), .val (.ref r0), .val (.int (2 : Int32)), .val (.int (((0 : Int32) + (1 : Int32)) + (1 : Int32))), .val (.ref a2)] [])) _
    refine XS.iload X35.here hx rfl (hb hby own_d2_51) rfl  ?_
    show Steps p.tables e below (T35.setTop (mkF m 53 #[.val (.ref r0), .val (.int (((0 : Int32) + (1 : Int32)) + z_a2)), .val (.ref b27), .val (.int (((0 : Int32) + (1 : Int32)) + z_a2)), .val (.ref r0), .val (.int (2 : Int32)), .val (.int (((0 : Int32) + (1 : Int32)) + (1 : Int32))), .val (.ref a2)] [(.int (((0 : Int32) + (1 : Int32)) + (1 : Int32)))])) _
    refine XS.iload X35.here hx rfl (hb hby own_d2_53) rfl  ?_
    show Steps p.tables e below (T35.setTop (mkF m 55 #[.val (.ref r0), .val (.int (((0 : Int32) + (1 : Int32)) + z_a2)), .val (.ref b27), .val (.int (((0 : Int32) + (1 : Int32)) + z_a2)), .val (.ref r0), .val (.int (2 : Int32)), .val (.int (((0 : Int32) + (1 : Int32)) + (1 : Int32))), .val (.ref a2)] [(.int (2 : Int32)), (.int (((0 : Int32) + (1 : Int32)) + (1 : Int32)))])) _
    refine XS.icmpYes X35.here hx rfl (pc0 := 55) (pc' := 88) rfl (hb hby own_d2_55) rfl (flt (by decide : ¬ ((((0 : Int32) + (1 : Int32)) + (1 : Int32)) < (2 : Int32)))).2.1 (by decide) (by decide) ?_
    show Steps p.tables e below (T35.setTop (mkF m 88 #[.val (.ref r0), .val (.int (((0 : Int32) + (1 : Int32)) + z_a2)), .val (.ref b27), .val (.int (((0 : Int32) + (1 : Int32)) + z_a2)), .val (.ref r0), .val (.int (2 : Int32)), .val (.int (((0 : Int32) + (1 : Int32)) + (1 : Int32))), .val (.ref a2)] [])) _
    refine XS.aloadN X35.here hx rfl (hb hby own_d2_88) rfl rfl ?_
    show Steps p.tables e below (T35.setTop (mkF m 89 #[.val (.ref r0), .val (.int (((0 : Int32) + (1 : Int32)) + z_a2)), .val (.ref b27), .val (.int (((0 : Int32) + (1 : Int32)) + z_a2)), .val (.ref r0), .val (.int (2 : Int32)), .val (.int (((0 : Int32) + (1 : Int32)) + (1 : Int32))), .val (.ref a2)] [(.ref b27)])) _
    exact k
  obtain ⟨fs, hr, hrun, hended, hW, hsame⟩ := X35.leave (v := some (.ref b27)) (fun h => by rw [Bd.returns] at h; cases h)
  refine Go.mk' ⟨_, _, retOut X35 hx Bd.returns rfl (Or.inr (Or.inr (Or.inr (Or.inr ⟨rfl, rfl, rfl⟩)))) (hb hby own_d2_89) hr, hrun, hended, _, _, rfl, ?_, ⟨_, rfl⟩, hW, hsame.mono (by decide) (by decide)⟩
  show Q2 Z r0 a1 a2 w1 k_r0 k_a1 k_a2 z_a2 v0_a2 vs_a2 h0 n0 _ T35.heap _
  rw [e35]
  exact ⟨b27, k27, tl35, rfl, N35, KA35, sz_b27, ((XA27.keep K31).keep K35), V35⟩
theorem own_d1_0 : decode prog_132_method_3_code 0 = .ok (.iconst 2, 1) := by decide +kernel
theorem own_d1_1 : decode prog_132_method_3_code 1 = .ok (.anewarray 19, 3) := by decide +kernel
theorem own_d1_4 : decode prog_132_method_3_code 4 = .ok (.dup, 1) := by decide +kernel
theorem own_d1_5 : decode prog_132_method_3_code 5 = .ok (.iconst 0, 1) := by decide +kernel
theorem own_d1_6 : decode prog_132_method_3_code 6 = .ok (.iconst 1, 1) := by decide +kernel
theorem own_d1_7 : decode prog_132_method_3_code 7 = .ok (.newarray .byte, 2) := by decide +kernel
theorem own_d1_9 : decode prog_132_method_3_code 9 = .ok (.dup, 1) := by decide +kernel
theorem own_d1_10 : decode prog_132_method_3_code 10 = .ok (.iconst 0, 1) := by decide +kernel
theorem own_d1_11 : decode prog_132_method_3_code 11 = .ok (.iconst 1, 1) := by decide +kernel
theorem own_d1_12 : decode prog_132_method_3_code 12 = .ok (.bastore, 1) := by decide +kernel
theorem own_d1_13 : decode prog_132_method_3_code 13 = .ok (.aastore, 1) := by decide +kernel
theorem own_d1_14 : decode prog_132_method_3_code 14 = .ok (.dup, 1) := by decide +kernel
theorem own_d1_15 : decode prog_132_method_3_code 15 = .ok (.iconst 1, 1) := by decide +kernel
theorem own_d1_16 : decode prog_132_method_3_code 16 = .ok (.aload_n 0, 1) := by decide +kernel
theorem own_d1_17 : decode prog_132_method_3_code 17 = .ok (.aastore, 1) := by decide +kernel
theorem own_d1_18 : decode prog_132_method_3_code 18 = .ok (.invokestatic 21, 3) := by decide +kernel
theorem own_pd114 : parseMethodDescriptor "([[B)[B" = some ⟨[(.array (.array .byte))], some (.array .byte)⟩ := by decide +kernel
theorem own_d1_21 : decode prog_132_method_3_code 21 = .ok (.areturn, 1) := by decide +kernel
theorem ef1 (m : MethodId) (r0 : Addr) : entryFrame m #[(.ref r0)] 1 = mkF m 0 #[.val (.ref r0)] [] := by first | (simp [entryFrame, mkF, argsToLocals, Value.category]; done) | rfl
def Q1 (Z : State) (r0 : Addr) (k_r0 : ClassId) (z_r0 : Int32) (v0_r0 : Int32) (vs_r0 : List Value) (h0 : Heap) (n0 : Nat) (v : Option Value) (h : Heap) (L : List Loc) : Prop := ∃ y0 : Addr, ∃ z0 : ClassId, ∃ t0 : List Value, v = some (.ref y0) ∧ Fr n0 L ∧ Keep h0 h [] ∧ h0.size ≤ y0 ∧ Exa Z h y0 "[B" ∧ Arv Z h y0 z0 .byte (((0 : Int32) + (1 : Int32)) + z_r0) ((.int (1 : Int32)) :: t0) (.int (0 : Int32))
set_option maxRecDepth 65536 in
set_option maxHeartbeats 40000000 in
theorem rm1 (l : Launch) (Z : State) (a0 : Array Value) (hw : ∀ d ∈ tables_1, d.before a0 Z = true) (ws : List Jvm.Cond) (r0 : Addr) (k_r0 : ClassId) (z_r0 : Int32) (v0_r0 : Int32) (vs_r0 : List Value) (h0 : Heap) (n0 : Nat) (O0 : Old Z n0 h0) (V_r0 : Arv Z h0 r0 k_r0 .byte z_r0 ((.int v0_r0) :: vs_r0) (.int (0 : Int32))) (hz : 0 < z_r0.toInt ∧ z_r0.toInt ≤ 4) (E_r0 : Exa Z h0 r0 "[B") :
    MetFree l (⟨"com/example/rooted_kinds/rootedkinds/storage/Rows", "entity", "([B)[B"⟩ : MethodName) (head1 (Jvm.Cond.code (⟨"com/example/rooted_kinds/rootedkinds/storage/Rows", "entity", "([B)[B"⟩ : MethodName) prog_132_method_3_code 1 (some (.array .byte)) :: ws) ({ frames := 2, cells := 3, slots := 8, locals := 37 } : Room)) (fun a U => a = #[(.ref r0)] ∧ Z.Warmed39 U.vm ∧ U.heap = h0) (fun _ _ _ _ _ => True) (fun _ U o U' => ∃ v L, o = .returned v ∧ Q1 Z r0 k_r0 z_r0 v0_r0 vs_r0 h0 n0 v U'.heap L ∧ FrameEnd U o U' L ({ frames := 2, cells := 3, slots := 8, locals := 37 } : Room).cells ({ frames := 2, cells := 3, slots := 8, locals := 37 } : Room).slots) := by
  refine MetFree.of_bodySF (plainFor_of_name own_pn0) hisR ?_
  intro p e s m args below meth c s₁ Bd hml0 hP hK
  obtain ⟨rfl, hZ, hh⟩ := hP
  have hx := Bd.exec
  have hby := Bd.bytes
  have hml : c.maxLocals = 1 := hml0
  have hown : s.vm.findClass "com/example/rooted_kinds/rootedkinds/storage/Rows" = some m.cls := findClass_of_methodNamed Bd.named
  have hnm := (name_of_methodNamed Bd.named Bd.method).1
  have X0 : Stand p l e ({ frames := 2, cells := 3, slots := 8, locals := 37 } : Room) s m #[(.ref r0)] below meth c s₁ [] 0 0 := Stand.of_body Bd
  have e0 : s₁.heap = h0 := by rw [← hh, Bd.state]; rfl
  have N0 := Fr.nil n0
  have K0 := Keep.refl h0 []
  refine Go.out ?_
  refine Go.st (V' := s₁.setTop (mkF m 0 #[.val (.ref r0)] [])) (fun t k => castTop (ef1 m r0) k) ?_
  refine Go.st (V' := s₁.setTop (mkF m 1 #[.val (.ref r0)] [(.int (2 : Int32))])) (fun t k => ?_) ?_
  · refine XS.iconst X0.here hx rfl (hb hby own_d1_0) ?_
    show Steps p.tables e below (s₁.setTop (mkF m 1 #[.val (.ref r0)] [(.int (2 : Int32))])) _
    exact k
  obtain ⟨T37, h37, k37, X37, e37, E37, A37, XA37, Ov37, st37⟩ := newRA X0 hx hZ hown (ty := .byte) (C := "[B") (by decide) (hw _ (List.mem_of_getElem? (i := 5) rfl)) (hw _ (List.mem_of_getElem? (i := 6) rfl)) e0 (g := (mkF m 1 #[.val (.ref r0)] [(.int (2 : Int32))])) rfl (hb hby own_d1_1) rfl (by decide) (cap := 2) (by decide) (by decide) (by decide) (by decide) (ad := "[[B") (by decide)
  obtain ⟨b37, g37⟩ : ∃ z, z = h0.size := ⟨_, rfl⟩
  rw [← g37] at A37 XA37 st37
  have g_b37 : n0 ≤ b37 := Nat.le_trans (Nat.le_trans (Nat.le_of_eq O0.1.symm) O0.2.1) (Nat.le_of_eq g37.symm)
  have sz_b37 : h0.size ≤ b37 := Nat.le_trans K0.1 (Nat.le_of_eq g37.symm)
  have K37 := K0.ext E37
  have O37 := O0.ext E37
  have V37 : Arv Z h37 b37 k37 (.array .byte) (2 : Int32) [.null, .null] .null := (Arv.new A37 (by decide)).pad (pad_rep [] .null 2)
  refine Go.st (V' := T37.setTop (mkF m 4 #[.val (.ref r0)] [(.ref b37)])) (fun t k => st37 t k) ?_
  refine Go.st (V' := T37.setTop (mkF m 7 #[.val (.ref r0)] [(.int (1 : Int32)), (.int (0 : Int32)), (.ref b37), (.ref b37)])) (fun t k => ?_) ?_
  · refine XS.dup X37.here hx rfl (hb hby own_d1_4) rfl rfl ?_
    show Steps p.tables e below (T37.setTop (mkF m 5 #[.val (.ref r0)] [(.ref b37), (.ref b37)])) _
    refine XS.iconst X37.here hx rfl (hb hby own_d1_5) ?_
    show Steps p.tables e below (T37.setTop (mkF m 6 #[.val (.ref r0)] [(.int (0 : Int32)), (.ref b37), (.ref b37)])) _
    refine XS.iconst X37.here hx rfl (hb hby own_d1_6) ?_
    show Steps p.tables e below (T37.setTop (mkF m 7 #[.val (.ref r0)] [(.int (1 : Int32)), (.int (0 : Int32)), (.ref b37), (.ref b37)])) _
    exact k
  obtain ⟨T38, h38, k38, X38, e38, E38, A38, XA38, st38⟩ := newPE X37 hx hZ (hw _ (List.mem_of_getElem? (i := 0) rfl)) e37 (g := (mkF m 7 #[.val (.ref r0)] [(.int (1 : Int32)), (.int (0 : Int32)), (.ref b37), (.ref b37)])) rfl (hb hby own_d1_7) rfl (by decide) (cap := 1) (by decide) (by decide) (by decide) (by decide) (ad := "[B") (by decide)
  obtain ⟨b38, g38⟩ : ∃ z, z = h37.size := ⟨_, rfl⟩
  rw [← g38] at A38 XA38 st38
  have g_b38 : n0 ≤ b38 := Nat.le_trans (Nat.le_trans (Nat.le_of_eq O37.1.symm) O37.2.1) (Nat.le_of_eq g38.symm)
  have sz_b38 : h0.size ≤ b38 := Nat.le_trans K37.1 (Nat.le_of_eq g38.symm)
  have K38 := K37.ext E38
  have O38 := O37.ext E38
  have V38 : Arv Z h38 b38 k38 .byte (1 : Int32) [(.int (0 : Int32))] (.int (0 : Int32)) := (Arv.new A38 (by decide)).pad (pad_rep [] (.int (0 : Int32)) 1)
  refine Go.st (V' := T38.setTop (mkF m 9 #[.val (.ref r0)] [(.ref b38), (.int (0 : Int32)), (.ref b37), (.ref b37)])) (fun t k => st38 t k) ?_
  refine Go.st (V' := T38.setTop (mkF m 12 #[.val (.ref r0)] [(.int (1 : Int32)), (.int (0 : Int32)), (.ref b38), (.ref b38), (.int (0 : Int32)), (.ref b37), (.ref b37)])) (fun t k => ?_) ?_
  · refine XS.dup X38.here hx rfl (hb hby own_d1_9) rfl rfl ?_
    show Steps p.tables e below (T38.setTop (mkF m 10 #[.val (.ref r0)] [(.ref b38), (.ref b38), (.int (0 : Int32)), (.ref b37), (.ref b37)])) _
    refine XS.iconst X38.here hx rfl (hb hby own_d1_10) ?_
    show Steps p.tables e below (T38.setTop (mkF m 11 #[.val (.ref r0)] [(.int (0 : Int32)), (.ref b38), (.ref b38), (.int (0 : Int32)), (.ref b37), (.ref b37)])) _
    refine XS.iconst X38.here hx rfl (hb hby own_d1_11) ?_
    show Steps p.tables e below (T38.setTop (mkF m 12 #[.val (.ref r0)] [(.int (1 : Int32)), (.int (0 : Int32)), (.ref b38), (.ref b38), (.int (0 : Int32)), (.ref b37), (.ref b37)])) _
    exact k
  obtain ⟨cl39, Ar39, q39, Sz39, Nn39, Ha39, Ga39⟩ := id (V38)
  obtain ⟨T40, h40, X40, e40, W40, st40⟩ := stB X38 hx hZ e38 Ar39 (j := (0 : Int32)) (inb_of Sz39 ⟨by decide, by decide⟩) (g := (mkF m 12 #[.val (.ref r0)] [(.int (1 : Int32)), (.int (0 : Int32)), (.ref b38), (.ref b38), (.int (0 : Int32)), (.ref b37), (.ref b37)])) rfl rfl (hb hby own_d1_12)
  have V40 : Arv Z h40 b38 k38 .byte (1 : Int32) [(.int (1 : Int32))] (.int (0 : Int32)) := Arv.set Ar39 q39 Sz39 Nn39 Ha39 Ga39 (by decide) W40 0 rfl (Nat.le_of_ble_eq_true rfl)
  have O40 := O38.wr W40 g_b38
  have N40 := Fr.snoc X40 N0 g_b38
  have K40 := K38.wr W40 (Or.inr sz_b38)
  refine Go.st (V' := T40.setTop (mkF m 13 #[.val (.ref r0)] [(.ref b38), (.int (0 : Int32)), (.ref b37), (.ref b37)])) (fun t k => st40 t k) ?_
  obtain ⟨cl41, Ar41, q41, Sz41, Nn41, Ha41, Ga41⟩ := id (((V37.ext E38).other W40 (Nat.ne_of_lt (Nat.lt_of_lt_of_le V37.lt (Nat.le_of_eq g38.symm)))))
  obtain ⟨T42, h42, X42, e42, W42, st42⟩ := stR X40 hx hZ e40 Ar41 (j := (0 : Int32)) (inb_of Sz41 ⟨by decide, by decide⟩) rfl (Sto.ofVA Ar41 q41 Ov37 (Ins.self (XA38.wr W40))) (g := (mkF m 13 #[.val (.ref r0)] [(.ref b38), (.int (0 : Int32)), (.ref b37), (.ref b37)])) rfl rfl (hb hby own_d1_13)
  have V42 : Arv Z h42 b37 k37 (.array .byte) (2 : Int32) [(.ref b38), .null] .null := Arv.set Ar41 q41 Sz41 Nn41 Ha41 Ga41 rfl W42 0 rfl (Nat.le_of_ble_eq_true rfl)
  have O42 := O40.wr W42 g_b37
  have N42 := Fr.snoc X42 N40 g_b37
  have K42 := K40.wr W42 (Or.inr sz_b37)
  refine Go.st (V' := T42.setTop (mkF m 14 #[.val (.ref r0)] [(.ref b37)])) (fun t k => st42 t k) ?_
  refine Go.st (V' := T42.setTop (mkF m 17 #[.val (.ref r0)] [(.ref r0), (.int (1 : Int32)), (.ref b37), (.ref b37)])) (fun t k => ?_) ?_
  · refine XS.dup X42.here hx rfl (hb hby own_d1_14) rfl rfl ?_
    show Steps p.tables e below (T42.setTop (mkF m 15 #[.val (.ref r0)] [(.ref b37), (.ref b37)])) _
    refine XS.iconst X42.here hx rfl (hb hby own_d1_15) ?_
    show Steps p.tables e below (T42.setTop (mkF m 16 #[.val (.ref r0)] [(.int (1 : Int32)), (.ref b37), (.ref b37)])) _
    refine XS.aloadN X42.here hx rfl (hb hby own_d1_16) rfl rfl ?_
    show Steps p.tables e below (T42.setTop (mkF m 17 #[.val (.ref r0)] [(.ref r0), (.int (1 : Int32)), (.ref b37), (.ref b37)])) _
    exact k
  obtain ⟨cl43, Ar43, q43, Sz43, Nn43, Ha43, Ga43⟩ := id (V42)
  obtain ⟨T44, h44, X44, e44, W44, st44⟩ := stR X42 hx hZ e42 Ar43 (j := (1 : Int32)) (inb_of Sz43 ⟨by decide, by decide⟩) rfl (Sto.ofVA Ar43 q43 Ov37 (Ins.self ((((E_r0.ext E37).ext E38).wr W40).wr W42))) (g := (mkF m 17 #[.val (.ref r0)] [(.ref r0), (.int (1 : Int32)), (.ref b37), (.ref b37)])) rfl rfl (hb hby own_d1_17)
  have V44 : Arv Z h44 b37 k37 (.array .byte) (2 : Int32) [(.ref b38), (.ref r0)] .null := Arv.set Ar43 q43 Sz43 Nn43 Ha43 Ga43 rfl W44 1 rfl (Nat.le_of_ble_eq_true rfl)
  have O44 := O42.wr W44 g_b37
  have N44 := Fr.snoc X44 N42 g_b37
  have K44 := K42.wr W44 (Or.inr sz_b37)
  refine Go.st (V' := T44.setTop (mkF m 18 #[.val (.ref r0)] [(.ref b37)])) (fun t k => st44 t k) ?_
  obtain ⟨_, _, ⟨T45, L45, k45, n45⟩, -, X45, ⟨Lc45, hQ45, l45, y45, z45⟩, st45⟩ := Jvm.LawKit.callS X44 hx (y := (⟨"com/example/rooted_kinds/rootedkinds/storage/Rows", "join", "([[B)[B"⟩ : MethodName)) hown (mvT hZ (hw _ (List.mem_of_getElem? (i := 8) rfl))) (mvT hZ (hw _ (List.mem_of_getElem? (i := 9) rfl))) (mvT hZ (hw _ (List.mem_of_getElem? (i := 3) rfl))) (mvT hZ (hw _ (List.mem_of_getElem? (i := 10) rfl))) (by decide) (backOf (W := 0) (rm2 l Z a0 hw [] b37 b38 r0 (1 : Int32) k37 k38 k_r0 z_r0 v0_r0 vs_r0 h44 n0 O44 V44 ((V40.other W42 (Ne.symm (Nat.ne_of_lt (Nat.lt_of_lt_of_le XA37.lt (Nat.le_of_eq g38.symm))))).other W44 (Ne.symm (Nat.ne_of_lt (Nat.lt_of_lt_of_le XA37.lt (Nat.le_of_eq g38.symm))))) (((((V_r0.ext E37).ext E38).other W40 (Nat.ne_of_lt (Nat.lt_of_lt_of_le (V_r0.ext E37).lt (Nat.le_of_eq g38.symm)))).other W42 (Nat.ne_of_lt (Nat.lt_of_lt_of_le V_r0.lt (Nat.le_of_eq g37.symm)))).other W44 (Nat.ne_of_lt (Nat.lt_of_lt_of_le V_r0.lt (Nat.le_of_eq g37.symm)))) hz) hZ (hw _ (List.mem_of_getElem? (i := 10) rfl)) (hw _ (List.mem_of_getElem? (i := 3) rfl)) (by decide) (by decide)) (g := (mkF m 18 #[.val (.ref r0)] [(.ref b37)])) rfl (by rw [hml]; rfl) (argsL := [(.ref b37)]) (rest := []) (lenOf own_pd114 rfl) rfl (by show 2 * 0 + _ ≤ _; exact Nat.le_of_eq rfl) (hb hby own_d1_18) (fun _ _ => ⟨rfl, e44, (by decide : 2 + 1 ≤ _), (by decide : 3 + 5 ≤ _)⟩)
  dsimp only [Pt.U, Pt.locs, Pt.cells, Pt.slots] at X45 l45 y45 z45 st45 hQ45
  subst l45 y45 z45
  obtain ⟨b45_y0, k45_z0, tl45_t0, rfl, N45q, K45, sz45_y0, f45_0, f45_1⟩ := hQ45
  have N45 := Fr.app N44 N45q
  have O45 := O44.keep K45 all0
  have g_b45_y0 : n0 ≤ b45_y0 := Nat.le_trans (Nat.le_trans (Nat.le_of_eq O44.1.symm) O44.2.1) sz45_y0
  have sz_b45_y0 : h0.size ≤ b45_y0 := Nat.le_trans K44.1 sz45_y0
  have KA45 := K44.trans K45 all0
  refine Go.st (V' := T45.setTop (mkF m 21 #[.val (.ref r0)] [(.ref b45_y0)])) (fun t k => st45 t k) ?_
  obtain ⟨fs, hr, hrun, hended, hW, hsame⟩ := X45.leave (v := some (.ref b45_y0)) (fun h => by rw [Bd.returns] at h; cases h)
  refine Go.mk' ⟨_, _, retOut X45 hx Bd.returns rfl (Or.inr (Or.inr (Or.inr (Or.inr ⟨rfl, rfl, rfl⟩)))) (hb hby own_d1_21) hr, hrun, hended, _, _, rfl, ?_, ⟨_, rfl⟩, hW, hsame.mono (by decide) (by decide)⟩
  show Q1 Z r0 k_r0 z_r0 v0_r0 vs_r0 h0 n0 _ T45.heap _
  exact ⟨b45_y0, k45_z0, tl45_t0, rfl, N45, KA45, sz_b45_y0, f45_0, f45_1⟩
theorem own_d6_0 : decode prog_132_method_5_code 0 = .ok (.iconst 2, 1) := by decide +kernel
theorem own_d6_1 : decode prog_132_method_5_code 1 = .ok (.anewarray 19, 3) := by decide +kernel
theorem own_d6_4 : decode prog_132_method_5_code 4 = .ok (.dup, 1) := by decide +kernel
theorem own_d6_5 : decode prog_132_method_5_code 5 = .ok (.iconst 0, 1) := by decide +kernel
theorem own_d6_6 : decode prog_132_method_5_code 6 = .ok (.iconst 1, 1) := by decide +kernel
theorem own_d6_7 : decode prog_132_method_5_code 7 = .ok (.newarray .byte, 2) := by decide +kernel
theorem own_d6_9 : decode prog_132_method_5_code 9 = .ok (.dup, 1) := by decide +kernel
theorem own_d6_10 : decode prog_132_method_5_code 10 = .ok (.iconst 0, 1) := by decide +kernel
theorem own_d6_11 : decode prog_132_method_5_code 11 = .ok (.iconst 4, 1) := by decide +kernel
theorem own_d6_12 : decode prog_132_method_5_code 12 = .ok (.bastore, 1) := by decide +kernel
theorem own_d6_13 : decode prog_132_method_5_code 13 = .ok (.aastore, 1) := by decide +kernel
theorem own_d6_14 : decode prog_132_method_5_code 14 = .ok (.dup, 1) := by decide +kernel
theorem own_d6_15 : decode prog_132_method_5_code 15 = .ok (.iconst 1, 1) := by decide +kernel
theorem own_d6_16 : decode prog_132_method_5_code 16 = .ok (.aload_n 0, 1) := by decide +kernel
theorem own_d6_17 : decode prog_132_method_5_code 17 = .ok (.aastore, 1) := by decide +kernel
theorem own_d6_18 : decode prog_132_method_5_code 18 = .ok (.invokestatic 21, 3) := by decide +kernel
theorem own_d6_21 : decode prog_132_method_5_code 21 = .ok (.areturn, 1) := by decide +kernel
theorem ef6 (m : MethodId) (r0 : Addr) : entryFrame m #[(.ref r0)] 1 = mkF m 0 #[.val (.ref r0)] [] := by first | (simp [entryFrame, mkF, argsToLocals, Value.category]; done) | rfl
def Q6 (Z : State) (r0 : Addr) (k_r0 : ClassId) (z_r0 : Int32) (v0_r0 : Int32) (vs_r0 : List Value) (h0 : Heap) (n0 : Nat) (v : Option Value) (h : Heap) (L : List Loc) : Prop := ∃ y0 : Addr, ∃ z0 : ClassId, ∃ t0 : List Value, v = some (.ref y0) ∧ Fr n0 L ∧ Keep h0 h [] ∧ h0.size ≤ y0 ∧ Exa Z h y0 "[B" ∧ Arv Z h y0 z0 .byte (((0 : Int32) + (1 : Int32)) + z_r0) ((.int (4 : Int32)) :: t0) (.int (0 : Int32))
set_option maxRecDepth 65536 in
set_option maxHeartbeats 40000000 in
theorem rm6 (l : Launch) (Z : State) (a0 : Array Value) (hw : ∀ d ∈ tables_1, d.before a0 Z = true) (ws : List Jvm.Cond) (r0 : Addr) (k_r0 : ClassId) (z_r0 : Int32) (v0_r0 : Int32) (vs_r0 : List Value) (h0 : Heap) (n0 : Nat) (O0 : Old Z n0 h0) (V_r0 : Arv Z h0 r0 k_r0 .byte z_r0 ((.int v0_r0) :: vs_r0) (.int (0 : Int32))) (hz : 0 < z_r0.toInt ∧ z_r0.toInt ≤ 4) (E_r0 : Exa Z h0 r0 "[B") :
    MetFree l (⟨"com/example/rooted_kinds/rootedkinds/storage/Rows", "groupVersion", "([B)[B"⟩ : MethodName) (head1 (Jvm.Cond.code (⟨"com/example/rooted_kinds/rootedkinds/storage/Rows", "groupVersion", "([B)[B"⟩ : MethodName) prog_132_method_5_code 1 (some (.array .byte)) :: ws) ({ frames := 2, cells := 3, slots := 8, locals := 37 } : Room)) (fun a U => a = #[(.ref r0)] ∧ Z.Warmed39 U.vm ∧ U.heap = h0) (fun _ _ _ _ _ => True) (fun _ U o U' => ∃ v L, o = .returned v ∧ Q6 Z r0 k_r0 z_r0 v0_r0 vs_r0 h0 n0 v U'.heap L ∧ FrameEnd U o U' L ({ frames := 2, cells := 3, slots := 8, locals := 37 } : Room).cells ({ frames := 2, cells := 3, slots := 8, locals := 37 } : Room).slots) := by
  refine MetFree.of_bodySF (plainFor_of_name own_pn0) hisR ?_
  intro p e s m args below meth c s₁ Bd hml0 hP hK
  obtain ⟨rfl, hZ, hh⟩ := hP
  have hx := Bd.exec
  have hby := Bd.bytes
  have hml : c.maxLocals = 1 := hml0
  have hown : s.vm.findClass "com/example/rooted_kinds/rootedkinds/storage/Rows" = some m.cls := findClass_of_methodNamed Bd.named
  have hnm := (name_of_methodNamed Bd.named Bd.method).1
  have X0 : Stand p l e ({ frames := 2, cells := 3, slots := 8, locals := 37 } : Room) s m #[(.ref r0)] below meth c s₁ [] 0 0 := Stand.of_body Bd
  have e0 : s₁.heap = h0 := by rw [← hh, Bd.state]; rfl
  have N0 := Fr.nil n0
  have K0 := Keep.refl h0 []
  refine Go.out ?_
  refine Go.st (V' := s₁.setTop (mkF m 0 #[.val (.ref r0)] [])) (fun t k => castTop (ef6 m r0) k) ?_
  refine Go.st (V' := s₁.setTop (mkF m 1 #[.val (.ref r0)] [(.int (2 : Int32))])) (fun t k => ?_) ?_
  · refine XS.iconst X0.here hx rfl (hb hby own_d6_0) ?_
    show Steps p.tables e below (s₁.setTop (mkF m 1 #[.val (.ref r0)] [(.int (2 : Int32))])) _
    exact k
  obtain ⟨T46, h46, k46, X46, e46, E46, A46, XA46, Ov46, st46⟩ := newRA X0 hx hZ hown (ty := .byte) (C := "[B") (by decide) (hw _ (List.mem_of_getElem? (i := 5) rfl)) (hw _ (List.mem_of_getElem? (i := 6) rfl)) e0 (g := (mkF m 1 #[.val (.ref r0)] [(.int (2 : Int32))])) rfl (hb hby own_d6_1) rfl (by decide) (cap := 2) (by decide) (by decide) (by decide) (by decide) (ad := "[[B") (by decide)
  obtain ⟨b46, g46⟩ : ∃ z, z = h0.size := ⟨_, rfl⟩
  rw [← g46] at A46 XA46 st46
  have g_b46 : n0 ≤ b46 := Nat.le_trans (Nat.le_trans (Nat.le_of_eq O0.1.symm) O0.2.1) (Nat.le_of_eq g46.symm)
  have sz_b46 : h0.size ≤ b46 := Nat.le_trans K0.1 (Nat.le_of_eq g46.symm)
  have K46 := K0.ext E46
  have O46 := O0.ext E46
  have V46 : Arv Z h46 b46 k46 (.array .byte) (2 : Int32) [.null, .null] .null := (Arv.new A46 (by decide)).pad (pad_rep [] .null 2)
  refine Go.st (V' := T46.setTop (mkF m 4 #[.val (.ref r0)] [(.ref b46)])) (fun t k => st46 t k) ?_
  refine Go.st (V' := T46.setTop (mkF m 7 #[.val (.ref r0)] [(.int (1 : Int32)), (.int (0 : Int32)), (.ref b46), (.ref b46)])) (fun t k => ?_) ?_
  · refine XS.dup X46.here hx rfl (hb hby own_d6_4) rfl rfl ?_
    show Steps p.tables e below (T46.setTop (mkF m 5 #[.val (.ref r0)] [(.ref b46), (.ref b46)])) _
    refine XS.iconst X46.here hx rfl (hb hby own_d6_5) ?_
    show Steps p.tables e below (T46.setTop (mkF m 6 #[.val (.ref r0)] [(.int (0 : Int32)), (.ref b46), (.ref b46)])) _
    refine XS.iconst X46.here hx rfl (hb hby own_d6_6) ?_
    show Steps p.tables e below (T46.setTop (mkF m 7 #[.val (.ref r0)] [(.int (1 : Int32)), (.int (0 : Int32)), (.ref b46), (.ref b46)])) _
    exact k
  obtain ⟨T47, h47, k47, X47, e47, E47, A47, XA47, st47⟩ := newPE X46 hx hZ (hw _ (List.mem_of_getElem? (i := 0) rfl)) e46 (g := (mkF m 7 #[.val (.ref r0)] [(.int (1 : Int32)), (.int (0 : Int32)), (.ref b46), (.ref b46)])) rfl (hb hby own_d6_7) rfl (by decide) (cap := 1) (by decide) (by decide) (by decide) (by decide) (ad := "[B") (by decide)
  obtain ⟨b47, g47⟩ : ∃ z, z = h46.size := ⟨_, rfl⟩
  rw [← g47] at A47 XA47 st47
  have g_b47 : n0 ≤ b47 := Nat.le_trans (Nat.le_trans (Nat.le_of_eq O46.1.symm) O46.2.1) (Nat.le_of_eq g47.symm)
  have sz_b47 : h0.size ≤ b47 := Nat.le_trans K46.1 (Nat.le_of_eq g47.symm)
  have K47 := K46.ext E47
  have O47 := O46.ext E47
  have V47 : Arv Z h47 b47 k47 .byte (1 : Int32) [(.int (0 : Int32))] (.int (0 : Int32)) := (Arv.new A47 (by decide)).pad (pad_rep [] (.int (0 : Int32)) 1)
  refine Go.st (V' := T47.setTop (mkF m 9 #[.val (.ref r0)] [(.ref b47), (.int (0 : Int32)), (.ref b46), (.ref b46)])) (fun t k => st47 t k) ?_
  refine Go.st (V' := T47.setTop (mkF m 12 #[.val (.ref r0)] [(.int (4 : Int32)), (.int (0 : Int32)), (.ref b47), (.ref b47), (.int (0 : Int32)), (.ref b46), (.ref b46)])) (fun t k => ?_) ?_
  · refine XS.dup X47.here hx rfl (hb hby own_d6_9) rfl rfl ?_
    show Steps p.tables e below (T47.setTop (mkF m 10 #[.val (.ref r0)] [(.ref b47), (.ref b47), (.int (0 : Int32)), (.ref b46), (.ref b46)])) _
    refine XS.iconst X47.here hx rfl (hb hby own_d6_10) ?_
    show Steps p.tables e below (T47.setTop (mkF m 11 #[.val (.ref r0)] [(.int (0 : Int32)), (.ref b47), (.ref b47), (.int (0 : Int32)), (.ref b46), (.ref b46)])) _
    refine XS.iconst X47.here hx rfl (hb hby own_d6_11) ?_
    show Steps p.tables e below (T47.setTop (mkF m 12 #[.val (.ref r0)] [(.int (4 : Int32)), (.int (0 : Int32)), (.ref b47), (.ref b47), (.int (0 : Int32)), (.ref b46), (.ref b46)])) _
    exact k
  obtain ⟨cl48, Ar48, q48, Sz48, Nn48, Ha48, Ga48⟩ := id (V47)
  obtain ⟨T49, h49, X49, e49, W49, st49⟩ := stB X47 hx hZ e47 Ar48 (j := (0 : Int32)) (inb_of Sz48 ⟨by decide, by decide⟩) (g := (mkF m 12 #[.val (.ref r0)] [(.int (4 : Int32)), (.int (0 : Int32)), (.ref b47), (.ref b47), (.int (0 : Int32)), (.ref b46), (.ref b46)])) rfl rfl (hb hby own_d6_12)
  have V49 : Arv Z h49 b47 k47 .byte (1 : Int32) [(.int (4 : Int32))] (.int (0 : Int32)) := Arv.set Ar48 q48 Sz48 Nn48 Ha48 Ga48 (by decide) W49 0 rfl (Nat.le_of_ble_eq_true rfl)
  have O49 := O47.wr W49 g_b47
  have N49 := Fr.snoc X49 N0 g_b47
  have K49 := K47.wr W49 (Or.inr sz_b47)
  refine Go.st (V' := T49.setTop (mkF m 13 #[.val (.ref r0)] [(.ref b47), (.int (0 : Int32)), (.ref b46), (.ref b46)])) (fun t k => st49 t k) ?_
  obtain ⟨cl50, Ar50, q50, Sz50, Nn50, Ha50, Ga50⟩ := id (((V46.ext E47).other W49 (Nat.ne_of_lt (Nat.lt_of_lt_of_le V46.lt (Nat.le_of_eq g47.symm)))))
  obtain ⟨T51, h51, X51, e51, W51, st51⟩ := stR X49 hx hZ e49 Ar50 (j := (0 : Int32)) (inb_of Sz50 ⟨by decide, by decide⟩) rfl (Sto.ofVA Ar50 q50 Ov46 (Ins.self (XA47.wr W49))) (g := (mkF m 13 #[.val (.ref r0)] [(.ref b47), (.int (0 : Int32)), (.ref b46), (.ref b46)])) rfl rfl (hb hby own_d6_13)
  have V51 : Arv Z h51 b46 k46 (.array .byte) (2 : Int32) [(.ref b47), .null] .null := Arv.set Ar50 q50 Sz50 Nn50 Ha50 Ga50 rfl W51 0 rfl (Nat.le_of_ble_eq_true rfl)
  have O51 := O49.wr W51 g_b46
  have N51 := Fr.snoc X51 N49 g_b46
  have K51 := K49.wr W51 (Or.inr sz_b46)
  refine Go.st (V' := T51.setTop (mkF m 14 #[.val (.ref r0)] [(.ref b46)])) (fun t k => st51 t k) ?_
  refine Go.st (V' := T51.setTop (mkF m 17 #[.val (.ref r0)] [(.ref r0), (.int (1 : Int32)), (.ref b46), (.ref b46)])) (fun t k => ?_) ?_
  · refine XS.dup X51.here hx rfl (hb hby own_d6_14) rfl rfl ?_
    show Steps p.tables e below (T51.setTop (mkF m 15 #[.val (.ref r0)] [(.ref b46), (.ref b46)])) _
    refine XS.iconst X51.here hx rfl (hb hby own_d6_15) ?_
    show Steps p.tables e below (T51.setTop (mkF m 16 #[.val (.ref r0)] [(.int (1 : Int32)), (.ref b46), (.ref b46)])) _
    refine XS.aloadN X51.here hx rfl (hb hby own_d6_16) rfl rfl ?_
    show Steps p.tables e below (T51.setTop (mkF m 17 #[.val (.ref r0)] [(.ref r0), (.int (1 : Int32)), (.ref b46), (.ref b46)])) _
    exact k
  obtain ⟨cl52, Ar52, q52, Sz52, Nn52, Ha52, Ga52⟩ := id (V51)
  obtain ⟨T53, h53, X53, e53, W53, st53⟩ := stR X51 hx hZ e51 Ar52 (j := (1 : Int32)) (inb_of Sz52 ⟨by decide, by decide⟩) rfl (Sto.ofVA Ar52 q52 Ov46 (Ins.self ((((E_r0.ext E46).ext E47).wr W49).wr W51))) (g := (mkF m 17 #[.val (.ref r0)] [(.ref r0), (.int (1 : Int32)), (.ref b46), (.ref b46)])) rfl rfl (hb hby own_d6_17)
  have V53 : Arv Z h53 b46 k46 (.array .byte) (2 : Int32) [(.ref b47), (.ref r0)] .null := Arv.set Ar52 q52 Sz52 Nn52 Ha52 Ga52 rfl W53 1 rfl (Nat.le_of_ble_eq_true rfl)
  have O53 := O51.wr W53 g_b46
  have N53 := Fr.snoc X53 N51 g_b46
  have K53 := K51.wr W53 (Or.inr sz_b46)
  refine Go.st (V' := T53.setTop (mkF m 18 #[.val (.ref r0)] [(.ref b46)])) (fun t k => st53 t k) ?_
  obtain ⟨_, _, ⟨T54, L54, k54, n54⟩, -, X54, ⟨Lc54, hQ54, l54, y54, z54⟩, st54⟩ := Jvm.LawKit.callS X53 hx (y := (⟨"com/example/rooted_kinds/rootedkinds/storage/Rows", "join", "([[B)[B"⟩ : MethodName)) hown (mvT hZ (hw _ (List.mem_of_getElem? (i := 8) rfl))) (mvT hZ (hw _ (List.mem_of_getElem? (i := 9) rfl))) (mvT hZ (hw _ (List.mem_of_getElem? (i := 3) rfl))) (mvT hZ (hw _ (List.mem_of_getElem? (i := 10) rfl))) (by decide) (backOf (W := 0) (rm2 l Z a0 hw [] b46 b47 r0 (4 : Int32) k46 k47 k_r0 z_r0 v0_r0 vs_r0 h53 n0 O53 V53 ((V49.other W51 (Ne.symm (Nat.ne_of_lt (Nat.lt_of_lt_of_le XA46.lt (Nat.le_of_eq g47.symm))))).other W53 (Ne.symm (Nat.ne_of_lt (Nat.lt_of_lt_of_le XA46.lt (Nat.le_of_eq g47.symm))))) (((((V_r0.ext E46).ext E47).other W49 (Nat.ne_of_lt (Nat.lt_of_lt_of_le (V_r0.ext E46).lt (Nat.le_of_eq g47.symm)))).other W51 (Nat.ne_of_lt (Nat.lt_of_lt_of_le V_r0.lt (Nat.le_of_eq g46.symm)))).other W53 (Nat.ne_of_lt (Nat.lt_of_lt_of_le V_r0.lt (Nat.le_of_eq g46.symm)))) hz) hZ (hw _ (List.mem_of_getElem? (i := 10) rfl)) (hw _ (List.mem_of_getElem? (i := 3) rfl)) (by decide) (by decide)) (g := (mkF m 18 #[.val (.ref r0)] [(.ref b46)])) rfl (by rw [hml]; rfl) (argsL := [(.ref b46)]) (rest := []) (lenOf own_pd114 rfl) rfl (by show 2 * 0 + _ ≤ _; exact Nat.le_of_eq rfl) (hb hby own_d6_18) (fun _ _ => ⟨rfl, e53, (by decide : 2 + 1 ≤ _), (by decide : 3 + 5 ≤ _)⟩)
  dsimp only [Pt.U, Pt.locs, Pt.cells, Pt.slots] at X54 l54 y54 z54 st54 hQ54
  subst l54 y54 z54
  obtain ⟨b54_y0, k54_z0, tl54_t0, rfl, N54q, K54, sz54_y0, f54_0, f54_1⟩ := hQ54
  have N54 := Fr.app N53 N54q
  have O54 := O53.keep K54 all0
  have g_b54_y0 : n0 ≤ b54_y0 := Nat.le_trans (Nat.le_trans (Nat.le_of_eq O53.1.symm) O53.2.1) sz54_y0
  have sz_b54_y0 : h0.size ≤ b54_y0 := Nat.le_trans K53.1 sz54_y0
  have KA54 := K53.trans K54 all0
  refine Go.st (V' := T54.setTop (mkF m 21 #[.val (.ref r0)] [(.ref b54_y0)])) (fun t k => st54 t k) ?_
  obtain ⟨fs, hr, hrun, hended, hW, hsame⟩ := X54.leave (v := some (.ref b54_y0)) (fun h => by rw [Bd.returns] at h; cases h)
  refine Go.mk' ⟨_, _, retOut X54 hx Bd.returns rfl (Or.inr (Or.inr (Or.inr (Or.inr ⟨rfl, rfl, rfl⟩)))) (hb hby own_d6_21) hr, hrun, hended, _, _, rfl, ?_, ⟨_, rfl⟩, hW, hsame.mono (by decide) (by decide)⟩
  show Q6 Z r0 k_r0 z_r0 v0_r0 vs_r0 h0 n0 _ T54.heap _
  exact ⟨b54_y0, k54_z0, tl54_t0, rfl, N54, KA54, sz_b54_y0, f54_0, f54_1⟩
theorem own_pd133 : parseMethodDescriptor "([B)[B" = some ⟨[(.array .byte)], some (.array .byte)⟩ := by decide +kernel
theorem own_pd134 : parseMethodDescriptor "([B)Z" = some ⟨[(.array .byte)], some .boolean⟩ := by decide +kernel
theorem own_pn1 : plainName "com/example/rooted_kinds/rootedkinds/storage/RowsHoldsRecordPinLaw" = true := by first | (simp [plainName, overriddenIn]; done) | decide +kernel
theorem ef0 (m : MethodId) (p0 : Int32) (p1 : Int32) (p2 : Int32) (p3 : Int32) : entryFrame m #[(.int p0), (.int p1), (.int p2), (.int p3)] maxLocals = mkF m 0 #[.val (.int p0), .val (.int p1), .val (.int p2), .val (.int p3), .unset, .unset, .unset, .unset, .unset, .unset, .unset, .unset, .unset] [] := by first | (simp [entryFrame, mkF, argsToLocals, Value.category, maxLocals]; done) | rfl
def Q0 (Z : State) (p0 : Int32) (p1 : Int32) (p2 : Int32) (p3 : Int32) (h0 : Heap) (n0 : Nat) (v : Option Value) (h : Heap) (L : List Loc) : Prop := v = some (.int 1) ∧ Fr n0 L
set_option maxRecDepth 65536 in
set_option maxHeartbeats 40000000 in
theorem rm0 (l : Launch) (Z : State) (a0 : Array Value) (hw : ∀ d ∈ tables_1, d.before a0 Z = true) (ws : List Jvm.Cond) (p0 : Int32) (p1 : Int32) (p2 : Int32) (p3 : Int32) (h0 : Heap) (n0 : Nat) (O0 : Old Z n0 h0) :
    MetFree l x (head1 (Jvm.Cond.code x code maxLocals ret :: ws) room_1) (fun a U => a = #[(.int p0), (.int p1), (.int p2), (.int p3)] ∧ Z.Warmed39 U.vm ∧ U.heap = h0) (fun _ _ _ _ _ => True) (fun _ U o U' => ∃ v L, o = .returned v ∧ Q0 Z p0 p1 p2 p3 h0 n0 v U'.heap L ∧ FrameEnd U o U' L room_1.cells room_1.slots) := by
  refine MetFree.of_bodySF (plainFor_of_name own_pn1) hisR ?_
  intro p e s m args below meth c s₁ Bd hml0 hP hK
  obtain ⟨rfl, hZ, hh⟩ := hP
  have hx := Bd.exec
  have hby := Bd.bytes
  have hml : c.maxLocals = 13 := hml0
  have hown : s.vm.findClass "com/example/rooted_kinds/rootedkinds/storage/RowsHoldsRecordPinLaw" = some m.cls := findClass_of_methodNamed Bd.named
  have hnm := (name_of_methodNamed Bd.named Bd.method).1
  have X0 : Stand p l e room_1 s m #[(.int p0), (.int p1), (.int p2), (.int p3)] below meth c s₁ [] 0 0 := Stand.of_body Bd
  have e0 : s₁.heap = h0 := by rw [← hh, Bd.state]; rfl
  have N0 := Fr.nil n0
  refine Go.out ?_
  refine Go.st (V' := s₁.setTop (mkF m 0 #[.val (.int p0), .val (.int p1), .val (.int p2), .val (.int p3), .unset, .unset, .unset, .unset, .unset, .unset, .unset, .unset, .unset] [])) (fun t k => castTop (ef0 m p0 p1 p2 p3) k) ?_
  refine Go.st (V' := s₁.setTop (mkF m 7 #[.val (.int p0), .val (.int p1), .val (.int p2), .val (.int p3), .val (.int ((1 : Int32) + (p3 &&& (3 : Int32)))), .unset, .unset, .unset, .unset, .unset, .unset, .unset, .unset] [])) (fun t k => ?_) ?_
  · refine XS.iconst X0.here hx rfl (hb hby at_0) ?_
    show Steps p.tables e below (s₁.setTop (mkF m 1 #[.val (.int p0), .val (.int p1), .val (.int p2), .val (.int p3), .unset, .unset, .unset, .unset, .unset, .unset, .unset, .unset, .unset] [(.int (1 : Int32))])) _
    refine XS.iloadN X0.here hx rfl (hb hby at_1) rfl  ?_
    show Steps p.tables e below (s₁.setTop (mkF m 2 #[.val (.int p0), .val (.int p1), .val (.int p2), .val (.int p3), .unset, .unset, .unset, .unset, .unset, .unset, .unset, .unset, .unset] [(.int p3), (.int (1 : Int32))])) _
    refine XS.iconst X0.here hx rfl (hb hby at_2) ?_
    show Steps p.tables e below (s₁.setTop (mkF m 3 #[.val (.int p0), .val (.int p1), .val (.int p2), .val (.int p3), .unset, .unset, .unset, .unset, .unset, .unset, .unset, .unset, .unset] [(.int (3 : Int32)), (.int p3), (.int (1 : Int32))])) _
    refine XS.iand X0.here hx rfl (hb hby at_3) rfl ?_
    show Steps p.tables e below (s₁.setTop (mkF m 4 #[.val (.int p0), .val (.int p1), .val (.int p2), .val (.int p3), .unset, .unset, .unset, .unset, .unset, .unset, .unset, .unset, .unset] [(.int (p3 &&& (3 : Int32))), (.int (1 : Int32))])) _
    refine XS.iadd X0.here hx rfl (hb hby at_4) rfl ?_
    show Steps p.tables e below (s₁.setTop (mkF m 5 #[.val (.int p0), .val (.int p1), .val (.int p2), .val (.int p3), .unset, .unset, .unset, .unset, .unset, .unset, .unset, .unset, .unset] [(.int ((1 : Int32) + (p3 &&& (3 : Int32))))])) _
    refine XS.istore X0.here hx rfl (hb hby at_5) rfl (l' := #[.val (.int p0), .val (.int p1), .val (.int p2), .val (.int p3), .val (.int ((1 : Int32) + (p3 &&& (3 : Int32)))), .unset, .unset, .unset, .unset, .unset, .unset, .unset, .unset]) rfl ?_
    show Steps p.tables e below (s₁.setTop (mkF m 7 #[.val (.int p0), .val (.int p1), .val (.int p2), .val (.int p3), .val (.int ((1 : Int32) + (p3 &&& (3 : Int32)))), .unset, .unset, .unset, .unset, .unset, .unset, .unset, .unset] [])) _
    exact k
  obtain ⟨n4, h_n4⟩ : ∃ z, z = ((1 : Int32) + (p3 &&& (3 : Int32))) := ⟨_, rfl⟩
  rw [← h_n4]
  have hz_n4 : 0 < n4.toInt ∧ n4.toInt ≤ 4 := by rw [h_n4]; exact own_n4 _
  refine Go.st (V' := s₁.setTop (mkF m 9 #[.val (.int p0), .val (.int p1), .val (.int p2), .val (.int p3), .val (.int n4), .unset, .unset, .unset, .unset, .unset, .unset, .unset, .unset] [(.int n4)])) (fun t k => ?_) ?_
  · refine XS.iload X0.here hx rfl (hb hby at_7) rfl  ?_
    show Steps p.tables e below (s₁.setTop (mkF m 9 #[.val (.int p0), .val (.int p1), .val (.int p2), .val (.int p3), .val (.int n4), .unset, .unset, .unset, .unset, .unset, .unset, .unset, .unset] [(.int n4)])) _
    exact k
  obtain ⟨T55, h55, k55, X55, e55, E55, A55, XA55, st55⟩ := newPE X0 hx hZ (hw _ (List.mem_of_getElem? (i := 0) rfl)) e0 (g := (mkF m 9 #[.val (.int p0), .val (.int p1), .val (.int p2), .val (.int p3), .val (.int n4), .unset, .unset, .unset, .unset, .unset, .unset, .unset, .unset] [(.int n4)])) rfl (hb hby at_9) rfl (own_nn hz_n4) (cap := 4) (own_cap hz_n4) (by decide) (by decide) (by decide) (ad := "[B") (by decide)
  obtain ⟨b55, g55⟩ : ∃ z, z = h0.size := ⟨_, rfl⟩
  rw [← g55] at A55 XA55 st55
  have g_b55 : n0 ≤ b55 := Nat.le_trans (Nat.le_trans (Nat.le_of_eq O0.1.symm) O0.2.1) (Nat.le_of_eq g55.symm)
  have O55 := O0.ext E55
  have V55 : Arv Z h55 b55 k55 .byte n4 [(.int (0 : Int32)), (.int (0 : Int32)), (.int (0 : Int32)), (.int (0 : Int32))] (.int (0 : Int32)) := (Arv.new A55 (own_nn hz_n4)).pad (pad_rep [] (.int (0 : Int32)) 4)
  refine Go.st (V' := T55.setTop (mkF m 11 #[.val (.int p0), .val (.int p1), .val (.int p2), .val (.int p3), .val (.int n4), .unset, .unset, .unset, .unset, .unset, .unset, .unset, .unset] [(.ref b55)])) (fun t k => st55 t k) ?_
  refine Go.st (V' := T55.setTop (mkF m 18 #[.val (.int p0), .val (.int p1), .val (.int p2), .val (.int p3), .val (.int n4), .val (.ref b55), .unset, .unset, .unset, .unset, .unset, .unset, .unset] [(.int (p0.toInt8.toInt32)), (.int (0 : Int32)), (.ref b55)])) (fun t k => ?_) ?_
  · refine XS.astore X55.here hx rfl (hb hby at_11) rfl rfl (l' := #[.val (.int p0), .val (.int p1), .val (.int p2), .val (.int p3), .val (.int n4), .val (.ref b55), .unset, .unset, .unset, .unset, .unset, .unset, .unset]) rfl ?_
    show Steps p.tables e below (T55.setTop (mkF m 13 #[.val (.int p0), .val (.int p1), .val (.int p2), .val (.int p3), .val (.int n4), .val (.ref b55), .unset, .unset, .unset, .unset, .unset, .unset, .unset] [])) _
    refine XS.aload X55.here hx rfl (hb hby at_13) rfl rfl ?_
    show Steps p.tables e below (T55.setTop (mkF m 15 #[.val (.int p0), .val (.int p1), .val (.int p2), .val (.int p3), .val (.int n4), .val (.ref b55), .unset, .unset, .unset, .unset, .unset, .unset, .unset] [(.ref b55)])) _
    refine XS.iconst X55.here hx rfl (hb hby at_15) ?_
    show Steps p.tables e below (T55.setTop (mkF m 16 #[.val (.int p0), .val (.int p1), .val (.int p2), .val (.int p3), .val (.int n4), .val (.ref b55), .unset, .unset, .unset, .unset, .unset, .unset, .unset] [(.int (0 : Int32)), (.ref b55)])) _
    refine XS.iloadN X55.here hx rfl (hb hby at_16) rfl  ?_
    show Steps p.tables e below (T55.setTop (mkF m 17 #[.val (.int p0), .val (.int p1), .val (.int p2), .val (.int p3), .val (.int n4), .val (.ref b55), .unset, .unset, .unset, .unset, .unset, .unset, .unset] [(.int p0), (.int (0 : Int32)), (.ref b55)])) _
    refine XS.i2b X55.here hx rfl (hb hby at_17) rfl ?_
    show Steps p.tables e below (T55.setTop (mkF m 18 #[.val (.int p0), .val (.int p1), .val (.int p2), .val (.int p3), .val (.int n4), .val (.ref b55), .unset, .unset, .unset, .unset, .unset, .unset, .unset] [(.int (p0.toInt8.toInt32)), (.int (0 : Int32)), (.ref b55)])) _
    exact k
  obtain ⟨cl56, Ar56, q56, Sz56, Nn56, Ha56, Ga56⟩ := id (V55)
  obtain ⟨T57, h57, X57, e57, W57, st57⟩ := stB X55 hx hZ e55 Ar56 (j := (0 : Int32)) (inb_of Sz56 ⟨by decide, own_z0 hz_n4⟩) (g := (mkF m 18 #[.val (.int p0), .val (.int p1), .val (.int p2), .val (.int p3), .val (.int n4), .val (.ref b55), .unset, .unset, .unset, .unset, .unset, .unset, .unset] [(.int (p0.toInt8.toInt32)), (.int (0 : Int32)), (.ref b55)])) rfl rfl (hb hby at_18)
  have V57 : Arv Z h57 b55 k55 .byte n4 [(.int (nar .byte (p0.toInt8.toInt32))), (.int (0 : Int32)), (.int (0 : Int32)), (.int (0 : Int32))] (.int (0 : Int32)) := Arv.set Ar56 q56 Sz56 Nn56 Ha56 Ga56 (fits_nar_byte _) W57 0 rfl (Nat.le_of_ble_eq_true rfl)
  have O57 := O55.wr W57 g_b55
  have N57 := Fr.snoc X57 N0 g_b55
  refine Go.st (V' := T57.setTop (mkF m 19 #[.val (.int p0), .val (.int p1), .val (.int p2), .val (.int p3), .val (.int n4), .val (.ref b55), .unset, .unset, .unset, .unset, .unset, .unset, .unset] [])) (fun t k => st57 t k) ?_
  have tail : ∀ (Tt : State) (ht : Heap) (lt : List Loc) (vst : List Value), Stand p l e room_1 s m #[(.int p0), (.int p1), (.int p2), (.int p3)] below meth c Tt lt 1 4 → Tt.heap = ht → Fr n0 lt → Old Z n0 ht → Arv Z ht b55 k55 .byte n4 ((.int (nar .byte (p0.toInt8.toInt32))) :: vst) (.int (0 : Int32)) → Exa Z ht b55 "[B" → Go p e below (fun o U' => ∃ v L, o = .returned v ∧ Q0 Z p0 p1 p2 p3 h0 n0 v U'.heap L ∧ FrameEnd s o U' L room_1.cells room_1.slots) (Tt.setTop (mkF m 57 #[.val (.int p0), .val (.int p1), .val (.int p2), .val (.int p3), .val (.int n4), .val (.ref b55), .unset, .unset, .unset, .unset, .unset, .unset, .unset] [])) := by
    intro Tt ht lt vst Xt et Nt Ot Vt Et
    refine Go.st (V' := Tt.setTop (mkF m 67 #[.val (.int p0), .val (.int p1), .val (.int p2), .val (.int p3), .val (.int n4), .val (.ref b55), .val (.int (p0 &&& (255 : Int32))), .unset, .unset, .unset, .unset, .unset, .unset] [(.int (2 : Int32)), (.int (p0 &&& (255 : Int32)))])) (fun t k => ?_) ?_
    · refine XS.iloadN Xt.here hx rfl (hb hby at_57) rfl  ?_
      show Steps p.tables e below (Tt.setTop (mkF m 58 #[.val (.int p0), .val (.int p1), .val (.int p2), .val (.int p3), .val (.int n4), .val (.ref b55), .unset, .unset, .unset, .unset, .unset, .unset, .unset] [(.int p0)])) _
      refine XS.sipush Xt.here hx rfl (hb hby at_58) ?_
      show Steps p.tables e below (Tt.setTop (mkF m 61 #[.val (.int p0), .val (.int p1), .val (.int p2), .val (.int p3), .val (.int n4), .val (.ref b55), .unset, .unset, .unset, .unset, .unset, .unset, .unset] [(.int (255 : Int32)), (.int p0)])) _
      refine XS.iand Xt.here hx rfl (hb hby at_61) rfl ?_
      show Steps p.tables e below (Tt.setTop (mkF m 62 #[.val (.int p0), .val (.int p1), .val (.int p2), .val (.int p3), .val (.int n4), .val (.ref b55), .unset, .unset, .unset, .unset, .unset, .unset, .unset] [(.int (p0 &&& (255 : Int32)))])) _
      refine XS.istore Xt.here hx rfl (hb hby at_62) rfl (l' := #[.val (.int p0), .val (.int p1), .val (.int p2), .val (.int p3), .val (.int n4), .val (.ref b55), .val (.int (p0 &&& (255 : Int32))), .unset, .unset, .unset, .unset, .unset, .unset]) rfl ?_
      show Steps p.tables e below (Tt.setTop (mkF m 64 #[.val (.int p0), .val (.int p1), .val (.int p2), .val (.int p3), .val (.int n4), .val (.ref b55), .val (.int (p0 &&& (255 : Int32))), .unset, .unset, .unset, .unset, .unset, .unset] [])) _
      refine XS.iload Xt.here hx rfl (hb hby at_64) rfl  ?_
      show Steps p.tables e below (Tt.setTop (mkF m 66 #[.val (.int p0), .val (.int p1), .val (.int p2), .val (.int p3), .val (.int n4), .val (.ref b55), .val (.int (p0 &&& (255 : Int32))), .unset, .unset, .unset, .unset, .unset, .unset] [(.int (p0 &&& (255 : Int32)))])) _
      refine XS.iconst Xt.here hx rfl (hb hby at_66) ?_
      show Steps p.tables e below (Tt.setTop (mkF m 67 #[.val (.int p0), .val (.int p1), .val (.int p2), .val (.int p3), .val (.int n4), .val (.ref b55), .val (.int (p0 &&& (255 : Int32))), .unset, .unset, .unset, .unset, .unset, .unset] [(.int (2 : Int32)), (.int (p0 &&& (255 : Int32)))])) _
      exact k
    by_cases hc58 : (p0 &&& (255 : Int32)) = (2 : Int32)
    · refine Go.st (V' := Tt.setTop (mkF m 85 #[.val (.int p0), .val (.int p1), .val (.int p2), .val (.int p3), .val (.int n4), .val (.ref b55), .val (.int (p0 &&& (255 : Int32))), .val (.int (1 : Int32)), .unset, .unset, .unset, .unset, .unset] [(.ref b55)])) (fun t k => ?_) ?_
      · refine XS.icmpYes Xt.here hx rfl (pc0 := 67) (pc' := 76) rfl (hb hby at_67) rfl (teq hc58).1 (by decide) (by decide) ?_
        show Steps p.tables e below (Tt.setTop (mkF m 76 #[.val (.int p0), .val (.int p1), .val (.int p2), .val (.int p3), .val (.int n4), .val (.ref b55), .val (.int (p0 &&& (255 : Int32))), .unset, .unset, .unset, .unset, .unset, .unset] [])) _
        refine XS.iconst Xt.here hx rfl (hb hby at_76) ?_
        show Steps p.tables e below (Tt.setTop (mkF m 77 #[.val (.int p0), .val (.int p1), .val (.int p2), .val (.int p3), .val (.int n4), .val (.ref b55), .val (.int (p0 &&& (255 : Int32))), .unset, .unset, .unset, .unset, .unset, .unset] [(.int (1 : Int32))])) _
        refine XS.goto Xt.here hx rfl (pc0 := 77) (pc' := 81) rfl (hb hby at_77) (by decide) (by decide) ?_
        show Steps p.tables e below (Tt.setTop (mkF m 81 #[.val (.int p0), .val (.int p1), .val (.int p2), .val (.int p3), .val (.int n4), .val (.ref b55), .val (.int (p0 &&& (255 : Int32))), .unset, .unset, .unset, .unset, .unset, .unset] [(.int (1 : Int32))])) _
        refine XS.istore Xt.here hx rfl (hb hby at_81) rfl (l' := #[.val (.int p0), .val (.int p1), .val (.int p2), .val (.int p3), .val (.int n4), .val (.ref b55), .val (.int (p0 &&& (255 : Int32))), .val (.int (1 : Int32)), .unset, .unset, .unset, .unset, .unset]) rfl ?_
        show Steps p.tables e below (Tt.setTop (mkF m 83 #[.val (.int p0), .val (.int p1), .val (.int p2), .val (.int p3), .val (.int n4), .val (.ref b55), .val (.int (p0 &&& (255 : Int32))), .val (.int (1 : Int32)), .unset, .unset, .unset, .unset, .unset] [])) _
        refine XS.aload Xt.here hx rfl (hb hby at_83) rfl rfl ?_
        show Steps p.tables e below (Tt.setTop (mkF m 85 #[.val (.int p0), .val (.int p1), .val (.int p2), .val (.int p3), .val (.int n4), .val (.ref b55), .val (.int (p0 &&& (255 : Int32))), .val (.int (1 : Int32)), .unset, .unset, .unset, .unset, .unset] [(.ref b55)])) _
        exact k
      obtain ⟨_, _, ⟨T59, L59, k59, n59⟩, -, X59, ⟨Lc59, hQ59, l59, y59, z59⟩, st59⟩ := Jvm.LawKit.callS Xt hx (y := (⟨"com/example/rooted_kinds/rootedkinds/storage/Rows", "entity", "([B)[B"⟩ : MethodName)) hown (mvT hZ (hw _ (List.mem_of_getElem? (i := 1) rfl))) (mvT hZ (hw _ (List.mem_of_getElem? (i := 2) rfl))) (mvT hZ (hw _ (List.mem_of_getElem? (i := 3) rfl))) (mvT hZ (hw _ (List.mem_of_getElem? (i := 4) rfl))) (by decide) (backOf (W := 0) (rm1 l Z a0 hw [] b55 k55 n4 (nar .byte (p0.toInt8.toInt32)) vst ht n0 Ot Vt hz_n4 Et) hZ (hw _ (List.mem_of_getElem? (i := 4) rfl)) (hw _ (List.mem_of_getElem? (i := 3) rfl)) (by decide) (by decide)) (g := (mkF m 85 #[.val (.int p0), .val (.int p1), .val (.int p2), .val (.int p3), .val (.int n4), .val (.ref b55), .val (.int (p0 &&& (255 : Int32))), .val (.int (1 : Int32)), .unset, .unset, .unset, .unset, .unset] [(.ref b55)])) rfl (by rw [hml]; rfl) (argsL := [(.ref b55)]) (rest := []) (lenOf own_pd133 rfl) rfl (by show 2 * 0 + _ ≤ _; exact Nat.le_of_eq rfl) (hb hby at_85) (fun _ _ => ⟨rfl, et, (by decide : 1 + 3 ≤ _), (by decide : 4 + 8 ≤ _)⟩)
      dsimp only [Pt.U, Pt.locs, Pt.cells, Pt.slots] at X59 l59 y59 z59 st59 hQ59
      subst l59 y59 z59
      obtain ⟨b59_y0, k59_z0, tl59_t0, rfl, N59q, K59, sz59_y0, f59_0, f59_1⟩ := hQ59
      have N59 := Fr.app Nt N59q
      have O59 := Ot.keep K59 all0
      have g_b59_y0 : n0 ≤ b59_y0 := Nat.le_trans (Nat.le_trans (Nat.le_of_eq Ot.1.symm) Ot.2.1) sz59_y0
      refine Go.st (V' := T59.setTop (mkF m 88 #[.val (.int p0), .val (.int p1), .val (.int p2), .val (.int p3), .val (.int n4), .val (.ref b55), .val (.int (p0 &&& (255 : Int32))), .val (.int (1 : Int32)), .unset, .unset, .unset, .unset, .unset] [(.ref b59_y0)])) (fun t k => st59 t k) ?_
      refine Go.st (V' := T59.setTop (mkF m 92 #[.val (.int p0), .val (.int p1), .val (.int p2), .val (.int p3), .val (.int n4), .val (.ref b55), .val (.int (p0 &&& (255 : Int32))), .val (.int (1 : Int32)), .val (.ref b59_y0), .unset, .unset, .unset, .unset] [(.ref b55)])) (fun t k => ?_) ?_
      · refine XS.astore X59.here hx rfl (hb hby at_88) rfl rfl (l' := #[.val (.int p0), .val (.int p1), .val (.int p2), .val (.int p3), .val (.int n4), .val (.ref b55), .val (.int (p0 &&& (255 : Int32))), .val (.int (1 : Int32)), .val (.ref b59_y0), .unset, .unset, .unset, .unset]) rfl ?_
        show Steps p.tables e below (T59.setTop (mkF m 90 #[.val (.int p0), .val (.int p1), .val (.int p2), .val (.int p3), .val (.int n4), .val (.ref b55), .val (.int (p0 &&& (255 : Int32))), .val (.int (1 : Int32)), .val (.ref b59_y0), .unset, .unset, .unset, .unset] [])) _
        refine XS.aload X59.here hx rfl (hb hby at_90) rfl rfl ?_
        show Steps p.tables e below (T59.setTop (mkF m 92 #[.val (.int p0), .val (.int p1), .val (.int p2), .val (.int p3), .val (.int n4), .val (.ref b55), .val (.int (p0 &&& (255 : Int32))), .val (.int (1 : Int32)), .val (.ref b59_y0), .unset, .unset, .unset, .unset] [(.ref b55)])) _
        exact k
      obtain ⟨_, _, ⟨T60, L60, k60, n60⟩, -, X60, ⟨Lc60, hQ60, l60, y60, z60⟩, st60⟩ := Jvm.LawKit.callS X59 hx (y := (⟨"com/example/rooted_kinds/rootedkinds/storage/Rows", "propertyNames", "([B)[B"⟩ : MethodName)) hown (mvT hZ (hw _ (List.mem_of_getElem? (i := 15) rfl))) (mvT hZ (hw _ (List.mem_of_getElem? (i := 16) rfl))) (mvT hZ (hw _ (List.mem_of_getElem? (i := 3) rfl))) (mvT hZ (hw _ (List.mem_of_getElem? (i := 17) rfl))) (by decide) (backOf (W := 0) (rm3 l Z a0 hw [] b55 k55 n4 (nar .byte (p0.toInt8.toInt32)) vst T59.heap n0 O59 (Vt.keep K59 nin0) hz_n4 (Et.keep K59)) hZ (hw _ (List.mem_of_getElem? (i := 17) rfl)) (hw _ (List.mem_of_getElem? (i := 3) rfl)) (by decide) (by decide)) (g := (mkF m 92 #[.val (.int p0), .val (.int p1), .val (.int p2), .val (.int p3), .val (.int n4), .val (.ref b55), .val (.int (p0 &&& (255 : Int32))), .val (.int (1 : Int32)), .val (.ref b59_y0), .unset, .unset, .unset, .unset] [(.ref b55)])) rfl (by rw [hml]; rfl) (argsL := [(.ref b55)]) (rest := []) (lenOf own_pd133 rfl) rfl (by show 2 * 0 + _ ≤ _; exact Nat.le_of_eq rfl) (hb hby at_92) (fun _ _ => ⟨rfl, rfl, (by decide : 4 + 1 ≤ _), (by decide : 12 + 4 ≤ _)⟩)
      dsimp only [Pt.U, Pt.locs, Pt.cells, Pt.slots] at X60 l60 y60 z60 st60 hQ60
      subst l60 y60 z60
      obtain ⟨b60_y0, rfl, N60q, K60, sz60_y0, f60_0, f60_1⟩ := hQ60
      have N60 := Fr.app N59 N60q
      have O60 := O59.keep K60 all0
      have g_b60_y0 : n0 ≤ b60_y0 := Nat.le_trans (Nat.le_trans (Nat.le_of_eq O59.1.symm) O59.2.1) sz60_y0
      refine Go.st (V' := T60.setTop (mkF m 95 #[.val (.int p0), .val (.int p1), .val (.int p2), .val (.int p3), .val (.int n4), .val (.ref b55), .val (.int (p0 &&& (255 : Int32))), .val (.int (1 : Int32)), .val (.ref b59_y0), .unset, .unset, .unset, .unset] [(.ref b60_y0)])) (fun t k => st60 t k) ?_
      refine Go.st (V' := T60.setTop (mkF m 99 #[.val (.int p0), .val (.int p1), .val (.int p2), .val (.int p3), .val (.int n4), .val (.ref b55), .val (.int (p0 &&& (255 : Int32))), .val (.int (1 : Int32)), .val (.ref b59_y0), .val (.ref b60_y0), .unset, .unset, .unset] [(.ref b55)])) (fun t k => ?_) ?_
      · refine XS.astore X60.here hx rfl (hb hby at_95) rfl rfl (l' := #[.val (.int p0), .val (.int p1), .val (.int p2), .val (.int p3), .val (.int n4), .val (.ref b55), .val (.int (p0 &&& (255 : Int32))), .val (.int (1 : Int32)), .val (.ref b59_y0), .val (.ref b60_y0), .unset, .unset, .unset]) rfl ?_
        show Steps p.tables e below (T60.setTop (mkF m 97 #[.val (.int p0), .val (.int p1), .val (.int p2), .val (.int p3), .val (.int n4), .val (.ref b55), .val (.int (p0 &&& (255 : Int32))), .val (.int (1 : Int32)), .val (.ref b59_y0), .val (.ref b60_y0), .unset, .unset, .unset] [])) _
        refine XS.aload X60.here hx rfl (hb hby at_97) rfl rfl ?_
        show Steps p.tables e below (T60.setTop (mkF m 99 #[.val (.int p0), .val (.int p1), .val (.int p2), .val (.int p3), .val (.int n4), .val (.ref b55), .val (.int (p0 &&& (255 : Int32))), .val (.int (1 : Int32)), .val (.ref b59_y0), .val (.ref b60_y0), .unset, .unset, .unset] [(.ref b55)])) _
        exact k
      obtain ⟨_, _, ⟨T61, L61, k61, n61⟩, -, X61, ⟨Lc61, hQ61, l61, y61, z61⟩, st61⟩ := Jvm.LawKit.callS X60 hx (y := (⟨"com/example/rooted_kinds/rootedkinds/storage/Rows", "counts", "([B)[B"⟩ : MethodName)) hown (mvT hZ (hw _ (List.mem_of_getElem? (i := 28) rfl))) (mvT hZ (hw _ (List.mem_of_getElem? (i := 29) rfl))) (mvT hZ (hw _ (List.mem_of_getElem? (i := 3) rfl))) (mvT hZ (hw _ (List.mem_of_getElem? (i := 30) rfl))) (by decide) (backOf (W := 0) (rm5y l Z a0 hw [] b55 k55 n4 (nar .byte (p0.toInt8.toInt32)) vst T60.heap n0 O60 ((Vt.keep K59 nin0).keep K60 nin0) hz_n4 ((own_b p0 (2 : Int32) (by decide)).mpr hc58) ((Et.keep K59).keep K60)) hZ (hw _ (List.mem_of_getElem? (i := 30) rfl)) (hw _ (List.mem_of_getElem? (i := 3) rfl)) (by decide) (by decide)) (g := (mkF m 99 #[.val (.int p0), .val (.int p1), .val (.int p2), .val (.int p3), .val (.int n4), .val (.ref b55), .val (.int (p0 &&& (255 : Int32))), .val (.int (1 : Int32)), .val (.ref b59_y0), .val (.ref b60_y0), .unset, .unset, .unset] [(.ref b55)])) rfl (by rw [hml]; rfl) (argsL := [(.ref b55)]) (rest := []) (lenOf own_pd133 rfl) rfl (by show 2 * 0 + _ ≤ _; exact Nat.le_of_eq rfl) (hb hby at_99) (fun _ _ => ⟨rfl, rfl, (by decide : 5 + 1 ≤ _), (by decide : 16 + 4 ≤ _)⟩)
      dsimp only [Pt.U, Pt.locs, Pt.cells, Pt.slots] at X61 l61 y61 z61 st61 hQ61
      subst l61 y61 z61
      obtain ⟨b61_y0, rfl, N61q, K61, sz61_y0, f61_0, f61_1⟩ := hQ61
      have N61 := Fr.app N60 N61q
      have O61 := O60.keep K61 all0
      have g_b61_y0 : n0 ≤ b61_y0 := Nat.le_trans (Nat.le_trans (Nat.le_of_eq O60.1.symm) O60.2.1) sz61_y0
      refine Go.st (V' := T61.setTop (mkF m 102 #[.val (.int p0), .val (.int p1), .val (.int p2), .val (.int p3), .val (.int n4), .val (.ref b55), .val (.int (p0 &&& (255 : Int32))), .val (.int (1 : Int32)), .val (.ref b59_y0), .val (.ref b60_y0), .unset, .unset, .unset] [(.ref b61_y0)])) (fun t k => st61 t k) ?_
      refine Go.st (V' := T61.setTop (mkF m 106 #[.val (.int p0), .val (.int p1), .val (.int p2), .val (.int p3), .val (.int n4), .val (.ref b55), .val (.int (p0 &&& (255 : Int32))), .val (.int (1 : Int32)), .val (.ref b59_y0), .val (.ref b60_y0), .val (.ref b61_y0), .unset, .unset] [(.ref b55)])) (fun t k => ?_) ?_
      · refine XS.astore X61.here hx rfl (hb hby at_102) rfl rfl (l' := #[.val (.int p0), .val (.int p1), .val (.int p2), .val (.int p3), .val (.int n4), .val (.ref b55), .val (.int (p0 &&& (255 : Int32))), .val (.int (1 : Int32)), .val (.ref b59_y0), .val (.ref b60_y0), .val (.ref b61_y0), .unset, .unset]) rfl ?_
        show Steps p.tables e below (T61.setTop (mkF m 104 #[.val (.int p0), .val (.int p1), .val (.int p2), .val (.int p3), .val (.int n4), .val (.ref b55), .val (.int (p0 &&& (255 : Int32))), .val (.int (1 : Int32)), .val (.ref b59_y0), .val (.ref b60_y0), .val (.ref b61_y0), .unset, .unset] [])) _
        refine XS.aload X61.here hx rfl (hb hby at_104) rfl rfl ?_
        show Steps p.tables e below (T61.setTop (mkF m 106 #[.val (.int p0), .val (.int p1), .val (.int p2), .val (.int p3), .val (.int n4), .val (.ref b55), .val (.int (p0 &&& (255 : Int32))), .val (.int (1 : Int32)), .val (.ref b59_y0), .val (.ref b60_y0), .val (.ref b61_y0), .unset, .unset] [(.ref b55)])) _
        exact k
      obtain ⟨_, _, ⟨T62, L62, k62, n62⟩, -, X62, ⟨Lc62, hQ62, l62, y62, z62⟩, st62⟩ := Jvm.LawKit.callS X61 hx (y := (⟨"com/example/rooted_kinds/rootedkinds/storage/Rows", "groupVersion", "([B)[B"⟩ : MethodName)) hown (mvT hZ (hw _ (List.mem_of_getElem? (i := 31) rfl))) (mvT hZ (hw _ (List.mem_of_getElem? (i := 32) rfl))) (mvT hZ (hw _ (List.mem_of_getElem? (i := 3) rfl))) (mvT hZ (hw _ (List.mem_of_getElem? (i := 33) rfl))) (by decide) (backOf (W := 0) (rm6 l Z a0 hw [] b55 k55 n4 (nar .byte (p0.toInt8.toInt32)) vst T61.heap n0 O61 (((Vt.keep K59 nin0).keep K60 nin0).keep K61 nin0) hz_n4 (((Et.keep K59).keep K60).keep K61)) hZ (hw _ (List.mem_of_getElem? (i := 33) rfl)) (hw _ (List.mem_of_getElem? (i := 3) rfl)) (by decide) (by decide)) (g := (mkF m 106 #[.val (.int p0), .val (.int p1), .val (.int p2), .val (.int p3), .val (.int n4), .val (.ref b55), .val (.int (p0 &&& (255 : Int32))), .val (.int (1 : Int32)), .val (.ref b59_y0), .val (.ref b60_y0), .val (.ref b61_y0), .unset, .unset] [(.ref b55)])) rfl (by rw [hml]; rfl) (argsL := [(.ref b55)]) (rest := []) (lenOf own_pd133 rfl) rfl (by show 2 * 0 + _ ≤ _; exact Nat.le_of_eq rfl) (hb hby at_106) (fun _ _ => ⟨rfl, rfl, (by decide : 6 + 3 ≤ _), (by decide : 20 + 8 ≤ _)⟩)
      dsimp only [Pt.U, Pt.locs, Pt.cells, Pt.slots] at X62 l62 y62 z62 st62 hQ62
      subst l62 y62 z62
      obtain ⟨b62_y0, k62_z0, tl62_t0, rfl, N62q, K62, sz62_y0, f62_0, f62_1⟩ := hQ62
      have N62 := Fr.app N61 N62q
      have O62 := O61.keep K62 all0
      have g_b62_y0 : n0 ≤ b62_y0 := Nat.le_trans (Nat.le_trans (Nat.le_of_eq O61.1.symm) O61.2.1) sz62_y0
      refine Go.st (V' := T62.setTop (mkF m 109 #[.val (.int p0), .val (.int p1), .val (.int p2), .val (.int p3), .val (.int n4), .val (.ref b55), .val (.int (p0 &&& (255 : Int32))), .val (.int (1 : Int32)), .val (.ref b59_y0), .val (.ref b60_y0), .val (.ref b61_y0), .unset, .unset] [(.ref b62_y0)])) (fun t k => st62 t k) ?_
      refine Go.st (V' := T62.setTop (mkF m 113 #[.val (.int p0), .val (.int p1), .val (.int p2), .val (.int p3), .val (.int n4), .val (.ref b55), .val (.int (p0 &&& (255 : Int32))), .val (.int (1 : Int32)), .val (.ref b59_y0), .val (.ref b60_y0), .val (.ref b61_y0), .val (.ref b62_y0), .unset] [(.ref b55)])) (fun t k => ?_) ?_
      · refine XS.astore X62.here hx rfl (hb hby at_109) rfl rfl (l' := #[.val (.int p0), .val (.int p1), .val (.int p2), .val (.int p3), .val (.int n4), .val (.ref b55), .val (.int (p0 &&& (255 : Int32))), .val (.int (1 : Int32)), .val (.ref b59_y0), .val (.ref b60_y0), .val (.ref b61_y0), .val (.ref b62_y0), .unset]) rfl ?_
        show Steps p.tables e below (T62.setTop (mkF m 111 #[.val (.int p0), .val (.int p1), .val (.int p2), .val (.int p3), .val (.int n4), .val (.ref b55), .val (.int (p0 &&& (255 : Int32))), .val (.int (1 : Int32)), .val (.ref b59_y0), .val (.ref b60_y0), .val (.ref b61_y0), .val (.ref b62_y0), .unset] [])) _
        refine XS.aload X62.here hx rfl (hb hby at_111) rfl rfl ?_
        show Steps p.tables e below (T62.setTop (mkF m 113 #[.val (.int p0), .val (.int p1), .val (.int p2), .val (.int p3), .val (.int n4), .val (.ref b55), .val (.int (p0 &&& (255 : Int32))), .val (.int (1 : Int32)), .val (.ref b59_y0), .val (.ref b60_y0), .val (.ref b61_y0), .val (.ref b62_y0), .unset] [(.ref b55)])) _
        exact k
      obtain ⟨_, _, ⟨T63, L63, k63, n63⟩, -, X63, ⟨Lc63, hQ63, l63, y63, z63⟩, st63⟩ := Jvm.LawKit.callS X62 hx (y := (⟨"com/example/rooted_kinds/rootedkinds/storage/Rows", "holdsRecord", "([B)Z"⟩ : MethodName)) hown (mvT hZ (hw _ (List.mem_of_getElem? (i := 34) rfl))) (mvT hZ (hw _ (List.mem_of_getElem? (i := 35) rfl))) (mvT hZ (hw _ (List.mem_of_getElem? (i := 3) rfl))) (mvT hZ (hw _ (List.mem_of_getElem? (i := 36) rfl))) (by decide) (backOf (W := 0) (rm7 l Z a0 hw [] b55 k55 n4 (nar .byte (p0.toInt8.toInt32)) vst T62.heap n0 O62 ((((Vt.keep K59 nin0).keep K60 nin0).keep K61 nin0).keep K62 nin0) (own_z0 hz_n4)) hZ (hw _ (List.mem_of_getElem? (i := 36) rfl)) (hw _ (List.mem_of_getElem? (i := 3) rfl)) (by decide) (by decide)) (g := (mkF m 113 #[.val (.int p0), .val (.int p1), .val (.int p2), .val (.int p3), .val (.int n4), .val (.ref b55), .val (.int (p0 &&& (255 : Int32))), .val (.int (1 : Int32)), .val (.ref b59_y0), .val (.ref b60_y0), .val (.ref b61_y0), .val (.ref b62_y0), .unset] [(.ref b55)])) rfl (by rw [hml]; rfl) (argsL := [(.ref b55)]) (rest := []) (lenOf own_pd134 rfl) rfl (by show 2 * 0 + _ ≤ _; exact Nat.le_of_eq rfl) (hb hby at_113) (fun _ _ => ⟨rfl, rfl, (by decide : 9 + 0 ≤ _), (by decide : 28 + 0 ≤ _)⟩)
      dsimp only [Pt.U, Pt.locs, Pt.cells, Pt.slots] at X63 l63 y63 z63 st63 hQ63
      subst l63 y63 z63
      obtain ⟨rfl, N63q, e63⟩ := hQ63
      have N63 := Fr.app N62 N63q
      refine Go.st (V' := T63.setTop (mkF m 116 #[.val (.int p0), .val (.int p1), .val (.int p2), .val (.int p3), .val (.int n4), .val (.ref b55), .val (.int (p0 &&& (255 : Int32))), .val (.int (1 : Int32)), .val (.ref b59_y0), .val (.ref b60_y0), .val (.ref b61_y0), .val (.ref b62_y0), .unset] [(.int (f7 (nar .byte (p0.toInt8.toInt32))))])) (fun t k => st63 t k) ?_
      have r64 : (f7 (nar .byte (p0.toInt8.toInt32))) = (1 : Int32) := by rw [f7, if_pos ((own_b p0 (2 : Int32) (by decide)).mpr hc58)]
      rw [r64]
      refine Go.st (V' := T63.setTop (mkF m 127 #[.val (.int p0), .val (.int p1), .val (.int p2), .val (.int p3), .val (.int n4), .val (.ref b55), .val (.int (p0 &&& (255 : Int32))), .val (.int (1 : Int32)), .val (.ref b59_y0), .val (.ref b60_y0), .val (.ref b61_y0), .val (.ref b62_y0), .val (.int (1 : Int32))] [(.ref b59_y0)])) (fun t k => ?_) ?_
      · refine XS.istore X63.here hx rfl (hb hby at_116) rfl (l' := #[.val (.int p0), .val (.int p1), .val (.int p2), .val (.int p3), .val (.int n4), .val (.ref b55), .val (.int (p0 &&& (255 : Int32))), .val (.int (1 : Int32)), .val (.ref b59_y0), .val (.ref b60_y0), .val (.ref b61_y0), .val (.ref b62_y0), .val (.int (1 : Int32))]) rfl ?_
        show Steps p.tables e below (T63.setTop (mkF m 118 #[.val (.int p0), .val (.int p1), .val (.int p2), .val (.int p3), .val (.int n4), .val (.ref b55), .val (.int (p0 &&& (255 : Int32))), .val (.int (1 : Int32)), .val (.ref b59_y0), .val (.ref b60_y0), .val (.ref b61_y0), .val (.ref b62_y0), .val (.int (1 : Int32))] [])) _
        refine XS.iload X63.here hx rfl (hb hby at_118) rfl  ?_
        show Steps p.tables e below (T63.setTop (mkF m 120 #[.val (.int p0), .val (.int p1), .val (.int p2), .val (.int p3), .val (.int n4), .val (.ref b55), .val (.int (p0 &&& (255 : Int32))), .val (.int (1 : Int32)), .val (.ref b59_y0), .val (.ref b60_y0), .val (.ref b61_y0), .val (.ref b62_y0), .val (.int (1 : Int32))] [(.int (1 : Int32))])) _
        refine XS.iload X63.here hx rfl (hb hby at_120) rfl  ?_
        show Steps p.tables e below (T63.setTop (mkF m 122 #[.val (.int p0), .val (.int p1), .val (.int p2), .val (.int p3), .val (.int n4), .val (.ref b55), .val (.int (p0 &&& (255 : Int32))), .val (.int (1 : Int32)), .val (.ref b59_y0), .val (.ref b60_y0), .val (.ref b61_y0), .val (.ref b62_y0), .val (.int (1 : Int32))] [(.int (1 : Int32)), (.int (1 : Int32))])) _
        refine XS.icmpNo X63.here hx rfl (hb hby at_122) rfl (teq (by decide : ((1 : Int32) = (1 : Int32)))).2 ?_
        show Steps p.tables e below (T63.setTop (mkF m 125 #[.val (.int p0), .val (.int p1), .val (.int p2), .val (.int p3), .val (.int n4), .val (.ref b55), .val (.int (p0 &&& (255 : Int32))), .val (.int (1 : Int32)), .val (.ref b59_y0), .val (.ref b60_y0), .val (.ref b61_y0), .val (.ref b62_y0), .val (.int (1 : Int32))] [])) _
        refine XS.aload X63.here hx rfl (hb hby at_125) rfl rfl ?_
        show Steps p.tables e below (T63.setTop (mkF m 127 #[.val (.int p0), .val (.int p1), .val (.int p2), .val (.int p3), .val (.int n4), .val (.ref b55), .val (.int (p0 &&& (255 : Int32))), .val (.int (1 : Int32)), .val (.ref b59_y0), .val (.ref b60_y0), .val (.ref b61_y0), .val (.ref b62_y0), .val (.int (1 : Int32))] [(.ref b59_y0)])) _
        exact k
      obtain ⟨_, _, ⟨T65, L65, k65, n65⟩, -, X65, ⟨Lc65, hQ65, l65, y65, z65⟩, st65⟩ := Jvm.LawKit.callS X63 hx (y := (⟨"com/example/rooted_kinds/rootedkinds/storage/Rows", "holdsRecord", "([B)Z"⟩ : MethodName)) hown (mvT hZ (hw _ (List.mem_of_getElem? (i := 34) rfl))) (mvT hZ (hw _ (List.mem_of_getElem? (i := 35) rfl))) (mvT hZ (hw _ (List.mem_of_getElem? (i := 3) rfl))) (mvT hZ (hw _ (List.mem_of_getElem? (i := 36) rfl))) (by decide) (backOf (W := 0) (rm7 l Z a0 hw [] b59_y0 k59_z0 (((0 : Int32) + (1 : Int32)) + n4) (1 : Int32) tl59_t0 T62.heap n0 O62 (((f59_1.keep K60 nin0).keep K61 nin0).keep K62 nin0) (own_jz hz_n4)) hZ (hw _ (List.mem_of_getElem? (i := 36) rfl)) (hw _ (List.mem_of_getElem? (i := 3) rfl)) (by decide) (by decide)) (g := (mkF m 127 #[.val (.int p0), .val (.int p1), .val (.int p2), .val (.int p3), .val (.int n4), .val (.ref b55), .val (.int (p0 &&& (255 : Int32))), .val (.int (1 : Int32)), .val (.ref b59_y0), .val (.ref b60_y0), .val (.ref b61_y0), .val (.ref b62_y0), .val (.int (1 : Int32))] [(.ref b59_y0)])) rfl (by rw [hml]; rfl) (argsL := [(.ref b59_y0)]) (rest := []) (lenOf own_pd134 rfl) rfl (by show 2 * 0 + _ ≤ _; exact Nat.le_of_eq rfl) (hb hby at_127) (fun _ _ => ⟨rfl, e63, (by decide : 9 + 0 ≤ _), (by decide : 28 + 0 ≤ _)⟩)
      dsimp only [Pt.U, Pt.locs, Pt.cells, Pt.slots] at X65 l65 y65 z65 st65 hQ65
      subst l65 y65 z65
      obtain ⟨rfl, N65q, e65⟩ := hQ65
      have N65 := Fr.app N63 N65q
      refine Go.st (V' := T65.setTop (mkF m 130 #[.val (.int p0), .val (.int p1), .val (.int p2), .val (.int p3), .val (.int n4), .val (.ref b55), .val (.int (p0 &&& (255 : Int32))), .val (.int (1 : Int32)), .val (.ref b59_y0), .val (.ref b60_y0), .val (.ref b61_y0), .val (.ref b62_y0), .val (.int (1 : Int32))] [(.int (f7 (1 : Int32)))])) (fun t k => st65 t k) ?_
      have r66 : (f7 (1 : Int32)) = (0 : Int32) := by rw [f7, if_neg (by decide : ¬ ((1 : Int32) = (2 : Int32))), if_neg (by decide : ¬ ((1 : Int32) = (3 : Int32)))]
      rw [r66]
      refine Go.st (V' := T65.setTop (mkF m 135 #[.val (.int p0), .val (.int p1), .val (.int p2), .val (.int p3), .val (.int n4), .val (.ref b55), .val (.int (p0 &&& (255 : Int32))), .val (.int (1 : Int32)), .val (.ref b59_y0), .val (.ref b60_y0), .val (.ref b61_y0), .val (.ref b62_y0), .val (.int (1 : Int32))] [(.ref b60_y0)])) (fun t k => ?_) ?_
      · refine XS.ifNo X65.here hx rfl (hb hby at_130) rfl ((if0 _ _).trans (teq (by decide : ((0 : Int32) = (0 : Int32)))).2) ?_
        show Steps p.tables e below (T65.setTop (mkF m 133 #[.val (.int p0), .val (.int p1), .val (.int p2), .val (.int p3), .val (.int n4), .val (.ref b55), .val (.int (p0 &&& (255 : Int32))), .val (.int (1 : Int32)), .val (.ref b59_y0), .val (.ref b60_y0), .val (.ref b61_y0), .val (.ref b62_y0), .val (.int (1 : Int32))] [])) _
        refine XS.aload X65.here hx rfl (hb hby at_133) rfl rfl ?_
        show Steps p.tables e below (T65.setTop (mkF m 135 #[.val (.int p0), .val (.int p1), .val (.int p2), .val (.int p3), .val (.int n4), .val (.ref b55), .val (.int (p0 &&& (255 : Int32))), .val (.int (1 : Int32)), .val (.ref b59_y0), .val (.ref b60_y0), .val (.ref b61_y0), .val (.ref b62_y0), .val (.int (1 : Int32))] [(.ref b60_y0)])) _
        exact k
      obtain ⟨_, _, ⟨T67, L67, k67, n67⟩, -, X67, ⟨Lc67, hQ67, l67, y67, z67⟩, st67⟩ := Jvm.LawKit.callS X65 hx (y := (⟨"com/example/rooted_kinds/rootedkinds/storage/Rows", "holdsRecord", "([B)Z"⟩ : MethodName)) hown (mvT hZ (hw _ (List.mem_of_getElem? (i := 34) rfl))) (mvT hZ (hw _ (List.mem_of_getElem? (i := 35) rfl))) (mvT hZ (hw _ (List.mem_of_getElem? (i := 3) rfl))) (mvT hZ (hw _ (List.mem_of_getElem? (i := 36) rfl))) (by decide) (backOf (W := 0) (rm7 l Z a0 hw [] b60_y0 k55 n4 (6 : Int32) vst T62.heap n0 O62 ((f60_0.keep K61 nin0).keep K62 nin0) (own_z0 hz_n4)) hZ (hw _ (List.mem_of_getElem? (i := 36) rfl)) (hw _ (List.mem_of_getElem? (i := 3) rfl)) (by decide) (by decide)) (g := (mkF m 135 #[.val (.int p0), .val (.int p1), .val (.int p2), .val (.int p3), .val (.int n4), .val (.ref b55), .val (.int (p0 &&& (255 : Int32))), .val (.int (1 : Int32)), .val (.ref b59_y0), .val (.ref b60_y0), .val (.ref b61_y0), .val (.ref b62_y0), .val (.int (1 : Int32))] [(.ref b60_y0)])) rfl (by rw [hml]; rfl) (argsL := [(.ref b60_y0)]) (rest := []) (lenOf own_pd134 rfl) rfl (by show 2 * 0 + _ ≤ _; exact Nat.le_of_eq rfl) (hb hby at_135) (fun _ _ => ⟨rfl, e65, (by decide : 9 + 0 ≤ _), (by decide : 28 + 0 ≤ _)⟩)
      dsimp only [Pt.U, Pt.locs, Pt.cells, Pt.slots] at X67 l67 y67 z67 st67 hQ67
      subst l67 y67 z67
      obtain ⟨rfl, N67q, e67⟩ := hQ67
      have N67 := Fr.app N65 N67q
      refine Go.st (V' := T67.setTop (mkF m 138 #[.val (.int p0), .val (.int p1), .val (.int p2), .val (.int p3), .val (.int n4), .val (.ref b55), .val (.int (p0 &&& (255 : Int32))), .val (.int (1 : Int32)), .val (.ref b59_y0), .val (.ref b60_y0), .val (.ref b61_y0), .val (.ref b62_y0), .val (.int (1 : Int32))] [(.int (f7 (6 : Int32)))])) (fun t k => st67 t k) ?_
      have r68 : (f7 (6 : Int32)) = (0 : Int32) := by rw [f7, if_neg (by decide : ¬ ((6 : Int32) = (2 : Int32))), if_neg (by decide : ¬ ((6 : Int32) = (3 : Int32)))]
      rw [r68]
      refine Go.st (V' := T67.setTop (mkF m 143 #[.val (.int p0), .val (.int p1), .val (.int p2), .val (.int p3), .val (.int n4), .val (.ref b55), .val (.int (p0 &&& (255 : Int32))), .val (.int (1 : Int32)), .val (.ref b59_y0), .val (.ref b60_y0), .val (.ref b61_y0), .val (.ref b62_y0), .val (.int (1 : Int32))] [(.ref b61_y0)])) (fun t k => ?_) ?_
      · refine XS.ifNo X67.here hx rfl (hb hby at_138) rfl ((if0 _ _).trans (teq (by decide : ((0 : Int32) = (0 : Int32)))).2) ?_
        show Steps p.tables e below (T67.setTop (mkF m 141 #[.val (.int p0), .val (.int p1), .val (.int p2), .val (.int p3), .val (.int n4), .val (.ref b55), .val (.int (p0 &&& (255 : Int32))), .val (.int (1 : Int32)), .val (.ref b59_y0), .val (.ref b60_y0), .val (.ref b61_y0), .val (.ref b62_y0), .val (.int (1 : Int32))] [])) _
        refine XS.aload X67.here hx rfl (hb hby at_141) rfl rfl ?_
        show Steps p.tables e below (T67.setTop (mkF m 143 #[.val (.int p0), .val (.int p1), .val (.int p2), .val (.int p3), .val (.int n4), .val (.ref b55), .val (.int (p0 &&& (255 : Int32))), .val (.int (1 : Int32)), .val (.ref b59_y0), .val (.ref b60_y0), .val (.ref b61_y0), .val (.ref b62_y0), .val (.int (1 : Int32))] [(.ref b61_y0)])) _
        exact k
      obtain ⟨_, _, ⟨T69, L69, k69, n69⟩, -, X69, ⟨Lc69, hQ69, l69, y69, z69⟩, st69⟩ := Jvm.LawKit.callS X67 hx (y := (⟨"com/example/rooted_kinds/rootedkinds/storage/Rows", "holdsRecord", "([B)Z"⟩ : MethodName)) hown (mvT hZ (hw _ (List.mem_of_getElem? (i := 34) rfl))) (mvT hZ (hw _ (List.mem_of_getElem? (i := 35) rfl))) (mvT hZ (hw _ (List.mem_of_getElem? (i := 3) rfl))) (mvT hZ (hw _ (List.mem_of_getElem? (i := 36) rfl))) (by decide) (backOf (W := 0) (rm7 l Z a0 hw [] b61_y0 k55 n4 (8 : Int32) vst T62.heap n0 O62 (f61_0.keep K62 nin0) (own_z0 hz_n4)) hZ (hw _ (List.mem_of_getElem? (i := 36) rfl)) (hw _ (List.mem_of_getElem? (i := 3) rfl)) (by decide) (by decide)) (g := (mkF m 143 #[.val (.int p0), .val (.int p1), .val (.int p2), .val (.int p3), .val (.int n4), .val (.ref b55), .val (.int (p0 &&& (255 : Int32))), .val (.int (1 : Int32)), .val (.ref b59_y0), .val (.ref b60_y0), .val (.ref b61_y0), .val (.ref b62_y0), .val (.int (1 : Int32))] [(.ref b61_y0)])) rfl (by rw [hml]; rfl) (argsL := [(.ref b61_y0)]) (rest := []) (lenOf own_pd134 rfl) rfl (by show 2 * 0 + _ ≤ _; exact Nat.le_of_eq rfl) (hb hby at_143) (fun _ _ => ⟨rfl, e67, (by decide : 9 + 0 ≤ _), (by decide : 28 + 0 ≤ _)⟩)
      dsimp only [Pt.U, Pt.locs, Pt.cells, Pt.slots] at X69 l69 y69 z69 st69 hQ69
      subst l69 y69 z69
      obtain ⟨rfl, N69q, e69⟩ := hQ69
      have N69 := Fr.app N67 N69q
      refine Go.st (V' := T69.setTop (mkF m 146 #[.val (.int p0), .val (.int p1), .val (.int p2), .val (.int p3), .val (.int n4), .val (.ref b55), .val (.int (p0 &&& (255 : Int32))), .val (.int (1 : Int32)), .val (.ref b59_y0), .val (.ref b60_y0), .val (.ref b61_y0), .val (.ref b62_y0), .val (.int (1 : Int32))] [(.int (f7 (8 : Int32)))])) (fun t k => st69 t k) ?_
      have r70 : (f7 (8 : Int32)) = (0 : Int32) := by rw [f7, if_neg (by decide : ¬ ((8 : Int32) = (2 : Int32))), if_neg (by decide : ¬ ((8 : Int32) = (3 : Int32)))]
      rw [r70]
      refine Go.st (V' := T69.setTop (mkF m 151 #[.val (.int p0), .val (.int p1), .val (.int p2), .val (.int p3), .val (.int n4), .val (.ref b55), .val (.int (p0 &&& (255 : Int32))), .val (.int (1 : Int32)), .val (.ref b59_y0), .val (.ref b60_y0), .val (.ref b61_y0), .val (.ref b62_y0), .val (.int (1 : Int32))] [(.ref b62_y0)])) (fun t k => ?_) ?_
      · refine XS.ifNo X69.here hx rfl (hb hby at_146) rfl ((if0 _ _).trans (teq (by decide : ((0 : Int32) = (0 : Int32)))).2) ?_
        show Steps p.tables e below (T69.setTop (mkF m 149 #[.val (.int p0), .val (.int p1), .val (.int p2), .val (.int p3), .val (.int n4), .val (.ref b55), .val (.int (p0 &&& (255 : Int32))), .val (.int (1 : Int32)), .val (.ref b59_y0), .val (.ref b60_y0), .val (.ref b61_y0), .val (.ref b62_y0), .val (.int (1 : Int32))] [])) _
        refine XS.aload X69.here hx rfl (hb hby at_149) rfl rfl ?_
        show Steps p.tables e below (T69.setTop (mkF m 151 #[.val (.int p0), .val (.int p1), .val (.int p2), .val (.int p3), .val (.int n4), .val (.ref b55), .val (.int (p0 &&& (255 : Int32))), .val (.int (1 : Int32)), .val (.ref b59_y0), .val (.ref b60_y0), .val (.ref b61_y0), .val (.ref b62_y0), .val (.int (1 : Int32))] [(.ref b62_y0)])) _
        exact k
      obtain ⟨_, _, ⟨T71, L71, k71, n71⟩, -, X71, ⟨Lc71, hQ71, l71, y71, z71⟩, st71⟩ := Jvm.LawKit.callS X69 hx (y := (⟨"com/example/rooted_kinds/rootedkinds/storage/Rows", "holdsRecord", "([B)Z"⟩ : MethodName)) hown (mvT hZ (hw _ (List.mem_of_getElem? (i := 34) rfl))) (mvT hZ (hw _ (List.mem_of_getElem? (i := 35) rfl))) (mvT hZ (hw _ (List.mem_of_getElem? (i := 3) rfl))) (mvT hZ (hw _ (List.mem_of_getElem? (i := 36) rfl))) (by decide) (backOf (W := 0) (rm7 l Z a0 hw [] b62_y0 k62_z0 (((0 : Int32) + (1 : Int32)) + n4) (4 : Int32) tl62_t0 T62.heap n0 O62 f62_1 (own_jz hz_n4)) hZ (hw _ (List.mem_of_getElem? (i := 36) rfl)) (hw _ (List.mem_of_getElem? (i := 3) rfl)) (by decide) (by decide)) (g := (mkF m 151 #[.val (.int p0), .val (.int p1), .val (.int p2), .val (.int p3), .val (.int n4), .val (.ref b55), .val (.int (p0 &&& (255 : Int32))), .val (.int (1 : Int32)), .val (.ref b59_y0), .val (.ref b60_y0), .val (.ref b61_y0), .val (.ref b62_y0), .val (.int (1 : Int32))] [(.ref b62_y0)])) rfl (by rw [hml]; rfl) (argsL := [(.ref b62_y0)]) (rest := []) (lenOf own_pd134 rfl) rfl (by show 2 * 0 + _ ≤ _; exact Nat.le_of_eq rfl) (hb hby at_151) (fun _ _ => ⟨rfl, e69, (by decide : 9 + 0 ≤ _), (by decide : 28 + 0 ≤ _)⟩)
      dsimp only [Pt.U, Pt.locs, Pt.cells, Pt.slots] at X71 l71 y71 z71 st71 hQ71
      subst l71 y71 z71
      obtain ⟨rfl, N71q, e71⟩ := hQ71
      have N71 := Fr.app N69 N71q
      refine Go.st (V' := T71.setTop (mkF m 154 #[.val (.int p0), .val (.int p1), .val (.int p2), .val (.int p3), .val (.int n4), .val (.ref b55), .val (.int (p0 &&& (255 : Int32))), .val (.int (1 : Int32)), .val (.ref b59_y0), .val (.ref b60_y0), .val (.ref b61_y0), .val (.ref b62_y0), .val (.int (1 : Int32))] [(.int (f7 (4 : Int32)))])) (fun t k => st71 t k) ?_
      have r72 : (f7 (4 : Int32)) = (0 : Int32) := by rw [f7, if_neg (by decide : ¬ ((4 : Int32) = (2 : Int32))), if_neg (by decide : ¬ ((4 : Int32) = (3 : Int32)))]
      rw [r72]
      refine Go.st (V' := T71.setTop (mkF m 162 #[.val (.int p0), .val (.int p1), .val (.int p2), .val (.int p3), .val (.int n4), .val (.ref b55), .val (.int (p0 &&& (255 : Int32))), .val (.int (1 : Int32)), .val (.ref b59_y0), .val (.ref b60_y0), .val (.ref b61_y0), .val (.ref b62_y0), .val (.int (1 : Int32))] [(.int (1 : Int32))])) (fun t k => ?_) ?_
      · refine XS.ifNo X71.here hx rfl (hb hby at_154) rfl ((if0 _ _).trans (teq (by decide : ((0 : Int32) = (0 : Int32)))).2) ?_
        show Steps p.tables e below (T71.setTop (mkF m 157 #[.val (.int p0), .val (.int p1), .val (.int p2), .val (.int p3), .val (.int n4), .val (.ref b55), .val (.int (p0 &&& (255 : Int32))), .val (.int (1 : Int32)), .val (.ref b59_y0), .val (.ref b60_y0), .val (.ref b61_y0), .val (.ref b62_y0), .val (.int (1 : Int32))] [])) _
        refine XS.iconst X71.here hx rfl (hb hby at_157) ?_
        show Steps p.tables e below (T71.setTop (mkF m 158 #[.val (.int p0), .val (.int p1), .val (.int p2), .val (.int p3), .val (.int n4), .val (.ref b55), .val (.int (p0 &&& (255 : Int32))), .val (.int (1 : Int32)), .val (.ref b59_y0), .val (.ref b60_y0), .val (.ref b61_y0), .val (.ref b62_y0), .val (.int (1 : Int32))] [(.int (1 : Int32))])) _
        refine XS.goto X71.here hx rfl (pc0 := 158) (pc' := 162) rfl (hb hby at_158) (by decide) (by decide) ?_
        show Steps p.tables e below (T71.setTop (mkF m 162 #[.val (.int p0), .val (.int p1), .val (.int p2), .val (.int p3), .val (.int n4), .val (.ref b55), .val (.int (p0 &&& (255 : Int32))), .val (.int (1 : Int32)), .val (.ref b59_y0), .val (.ref b60_y0), .val (.ref b61_y0), .val (.ref b62_y0), .val (.int (1 : Int32))] [(.int (1 : Int32))])) _
        exact k
      obtain ⟨fs, hr, hrun, hended, hW, hsame⟩ := X71.leave (v := some (.int (1 : Int32))) (fun h => by rw [Bd.returns] at h; cases h)
      refine Go.mk' ⟨_, _, retN X71 hx (t := .boolean) Bd.returns (by simp) (hb hby at_162) hr, hrun, hended, _, _, rfl, ?_, ⟨_, rfl⟩, hW, hsame.mono (by decide) (by decide)⟩
      show Q0 Z p0 p1 p2 p3 h0 n0 _ T71.heap _
      rw [e71]
      exact ⟨rfl, N71⟩
    · refine Go.st (V' := Tt.setTop (mkF m 73 #[.val (.int p0), .val (.int p1), .val (.int p2), .val (.int p3), .val (.int n4), .val (.ref b55), .val (.int (p0 &&& (255 : Int32))), .unset, .unset, .unset, .unset, .unset, .unset] [(.int (3 : Int32)), (.int (p0 &&& (255 : Int32)))])) (fun t k => ?_) ?_
      · refine XS.icmpNo Xt.here hx rfl (hb hby at_67) rfl (feq hc58).1 ?_
        show Steps p.tables e below (Tt.setTop (mkF m 70 #[.val (.int p0), .val (.int p1), .val (.int p2), .val (.int p3), .val (.int n4), .val (.ref b55), .val (.int (p0 &&& (255 : Int32))), .unset, .unset, .unset, .unset, .unset, .unset] [])) _
        refine XS.iload Xt.here hx rfl (hb hby at_70) rfl  ?_
        show Steps p.tables e below (Tt.setTop (mkF m 72 #[.val (.int p0), .val (.int p1), .val (.int p2), .val (.int p3), .val (.int n4), .val (.ref b55), .val (.int (p0 &&& (255 : Int32))), .unset, .unset, .unset, .unset, .unset, .unset] [(.int (p0 &&& (255 : Int32)))])) _
        refine XS.iconst Xt.here hx rfl (hb hby at_72) ?_
        show Steps p.tables e below (Tt.setTop (mkF m 73 #[.val (.int p0), .val (.int p1), .val (.int p2), .val (.int p3), .val (.int n4), .val (.ref b55), .val (.int (p0 &&& (255 : Int32))), .unset, .unset, .unset, .unset, .unset, .unset] [(.int (3 : Int32)), (.int (p0 &&& (255 : Int32)))])) _
        exact k
      by_cases hc73 : (p0 &&& (255 : Int32)) = (3 : Int32)
      · refine Go.st (V' := Tt.setTop (mkF m 85 #[.val (.int p0), .val (.int p1), .val (.int p2), .val (.int p3), .val (.int n4), .val (.ref b55), .val (.int (p0 &&& (255 : Int32))), .val (.int (1 : Int32)), .unset, .unset, .unset, .unset, .unset] [(.ref b55)])) (fun t k => ?_) ?_
        · refine XS.icmpNo Xt.here hx rfl (hb hby at_73) rfl (teq hc73).2 ?_
          show Steps p.tables e below (Tt.setTop (mkF m 76 #[.val (.int p0), .val (.int p1), .val (.int p2), .val (.int p3), .val (.int n4), .val (.ref b55), .val (.int (p0 &&& (255 : Int32))), .unset, .unset, .unset, .unset, .unset, .unset] [])) _
          refine XS.iconst Xt.here hx rfl (hb hby at_76) ?_
          show Steps p.tables e below (Tt.setTop (mkF m 77 #[.val (.int p0), .val (.int p1), .val (.int p2), .val (.int p3), .val (.int n4), .val (.ref b55), .val (.int (p0 &&& (255 : Int32))), .unset, .unset, .unset, .unset, .unset, .unset] [(.int (1 : Int32))])) _
          refine XS.goto Xt.here hx rfl (pc0 := 77) (pc' := 81) rfl (hb hby at_77) (by decide) (by decide) ?_
          show Steps p.tables e below (Tt.setTop (mkF m 81 #[.val (.int p0), .val (.int p1), .val (.int p2), .val (.int p3), .val (.int n4), .val (.ref b55), .val (.int (p0 &&& (255 : Int32))), .unset, .unset, .unset, .unset, .unset, .unset] [(.int (1 : Int32))])) _
          refine XS.istore Xt.here hx rfl (hb hby at_81) rfl (l' := #[.val (.int p0), .val (.int p1), .val (.int p2), .val (.int p3), .val (.int n4), .val (.ref b55), .val (.int (p0 &&& (255 : Int32))), .val (.int (1 : Int32)), .unset, .unset, .unset, .unset, .unset]) rfl ?_
          show Steps p.tables e below (Tt.setTop (mkF m 83 #[.val (.int p0), .val (.int p1), .val (.int p2), .val (.int p3), .val (.int n4), .val (.ref b55), .val (.int (p0 &&& (255 : Int32))), .val (.int (1 : Int32)), .unset, .unset, .unset, .unset, .unset] [])) _
          refine XS.aload Xt.here hx rfl (hb hby at_83) rfl rfl ?_
          show Steps p.tables e below (Tt.setTop (mkF m 85 #[.val (.int p0), .val (.int p1), .val (.int p2), .val (.int p3), .val (.int n4), .val (.ref b55), .val (.int (p0 &&& (255 : Int32))), .val (.int (1 : Int32)), .unset, .unset, .unset, .unset, .unset] [(.ref b55)])) _
          exact k
        obtain ⟨_, _, ⟨T74, L74, k74, n74⟩, -, X74, ⟨Lc74, hQ74, l74, y74, z74⟩, st74⟩ := Jvm.LawKit.callS Xt hx (y := (⟨"com/example/rooted_kinds/rootedkinds/storage/Rows", "entity", "([B)[B"⟩ : MethodName)) hown (mvT hZ (hw _ (List.mem_of_getElem? (i := 1) rfl))) (mvT hZ (hw _ (List.mem_of_getElem? (i := 2) rfl))) (mvT hZ (hw _ (List.mem_of_getElem? (i := 3) rfl))) (mvT hZ (hw _ (List.mem_of_getElem? (i := 4) rfl))) (by decide) (backOf (W := 0) (rm1 l Z a0 hw [] b55 k55 n4 (nar .byte (p0.toInt8.toInt32)) vst ht n0 Ot Vt hz_n4 Et) hZ (hw _ (List.mem_of_getElem? (i := 4) rfl)) (hw _ (List.mem_of_getElem? (i := 3) rfl)) (by decide) (by decide)) (g := (mkF m 85 #[.val (.int p0), .val (.int p1), .val (.int p2), .val (.int p3), .val (.int n4), .val (.ref b55), .val (.int (p0 &&& (255 : Int32))), .val (.int (1 : Int32)), .unset, .unset, .unset, .unset, .unset] [(.ref b55)])) rfl (by rw [hml]; rfl) (argsL := [(.ref b55)]) (rest := []) (lenOf own_pd133 rfl) rfl (by show 2 * 0 + _ ≤ _; exact Nat.le_of_eq rfl) (hb hby at_85) (fun _ _ => ⟨rfl, et, (by decide : 1 + 3 ≤ _), (by decide : 4 + 8 ≤ _)⟩)
        dsimp only [Pt.U, Pt.locs, Pt.cells, Pt.slots] at X74 l74 y74 z74 st74 hQ74
        subst l74 y74 z74
        obtain ⟨b74_y0, k74_z0, tl74_t0, rfl, N74q, K74, sz74_y0, f74_0, f74_1⟩ := hQ74
        have N74 := Fr.app Nt N74q
        have O74 := Ot.keep K74 all0
        have g_b74_y0 : n0 ≤ b74_y0 := Nat.le_trans (Nat.le_trans (Nat.le_of_eq Ot.1.symm) Ot.2.1) sz74_y0
        refine Go.st (V' := T74.setTop (mkF m 88 #[.val (.int p0), .val (.int p1), .val (.int p2), .val (.int p3), .val (.int n4), .val (.ref b55), .val (.int (p0 &&& (255 : Int32))), .val (.int (1 : Int32)), .unset, .unset, .unset, .unset, .unset] [(.ref b74_y0)])) (fun t k => st74 t k) ?_
        refine Go.st (V' := T74.setTop (mkF m 92 #[.val (.int p0), .val (.int p1), .val (.int p2), .val (.int p3), .val (.int n4), .val (.ref b55), .val (.int (p0 &&& (255 : Int32))), .val (.int (1 : Int32)), .val (.ref b74_y0), .unset, .unset, .unset, .unset] [(.ref b55)])) (fun t k => ?_) ?_
        · refine XS.astore X74.here hx rfl (hb hby at_88) rfl rfl (l' := #[.val (.int p0), .val (.int p1), .val (.int p2), .val (.int p3), .val (.int n4), .val (.ref b55), .val (.int (p0 &&& (255 : Int32))), .val (.int (1 : Int32)), .val (.ref b74_y0), .unset, .unset, .unset, .unset]) rfl ?_
          show Steps p.tables e below (T74.setTop (mkF m 90 #[.val (.int p0), .val (.int p1), .val (.int p2), .val (.int p3), .val (.int n4), .val (.ref b55), .val (.int (p0 &&& (255 : Int32))), .val (.int (1 : Int32)), .val (.ref b74_y0), .unset, .unset, .unset, .unset] [])) _
          refine XS.aload X74.here hx rfl (hb hby at_90) rfl rfl ?_
          show Steps p.tables e below (T74.setTop (mkF m 92 #[.val (.int p0), .val (.int p1), .val (.int p2), .val (.int p3), .val (.int n4), .val (.ref b55), .val (.int (p0 &&& (255 : Int32))), .val (.int (1 : Int32)), .val (.ref b74_y0), .unset, .unset, .unset, .unset] [(.ref b55)])) _
          exact k
        obtain ⟨_, _, ⟨T75, L75, k75, n75⟩, -, X75, ⟨Lc75, hQ75, l75, y75, z75⟩, st75⟩ := Jvm.LawKit.callS X74 hx (y := (⟨"com/example/rooted_kinds/rootedkinds/storage/Rows", "propertyNames", "([B)[B"⟩ : MethodName)) hown (mvT hZ (hw _ (List.mem_of_getElem? (i := 15) rfl))) (mvT hZ (hw _ (List.mem_of_getElem? (i := 16) rfl))) (mvT hZ (hw _ (List.mem_of_getElem? (i := 3) rfl))) (mvT hZ (hw _ (List.mem_of_getElem? (i := 17) rfl))) (by decide) (backOf (W := 0) (rm3 l Z a0 hw [] b55 k55 n4 (nar .byte (p0.toInt8.toInt32)) vst T74.heap n0 O74 (Vt.keep K74 nin0) hz_n4 (Et.keep K74)) hZ (hw _ (List.mem_of_getElem? (i := 17) rfl)) (hw _ (List.mem_of_getElem? (i := 3) rfl)) (by decide) (by decide)) (g := (mkF m 92 #[.val (.int p0), .val (.int p1), .val (.int p2), .val (.int p3), .val (.int n4), .val (.ref b55), .val (.int (p0 &&& (255 : Int32))), .val (.int (1 : Int32)), .val (.ref b74_y0), .unset, .unset, .unset, .unset] [(.ref b55)])) rfl (by rw [hml]; rfl) (argsL := [(.ref b55)]) (rest := []) (lenOf own_pd133 rfl) rfl (by show 2 * 0 + _ ≤ _; exact Nat.le_of_eq rfl) (hb hby at_92) (fun _ _ => ⟨rfl, rfl, (by decide : 4 + 1 ≤ _), (by decide : 12 + 4 ≤ _)⟩)
        dsimp only [Pt.U, Pt.locs, Pt.cells, Pt.slots] at X75 l75 y75 z75 st75 hQ75
        subst l75 y75 z75
        obtain ⟨b75_y0, rfl, N75q, K75, sz75_y0, f75_0, f75_1⟩ := hQ75
        have N75 := Fr.app N74 N75q
        have O75 := O74.keep K75 all0
        have g_b75_y0 : n0 ≤ b75_y0 := Nat.le_trans (Nat.le_trans (Nat.le_of_eq O74.1.symm) O74.2.1) sz75_y0
        refine Go.st (V' := T75.setTop (mkF m 95 #[.val (.int p0), .val (.int p1), .val (.int p2), .val (.int p3), .val (.int n4), .val (.ref b55), .val (.int (p0 &&& (255 : Int32))), .val (.int (1 : Int32)), .val (.ref b74_y0), .unset, .unset, .unset, .unset] [(.ref b75_y0)])) (fun t k => st75 t k) ?_
        refine Go.st (V' := T75.setTop (mkF m 99 #[.val (.int p0), .val (.int p1), .val (.int p2), .val (.int p3), .val (.int n4), .val (.ref b55), .val (.int (p0 &&& (255 : Int32))), .val (.int (1 : Int32)), .val (.ref b74_y0), .val (.ref b75_y0), .unset, .unset, .unset] [(.ref b55)])) (fun t k => ?_) ?_
        · refine XS.astore X75.here hx rfl (hb hby at_95) rfl rfl (l' := #[.val (.int p0), .val (.int p1), .val (.int p2), .val (.int p3), .val (.int n4), .val (.ref b55), .val (.int (p0 &&& (255 : Int32))), .val (.int (1 : Int32)), .val (.ref b74_y0), .val (.ref b75_y0), .unset, .unset, .unset]) rfl ?_
          show Steps p.tables e below (T75.setTop (mkF m 97 #[.val (.int p0), .val (.int p1), .val (.int p2), .val (.int p3), .val (.int n4), .val (.ref b55), .val (.int (p0 &&& (255 : Int32))), .val (.int (1 : Int32)), .val (.ref b74_y0), .val (.ref b75_y0), .unset, .unset, .unset] [])) _
          refine XS.aload X75.here hx rfl (hb hby at_97) rfl rfl ?_
          show Steps p.tables e below (T75.setTop (mkF m 99 #[.val (.int p0), .val (.int p1), .val (.int p2), .val (.int p3), .val (.int n4), .val (.ref b55), .val (.int (p0 &&& (255 : Int32))), .val (.int (1 : Int32)), .val (.ref b74_y0), .val (.ref b75_y0), .unset, .unset, .unset] [(.ref b55)])) _
          exact k
        obtain ⟨_, _, ⟨T76, L76, k76, n76⟩, -, X76, ⟨Lc76, hQ76, l76, y76, z76⟩, st76⟩ := Jvm.LawKit.callS X75 hx (y := (⟨"com/example/rooted_kinds/rootedkinds/storage/Rows", "counts", "([B)[B"⟩ : MethodName)) hown (mvT hZ (hw _ (List.mem_of_getElem? (i := 28) rfl))) (mvT hZ (hw _ (List.mem_of_getElem? (i := 29) rfl))) (mvT hZ (hw _ (List.mem_of_getElem? (i := 3) rfl))) (mvT hZ (hw _ (List.mem_of_getElem? (i := 30) rfl))) (by decide) (backOf (W := 0) (rm5n l Z a0 hw [] b55 k55 n4 (nar .byte (p0.toInt8.toInt32)) vst T75.heap n0 O75 ((Vt.keep K74 nin0).keep K75 nin0) hz_n4 (fun q => hc58 ((own_b p0 (2 : Int32) (by decide)).mp q)) ((Et.keep K74).keep K75)) hZ (hw _ (List.mem_of_getElem? (i := 30) rfl)) (hw _ (List.mem_of_getElem? (i := 3) rfl)) (by decide) (by decide)) (g := (mkF m 99 #[.val (.int p0), .val (.int p1), .val (.int p2), .val (.int p3), .val (.int n4), .val (.ref b55), .val (.int (p0 &&& (255 : Int32))), .val (.int (1 : Int32)), .val (.ref b74_y0), .val (.ref b75_y0), .unset, .unset, .unset] [(.ref b55)])) rfl (by rw [hml]; rfl) (argsL := [(.ref b55)]) (rest := []) (lenOf own_pd133 rfl) rfl (by show 2 * 0 + _ ≤ _; exact Nat.le_of_eq rfl) (hb hby at_99) (fun _ _ => ⟨rfl, rfl, (by decide : 5 + 1 ≤ _), (by decide : 16 + 4 ≤ _)⟩)
        dsimp only [Pt.U, Pt.locs, Pt.cells, Pt.slots] at X76 l76 y76 z76 st76 hQ76
        subst l76 y76 z76
        obtain ⟨b76_y0, rfl, N76q, K76, sz76_y0, f76_0, f76_1⟩ := hQ76
        have N76 := Fr.app N75 N76q
        have O76 := O75.keep K76 all0
        have g_b76_y0 : n0 ≤ b76_y0 := Nat.le_trans (Nat.le_trans (Nat.le_of_eq O75.1.symm) O75.2.1) sz76_y0
        refine Go.st (V' := T76.setTop (mkF m 102 #[.val (.int p0), .val (.int p1), .val (.int p2), .val (.int p3), .val (.int n4), .val (.ref b55), .val (.int (p0 &&& (255 : Int32))), .val (.int (1 : Int32)), .val (.ref b74_y0), .val (.ref b75_y0), .unset, .unset, .unset] [(.ref b76_y0)])) (fun t k => st76 t k) ?_
        refine Go.st (V' := T76.setTop (mkF m 106 #[.val (.int p0), .val (.int p1), .val (.int p2), .val (.int p3), .val (.int n4), .val (.ref b55), .val (.int (p0 &&& (255 : Int32))), .val (.int (1 : Int32)), .val (.ref b74_y0), .val (.ref b75_y0), .val (.ref b76_y0), .unset, .unset] [(.ref b55)])) (fun t k => ?_) ?_
        · refine XS.astore X76.here hx rfl (hb hby at_102) rfl rfl (l' := #[.val (.int p0), .val (.int p1), .val (.int p2), .val (.int p3), .val (.int n4), .val (.ref b55), .val (.int (p0 &&& (255 : Int32))), .val (.int (1 : Int32)), .val (.ref b74_y0), .val (.ref b75_y0), .val (.ref b76_y0), .unset, .unset]) rfl ?_
          show Steps p.tables e below (T76.setTop (mkF m 104 #[.val (.int p0), .val (.int p1), .val (.int p2), .val (.int p3), .val (.int n4), .val (.ref b55), .val (.int (p0 &&& (255 : Int32))), .val (.int (1 : Int32)), .val (.ref b74_y0), .val (.ref b75_y0), .val (.ref b76_y0), .unset, .unset] [])) _
          refine XS.aload X76.here hx rfl (hb hby at_104) rfl rfl ?_
          show Steps p.tables e below (T76.setTop (mkF m 106 #[.val (.int p0), .val (.int p1), .val (.int p2), .val (.int p3), .val (.int n4), .val (.ref b55), .val (.int (p0 &&& (255 : Int32))), .val (.int (1 : Int32)), .val (.ref b74_y0), .val (.ref b75_y0), .val (.ref b76_y0), .unset, .unset] [(.ref b55)])) _
          exact k
        obtain ⟨_, _, ⟨T77, L77, k77, n77⟩, -, X77, ⟨Lc77, hQ77, l77, y77, z77⟩, st77⟩ := Jvm.LawKit.callS X76 hx (y := (⟨"com/example/rooted_kinds/rootedkinds/storage/Rows", "groupVersion", "([B)[B"⟩ : MethodName)) hown (mvT hZ (hw _ (List.mem_of_getElem? (i := 31) rfl))) (mvT hZ (hw _ (List.mem_of_getElem? (i := 32) rfl))) (mvT hZ (hw _ (List.mem_of_getElem? (i := 3) rfl))) (mvT hZ (hw _ (List.mem_of_getElem? (i := 33) rfl))) (by decide) (backOf (W := 0) (rm6 l Z a0 hw [] b55 k55 n4 (nar .byte (p0.toInt8.toInt32)) vst T76.heap n0 O76 (((Vt.keep K74 nin0).keep K75 nin0).keep K76 nin0) hz_n4 (((Et.keep K74).keep K75).keep K76)) hZ (hw _ (List.mem_of_getElem? (i := 33) rfl)) (hw _ (List.mem_of_getElem? (i := 3) rfl)) (by decide) (by decide)) (g := (mkF m 106 #[.val (.int p0), .val (.int p1), .val (.int p2), .val (.int p3), .val (.int n4), .val (.ref b55), .val (.int (p0 &&& (255 : Int32))), .val (.int (1 : Int32)), .val (.ref b74_y0), .val (.ref b75_y0), .val (.ref b76_y0), .unset, .unset] [(.ref b55)])) rfl (by rw [hml]; rfl) (argsL := [(.ref b55)]) (rest := []) (lenOf own_pd133 rfl) rfl (by show 2 * 0 + _ ≤ _; exact Nat.le_of_eq rfl) (hb hby at_106) (fun _ _ => ⟨rfl, rfl, (by decide : 6 + 3 ≤ _), (by decide : 20 + 8 ≤ _)⟩)
        dsimp only [Pt.U, Pt.locs, Pt.cells, Pt.slots] at X77 l77 y77 z77 st77 hQ77
        subst l77 y77 z77
        obtain ⟨b77_y0, k77_z0, tl77_t0, rfl, N77q, K77, sz77_y0, f77_0, f77_1⟩ := hQ77
        have N77 := Fr.app N76 N77q
        have O77 := O76.keep K77 all0
        have g_b77_y0 : n0 ≤ b77_y0 := Nat.le_trans (Nat.le_trans (Nat.le_of_eq O76.1.symm) O76.2.1) sz77_y0
        refine Go.st (V' := T77.setTop (mkF m 109 #[.val (.int p0), .val (.int p1), .val (.int p2), .val (.int p3), .val (.int n4), .val (.ref b55), .val (.int (p0 &&& (255 : Int32))), .val (.int (1 : Int32)), .val (.ref b74_y0), .val (.ref b75_y0), .val (.ref b76_y0), .unset, .unset] [(.ref b77_y0)])) (fun t k => st77 t k) ?_
        refine Go.st (V' := T77.setTop (mkF m 113 #[.val (.int p0), .val (.int p1), .val (.int p2), .val (.int p3), .val (.int n4), .val (.ref b55), .val (.int (p0 &&& (255 : Int32))), .val (.int (1 : Int32)), .val (.ref b74_y0), .val (.ref b75_y0), .val (.ref b76_y0), .val (.ref b77_y0), .unset] [(.ref b55)])) (fun t k => ?_) ?_
        · refine XS.astore X77.here hx rfl (hb hby at_109) rfl rfl (l' := #[.val (.int p0), .val (.int p1), .val (.int p2), .val (.int p3), .val (.int n4), .val (.ref b55), .val (.int (p0 &&& (255 : Int32))), .val (.int (1 : Int32)), .val (.ref b74_y0), .val (.ref b75_y0), .val (.ref b76_y0), .val (.ref b77_y0), .unset]) rfl ?_
          show Steps p.tables e below (T77.setTop (mkF m 111 #[.val (.int p0), .val (.int p1), .val (.int p2), .val (.int p3), .val (.int n4), .val (.ref b55), .val (.int (p0 &&& (255 : Int32))), .val (.int (1 : Int32)), .val (.ref b74_y0), .val (.ref b75_y0), .val (.ref b76_y0), .val (.ref b77_y0), .unset] [])) _
          refine XS.aload X77.here hx rfl (hb hby at_111) rfl rfl ?_
          show Steps p.tables e below (T77.setTop (mkF m 113 #[.val (.int p0), .val (.int p1), .val (.int p2), .val (.int p3), .val (.int n4), .val (.ref b55), .val (.int (p0 &&& (255 : Int32))), .val (.int (1 : Int32)), .val (.ref b74_y0), .val (.ref b75_y0), .val (.ref b76_y0), .val (.ref b77_y0), .unset] [(.ref b55)])) _
          exact k
        obtain ⟨_, _, ⟨T78, L78, k78, n78⟩, -, X78, ⟨Lc78, hQ78, l78, y78, z78⟩, st78⟩ := Jvm.LawKit.callS X77 hx (y := (⟨"com/example/rooted_kinds/rootedkinds/storage/Rows", "holdsRecord", "([B)Z"⟩ : MethodName)) hown (mvT hZ (hw _ (List.mem_of_getElem? (i := 34) rfl))) (mvT hZ (hw _ (List.mem_of_getElem? (i := 35) rfl))) (mvT hZ (hw _ (List.mem_of_getElem? (i := 3) rfl))) (mvT hZ (hw _ (List.mem_of_getElem? (i := 36) rfl))) (by decide) (backOf (W := 0) (rm7 l Z a0 hw [] b55 k55 n4 (nar .byte (p0.toInt8.toInt32)) vst T77.heap n0 O77 ((((Vt.keep K74 nin0).keep K75 nin0).keep K76 nin0).keep K77 nin0) (own_z0 hz_n4)) hZ (hw _ (List.mem_of_getElem? (i := 36) rfl)) (hw _ (List.mem_of_getElem? (i := 3) rfl)) (by decide) (by decide)) (g := (mkF m 113 #[.val (.int p0), .val (.int p1), .val (.int p2), .val (.int p3), .val (.int n4), .val (.ref b55), .val (.int (p0 &&& (255 : Int32))), .val (.int (1 : Int32)), .val (.ref b74_y0), .val (.ref b75_y0), .val (.ref b76_y0), .val (.ref b77_y0), .unset] [(.ref b55)])) rfl (by rw [hml]; rfl) (argsL := [(.ref b55)]) (rest := []) (lenOf own_pd134 rfl) rfl (by show 2 * 0 + _ ≤ _; exact Nat.le_of_eq rfl) (hb hby at_113) (fun _ _ => ⟨rfl, rfl, (by decide : 9 + 0 ≤ _), (by decide : 28 + 0 ≤ _)⟩)
        dsimp only [Pt.U, Pt.locs, Pt.cells, Pt.slots] at X78 l78 y78 z78 st78 hQ78
        subst l78 y78 z78
        obtain ⟨rfl, N78q, e78⟩ := hQ78
        have N78 := Fr.app N77 N78q
        refine Go.st (V' := T78.setTop (mkF m 116 #[.val (.int p0), .val (.int p1), .val (.int p2), .val (.int p3), .val (.int n4), .val (.ref b55), .val (.int (p0 &&& (255 : Int32))), .val (.int (1 : Int32)), .val (.ref b74_y0), .val (.ref b75_y0), .val (.ref b76_y0), .val (.ref b77_y0), .unset] [(.int (f7 (nar .byte (p0.toInt8.toInt32))))])) (fun t k => st78 t k) ?_
        have r79 : (f7 (nar .byte (p0.toInt8.toInt32))) = (1 : Int32) := by rw [f7, if_neg (fun q => hc58 ((own_b p0 (2 : Int32) (by decide)).mp q)), if_pos ((own_b p0 (3 : Int32) (by decide)).mpr hc73)]
        rw [r79]
        refine Go.st (V' := T78.setTop (mkF m 127 #[.val (.int p0), .val (.int p1), .val (.int p2), .val (.int p3), .val (.int n4), .val (.ref b55), .val (.int (p0 &&& (255 : Int32))), .val (.int (1 : Int32)), .val (.ref b74_y0), .val (.ref b75_y0), .val (.ref b76_y0), .val (.ref b77_y0), .val (.int (1 : Int32))] [(.ref b74_y0)])) (fun t k => ?_) ?_
        · refine XS.istore X78.here hx rfl (hb hby at_116) rfl (l' := #[.val (.int p0), .val (.int p1), .val (.int p2), .val (.int p3), .val (.int n4), .val (.ref b55), .val (.int (p0 &&& (255 : Int32))), .val (.int (1 : Int32)), .val (.ref b74_y0), .val (.ref b75_y0), .val (.ref b76_y0), .val (.ref b77_y0), .val (.int (1 : Int32))]) rfl ?_
          show Steps p.tables e below (T78.setTop (mkF m 118 #[.val (.int p0), .val (.int p1), .val (.int p2), .val (.int p3), .val (.int n4), .val (.ref b55), .val (.int (p0 &&& (255 : Int32))), .val (.int (1 : Int32)), .val (.ref b74_y0), .val (.ref b75_y0), .val (.ref b76_y0), .val (.ref b77_y0), .val (.int (1 : Int32))] [])) _
          refine XS.iload X78.here hx rfl (hb hby at_118) rfl  ?_
          show Steps p.tables e below (T78.setTop (mkF m 120 #[.val (.int p0), .val (.int p1), .val (.int p2), .val (.int p3), .val (.int n4), .val (.ref b55), .val (.int (p0 &&& (255 : Int32))), .val (.int (1 : Int32)), .val (.ref b74_y0), .val (.ref b75_y0), .val (.ref b76_y0), .val (.ref b77_y0), .val (.int (1 : Int32))] [(.int (1 : Int32))])) _
          refine XS.iload X78.here hx rfl (hb hby at_120) rfl  ?_
          show Steps p.tables e below (T78.setTop (mkF m 122 #[.val (.int p0), .val (.int p1), .val (.int p2), .val (.int p3), .val (.int n4), .val (.ref b55), .val (.int (p0 &&& (255 : Int32))), .val (.int (1 : Int32)), .val (.ref b74_y0), .val (.ref b75_y0), .val (.ref b76_y0), .val (.ref b77_y0), .val (.int (1 : Int32))] [(.int (1 : Int32)), (.int (1 : Int32))])) _
          refine XS.icmpNo X78.here hx rfl (hb hby at_122) rfl (teq (by decide : ((1 : Int32) = (1 : Int32)))).2 ?_
          show Steps p.tables e below (T78.setTop (mkF m 125 #[.val (.int p0), .val (.int p1), .val (.int p2), .val (.int p3), .val (.int n4), .val (.ref b55), .val (.int (p0 &&& (255 : Int32))), .val (.int (1 : Int32)), .val (.ref b74_y0), .val (.ref b75_y0), .val (.ref b76_y0), .val (.ref b77_y0), .val (.int (1 : Int32))] [])) _
          refine XS.aload X78.here hx rfl (hb hby at_125) rfl rfl ?_
          show Steps p.tables e below (T78.setTop (mkF m 127 #[.val (.int p0), .val (.int p1), .val (.int p2), .val (.int p3), .val (.int n4), .val (.ref b55), .val (.int (p0 &&& (255 : Int32))), .val (.int (1 : Int32)), .val (.ref b74_y0), .val (.ref b75_y0), .val (.ref b76_y0), .val (.ref b77_y0), .val (.int (1 : Int32))] [(.ref b74_y0)])) _
          exact k
        obtain ⟨_, _, ⟨T80, L80, k80, n80⟩, -, X80, ⟨Lc80, hQ80, l80, y80, z80⟩, st80⟩ := Jvm.LawKit.callS X78 hx (y := (⟨"com/example/rooted_kinds/rootedkinds/storage/Rows", "holdsRecord", "([B)Z"⟩ : MethodName)) hown (mvT hZ (hw _ (List.mem_of_getElem? (i := 34) rfl))) (mvT hZ (hw _ (List.mem_of_getElem? (i := 35) rfl))) (mvT hZ (hw _ (List.mem_of_getElem? (i := 3) rfl))) (mvT hZ (hw _ (List.mem_of_getElem? (i := 36) rfl))) (by decide) (backOf (W := 0) (rm7 l Z a0 hw [] b74_y0 k74_z0 (((0 : Int32) + (1 : Int32)) + n4) (1 : Int32) tl74_t0 T77.heap n0 O77 (((f74_1.keep K75 nin0).keep K76 nin0).keep K77 nin0) (own_jz hz_n4)) hZ (hw _ (List.mem_of_getElem? (i := 36) rfl)) (hw _ (List.mem_of_getElem? (i := 3) rfl)) (by decide) (by decide)) (g := (mkF m 127 #[.val (.int p0), .val (.int p1), .val (.int p2), .val (.int p3), .val (.int n4), .val (.ref b55), .val (.int (p0 &&& (255 : Int32))), .val (.int (1 : Int32)), .val (.ref b74_y0), .val (.ref b75_y0), .val (.ref b76_y0), .val (.ref b77_y0), .val (.int (1 : Int32))] [(.ref b74_y0)])) rfl (by rw [hml]; rfl) (argsL := [(.ref b74_y0)]) (rest := []) (lenOf own_pd134 rfl) rfl (by show 2 * 0 + _ ≤ _; exact Nat.le_of_eq rfl) (hb hby at_127) (fun _ _ => ⟨rfl, e78, (by decide : 9 + 0 ≤ _), (by decide : 28 + 0 ≤ _)⟩)
        dsimp only [Pt.U, Pt.locs, Pt.cells, Pt.slots] at X80 l80 y80 z80 st80 hQ80
        subst l80 y80 z80
        obtain ⟨rfl, N80q, e80⟩ := hQ80
        have N80 := Fr.app N78 N80q
        refine Go.st (V' := T80.setTop (mkF m 130 #[.val (.int p0), .val (.int p1), .val (.int p2), .val (.int p3), .val (.int n4), .val (.ref b55), .val (.int (p0 &&& (255 : Int32))), .val (.int (1 : Int32)), .val (.ref b74_y0), .val (.ref b75_y0), .val (.ref b76_y0), .val (.ref b77_y0), .val (.int (1 : Int32))] [(.int (f7 (1 : Int32)))])) (fun t k => st80 t k) ?_
        have r81 : (f7 (1 : Int32)) = (0 : Int32) := by rw [f7, if_neg (by decide : ¬ ((1 : Int32) = (2 : Int32))), if_neg (by decide : ¬ ((1 : Int32) = (3 : Int32)))]
        rw [r81]
        refine Go.st (V' := T80.setTop (mkF m 135 #[.val (.int p0), .val (.int p1), .val (.int p2), .val (.int p3), .val (.int n4), .val (.ref b55), .val (.int (p0 &&& (255 : Int32))), .val (.int (1 : Int32)), .val (.ref b74_y0), .val (.ref b75_y0), .val (.ref b76_y0), .val (.ref b77_y0), .val (.int (1 : Int32))] [(.ref b75_y0)])) (fun t k => ?_) ?_
        · refine XS.ifNo X80.here hx rfl (hb hby at_130) rfl ((if0 _ _).trans (teq (by decide : ((0 : Int32) = (0 : Int32)))).2) ?_
          show Steps p.tables e below (T80.setTop (mkF m 133 #[.val (.int p0), .val (.int p1), .val (.int p2), .val (.int p3), .val (.int n4), .val (.ref b55), .val (.int (p0 &&& (255 : Int32))), .val (.int (1 : Int32)), .val (.ref b74_y0), .val (.ref b75_y0), .val (.ref b76_y0), .val (.ref b77_y0), .val (.int (1 : Int32))] [])) _
          refine XS.aload X80.here hx rfl (hb hby at_133) rfl rfl ?_
          show Steps p.tables e below (T80.setTop (mkF m 135 #[.val (.int p0), .val (.int p1), .val (.int p2), .val (.int p3), .val (.int n4), .val (.ref b55), .val (.int (p0 &&& (255 : Int32))), .val (.int (1 : Int32)), .val (.ref b74_y0), .val (.ref b75_y0), .val (.ref b76_y0), .val (.ref b77_y0), .val (.int (1 : Int32))] [(.ref b75_y0)])) _
          exact k
        obtain ⟨_, _, ⟨T82, L82, k82, n82⟩, -, X82, ⟨Lc82, hQ82, l82, y82, z82⟩, st82⟩ := Jvm.LawKit.callS X80 hx (y := (⟨"com/example/rooted_kinds/rootedkinds/storage/Rows", "holdsRecord", "([B)Z"⟩ : MethodName)) hown (mvT hZ (hw _ (List.mem_of_getElem? (i := 34) rfl))) (mvT hZ (hw _ (List.mem_of_getElem? (i := 35) rfl))) (mvT hZ (hw _ (List.mem_of_getElem? (i := 3) rfl))) (mvT hZ (hw _ (List.mem_of_getElem? (i := 36) rfl))) (by decide) (backOf (W := 0) (rm7 l Z a0 hw [] b75_y0 k55 n4 (6 : Int32) vst T77.heap n0 O77 ((f75_0.keep K76 nin0).keep K77 nin0) (own_z0 hz_n4)) hZ (hw _ (List.mem_of_getElem? (i := 36) rfl)) (hw _ (List.mem_of_getElem? (i := 3) rfl)) (by decide) (by decide)) (g := (mkF m 135 #[.val (.int p0), .val (.int p1), .val (.int p2), .val (.int p3), .val (.int n4), .val (.ref b55), .val (.int (p0 &&& (255 : Int32))), .val (.int (1 : Int32)), .val (.ref b74_y0), .val (.ref b75_y0), .val (.ref b76_y0), .val (.ref b77_y0), .val (.int (1 : Int32))] [(.ref b75_y0)])) rfl (by rw [hml]; rfl) (argsL := [(.ref b75_y0)]) (rest := []) (lenOf own_pd134 rfl) rfl (by show 2 * 0 + _ ≤ _; exact Nat.le_of_eq rfl) (hb hby at_135) (fun _ _ => ⟨rfl, e80, (by decide : 9 + 0 ≤ _), (by decide : 28 + 0 ≤ _)⟩)
        dsimp only [Pt.U, Pt.locs, Pt.cells, Pt.slots] at X82 l82 y82 z82 st82 hQ82
        subst l82 y82 z82
        obtain ⟨rfl, N82q, e82⟩ := hQ82
        have N82 := Fr.app N80 N82q
        refine Go.st (V' := T82.setTop (mkF m 138 #[.val (.int p0), .val (.int p1), .val (.int p2), .val (.int p3), .val (.int n4), .val (.ref b55), .val (.int (p0 &&& (255 : Int32))), .val (.int (1 : Int32)), .val (.ref b74_y0), .val (.ref b75_y0), .val (.ref b76_y0), .val (.ref b77_y0), .val (.int (1 : Int32))] [(.int (f7 (6 : Int32)))])) (fun t k => st82 t k) ?_
        have r83 : (f7 (6 : Int32)) = (0 : Int32) := by rw [f7, if_neg (by decide : ¬ ((6 : Int32) = (2 : Int32))), if_neg (by decide : ¬ ((6 : Int32) = (3 : Int32)))]
        rw [r83]
        refine Go.st (V' := T82.setTop (mkF m 143 #[.val (.int p0), .val (.int p1), .val (.int p2), .val (.int p3), .val (.int n4), .val (.ref b55), .val (.int (p0 &&& (255 : Int32))), .val (.int (1 : Int32)), .val (.ref b74_y0), .val (.ref b75_y0), .val (.ref b76_y0), .val (.ref b77_y0), .val (.int (1 : Int32))] [(.ref b76_y0)])) (fun t k => ?_) ?_
        · refine XS.ifNo X82.here hx rfl (hb hby at_138) rfl ((if0 _ _).trans (teq (by decide : ((0 : Int32) = (0 : Int32)))).2) ?_
          show Steps p.tables e below (T82.setTop (mkF m 141 #[.val (.int p0), .val (.int p1), .val (.int p2), .val (.int p3), .val (.int n4), .val (.ref b55), .val (.int (p0 &&& (255 : Int32))), .val (.int (1 : Int32)), .val (.ref b74_y0), .val (.ref b75_y0), .val (.ref b76_y0), .val (.ref b77_y0), .val (.int (1 : Int32))] [])) _
          refine XS.aload X82.here hx rfl (hb hby at_141) rfl rfl ?_
          show Steps p.tables e below (T82.setTop (mkF m 143 #[.val (.int p0), .val (.int p1), .val (.int p2), .val (.int p3), .val (.int n4), .val (.ref b55), .val (.int (p0 &&& (255 : Int32))), .val (.int (1 : Int32)), .val (.ref b74_y0), .val (.ref b75_y0), .val (.ref b76_y0), .val (.ref b77_y0), .val (.int (1 : Int32))] [(.ref b76_y0)])) _
          exact k
        obtain ⟨_, _, ⟨T84, L84, k84, n84⟩, -, X84, ⟨Lc84, hQ84, l84, y84, z84⟩, st84⟩ := Jvm.LawKit.callS X82 hx (y := (⟨"com/example/rooted_kinds/rootedkinds/storage/Rows", "holdsRecord", "([B)Z"⟩ : MethodName)) hown (mvT hZ (hw _ (List.mem_of_getElem? (i := 34) rfl))) (mvT hZ (hw _ (List.mem_of_getElem? (i := 35) rfl))) (mvT hZ (hw _ (List.mem_of_getElem? (i := 3) rfl))) (mvT hZ (hw _ (List.mem_of_getElem? (i := 36) rfl))) (by decide) (backOf (W := 0) (rm7 l Z a0 hw [] b76_y0 k55 n4 (7 : Int32) vst T77.heap n0 O77 (f76_0.keep K77 nin0) (own_z0 hz_n4)) hZ (hw _ (List.mem_of_getElem? (i := 36) rfl)) (hw _ (List.mem_of_getElem? (i := 3) rfl)) (by decide) (by decide)) (g := (mkF m 143 #[.val (.int p0), .val (.int p1), .val (.int p2), .val (.int p3), .val (.int n4), .val (.ref b55), .val (.int (p0 &&& (255 : Int32))), .val (.int (1 : Int32)), .val (.ref b74_y0), .val (.ref b75_y0), .val (.ref b76_y0), .val (.ref b77_y0), .val (.int (1 : Int32))] [(.ref b76_y0)])) rfl (by rw [hml]; rfl) (argsL := [(.ref b76_y0)]) (rest := []) (lenOf own_pd134 rfl) rfl (by show 2 * 0 + _ ≤ _; exact Nat.le_of_eq rfl) (hb hby at_143) (fun _ _ => ⟨rfl, e82, (by decide : 9 + 0 ≤ _), (by decide : 28 + 0 ≤ _)⟩)
        dsimp only [Pt.U, Pt.locs, Pt.cells, Pt.slots] at X84 l84 y84 z84 st84 hQ84
        subst l84 y84 z84
        obtain ⟨rfl, N84q, e84⟩ := hQ84
        have N84 := Fr.app N82 N84q
        refine Go.st (V' := T84.setTop (mkF m 146 #[.val (.int p0), .val (.int p1), .val (.int p2), .val (.int p3), .val (.int n4), .val (.ref b55), .val (.int (p0 &&& (255 : Int32))), .val (.int (1 : Int32)), .val (.ref b74_y0), .val (.ref b75_y0), .val (.ref b76_y0), .val (.ref b77_y0), .val (.int (1 : Int32))] [(.int (f7 (7 : Int32)))])) (fun t k => st84 t k) ?_
        have r85 : (f7 (7 : Int32)) = (0 : Int32) := by rw [f7, if_neg (by decide : ¬ ((7 : Int32) = (2 : Int32))), if_neg (by decide : ¬ ((7 : Int32) = (3 : Int32)))]
        rw [r85]
        refine Go.st (V' := T84.setTop (mkF m 151 #[.val (.int p0), .val (.int p1), .val (.int p2), .val (.int p3), .val (.int n4), .val (.ref b55), .val (.int (p0 &&& (255 : Int32))), .val (.int (1 : Int32)), .val (.ref b74_y0), .val (.ref b75_y0), .val (.ref b76_y0), .val (.ref b77_y0), .val (.int (1 : Int32))] [(.ref b77_y0)])) (fun t k => ?_) ?_
        · refine XS.ifNo X84.here hx rfl (hb hby at_146) rfl ((if0 _ _).trans (teq (by decide : ((0 : Int32) = (0 : Int32)))).2) ?_
          show Steps p.tables e below (T84.setTop (mkF m 149 #[.val (.int p0), .val (.int p1), .val (.int p2), .val (.int p3), .val (.int n4), .val (.ref b55), .val (.int (p0 &&& (255 : Int32))), .val (.int (1 : Int32)), .val (.ref b74_y0), .val (.ref b75_y0), .val (.ref b76_y0), .val (.ref b77_y0), .val (.int (1 : Int32))] [])) _
          refine XS.aload X84.here hx rfl (hb hby at_149) rfl rfl ?_
          show Steps p.tables e below (T84.setTop (mkF m 151 #[.val (.int p0), .val (.int p1), .val (.int p2), .val (.int p3), .val (.int n4), .val (.ref b55), .val (.int (p0 &&& (255 : Int32))), .val (.int (1 : Int32)), .val (.ref b74_y0), .val (.ref b75_y0), .val (.ref b76_y0), .val (.ref b77_y0), .val (.int (1 : Int32))] [(.ref b77_y0)])) _
          exact k
        obtain ⟨_, _, ⟨T86, L86, k86, n86⟩, -, X86, ⟨Lc86, hQ86, l86, y86, z86⟩, st86⟩ := Jvm.LawKit.callS X84 hx (y := (⟨"com/example/rooted_kinds/rootedkinds/storage/Rows", "holdsRecord", "([B)Z"⟩ : MethodName)) hown (mvT hZ (hw _ (List.mem_of_getElem? (i := 34) rfl))) (mvT hZ (hw _ (List.mem_of_getElem? (i := 35) rfl))) (mvT hZ (hw _ (List.mem_of_getElem? (i := 3) rfl))) (mvT hZ (hw _ (List.mem_of_getElem? (i := 36) rfl))) (by decide) (backOf (W := 0) (rm7 l Z a0 hw [] b77_y0 k77_z0 (((0 : Int32) + (1 : Int32)) + n4) (4 : Int32) tl77_t0 T77.heap n0 O77 f77_1 (own_jz hz_n4)) hZ (hw _ (List.mem_of_getElem? (i := 36) rfl)) (hw _ (List.mem_of_getElem? (i := 3) rfl)) (by decide) (by decide)) (g := (mkF m 151 #[.val (.int p0), .val (.int p1), .val (.int p2), .val (.int p3), .val (.int n4), .val (.ref b55), .val (.int (p0 &&& (255 : Int32))), .val (.int (1 : Int32)), .val (.ref b74_y0), .val (.ref b75_y0), .val (.ref b76_y0), .val (.ref b77_y0), .val (.int (1 : Int32))] [(.ref b77_y0)])) rfl (by rw [hml]; rfl) (argsL := [(.ref b77_y0)]) (rest := []) (lenOf own_pd134 rfl) rfl (by show 2 * 0 + _ ≤ _; exact Nat.le_of_eq rfl) (hb hby at_151) (fun _ _ => ⟨rfl, e84, (by decide : 9 + 0 ≤ _), (by decide : 28 + 0 ≤ _)⟩)
        dsimp only [Pt.U, Pt.locs, Pt.cells, Pt.slots] at X86 l86 y86 z86 st86 hQ86
        subst l86 y86 z86
        obtain ⟨rfl, N86q, e86⟩ := hQ86
        have N86 := Fr.app N84 N86q
        refine Go.st (V' := T86.setTop (mkF m 154 #[.val (.int p0), .val (.int p1), .val (.int p2), .val (.int p3), .val (.int n4), .val (.ref b55), .val (.int (p0 &&& (255 : Int32))), .val (.int (1 : Int32)), .val (.ref b74_y0), .val (.ref b75_y0), .val (.ref b76_y0), .val (.ref b77_y0), .val (.int (1 : Int32))] [(.int (f7 (4 : Int32)))])) (fun t k => st86 t k) ?_
        have r87 : (f7 (4 : Int32)) = (0 : Int32) := by rw [f7, if_neg (by decide : ¬ ((4 : Int32) = (2 : Int32))), if_neg (by decide : ¬ ((4 : Int32) = (3 : Int32)))]
        rw [r87]
        refine Go.st (V' := T86.setTop (mkF m 162 #[.val (.int p0), .val (.int p1), .val (.int p2), .val (.int p3), .val (.int n4), .val (.ref b55), .val (.int (p0 &&& (255 : Int32))), .val (.int (1 : Int32)), .val (.ref b74_y0), .val (.ref b75_y0), .val (.ref b76_y0), .val (.ref b77_y0), .val (.int (1 : Int32))] [(.int (1 : Int32))])) (fun t k => ?_) ?_
        · refine XS.ifNo X86.here hx rfl (hb hby at_154) rfl ((if0 _ _).trans (teq (by decide : ((0 : Int32) = (0 : Int32)))).2) ?_
          show Steps p.tables e below (T86.setTop (mkF m 157 #[.val (.int p0), .val (.int p1), .val (.int p2), .val (.int p3), .val (.int n4), .val (.ref b55), .val (.int (p0 &&& (255 : Int32))), .val (.int (1 : Int32)), .val (.ref b74_y0), .val (.ref b75_y0), .val (.ref b76_y0), .val (.ref b77_y0), .val (.int (1 : Int32))] [])) _
          refine XS.iconst X86.here hx rfl (hb hby at_157) ?_
          show Steps p.tables e below (T86.setTop (mkF m 158 #[.val (.int p0), .val (.int p1), .val (.int p2), .val (.int p3), .val (.int n4), .val (.ref b55), .val (.int (p0 &&& (255 : Int32))), .val (.int (1 : Int32)), .val (.ref b74_y0), .val (.ref b75_y0), .val (.ref b76_y0), .val (.ref b77_y0), .val (.int (1 : Int32))] [(.int (1 : Int32))])) _
          refine XS.goto X86.here hx rfl (pc0 := 158) (pc' := 162) rfl (hb hby at_158) (by decide) (by decide) ?_
          show Steps p.tables e below (T86.setTop (mkF m 162 #[.val (.int p0), .val (.int p1), .val (.int p2), .val (.int p3), .val (.int n4), .val (.ref b55), .val (.int (p0 &&& (255 : Int32))), .val (.int (1 : Int32)), .val (.ref b74_y0), .val (.ref b75_y0), .val (.ref b76_y0), .val (.ref b77_y0), .val (.int (1 : Int32))] [(.int (1 : Int32))])) _
          exact k
        obtain ⟨fs, hr, hrun, hended, hW, hsame⟩ := X86.leave (v := some (.int (1 : Int32))) (fun h => by rw [Bd.returns] at h; cases h)
        refine Go.mk' ⟨_, _, retN X86 hx (t := .boolean) Bd.returns (by simp) (hb hby at_162) hr, hrun, hended, _, _, rfl, ?_, ⟨_, rfl⟩, hW, hsame.mono (by decide) (by decide)⟩
        show Q0 Z p0 p1 p2 p3 h0 n0 _ T86.heap _
        rw [e86]
        exact ⟨rfl, N86⟩
      · refine Go.st (V' := Tt.setTop (mkF m 85 #[.val (.int p0), .val (.int p1), .val (.int p2), .val (.int p3), .val (.int n4), .val (.ref b55), .val (.int (p0 &&& (255 : Int32))), .val (.int (0 : Int32)), .unset, .unset, .unset, .unset, .unset] [(.ref b55)])) (fun t k => ?_) ?_
        · refine XS.icmpYes Xt.here hx rfl (pc0 := 73) (pc' := 80) rfl (hb hby at_73) rfl (feq hc73).2 (by decide) (by decide) ?_
          show Steps p.tables e below (Tt.setTop (mkF m 80 #[.val (.int p0), .val (.int p1), .val (.int p2), .val (.int p3), .val (.int n4), .val (.ref b55), .val (.int (p0 &&& (255 : Int32))), .unset, .unset, .unset, .unset, .unset, .unset] [])) _
          refine XS.iconst Xt.here hx rfl (hb hby at_80) ?_
          show Steps p.tables e below (Tt.setTop (mkF m 81 #[.val (.int p0), .val (.int p1), .val (.int p2), .val (.int p3), .val (.int n4), .val (.ref b55), .val (.int (p0 &&& (255 : Int32))), .unset, .unset, .unset, .unset, .unset, .unset] [(.int (0 : Int32))])) _
          refine XS.istore Xt.here hx rfl (hb hby at_81) rfl (l' := #[.val (.int p0), .val (.int p1), .val (.int p2), .val (.int p3), .val (.int n4), .val (.ref b55), .val (.int (p0 &&& (255 : Int32))), .val (.int (0 : Int32)), .unset, .unset, .unset, .unset, .unset]) rfl ?_
          show Steps p.tables e below (Tt.setTop (mkF m 83 #[.val (.int p0), .val (.int p1), .val (.int p2), .val (.int p3), .val (.int n4), .val (.ref b55), .val (.int (p0 &&& (255 : Int32))), .val (.int (0 : Int32)), .unset, .unset, .unset, .unset, .unset] [])) _
          refine XS.aload Xt.here hx rfl (hb hby at_83) rfl rfl ?_
          show Steps p.tables e below (Tt.setTop (mkF m 85 #[.val (.int p0), .val (.int p1), .val (.int p2), .val (.int p3), .val (.int n4), .val (.ref b55), .val (.int (p0 &&& (255 : Int32))), .val (.int (0 : Int32)), .unset, .unset, .unset, .unset, .unset] [(.ref b55)])) _
          exact k
        obtain ⟨_, _, ⟨T88, L88, k88, n88⟩, -, X88, ⟨Lc88, hQ88, l88, y88, z88⟩, st88⟩ := Jvm.LawKit.callS Xt hx (y := (⟨"com/example/rooted_kinds/rootedkinds/storage/Rows", "entity", "([B)[B"⟩ : MethodName)) hown (mvT hZ (hw _ (List.mem_of_getElem? (i := 1) rfl))) (mvT hZ (hw _ (List.mem_of_getElem? (i := 2) rfl))) (mvT hZ (hw _ (List.mem_of_getElem? (i := 3) rfl))) (mvT hZ (hw _ (List.mem_of_getElem? (i := 4) rfl))) (by decide) (backOf (W := 0) (rm1 l Z a0 hw [] b55 k55 n4 (nar .byte (p0.toInt8.toInt32)) vst ht n0 Ot Vt hz_n4 Et) hZ (hw _ (List.mem_of_getElem? (i := 4) rfl)) (hw _ (List.mem_of_getElem? (i := 3) rfl)) (by decide) (by decide)) (g := (mkF m 85 #[.val (.int p0), .val (.int p1), .val (.int p2), .val (.int p3), .val (.int n4), .val (.ref b55), .val (.int (p0 &&& (255 : Int32))), .val (.int (0 : Int32)), .unset, .unset, .unset, .unset, .unset] [(.ref b55)])) rfl (by rw [hml]; rfl) (argsL := [(.ref b55)]) (rest := []) (lenOf own_pd133 rfl) rfl (by show 2 * 0 + _ ≤ _; exact Nat.le_of_eq rfl) (hb hby at_85) (fun _ _ => ⟨rfl, et, (by decide : 1 + 3 ≤ _), (by decide : 4 + 8 ≤ _)⟩)
        dsimp only [Pt.U, Pt.locs, Pt.cells, Pt.slots] at X88 l88 y88 z88 st88 hQ88
        subst l88 y88 z88
        obtain ⟨b88_y0, k88_z0, tl88_t0, rfl, N88q, K88, sz88_y0, f88_0, f88_1⟩ := hQ88
        have N88 := Fr.app Nt N88q
        have O88 := Ot.keep K88 all0
        have g_b88_y0 : n0 ≤ b88_y0 := Nat.le_trans (Nat.le_trans (Nat.le_of_eq Ot.1.symm) Ot.2.1) sz88_y0
        refine Go.st (V' := T88.setTop (mkF m 88 #[.val (.int p0), .val (.int p1), .val (.int p2), .val (.int p3), .val (.int n4), .val (.ref b55), .val (.int (p0 &&& (255 : Int32))), .val (.int (0 : Int32)), .unset, .unset, .unset, .unset, .unset] [(.ref b88_y0)])) (fun t k => st88 t k) ?_
        refine Go.st (V' := T88.setTop (mkF m 92 #[.val (.int p0), .val (.int p1), .val (.int p2), .val (.int p3), .val (.int n4), .val (.ref b55), .val (.int (p0 &&& (255 : Int32))), .val (.int (0 : Int32)), .val (.ref b88_y0), .unset, .unset, .unset, .unset] [(.ref b55)])) (fun t k => ?_) ?_
        · refine XS.astore X88.here hx rfl (hb hby at_88) rfl rfl (l' := #[.val (.int p0), .val (.int p1), .val (.int p2), .val (.int p3), .val (.int n4), .val (.ref b55), .val (.int (p0 &&& (255 : Int32))), .val (.int (0 : Int32)), .val (.ref b88_y0), .unset, .unset, .unset, .unset]) rfl ?_
          show Steps p.tables e below (T88.setTop (mkF m 90 #[.val (.int p0), .val (.int p1), .val (.int p2), .val (.int p3), .val (.int n4), .val (.ref b55), .val (.int (p0 &&& (255 : Int32))), .val (.int (0 : Int32)), .val (.ref b88_y0), .unset, .unset, .unset, .unset] [])) _
          refine XS.aload X88.here hx rfl (hb hby at_90) rfl rfl ?_
          show Steps p.tables e below (T88.setTop (mkF m 92 #[.val (.int p0), .val (.int p1), .val (.int p2), .val (.int p3), .val (.int n4), .val (.ref b55), .val (.int (p0 &&& (255 : Int32))), .val (.int (0 : Int32)), .val (.ref b88_y0), .unset, .unset, .unset, .unset] [(.ref b55)])) _
          exact k
        obtain ⟨_, _, ⟨T89, L89, k89, n89⟩, -, X89, ⟨Lc89, hQ89, l89, y89, z89⟩, st89⟩ := Jvm.LawKit.callS X88 hx (y := (⟨"com/example/rooted_kinds/rootedkinds/storage/Rows", "propertyNames", "([B)[B"⟩ : MethodName)) hown (mvT hZ (hw _ (List.mem_of_getElem? (i := 15) rfl))) (mvT hZ (hw _ (List.mem_of_getElem? (i := 16) rfl))) (mvT hZ (hw _ (List.mem_of_getElem? (i := 3) rfl))) (mvT hZ (hw _ (List.mem_of_getElem? (i := 17) rfl))) (by decide) (backOf (W := 0) (rm3 l Z a0 hw [] b55 k55 n4 (nar .byte (p0.toInt8.toInt32)) vst T88.heap n0 O88 (Vt.keep K88 nin0) hz_n4 (Et.keep K88)) hZ (hw _ (List.mem_of_getElem? (i := 17) rfl)) (hw _ (List.mem_of_getElem? (i := 3) rfl)) (by decide) (by decide)) (g := (mkF m 92 #[.val (.int p0), .val (.int p1), .val (.int p2), .val (.int p3), .val (.int n4), .val (.ref b55), .val (.int (p0 &&& (255 : Int32))), .val (.int (0 : Int32)), .val (.ref b88_y0), .unset, .unset, .unset, .unset] [(.ref b55)])) rfl (by rw [hml]; rfl) (argsL := [(.ref b55)]) (rest := []) (lenOf own_pd133 rfl) rfl (by show 2 * 0 + _ ≤ _; exact Nat.le_of_eq rfl) (hb hby at_92) (fun _ _ => ⟨rfl, rfl, (by decide : 4 + 1 ≤ _), (by decide : 12 + 4 ≤ _)⟩)
        dsimp only [Pt.U, Pt.locs, Pt.cells, Pt.slots] at X89 l89 y89 z89 st89 hQ89
        subst l89 y89 z89
        obtain ⟨b89_y0, rfl, N89q, K89, sz89_y0, f89_0, f89_1⟩ := hQ89
        have N89 := Fr.app N88 N89q
        have O89 := O88.keep K89 all0
        have g_b89_y0 : n0 ≤ b89_y0 := Nat.le_trans (Nat.le_trans (Nat.le_of_eq O88.1.symm) O88.2.1) sz89_y0
        refine Go.st (V' := T89.setTop (mkF m 95 #[.val (.int p0), .val (.int p1), .val (.int p2), .val (.int p3), .val (.int n4), .val (.ref b55), .val (.int (p0 &&& (255 : Int32))), .val (.int (0 : Int32)), .val (.ref b88_y0), .unset, .unset, .unset, .unset] [(.ref b89_y0)])) (fun t k => st89 t k) ?_
        refine Go.st (V' := T89.setTop (mkF m 99 #[.val (.int p0), .val (.int p1), .val (.int p2), .val (.int p3), .val (.int n4), .val (.ref b55), .val (.int (p0 &&& (255 : Int32))), .val (.int (0 : Int32)), .val (.ref b88_y0), .val (.ref b89_y0), .unset, .unset, .unset] [(.ref b55)])) (fun t k => ?_) ?_
        · refine XS.astore X89.here hx rfl (hb hby at_95) rfl rfl (l' := #[.val (.int p0), .val (.int p1), .val (.int p2), .val (.int p3), .val (.int n4), .val (.ref b55), .val (.int (p0 &&& (255 : Int32))), .val (.int (0 : Int32)), .val (.ref b88_y0), .val (.ref b89_y0), .unset, .unset, .unset]) rfl ?_
          show Steps p.tables e below (T89.setTop (mkF m 97 #[.val (.int p0), .val (.int p1), .val (.int p2), .val (.int p3), .val (.int n4), .val (.ref b55), .val (.int (p0 &&& (255 : Int32))), .val (.int (0 : Int32)), .val (.ref b88_y0), .val (.ref b89_y0), .unset, .unset, .unset] [])) _
          refine XS.aload X89.here hx rfl (hb hby at_97) rfl rfl ?_
          show Steps p.tables e below (T89.setTop (mkF m 99 #[.val (.int p0), .val (.int p1), .val (.int p2), .val (.int p3), .val (.int n4), .val (.ref b55), .val (.int (p0 &&& (255 : Int32))), .val (.int (0 : Int32)), .val (.ref b88_y0), .val (.ref b89_y0), .unset, .unset, .unset] [(.ref b55)])) _
          exact k
        obtain ⟨_, _, ⟨T90, L90, k90, n90⟩, -, X90, ⟨Lc90, hQ90, l90, y90, z90⟩, st90⟩ := Jvm.LawKit.callS X89 hx (y := (⟨"com/example/rooted_kinds/rootedkinds/storage/Rows", "counts", "([B)[B"⟩ : MethodName)) hown (mvT hZ (hw _ (List.mem_of_getElem? (i := 28) rfl))) (mvT hZ (hw _ (List.mem_of_getElem? (i := 29) rfl))) (mvT hZ (hw _ (List.mem_of_getElem? (i := 3) rfl))) (mvT hZ (hw _ (List.mem_of_getElem? (i := 30) rfl))) (by decide) (backOf (W := 0) (rm5n l Z a0 hw [] b55 k55 n4 (nar .byte (p0.toInt8.toInt32)) vst T89.heap n0 O89 ((Vt.keep K88 nin0).keep K89 nin0) hz_n4 (fun q => hc58 ((own_b p0 (2 : Int32) (by decide)).mp q)) ((Et.keep K88).keep K89)) hZ (hw _ (List.mem_of_getElem? (i := 30) rfl)) (hw _ (List.mem_of_getElem? (i := 3) rfl)) (by decide) (by decide)) (g := (mkF m 99 #[.val (.int p0), .val (.int p1), .val (.int p2), .val (.int p3), .val (.int n4), .val (.ref b55), .val (.int (p0 &&& (255 : Int32))), .val (.int (0 : Int32)), .val (.ref b88_y0), .val (.ref b89_y0), .unset, .unset, .unset] [(.ref b55)])) rfl (by rw [hml]; rfl) (argsL := [(.ref b55)]) (rest := []) (lenOf own_pd133 rfl) rfl (by show 2 * 0 + _ ≤ _; exact Nat.le_of_eq rfl) (hb hby at_99) (fun _ _ => ⟨rfl, rfl, (by decide : 5 + 1 ≤ _), (by decide : 16 + 4 ≤ _)⟩)
        dsimp only [Pt.U, Pt.locs, Pt.cells, Pt.slots] at X90 l90 y90 z90 st90 hQ90
        subst l90 y90 z90
        obtain ⟨b90_y0, rfl, N90q, K90, sz90_y0, f90_0, f90_1⟩ := hQ90
        have N90 := Fr.app N89 N90q
        have O90 := O89.keep K90 all0
        have g_b90_y0 : n0 ≤ b90_y0 := Nat.le_trans (Nat.le_trans (Nat.le_of_eq O89.1.symm) O89.2.1) sz90_y0
        refine Go.st (V' := T90.setTop (mkF m 102 #[.val (.int p0), .val (.int p1), .val (.int p2), .val (.int p3), .val (.int n4), .val (.ref b55), .val (.int (p0 &&& (255 : Int32))), .val (.int (0 : Int32)), .val (.ref b88_y0), .val (.ref b89_y0), .unset, .unset, .unset] [(.ref b90_y0)])) (fun t k => st90 t k) ?_
        refine Go.st (V' := T90.setTop (mkF m 106 #[.val (.int p0), .val (.int p1), .val (.int p2), .val (.int p3), .val (.int n4), .val (.ref b55), .val (.int (p0 &&& (255 : Int32))), .val (.int (0 : Int32)), .val (.ref b88_y0), .val (.ref b89_y0), .val (.ref b90_y0), .unset, .unset] [(.ref b55)])) (fun t k => ?_) ?_
        · refine XS.astore X90.here hx rfl (hb hby at_102) rfl rfl (l' := #[.val (.int p0), .val (.int p1), .val (.int p2), .val (.int p3), .val (.int n4), .val (.ref b55), .val (.int (p0 &&& (255 : Int32))), .val (.int (0 : Int32)), .val (.ref b88_y0), .val (.ref b89_y0), .val (.ref b90_y0), .unset, .unset]) rfl ?_
          show Steps p.tables e below (T90.setTop (mkF m 104 #[.val (.int p0), .val (.int p1), .val (.int p2), .val (.int p3), .val (.int n4), .val (.ref b55), .val (.int (p0 &&& (255 : Int32))), .val (.int (0 : Int32)), .val (.ref b88_y0), .val (.ref b89_y0), .val (.ref b90_y0), .unset, .unset] [])) _
          refine XS.aload X90.here hx rfl (hb hby at_104) rfl rfl ?_
          show Steps p.tables e below (T90.setTop (mkF m 106 #[.val (.int p0), .val (.int p1), .val (.int p2), .val (.int p3), .val (.int n4), .val (.ref b55), .val (.int (p0 &&& (255 : Int32))), .val (.int (0 : Int32)), .val (.ref b88_y0), .val (.ref b89_y0), .val (.ref b90_y0), .unset, .unset] [(.ref b55)])) _
          exact k
        obtain ⟨_, _, ⟨T91, L91, k91, n91⟩, -, X91, ⟨Lc91, hQ91, l91, y91, z91⟩, st91⟩ := Jvm.LawKit.callS X90 hx (y := (⟨"com/example/rooted_kinds/rootedkinds/storage/Rows", "groupVersion", "([B)[B"⟩ : MethodName)) hown (mvT hZ (hw _ (List.mem_of_getElem? (i := 31) rfl))) (mvT hZ (hw _ (List.mem_of_getElem? (i := 32) rfl))) (mvT hZ (hw _ (List.mem_of_getElem? (i := 3) rfl))) (mvT hZ (hw _ (List.mem_of_getElem? (i := 33) rfl))) (by decide) (backOf (W := 0) (rm6 l Z a0 hw [] b55 k55 n4 (nar .byte (p0.toInt8.toInt32)) vst T90.heap n0 O90 (((Vt.keep K88 nin0).keep K89 nin0).keep K90 nin0) hz_n4 (((Et.keep K88).keep K89).keep K90)) hZ (hw _ (List.mem_of_getElem? (i := 33) rfl)) (hw _ (List.mem_of_getElem? (i := 3) rfl)) (by decide) (by decide)) (g := (mkF m 106 #[.val (.int p0), .val (.int p1), .val (.int p2), .val (.int p3), .val (.int n4), .val (.ref b55), .val (.int (p0 &&& (255 : Int32))), .val (.int (0 : Int32)), .val (.ref b88_y0), .val (.ref b89_y0), .val (.ref b90_y0), .unset, .unset] [(.ref b55)])) rfl (by rw [hml]; rfl) (argsL := [(.ref b55)]) (rest := []) (lenOf own_pd133 rfl) rfl (by show 2 * 0 + _ ≤ _; exact Nat.le_of_eq rfl) (hb hby at_106) (fun _ _ => ⟨rfl, rfl, (by decide : 6 + 3 ≤ _), (by decide : 20 + 8 ≤ _)⟩)
        dsimp only [Pt.U, Pt.locs, Pt.cells, Pt.slots] at X91 l91 y91 z91 st91 hQ91
        subst l91 y91 z91
        obtain ⟨b91_y0, k91_z0, tl91_t0, rfl, N91q, K91, sz91_y0, f91_0, f91_1⟩ := hQ91
        have N91 := Fr.app N90 N91q
        have O91 := O90.keep K91 all0
        have g_b91_y0 : n0 ≤ b91_y0 := Nat.le_trans (Nat.le_trans (Nat.le_of_eq O90.1.symm) O90.2.1) sz91_y0
        refine Go.st (V' := T91.setTop (mkF m 109 #[.val (.int p0), .val (.int p1), .val (.int p2), .val (.int p3), .val (.int n4), .val (.ref b55), .val (.int (p0 &&& (255 : Int32))), .val (.int (0 : Int32)), .val (.ref b88_y0), .val (.ref b89_y0), .val (.ref b90_y0), .unset, .unset] [(.ref b91_y0)])) (fun t k => st91 t k) ?_
        refine Go.st (V' := T91.setTop (mkF m 113 #[.val (.int p0), .val (.int p1), .val (.int p2), .val (.int p3), .val (.int n4), .val (.ref b55), .val (.int (p0 &&& (255 : Int32))), .val (.int (0 : Int32)), .val (.ref b88_y0), .val (.ref b89_y0), .val (.ref b90_y0), .val (.ref b91_y0), .unset] [(.ref b55)])) (fun t k => ?_) ?_
        · refine XS.astore X91.here hx rfl (hb hby at_109) rfl rfl (l' := #[.val (.int p0), .val (.int p1), .val (.int p2), .val (.int p3), .val (.int n4), .val (.ref b55), .val (.int (p0 &&& (255 : Int32))), .val (.int (0 : Int32)), .val (.ref b88_y0), .val (.ref b89_y0), .val (.ref b90_y0), .val (.ref b91_y0), .unset]) rfl ?_
          show Steps p.tables e below (T91.setTop (mkF m 111 #[.val (.int p0), .val (.int p1), .val (.int p2), .val (.int p3), .val (.int n4), .val (.ref b55), .val (.int (p0 &&& (255 : Int32))), .val (.int (0 : Int32)), .val (.ref b88_y0), .val (.ref b89_y0), .val (.ref b90_y0), .val (.ref b91_y0), .unset] [])) _
          refine XS.aload X91.here hx rfl (hb hby at_111) rfl rfl ?_
          show Steps p.tables e below (T91.setTop (mkF m 113 #[.val (.int p0), .val (.int p1), .val (.int p2), .val (.int p3), .val (.int n4), .val (.ref b55), .val (.int (p0 &&& (255 : Int32))), .val (.int (0 : Int32)), .val (.ref b88_y0), .val (.ref b89_y0), .val (.ref b90_y0), .val (.ref b91_y0), .unset] [(.ref b55)])) _
          exact k
        obtain ⟨_, _, ⟨T92, L92, k92, n92⟩, -, X92, ⟨Lc92, hQ92, l92, y92, z92⟩, st92⟩ := Jvm.LawKit.callS X91 hx (y := (⟨"com/example/rooted_kinds/rootedkinds/storage/Rows", "holdsRecord", "([B)Z"⟩ : MethodName)) hown (mvT hZ (hw _ (List.mem_of_getElem? (i := 34) rfl))) (mvT hZ (hw _ (List.mem_of_getElem? (i := 35) rfl))) (mvT hZ (hw _ (List.mem_of_getElem? (i := 3) rfl))) (mvT hZ (hw _ (List.mem_of_getElem? (i := 36) rfl))) (by decide) (backOf (W := 0) (rm7 l Z a0 hw [] b55 k55 n4 (nar .byte (p0.toInt8.toInt32)) vst T91.heap n0 O91 ((((Vt.keep K88 nin0).keep K89 nin0).keep K90 nin0).keep K91 nin0) (own_z0 hz_n4)) hZ (hw _ (List.mem_of_getElem? (i := 36) rfl)) (hw _ (List.mem_of_getElem? (i := 3) rfl)) (by decide) (by decide)) (g := (mkF m 113 #[.val (.int p0), .val (.int p1), .val (.int p2), .val (.int p3), .val (.int n4), .val (.ref b55), .val (.int (p0 &&& (255 : Int32))), .val (.int (0 : Int32)), .val (.ref b88_y0), .val (.ref b89_y0), .val (.ref b90_y0), .val (.ref b91_y0), .unset] [(.ref b55)])) rfl (by rw [hml]; rfl) (argsL := [(.ref b55)]) (rest := []) (lenOf own_pd134 rfl) rfl (by show 2 * 0 + _ ≤ _; exact Nat.le_of_eq rfl) (hb hby at_113) (fun _ _ => ⟨rfl, rfl, (by decide : 9 + 0 ≤ _), (by decide : 28 + 0 ≤ _)⟩)
        dsimp only [Pt.U, Pt.locs, Pt.cells, Pt.slots] at X92 l92 y92 z92 st92 hQ92
        subst l92 y92 z92
        obtain ⟨rfl, N92q, e92⟩ := hQ92
        have N92 := Fr.app N91 N92q
        refine Go.st (V' := T92.setTop (mkF m 116 #[.val (.int p0), .val (.int p1), .val (.int p2), .val (.int p3), .val (.int n4), .val (.ref b55), .val (.int (p0 &&& (255 : Int32))), .val (.int (0 : Int32)), .val (.ref b88_y0), .val (.ref b89_y0), .val (.ref b90_y0), .val (.ref b91_y0), .unset] [(.int (f7 (nar .byte (p0.toInt8.toInt32))))])) (fun t k => st92 t k) ?_
        have r93 : (f7 (nar .byte (p0.toInt8.toInt32))) = (0 : Int32) := by rw [f7, if_neg (fun q => hc58 ((own_b p0 (2 : Int32) (by decide)).mp q)), if_neg (fun q => hc73 ((own_b p0 (3 : Int32) (by decide)).mp q))]
        rw [r93]
        refine Go.st (V' := T92.setTop (mkF m 127 #[.val (.int p0), .val (.int p1), .val (.int p2), .val (.int p3), .val (.int n4), .val (.ref b55), .val (.int (p0 &&& (255 : Int32))), .val (.int (0 : Int32)), .val (.ref b88_y0), .val (.ref b89_y0), .val (.ref b90_y0), .val (.ref b91_y0), .val (.int (0 : Int32))] [(.ref b88_y0)])) (fun t k => ?_) ?_
        · refine XS.istore X92.here hx rfl (hb hby at_116) rfl (l' := #[.val (.int p0), .val (.int p1), .val (.int p2), .val (.int p3), .val (.int n4), .val (.ref b55), .val (.int (p0 &&& (255 : Int32))), .val (.int (0 : Int32)), .val (.ref b88_y0), .val (.ref b89_y0), .val (.ref b90_y0), .val (.ref b91_y0), .val (.int (0 : Int32))]) rfl ?_
          show Steps p.tables e below (T92.setTop (mkF m 118 #[.val (.int p0), .val (.int p1), .val (.int p2), .val (.int p3), .val (.int n4), .val (.ref b55), .val (.int (p0 &&& (255 : Int32))), .val (.int (0 : Int32)), .val (.ref b88_y0), .val (.ref b89_y0), .val (.ref b90_y0), .val (.ref b91_y0), .val (.int (0 : Int32))] [])) _
          refine XS.iload X92.here hx rfl (hb hby at_118) rfl  ?_
          show Steps p.tables e below (T92.setTop (mkF m 120 #[.val (.int p0), .val (.int p1), .val (.int p2), .val (.int p3), .val (.int n4), .val (.ref b55), .val (.int (p0 &&& (255 : Int32))), .val (.int (0 : Int32)), .val (.ref b88_y0), .val (.ref b89_y0), .val (.ref b90_y0), .val (.ref b91_y0), .val (.int (0 : Int32))] [(.int (0 : Int32))])) _
          refine XS.iload X92.here hx rfl (hb hby at_120) rfl  ?_
          show Steps p.tables e below (T92.setTop (mkF m 122 #[.val (.int p0), .val (.int p1), .val (.int p2), .val (.int p3), .val (.int n4), .val (.ref b55), .val (.int (p0 &&& (255 : Int32))), .val (.int (0 : Int32)), .val (.ref b88_y0), .val (.ref b89_y0), .val (.ref b90_y0), .val (.ref b91_y0), .val (.int (0 : Int32))] [(.int (0 : Int32)), (.int (0 : Int32))])) _
          refine XS.icmpNo X92.here hx rfl (hb hby at_122) rfl (teq (by decide : ((0 : Int32) = (0 : Int32)))).2 ?_
          show Steps p.tables e below (T92.setTop (mkF m 125 #[.val (.int p0), .val (.int p1), .val (.int p2), .val (.int p3), .val (.int n4), .val (.ref b55), .val (.int (p0 &&& (255 : Int32))), .val (.int (0 : Int32)), .val (.ref b88_y0), .val (.ref b89_y0), .val (.ref b90_y0), .val (.ref b91_y0), .val (.int (0 : Int32))] [])) _
          refine XS.aload X92.here hx rfl (hb hby at_125) rfl rfl ?_
          show Steps p.tables e below (T92.setTop (mkF m 127 #[.val (.int p0), .val (.int p1), .val (.int p2), .val (.int p3), .val (.int n4), .val (.ref b55), .val (.int (p0 &&& (255 : Int32))), .val (.int (0 : Int32)), .val (.ref b88_y0), .val (.ref b89_y0), .val (.ref b90_y0), .val (.ref b91_y0), .val (.int (0 : Int32))] [(.ref b88_y0)])) _
          exact k
        obtain ⟨_, _, ⟨T94, L94, k94, n94⟩, -, X94, ⟨Lc94, hQ94, l94, y94, z94⟩, st94⟩ := Jvm.LawKit.callS X92 hx (y := (⟨"com/example/rooted_kinds/rootedkinds/storage/Rows", "holdsRecord", "([B)Z"⟩ : MethodName)) hown (mvT hZ (hw _ (List.mem_of_getElem? (i := 34) rfl))) (mvT hZ (hw _ (List.mem_of_getElem? (i := 35) rfl))) (mvT hZ (hw _ (List.mem_of_getElem? (i := 3) rfl))) (mvT hZ (hw _ (List.mem_of_getElem? (i := 36) rfl))) (by decide) (backOf (W := 0) (rm7 l Z a0 hw [] b88_y0 k88_z0 (((0 : Int32) + (1 : Int32)) + n4) (1 : Int32) tl88_t0 T91.heap n0 O91 (((f88_1.keep K89 nin0).keep K90 nin0).keep K91 nin0) (own_jz hz_n4)) hZ (hw _ (List.mem_of_getElem? (i := 36) rfl)) (hw _ (List.mem_of_getElem? (i := 3) rfl)) (by decide) (by decide)) (g := (mkF m 127 #[.val (.int p0), .val (.int p1), .val (.int p2), .val (.int p3), .val (.int n4), .val (.ref b55), .val (.int (p0 &&& (255 : Int32))), .val (.int (0 : Int32)), .val (.ref b88_y0), .val (.ref b89_y0), .val (.ref b90_y0), .val (.ref b91_y0), .val (.int (0 : Int32))] [(.ref b88_y0)])) rfl (by rw [hml]; rfl) (argsL := [(.ref b88_y0)]) (rest := []) (lenOf own_pd134 rfl) rfl (by show 2 * 0 + _ ≤ _; exact Nat.le_of_eq rfl) (hb hby at_127) (fun _ _ => ⟨rfl, e92, (by decide : 9 + 0 ≤ _), (by decide : 28 + 0 ≤ _)⟩)
        dsimp only [Pt.U, Pt.locs, Pt.cells, Pt.slots] at X94 l94 y94 z94 st94 hQ94
        subst l94 y94 z94
        obtain ⟨rfl, N94q, e94⟩ := hQ94
        have N94 := Fr.app N92 N94q
        refine Go.st (V' := T94.setTop (mkF m 130 #[.val (.int p0), .val (.int p1), .val (.int p2), .val (.int p3), .val (.int n4), .val (.ref b55), .val (.int (p0 &&& (255 : Int32))), .val (.int (0 : Int32)), .val (.ref b88_y0), .val (.ref b89_y0), .val (.ref b90_y0), .val (.ref b91_y0), .val (.int (0 : Int32))] [(.int (f7 (1 : Int32)))])) (fun t k => st94 t k) ?_
        have r95 : (f7 (1 : Int32)) = (0 : Int32) := by rw [f7, if_neg (by decide : ¬ ((1 : Int32) = (2 : Int32))), if_neg (by decide : ¬ ((1 : Int32) = (3 : Int32)))]
        rw [r95]
        refine Go.st (V' := T94.setTop (mkF m 135 #[.val (.int p0), .val (.int p1), .val (.int p2), .val (.int p3), .val (.int n4), .val (.ref b55), .val (.int (p0 &&& (255 : Int32))), .val (.int (0 : Int32)), .val (.ref b88_y0), .val (.ref b89_y0), .val (.ref b90_y0), .val (.ref b91_y0), .val (.int (0 : Int32))] [(.ref b89_y0)])) (fun t k => ?_) ?_
        · refine XS.ifNo X94.here hx rfl (hb hby at_130) rfl ((if0 _ _).trans (teq (by decide : ((0 : Int32) = (0 : Int32)))).2) ?_
          show Steps p.tables e below (T94.setTop (mkF m 133 #[.val (.int p0), .val (.int p1), .val (.int p2), .val (.int p3), .val (.int n4), .val (.ref b55), .val (.int (p0 &&& (255 : Int32))), .val (.int (0 : Int32)), .val (.ref b88_y0), .val (.ref b89_y0), .val (.ref b90_y0), .val (.ref b91_y0), .val (.int (0 : Int32))] [])) _
          refine XS.aload X94.here hx rfl (hb hby at_133) rfl rfl ?_
          show Steps p.tables e below (T94.setTop (mkF m 135 #[.val (.int p0), .val (.int p1), .val (.int p2), .val (.int p3), .val (.int n4), .val (.ref b55), .val (.int (p0 &&& (255 : Int32))), .val (.int (0 : Int32)), .val (.ref b88_y0), .val (.ref b89_y0), .val (.ref b90_y0), .val (.ref b91_y0), .val (.int (0 : Int32))] [(.ref b89_y0)])) _
          exact k
        obtain ⟨_, _, ⟨T96, L96, k96, n96⟩, -, X96, ⟨Lc96, hQ96, l96, y96, z96⟩, st96⟩ := Jvm.LawKit.callS X94 hx (y := (⟨"com/example/rooted_kinds/rootedkinds/storage/Rows", "holdsRecord", "([B)Z"⟩ : MethodName)) hown (mvT hZ (hw _ (List.mem_of_getElem? (i := 34) rfl))) (mvT hZ (hw _ (List.mem_of_getElem? (i := 35) rfl))) (mvT hZ (hw _ (List.mem_of_getElem? (i := 3) rfl))) (mvT hZ (hw _ (List.mem_of_getElem? (i := 36) rfl))) (by decide) (backOf (W := 0) (rm7 l Z a0 hw [] b89_y0 k55 n4 (6 : Int32) vst T91.heap n0 O91 ((f89_0.keep K90 nin0).keep K91 nin0) (own_z0 hz_n4)) hZ (hw _ (List.mem_of_getElem? (i := 36) rfl)) (hw _ (List.mem_of_getElem? (i := 3) rfl)) (by decide) (by decide)) (g := (mkF m 135 #[.val (.int p0), .val (.int p1), .val (.int p2), .val (.int p3), .val (.int n4), .val (.ref b55), .val (.int (p0 &&& (255 : Int32))), .val (.int (0 : Int32)), .val (.ref b88_y0), .val (.ref b89_y0), .val (.ref b90_y0), .val (.ref b91_y0), .val (.int (0 : Int32))] [(.ref b89_y0)])) rfl (by rw [hml]; rfl) (argsL := [(.ref b89_y0)]) (rest := []) (lenOf own_pd134 rfl) rfl (by show 2 * 0 + _ ≤ _; exact Nat.le_of_eq rfl) (hb hby at_135) (fun _ _ => ⟨rfl, e94, (by decide : 9 + 0 ≤ _), (by decide : 28 + 0 ≤ _)⟩)
        dsimp only [Pt.U, Pt.locs, Pt.cells, Pt.slots] at X96 l96 y96 z96 st96 hQ96
        subst l96 y96 z96
        obtain ⟨rfl, N96q, e96⟩ := hQ96
        have N96 := Fr.app N94 N96q
        refine Go.st (V' := T96.setTop (mkF m 138 #[.val (.int p0), .val (.int p1), .val (.int p2), .val (.int p3), .val (.int n4), .val (.ref b55), .val (.int (p0 &&& (255 : Int32))), .val (.int (0 : Int32)), .val (.ref b88_y0), .val (.ref b89_y0), .val (.ref b90_y0), .val (.ref b91_y0), .val (.int (0 : Int32))] [(.int (f7 (6 : Int32)))])) (fun t k => st96 t k) ?_
        have r97 : (f7 (6 : Int32)) = (0 : Int32) := by rw [f7, if_neg (by decide : ¬ ((6 : Int32) = (2 : Int32))), if_neg (by decide : ¬ ((6 : Int32) = (3 : Int32)))]
        rw [r97]
        refine Go.st (V' := T96.setTop (mkF m 143 #[.val (.int p0), .val (.int p1), .val (.int p2), .val (.int p3), .val (.int n4), .val (.ref b55), .val (.int (p0 &&& (255 : Int32))), .val (.int (0 : Int32)), .val (.ref b88_y0), .val (.ref b89_y0), .val (.ref b90_y0), .val (.ref b91_y0), .val (.int (0 : Int32))] [(.ref b90_y0)])) (fun t k => ?_) ?_
        · refine XS.ifNo X96.here hx rfl (hb hby at_138) rfl ((if0 _ _).trans (teq (by decide : ((0 : Int32) = (0 : Int32)))).2) ?_
          show Steps p.tables e below (T96.setTop (mkF m 141 #[.val (.int p0), .val (.int p1), .val (.int p2), .val (.int p3), .val (.int n4), .val (.ref b55), .val (.int (p0 &&& (255 : Int32))), .val (.int (0 : Int32)), .val (.ref b88_y0), .val (.ref b89_y0), .val (.ref b90_y0), .val (.ref b91_y0), .val (.int (0 : Int32))] [])) _
          refine XS.aload X96.here hx rfl (hb hby at_141) rfl rfl ?_
          show Steps p.tables e below (T96.setTop (mkF m 143 #[.val (.int p0), .val (.int p1), .val (.int p2), .val (.int p3), .val (.int n4), .val (.ref b55), .val (.int (p0 &&& (255 : Int32))), .val (.int (0 : Int32)), .val (.ref b88_y0), .val (.ref b89_y0), .val (.ref b90_y0), .val (.ref b91_y0), .val (.int (0 : Int32))] [(.ref b90_y0)])) _
          exact k
        obtain ⟨_, _, ⟨T98, L98, k98, n98⟩, -, X98, ⟨Lc98, hQ98, l98, y98, z98⟩, st98⟩ := Jvm.LawKit.callS X96 hx (y := (⟨"com/example/rooted_kinds/rootedkinds/storage/Rows", "holdsRecord", "([B)Z"⟩ : MethodName)) hown (mvT hZ (hw _ (List.mem_of_getElem? (i := 34) rfl))) (mvT hZ (hw _ (List.mem_of_getElem? (i := 35) rfl))) (mvT hZ (hw _ (List.mem_of_getElem? (i := 3) rfl))) (mvT hZ (hw _ (List.mem_of_getElem? (i := 36) rfl))) (by decide) (backOf (W := 0) (rm7 l Z a0 hw [] b90_y0 k55 n4 (7 : Int32) vst T91.heap n0 O91 (f90_0.keep K91 nin0) (own_z0 hz_n4)) hZ (hw _ (List.mem_of_getElem? (i := 36) rfl)) (hw _ (List.mem_of_getElem? (i := 3) rfl)) (by decide) (by decide)) (g := (mkF m 143 #[.val (.int p0), .val (.int p1), .val (.int p2), .val (.int p3), .val (.int n4), .val (.ref b55), .val (.int (p0 &&& (255 : Int32))), .val (.int (0 : Int32)), .val (.ref b88_y0), .val (.ref b89_y0), .val (.ref b90_y0), .val (.ref b91_y0), .val (.int (0 : Int32))] [(.ref b90_y0)])) rfl (by rw [hml]; rfl) (argsL := [(.ref b90_y0)]) (rest := []) (lenOf own_pd134 rfl) rfl (by show 2 * 0 + _ ≤ _; exact Nat.le_of_eq rfl) (hb hby at_143) (fun _ _ => ⟨rfl, e96, (by decide : 9 + 0 ≤ _), (by decide : 28 + 0 ≤ _)⟩)
        dsimp only [Pt.U, Pt.locs, Pt.cells, Pt.slots] at X98 l98 y98 z98 st98 hQ98
        subst l98 y98 z98
        obtain ⟨rfl, N98q, e98⟩ := hQ98
        have N98 := Fr.app N96 N98q
        refine Go.st (V' := T98.setTop (mkF m 146 #[.val (.int p0), .val (.int p1), .val (.int p2), .val (.int p3), .val (.int n4), .val (.ref b55), .val (.int (p0 &&& (255 : Int32))), .val (.int (0 : Int32)), .val (.ref b88_y0), .val (.ref b89_y0), .val (.ref b90_y0), .val (.ref b91_y0), .val (.int (0 : Int32))] [(.int (f7 (7 : Int32)))])) (fun t k => st98 t k) ?_
        have r99 : (f7 (7 : Int32)) = (0 : Int32) := by rw [f7, if_neg (by decide : ¬ ((7 : Int32) = (2 : Int32))), if_neg (by decide : ¬ ((7 : Int32) = (3 : Int32)))]
        rw [r99]
        refine Go.st (V' := T98.setTop (mkF m 151 #[.val (.int p0), .val (.int p1), .val (.int p2), .val (.int p3), .val (.int n4), .val (.ref b55), .val (.int (p0 &&& (255 : Int32))), .val (.int (0 : Int32)), .val (.ref b88_y0), .val (.ref b89_y0), .val (.ref b90_y0), .val (.ref b91_y0), .val (.int (0 : Int32))] [(.ref b91_y0)])) (fun t k => ?_) ?_
        · refine XS.ifNo X98.here hx rfl (hb hby at_146) rfl ((if0 _ _).trans (teq (by decide : ((0 : Int32) = (0 : Int32)))).2) ?_
          show Steps p.tables e below (T98.setTop (mkF m 149 #[.val (.int p0), .val (.int p1), .val (.int p2), .val (.int p3), .val (.int n4), .val (.ref b55), .val (.int (p0 &&& (255 : Int32))), .val (.int (0 : Int32)), .val (.ref b88_y0), .val (.ref b89_y0), .val (.ref b90_y0), .val (.ref b91_y0), .val (.int (0 : Int32))] [])) _
          refine XS.aload X98.here hx rfl (hb hby at_149) rfl rfl ?_
          show Steps p.tables e below (T98.setTop (mkF m 151 #[.val (.int p0), .val (.int p1), .val (.int p2), .val (.int p3), .val (.int n4), .val (.ref b55), .val (.int (p0 &&& (255 : Int32))), .val (.int (0 : Int32)), .val (.ref b88_y0), .val (.ref b89_y0), .val (.ref b90_y0), .val (.ref b91_y0), .val (.int (0 : Int32))] [(.ref b91_y0)])) _
          exact k
        obtain ⟨_, _, ⟨T100, L100, k100, n100⟩, -, X100, ⟨Lc100, hQ100, l100, y100, z100⟩, st100⟩ := Jvm.LawKit.callS X98 hx (y := (⟨"com/example/rooted_kinds/rootedkinds/storage/Rows", "holdsRecord", "([B)Z"⟩ : MethodName)) hown (mvT hZ (hw _ (List.mem_of_getElem? (i := 34) rfl))) (mvT hZ (hw _ (List.mem_of_getElem? (i := 35) rfl))) (mvT hZ (hw _ (List.mem_of_getElem? (i := 3) rfl))) (mvT hZ (hw _ (List.mem_of_getElem? (i := 36) rfl))) (by decide) (backOf (W := 0) (rm7 l Z a0 hw [] b91_y0 k91_z0 (((0 : Int32) + (1 : Int32)) + n4) (4 : Int32) tl91_t0 T91.heap n0 O91 f91_1 (own_jz hz_n4)) hZ (hw _ (List.mem_of_getElem? (i := 36) rfl)) (hw _ (List.mem_of_getElem? (i := 3) rfl)) (by decide) (by decide)) (g := (mkF m 151 #[.val (.int p0), .val (.int p1), .val (.int p2), .val (.int p3), .val (.int n4), .val (.ref b55), .val (.int (p0 &&& (255 : Int32))), .val (.int (0 : Int32)), .val (.ref b88_y0), .val (.ref b89_y0), .val (.ref b90_y0), .val (.ref b91_y0), .val (.int (0 : Int32))] [(.ref b91_y0)])) rfl (by rw [hml]; rfl) (argsL := [(.ref b91_y0)]) (rest := []) (lenOf own_pd134 rfl) rfl (by show 2 * 0 + _ ≤ _; exact Nat.le_of_eq rfl) (hb hby at_151) (fun _ _ => ⟨rfl, e98, (by decide : 9 + 0 ≤ _), (by decide : 28 + 0 ≤ _)⟩)
        dsimp only [Pt.U, Pt.locs, Pt.cells, Pt.slots] at X100 l100 y100 z100 st100 hQ100
        subst l100 y100 z100
        obtain ⟨rfl, N100q, e100⟩ := hQ100
        have N100 := Fr.app N98 N100q
        refine Go.st (V' := T100.setTop (mkF m 154 #[.val (.int p0), .val (.int p1), .val (.int p2), .val (.int p3), .val (.int n4), .val (.ref b55), .val (.int (p0 &&& (255 : Int32))), .val (.int (0 : Int32)), .val (.ref b88_y0), .val (.ref b89_y0), .val (.ref b90_y0), .val (.ref b91_y0), .val (.int (0 : Int32))] [(.int (f7 (4 : Int32)))])) (fun t k => st100 t k) ?_
        have r101 : (f7 (4 : Int32)) = (0 : Int32) := by rw [f7, if_neg (by decide : ¬ ((4 : Int32) = (2 : Int32))), if_neg (by decide : ¬ ((4 : Int32) = (3 : Int32)))]
        rw [r101]
        refine Go.st (V' := T100.setTop (mkF m 162 #[.val (.int p0), .val (.int p1), .val (.int p2), .val (.int p3), .val (.int n4), .val (.ref b55), .val (.int (p0 &&& (255 : Int32))), .val (.int (0 : Int32)), .val (.ref b88_y0), .val (.ref b89_y0), .val (.ref b90_y0), .val (.ref b91_y0), .val (.int (0 : Int32))] [(.int (1 : Int32))])) (fun t k => ?_) ?_
        · refine XS.ifNo X100.here hx rfl (hb hby at_154) rfl ((if0 _ _).trans (teq (by decide : ((0 : Int32) = (0 : Int32)))).2) ?_
          show Steps p.tables e below (T100.setTop (mkF m 157 #[.val (.int p0), .val (.int p1), .val (.int p2), .val (.int p3), .val (.int n4), .val (.ref b55), .val (.int (p0 &&& (255 : Int32))), .val (.int (0 : Int32)), .val (.ref b88_y0), .val (.ref b89_y0), .val (.ref b90_y0), .val (.ref b91_y0), .val (.int (0 : Int32))] [])) _
          refine XS.iconst X100.here hx rfl (hb hby at_157) ?_
          show Steps p.tables e below (T100.setTop (mkF m 158 #[.val (.int p0), .val (.int p1), .val (.int p2), .val (.int p3), .val (.int n4), .val (.ref b55), .val (.int (p0 &&& (255 : Int32))), .val (.int (0 : Int32)), .val (.ref b88_y0), .val (.ref b89_y0), .val (.ref b90_y0), .val (.ref b91_y0), .val (.int (0 : Int32))] [(.int (1 : Int32))])) _
          refine XS.goto X100.here hx rfl (pc0 := 158) (pc' := 162) rfl (hb hby at_158) (by decide) (by decide) ?_
          show Steps p.tables e below (T100.setTop (mkF m 162 #[.val (.int p0), .val (.int p1), .val (.int p2), .val (.int p3), .val (.int n4), .val (.ref b55), .val (.int (p0 &&& (255 : Int32))), .val (.int (0 : Int32)), .val (.ref b88_y0), .val (.ref b89_y0), .val (.ref b90_y0), .val (.ref b91_y0), .val (.int (0 : Int32))] [(.int (1 : Int32))])) _
          exact k
        obtain ⟨fs, hr, hrun, hended, hW, hsame⟩ := X100.leave (v := some (.int (1 : Int32))) (fun h => by rw [Bd.returns] at h; cases h)
        refine Go.mk' ⟨_, _, retN X100 hx (t := .boolean) Bd.returns (by simp) (hb hby at_162) hr, hrun, hended, _, _, rfl, ?_, ⟨_, rfl⟩, hW, hsame.mono (by decide) (by decide)⟩
        show Q0 Z p0 p1 p2 p3 h0 n0 _ T100.heap _
        rw [e100]
        exact ⟨rfl, N100⟩
  refine Go.st (V' := T57.setTop (mkF m 22 #[.val (.int p0), .val (.int p1), .val (.int p2), .val (.int p3), .val (.int n4), .val (.ref b55), .unset, .unset, .unset, .unset, .unset, .unset, .unset] [(.int (1 : Int32)), (.int n4)])) (fun t k => ?_) ?_
  · refine XS.iload X57.here hx rfl (hb hby at_19) rfl  ?_
    show Steps p.tables e below (T57.setTop (mkF m 21 #[.val (.int p0), .val (.int p1), .val (.int p2), .val (.int p3), .val (.int n4), .val (.ref b55), .unset, .unset, .unset, .unset, .unset, .unset, .unset] [(.int n4)])) _
    refine XS.iconst X57.here hx rfl (hb hby at_21) ?_
    show Steps p.tables e below (T57.setTop (mkF m 22 #[.val (.int p0), .val (.int p1), .val (.int p2), .val (.int p3), .val (.int n4), .val (.ref b55), .unset, .unset, .unset, .unset, .unset, .unset, .unset] [(.int (1 : Int32)), (.int n4)])) _
    exact k
  by_cases hc102 : (1 : Int32) < n4
  · refine Go.st (V' := T57.setTop (mkF m 30 #[.val (.int p0), .val (.int p1), .val (.int p2), .val (.int p3), .val (.int n4), .val (.ref b55), .unset, .unset, .unset, .unset, .unset, .unset, .unset] [(.int (p1.toInt8.toInt32)), (.int (1 : Int32)), (.ref b55)])) (fun t k => ?_) ?_
    · refine XS.icmpNo X57.here hx rfl (hb hby at_22) rfl (tlt hc102).2.2.2 ?_
      show Steps p.tables e below (T57.setTop (mkF m 25 #[.val (.int p0), .val (.int p1), .val (.int p2), .val (.int p3), .val (.int n4), .val (.ref b55), .unset, .unset, .unset, .unset, .unset, .unset, .unset] [])) _
      refine XS.aload X57.here hx rfl (hb hby at_25) rfl rfl ?_
      show Steps p.tables e below (T57.setTop (mkF m 27 #[.val (.int p0), .val (.int p1), .val (.int p2), .val (.int p3), .val (.int n4), .val (.ref b55), .unset, .unset, .unset, .unset, .unset, .unset, .unset] [(.ref b55)])) _
      refine XS.iconst X57.here hx rfl (hb hby at_27) ?_
      show Steps p.tables e below (T57.setTop (mkF m 28 #[.val (.int p0), .val (.int p1), .val (.int p2), .val (.int p3), .val (.int n4), .val (.ref b55), .unset, .unset, .unset, .unset, .unset, .unset, .unset] [(.int (1 : Int32)), (.ref b55)])) _
      refine XS.iloadN X57.here hx rfl (hb hby at_28) rfl  ?_
      show Steps p.tables e below (T57.setTop (mkF m 29 #[.val (.int p0), .val (.int p1), .val (.int p2), .val (.int p3), .val (.int n4), .val (.ref b55), .unset, .unset, .unset, .unset, .unset, .unset, .unset] [(.int p1), (.int (1 : Int32)), (.ref b55)])) _
      refine XS.i2b X57.here hx rfl (hb hby at_29) rfl ?_
      show Steps p.tables e below (T57.setTop (mkF m 30 #[.val (.int p0), .val (.int p1), .val (.int p2), .val (.int p3), .val (.int n4), .val (.ref b55), .unset, .unset, .unset, .unset, .unset, .unset, .unset] [(.int (p1.toInt8.toInt32)), (.int (1 : Int32)), (.ref b55)])) _
      exact k
    obtain ⟨cl103, Ar103, q103, Sz103, Nn103, Ha103, Ga103⟩ := id (V57)
    obtain ⟨T104, h104, X104, e104, W104, st104⟩ := stB X57 hx hZ e57 Ar103 (j := (1 : Int32)) (inb_of Sz103 ⟨by decide, hc102⟩) (g := (mkF m 30 #[.val (.int p0), .val (.int p1), .val (.int p2), .val (.int p3), .val (.int n4), .val (.ref b55), .unset, .unset, .unset, .unset, .unset, .unset, .unset] [(.int (p1.toInt8.toInt32)), (.int (1 : Int32)), (.ref b55)])) rfl rfl (hb hby at_30)
    have V104 : Arv Z h104 b55 k55 .byte n4 [(.int (nar .byte (p0.toInt8.toInt32))), (.int (nar .byte (p1.toInt8.toInt32))), (.int (0 : Int32)), (.int (0 : Int32))] (.int (0 : Int32)) := Arv.set Ar103 q103 Sz103 Nn103 Ha103 Ga103 (fits_nar_byte _) W104 1 rfl (Nat.le_of_ble_eq_true rfl)
    have O104 := O57.wr W104 g_b55
    have N104 := Fr.snoc X104 N57 g_b55
    refine Go.st (V' := T104.setTop (mkF m 31 #[.val (.int p0), .val (.int p1), .val (.int p2), .val (.int p3), .val (.int n4), .val (.ref b55), .unset, .unset, .unset, .unset, .unset, .unset, .unset] [])) (fun t k => st104 t k) ?_
    refine Go.st (V' := T104.setTop (mkF m 34 #[.val (.int p0), .val (.int p1), .val (.int p2), .val (.int p3), .val (.int n4), .val (.ref b55), .unset, .unset, .unset, .unset, .unset, .unset, .unset] [(.int (2 : Int32)), (.int n4)])) (fun t k => ?_) ?_
    · refine XS.iload X104.here hx rfl (hb hby at_31) rfl  ?_
      show Steps p.tables e below (T104.setTop (mkF m 33 #[.val (.int p0), .val (.int p1), .val (.int p2), .val (.int p3), .val (.int n4), .val (.ref b55), .unset, .unset, .unset, .unset, .unset, .unset, .unset] [(.int n4)])) _
      refine XS.iconst X104.here hx rfl (hb hby at_33) ?_
      show Steps p.tables e below (T104.setTop (mkF m 34 #[.val (.int p0), .val (.int p1), .val (.int p2), .val (.int p3), .val (.int n4), .val (.ref b55), .unset, .unset, .unset, .unset, .unset, .unset, .unset] [(.int (2 : Int32)), (.int n4)])) _
      exact k
    by_cases hc105 : (2 : Int32) < n4
    · refine Go.st (V' := T104.setTop (mkF m 42 #[.val (.int p0), .val (.int p1), .val (.int p2), .val (.int p3), .val (.int n4), .val (.ref b55), .unset, .unset, .unset, .unset, .unset, .unset, .unset] [(.int (p2.toInt8.toInt32)), (.int (2 : Int32)), (.ref b55)])) (fun t k => ?_) ?_
      · refine XS.icmpNo X104.here hx rfl (hb hby at_34) rfl (tlt hc105).2.2.2 ?_
        show Steps p.tables e below (T104.setTop (mkF m 37 #[.val (.int p0), .val (.int p1), .val (.int p2), .val (.int p3), .val (.int n4), .val (.ref b55), .unset, .unset, .unset, .unset, .unset, .unset, .unset] [])) _
        refine XS.aload X104.here hx rfl (hb hby at_37) rfl rfl ?_
        show Steps p.tables e below (T104.setTop (mkF m 39 #[.val (.int p0), .val (.int p1), .val (.int p2), .val (.int p3), .val (.int n4), .val (.ref b55), .unset, .unset, .unset, .unset, .unset, .unset, .unset] [(.ref b55)])) _
        refine XS.iconst X104.here hx rfl (hb hby at_39) ?_
        show Steps p.tables e below (T104.setTop (mkF m 40 #[.val (.int p0), .val (.int p1), .val (.int p2), .val (.int p3), .val (.int n4), .val (.ref b55), .unset, .unset, .unset, .unset, .unset, .unset, .unset] [(.int (2 : Int32)), (.ref b55)])) _
        refine XS.iloadN X104.here hx rfl (hb hby at_40) rfl  ?_
        show Steps p.tables e below (T104.setTop (mkF m 41 #[.val (.int p0), .val (.int p1), .val (.int p2), .val (.int p3), .val (.int n4), .val (.ref b55), .unset, .unset, .unset, .unset, .unset, .unset, .unset] [(.int p2), (.int (2 : Int32)), (.ref b55)])) _
        refine XS.i2b X104.here hx rfl (hb hby at_41) rfl ?_
        show Steps p.tables e below (T104.setTop (mkF m 42 #[.val (.int p0), .val (.int p1), .val (.int p2), .val (.int p3), .val (.int n4), .val (.ref b55), .unset, .unset, .unset, .unset, .unset, .unset, .unset] [(.int (p2.toInt8.toInt32)), (.int (2 : Int32)), (.ref b55)])) _
        exact k
      obtain ⟨cl106, Ar106, q106, Sz106, Nn106, Ha106, Ga106⟩ := id (V104)
      obtain ⟨T107, h107, X107, e107, W107, st107⟩ := stB X104 hx hZ e104 Ar106 (j := (2 : Int32)) (inb_of Sz106 ⟨by decide, hc105⟩) (g := (mkF m 42 #[.val (.int p0), .val (.int p1), .val (.int p2), .val (.int p3), .val (.int n4), .val (.ref b55), .unset, .unset, .unset, .unset, .unset, .unset, .unset] [(.int (p2.toInt8.toInt32)), (.int (2 : Int32)), (.ref b55)])) rfl rfl (hb hby at_42)
      have V107 : Arv Z h107 b55 k55 .byte n4 [(.int (nar .byte (p0.toInt8.toInt32))), (.int (nar .byte (p1.toInt8.toInt32))), (.int (nar .byte (p2.toInt8.toInt32))), (.int (0 : Int32))] (.int (0 : Int32)) := Arv.set Ar106 q106 Sz106 Nn106 Ha106 Ga106 (fits_nar_byte _) W107 2 rfl (Nat.le_of_ble_eq_true rfl)
      have O107 := O104.wr W107 g_b55
      have N107 := Fr.snoc X107 N104 g_b55
      refine Go.st (V' := T107.setTop (mkF m 43 #[.val (.int p0), .val (.int p1), .val (.int p2), .val (.int p3), .val (.int n4), .val (.ref b55), .unset, .unset, .unset, .unset, .unset, .unset, .unset] [])) (fun t k => st107 t k) ?_
      refine Go.st (V' := T107.setTop (mkF m 46 #[.val (.int p0), .val (.int p1), .val (.int p2), .val (.int p3), .val (.int n4), .val (.ref b55), .unset, .unset, .unset, .unset, .unset, .unset, .unset] [(.int (3 : Int32)), (.int n4)])) (fun t k => ?_) ?_
      · refine XS.iload X107.here hx rfl (hb hby at_43) rfl  ?_
        show Steps p.tables e below (T107.setTop (mkF m 45 #[.val (.int p0), .val (.int p1), .val (.int p2), .val (.int p3), .val (.int n4), .val (.ref b55), .unset, .unset, .unset, .unset, .unset, .unset, .unset] [(.int n4)])) _
        refine XS.iconst X107.here hx rfl (hb hby at_45) ?_
        show Steps p.tables e below (T107.setTop (mkF m 46 #[.val (.int p0), .val (.int p1), .val (.int p2), .val (.int p3), .val (.int n4), .val (.ref b55), .unset, .unset, .unset, .unset, .unset, .unset, .unset] [(.int (3 : Int32)), (.int n4)])) _
        exact k
      by_cases hc108 : (3 : Int32) < n4
      · refine Go.st (V' := T107.setTop (mkF m 56 #[.val (.int p0), .val (.int p1), .val (.int p2), .val (.int p3), .val (.int n4), .val (.ref b55), .unset, .unset, .unset, .unset, .unset, .unset, .unset] [(.int ((p1 ^^^ p2).toInt8.toInt32)), (.int (3 : Int32)), (.ref b55)])) (fun t k => ?_) ?_
        · refine XS.icmpNo X107.here hx rfl (hb hby at_46) rfl (tlt hc108).2.2.2 ?_
          show Steps p.tables e below (T107.setTop (mkF m 49 #[.val (.int p0), .val (.int p1), .val (.int p2), .val (.int p3), .val (.int n4), .val (.ref b55), .unset, .unset, .unset, .unset, .unset, .unset, .unset] [])) _
          refine XS.aload X107.here hx rfl (hb hby at_49) rfl rfl ?_
          show Steps p.tables e below (T107.setTop (mkF m 51 #[.val (.int p0), .val (.int p1), .val (.int p2), .val (.int p3), .val (.int n4), .val (.ref b55), .unset, .unset, .unset, .unset, .unset, .unset, .unset] [(.ref b55)])) _
          refine XS.iconst X107.here hx rfl (hb hby at_51) ?_
          show Steps p.tables e below (T107.setTop (mkF m 52 #[.val (.int p0), .val (.int p1), .val (.int p2), .val (.int p3), .val (.int n4), .val (.ref b55), .unset, .unset, .unset, .unset, .unset, .unset, .unset] [(.int (3 : Int32)), (.ref b55)])) _
          refine XS.iloadN X107.here hx rfl (hb hby at_52) rfl  ?_
          show Steps p.tables e below (T107.setTop (mkF m 53 #[.val (.int p0), .val (.int p1), .val (.int p2), .val (.int p3), .val (.int n4), .val (.ref b55), .unset, .unset, .unset, .unset, .unset, .unset, .unset] [(.int p1), (.int (3 : Int32)), (.ref b55)])) _
          refine XS.iloadN X107.here hx rfl (hb hby at_53) rfl  ?_
          show Steps p.tables e below (T107.setTop (mkF m 54 #[.val (.int p0), .val (.int p1), .val (.int p2), .val (.int p3), .val (.int n4), .val (.ref b55), .unset, .unset, .unset, .unset, .unset, .unset, .unset] [(.int p2), (.int p1), (.int (3 : Int32)), (.ref b55)])) _
          refine XS.ixor X107.here hx rfl (hb hby at_54) rfl ?_
          show Steps p.tables e below (T107.setTop (mkF m 55 #[.val (.int p0), .val (.int p1), .val (.int p2), .val (.int p3), .val (.int n4), .val (.ref b55), .unset, .unset, .unset, .unset, .unset, .unset, .unset] [(.int (p1 ^^^ p2)), (.int (3 : Int32)), (.ref b55)])) _
          refine XS.i2b X107.here hx rfl (hb hby at_55) rfl ?_
          show Steps p.tables e below (T107.setTop (mkF m 56 #[.val (.int p0), .val (.int p1), .val (.int p2), .val (.int p3), .val (.int n4), .val (.ref b55), .unset, .unset, .unset, .unset, .unset, .unset, .unset] [(.int ((p1 ^^^ p2).toInt8.toInt32)), (.int (3 : Int32)), (.ref b55)])) _
          exact k
        obtain ⟨cl109, Ar109, q109, Sz109, Nn109, Ha109, Ga109⟩ := id (V107)
        obtain ⟨T110, h110, X110, e110, W110, st110⟩ := stB X107 hx hZ e107 Ar109 (j := (3 : Int32)) (inb_of Sz109 ⟨by decide, hc108⟩) (g := (mkF m 56 #[.val (.int p0), .val (.int p1), .val (.int p2), .val (.int p3), .val (.int n4), .val (.ref b55), .unset, .unset, .unset, .unset, .unset, .unset, .unset] [(.int ((p1 ^^^ p2).toInt8.toInt32)), (.int (3 : Int32)), (.ref b55)])) rfl rfl (hb hby at_56)
        have V110 : Arv Z h110 b55 k55 .byte n4 [(.int (nar .byte (p0.toInt8.toInt32))), (.int (nar .byte (p1.toInt8.toInt32))), (.int (nar .byte (p2.toInt8.toInt32))), (.int (nar .byte ((p1 ^^^ p2).toInt8.toInt32)))] (.int (0 : Int32)) := Arv.set Ar109 q109 Sz109 Nn109 Ha109 Ga109 (fits_nar_byte _) W110 3 rfl (Nat.le_of_ble_eq_true rfl)
        have O110 := O107.wr W110 g_b55
        have N110 := Fr.snoc X110 N107 g_b55
        refine Go.st (V' := T110.setTop (mkF m 57 #[.val (.int p0), .val (.int p1), .val (.int p2), .val (.int p3), .val (.int n4), .val (.ref b55), .unset, .unset, .unset, .unset, .unset, .unset, .unset] [])) (fun t k => st110 t k) ?_
        exact tail _ _ _ _ X110 e110 N110 O110 V110 ((((XA55.wr W57).wr W104).wr W107).wr W110)
      · refine Go.st (V' := T107.setTop (mkF m 57 #[.val (.int p0), .val (.int p1), .val (.int p2), .val (.int p3), .val (.int n4), .val (.ref b55), .unset, .unset, .unset, .unset, .unset, .unset, .unset] [])) (fun t k => ?_) ?_
        · refine XS.icmpYes X107.here hx rfl (pc0 := 46) (pc' := 57) rfl (hb hby at_46) rfl (flt hc108).2.2.2 (by decide) (by decide) ?_
          show Steps p.tables e below (T107.setTop (mkF m 57 #[.val (.int p0), .val (.int p1), .val (.int p2), .val (.int p3), .val (.int n4), .val (.ref b55), .unset, .unset, .unset, .unset, .unset, .unset, .unset] [])) _
          exact k
        exact tail _ _ _ _ X107 e107 N107 O107 V107 (((XA55.wr W57).wr W104).wr W107)
    · refine Go.st (V' := T104.setTop (mkF m 57 #[.val (.int p0), .val (.int p1), .val (.int p2), .val (.int p3), .val (.int n4), .val (.ref b55), .unset, .unset, .unset, .unset, .unset, .unset, .unset] [])) (fun t k => ?_) ?_
      · refine XS.icmpYes X104.here hx rfl (pc0 := 34) (pc' := 43) rfl (hb hby at_34) rfl (flt hc105).2.2.2 (by decide) (by decide) ?_
        show Steps p.tables e below (T104.setTop (mkF m 43 #[.val (.int p0), .val (.int p1), .val (.int p2), .val (.int p3), .val (.int n4), .val (.ref b55), .unset, .unset, .unset, .unset, .unset, .unset, .unset] [])) _
        refine XS.iload X104.here hx rfl (hb hby at_43) rfl  ?_
        show Steps p.tables e below (T104.setTop (mkF m 45 #[.val (.int p0), .val (.int p1), .val (.int p2), .val (.int p3), .val (.int n4), .val (.ref b55), .unset, .unset, .unset, .unset, .unset, .unset, .unset] [(.int n4)])) _
        refine XS.iconst X104.here hx rfl (hb hby at_45) ?_
        show Steps p.tables e below (T104.setTop (mkF m 46 #[.val (.int p0), .val (.int p1), .val (.int p2), .val (.int p3), .val (.int n4), .val (.ref b55), .unset, .unset, .unset, .unset, .unset, .unset, .unset] [(.int (3 : Int32)), (.int n4)])) _
        refine XS.icmpYes X104.here hx rfl (pc0 := 46) (pc' := 57) rfl (hb hby at_46) rfl (flt (own_nl hc105 (by decide))).2.2.2 (by decide) (by decide) ?_
        show Steps p.tables e below (T104.setTop (mkF m 57 #[.val (.int p0), .val (.int p1), .val (.int p2), .val (.int p3), .val (.int n4), .val (.ref b55), .unset, .unset, .unset, .unset, .unset, .unset, .unset] [])) _
        exact k
      exact tail _ _ _ _ X104 e104 N104 O104 V104 ((XA55.wr W57).wr W104)
  · refine Go.st (V' := T57.setTop (mkF m 57 #[.val (.int p0), .val (.int p1), .val (.int p2), .val (.int p3), .val (.int n4), .val (.ref b55), .unset, .unset, .unset, .unset, .unset, .unset, .unset] [])) (fun t k => ?_) ?_
    · refine XS.icmpYes X57.here hx rfl (pc0 := 22) (pc' := 31) rfl (hb hby at_22) rfl (flt hc102).2.2.2 (by decide) (by decide) ?_
      show Steps p.tables e below (T57.setTop (mkF m 31 #[.val (.int p0), .val (.int p1), .val (.int p2), .val (.int p3), .val (.int n4), .val (.ref b55), .unset, .unset, .unset, .unset, .unset, .unset, .unset] [])) _
      refine XS.iload X57.here hx rfl (hb hby at_31) rfl  ?_
      show Steps p.tables e below (T57.setTop (mkF m 33 #[.val (.int p0), .val (.int p1), .val (.int p2), .val (.int p3), .val (.int n4), .val (.ref b55), .unset, .unset, .unset, .unset, .unset, .unset, .unset] [(.int n4)])) _
      refine XS.iconst X57.here hx rfl (hb hby at_33) ?_
      show Steps p.tables e below (T57.setTop (mkF m 34 #[.val (.int p0), .val (.int p1), .val (.int p2), .val (.int p3), .val (.int n4), .val (.ref b55), .unset, .unset, .unset, .unset, .unset, .unset, .unset] [(.int (2 : Int32)), (.int n4)])) _
      refine XS.icmpYes X57.here hx rfl (pc0 := 34) (pc' := 43) rfl (hb hby at_34) rfl (flt (own_nl hc102 (by decide))).2.2.2 (by decide) (by decide) ?_
      show Steps p.tables e below (T57.setTop (mkF m 43 #[.val (.int p0), .val (.int p1), .val (.int p2), .val (.int p3), .val (.int n4), .val (.ref b55), .unset, .unset, .unset, .unset, .unset, .unset, .unset] [])) _
      refine XS.iload X57.here hx rfl (hb hby at_43) rfl  ?_
      show Steps p.tables e below (T57.setTop (mkF m 45 #[.val (.int p0), .val (.int p1), .val (.int p2), .val (.int p3), .val (.int n4), .val (.ref b55), .unset, .unset, .unset, .unset, .unset, .unset, .unset] [(.int n4)])) _
      refine XS.iconst X57.here hx rfl (hb hby at_45) ?_
      show Steps p.tables e below (T57.setTop (mkF m 46 #[.val (.int p0), .val (.int p1), .val (.int p2), .val (.int p3), .val (.int n4), .val (.ref b55), .unset, .unset, .unset, .unset, .unset, .unset, .unset] [(.int (3 : Int32)), (.int n4)])) _
      refine XS.icmpYes X57.here hx rfl (pc0 := 46) (pc' := 57) rfl (hb hby at_46) rfl (flt (own_nl hc102 (by decide))).2.2.2 (by decide) (by decide) ?_
      show Steps p.tables e below (T57.setTop (mkF m 57 #[.val (.int p0), .val (.int p1), .val (.int p2), .val (.int p3), .val (.int n4), .val (.ref b55), .unset, .unset, .unset, .unset, .unset, .unset, .unset] [])) _
      exact k
    exact tail _ _ _ _ X57 e57 N57 O57 V57 (XA55.wr W57)
set_option maxRecDepth 65536 in
set_option maxHeartbeats 40000000 in
theorem comes_1 {Post : Tables → Env → Array Value → State → Outcome → State → Prop} (hpost : ∀ tb e args s v u, (limb_1_1.after args s (.returned v) u = true ∧ limb_1_2.after args s (.returned v) u = true ∧ True) → FrameEnd s (.returned v) u (Jvm.fieldLocs frame_1_writes args s ++ Jvm.arrayLocs frame_1_arrays args s ++ Jvm.staticLocs frame_1_statics s) 32 128 → Post tb e args s (.returned v) u) :
    ArmFor flags0 classFile x code maxLocals ret World_1 tables_1 room_1 Calls_1 rest_1 Pre_1 Post := by
  intro l hfl _ _ p e ha hc hk s m args below hf hA hF happ hP
  obtain ⟨hcalls, hrest, hpre⟩ := hP
  obtain ⟨-, -, -, hnamed, -, -, -, hat⟩ := (Spec.applies_iff hf).mp happ
  obtain ⟨hg, hn⟩ := and_e (Cond.before_iff.mp (show (Jvm.Cond.and given_1 narrow_1).before args s = true from hpre))
  obtain ⟨gg0, hg⟩ := and_e hg
  obtain ⟨gg1, hg⟩ := and_e hg
  obtain ⟨gg2, hg⟩ := and_e hg
  obtain ⟨gg3, hg⟩ := and_e hg
  have gg4 := hg
  obtain ⟨w0, w1, w2, w3, rfl⟩ : ∃ w0 w1 w2 w3 : Value, args = #[w0, w1, w2, w3] := by
    have hs : args.size = 4 := by simpa [Cond.value, given_1] using gg0
    obtain ⟨L⟩ := args
    match L, hs with
    | [w0, w1, w2, w3], _ => exact ⟨w0, w1, w2, w3, rfl⟩
  have hw := fun d (hd : d ∈ tables_1) => atoms_spec (ws := Jvm.Cond.code x code maxLocals ret :: tables_1) hat d (List.mem_cons_of_mem _ hd)
  have hfit : Fit s := fun {y c} hc i hi => by
    obtain ⟨ha, rfl⟩ := Array.getElem?_eq_some_iff.mp hc
    have q := List.all_eq_true.mp ((Array.all_eq_true_iff_forall_mem.mp hF) _ (Array.getElem_mem ha)) i (List.mem_range.mpr hi)
    simpa [Array.getElem?_eq_getElem hi] using q
  obtain ⟨i0, ei0⟩ := is_v gg1
  obtain rfl : w0 = (.int i0) := Option.some.inj ei0
  obtain ⟨i1, ei1⟩ := is_v gg2
  obtain rfl : w1 = (.int i1) := Option.some.inj ei1
  obtain ⟨i2, ei2⟩ := is_v gg3
  obtain rfl : w2 = (.int i2) := Option.some.inj ei2
  obtain ⟨i3, ei3⟩ := is_v gg4
  obtain rfl : w3 = (.int i3) := Option.some.inj ei3
  obtain ⟨n, o, h1, h2, h3, _, L, rfl, ⟨rfl, N⟩, hq⟩ := rm0 l s _ hw tables_1 i0 i1 i2 i3 s.heap s.heap.size (Old.start s) p e ha hc hk s m _ below hf ((Spec.applies_iff_loose hf).mp happ).1 ⟨rfl, State.Warmed39.refl s, rfl⟩ trivial
  refine ⟨n, _, h1, h2, h3, hpost _ _ _ _ _ _ ⟨Cond.after_iff.mpr rfl, Cond.after_iff.mpr (eq_i res_at (Term.int_eval (1)) rfl), trivial⟩ ⟨hq.1, hq.2.1, (hq.2.2.sift fun y hy => Or.inr (N y hy)).mono (by decide) (by decide)⟩⟩
theorem main_1_1 : Claimed_1_1 := comes_1 fun _ _ _ _ _ _ h hF => ⟨h.1, hF⟩
theorem main_1_2 : Claimed_1_2 := comes_1 fun _ _ _ _ _ _ h hF => ⟨h.2.1, hF⟩
end Jvm.Pilot.@@N@@
namespace Jvm.Pilot.@@N@@
open Jvm Jvm.ClassFile Sem Op Lib Jvm.Free Jvm.Stand Jvm.Pilot.@@N@@.Jvm.D
/-! MADE BY PROGRAM (witnessworld.py) out of the Statement's table words and the real class files: 11 classes; the members and pool entries that the words name. The judged class is class 1, her method 1. -/
namespace start1
open Jvm.ClassFile
def u (s : String) : CpInfo := .utf8 (stringToUtf16 s)
/-- a pool by its gaps: so many unusable entries, then the entry; so many at the end -/
def gap : Nat → List CpInfo → List CpInfo
  | 0, r => r
  | n + 1, r => .unusable :: gap n r
def poolList (es : List (Nat × CpInfo)) (last : Nat) : List CpInfo := es.foldr (fun e r => gap e.1 (e.2 :: r)) (gap last [])
def pool (es : List (Nat × CpInfo)) (last : Nat) : Array CpInfo := ⟨poolList es last⟩
def fileOf (pool : Array CpInfo) (this : Nat) (attrs : Array Attribute := #[]) (ms : Array MethodInfo := #[]) (fl : Nat := 33) (sup : Nat := 0) (ifs : Array Nat := #[]) (fds : Array FieldInfo := #[]) : ClassFile where
  minorVersion := 0
  majorVersion := 65
  constantPool := pool
  accessFlags := fl
  thisClass := this
  superClass := sup
  interfaces := ifs
  fields := fds
  methods := ms
  attributes := attrs
def plain (name : String) (sup : Option ClassId) : Class where
  name := name
  kind := .ordinary
  loader := none
  accessFlags := 33
  super := sup
  interfaces := #[]
  cf := none
  fields := #[]
  methods := #[]
  instanceTypes := #[]
  staticTypes := #[]
  resolved := #[]
  callSites := []
  init := .initialized
  statics := none
  mirror := none

def pool0 : Array CpInfo := pool [(5, u "<init>"), (0, u "()V"), (1, .class_ 10), (1, u "java/lang/Object"), (85, u "clone"), (0, u "()Ljava/lang/Object;")] 26

def k0m0 : Method := { name := "<init>", desc := "()V", sig := { parameters := [], returnType := none }, accessFlags := 1, code := none }
def k0m1 : Method := { name := "clone", desc := "()Ljava/lang/Object;", sig := { parameters := [], returnType := some (.object "java/lang/Object") }, accessFlags := 260, code := none }
/-- java/lang/Object -/
def k0 : Class := { plain "java/lang/Object" none with
  accessFlags := 33
  interfaces := #[]
  cf := some (fileOf pool0 8 #[] #[{ accessFlags := 1, nameIndex := 5, descriptorIndex := 6, attributes := #[] }, { accessFlags := 260, nameIndex := 96, descriptorIndex := 97, attributes := #[] }] 33 0 #[] #[])
  fields := #[]
  methods := #[k0m0, k0m1]
  instanceTypes := #[]
  staticTypes := #[]
  resolved := Array.replicate 124 none
  statics := none }

def pool1 : Array CpInfo := pool [(2, .class_ 4), (1, u "java/lang/Object"), (0, u "<init>"), (0, u "()V"), (0, .methodref 8 9), (0, .class_ 10), (0, .nameAndType 11 12), (0, u "com/example/rooted_kinds/rootedkinds/storage/Rows"), (0, u "entity"), (0, u "([B)[B"), (0, .methodref 8 14), (0, .nameAndType 15 12), (0, u "propertyNames"), (0, .methodref 8 17), (0, .nameAndType 18 12), (0, u "counts"), (0, .methodref 8 20), (0, .nameAndType 21 12), (0, u "groupVersion"), (0, .methodref 8 23), (0, .nameAndType 24 25), (0, u "holdsRecord"), (0, u "([B)Z"), (0, .class_ 27), (0, u "com/example/rooted_kinds/rootedkinds/storage/RowsHoldsRecordPinLaw"), (2, u "law"), (0, u "(IIII)Z")] 5

def k1m0 : Method := { name := "<init>", desc := "()V", sig := { parameters := [], returnType := none }, accessFlags := 2, code := none }
def k1c1 : Code := { maxStack := 4, maxLocals := 13, code := code, exceptionTable := #[], attributes := #[] }
def k1m1 : Method := { name := "law", desc := "(IIII)Z", sig := { parameters := [.int, .int, .int, .int], returnType := some .boolean }, accessFlags := 9, code := some k1c1 }
/-- com/example/rooted_kinds/rootedkinds/storage/RowsHoldsRecordPinLaw -/
def k1 : Class := { plain "com/example/rooted_kinds/rootedkinds/storage/RowsHoldsRecordPinLaw" (some 0) with
  accessFlags := 49
  interfaces := #[]
  cf := some (fileOf pool1 26 #[] #[{ accessFlags := 2, nameIndex := 5, descriptorIndex := 6, attributes := #[] }, { accessFlags := 9, nameIndex := 30, descriptorIndex := 31, attributes := #[] }] 49 2 #[] #[])
  fields := #[]
  methods := #[k1m0, k1m1]
  instanceTypes := #[]
  staticTypes := #[]
  resolved := Array.replicate 37 none
  statics := none }

def pool2 : Array CpInfo := pool [(2, .class_ 4), (1, u "java/lang/Object"), (0, u "<init>"), (0, u "()V"), (7, .class_ 16), (1, u "com/example/rooted_kinds/rootedkinds/storage/Rows"), (0, u "entity"), (0, u "([B)[B"), (0, .class_ 20), (0, u "[B"), (0, .methodref 14 22), (0, .nameAndType 23 24), (0, u "join"), (0, u "([[B)[B"), (2, u "groupVersion"), (15, .methodref 14 44), (0, .nameAndType 45 46), (0, u "renamed"), (0, u "(B[B)[B"), (0, .methodref 19 48), (0, .nameAndType 49 50), (0, u "clone"), (0, u "()Ljava/lang/Object;"), (28, .methodref 80 81), (0, .class_ 82), (0, .nameAndType 83 84), (0, u "java/lang/System"), (0, u "arraycopy"), (0, u "(Ljava/lang/Object;ILjava/lang/Object;II)V"), (32, u "NOTHING"), (0, u "FACT"), (0, u "B"), (2, u "ENTITY"), (1, u "KIND_INDEX"), (1, u "PROPERTY_INDEX"), (1, u "GROUP_VERSION"), (1, u "ID_INDEX"), (1, u "PROPERTY_NAME"), (1, u "PROPERTY_COUNT"), (1, u "KIND_COUNT"), (4, u "propertyNames"), (0, u "counts"), (12, u "holdsRecord"), (0, u "([B)Z")] 23

def k2m0 : Method := { name := "<init>", desc := "()V", sig := { parameters := [], returnType := none }, accessFlags := 2, code := none }
def k2c1 : Code := { maxStack := 7, maxLocals := 1, code := prog_132_method_3_code, exceptionTable := #[], attributes := #[] }
def k2m1 : Method := { name := "entity", desc := "([B)[B", sig := { parameters := [(.array .byte)], returnType := some (.array .byte) }, accessFlags := 8, code := some k2c1 }
def k2c2 : Code := { maxStack := 7, maxLocals := 1, code := prog_132_method_5_code, exceptionTable := #[], attributes := #[] }
def k2m2 : Method := { name := "groupVersion", desc := "([B)[B", sig := { parameters := [(.array .byte)], returnType := some (.array .byte) }, accessFlags := 8, code := some k2c2 }
def k2c3 : Code := { maxStack := 2, maxLocals := 1, code := prog_132_method_11_code, exceptionTable := #[], attributes := #[] }
def k2m3 : Method := { name := "propertyNames", desc := "([B)[B", sig := { parameters := [(.array .byte)], returnType := some (.array .byte) }, accessFlags := 8, code := some k2c3 }
def k2c4 : Code := { maxStack := 2, maxLocals := 1, code := prog_132_method_12_code, exceptionTable := #[], attributes := #[] }
def k2m4 : Method := { name := "counts", desc := "([B)[B", sig := { parameters := [(.array .byte)], returnType := some (.array .byte) }, accessFlags := 8, code := some k2c4 }
def k2c5 : Code := { maxStack := 3, maxLocals := 3, code := prog_132_method_13_code, exceptionTable := #[], attributes := #[] }
def k2m5 : Method := { name := "renamed", desc := "(B[B)[B", sig := { parameters := [.byte, (.array .byte)], returnType := some (.array .byte) }, accessFlags := 10, code := some k2c5 }
def k2c6 : Code := { maxStack := 5, maxLocals := 8, code := prog_132_method_16_code, exceptionTable := #[], attributes := #[] }
def k2m6 : Method := { name := "join", desc := "([[B)[B", sig := { parameters := [(.array (.array .byte))], returnType := some (.array .byte) }, accessFlags := 136, code := some k2c6 }
def k2c7 : Code := { maxStack := 2, maxLocals := 1, code := prog_132_method_20_code, exceptionTable := #[], attributes := #[] }
def k2m7 : Method := { name := "holdsRecord", desc := "([B)Z", sig := { parameters := [(.array .byte)], returnType := some .boolean }, accessFlags := 8, code := some k2c7 }
/-- com/example/rooted_kinds/rootedkinds/storage/Rows -/
def k2 : Class := { plain "com/example/rooted_kinds/rootedkinds/storage/Rows" (some 0) with
  accessFlags := 48
  interfaces := #[]
  cf := some (fileOf pool2 14 #[] #[{ accessFlags := 2, nameIndex := 5, descriptorIndex := 6, attributes := #[] }, { accessFlags := 8, nameIndex := 17, descriptorIndex := 18, attributes := #[] }, { accessFlags := 8, nameIndex := 27, descriptorIndex := 18, attributes := #[] }, { accessFlags := 8, nameIndex := 141, descriptorIndex := 18, attributes := #[] }, { accessFlags := 8, nameIndex := 142, descriptorIndex := 18, attributes := #[] }, { accessFlags := 10, nameIndex := 45, descriptorIndex := 46, attributes := #[] }, { accessFlags := 136, nameIndex := 23, descriptorIndex := 24, attributes := #[] }, { accessFlags := 8, nameIndex := 155, descriptorIndex := 156, attributes := #[] }] 48 2 #[] #[{ accessFlags := 24, nameIndex := 118, descriptorIndex := 119, attributes := #[] }, { accessFlags := 24, nameIndex := 122, descriptorIndex := 119, attributes := #[] }, { accessFlags := 24, nameIndex := 124, descriptorIndex := 119, attributes := #[] }, { accessFlags := 24, nameIndex := 126, descriptorIndex := 119, attributes := #[] }, { accessFlags := 24, nameIndex := 128, descriptorIndex := 119, attributes := #[] }, { accessFlags := 24, nameIndex := 130, descriptorIndex := 119, attributes := #[] }, { accessFlags := 24, nameIndex := 132, descriptorIndex := 119, attributes := #[] }, { accessFlags := 24, nameIndex := 134, descriptorIndex := 119, attributes := #[] }, { accessFlags := 24, nameIndex := 136, descriptorIndex := 119, attributes := #[] }, { accessFlags := 24, nameIndex := 117, descriptorIndex := 20, attributes := #[] }])
  fields := #[{ name := "FACT", type := .byte, accessFlags := 24, slot := 0, constantValue := 0 }, { name := "ENTITY", type := .byte, accessFlags := 24, slot := 1, constantValue := 0 }, { name := "KIND_INDEX", type := .byte, accessFlags := 24, slot := 2, constantValue := 0 }, { name := "PROPERTY_INDEX", type := .byte, accessFlags := 24, slot := 3, constantValue := 0 }, { name := "GROUP_VERSION", type := .byte, accessFlags := 24, slot := 4, constantValue := 0 }, { name := "ID_INDEX", type := .byte, accessFlags := 24, slot := 5, constantValue := 0 }, { name := "PROPERTY_NAME", type := .byte, accessFlags := 24, slot := 6, constantValue := 0 }, { name := "PROPERTY_COUNT", type := .byte, accessFlags := 24, slot := 7, constantValue := 0 }, { name := "KIND_COUNT", type := .byte, accessFlags := 24, slot := 8, constantValue := 0 }, { name := "NOTHING", type := (.array .byte), accessFlags := 24, slot := 9, constantValue := 0 }]
  methods := #[k2m0, k2m1, k2m2, k2m3, k2m4, k2m5, k2m6, k2m7]
  instanceTypes := #[]
  staticTypes := #[.byte, .byte, .byte, .byte, .byte, .byte, .byte, .byte, .byte, (.array .byte)]
  resolved := Array.replicate 180 none
  statics := none }

def pool3 : Array CpInfo := pool [(2, .class_ 4), (1, u "java/lang/Object"), (0, u "<init>"), (0, u "()V"), (1, .class_ 10), (1, u "java/lang/System"), (0, u "allowSecurityManager"), (0, u "I"), (16, u "cons"), (0, u "Ljava/io/Console;"), (77, .class_ 110), (1, u "java/lang/System$CallersHolder"), (43, u "initialErrStream"), (0, u "Ljava/io/PrintStream;"), (19, u "security"), (0, u "Ljava/lang/SecurityManager;"), (31, .class_ 209), (0, u "java/lang/System$1"), (7, u "props"), (0, u "Ljava/util/Properties;"), (2, u "lineSeparator"), (0, u "Ljava/lang/String;"), (96, .class_ 321), (1, u "java/lang/System$LoggerFinder"), (5, .class_ 328), (0, u "java/lang/System$Logger"), (67, u "err"), (2, u "out"), (91, u "notSupportedJnuEncoding"), (15, u "in"), (17, u "initialIn"), (0, u "Ljava/io/InputStream;"), (35, u "bootLayer"), (0, u "Ljava/lang/ModuleLayer;"), (99, .class_ 664), (0, u "java/lang/System$2"), (9, u "NEVER"), (2, u "MAYBE"), (49, u "arraycopy"), (0, u "(Ljava/lang/Object;ILjava/lang/Object;II)V"), (72, .class_ 802), (0, u "java/lang/System$Logger$Level")] 31

def k3m0 : Method := { name := "<init>", desc := "()V", sig := { parameters := [], returnType := none }, accessFlags := 2, code := none }
def k3m1 : Method := { name := "arraycopy", desc := "(Ljava/lang/Object;ILjava/lang/Object;II)V", sig := { parameters := [(.object "java/lang/Object"), .int, (.object "java/lang/Object"), .int, .int], returnType := none }, accessFlags := 265, code := none }
/-- java/lang/System -/
def k3 : Class := { plain "java/lang/System" (some 0) with
  accessFlags := 49
  interfaces := #[]
  cf := some (fileOf pool3 8 #[.nestMembers #[319, 327, 801, 108, 663, 208]] #[{ accessFlags := 2, nameIndex := 5, descriptorIndex := 6, attributes := #[] }, { accessFlags := 265, nameIndex := 727, descriptorIndex := 728, attributes := #[] }] 49 2 #[] #[{ accessFlags := 25, nameIndex := 507, descriptorIndex := 526, attributes := #[] }, { accessFlags := 25, nameIndex := 399, descriptorIndex := 155, attributes := #[] }, { accessFlags := 25, nameIndex := 396, descriptorIndex := 155, attributes := #[] }, { accessFlags := 10, nameIndex := 525, descriptorIndex := 526, attributes := #[] }, { accessFlags := 26, nameIndex := 674, descriptorIndex := 12, attributes := #[] }, { accessFlags := 26, nameIndex := 677, descriptorIndex := 12, attributes := #[] }, { accessFlags := 10, nameIndex := 11, descriptorIndex := 12, attributes := #[] }, { accessFlags := 74, nameIndex := 175, descriptorIndex := 176, attributes := #[] }, { accessFlags := 10, nameIndex := 491, descriptorIndex := 222, attributes := #[] }, { accessFlags := 74, nameIndex := 29, descriptorIndex := 30, attributes := #[] }, { accessFlags := 74, nameIndex := 154, descriptorIndex := 155, attributes := #[] }, { accessFlags := 10, nameIndex := 217, descriptorIndex := 218, attributes := #[] }, { accessFlags := 10, nameIndex := 221, descriptorIndex := 222, attributes := #[] }, { accessFlags := 8, nameIndex := 562, descriptorIndex := 563, attributes := #[] }])
  fields := #[{ name := "in", type := (.object "java/io/InputStream"), accessFlags := 25, slot := 0, constantValue := 0 }, { name := "out", type := (.object "java/io/PrintStream"), accessFlags := 25, slot := 1, constantValue := 0 }, { name := "err", type := (.object "java/io/PrintStream"), accessFlags := 25, slot := 2, constantValue := 0 }, { name := "initialIn", type := (.object "java/io/InputStream"), accessFlags := 10, slot := 3, constantValue := 0 }, { name := "NEVER", type := .int, accessFlags := 26, slot := 4, constantValue := 0 }, { name := "MAYBE", type := .int, accessFlags := 26, slot := 5, constantValue := 0 }, { name := "allowSecurityManager", type := .int, accessFlags := 10, slot := 6, constantValue := 0 }, { name := "security", type := (.object "java/lang/SecurityManager"), accessFlags := 74, slot := 7, constantValue := 0 }, { name := "notSupportedJnuEncoding", type := (.object "java/lang/String"), accessFlags := 10, slot := 8, constantValue := 0 }, { name := "cons", type := (.object "java/io/Console"), accessFlags := 74, slot := 9, constantValue := 0 }, { name := "initialErrStream", type := (.object "java/io/PrintStream"), accessFlags := 74, slot := 10, constantValue := 0 }, { name := "props", type := (.object "java/util/Properties"), accessFlags := 10, slot := 11, constantValue := 0 }, { name := "lineSeparator", type := (.object "java/lang/String"), accessFlags := 10, slot := 12, constantValue := 0 }, { name := "bootLayer", type := (.object "java/lang/ModuleLayer"), accessFlags := 8, slot := 13, constantValue := 0 }]
  methods := #[k3m0, k3m1]
  instanceTypes := #[]
  staticTypes := #[(.object "java/io/InputStream"), (.object "java/io/PrintStream"), (.object "java/io/PrintStream"), (.object "java/io/InputStream"), .int, .int, .int, (.object "java/lang/SecurityManager"), (.object "java/lang/String"), (.object "java/io/Console"), (.object "java/io/PrintStream"), (.object "java/util/Properties"), (.object "java/lang/String"), (.object "java/lang/ModuleLayer")]
  resolved := Array.replicate 834 none
  statics := none }

def pool4 : Array CpInfo := pool [(1, .class_ 2), (0, u "java/lang/Cloneable"), (0, .class_ 4), (0, u "java/lang/Object")] 2

/-- java/lang/Cloneable -/
def k4 : Class := { plain "java/lang/Cloneable" (some 0) with
  accessFlags := 1537
  interfaces := #[]
  cf := some (fileOf pool4 1 #[] #[] 1537 3 #[] #[])
  fields := #[]
  methods := #[]
  instanceTypes := #[]
  staticTypes := #[]
  resolved := Array.replicate 7 none
  statics := none }

def pool5 : Array CpInfo := pool [(1, u "java/io/Serializable"), (0, .class_ 1), (0, u "java/lang/Object"), (0, .class_ 3)] 3

/-- java/io/Serializable -/
def k5 : Class := { plain "java/io/Serializable" (some 0) with
  accessFlags := 1537
  interfaces := #[]
  cf := some (fileOf pool5 2 #[] #[] 1537 4 #[] #[])
  fields := #[]
  methods := #[]
  instanceTypes := #[]
  staticTypes := #[]
  resolved := Array.replicate 8 none
  statics := none }

/-- the primitive byte -/
def k6 : Class := { plain "byte" none with kind := .primitive 'B', accessFlags := 0x411 }
/-- [B -/
def k7 : Class := { plain "[B" (some 0) with kind := .array 6 .byte, interfaces := #[4, 5], accessFlags := 1041 }

/-- the primitive int -/
def k8 : Class := { plain "int" none with kind := .primitive 'I', accessFlags := 0x411 }
/-- [I -/
def k9 : Class := { plain "[I" (some 0) with kind := .array 8 .int, interfaces := #[4, 5], accessFlags := 1041 }

/-- [[B -/
def k10 : Class := { plain "[[B" (some 0) with kind := .array 7 (.array .byte), interfaces := #[4, 5], accessFlags := 1041 }

def heap : Heap := #[{ cls := 10, slots := #[.null], vm := .none }]
def classes : Array Class := #[k0, k1, k2, k3, k4, k5, k6, k7, k8, k9, k10]
def interned : List (Array UInt16 × Addr) := []
def slotsUsed : Nat := 1
def theMethod : MethodId := ⟨1, 1⟩
def args0 : Array Value := #[.int 5, .int 7, .int 3, .int 2]
def aboutOver (below : List Frame) : State where
  vm := { classes := classes, interned := interned.toArray }
  heap := heap
  slotsUsed := slotsUsed
  threads := #[{ frames := .invoking theMethod args0 :: below }]
def below0 : List Frame := [.native { method := ⟨0, 0⟩, args := #[] }]
def about1 : State := aboutOver below0
def p0 : Program := .bare "" "" ""
def e0 : Env := launch0.env 0 0 0
theorem w_frames : about1.frames = Frame.invoking theMethod args0 :: below0 := rfl
set_option maxRecDepth 65536 in
theorem w_args : argsFit about1.vm theMethod args0 = true := by decide +kernel
set_option maxRecDepth 65536 in
theorem w_heap : heapFits about1 = true := by decide +kernel
set_option maxRecDepth 65536 in
theorem w_runnable : about1.curStatus? = some .runnable := by decide +kernel
set_option maxRecDepth 65536 in
theorem w_alone : about1.alone = true := by decide +kernel
set_option maxRecDepth 65536 in
theorem w_named : about1.methodNamed? x = some theMethod := by decide +kernel
set_option maxRecDepth 65536 in
theorem w_hears : about1.hears theMethod below0 = true := by decide +kernel
set_option maxRecDepth 65536 in
theorem w_ripe : about1.ripe theMethod args0 below0 = true := by decide +kernel
theorem w_running : about1.status = .running := rfl
set_option maxRecDepth 65536 in
theorem w_room : about1.hasRoom e0.platform room_1 = true :=
  launch0.hasRoom_least _ room_1 (by decide +kernel) (by decide +kernel) (by decide +kernel) (by decide +kernel) (by decide +kernel) (by decide +kernel)
theorem allAtoms_all (ts : List Jvm.Cond) (a : Array Jvm.Value) (st : Jvm.State) : (allAtoms ts).before a st = ts.all (fun c => c.before a st) := by
  induction ts with
  | nil => rfl
  | cons c t ih =>
    show (Jvm.Cond.and c (allAtoms t)).before a st = _
    rw [Jvm.Cond.before_and, ih, List.all_cons]
def words1 : List Jvm.Cond := Jvm.Cond.code x code maxLocals ret :: tables_1
/-- a 'code' word, met by the world's own term for the bytes: nothing is compared byte by byte -/
theorem code_word {y : MethodName} {bytes : ByteArray} {mx : Nat} {rt : Option FieldType} {a : Array Value} {s : State} {m : MethodId} {meth : Method} {c : Code} (h1 : s.methodNamed? y = some m) (h2 : s.vm.method? m = some meth) (h3 : meth.code = some c) (h4 : c.code = bytes)
    (h5 : (c.maxLocals == mx && c.exceptionTable.isEmpty && decide (c.maxStack ≤ mostOperands) && decide (meth.sig.returnType = rt) && !meth.locks && decide (parseMethodDescriptor y.desc = some meth.sig)) = true) : (Jvm.Cond.code y bytes mx rt).before a s = true := by
  simp only [Bool.and_eq_true, beq_iff_eq, Bool.not_eq_true', decide_eq_true_eq] at h5
  obtain ⟨⟨⟨⟨⟨g1, g2⟩, g3⟩, g4⟩, g5⟩, g6⟩ := h5
  simp [Cond.before, Cond.holds, Cond.value, h1, h2, h3, h4, g1, g2, g3, g4, g5, g6]
def isCode : Jvm.Cond → Bool
  | .code _ _ _ _ => true
  | _ => false
theorem all_split {L : List Jvm.Cond} {P : Jvm.Cond → Bool} (h1 : L.all (fun c => isCode c || P c) = true) (h2 : ∀ c ∈ L.filter isCode, P c = true) : L.all P = true := by
  refine List.all_eq_true.mpr fun c hc => ?_
  have h := List.all_eq_true.mp h1 c hc
  rcases Bool.eq_false_or_eq_true (isCode c) with hi | hi
  · exact h2 c (List.mem_filter.mpr ⟨hc, hi⟩)
  · simpa [hi] using h
set_option maxRecDepth 65536 in
theorem w_c0 : (Jvm.Cond.code x code maxLocals ret).before args0 about1 = true := code_word (m := ⟨1, 1⟩) (meth := k1m1) (c := k1c1) (by decide +kernel) rfl rfl rfl (by decide +kernel)
set_option maxRecDepth 65536 in
theorem w_c1 : (Jvm.Cond.code ({ cls := "com/example/rooted_kinds/rootedkinds/storage/Rows", name := "entity", desc := "([B)[B" } : Jvm.MethodName) prog_132_method_3_code (1 : Nat) (Option.some (Jvm.ClassFile.FieldType.array Jvm.ClassFile.FieldType.byte))).before args0 about1 = true := code_word (m := ⟨2, 1⟩) (meth := k2m1) (c := k2c1) (by decide +kernel) rfl rfl rfl (by decide +kernel)
set_option maxRecDepth 65536 in
theorem w_c2 : (Jvm.Cond.code ({ cls := "com/example/rooted_kinds/rootedkinds/storage/Rows", name := "join", desc := "([[B)[B" } : Jvm.MethodName) prog_132_method_16_code (8 : Nat) (Option.some (Jvm.ClassFile.FieldType.array Jvm.ClassFile.FieldType.byte))).before args0 about1 = true := code_word (m := ⟨2, 6⟩) (meth := k2m6) (c := k2c6) (by decide +kernel) rfl rfl rfl (by decide +kernel)
set_option maxRecDepth 65536 in
theorem w_c3 : (Jvm.Cond.code ({ cls := "com/example/rooted_kinds/rootedkinds/storage/Rows", name := "propertyNames", desc := "([B)[B" } : Jvm.MethodName) prog_132_method_11_code (1 : Nat) (Option.some (Jvm.ClassFile.FieldType.array Jvm.ClassFile.FieldType.byte))).before args0 about1 = true := code_word (m := ⟨2, 3⟩) (meth := k2m3) (c := k2c3) (by decide +kernel) rfl rfl rfl (by decide +kernel)
set_option maxRecDepth 65536 in
theorem w_c4 : (Jvm.Cond.code ({ cls := "com/example/rooted_kinds/rootedkinds/storage/Rows", name := "renamed", desc := "(B[B)[B" } : Jvm.MethodName) prog_132_method_13_code (3 : Nat) (Option.some (Jvm.ClassFile.FieldType.array Jvm.ClassFile.FieldType.byte))).before args0 about1 = true := code_word (m := ⟨2, 5⟩) (meth := k2m5) (c := k2c5) (by decide +kernel) rfl rfl rfl (by decide +kernel)
set_option maxRecDepth 65536 in
theorem w_c5 : (Jvm.Cond.code ({ cls := "com/example/rooted_kinds/rootedkinds/storage/Rows", name := "counts", desc := "([B)[B" } : Jvm.MethodName) prog_132_method_12_code (1 : Nat) (Option.some (Jvm.ClassFile.FieldType.array Jvm.ClassFile.FieldType.byte))).before args0 about1 = true := code_word (m := ⟨2, 4⟩) (meth := k2m4) (c := k2c4) (by decide +kernel) rfl rfl rfl (by decide +kernel)
set_option maxRecDepth 65536 in
theorem w_c6 : (Jvm.Cond.code ({ cls := "com/example/rooted_kinds/rootedkinds/storage/Rows", name := "groupVersion", desc := "([B)[B" } : Jvm.MethodName) prog_132_method_5_code (1 : Nat) (Option.some (Jvm.ClassFile.FieldType.array Jvm.ClassFile.FieldType.byte))).before args0 about1 = true := code_word (m := ⟨2, 2⟩) (meth := k2m2) (c := k2c2) (by decide +kernel) rfl rfl rfl (by decide +kernel)
set_option maxRecDepth 65536 in
theorem w_c7 : (Jvm.Cond.code ({ cls := "com/example/rooted_kinds/rootedkinds/storage/Rows", name := "holdsRecord", desc := "([B)Z" } : Jvm.MethodName) prog_132_method_20_code (1 : Nat) (Option.some Jvm.ClassFile.FieldType.boolean)).before args0 about1 = true := code_word (m := ⟨2, 7⟩) (meth := k2m7) (c := k2c7) (by decide +kernel) rfl rfl rfl (by decide +kernel)
def codes1 : List Jvm.Cond := [Jvm.Cond.code x code maxLocals ret, Jvm.Cond.code ({ cls := "com/example/rooted_kinds/rootedkinds/storage/Rows", name := "entity", desc := "([B)[B" } : Jvm.MethodName) prog_132_method_3_code (1 : Nat) (Option.some (Jvm.ClassFile.FieldType.array Jvm.ClassFile.FieldType.byte)), Jvm.Cond.code ({ cls := "com/example/rooted_kinds/rootedkinds/storage/Rows", name := "join", desc := "([[B)[B" } : Jvm.MethodName) prog_132_method_16_code (8 : Nat) (Option.some (Jvm.ClassFile.FieldType.array Jvm.ClassFile.FieldType.byte)), Jvm.Cond.code ({ cls := "com/example/rooted_kinds/rootedkinds/storage/Rows", name := "propertyNames", desc := "([B)[B" } : Jvm.MethodName) prog_132_method_11_code (1 : Nat) (Option.some (Jvm.ClassFile.FieldType.array Jvm.ClassFile.FieldType.byte)), Jvm.Cond.code ({ cls := "com/example/rooted_kinds/rootedkinds/storage/Rows", name := "renamed", desc := "(B[B)[B" } : Jvm.MethodName) prog_132_method_13_code (3 : Nat) (Option.some (Jvm.ClassFile.FieldType.array Jvm.ClassFile.FieldType.byte)), Jvm.Cond.code ({ cls := "com/example/rooted_kinds/rootedkinds/storage/Rows", name := "counts", desc := "([B)[B" } : Jvm.MethodName) prog_132_method_12_code (1 : Nat) (Option.some (Jvm.ClassFile.FieldType.array Jvm.ClassFile.FieldType.byte)), Jvm.Cond.code ({ cls := "com/example/rooted_kinds/rootedkinds/storage/Rows", name := "groupVersion", desc := "([B)[B" } : Jvm.MethodName) prog_132_method_5_code (1 : Nat) (Option.some (Jvm.ClassFile.FieldType.array Jvm.ClassFile.FieldType.byte)), Jvm.Cond.code ({ cls := "com/example/rooted_kinds/rootedkinds/storage/Rows", name := "holdsRecord", desc := "([B)Z" } : Jvm.MethodName) prog_132_method_20_code (1 : Nat) (Option.some Jvm.ClassFile.FieldType.boolean)]
set_option maxRecDepth 65536 in
theorem codes_eq : words1.filter isCode = codes1 := rfl
theorem w_codes : ∀ c ∈ words1.filter isCode, c.before args0 about1 = true := by
  rw [codes_eq]
  intro c hc
  simp only [codes1, List.mem_cons, List.not_mem_nil, or_false] at hc
  rcases hc with rfl | rfl | rfl | rfl | rfl | rfl | rfl | rfl
  · exact w_c0
  · exact w_c1
  · exact w_c2
  · exact w_c3
  · exact w_c4
  · exact w_c5
  · exact w_c6
  · exact w_c7
set_option maxRecDepth 65536 in
theorem w_t1 : (words1.take 24).all (fun c => isCode c || c.before args0 about1) = true := by decide +kernel
set_option maxRecDepth 65536 in
theorem w_t2 : (words1.drop 24).all (fun c => isCode c || c.before args0 about1) = true := by decide +kernel
theorem w_tables : (allAtoms (Jvm.Cond.code x code maxLocals ret :: tables_1)).before args0 about1 = true := by
  rw [allAtoms_all]
  show words1.all (fun c => c.before args0 about1) = true
  refine all_split ?_ w_codes
  rw [← List.take_append_drop 24 words1, List.all_append, w_t1, w_t2]
  rfl
set_option maxRecDepth 65536 in
theorem w_case : (Jvm.Cond.and given_1 narrow_1).before args0 about1 = true := by decide +kernel
theorem w_applies : (headSpec (Jvm.Cond.code x code maxLocals ret :: tables_1) room_1).applies x e0.platform about1 = true :=
  (Spec.applies_iff w_frames).mpr ⟨w_running, w_runnable, w_alone, w_named, w_hears, w_ripe, w_room, w_tables⟩
theorem atStart : AtStart classFile x code maxLocals ret World_1 tables_1 room_1 Calls_1 rest_1 Pre_1 launch0 p0 e0 about1 theMethod args0 below0 :=
  ⟨lists_1, trivial, launch0.admits_env _ _ _, launch0.least_env, fairChoices_fair.cas, fairChoices_fair.clock, w_frames, w_args, w_heap, w_applies, trivial, trivial, w_case⟩
end start1
theorem witness_1 : WitnessClaimed_1 := ⟨start1.p0, start1.e0, start1.about1, start1.theMethod, start1.args0, start1.below0, start1.atStart⟩
end Jvm.Pilot.@@N@@
